import PyProof.Rows.All
import Wide.All
import OpenK.AllK
import Wide.FinOn
import Lean
import PySem.Challenge.RW_fk5013_02
set_option Elab.async false
section
open PySem PySem.W PyProof.Rows
namespace Mine
set_option maxRecDepth 100000 in
set_option maxHeartbeats 8000000 in
open_top hd for PySem.Challenge.rw_fk5013_02
end Mine
end
section
open PySem PySem.W PyProof.Rows
namespace Mine
abbrev Prs := List (Int × Int)
def putL (c : Prs) (k v : Int) : Prs := kdyDel c k ++ [(k, v)]
def setC (co : Option Int) (c : Prs) (k v : Int) : Prs := match co with
  | none => putL c k v
  | some n => if n < ((putL c k v).length : Int) then (putL c k v).drop 1 else putL c k v
theorem has_mem {c : Prs} {k : Int} : kdfHas c k = true ↔ k ∈ c.map (·.1) := by
  unfold kdfHas
  simp only [List.any_eq_true, decide_eq_true_eq, List.mem_map]
theorem has_false {c : Prs} {k : Int} : kdfHas c k = false ↔ k ∉ c.map (·.1) := by
  rw [← has_mem]; simp
theorem del_mem {c : Prs} {k j : Int} : j ∈ (kdyDel c k).map (·.1) ↔ j ∈ c.map (·.1) ∧ j ≠ k := by
  unfold kdyDel
  simp only [List.mem_map, List.mem_filter, Bool.not_eq_true', decide_eq_false_iff_not]
  constructor
  · rintro ⟨a, ⟨h1, h2⟩, rfl⟩; exact ⟨⟨a, h1, rfl⟩, h2⟩
  · rintro ⟨⟨a, h1, rfl⟩, h2⟩; exact ⟨a, ⟨h1, h2⟩, rfl⟩
theorem has_del (c : Prs) (k : Int) : kdfHas (kdyDel c k) k = false := by
  rw [has_false, del_mem]; exact fun h => h.2 rfl
theorem put_new {c : Prs} {k : Int} (h : kdfHas c k = false) (v : Int) : kdfPut c k v = c ++ [(k, v)] := by
  unfold kdfPut
  have h' : (c.any fun p => decide (p.1 = k)) = false := h
  rw [h']; rfl
theorem del_new {c : Prs} {k : Int} (h : kdfHas c k = false) : kdyDel c k = c := by
  unfold kdyDel
  rw [List.filter_eq_self]
  intro a ha
  have : a.1 ≠ k := fun e => has_false.mp h (e ▸ List.mem_map_of_mem ha)
  simp [this]
theorem put_has {c : Prs} {k : Int} (v : Int) : kdfPut (kdyDel c k) k v = putL c k v := put_new (has_del c k) v
theorem put_hasnt {c : Prs} {k : Int} (h : kdfHas c k = false) (v : Int) : kdfPut c k v = putL c k v := by
  rw [put_new h]; unfold putL; rw [del_new h]
theorem del_nodup {c : Prs} (h : (c.map (·.1)).Nodup) (k : Int) : ((kdyDel c k).map (·.1)).Nodup := by
  unfold kdyDel
  exact h.sublist (List.Sublist.map _ List.filter_sublist)
theorem putL_nodup {c : Prs} (h : (c.map (·.1)).Nodup) (k v : Int) : ((putL c k v).map (·.1)).Nodup := by
  unfold putL
  rw [List.map_append, List.nodup_append]
  refine ⟨del_nodup h k, by simp, ?_⟩
  intro a ha b hb
  simp only [List.map_cons, List.map_nil, List.mem_singleton] at hb
  subst hb
  exact (del_mem.mp ha).2
theorem del_lt {c : Prs} {k : Int} (h : kdfHas c k = true) : (kdyDel c k).length < c.length := by
  unfold kdyDel
  obtain ⟨a, ha, hk⟩ := List.mem_map.mp (has_mem.mp h)
  have := List.length_filter_lt_length_iff_exists (l := c) (p := fun p => !decide (p.1 = k))
  rw [this]
  exact ⟨a, ha, by simp [hk]⟩
theorem putL_len (c : Prs) (k v : Int) : (putL c k v).length = (kdyDel c k).length + 1 := by
  unfold putL; simp
theorem setC_has {co : Option Int} {c : Prs} {k v : Int} (h : kdfHas c k = true) (hc : ∀ n, co = some n → (c.length : Int) ≤ n) : setC co c k v = putL c k v := by
  cases co with
  | none => rfl
  | some n =>
    have h1 := del_lt h
    have h2 := hc n rfl
    have h3 := putL_len c k v
    show (if _ then _ else _) = _
    rw [if_neg (by omega)]
theorem head_has {c : Prs} (h : c ≠ []) : kdfHas c ((c.map (fun x => x.1)).getD (Int.toNat 0) 0) = true := by
  cases c with
  | nil => exact absurd rfl h
  | cons p c => rw [has_mem]; simp
theorem head_del {c : Prs} (h : c ≠ []) (hn : (c.map (·.1)).Nodup) : kdyDel c ((c.map (fun x => x.1)).getD (Int.toNat 0) 0) = c.drop 1 := by
  cases c with
  | nil => exact absurd rfl h
  | cons p c =>
    simp only [List.map_cons, List.nodup_cons] at hn
    show kdyDel (p :: c) p.1 = c
    unfold kdyDel
    rw [List.filter_cons]
    simp only [decide_true, Bool.not_true, Bool.false_eq_true, if_false]
    rw [List.filter_eq_self]
    intro a ha
    have : a.1 ≠ p.1 := fun e => hn.1 (e ▸ List.mem_map_of_mem ha)
    simp [this]
theorem putL_ne (c : Prs) (k v : Int) : putL c k v ≠ [] := by unfold putL; simp
theorem putL_range {P : Int → Prop} {c : Prs} {k v : Int} (hc : ∀ j ∈ c.map (·.1), P j) (hk : P k) : ∀ j ∈ (putL c k v).map (·.1), P j := by
  intro j hj
  unfold putL at hj
  rw [List.map_append, List.mem_append] at hj
  rcases hj with hj | hj
  · exact hc j (del_mem.mp hj).1
  · simp only [List.map_cons, List.map_nil, List.mem_singleton] at hj
    rw [hj]; exact hk
theorem setC_sub (co : Option Int) (c : Prs) (k v : Int) : (setC co c k v).Sublist (putL c k v) := by
  cases co with
  | none => exact List.Sublist.refl _
  | some n =>
    show (if _ then _ else _ : Prs).Sublist _
    split
    · exact List.drop_sublist _ _
    · exact List.Sublist.refl _
theorem setC_nodup {co : Option Int} {c : Prs} (h : (c.map (·.1)).Nodup) (k v : Int) : ((setC co c k v).map (·.1)).Nodup := (putL_nodup h k v).sublist ((setC_sub co c k v).map _)
theorem setC_range {P : Int → Prop} {co : Option Int} {c : Prs} {k v : Int} (hc : ∀ j ∈ c.map (·.1), P j) (hk : P k) : ∀ j ∈ (setC co c k v).map (·.1), P j :=
  fun j hj => putL_range hc hk j (((setC_sub co c k v).map _).subset hj)
theorem setC_len (co : Option Int) (c : Prs) (k v : Int) : (setC co c k v).length ≤ c.length + 1 := by
  have h1 := (setC_sub co c k v).length_le
  have h2 := putL_len c k v
  have h3 := kdyDel_len c k
  omega
theorem setC_room {n : Int} {c : Prs} {k v : Int} (h : (c.length : Int) ≤ n) : ((setC (some n) c k v).length : Int) ≤ n := by
  have h2 := putL_len c k v
  have h3 := kdyDel_len c k
  show ((if _ then _ else _ : Prs).length : Int) ≤ n
  split
  · rw [List.length_drop]; omega
  · omega
theorem setC_drop {n : Int} {c : Prs} {k v : Int} (h : (c.length : Int) ≤ n) (h0 : 0 ≤ n) : setC (some n) c k v = (putL c k v).drop ((putL c k v).length - (- -n).toNat) := by
  have h2 := putL_len c k v
  have h3 := kdyDel_len c k
  show (if _ then _ else _) = _
  split
  · rw [show (putL c k v).length - (- -n).toNat = 1 by omega]
  · rw [show (putL c k v).length - (- -n).toNat = 0 by omega]; rfl
theorem filter_none {c : Prs} {k : Int} (h : kdfHas c k = false) : (c.filter fun p => decide (p.1 = k)) = [] := by
  rw [List.filter_eq_nil_iff]
  intro a ha
  have : a.1 ≠ k := fun e => has_false.mp h (e ▸ List.mem_map_of_mem ha)
  simp [this]
theorem filter_one {c : Prs} {k : Int} (h : kdfHas c k = true) (hn : (c.map (·.1)).Nodup) : (c.filter fun p => decide (p.1 = k)) = [(k, kdfLook c k 0)] := by
  induction c with
  | nil => cases h
  | cons p c ih =>
    simp only [List.map_cons, List.nodup_cons] at hn
    unfold kdfLook
    rw [List.filter_cons, List.find?_cons]
    by_cases hp : p.1 = k
    · have hk : kdfHas c k = false := has_false.mpr (hp ▸ hn.1)
      simp only [hp, decide_true, if_true, filter_none hk]
      rw [← hp]; rfl
    · have h' : kdfHas c k = true := by
        unfold kdfHas at h ⊢
        rw [List.any_cons] at h
        simpa [hp] using h
      simp only [hp, decide_false, Bool.false_eq_true, if_false]
      exact ih h' hn.2
theorem sorted_eq {c : Prs} {ns : List Int} {m : Nat} (hn : (c.map (·.1)).Nodup) (hr : ∀ k ∈ c.map (·.1), 0 ≤ k ∧ k < (m : Int)) (hp : ns.Perm (c.map (·.1))) (ho : ns.Pairwise (· ≤ ·)) :
    (rangeKs 0 m).filter (kdfHas c) = ns := by
  have hlt : (rangeKs 0 m).Pairwise (· < ·) := by
    unfold rangeKs
    rw [List.pairwise_map]
    exact List.pairwise_lt_range.imp fun h => by omega
  have h1 : ((rangeKs 0 m).filter (kdfHas c)).Pairwise (· < ·) := hlt.filter _
  have hd1 : ((rangeKs 0 m).filter (kdfHas c)).Nodup := h1.imp fun h => by omega
  have hd2 : ns.Nodup := hp.nodup_iff.mpr hn
  have hperm : ((rangeKs 0 m).filter (kdfHas c)).Perm ns := by
    rw [List.perm_ext_iff_of_nodup hd1 hd2]
    intro a
    rw [List.mem_filter, has_mem, hp.mem_iff]
    constructor
    · exact fun h => h.2
    · intro h
      refine ⟨?_, h⟩
      obtain ⟨h0, h5⟩ := hr a h
      unfold rangeKs
      exact List.mem_map.mpr ⟨a.toNat, List.mem_range.mpr (by omega), by omega⟩
  exact hperm.eq_of_pairwise (le := (· ≤ ·)) (fun a b _ _ h1 h2 => by omega) (h1.imp fun h => by omega) ho
end Mine
end
section
open PySem PySem.W PyProof.Rows PySem.Spec
namespace Mine
abbrev tupO (i : Int) (t : Tok) (j : Int) (u : Tok) (n : Nat) : Obj := { cls := .type "tuple", data := .seq #[.int i t, .int j u] n }
/-- the list's items are pairs that stand in the ledger -/
inductive RowsIn (news : List (Addr × Obj)) : List Value → Prs → Prop where
  | nil : RowsIn news [] []
  | cons {a : Addr} {i j : Int} {t u : Tok} {n : Nat} {vs : List Value} {c : Prs} : (a, tupO i t j u n) ∈ news → RowsIn news vs c → RowsIn news (.ref a :: vs) ((i, j) :: c)
theorem RowsIn.mono {news news' : List (Addr × Obj)} {vs : List Value} {c : Prs} (h : RowsIn news vs c) (hs : ∀ p ∈ news, p ∈ news') : RowsIn news' vs c := by
  induction h with
  | nil => exact .nil
  | cons hm _ ih => exact .cons (hs _ hm) ih
theorem RowsIn.length {news : List (Addr × Obj)} {vs : List Value} {c : Prs} (h : RowsIn news vs c) : vs.length = c.length := by
  induction h with
  | nil => rfl
  | cons _ _ ih => simp [ih]
theorem RowsIn.append {news : List (Addr × Obj)} {vs ws : List Value} {c d : Prs} (h : RowsIn news vs c) (k : RowsIn news ws d) : RowsIn news (vs ++ ws) (c ++ d) := by
  induction h with
  | nil => exact k
  | cons hm _ ih => exact .cons hm ih
theorem RowsIn.drop {news : List (Addr × Obj)} {vs : List Value} {c : Prs} (h : RowsIn news vs c) : ∀ n : Nat, RowsIn news (vs.drop n) (c.drop n) := by
  induction h with
  | nil => intro n; simp only [List.drop_nil]; exact .nil
  | cons hm hr ih =>
    intro n
    cases n with
    | zero => exact .cons hm hr
    | succ n => exact ih n
theorem RowsIn.at {news : List (Addr × Obj)} {vs : List Value} {c : Prs} (h : RowsIn news vs c) : ∀ {k : Nat} {v : Value}, vs[k]? = some v → ∃ a i j t u n, v = .ref a ∧ c[k]? = some (i, j) ∧ (a, tupO i t j u n) ∈ news := by
  induction h with
  | nil => intro k v e; cases e
  | @cons a i j t u n vs c hm hr ih =>
    intro k v e
    cases k with
    | zero => exact ⟨a, i, j, t, u, n, (Option.some.inj e).symm, rfl, hm⟩
    | succ k => exact ih e
theorem RowsIn.nil_iff {news : List (Addr × Obj)} {vs : List Value} {c : Prs} (h : RowsIn news vs c) : vs = [] ↔ c = [] := by
  cases h with
  | nil => simp
  | cons => simp

/-- the end of a comprehension's turn: all stands as it stood -/
def CEnd (h₀ : Heap) (L : Addr) (m : Str → Option Value) (s : Shared) (I : Addr) (oI : Obj) (C : Addr) (oC : Obj) (D : Addr) (ys : List Value) (news : List (Addr × Obj)) (s₂ : Shared) : Prop :=
  ∃ h' tk, s₂ = { s with heap := h', toks := tk } ∧ Fr h₀ L h' m ∧ News h₀ L h' ((I, oI) :: (C, oC) :: (D, LCg.lst ys) :: news)
theorem CEnd.mk' {h₀ : Heap} {L : Addr} {m : Str → Option Value} {s : Shared} {I : Addr} {oI : Obj} {C : Addr} {oC : Obj} {D : Addr} {ys : List Value} {news : List (Addr × Obj)} {h' : Heap} {tk : Nat}
    (F : Fr h₀ L h' m) (N : News h₀ L h' ((I, oI) :: (C, oC) :: (D, LCg.lst ys) :: news)) : CEnd h₀ L m s I oI C oC D ys news { s with heap := h', toks := tk } := ⟨h', tk, rfl, F, N⟩
section
variable {prog : Program} {w : World} {A : Around} {h₀ : Heap} {L : Addr} {m : Str → Option Value} {env : Env} {ct elt : Expr} {x : Str} {scope : Scope} {cl : List (Str × Addr)} {s : Shared} {S : List (Addr × Obj) → Prop} {P : Nat → Value → Prop} {Fin : List Value → List (Addr × Obj) → Prop} {news : List (Addr × Obj)}
theorem restT (G : Nat → List Value → Prop) (n : Nat) (hS : S news) (g0 : G 0 [])
    (turn : ∀ i v I oI C oC D m₂ ys h tk (E' : Value → Shared → Prop), i < n → G i ys → P i v → LCg.NsObj oC m₂ → m₂ x = some v → Fr h₀ L h m → News h₀ L h ((I, oI) :: (C, oC) :: (D, LCg.lst ys) :: news) → LCg.Off3 I C D news → ((@Ne Nat I C) ∧ (@Ne Nat I D) ∧ (@Ne Nat C D)) →
      wpAny (model prog w) A (isTrue ct (compEnvC scope cl C env) (eval ct (compEnvC scope cl C env))) (fun ok s' => if ok = true then
        wpAny (model prog w) A (eval elt (compEnvC scope cl C env)) (fun y s'' => CEnd h₀ L m { s with heap := h, toks := tk } I oI C oC D ys news s'' ∧ G (i + 1) (ys ++ [y])) E' s'
        else CEnd h₀ L m { s with heap := h, toks := tk } I oI C oC D ys news s' ∧ G (i + 1) ys) E' { s with heap := h, toks := tk })
    (fin : ∀ ys, G n ys → Fin ys news) : LCt.CompRestT prog w A h₀ L m env ct elt x scope cl s S P Fin n 0 [] news := by
  have key : ∀ (j i : Nat) (ys : List Value), i + j = n → G i ys → LCt.CompRestT prog w A h₀ L m env ct elt x scope cl s S P Fin j i ys news := by
    intro j
    induction j with
    | zero =>
      intro i ys hi hg
      have e : i = n := by omega
      subst e
      exact LCt.CompRestT.zero (fin ys hg)
    | succ j ih =>
      intro i ys hi hg
      refine LCt.CompRestT.succ ?_
      intro v I oI C oC D m₂ h tk E' hv hC hx F N off ne
      refine wpAny_mono (turn i v I oI C oC D m₂ ys h tk E' (by omega) hg hv hC hx F N off ne) (fun b s₂ hq => ?_) fun _ _ e => e
      cases b with
      | true =>
        simp only [if_true] at hq ⊢
        refine wpAny_mono hq (fun y s₃ hr => ?_) fun _ _ e => e
        obtain ⟨⟨h', tk', e, F', N'⟩, hg'⟩ := hr
        exact ⟨h', tk', news, e, F', N', off, hS, ih (i + 1) _ (by omega) hg'⟩
      | false =>
        simp only [Bool.false_eq_true, if_false] at hq ⊢
        obtain ⟨⟨h', tk', e, F', N'⟩, hg'⟩ := hq
        exact ⟨h', tk', news, e, F', N', off, hS, ih (i + 1) _ (by omega) hg'⟩
  exact key n 0 [] (by omega) g0
theorem restU (G : Nat → List Value → Prop) (n : Nat) (hS : S news) (g0 : G 0 [])
    (turn : ∀ i v I oI C oC D m₂ ys h tk (E' : Value → Shared → Prop), i < n → G i ys → P i v → LCg.NsObj oC m₂ → m₂ x = some v → Fr h₀ L h m → News h₀ L h ((I, oI) :: (C, oC) :: (D, LCg.lst ys) :: news) → LCg.Off3 I C D news → ((@Ne Nat I C) ∧ (@Ne Nat I D) ∧ (@Ne Nat C D)) →
      wpAny (model prog w) A (eval elt (compEnvC scope cl C env)) (fun y s'' => CEnd h₀ L m { s with heap := h, toks := tk } I oI C oC D ys news s'' ∧ G (i + 1) (ys ++ [y])) E' { s with heap := h, toks := tk })
    (fin : ∀ ys, G n ys → Fin ys news) : LCg.CompRest prog w A h₀ L m env elt x scope cl s S P Fin n 0 [] news := by
  have key : ∀ (j i : Nat) (ys : List Value), i + j = n → G i ys → LCg.CompRest prog w A h₀ L m env elt x scope cl s S P Fin j i ys news := by
    intro j
    induction j with
    | zero =>
      intro i ys hi hg
      have e : i = n := by omega
      subst e
      exact LCg.CompRest.zero (fin ys hg)
    | succ j ih =>
      intro i ys hi hg
      refine LCg.CompRest.succ ?_
      intro v I oI C oC D m₂ h tk E' hv hC hx F N off ne
      refine wpAny_mono (turn i v I oI C oC D m₂ ys h tk E' (by omega) hg hv hC hx F N off ne) (fun y s₃ hr => ?_) fun _ _ e => e
      obtain ⟨⟨h', tk', e, F', N'⟩, hg'⟩ := hr
      exact ⟨h', tk', news, e, F', N', off, hS, ih (i + 1) _ (by omega) hg'⟩
  exact key n 0 [] (by omega) g0

/-- a filter over a range -/
theorem range_filter {k0 : Int} {n : Nat} (f : Int → Bool) (hS : S news)
    (turn : ∀ (k : Int) (t : Tok) I oI C oC D m₂ ys h tk (E' : Value → Shared → Prop), k0 ≤ k → k < k0 + (n : Int) → LCg.NsObj oC m₂ → m₂ x = some (.int k t) → Fr h₀ L h m → News h₀ L h ((I, oI) :: (C, oC) :: (D, LCg.lst ys) :: news) → LCg.Off3 I C D news → ((@Ne Nat I C) ∧ (@Ne Nat I D) ∧ (@Ne Nat C D)) →
      wpAny (model prog w) A (isTrue ct (compEnvC scope cl C env) (eval ct (compEnvC scope cl C env))) (fun ok s' => ok = f k ∧ (ok = true →
        wpAny (model prog w) A (eval elt (compEnvC scope cl C env)) (fun y s'' => (∃ t', y = .int k t') ∧ CEnd h₀ L m { s with heap := h, toks := tk } I oI C oC D ys news s'') E' s') ∧
        CEnd h₀ L m { s with heap := h, toks := tk } I oI C oC D ys news s') E' { s with heap := h, toks := tk })
    (fin : ∀ ys, IntsAre ys ((rangeKs k0 n).filter f) → Fin ys news) : LCt.CompRestT prog w A h₀ L m env ct elt x scope cl s S (fun i v => ∃ t, v = .int (k0 + (i : Int)) t) Fin n 0 [] news := by
  refine restT (fun i ys => IntsAre ys (((rangeKs k0 n).take i).filter f)) _ hS (by simpa using IntsAre.nil) ?_ ?_
  · intro i v I oI C oC D m₂ ys h tk E' hi hg hv hC hx F N off ne
    obtain ⟨t, rfl⟩ := hv
    have hk : (rangeKs k0 n)[i]? = some (k0 + (i : Int)) := by simp [rangeKs, hi]
    have hs : ((rangeKs k0 n).take (i + 1)).filter f = ((rangeKs k0 n).take i).filter f ++ (if f (k0 + (i : Int)) = true then [k0 + (i : Int)] else []) := by
      rw [List.take_add_one, hk, List.filter_append]
      congr 1
      simp only [Option.toList_some, List.filter_cons, List.filter_nil]
    refine wpAny_mono (turn _ t I oI C oC D m₂ ys h tk E' (by omega) (by omega) hC hx F N off ne) (fun ok s' hq => ?_) fun _ _ e => e
    obtain ⟨e, h1, h2⟩ := hq
    cases ok with
    | true =>
      simp only [if_true]
      refine wpAny_mono (h1 rfl) (fun y s'' hy => ?_) fun _ _ e => e
      obtain ⟨⟨t', rfl⟩, hy⟩ := hy
      refine ⟨hy, ?_⟩
      rw [hs, if_pos e.symm]
      exact IntsAre.append hg (.cons _ t' .nil)
    | false =>
      simp only [Bool.false_eq_true, if_false]
      refine ⟨h2, ?_⟩
      rw [hs, if_neg (by rw [← e]; decide), List.append_nil]
      exact hg
  · intro ys hg
    rw [List.take_of_length_le (Nat.le_of_eq (rangeKs_length _ _))] at hg
    exact fin ys hg

/-- a filter over the rows' list, the element the row itself -/
theorem rows_filter {vs : List Value} {c : Prs} {tl : List (Addr × Obj)} (f : Int × Int → Bool) (hsub : ∀ p ∈ tl, p ∈ news) (hR : RowsIn tl vs c) (hS : S news)
    (turn : ∀ (a : Addr) (i j : Int) (t u : Tok) I oI C oC D m₂ ys h tk (E' : Value → Shared → Prop), IsTup h a #[.int i t, .int j u] → LCg.NsObj oC m₂ → m₂ x = some (.ref a) → Fr h₀ L h m → News h₀ L h ((I, oI) :: (C, oC) :: (D, LCg.lst ys) :: news) → LCg.Off3 I C D news → ((@Ne Nat I C) ∧ (@Ne Nat I D) ∧ (@Ne Nat C D)) →
      wpAny (model prog w) A (isTrue ct (compEnvC scope cl C env) (eval ct (compEnvC scope cl C env))) (fun ok s' => ok = f (i, j) ∧ (ok = true →
        wpAny (model prog w) A (eval elt (compEnvC scope cl C env)) (fun y s'' => y = .ref a ∧ CEnd h₀ L m { s with heap := h, toks := tk } I oI C oC D ys news s'') E' s') ∧
        CEnd h₀ L m { s with heap := h, toks := tk } I oI C oC D ys news s') E' { s with heap := h, toks := tk })
    (fin : ∀ ys, RowsIn tl ys (c.filter f) → Fin ys news) : LCt.CompRestT prog w A h₀ L m env ct elt x scope cl s S (fun i v => vs.toArray[i]? = some v) Fin vs.toArray.size 0 [] news := by
  have hl : vs.toArray.size = c.length := by rw [List.size_toArray]; exact hR.length
  refine restT (fun i ys => RowsIn tl ys ((c.take i).filter f)) _ hS (by simpa using RowsIn.nil) ?_ ?_
  · intro i v I oI C oC D m₂ ys h tk E' hi hg hv hC hx F N off ne
    have hv' : vs[i]? = some v := by simpa using hv
    obtain ⟨a, p, q, t, u, n, rfl, hc, hm⟩ := hR.at hv'
    have hs : (c.take (i + 1)).filter f = (c.take i).filter f ++ (if f (p, q) = true then [(p, q)] else []) := by
      rw [List.take_add_one, hc, List.filter_append]
      congr 1
      simp only [Option.toList_some, List.filter_cons, List.filter_nil]
    refine wpAny_mono (turn a p q t u I oI C oC D m₂ ys h tk E' (News.isTup N (List.mem_cons_of_mem _ (List.mem_cons_of_mem _ (List.mem_cons_of_mem _ (hsub _ hm))))) hC hx F N off ne) (fun ok s' hq => ?_) fun _ _ e => e
    obtain ⟨e, h1, h2⟩ := hq
    cases ok with
    | true =>
      simp only [if_true]
      refine wpAny_mono (h1 rfl) (fun y s'' hy => ?_) fun _ _ e => e
      obtain ⟨rfl, hy⟩ := hy
      refine ⟨hy, ?_⟩
      rw [hs, if_pos e.symm]
      exact RowsIn.append hg (.cons hm .nil)
    | false =>
      simp only [Bool.false_eq_true, if_false]
      refine ⟨h2, ?_⟩
      rw [hs, if_neg (by rw [← e]; decide), List.append_nil]
      exact hg
  · intro ys hg
    rw [hl, List.take_length] at hg
    exact fin ys hg
/-- the rows' keys -/
theorem rows_keys {vs : List Value} {c : Prs} {tl : List (Addr × Obj)} (g : Int × Int → Int) (hsub : ∀ p ∈ tl, p ∈ news) (hR : RowsIn tl vs c) (hS : S news)
    (turn : ∀ (a : Addr) (i j : Int) (t u : Tok) I oI C oC D m₂ ys h tk (E' : Value → Shared → Prop), IsTup h a #[.int i t, .int j u] → LCg.NsObj oC m₂ → m₂ x = some (.ref a) → Fr h₀ L h m → News h₀ L h ((I, oI) :: (C, oC) :: (D, LCg.lst ys) :: news) → LCg.Off3 I C D news → ((@Ne Nat I C) ∧ (@Ne Nat I D) ∧ (@Ne Nat C D)) →
      wpAny (model prog w) A (eval elt (compEnvC scope cl C env)) (fun y s'' => (∃ t', y = .int (g (i, j)) t') ∧ CEnd h₀ L m { s with heap := h, toks := tk } I oI C oC D ys news s'') E' { s with heap := h, toks := tk })
    (fin : ∀ ys, IntsAre ys (c.map g) → Fin ys news) : LCg.CompRest prog w A h₀ L m env elt x scope cl s S (fun i v => vs.toArray[i]? = some v) Fin vs.toArray.size 0 [] news := by
  have hl : vs.toArray.size = c.length := by rw [List.size_toArray]; exact hR.length
  refine restU (fun i ys => IntsAre ys ((c.take i).map g)) _ hS (by simpa using IntsAre.nil) ?_ ?_
  · intro i v I oI C oC D m₂ ys h tk E' hi hg hv hC hx F N off ne
    have hv' : vs[i]? = some v := by simpa using hv
    obtain ⟨a, p, q, t, u, n, rfl, hc, hm⟩ := hR.at hv'
    refine wpAny_mono (turn a p q t u I oI C oC D m₂ ys h tk E' (News.isTup N (List.mem_cons_of_mem _ (List.mem_cons_of_mem _ (List.mem_cons_of_mem _ (hsub _ hm))))) hC hx F N off ne) (fun y s' hq => ?_) fun _ _ e => e
    obtain ⟨⟨t', rfl⟩, h2⟩ := hq
    refine ⟨h2, ?_⟩
    rw [List.take_add_one, hc]
    simpa using IntsAre.append hg (.cons _ t' .nil)
  · intro ys hg
    rw [hl, List.take_length] at hg
    exact fin ys hg
end
end Mine
end
theorem Mine.offS02 : True := by
  w_top off
  exact trivial
section
open PySem PySem.W PyProof.Rows
namespace Mine
abbrev AA (dp un : Nat) (gs : Option (List Code)) (outer : List Env) (env : Env) : Around := { handled := none, depth := dp, frames := some (env :: outer), guards := gs, units := un }
abbrev fsc (nm : List (Str × NameKind)) (ig ic : Bool) (mo : List (Str × Const)) : Scope := { kind := .function, names := nm, isGenerator := ig, isCoroutine := ic, more := mo }
abbrev inD (w : World) (ta tb : Tok) (cap : Value) (dc : Addr) : Obj :=
  dictOf [{ hash := PyData.keyHash w.params "capacity", key := .str "capacity" ta, val := cap }, { hash := PyData.keyHash w.params "cache", key := .str "cache" tb, val := .ref dc }] 2
local macro_rules | `(tactic| k_room) => `(tactic| ((try simp only [depth_under_make, depth_under_kw, depth_in1, depth_deeper, depth_caller, recursionLimit]); omega))
set_option maxRecDepth 100000 in
set_option maxHeartbeats 8000000 in
theorem set_core {w : World} {A₀ : Around} {base h₀ : Heap} {outer : List Env} {dp un : Nat} {gs : Option (List Code)} {q : Str} {nm ig ic mo} {L fa : Addr} {cdv : Value} {cl : List (Str × Addr)} {m : Str → Option Value} {s : Shared}
  {p : Program} {loose : List Str} {mean : ExcName → Option Value} {mg mb : Str → Option Value} {rest : List (Addr × Obj)} {x d dc : Addr} {od : Obj} {kvs : List (Int × Value)} {c : List (Int × Int)} {cap : Value} {ta tb tk tv : Tok} {k v : Int} {R : Value → Shared → Prop} {E : Value → Shared → Prop} {co : Option Int}
  (B : Below A₀ base outer h₀) (hdp : dp ≤ 400) (X : (hd.heap_39 w.params).In h₀) (T : Top p loose mean mg mb h₀) (F : Fr h₀ L s.heap m)
  (N : News h₀ L s.heap ((x, instObj 112 d) :: (d, inD w ta tb cap dc) :: (dc, od) :: rest)) (hxd : x ≠ d) (hxc : x ≠ dc) (hdc : d ≠ dc) (hoff : OwnOff rest [dc])
  (lo : (dc == sysModules) = false) (hd : od.IsDictOf (intKind Challenge.rw_fk5013_02.row.prog w) kvs) (hf : PyProof.V.FlatPairs PyData.int kvs (kdfD c)) (hc : c.length ≤ 1000) (hn : (c.map (·.1)).Nodup)
  (hcap : (co = none ∧ cap = .none) ∨ ∃ t n, co = some n ∧ cap = .int n t ∧ (c.length : Int) ≤ n)
  (done : ∀ h' o' kvs' tk', Fr h₀ L h' m → News h₀ L h' ((x, instObj 112 d) :: (d, inD w ta tb cap dc) :: (dc, o') :: rest) → o'.IsDictOf (intKind Challenge.rw_fk5013_02.row.prog w) kvs' → PyProof.V.FlatPairs PyData.int kvs' (kdfD (setC co c k v)) → R .none { s with heap := h', toks := tk' }) :
  wpAny (model Challenge.rw_fk5013_02.row.prog w) (AA dp un gs outer (envX q (fsc nm ig ic mo) L fa cdv cl)) (call (.ref 109) [.ref x, .int k tk, .int v tv]) R E s := by
  revert X
  k_fill
  intro X
  have hl1 := kdyDel_len c k
  have hl2 := kdfPut_len c k v
  have hl3 := kdfPut_len (kdyDel c k) k v
  have hne : kdfPut c k v ≠ [] := by
    cases hh : kdfHas c k with
    | false => rw [put_hasnt hh]; exact putL_ne _ _ _
    | true =>
      intro e
      have hx := kdyHas_put c k k v
      rw [e] at hx
      simp [kdfHas] at hx
  have hh := head_has hne
  rcases hcap with ⟨rfl, rfl⟩ | ⟨t, n, rfl, rfl, hn2⟩
  · k_steps
    · refine done _ _ _ _ (by assumption) (by assumption) (by assumption) ?_
      rw [setC_has (by assumption) (by intro n h; cases h), ← put_has]
      assumption
    · refine done _ _ _ _ (by assumption) (by assumption) (by assumption) ?_
      show PyProof.V.FlatPairs _ _ (kdfD (putL c k v))
      rw [← put_hasnt (by assumption)]
      assumption
  · k_steps
    · refine done _ _ _ _ (by assumption) (by assumption) (by assumption) ?_
      rw [setC_has (by assumption) (by intro n h; cases h; exact hn2), ← put_has]
      assumption
    · rename News _ _ _ _ => kN
      refine done _ _ _ _ (by assumption) (fun p hp => kN p (List.mem_cons_of_mem _ hp)) (by assumption) ?_
      have e := put_hasnt (c := c) (k := k) (by assumption) v
      show PyProof.V.FlatPairs _ _ (kdfD (if n < ((putL c k v).length : Int) then (putL c k v).drop 1 else putL c k v))
      rw [if_pos (by rw [← e]; assumption), ← e, ← head_del hne (by rw [e]; exact putL_nodup hn _ _)]
      assumption
    · refine done _ _ _ _ (by assumption) (by assumption) (by assumption) ?_
      have e := put_hasnt (c := c) (k := k) (by assumption) v
      show PyProof.V.FlatPairs _ _ (kdfD (if n < ((putL c k v).length : Int) then (putL c k v).drop 1 else putL c k v))
      rw [← e, if_neg (by assumption)]
      assumption

/-- the ledger cut to its head -/
theorem led_in {h₀ h : Heap} {L x d dc : Addr} {ox oD od : Obj} {news pre post : List (Addr × Obj)} (N : News h₀ L h news) (hx : (x, ox) ∈ news) (hdd : (d, oD) ∈ news) (e : news = pre ++ (dc, od) :: post) :
    News h₀ L h ((x, ox) :: (d, oD) :: (dc, od) :: (pre ++ post)) := by
  intro p hp
  refine N p ?_
  rcases List.mem_cons.mp hp with rfl | hp
  · exact hx
  rcases List.mem_cons.mp hp with rfl | hp
  · exact hdd
  rw [e]
  rcases List.mem_cons.mp hp with rfl | hp
  · simp
  · rcases List.mem_append.mp hp with hp | hp
    · exact List.mem_append.mpr (.inl hp)
    · exact List.mem_append.mpr (.inr (List.mem_cons_of_mem _ hp))
theorem led_out {h₀ h : Heap} {L x d dc : Addr} {ox oD od : Obj} {pre post : List (Addr × Obj)} (N : News h₀ L h ((x, ox) :: (d, oD) :: (dc, od) :: (pre ++ post))) :
    News h₀ L h (pre ++ (dc, od) :: post) := by
  intro p hp
  refine N p ?_
  refine List.mem_cons_of_mem _ (List.mem_cons_of_mem _ ?_)
  rcases List.mem_append.mp hp with hp | hp
  · exact List.mem_cons_of_mem _ (List.mem_append.mpr (.inl hp))
  · rcases List.mem_cons.mp hp with rfl | hp
    · exact List.mem_cons_self
    · exact List.mem_cons_of_mem _ (List.mem_append.mpr (.inr hp))
theorem led_off {dc : Addr} {pre post : List (Addr × Obj)} (a : ∀ p ∈ pre, p.1 ≠ dc) (b : ∀ p ∈ post, p.1 ≠ dc) : OwnOff (pre ++ post) [dc] := by
  intro p hp z hz
  rw [List.mem_singleton.mp hz]
  rcases List.mem_append.mp hp with hp | hp
  · exact a p hp
  · exact b p hp
theorem set_at {w : World} {A₀ : Around} {base h₀ : Heap} {outer : List Env} {dp un : Nat} {gs : Option (List Code)} {q : Str} {nm ig ic mo} {L fa : Addr} {cdv : Value} {cl : List (Str × Addr)} {m : Str → Option Value} {s : Shared}
  {p : Program} {loose : List Str} {mean : ExcName → Option Value} {mg mb : Str → Option Value} {news : List (Addr × Obj)} {u : Obj → List (Addr × Obj)} {x d dc : Addr} {od : Obj} {kvs : List (Int × Value)} {c : List (Int × Int)} {cap : Value} {ta tb tk tv : Tok} {k v : Int} {R : Value → Shared → Prop} {E : Value → Shared → Prop} {co : Option Int}
  (B : Below A₀ base outer h₀) (hdp : dp ≤ 400) (X : (hd.heap_39 w.params).In h₀) (T : Top p loose mean mg mb h₀) (F : Fr h₀ L s.heap m)
  (N : News h₀ L s.heap news) (hx : (x, instObj 112 d) ∈ news) (hdd : (d, inD w ta tb cap dc) ∈ news) (U : UpdF dc od news u) (hxd : x ≠ d) (hxc : x ≠ dc) (hdc : d ≠ dc)
  (lo : (dc == sysModules) = false) (hd : od.IsDictOf (intKind Challenge.rw_fk5013_02.row.prog w) kvs) (hf : PyProof.V.FlatPairs PyData.int kvs (kdfD c)) (hc : c.length ≤ 1000) (hn : (c.map (·.1)).Nodup)
  (hcap : (co = none ∧ cap = .none) ∨ ∃ t n, co = some n ∧ cap = .int n t ∧ (c.length : Int) ≤ n)
  (done : ∀ h' o' kvs' tk', Fr h₀ L h' m → News h₀ L h' (u o') → o'.IsDictOf (intKind Challenge.rw_fk5013_02.row.prog w) kvs' → PyProof.V.FlatPairs PyData.int kvs' (kdfD (setC co c k v)) → R .none { s with heap := h', toks := tk' }) :
  wpAny (model Challenge.rw_fk5013_02.row.prog w) (AA dp un gs outer (envX q (fsc nm ig ic mo) L fa cdv cl)) (call (.ref 109) [.ref x, .int k tk, .int v tv]) R E s := by
  obtain ⟨pre, post, e, hu, a, b⟩ := U.split
  exact set_core B hdp X T F (led_in N hx hdd e) hxd hxc hdc (led_off a b) lo hd hf hc hn hcap fun h' o' kvs' tk' F' N' hd' hf' =>
    done h' o' kvs' tk' F' (by rw [hu]; exact led_out N') hd' hf'
end Mine
end
theorem Mine.offG02 : True := by
  w_top off
  exact trivial
section
local macro_rules | `(tactic| walk_at "my pad") => `(tactic| fail)
local macro_rules | `(tactic| walk_at "my pad") => `(tactic| fail)
open PySem PySem.W PyProof.Rows
namespace Mine
local macro_rules | `(tactic| k_room) => `(tactic| ((try simp only [depth_under_make, depth_under_kw, depth_in1, depth_deeper, depth_caller, recursionLimit]); omega))
theorem get1_yes {prog : Program} {w : World} {A : Around} {E : Value → Shared → Prop} {s : Shared} {d : Addr} {c : List (Int × Int)} {k : Int} {tk : Tok} {Q : Value → Shared → Prop} (T : IntTab prog w s.heap d (kdfD c)) (hk : kdfHas c k = true)
    (h : ∀ t, Q (.int (kdfLook c k 0) t) { s with toks := s.toks + 1 }) : wpAny (model prog w) A (call (.builtin "dict.get") [.ref d, .int k tk]) Q E s :=
  call_get1_intTab T fun v hv => by
    rw [kdfD_item hk] at hv
    obtain ⟨t, ht⟩ := PyProof.V.Flat.int_inv hv
    rw [ht]
    exact h t
theorem get1_no {prog : Program} {w : World} {A : Around} {E : Value → Shared → Prop} {s : Shared} {d : Addr} {c : List (Int × Int)} {k : Int} {tk : Tok} {Q : Value → Shared → Prop} (T : IntTab prog w s.heap d (kdfD c)) (hk : kdfHas c k = false)
    (h : Q .none { s with toks := s.toks + 1 }) : wpAny (model prog w) A (call (.builtin "dict.get") [.ref d, .int k tk]) Q E s :=
  call_get1_intTab T fun v hv => by
    rw [kdfD_none hk] at hv
    obtain rfl := PyProof.V.Flat.none_inv hv
    exact h
local macro_rules | `(tactic| walk_at "call builtin:dict.get") => `(tactic| (k_here; kdf_here; (with_reducible show wpAny _ _ (call (Value.builtin "dict.get") [Value.ref _, Value.int _ _]) _ _ _); k_dflt (first
  | (refine get1_yes (by k_tabat) (by assumption) ?_; intro t')
  | refine get1_no (by k_tabat) (by assumption) ?_)))
set_option maxRecDepth 100000 in
set_option maxHeartbeats 8000000 in
theorem get_core {w : World} {A₀ : Around} {base h₀ : Heap} {outer : List Env} {dp un : Nat} {gs : Option (List Code)} {q : Str} {nm ig ic mo} {L fa : Addr} {cdv : Value} {cl : List (Str × Addr)} {m : Str → Option Value} {s : Shared}
  {p : Program} {loose : List Str} {mean : ExcName → Option Value} {mg mb : Str → Option Value} {rest : List (Addr × Obj)} {x d dc : Addr} {od : Obj} {kvs : List (Int × Value)} {c : List (Int × Int)} {cap dv : Value} {ta tb tk : Tok} {k : Int} {R : Value → Shared → Prop} {E : Value → Shared → Prop} {more : List Value}
  (hmore : (more = [] ∧ dv = .none) ∨ more = [dv])
  (B : Below A₀ base outer h₀) (hdp : dp ≤ 400) (X : (hd.heap_39 w.params).In h₀) (T : Top p loose mean mg mb h₀) (F : Fr h₀ L s.heap m)
  (N : News h₀ L s.heap ((x, instObj 112 d) :: (d, inD w ta tb cap dc) :: (dc, od) :: rest)) (hxd : x ≠ d) (hxc : x ≠ dc) (hdc : d ≠ dc) (hoff : OwnOff rest [dc])
  (lo : (dc == sysModules) = false) (hd : od.IsDictOf (intKind Challenge.rw_fk5013_02.row.prog w) kvs) (hf : PyProof.V.FlatPairs PyData.int kvs (kdfD c)) (hc : c.length ≤ 1000)
  (yes : kdfHas c k = true → ∀ h' o' kvs' tk' t, Fr h₀ L h' m → News h₀ L h' ((x, instObj 112 d) :: (d, inD w ta tb cap dc) :: (dc, o') :: rest) → o'.IsDictOf (intKind Challenge.rw_fk5013_02.row.prog w) kvs' → PyProof.V.FlatPairs PyData.int kvs' (kdfD (putL c k (kdfLook c k 0))) → R (.int (kdfLook c k 0) t) { s with heap := h', toks := tk' })
  (no : kdfHas c k = false → ∀ h' tk', Fr h₀ L h' m → News h₀ L h' ((x, instObj 112 d) :: (d, inD w ta tb cap dc) :: (dc, od) :: rest) → R dv { s with heap := h', toks := tk' }) :
  wpAny (model Challenge.rw_fk5013_02.row.prog w) (AA dp un gs outer (envX q (fsc nm ig ic mo) L fa cdv cl)) (call (.ref 102) (.ref x :: .int k tk :: more)) R E s := by
  revert X
  k_fill
  intro X
  have hl1 := kdyDel_len c k
  have hl3 := kdfPut_len (kdyDel c k) k (kdfLook c k 0)
  rcases hmore with ⟨rfl, rfl⟩ | rfl
  · cases hk : kdfHas c k
    · k_steps
      exact no hk _ _ (by assumption) (by assumption)
    · k_steps
      refine yes hk _ _ _ _ _ (by assumption) (by assumption) (by assumption) ?_
      rw [← put_has]
      assumption
  · cases hk : kdfHas c k
    · k_steps
      exact no hk _ _ (by assumption) (by assumption)
    · k_steps
      refine yes hk _ _ _ _ _ (by assumption) (by assumption) (by assumption) ?_
      rw [← put_has]
      assumption
theorem get_at {w : World} {A₀ : Around} {base h₀ : Heap} {outer : List Env} {dp un : Nat} {gs : Option (List Code)} {q : Str} {nm ig ic mo} {L fa : Addr} {cdv : Value} {cl : List (Str × Addr)} {m : Str → Option Value} {s : Shared}
  {p : Program} {loose : List Str} {mean : ExcName → Option Value} {mg mb : Str → Option Value} {news : List (Addr × Obj)} {u : Obj → List (Addr × Obj)} {x d dc : Addr} {od : Obj} {kvs : List (Int × Value)} {c : List (Int × Int)} {cap dv : Value} {ta tb tk : Tok} {k : Int} {R : Value → Shared → Prop} {E : Value → Shared → Prop} {more : List Value}
  (hmore : (more = [] ∧ dv = .none) ∨ more = [dv])
  (B : Below A₀ base outer h₀) (hdp : dp ≤ 400) (X : (hd.heap_39 w.params).In h₀) (T : Top p loose mean mg mb h₀) (F : Fr h₀ L s.heap m)
  (N : News h₀ L s.heap news) (hx : (x, instObj 112 d) ∈ news) (hdd : (d, inD w ta tb cap dc) ∈ news) (U : UpdF dc od news u) (hxd : x ≠ d) (hxc : x ≠ dc) (hdc : d ≠ dc)
  (lo : (dc == sysModules) = false) (hd : od.IsDictOf (intKind Challenge.rw_fk5013_02.row.prog w) kvs) (hf : PyProof.V.FlatPairs PyData.int kvs (kdfD c)) (hc : c.length ≤ 1000)
  (yes : kdfHas c k = true → ∀ h' o' kvs' tk' t, Fr h₀ L h' m → News h₀ L h' (u o') → o'.IsDictOf (intKind Challenge.rw_fk5013_02.row.prog w) kvs' → PyProof.V.FlatPairs PyData.int kvs' (kdfD (putL c k (kdfLook c k 0))) → R (.int (kdfLook c k 0) t) { s with heap := h', toks := tk' })
  (no : kdfHas c k = false → ∀ h' tk', Fr h₀ L h' m → News h₀ L h' news → R dv { s with heap := h', toks := tk' }) :
  wpAny (model Challenge.rw_fk5013_02.row.prog w) (AA dp un gs outer (envX q (fsc nm ig ic mo) L fa cdv cl)) (call (.ref 102) (.ref x :: .int k tk :: more)) R E s := by
  obtain ⟨pre, post, e, hu, a, b⟩ := U.split
  refine get_core hmore B hdp X T F (led_in N hx hdd e) hxd hxc hdc (led_off a b) lo hd hf hc (fun hk h' o' kvs' tk' t F' N' hd' hf' => ?_) fun hk h' tk' F' N' => ?_
  · exact yes hk h' o' kvs' tk' t F' (by rw [hu]; exact led_out N') hd' hf'
  · exact no hk h' tk' F' (by rw [e]; exact led_out N')
theorem get_yes {w : World} {A₀ : Around} {base h₀ : Heap} {outer : List Env} {dp un : Nat} {gs : Option (List Code)} {q : Str} {nm ig ic mo} {L fa : Addr} {cdv : Value} {cl : List (Str × Addr)} {m : Str → Option Value} {s : Shared}
  {p : Program} {loose : List Str} {mean : ExcName → Option Value} {mg mb : Str → Option Value} {news : List (Addr × Obj)} {u : Obj → List (Addr × Obj)} {x d dc : Addr} {od : Obj} {kvs : List (Int × Value)} {c : List (Int × Int)} {cap dv : Value} {ta tb tk : Tok} {k : Int} {R : Value → Shared → Prop} {E : Value → Shared → Prop} {more : List Value}
  (hmore : (more = [] ∧ dv = .none) ∨ more = [dv])
  (B : Below A₀ base outer h₀) (hdp : dp ≤ 400) (X : (hd.heap_39 w.params).In h₀) (T : Top p loose mean mg mb h₀) (F : Fr h₀ L s.heap m)
  (N : News h₀ L s.heap news) (hx : (x, instObj 112 d) ∈ news) (hdd : (d, inD w ta tb cap dc) ∈ news) (U : UpdF dc od news u) (hxd : x ≠ d) (hxc : x ≠ dc) (hdc : d ≠ dc)
  (lo : (dc == sysModules) = false) (hd : od.IsDictOf (intKind Challenge.rw_fk5013_02.row.prog w) kvs) (hf : PyProof.V.FlatPairs PyData.int kvs (kdfD c)) (hc : c.length ≤ 1000)
  (hk : kdfHas c k = true)
  (yes : ∀ h' o' kvs' tk' t, Fr h₀ L h' m → News h₀ L h' (u o') → o'.IsDictOf (intKind Challenge.rw_fk5013_02.row.prog w) kvs' → PyProof.V.FlatPairs PyData.int kvs' (kdfD (putL c k (kdfLook c k 0))) → R (.int (kdfLook c k 0) t) { s with heap := h', toks := tk' }) :
  wpAny (model Challenge.rw_fk5013_02.row.prog w) (AA dp un gs outer (envX q (fsc nm ig ic mo) L fa cdv cl)) (call (.ref 102) (.ref x :: .int k tk :: more)) R E s :=
  get_at hmore B hdp X T F N hx hdd U hxd hxc hdc lo hd hf hc (fun _ => yes) (fun h => by rw [hk] at h; cases h)
theorem get_no {w : World} {A₀ : Around} {base h₀ : Heap} {outer : List Env} {dp un : Nat} {gs : Option (List Code)} {q : Str} {nm ig ic mo} {L fa : Addr} {cdv : Value} {cl : List (Str × Addr)} {m : Str → Option Value} {s : Shared}
  {p : Program} {loose : List Str} {mean : ExcName → Option Value} {mg mb : Str → Option Value} {news : List (Addr × Obj)} {u : Obj → List (Addr × Obj)} {x d dc : Addr} {od : Obj} {kvs : List (Int × Value)} {c : List (Int × Int)} {cap dv : Value} {ta tb tk : Tok} {k : Int} {R : Value → Shared → Prop} {E : Value → Shared → Prop} {more : List Value}
  (hmore : (more = [] ∧ dv = .none) ∨ more = [dv])
  (B : Below A₀ base outer h₀) (hdp : dp ≤ 400) (X : (hd.heap_39 w.params).In h₀) (T : Top p loose mean mg mb h₀) (F : Fr h₀ L s.heap m)
  (N : News h₀ L s.heap news) (hx : (x, instObj 112 d) ∈ news) (hdd : (d, inD w ta tb cap dc) ∈ news) (U : UpdF dc od news u) (hxd : x ≠ d) (hxc : x ≠ dc) (hdc : d ≠ dc)
  (lo : (dc == sysModules) = false) (hd : od.IsDictOf (intKind Challenge.rw_fk5013_02.row.prog w) kvs) (hf : PyProof.V.FlatPairs PyData.int kvs (kdfD c)) (hc : c.length ≤ 1000)
  (hk : kdfHas c k = false)
  (no : ∀ h' tk', Fr h₀ L h' m → News h₀ L h' news → R dv { s with heap := h', toks := tk' }) :
  wpAny (model Challenge.rw_fk5013_02.row.prog w) (AA dp un gs outer (envX q (fsc nm ig ic mo) L fa cdv cl)) (call (.ref 102) (.ref x :: .int k tk :: more)) R E s :=
  get_at hmore B hdp X T F N hx hdd U hxd hxc hdc lo hd hf hc (fun h => by rw [hk] at h; cases h) (fun _ => no)
end Mine
end
section
open PySem PySem.W PyProof.Rows
namespace Mine
def lawB (p : Program) : List Stmt := match p.main.body.getLast? with
  | some (.FunctionDef (body := b) ..) => b
  | _ => []
def lawS (p : Program) : Scope := match p.main.body.getLast? with
  | some (.FunctionDef (scope := b) ..) => b
  | _ => { kind := .function, names := [], isGenerator := false, isCoroutine := false, more := [] }
def forB (p : Program) (i : Nat) : List Stmt := match (lawB p)[i]? with
  | some (.For (body := b) ..) => b
  | _ => []
def stAt (l : List Stmt) (i : Nat) : Stmt := (l[i]?).getD (.Pass ⟨0,0,0,0⟩)
theorem kst_self {m : Str → Option Value} {ps : List (Str × Value)} (h : ∀ p ∈ ps, m p.1 = some p.2) : kstB m ps = m := by
  funext z
  exact kstB_eq h fun _ => rfl
end Mine
end
section
open PySem PySem.W PyProof.Rows PySem.Spec PySem.Calls
namespace Mine
theorem flat_key {c : Prs} {kvs : List (Int × Value)} (hf : PyProof.V.FlatPairs PyData.int kvs (kdfD c)) {j : Nat} {k : Int} {x : Value} (hx : kvs[j]? = some (k, x)) : ∃ v, c[j]? = some (k, v) := by
  obtain ⟨dv, hd, _⟩ := hf.at hx
  have hd' : (c[j]?).map (fun p => (PyData.int p.1, PyData.int p.2)) = some (PyData.int k, dv) := by rw [← List.getElem?_map]; exact hd
  cases hcj : c[j]? with
  | none => rw [hcj] at hd'; cases hd'
  | some p =>
    rw [hcj] at hd'
    have e1 : PyData.int p.1 = PyData.int k := congrArg Prod.fst (Option.some.inj hd')
    injection e1 with e1
    exact ⟨p.2, by rw [← e1]⟩
theorem flat_len {c : Prs} {kvs : List (Int × Value)} (hf : PyProof.V.FlatPairs PyData.int kvs (kdfD c)) : kvs.length = c.length := by rw [← hf.length, kdfD_length]
section
variable {prog : Program} {w : World} {A : Around} {E : Value → Shared → Prop} {s : Shared} {h₀ : Heap} {L d : Addr} {m : Str → Option Value} {news : List (Addr × Obj)} {o : Obj} {kvs : List (Int × Value)} {c : Prs}
theorem listK {v : Addr} {Q : Value → Shared → Prop} (hh : A.handled = none) (F : Fr h₀ L s.heap m) (N : News h₀ L s.heap news) (hv : (v, { cls := .type "dict_keys", data := .fields #[.ref d] }) ∈ news) (hp : (d, o) ∈ news) (hd : o.IsDictOf (PySem.intKind prog w) kvs) (hf : PyProof.V.FlatPairs PyData.int kvs (kdfD c)) (hn : c.length ≤ 1000)
    (h : ∀ (B : Addr) n h' tk vs, Fr h₀ L h' m → News h₀ L h' ((B, listOf vs.toArray n) :: news) → (∀ q ∈ news, q.1 < B) → IntsAre vs (c.map (·.1)) → Q (.ref B) { s with heap := h', toks := tk }) :
    wpAny (model prog w) A (call (.type "list") [.ref v]) Q E s := by
  obtain ⟨ep, hat⟩ := (kda_dict N hp hd).dictAt
  refine kdl_N (kdl_keys (knd := PySem.intKind prog w) (kvs := kvs) (ep := ep)) hh F N ⟨⟨_, (N _ hv).1, rfl, rfl⟩, hat⟩ (kdl_size (by rw [flat_len hf]; omega)) fun B n h' tk vs F' N' l1 hl hw => ?_
  refine h B n h' tk vs F' N' l1 (kdy_ints (by rw [hl, flat_len hf, List.length_map]) fun j u hu => ?_)
  obtain ⟨k, x, hx, hk⟩ := hw j u hu
  obtain ⟨y, hy⟩ := flat_key hf hx
  obtain ⟨t, rfl⟩ := Value.isInt_shape hk
  exact ⟨k, by rw [List.getElem?_map, hy]; rfl, t, rfl⟩
end
section
variable {prog : Program} {w : World} {A : Around} {E : Value → Shared → Prop} {s : Shared} {h₀ : Heap} {L : Addr} {m : Str → Option Value} {env : Env}
/-- the comprehension's source is an iterator over a dict's keys -/
def KeySrc (prog : Program) (w : World) (A : Around) (h₀ : Heap) (L : Addr) (m : Str → Option Value) (env : Env) (elt : Expr) (x : Str) (scope : Scope) (cl : List (Str × Addr)) (Fin : Shared → List Value → List (Addr × Obj) → Prop) (it : Value) (s₂ : Shared) : Prop :=
  ∃ (I d : Addr) (oI od : Obj) (kvs : List (Int × Value)) (ep : Nat) (news : List (Addr × Obj)), it = .ref I ∧ A.handled = none ∧ Fr h₀ L s₂.heap m ∧ News h₀ L s₂.heap ((I, oI) :: news) ∧ KdkIter oI d 0 kvs.length ep ∧ KdkAt (intKind prog w) od kvs ep ∧ (d, od) ∈ news ∧ (∀ p ∈ news, p.1 < I) ∧ kvs.length ≤ sizeLine ∧
    LCg.CompRest prog w A h₀ L m env elt x scope cl s₂ (fun nw => (d, od) ∈ nw) (fun i v => ∃ k x, kvs[i]? = some (k, x) ∧ (intKind prog w).is k v = true) (Fin s₂) kvs.length 0 [] news
theorem ListComp_keys {elt iter : Expr} {x : Str} {px : Pos} {scope : Scope} {cl : List (Str × Addr)} {pos : Pos} {Q : Value → Shared → Prop} (_F₀ : Fr h₀ L s.heap m)
    (hclos : closureFor scope env = pure cl) (hcell : ∀ y ∈ scope.names, y.2 ≠ .cell) (hkind : scope.kind = .function)
    (hnames : ∀ y ∈ scope.names, y.2 = .local → scope.names.lookup y.1 = some .local) (hx : scope.names.lookup x = some .local)
    (h : wpAny (model prog w) A (eval iter env) (fun xv s₁ => wpAny (model prog w) A (pyIter xv) (KeySrc prog w A h₀ L m env elt x scope cl (fun s₂ => LCg.FinE h₀ L m s₂ Q)) E s₁) E s)
    (hs : ∀ x, foldedSetIterable iter env x = pure x := by intro _; rfl) :
    wpAny (model prog w) A (eval (.ListComp elt [⟨.Name x px, iter, [], 0⟩] scope pos) env) Q E s := by
  rw [eval_ListComp]
  refine wpAny_comprehension_free (use := none) rfl hs hclos hkind hnames (wpAny_mono h (fun xv s₁ h₁ => wpAny_mono h₁ (fun it s₂ h₂ => ?_) fun _ _ e => e) fun _ _ e => e)
  obtain ⟨I, d, oI, od, kvs, ep, news, rfl, hh, F, N, hI, hat, hd, hlt, hsz, R⟩ := h₂
  have NI := N _ List.mem_cons_self
  have Nd : News h₀ L s₂.heap news := fun p hp => N p (List.mem_cons_of_mem _ hp)
  have hdI : d ≠ I := Nat.ne_of_lt (hlt _ hd)
  refine LCg.block_U (S := fun nw => (d, od) ∈ nw) (Walks.dictKeys hh I d hdI kvs ep) hsz (fun i h st => by obtain ⟨o, e, _⟩ := st.1; exact ⟨o, e⟩)
    (fun i h h' o nw st e e' k N' hS => ⟨by obtain ⟨o', q, r⟩ := st.1; rw [e] at q; cases q; exact ⟨o, e', r⟩, hat.dictAt (N' _ hS).1⟩) hcell hkind hx
    ⟨hI.at NI.1, hat.dictAt (Nd _ hd).1⟩ (fun b hb => ?_) F Nd (Ne.symm NI.2.1) NI.2.2 (fun p hp => Nat.ne_of_lt (hlt p hp)) hd R ?_
  · rcases List.mem_cons.mp hb with rfl | hb
    · exact Heap.lt_size NI.1
    · rw [List.mem_singleton.mp hb]; exact Heap.lt_size (Nd _ hd).1
  · intro D C h tk m' ys news' F' N' o1 hn hC₀ hD₀ hCL hDL hCD offC fin
    refine ⟨m', hn, fun h'' hs'' => fin D h'' tk (F'.change hs'' hCL hC₀) (fun p hp => ?_) o1⟩
    refine ⟨hs''.extBut _ _ ?_ (N' p hp).1, (N' p hp).2⟩
    rcases List.mem_cons.mp hp with rfl | hp
    · exact Ne.symm hCD
    · exact offC p hp
theorem owit_key {Q : Value → Shared → Prop} {I d : Addr} {oI : Obj} {i n ep : Nat} {news : List (Addr × Obj)} (N : News h₀ L s.heap news) (hm : (I, oI) ∈ news) (hI : KdkIter oI d i n ep) (h : Q (.ref I) s) : OwitIt (model prog w) A Q E (.ref I) s := by
  unfold OwitIt
  have hit := hI.at (N _ hm).1
  exact wpAny_specialOf (name := Str.ofString "__next__") hit.typeIs PySem.F.slot_dict_keyiterator_next.lookup h
/-- the keys themselves -/
theorem KeySrc.intro {elt : Expr} {x : Str} {scope : Scope} {cl : List (Str × Addr)} {Fin : Shared → List Value → List (Addr × Obj) → Prop} {I d : Addr} {oI od : Obj} {kvs : List (Int × Value)} {c : Prs} {ep : Nat} {news : List (Addr × Obj)}
    (hh : A.handled = none) (F : Fr h₀ L s.heap m) (N : News h₀ L s.heap ((I, oI) :: news)) (hlt : ∀ p ∈ news, p.1 < I) (hI : KdkIter oI d 0 kvs.length ep) (hat : KdkAt (intKind prog w) od kvs ep) (hd : (d, od) ∈ news) (hf : PyProof.V.FlatPairs PyData.int kvs (kdfD c)) (hn : c.length ≤ 1000)
    (turn : ∀ k t I oI C oC D m₂ ys h tk (E' : Value → Shared → Prop), LCg.NsObj oC m₂ → m₂ x = some (.int k t) → Fr h₀ L h m → News h₀ L h ((I, oI) :: (C, oC) :: (D, LCg.lst ys) :: news) → LCg.Off3 I C D news → ((@Ne Nat I C) ∧ (@Ne Nat I D) ∧ (@Ne Nat C D)) →
      wpAny (model prog w) A (eval elt (compEnvC scope cl C env)) (fun y s'' => (∃ t', y = .int k t') ∧ CEnd h₀ L m { s with heap := h, toks := tk } I oI C oC D ys news s'') E' { s with heap := h, toks := tk })
    (fin : ∀ ys, IntsAre ys (c.map (·.1)) → Fin s ys news) : KeySrc prog w A h₀ L m env elt x scope cl Fin (.ref I) s := by
  have hl := flat_len hf
  refine ⟨I, d, oI, od, kvs, ep, news, rfl, hh, F, N, hI, hat, hd, hlt, by rw [hl, sizeLine_eq]; omega, ?_⟩
  refine restU (fun i ys => IntsAre ys ((c.take i).map (·.1))) _ hd (by simpa using IntsAre.nil) ?_ ?_
  · intro i v I oI C oC D m₂ ys h tk E' hi hg hv hC hx F N off ne
    obtain ⟨k, y, hk, hk2⟩ := hv
    obtain ⟨t, rfl⟩ := Value.isInt_shape hk2
    obtain ⟨z, hz⟩ := flat_key hf hk
    refine wpAny_mono (turn k t I oI C oC D m₂ ys h tk E' hC hx F N off ne) (fun y s' hq => ?_) fun _ _ e => e
    obtain ⟨⟨t', rfl⟩, h2⟩ := hq
    refine ⟨h2, ?_⟩
    rw [List.take_add_one, hz]
    simpa using IntsAre.append hg (.cons _ t' .nil)
  · intro ys hg
    rw [hl, List.take_length] at hg
    exact fin ys hg
end
end Mine
end
section
open PySem PySem.W PyProof.Rows PySem.Spec PySem.Calls
namespace Mine
section
variable {prog : Program} {w : World} {A : Around} {E : Value → Shared → Prop} {s : Shared} {h₀ : Heap} {L a b l : Addr} {m : Str → Option Value} {news : List (Addr × Obj)} {vs ws : List Value} {n n2 : Nat} {Q : Value → Shared → Prop} {x : Int} {t : Tok} {value slice : PySem.Expr}
theorem my_add (F : Fr h₀ L s.heap m) (N : News h₀ L s.heap news) (ha : (a, listOf vs.toArray n) ∈ news) (hb : (b, listOf ws.toArray n2) ∈ news) (hz : vs.length ≤ 1000) (hz2 : ws.length ≤ 1000)
    (h : ∀ D h', Fr h₀ L h' m → News h₀ L h' ((D, listOf (vs ++ ws).toArray 0) :: news) → (∀ p ∈ news, p.1 < D) → Q (.ref D) { s with heap := h' }) :
    wpAny (model prog w) A (binaryOp .Add (.ref a) (.ref b)) Q E s :=
  kmk_add_lit F N ⟨_, (N _ ha).1, rfl, _, rfl⟩ ⟨_, (N _ hb).1, rfl, _, rfl⟩ (by rw [List.toList_toArray, List.toList_toArray]) h (by rw [List.toList_toArray, List.toList_toArray, sizeLine_eq]; omega)
theorem pick_neg (hx : x < 0) : (slicePick vs.toArray (some x) none none).toList = vs.drop (vs.length - (-x).toNat) := by
  have e : sliceBounds (some x) none none vs.toArray.size = (((vs.toArray.size - (-x).toNat : Nat) : Int), ((vs.toArray.size : Nat) : Int), 1) := by
    simp only [sliceBounds, Option.getD_none, show (1 : Int) > 0 by decide, if_true, if_pos hx]
    congr 1
    omega
  rw [kmk_pick_nat _ e]
  show (vs.drop (vs.toArray.size - (-x).toNat)).take (vs.toArray.size - (vs.toArray.size - (-x).toNat)) = _
  rw [List.size_toArray, List.take_of_length_le (by rw [List.length_drop]; omega)]
theorem pick_pos (hx : 0 ≤ x) : (slicePick vs.toArray (some x) none none).toList = vs.drop x.toNat := by
  have e : sliceBounds (some x) none none vs.toArray.size = (((min x.toNat vs.toArray.size : Nat) : Int), ((vs.toArray.size : Nat) : Int), 1) := by
    simp only [sliceBounds, Option.getD_none, show (1 : Int) > 0 by decide, if_true, if_neg (show ¬ (x < 0) by omega)]
    congr 1
    omega
  rw [kmk_pick_nat _ e]
  show (vs.drop (min x.toNat vs.toArray.size)).take (vs.toArray.size - min x.toNat vs.toArray.size) = _
  rw [List.size_toArray, kmk_drop_min, List.take_of_length_le (by rw [List.length_drop]; omega)]
theorem my_slice_neg (hx : x < 0) (F : Fr h₀ L s.heap m) (N : News h₀ L s.heap news) (hl : (l, listOf vs.toArray n) ∈ news) (hz : vs.length ≤ 1000)
    (h : ∀ D h', Fr h₀ L h' m → News h₀ L h' ((D, listOf (vs.drop (vs.length - (-x).toNat)).toArray 0) :: news) → (∀ p ∈ news, p.1 < D) → Q (.ref D) { s with heap := h' })
    (hs : subscripted slice false (.ref l) (.ref s.heap.objs.size) = operate [.ref s.heap.objs.size, .ref l] (getItem (.ref l) (.ref s.heap.objs.size))) (ht : ∀ r, letTemporaryGo value (.ref l) r = pure ()) :
    wpAny (model prog w) A (subscriptTail value slice (.ref l) (.ref s.heap.objs.size)) Q E { s with heap := s.heap.push { cls := .type "slice", data := .fields #[.int x t, .none, .none] } } :=
  kmk_slice_lit F N (⟨_, (N _ hl).1, rfl, _, rfl⟩ : s.heap.IsList l vs.toArray) (.int x t) .none (pick_neg hx) h hs ht (by rw [List.size_toArray, sizeLine_eq]; omega)
theorem my_slice_pos (hx : 0 ≤ x) (F : Fr h₀ L s.heap m) (N : News h₀ L s.heap news) (hl : (l, listOf vs.toArray n) ∈ news) (hz : vs.length ≤ 1000)
    (h : ∀ D h', Fr h₀ L h' m → News h₀ L h' ((D, listOf (vs.drop x.toNat).toArray 0) :: news) → (∀ p ∈ news, p.1 < D) → Q (.ref D) { s with heap := h' })
    (hs : subscripted slice false (.ref l) (.ref s.heap.objs.size) = operate [.ref s.heap.objs.size, .ref l] (getItem (.ref l) (.ref s.heap.objs.size))) (ht : ∀ r, letTemporaryGo value (.ref l) r = pure ()) :
    wpAny (model prog w) A (subscriptTail value slice (.ref l) (.ref s.heap.objs.size)) Q E { s with heap := s.heap.push { cls := .type "slice", data := .fields #[.int x t, .none, .none] } } :=
  kmk_slice_lit F N (⟨_, (N _ hl).1, rfl, _, rfl⟩ : s.heap.IsList l vs.toArray) (.int x t) .none (pick_pos hx) h hs ht (by rw [List.size_toArray, sizeLine_eq]; omega)
end
theorem allLt_all {d : Addr} : ∀ {l : List (Addr × Obj)}, AllLt d l → ∀ p ∈ l, p.1 < d
  | [], _, _, h => nomatch h
  | _ :: _, x, p, h => by
    rcases List.mem_cons.mp h with rfl | h
    · exact x.1
    · exact allLt_all x.2 p h
end Mine
end
section
open PySem PySem.W PyProof.Rows PySem.Spec PySem.Calls
namespace Mine
section
variable {prog : Program} {w : World} {A₀ A : Around} {s : Shared} {base h₀ : Heap} {L : Addr} {m : Str → Option Value} {env : Env} {news : List (Addr × Obj)} {K : Frag} {p : Program} {loose : List Str} {mean : ExcName → Option Value} {mg mb : Str → Option Value}
  {R : Result → Shared → Prop} {name qual : Str} {params : Arguments} {body : List Stmt} {scope : Scope} {dV kV doc pm cdv ct oc : Value} {an od : Option Addr} {osl : Array (Option Value)} {f : Addr} {args : Args} {binds : List (Str × Value)}
theorem slots_ns {h : Heap} {a : Addr} {o : Obj} {es : Array DictEntry} {ep : Nat} {sl : Array (Option Value)} {mm : Str → Option Value} (hd : o.data = .dict es ep) (hk : StrKeys es) (hf : ∀ name, nsFind es name = mm name) (e : h.get? a = some { o with slots := sl }) : h.Ns a mm := ⟨_, es, ep, e, hd, hk, hf⟩
/-- a call out of a frame that may have cells, of a def that catches -/
theorem defS0X (B : Below A₀ base [] h₀) (F : Fr h₀ L s.heap m) (X₀ : K.In h₀) (N : News h₀ L s.heap news) (T : Top p loose mean mg mb h₀) (hA : A.frames = some [env]) (hfr : env.frame = some L) (hke : env.scope.kind = .function)
    (ho : K.lookup f = some ⟨oc, od, .func (fnOf name qual params body scope dV kV doc pm an cdv ct), osl⟩) (hcd : codeIn K cdv qual = true) (hroom : A.depth < recursionLimit)
    (hbind : BindsTo s (fnOf name qual params body scope dV kV doc pm an cdv ct) args binds) (hloc : ∀ y ∈ binds, scope.names.lookup y.1 = some .local)
    (h : ∀ g L' h₁, Fr h₀ L g m → Fr g L' h₁ (fun y => binds.reverse.lookup y) → News g L' h₁ news → Below A base [env] g → K.In g → Top p loose mean mg mb g → KtsDicts ([env].filterMap (·.frame)) g →
      wpAny (model prog w) (A.deeper (envOf qual scope L' f cdv)) (execs body (envOf qual scope L' f cdv))
        (fun fl s' => LeaveS0 ([env].filterMap (·.frame)) h₀ L m g R (match fl with | .ret v => v | _ => .none) s')
        (fun e s' => wpAny (model prog w) (A.deeper (envOf qual scope L' f cdv)) (leaving (envOf qual scope L' f cdv) e) (fun _ s'' => R (.error e) s'') (fun e' s'' => R (.error e') s'') s')
        { s with heap := h₁, toks := s.toks + binds.length })
    (hco : scope.isCoroutine = false) (hgen : scope.isGenerator = false) (hk : scope.kind = .function)
    (hcell : ∀ x ∈ scope.names, x.2 ≠ .cell) : codeAny (model prog w) A (.call (.ref f) args) R s := by
  have X := X₀.keeps F.keep
  obtain ⟨FG, BG, st, -⟩ := groundX (R := R) B F N hA hfr hke
  have efs : [env].filterMap (·.frame) = [L] := by simp [hfr]
  obtain ⟨oL, es, ep, hL, hd, hkk, hff⟩ := FG.ns
  have gsz : (hideAll s.heap (news.map (·.1))).objs.size = s.heap.objs.size := hideAll_size _ _
  have L0 : h₀.get? L = none := Heap.get?_none_of_le F.above
  refine codeAny_call_def (fd := fnOf name qual params body scope dV kV doc pm an cdv ct) (body := body) (binds := binds) hroom (X _ _ ho) rfl (T.nolimit.keeps F.keep) (codeRec_of X hcd) rfl hbind hcell hloc (fun h₁ hns hk₁ => ?_) hco hgen hk
  have F' : Fr (hideAll s.heap (news.map (·.1))) s.heap.objs.size h₁ (fun y => binds.reverse.lookup y) := ⟨hns, fun b o e => hk₁ b o (of_hideAll _ e), Nat.le_of_eq gsz⟩
  have N' : News (hideAll s.heap (news.map (·.1))) s.heap.objs.size h₁ news := fun q hq => ⟨hk₁ _ _ (N q hq).1, Nat.ne_of_lt (Heap.lt_size (N q hq).1), hideAll_none _ (List.mem_map_of_mem hq)⟩
  have D : KtsDicts ([env].filterMap (·.frame)) (hideAll s.heap (news.map (·.1))) := by
    rw [efs]
    intro b hb
    rw [List.mem_singleton.mp hb]
    exact ⟨oL, es, ep, hL, hd⟩
  refine wpAny_mono (h _ _ h₁ FG F' N' BG (X₀.keeps st) (T.keeps st) D) (fun fl s' hl => ?_) fun _ _ y => y
  obtain ⟨g', L', m', news', T', F₂, N₂, k⟩ := hl
  obtain ⟨sl, hs⟩ := T'.up hL
  refine k ⟨slots_ns hd hkk hff (F₂.keep _ _ hs), fun b o e => F₂.keep b o (T'.other b o (st b o e) ?_), F.above⟩ fun q hq => ⟨(N₂ q hq).1, fun hqL => ?_, ?_⟩
  · rw [efs]
    intro hb
    rw [List.mem_singleton.mp hb, L0] at e
    cases e
  · have z := (N₂ q hq).2.2
    rw [hqL, hs] at z
    cases z
  · cases hb : h₀.get? q.1 with
    | none => rfl
    | some o =>
      obtain ⟨sl', hs'⟩ := T'.up (st _ _ hb)
      have z := (N₂ q hq).2.2
      rw [hs'] at z
      cases z
end
section
variable {M : Model} {A : Around} {E : Value → Shared → Prop} {s : Shared} {K : Frag} {x C L f : Addr} {h₀ : Heap} {m : Str → Option Value} {ox : Obj} {od : Option Obj} {i : Value}
/-- del of an item of an own class's instance -/
theorem own_delItem {Q : Unit → Shared → Prop} (F : Fr h₀ L s.heap m) (X₀ : K.In h₀) (I : InstAt s.heap x ox C od) (hq : noSeq K C = true) (hs : findIn K (.ref C) "__delitem__" = some (some (.ref f))) (hf : isFn K (.ref f) = true)
    (h : wpAny M A (call (.ref f) [.ref x, i]) (fun _ s' => Q () s') E s) : wpAny M A (delItem (.ref x) i) Q E s := by
  have X := X₀.keeps F.keep
  have fin : wpAny M A (callSpecial? (.ref x) "__delitem__" [i]) (fun r s' => ∃ v, r = some v ∧ Q () s') E s :=
    special_fn X I hs (beq_iff_eq.mp hf) (wpAny_mono h (fun v _ z => ⟨v, rfl, z⟩) fun _ _ z => z)
  unfold delItem sequenceKey
  refine wpAny_holding (wpAny_bind (wpAny_bind (I.type.here (wpAny_bind ((anyM_none X hq).here ?_)))))
  rw [if_pos (show (!false) = true from rfl)]
  refine wpAny_pure (wpAny_bind (wpAny_mono fin (fun r s' hr => ?_) fun _ _ z => z))
  obtain ⟨v, rfl, hq'⟩ := hr
  exact wpAny_pure hq'
end
end Mine
end
section
open PySem PySem.W PySem.Calls PyProof.Rows PySem.Spec
set_option maxHeartbeats 2000000
namespace Mine
section
variable {prog : Program} {w : World} {A : Around} {E : Value → Shared → Prop} {s : Shared} {h₀ : Heap} {L : Addr} {m : Str → Option Value} {env : Env}
/-- what a turn of a tested comprehension over pairs shows -/
def TurnPT (prog : Program) (w : World) (A : Around) (h₀ : Heap) (L : Addr) (m : Str → Option Value) (env : Env) (elt ct : Expr) (x x₂ : Str) (scope : Scope) (cl : List (Str × Addr)) (s : Shared) (G : Nat → List Value → Prop) (P : Nat → Value → Prop) (n : Nat) (news : List (Addr × Obj)) : Prop :=
  ∀ i v, i < n → P i v → ∃ (t : Addr) (ot : Obj) (v₁ v₂ : Value) (nt : Nat), v = .ref t ∧ (t, ot) ∈ news ∧ ot.cls = .type "tuple" ∧ ot.data = .seq #[v₁, v₂] nt ∧
    ∀ I oI C oC D m₂ ys h tk (E' : Value → Shared → Prop), G i ys → LCg.NsObj oC m₂ → m₂ x = some v₁ → m₂ x₂ = some v₂ → Fr h₀ L h m → News h₀ L h ((I, oI) :: (C, oC) :: (D, LCg.lst ys) :: news) → LCg.Off3 I C D news → ((@Ne Nat I C) ∧ (@Ne Nat I D) ∧ (@Ne Nat C D)) →
      wpAny (model prog w) A (isTrue ct (compEnvC scope cl C env) (eval ct (compEnvC scope cl C env))) (fun ok s' => if ok = true then
        wpAny (model prog w) A (eval elt (compEnvC scope cl C env)) (fun y s'' => CEnd h₀ L m { s with heap := h, toks := tk } I oI C oC D ys news s'' ∧ G (i + 1) (ys ++ [y])) E' s'
        else CEnd h₀ L m { s with heap := h, toks := tk } I oI C oC D ys news s' ∧ G (i + 1) ys) E' { s with heap := h, toks := tk }
theorem my_blockPT {elt iter ct : Expr} {x x₂ : Str} {px px₂ tp : Pos} {tk} {scope : Scope} {cl : List (Str × Addr)} {pos : Pos} {s₂ : Shared} {I ax : Addr} {its : Array Value} {news : List (Addr × Obj)} {RR : Value → Addr → Result → Shared → Prop} (G : Nat → List Value → Prop)
    (hsz : its.size ≤ sizeLine) (hne : ax ≠ I) (hI : s₂.heap.IsListIter I ax 0) (hS : LCg.SrcAt h₀ ax its news)
    (hcell : ∀ y ∈ scope.names, y.2 ≠ .cell) (hkind : scope.kind = .function) (hx : scope.names.lookup x = some .local) (hx₂ : scope.names.lookup x₂ = some .local) (hxx : x ≠ x₂) (hh : A.handled = none)
    (F : Fr h₀ L s₂.heap m) (N : News h₀ L s₂.heap news) (hIL : L ≠ I) (hI₀ : h₀.get? I = none) (off : ∀ p ∈ news, p.1 ≠ I) (g0 : G 0 [])
    (T : TurnPT prog w A h₀ L m env elt ct x x₂ scope cl s₂ G (fun i v => its[i]? = some v) its.size news)
    (hRR : ∀ D C h tk m' ys, Fr h₀ L h m → News h₀ L h ((D, LCg.lst ys) :: news) → LCg.Off1 D news → h.Ns C m' → h₀.get? C = none → h₀.get? D = none → C ≠ L → D ≠ L → C ≠ D → (∀ p ∈ news, p.1 ≠ C) → G its.size ys → RR (.ref D) C (.ok .next) { s₂ with heap := h, toks := tk }) :
    wpAny (model prog w) A (newList []) (fun acc s₃ => wpAny (model prog w) A (newFunctionEnv scope env.globals cl [] env.qual none .none (some env)) (fun cenv s₄ =>
      codeAny (model prog w) A (.compStart (.ListComp elt [⟨.Tuple [.Name x px, .Name x₂ px₂] tk tp, iter, [ct], 0⟩] scope pos) 0 (.ref I) acc { cenv with scope := relabel scope env }) (RR acc cenv.locals) s₄) E s₃) E s₂ := by
  have W := Walks.list (prog := prog) (w := w) hh I ax hne its
  have hl₂ : s₂.heap.IsList ax its := hS.list F.keep N
  refine wpAny_newObj_type (wpAny_newFunctionEnv hcell (by intro y hy; simp at hy) (fun h₁ hns₁ hsb₁ => ?_) hkind)
  dsimp only at hns₁ hsb₁ ⊢
  generalize hH2 : s₂.heap.push { cls := .type "list", dict := none, data := .seq ([] : List Value).toArray } = H2 at hns₁ hsb₁ ⊢
  have hC : H2.objs.size = s₂.heap.objs.size + 1 := by rw [← hH2, Heap.size_push]
  have hDC : s₂.heap.objs.size ≠ H2.objs.size := by rw [hC]; exact Nat.ne_of_lt (Nat.lt_succ_self _)
  have below : ∀ b, b < s₂.heap.objs.size → b ≠ H2.objs.size ∧ b ≠ s₂.heap.objs.size := fun b hb => ⟨by rw [hC]; exact Nat.ne_of_lt (Nat.lt_succ_of_lt hb), Nat.ne_of_lt hb⟩
  have hIlt : I < s₂.heap.objs.size := by obtain ⟨_, e, _⟩ := hI; exact Heap.lt_size e
  have halt : ax < s₂.heap.objs.size := by obtain ⟨_, e, _⟩ := hl₂; exact Heap.lt_size e
  have hfp : ∀ b ∈ [I, ax], b ≠ H2.objs.size ∧ b ≠ s₂.heap.objs.size := by
    intro b hb
    simp only [List.mem_cons, List.not_mem_nil, or_false] at hb
    rcases hb with rfl | rfl
    · exact below _ hIlt
    · exact below _ halt
  have old : ∀ b o, s₂.heap.get? b = some o → h₁.get? b = some o := fun b o e => hsb₁.extBut b o (below b (Heap.lt_size e)).1 (Heap.get?_push_of_some _ (hH2 ▸ Heap.get?_push_of_some _ e))
  have hacc : h₁.get? s₂.heap.objs.size = some (LCg.lst []) := hsb₁.extBut _ _ hDC (Heap.get?_push_of_some _ (hH2 ▸ Heap.get?_push_size _ rfl))
  have hst₁ : h₁.IsListIter I ax 0 ∧ h₁.IsList ax its := W.frame 0 _ _ ⟨hI, hl₂⟩ fun b _ o e => old b o e
  have fresh₀ : ∀ a, s₂.heap.objs.size ≤ a → h₀.get? a = none := fun a ha => by
    cases e : h₀.get? a with
    | none => rfl
    | some o' => exact absurd (Heap.lt_size (F.keep a o' e)) (Nat.not_lt.mpr ha)
  have hD₀ : h₀.get? s₂.heap.objs.size = none := fresh₀ _ (Nat.le_refl _)
  have hC₀ : h₀.get? H2.objs.size = none := fresh₀ _ (by rw [hC]; exact Nat.le_succ _)
  have hDL : s₂.heap.objs.size ≠ L := Ne.symm (below L F.ns.lt).2
  have hCL : H2.objs.size ≠ L := Ne.symm (below L F.ns.lt).1
  have hCI : I ≠ H2.objs.size := (below I hIlt).1
  have hDI : I ≠ s₂.heap.objs.size := (below I hIlt).2
  have off₀ : LCg.Off3 I H2.objs.size s₂.heap.objs.size news := LCg.Off3.of fun p hp => ⟨off p hp, (below _ (Heap.lt_size (N p hp).1)).1, (below _ (Heap.lt_size (N p hp).1)).2⟩
  have off3 := off₀.mem
  have loop : ∀ s₃ : Shared, s₃ = { s₂ with heap := h₁, toks := s₂.toks + ([] : List (Str × Value)).length } →
      codeAny (model prog w) A (.compLoop (.ListComp elt [⟨.Tuple [.Name x px, .Name x₂ px₂] tk tp, iter, [ct], 0⟩] scope pos) 0 (.ref I) (.ref s₂.heap.objs.size) (compEnvC scope cl H2.objs.size env))
        (RR (.ref s₂.heap.objs.size) H2.objs.size) s₃ := by
    rintro s₃ rfl
    refine kct_loop
      (fun k s' => ∃ h' tk i ys m', s' = { s₂ with heap := h', toks := tk } ∧ i ≤ its.size ∧ k = its.size + 1 - i ∧ ys.length ≤ i ∧ (h'.IsListIter I ax i ∧ h'.IsList ax its) ∧ Fr h₀ L h' m ∧ h'.Ns H2.objs.size m' ∧ News h₀ L h' ((s₂.heap.objs.size, LCg.lst ys) :: news) ∧ G i ys) ?_ (its.size + 1)
      ⟨h₁, _, 0, [], _, rfl, Nat.zero_le _, rfl, Nat.le_refl _, hst₁, F.keeps old, hns₁, fun p hp => ?_, g0⟩
    · rintro k s' ⟨h', tk, i, ys, m', rfl, hi, rfl, hyl, hst', F', hn', N', g'⟩
      by_cases hlt : i < its.size
      · refine W.item i _ _ _ hlt hst' fun v h₂ tk₂ hPv hst₂ hk₂ => ?_
        obtain ⟨t, ot, v₁, v₂, nt, rfl, hmt, hct, hdt, turn⟩ := T i v hlt hPv
        have N₂ : News h₀ L h₂ ((s₂.heap.objs.size, LCg.lst ys) :: news) := LCg.news_but N' hk₂ fun p hp => by
          rcases List.mem_cons.mp hp with rfl | hp
          · exact Ne.symm hDI
          · exact (off3 p hp).1
        have ht : IsTup h₂ t #[v₁, v₂] := ⟨ot, (N₂ _ (List.mem_cons_of_mem _ hmt)).1, hct, nt, hdt⟩
        refine wpAny_letOwnedTupleGo_listiter hst₂.1 ?_
        refine assign_Tuple_tuple hh ht rfl rfl fun h₅ he => ?_
        have he' : ∀ b o, h₂.get? b = some o → h₅.get? b = some o := fun b o e => he b o (Nat.ne_of_lt (Heap.lt_size e)) e
        refine assignInOrder_cons (wpAny_assign_Name (wpAny_storeName_local (lookup_relabel_local hx) ((hn'.at' fun o e => hk₂ _ o (by simpa using Ne.symm hCI) e).at' fun o e => he' _ o e) (fun h₆ hn₆ hs₆ => ?_) (by simp [compEnvC, relabel, hkind])))
        refine assignInOrder_cons (wpAny_assign_Name (wpAny_storeName_local (lookup_relabel_local hx₂) hn₆ (fun h₃ hn₃ hs₃ => ?_) (by simp [compEnvC, relabel, hkind])))
        refine assignInOrder_nil ?_
        have old3 : ∀ b o, b ≠ H2.objs.size → h₂.get? b = some o → h₃.get? b = some o := fun b o hb e => hs₃.extBut b o hb (hs₆.extBut b o hb (he' b o e))
        have hst₃ : h₃.IsListIter I ax (i + 1) ∧ h₃.IsList ax its := W.frame _ _ _ hst₂ fun b hb o e => old3 b o (hfp b hb).1 e
        obtain ⟨oI, heI, _⟩ : ∃ o, h₃.get? I = some o ∧ True := by obtain ⟨o, e, _⟩ := hst₃.1; exact ⟨o, e, trivial⟩
        obtain ⟨oC, heC, hoC⟩ := LCg.ns_obj hn₃
        have F₃ : Fr h₀ L h₃ m := (((LCg.fr_but F' hk₂ hIL hI₀).keeps he').change hs₆ hCL hC₀).change hs₃ hCL hC₀
        have N₃ : News h₀ L h₃ ((I, oI) :: (H2.objs.size, oC) :: (s₂.heap.objs.size, LCg.lst ys) :: news) := fun p hp => by
          rcases List.mem_cons.mp hp with rfl | hp
          · exact ⟨heI, Ne.symm hIL, hI₀⟩
          · rcases List.mem_cons.mp hp with rfl | hp
            · exact ⟨heC, hCL, hC₀⟩
            · have z := N₂ p hp
              refine ⟨old3 _ _ ?_ z.1, z.2⟩
              rcases List.mem_cons.mp hp with rfl | hp
              · exact hDC
              · exact (off3 p hp).2.1
        have back : ∀ {ys' : List Value} {sE : Shared}, CEnd h₀ L m { s₂ with heap := h₃, toks := tk₂ } I oI H2.objs.size oC s₂.heap.objs.size ys' news sE → ∃ h₄ tk₄, sE = { s₂ with heap := h₄, toks := tk₄ } ∧ Fr h₀ L h₄ m ∧ News h₀ L h₄ ((I, oI) :: (H2.objs.size, oC) :: (s₂.heap.objs.size, LCg.lst ys') :: news) ∧ (h₄.IsListIter I ax (i + 1) ∧ h₄.IsList ax its) ∧ (∃ mm, h₄.Ns H2.objs.size mm) := by
          rintro ys' sE ⟨h₄, tk₄, rfl, F₄, N₄⟩
          have zI := (N₄ (I, oI) List.mem_cons_self).1
          have zC := (N₄ (H2.objs.size, oC) (List.mem_cons_of_mem _ List.mem_cons_self)).1
          have N₄' : News h₀ L h₄ news := fun p hp => N₄ p (List.mem_cons_of_mem _ (List.mem_cons_of_mem _ (List.mem_cons_of_mem _ hp)))
          exact ⟨h₄, tk₄, rfl, F₄, N₄, LCg.list_st _ _ _ _ _ hst₃ heI zI F₄.keep N₄' hS, _, hoC.ns zC⟩
        refine wpAny_mono (turn I oI H2.objs.size oC s₂.heap.objs.size _ ys h₃ _ _ g' hoC (by simp [hxx]) (by simp) F₃ N₃ off₀ ⟨hCI, hDI, Ne.symm hDC⟩) (fun ok s₄ h₄ => ?_) fun _ _ e => e
        cases ok with
        | true =>
          simp only [if_true] at h₄ ⊢
          refine wpAny_mono h₄ (fun y s₅ h₅ => ?_) fun _ _ e => e
          obtain ⟨ce, g''⟩ := h₅
          obtain ⟨h₄, tk₄, rfl, F₄, N₄, hst₄, mm, hn₄⟩ := back ce
          have zD := (N₄ (s₂.heap.objs.size, LCg.lst ys) (List.mem_cons_of_mem _ (List.mem_cons_of_mem _ List.mem_cons_self))).1
          refine append_at (hsz := by show ys.toArray.size ≤ sizeLine; rw [List.size_toArray]; omega) zD fun h₅ hs₅ hD₅ => ?_
          refine ⟨its.size + 1 - (i + 1), by omega, h₅, tk₄, i + 1, ys ++ [y], _, rfl, hlt, rfl, by rw [List.length_append, List.length_singleton]; omega, W.frame _ _ _ hst₄ fun b hb o e => hs₅.extBut b o (hfp b hb).2 e, F₄.change hs₅ hDL hD₀,
            hn₄.sameBut hs₅ (Ne.symm hDC), fun p hp => ?_, g''⟩
          rcases List.mem_cons.mp hp with rfl | hp
          · exact ⟨hD₅.trans (congrArg some (LCg.lst_snoc ys y)), hDL, hD₀⟩
          · have z := N₄ p (List.mem_cons_of_mem _ (List.mem_cons_of_mem _ (List.mem_cons_of_mem _ hp)))
            exact ⟨hs₅.extBut _ _ (off3 p hp).2.2 z.1, z.2⟩
        | false =>
          simp only [Bool.false_eq_true, if_false] at h₄ ⊢
          obtain ⟨ce, g''⟩ := h₄
          obtain ⟨h₄, tk₄, rfl, F₄, N₄, hst₄, mm, hn₄⟩ := back ce
          exact ⟨its.size + 1 - (i + 1), by omega, h₄, tk₄, i + 1, ys, _, rfl, hlt, rfl, by omega, hst₄, F₄, hn₄, fun p hp => N₄ p (List.mem_cons_of_mem _ (List.mem_cons_of_mem _ hp)), g''⟩
      · obtain rfl : i = its.size := Nat.le_antisymm hi (Nat.not_lt.mp hlt)
        refine W.done _ _ _ hst' fun h₂ tk₂ hk₂ => ?_
        exact hRR _ _ h₂ tk₂ _ ys (LCg.fr_but F' hk₂ hIL hI₀) (LCg.news_but N' hk₂ fun p hp => by
          rcases List.mem_cons.mp hp with rfl | hp
          · exact Ne.symm hDI
          · exact (off3 p hp).1) off₀.one (hn'.at' fun o e => hk₂ _ o (by simpa using Ne.symm hCI) e) hC₀ hD₀ hCL hDL (Ne.symm hDC) (fun p hp => (off3 p hp).2.1) g'
    · rcases List.mem_cons.mp hp with rfl | hp
      · exact ⟨hacc, hDL, hD₀⟩
      · exact ⟨old _ _ (N p hp).1, (N p hp).2⟩
  exact codeAny_compStart_list (loop _ rfl) (W.self 0 _ _ _ hst₁ (loop _ rfl))
end
end Mine
end
section
open PySem PySem.W PySem.Calls PyProof.Rows PySem.Spec
set_option maxHeartbeats 2000000
namespace Mine
section
variable {prog : Program} {w : World} {A : Around} {E : Value → Shared → Prop} {s : Shared} {h₀ : Heap} {L : Addr} {m : Str → Option Value} {env : Env}
/-- the list that a tested comprehension over pairs walks -/
def SrcPT (prog : Program) (w : World) (A : Around) (h₀ : Heap) (L : Addr) (m : Str → Option Value) (env : Env) (elt ct : Expr) (x x₂ : Str) (scope : Scope) (cl : List (Str × Addr)) (Fin : Shared → List Value → List (Addr × Obj) → Prop) (xv : Value) (s₁ : Shared) : Prop :=
  ∃ ax its news G, xv = .ref ax ∧ A.handled = none ∧ Fr h₀ L s₁.heap m ∧ News h₀ L s₁.heap news ∧ LCg.SrcAt h₀ ax its news ∧ its.size ≤ sizeLine ∧ G 0 [] ∧
    ∀ s₂ : Shared, (∃ h, s₂ = { s₁ with heap := h }) → TurnPT prog w A h₀ L m env elt ct x x₂ scope cl s₂ G (fun i v => its[i]? = some v) its.size news ∧ ∀ ys, G its.size ys → Fin s₂ ys news
theorem Assign_PT {elt iter ct : Expr} {x x₂ y : Str} {px px₂ tp py : Pos} {tk} {scope : Scope} {cl : List (Str × Addr)} {pos spos : Pos} {Q : Flow → Shared → Prop} (_F₀ : Fr h₀ L s.heap m) (hLe : env.locals = L)
    (hsw : swapsWith (.ListComp elt [⟨.Tuple [.Name x px, .Name x₂ px₂] tk tp, iter, [ct], 0⟩] scope pos) (some (.Name y py)) spos.line env = pure true)
    (hclos : closureFor scope env = pure cl) (hcell : ∀ z ∈ scope.names, z.2 ≠ .cell) (hkind : scope.kind = .function)
    (hnames : ∀ z ∈ scope.names, z.2 = .local → scope.names.lookup z.1 = some .local) (hx : scope.names.lookup x = some .local) (hx₂ : scope.names.lookup x₂ = some .local) (hxx : x ≠ x₂)
    (hy : env.kindOf y = some .local) (hp : (env.scope.kind == .class || (env.scope.kind == .module && env.locals != env.globals)) = false)
    (h : wpAny (model prog w) A (eval iter env) (SrcPT prog w A h₀ L m env elt ct x x₂ scope cl (fun s₂ => LCg.FinA h₀ L m s₂ y Q)) E s)
    (hs : ∀ x, foldedSetIterable iter env x = pure x := by intro _; rfl) :
    wpAny (model prog w) A (exec (.Assign [.Name y py] (.ListComp elt [⟨.Tuple [.Name x px, .Name x₂ px₂] tk tp, iter, [ct], 0⟩] scope pos) spos) env) Q E s := by
  subst hLe
  rw [exec_Assign_Name_used _ _ _ _ hsw]
  refine wpAny_bind (wpAny_standAt (wpAny_bind ?_))
  show wpAny _ A (do let _ ← comprehension (.ListComp elt [⟨.Tuple [.Name x px, .Name x₂ px₂] tk tp, iter, [ct], 0⟩] scope pos) scope env _ (newList []) false (eval iter env) (some (assign (.Name y py) env))) _ _ s
  refine wpAny_bind (wpAny_mono (wpAny_comprehension_free (use := some (assign (.Name y py) env)) (Q := fun _ s' => Q .next s') rfl hs hclos hkind hnames
    (wpAny_mono h (fun xv s₁ h₁ => ?_) fun _ _ e => e)) (fun _ s' hq => wpAny_pure (wpAny_pure hq)) fun _ _ e => e)
  obtain ⟨ax, its, news, G, rfl, hh, F, N, S, hsz, g0, R⟩ := h₁
  have hl := S.list F.keep N
  have hlt : ax < s₁.heap.objs.size := by obtain ⟨_, e, _⟩ := hl; exact Heap.lt_size e
  refine wpAny_pyIter_list hl ?_
  have up : ∀ b o, s₁.heap.get? b = some o → (s₁.heap.push { cls := .type "list_iterator", data := .fields #[.ref ax, .int 0 0] }).get? b = some o := fun b o e => Heap.get?_push_of_some _ e
  refine my_blockPT G hsz (Nat.ne_of_lt hlt) ⟨_, Heap.get?_push_size _ rfl, rfl, rfl⟩ S hcell hkind hx hx₂ hxx hh (F.keeps up) (N.grown up) (Nat.ne_of_lt F.ns.lt) (next_is_new F) (fun p hp => Nat.ne_of_lt (Heap.lt_size (N p hp).1)) g0 (R _ ⟨_, rfl⟩).1 ?_
  intro D C h' tk m' ys F' N' o1 hn hC₀ hD₀ hCL hDL hCD offC hg
  have fin := (R { s₁ with heap := s₁.heap.push { cls := .type "list_iterator", data := .fields #[.ref ax, .int 0 0] } } ⟨_, rfl⟩).2 ys hg
  show wpAny _ A (assign (.Name y py) env (.ref D)) _ _ _
  refine wpAny_assign_Name (wpAny_storeName_local hy F'.ns (fun h₂ hn₂ hs₂ => ?_) hp)
  have hL₀ : h₀.get? env.locals = none := Heap.get?_none_of_le F'.above
  have F₂ : Fr h₀ env.locals h₂ (fun z => if z = y then some (.ref D) else m z) := ⟨hn₂, fun b o e => hs₂.extBut b o (fun q => by rw [q, hL₀] at e; cases e) (F'.keep b o e), F'.above⟩
  refine ⟨m', hn.sameBut hs₂ hCL, fun h'' hs'' => fin D h'' _ (F₂.change hs'' hCL hC₀) (fun p hp => ?_) o1⟩
  have z : h₂.get? p.1 = some p.2 := hs₂.extBut _ _ (N' p hp).2.1 (N' p hp).1
  refine ⟨hs''.extBut _ _ ?_ z, (N' p hp).2⟩
  rcases List.mem_cons.mp hp with rfl | hp
  · exact Ne.symm hCD
  · exact offC p hp
theorem SrcPT.rows {elt ct : Expr} {x x₂ : Str} {scope : Scope} {cl : List (Str × Addr)} {Fin : Shared → List Value → List (Addr × Obj) → Prop} {R : Addr} {vs : List Value} {n : Nat} {tl news : List (Addr × Obj)} {c : Prs} {s₁ : Shared} (f : Int × Int → Bool) (g : Int × Int → Int)
    (hh : A.handled = none) (F : Fr h₀ L s₁.heap m) (N : News h₀ L s₁.heap news) (hm : (R, listOf vs.toArray n) ∈ news) (hsub : ∀ p ∈ tl, p ∈ news) (hR : RowsIn tl vs c) (hc : c.length ≤ 1000)
    (turn : ∀ s₂ : Shared, (∃ h, s₂ = { s₁ with heap := h }) → ∀ (i j : Int) (t u : Tok) I oI C oC D m₂ ys h tk (E' : Value → Shared → Prop), LCg.NsObj oC m₂ → m₂ x = some (.int i t) → m₂ x₂ = some (.int j u) → Fr h₀ L h m → News h₀ L h ((I, oI) :: (C, oC) :: (D, LCg.lst ys) :: news) → LCg.Off3 I C D news → ((@Ne Nat I C) ∧ (@Ne Nat I D) ∧ (@Ne Nat C D)) →
      wpAny (model prog w) A (isTrue ct (compEnvC scope cl C env) (eval ct (compEnvC scope cl C env))) (fun ok s' => ok = f (i, j) ∧ (ok = true →
        wpAny (model prog w) A (eval elt (compEnvC scope cl C env)) (fun y s'' => (∃ t', y = .int (g (i, j)) t') ∧ CEnd h₀ L m { s₂ with heap := h, toks := tk } I oI C oC D ys news s'') E' s') ∧
        CEnd h₀ L m { s₂ with heap := h, toks := tk } I oI C oC D ys news s') E' { s₂ with heap := h, toks := tk })
    (fin : ∀ s₂ : Shared, (∃ h, s₂ = { s₁ with heap := h }) → ∀ ys, IntsAre ys ((c.filter f).map g) → Fin s₂ ys news) : SrcPT prog w A h₀ L m env elt ct x x₂ scope cl Fin (.ref R) s₁ := by
  have hl : vs.toArray.size = c.length := by rw [List.size_toArray]; exact hR.length
  refine ⟨R, vs.toArray, news, fun i ys => IntsAre ys (((c.take i).filter f).map g), rfl, hh, F, N, .inr ⟨_, hm, rfl, n, rfl⟩, by rw [hl, sizeLine_eq]; omega, by simpa using IntsAre.nil, fun s₂ hs₂ => ⟨?_, ?_⟩⟩
  · intro i v hi hv
    have hv' : vs[i]? = some v := by simpa using hv
    obtain ⟨a, p, q, t, u, n', rfl, hci, hma⟩ := hR.at hv'
    refine ⟨a, _, _, _, n', rfl, hsub _ hma, rfl, rfl, ?_⟩
    intro I oI C oC D m₂ ys h tk E' hg hC hx hx₂ F' N' off ne
    have hs : ((c.take (i + 1)).filter f).map g = ((c.take i).filter f).map g ++ (if f (p, q) = true then [g (p, q)] else []) := by
      rw [List.take_add_one, hci, List.filter_append, List.map_append]
      congr 1
      cases hf : f (p, q) <;> simp [hf]
    refine wpAny_mono (turn s₂ hs₂ p q t u I oI C oC D m₂ ys h tk E' hC hx hx₂ F' N' off ne) (fun ok s' hq => ?_) fun _ _ e => e
    obtain ⟨e, h1, h2⟩ := hq
    cases ok with
    | true =>
      simp only [if_true]
      refine wpAny_mono (h1 rfl) (fun y s'' hy => ?_) fun _ _ e => e
      obtain ⟨⟨t', rfl⟩, hy⟩ := hy
      refine ⟨hy, ?_⟩
      rw [hs, if_pos e.symm]
      exact IntsAre.append hg (.cons _ t' .nil)
    | false =>
      simp only [Bool.false_eq_true, if_false]
      refine ⟨h2, ?_⟩
      rw [hs, if_neg (by rw [← e]; decide), List.append_nil]
      exact hg
  · intro ys hg
    rw [hl, List.take_length] at hg
    exact fin s₂ hs₂ ys hg
/-- the end of an assigned comprehension whose name is a cell -/
def FinC (h₀ : Heap) (L : Addr) (m : Str → Option Value) (s : Shared) (cc : Addr) (Q : Flow → Shared → Prop) (ys : List Value) (news : List (Addr × Obj)) : Prop :=
  ∃ o v₀ rest, news = (cc, o) :: rest ∧ o.data = .cell v₀ ∧ (∀ p ∈ rest, p.1 ≠ cc) ∧ ∀ D h tk o', Fr h₀ L h m → News h₀ L h ((D, LCg.lst ys) :: (cc, o') :: rest) → o'.data = .cell (some (.ref D)) → LCg.Off1 D news → Q .next { s with heap := h, toks := tk }
theorem off1_all {D : Addr} : ∀ {l : List (Addr × Obj)}, LCg.Off1 D l → ∀ p ∈ l, p.1 ≠ D
  | [], _, _, h => nomatch h
  | _ :: _, x, p, h => by
    rcases List.mem_cons.mp h with rfl | h
    · exact x.1
    · exact off1_all x.2 p h
theorem Assign_P_cell {elt iter : Expr} {x x₂ y : Str} {px px₂ tp py : Pos} {tk} {scope : Scope} {cl : List (Str × Addr)} {pos spos : Pos} {Q : Flow → Shared → Prop} {cc : Addr} (_F₀ : Fr h₀ L s.heap m) (hLe : env.locals = L)
    (hsw : swapsWith (.ListComp elt [⟨.Tuple [.Name x px, .Name x₂ px₂] tk tp, iter, [], 0⟩] scope pos) (some (.Name y py)) spos.line env = pure true)
    (hclos : closureFor scope env = pure cl) (hcell : ∀ z ∈ scope.names, z.2 ≠ .cell) (hkind : scope.kind = .function)
    (hnames : ∀ z ∈ scope.names, z.2 = .local → scope.names.lookup z.1 = some .local) (hx : scope.names.lookup x = some .local) (hx₂ : scope.names.lookup x₂ = some .local) (hxx : x ≠ x₂)
    (hy : env.kindOf y = some .cell) (hfk : env.scope.kind = .function) (hcc : env.cells.lookup y = some cc)
    (h : wpAny (model prog w) A (eval iter env) (LCp.SrcLP prog w A h₀ L m env elt x x₂ scope cl (fun s₂ => FinC h₀ L m s₂ cc Q)) E s)
    (hs : ∀ x, foldedSetIterable iter env x = pure x := by intro _; rfl) :
    wpAny (model prog w) A (exec (.Assign [.Name y py] (.ListComp elt [⟨.Tuple [.Name x px, .Name x₂ px₂] tk tp, iter, [], 0⟩] scope pos) spos) env) Q E s := by
  subst hLe
  rw [exec_Assign_Name_used _ _ _ _ hsw]
  refine wpAny_bind (wpAny_standAt (wpAny_bind ?_))
  show wpAny _ A (do let _ ← comprehension (.ListComp elt [⟨.Tuple [.Name x px, .Name x₂ px₂] tk tp, iter, [], 0⟩] scope pos) scope env _ (newList []) false (eval iter env) (some (assign (.Name y py) env))) _ _ s
  refine wpAny_bind (wpAny_mono (wpAny_comprehension_free (use := some (assign (.Name y py) env)) (Q := fun _ s' => Q .next s') rfl hs hclos hkind hnames
    (wpAny_mono h (fun xv s₁ h₁ => ?_) fun _ _ e => e)) (fun _ s' hq => wpAny_pure (wpAny_pure hq)) fun _ _ e => e)
  obtain ⟨ax, its, news, rfl, hh, F, N, S, hsz, R⟩ := h₁
  have hl := S.list F.keep N
  have hlt : ax < s₁.heap.objs.size := by obtain ⟨_, e, _⟩ := hl; exact Heap.lt_size e
  refine wpAny_pyIter_list hl ?_
  have up : ∀ b o, s₁.heap.get? b = some o → (s₁.heap.push { cls := .type "list_iterator", data := .fields #[.ref ax, .int 0 0] }).get? b = some o := fun b o e => Heap.get?_push_of_some _ e
  refine LCp.block_P (Walks.list hh s₁.heap.objs.size ax (Nat.ne_of_lt hlt) its) hsz (fun i h st => by obtain ⟨o, e, _⟩ := st.1; exact ⟨o, e⟩) LCg.list_st hcell hkind hx hx₂ hxx hh (fun i h st => ⟨_, _, st.1⟩) ⟨⟨_, Heap.get?_push_size _ rfl, rfl, rfl⟩, hl.push _⟩ (fun b hb => ?_)
    (F.keeps up) (N.grown up) (Nat.ne_of_lt F.ns.lt) (next_is_new F) (fun p hp => Nat.ne_of_lt (Heap.lt_size (N p hp).1)) S (R _ ⟨_, rfl⟩) ?_
  · show b < (s₁.heap.push _).objs.size
    rw [Heap.size_push]
    rcases List.mem_cons.mp hb with rfl | hb
    · exact Nat.lt_succ_self _
    · rw [List.mem_singleton.mp hb]; exact Nat.lt_succ_of_lt hlt
  · intro D C h' tk m' ys news' F' N' o1 hn hC₀ hD₀ hCL hDL hCD offC fin
    obtain ⟨o, v₀, rest, rfl, hd, hr, fin⟩ := fin
    have zc := N' (cc, o) (List.mem_cons_of_mem _ List.mem_cons_self)
    show wpAny _ A (assign (.Name y py) env (.ref D)) _ _ _
    refine wpAny_assign_Name (wpAny_storeName_cell hfk hy hcc ⟨o, zc.1, hd⟩ fun h₂ hv₂ hs₂ => ?_)
    obtain ⟨o', ho', hd'⟩ := hv₂
    have F₂ : Fr h₀ env.locals h₂ m := ⟨F'.ns.sameBut hs₂ (Ne.symm zc.2.1), fun b ob e => hs₂.extBut b ob (fun q => by rw [q, zc.2.2] at e; cases e) (F'.keep b ob e), F'.above⟩
    have hCcc : C ≠ cc := Ne.symm (offC (cc, o) List.mem_cons_self)
    have hDcc : D ≠ cc := Ne.symm (off1_all o1 (cc, o) List.mem_cons_self)
    refine ⟨m', hn.sameBut hs₂ hCcc, fun h'' hs'' => fin D h'' _ o' (F₂.change hs'' hCL hC₀) (fun p hp => ?_) hd' o1⟩
    rcases List.mem_cons.mp hp with rfl | hp
    · exact ⟨hs''.extBut _ _ (Ne.symm hCD) (hs₂.extBut _ _ hDcc (N' _ List.mem_cons_self).1), hDL, hD₀⟩
    · rcases List.mem_cons.mp hp with rfl | hp
      · exact ⟨hs''.extBut _ _ (Ne.symm hCcc) ho', zc.2⟩
      · have z := N' p (List.mem_cons_of_mem _ (List.mem_cons_of_mem _ hp))
        exact ⟨hs''.extBut _ _ (offC p (List.mem_cons_of_mem _ hp)) (hs₂.extBut _ _ (hr p hp) z.1), z.2⟩
theorem rows_P {elt : Expr} {x x₂ : Str} {scope : Scope} {cl : List (Str × Addr)} {S : List (Addr × Obj) → Prop} {Fin : List Value → List (Addr × Obj) → Prop} {vs : List Value} {tl news : List (Addr × Obj)} {c : Prs} (g : Int × Int → Int)
    (hsub : ∀ p ∈ tl, p ∈ news) (hR : RowsIn tl vs c) (hS : S news)
    (turn : ∀ (i j : Int) (t u : Tok) I oI C oC D m₂ ys h tk (E' : Value → Shared → Prop), LCg.NsObj oC m₂ → m₂ x = some (.int i t) → m₂ x₂ = some (.int j u) → Fr h₀ L h m → News h₀ L h ((I, oI) :: (C, oC) :: (D, LCg.lst ys) :: news) → LCg.Off3 I C D news → ((@Ne Nat I C) ∧ (@Ne Nat I D) ∧ (@Ne Nat C D)) →
      wpAny (model prog w) A (eval elt (compEnvC scope cl C env)) (fun y s'' => (∃ t', y = .int (g (i, j)) t') ∧ CEnd h₀ L m { s with heap := h, toks := tk } I oI C oC D ys news s'') E' { s with heap := h, toks := tk })
    (fin : ∀ ys, IntsAre ys (c.map g) → Fin ys news) : LCp.CompRestP prog w A h₀ L m env elt x x₂ scope cl s S (fun i v => vs.toArray[i]? = some v) Fin vs.toArray.size 0 [] news := by
  have hl : vs.toArray.size = c.length := by rw [List.size_toArray]; exact hR.length
  have key : ∀ (k i : Nat) (ys : List Value), i + k = vs.toArray.size → IntsAre ys ((c.take i).map g) → LCp.CompRestP prog w A h₀ L m env elt x x₂ scope cl s S (fun i v => vs.toArray[i]? = some v) Fin k i ys news := by
    intro k
    induction k with
    | zero =>
      intro i ys hi hg
      have e : i = vs.toArray.size := by omega
      subst e
      rw [hl, List.take_length] at hg
      exact LCp.CompRestP.zero (fin ys hg)
    | succ k ih =>
      intro i ys hi hg
      refine LCp.CompRestP.succ ?_
      intro v hv
      have hv' : vs[i]? = some v := by simpa using hv
      obtain ⟨a, p, q, t, u, n', rfl, hci, hma⟩ := hR.at hv'
      refine ⟨a, _, _, _, n', rfl, hsub _ hma, rfl, rfl, ?_⟩
      intro I oI C oC D m₂ h tk E' hC hx hx₂ F' N' off ne
      refine wpAny_mono (turn p q t u I oI C oC D m₂ ys h tk E' hC hx hx₂ F' N' off ne) (fun y s'' hy => ?_) fun _ _ e => e
      obtain ⟨⟨t', rfl⟩, h', tk', rfl, F'', N''⟩ := hy
      refine ⟨h', tk', news, rfl, F'', N'', off, hS, ih (i + 1) _ (by omega) ?_⟩
      have hs : (c.take (i + 1)).map g = (c.take i).map g ++ [g (p, q)] := by
        rw [List.take_add_one, hci, List.map_append]
        simp
      rw [hs]
      exact IntsAre.append hg (.cons _ t' .nil)
  exact key _ 0 [] (by omega) (by simpa using IntsAre.nil)
end
end Mine
end
theorem Mine.offT02 : True := by
  w_top off
  exact trivial
section
local macro_rules | `(tactic| walk_at "my pad") => `(tactic| fail)
local macro_rules | `(tactic| walk_at "my pad") => `(tactic| fail)
local macro_rules | `(tactic| walk_at "my pad") => `(tactic| fail)
local macro_rules | `(tactic| walk_at "my pad") => `(tactic| fail)
local macro_rules | `(tactic| walk_at "my pad") => `(tactic| fail)
open PySem PySem.W PyProof.Rows
namespace Mine
abbrev E2 (L fa : Addr) (cdv : Value) : Env := envOfC "law" (lawS Challenge.rw_fk5013_02.row.prog) L fa cdv
abbrev A2 (L fa : Addr) (cdv : Value) : Around := callerA.deeper (E2 L fa cdv)
abbrev B2 (i : Nat) : Stmt := stAt (forB Challenge.rw_fk5013_02.row.prog 3) i
theorem body2 : forB Challenge.rw_fk5013_02.row.prog 3 = [B2 0, B2 1, B2 2, B2 3, B2 4, B2 5, B2 6, B2 7] := rfl
theorem fm0 (z : Int) {n : Int} (h : 1 ≤ n) : 0 ≤ z.fmod n ∧ z.fmod n < n := by
  rw [Int.fmod_eq_emod_of_nonneg _ (by omega)]
  exact ⟨Int.emod_nonneg _ (by omega), Int.emod_lt_of_pos _ (by omega)⟩
section
variable {w : World} {h₀ : Heap} {L fa : Addr} {cdv : Value} {p : Program} {loose : List Str} {mean : ExcName → Option Value} {mg mb : Str → Option Value} {l x d dc R : Addr} {vs0 vs : List Value} {ns : List Int} {ta tb : Tok} {cap : Value} {ock ocm od : Obj} {kvs : List (Int × Value)} {c : Prs} {n : Nat}
  {tail led : List (Addr × Obj)} {m : Str → Option Value} {s : Shared} {E : Value → Shared → Prop} {Q : Flow → Shared → Prop}
set_option maxRecDepth 100000 in
set_option maxHeartbeats 8000000 in
theorem st0 {a many : Int} {tat tmn : Tok} {ov : Option Value} (B : Below callerA h₀ [] h₀) (X : (hd.heap_39 w.params).In h₀) (T : Top p loose mean mg mb h₀) (hl : h₀.IsList l vs0.toArray) (hi0 : IntsAre vs0 ns) (hns : ns.length ≤ 63) (ha : 0 ≤ a) (ha2 : a ≤ 100) (hmn : 1 ≤ many)
  (hm : ∀ p ∈ [(Str.ofString "script", Value.ref l), (Str.ofString "at", Value.int a tat), (Str.ofString "many", Value.int many tmn)], m p.1 = some p.2) (F : Fr h₀ L s.heap m) (N : News h₀ L s.heap ((L + 1 + 1, ock) :: tail)) (hck : ock.data = .cell ov) (hoff : OwnOff tail [L + 1 + 1])
  (done : ∀ way k t t' ock' h' tk, 0 ≤ way → way < 18 → 0 ≤ k → k < many → ock'.data = .cell (some (.int k t')) → Fr h₀ L h' (fun y => if y = "way" then some (.int way t) else m y) → News h₀ L h' ((L + 1 + 1, ock') :: tail) → Q .next { s with heap := h', toks := tk }) :
  wpAny (model Challenge.rw_fk5013_02.row.prog w) (A2 L fa cdv) (exec (B2 0) (E2 L fa cdv)) Q E s := by
  revert X
  k_fill
  intro X
  unfold A2 E2 B2
  conv in (stAt _ _) => whnf
  conv in (occs := *) (lawS _) => all_goals whnf
  rw [← kst_self hm] at F
  k_steps
  all_goals
    rename Fr _ _ _ _ => F9
    rename News _ _ _ _ => N9
    rw [kst_self hm] at F9
    refine done _ _ _ _ _ _ _ (fm0 _ (by omega)).1 (fm0 _ (by omega)).2 (fm0 _ hmn).1 (fm0 _ hmn).2 (by assumption) F9 (fun p hp => N9 p (List.mem_cons_of_mem _ hp))
local macro_rules | `(tactic| walk_at "exec Assign cons ListComp") => `(tactic| (k_here; k_dflt (refine Assign_PT (by k_asm) (by rfl) (by with_unfolding_all rfl) (by with_unfolding_all rfl) (by decide) (by rfl) (by decide) (by rfl) (by rfl) (by decide) (by rfl) (by rfl) ?_)))
set_option maxRecDepth 100000 in
set_option maxHeartbeats 8000000 in
theorem st1 {k : Int} {tk : Tok} (X : (hd.heap_39 w.params).In h₀)
  (hm : ∀ p ∈ [(Str.ofString "rows", Value.ref R)], m p.1 = some p.2) (F : Fr h₀ L s.heap m) (N : News h₀ L s.heap ((L + 1 + 1, ock) :: (R, listOf vs.toArray n) :: tail)) (hck : ock.data = .cell (some (.int k tk))) {tl0 : List (Addr × Obj)} (hsub : ∀ p ∈ tl0, p ∈ tail) (hR : RowsIn tl0 vs c) (hlen : c.length ≤ 100)
  (done : ∀ D ys h' tk, Fr h₀ L h' (fun y => if y = "known" then some (.ref D) else m y) → News h₀ L h' ((D, LCg.lst ys) :: (L + 1 + 1, ock) :: (R, listOf vs.toArray n) :: tail) → IntsAre ys ((c.filter fun p => decide (p.1 = k)).map (·.2)) → LCg.Off1 D ((L + 1 + 1, ock) :: (R, listOf vs.toArray n) :: tail) → Q .next { s with heap := h', toks := tk }) :
  wpAny (model Challenge.rw_fk5013_02.row.prog w) (A2 L fa cdv) (exec (B2 1) (E2 L fa cdv)) Q E s := by
  revert X
  k_fill
  intro X
  unfold A2 E2 B2
  conv in (stAt _ _) => whnf
  conv in (occs := *) (lawS _) => all_goals whnf
  rw [← kst_self hm] at F
  k_steps
  refine SrcPT.rows (c := c) (tl := tl0) (fun p => decide (p.1 = k)) (fun p => p.2) (by rfl) F N (by k_mem) (fun p hp => List.mem_cons_of_mem _ (List.mem_cons_of_mem _ (hsub p hp))) hR (by omega) ?_ ?_
  · rintro s₂ ⟨g, rfl⟩ i j t u I oI C oC D m₂ ys h tk' E' hC hx hx2 F' N' off ne
    k_steps
    all_goals exact CEnd.mk' F' N'
  · rintro s₂ ⟨g, rfl⟩ ys hy D h' tk' F' N' o1
    rw [kst_self hm] at F'
    exact done D ys h' tk' F' N' hy o1
end
end Mine
end
theorem Mine.offT02b : True := by
  w_top off
  exact trivial
section
local macro_rules | `(tactic| walk_at "my pad") => `(tactic| fail)
local macro_rules | `(tactic| walk_at "my pad") => `(tactic| fail)
local macro_rules | `(tactic| walk_at "my pad") => `(tactic| fail)
local macro_rules | `(tactic| walk_at "my pad") => `(tactic| fail)
local macro_rules | `(tactic| walk_at "my pad") => `(tactic| fail)
local macro_rules | `(tactic| walk_at "my pad") => `(tactic| fail)
local macro_rules | `(tactic| walk_at "my pad") => `(tactic| fail)
open PySem PySem.W PyProof.Rows
namespace Mine
section
local macro_rules | `(tactic| walk_at "exec Assign cons ListComp") => `(tactic| (k_here; k_dflt (refine LCt.Assign_ListComp_T (F₀ := by k_asm) (by rfl) (by with_unfolding_all rfl) (by with_unfolding_all rfl) (by decide) (by rfl) (by decide) (by rfl) (by rfl) (by rfl) ?_)))
variable {w : World} {h₀ : Heap} {L fa : Addr} {cdv : Value} {p : Program} {loose : List Str} {mean : ExcName → Option Value} {mg mb : Str → Option Value} {l x d dc R : Addr} {vs0 vs : List Value} {ns : List Int} {ta tb : Tok} {cap : Value} {ock ocm od : Obj} {kvs : List (Int × Value)} {c : Prs} {n : Nat}
  {tail led : List (Addr × Obj)} {m : Str → Option Value} {s : Shared} {E : Value → Shared → Prop} {Q : Flow → Shared → Prop}
set_option maxRecDepth 100000 in
set_option maxHeartbeats 1000000 in
theorem st2 {k : Int} {tk : Tok} (X : (hd.heap_39 w.params).In h₀)
  (hm : ∀ p ∈ [(Str.ofString "rows", Value.ref R)], m p.1 = some p.2) (F : Fr h₀ L s.heap m) (N : News h₀ L s.heap ((L + 1 + 1, ock) :: (R, listOf vs.toArray n) :: tail)) (hck : ock.data = .cell (some (.int k tk))) {tl0 : List (Addr × Obj)} (hsub : ∀ p ∈ tl0, p ∈ tail) (hR : RowsIn tl0 vs c) (hlen : c.length ≤ 100)
  (done : ∀ D ys h' tk, Fr h₀ L h' (fun y => if y = "rest" then some (.ref D) else m y) → News h₀ L h' ((D, LCg.lst ys) :: (L + 1 + 1, ock) :: (R, listOf vs.toArray n) :: tail) → RowsIn tl0 ys (kdyDel c k) → LCg.Off1 D ((L + 1 + 1, ock) :: (R, listOf vs.toArray n) :: tail) → Q .next { s with heap := h', toks := tk }) :
  wpAny (model Challenge.rw_fk5013_02.row.prog w) (A2 L fa cdv) (exec (B2 2) (E2 L fa cdv)) Q E s := by
  revert X
  k_fill
  intro X
  unfold A2 E2 B2
  conv in (stAt _ _) => whnf
  conv in (occs := *) (lawS _) => all_goals whnf
  rw [← kst_self hm] at F
  walk1
  walk1
  refine LCt.CompSrcT.ledger (by rfl) F N (by k_mem) (by rw [List.size_toArray, hR.length, sizeLine_eq]; omega) ?_
  intro g
  refine rows_filter (c := c) (fun p => !decide (p.1 = k)) (fun p hp => List.mem_cons_of_mem _ (List.mem_cons_of_mem _ (hsub p hp))) hR (.inr ⟨_, by k_mem, rfl, _, rfl⟩) ?_ ?_
  · intro a i j t u I oI C oC D m₂ ys h tk' E' hT hC hx F' N' off ne
    k_steps
    all_goals exact CEnd.mk' F' N'
  · intro ys hy D h' tk' F' N' o1
    rw [kst_self hm] at F'
    exact done D ys h' tk' F' N' hy o1
end
end Mine
end
section
open PySem PySem.W PySem.Calls PyProof.Rows PySem.Spec
namespace Mine
section
variable {prog : Program} {w : World} {A : Around} {E : Value → Shared → Prop} {s : Shared} {h₀ : Heap} {L : Addr} {m : Str → Option Value} {K : Frag} {x C f : Addr} {ox : Obj} {odx : Option Obj}
/-- the length that an own class's code gives back -/
def HintBack (Q : Shared → Prop) (v : Value) (s' : Shared) : Prop := ∃ k t, v = .int k t ∧ 0 ≤ k ∧ k ≤ 1000 ∧ Q s'
theorem own_hint {Q : Bool → Shared → Prop} (X : K.In s.heap) (I : W.InstAt s.heap x ox C odx) (hs : findIn K (.ref C) "__len__" = some (some (.ref f)))
    (h : ∀ E' : Value → Shared → Prop, wpAny (model prog w) A (call (.builtin "len") [.ref x]) (HintBack fun s' => ∀ b, Q b s') E' s) : wpAny (model prog w) A (Builtin.List.listLengthHint (.ref x)) Q E s := by
  unfold Builtin.List.listLengthHint
  refine wpAny_bind (wpAny_bind (I.type.here ((looks_findIn X hs).here ?_)))
  wp_delta
  refine wpAny_ite_split (fun hab => absurd hab (by show ¬ (false = true); decide)) (fun _ => ?_)
  refine wpAny_ite_split (fun _ => ?_) (fun hab => absurd rfl hab)
  refine wpAny_bind (wpAny_rule ?_)
  refine wpAny_bind (wpAny_attempt (wpAny_mono (h _) (fun n s' hn => ?_) fun _ _ e => e))
  obtain ⟨k, t, rfl, h0, h1, hq⟩ := hn
  dsimp only
  refine wpAny_bind (wpAny_pure ?_)
  dsimp only
  refine wpAny_ite_split (fun hab => absurd hab ?_) (fun _ => wpAny_pure (hq _))
  unfold Builtin.List.listTooLong
  rw [sizeLine_eq, decide_eq_true_iff]
  omega
/-- where an own class's iterator is at hand for `list` -/
def OwnIt (prog : Program) (w : World) (A : Around) (h₀ : Heap) (L : Addr) (m : Str → Option Value) (x S C : Addr) (ox : Obj) (odx : Option Obj) (c0 : Nat) (Q : Value → Shared → Prop) (it : Value) (s₁ : Shared) : Prop :=
  ∃ (I d : Addr) (oI od : Obj) (kvs : List (Int × Value)) (ep : Nat) (news : List (Addr × Obj)), it = .ref I ∧ W.InstAt s₁.heap x ox C odx ∧ Fr h₀ L s₁.heap m ∧ News h₀ L s₁.heap ((I, oI) :: (S, listOf #[] c0) :: news) ∧ KdkIter oI d 0 kvs.length ep ∧ KdkAt (intKind prog w) od kvs ep ∧ (d, od) ∈ news ∧ S ≠ I ∧ (∀ p ∈ news, p.1 < S) ∧ (∀ p ∈ news, p.1 ≠ I) ∧ kvs.length ≤ sizeLine ∧
    (∀ E' : Value → Shared → Prop, wpAny (model prog w) A (call (.builtin "len") [.ref x]) (HintBack fun s₂ => ∃ h tk, s₂ = { s₁ with heap := h, toks := tk } ∧ Fr h₀ L h m ∧ News h₀ L h ((I, oI) :: (S, listOf #[] c0) :: news)) E' s₁) ∧
    ∀ h tk (vs : List Value) n, Fr h₀ L h m → News h₀ L h ((S, listOf vs.toArray n) :: news) → vs.length = kvs.length → (∀ (j : Nat) (v : Value), vs[j]? = some v → ∃ (k : Int) (y : Value), kvs[j]? = some (k, y) ∧ (intKind prog w).is k v = true) → Q (.ref S) { s₁ with heap := h, toks := tk }
theorem own_list {Q : Value → Shared → Prop} {news : List (Addr × Obj)} (hh : A.handled = none) (F : Fr h₀ L s.heap m) (N : News h₀ L s.heap news) (X₀ : K.In h₀) (I : W.InstAt s.heap x ox C odx) (hs : findIn K (.ref C) "__len__" = some (some (.ref f)))
    (h : ∀ (E' : Value → Shared → Prop) S c0 h', (∀ q ∈ news, q.1 < S) → Fr h₀ L h' m → News h₀ L h' ((S, listOf #[] c0) :: news) → wpAny (model prog w) A.in1.in1 (pyIter (.ref x)) (OwnIt prog w A.in1.in1 h₀ L m x S C ox odx c0 Q) E' { s with heap := h' }) :
    wpAny (model prog w) A (call (.type "list") [.ref x]) Q E s := by
  have hxlt : x < s.heap.objs.size := Heap.lt_size I.at_
  refine callType_codes (Q₁ := fun obj s₁ => obj = .ref s.heap.objs.size ∧ s₁ = { s with heap := s.heap.push { cls := .type "list", data := .seq #[] } }) PySem.F.called_list (PySem.F.typeCall_list_1 _) PySem.F.entry_list_init
    (code_list_new _ ⟨rfl, rfl⟩) fun obj s₁ h₁ => ?_
  obtain ⟨rfl, rfl⟩ := h₁
  have hS : (s.heap.push { cls := .type "list", data := .seq #[] }).get? s.heap.objs.size = some { cls := .type "list", data := .seq #[] } := Heap.get?_push_size _ rfl
  refine ⟨⟨_, hS, rfl⟩, PySem.F.args_list_init_2 _ _, ?_⟩
  show wpAny _ _ (do let old ← Builtin.List.listItems (.ref s.heap.objs.size); Builtin.List.listUpdate (.ref s.heap.objs.size) (fun _ => #[]); letGo old.toList.reverse; Builtin.List.listExtendWith (.ref s.heap.objs.size) (.ref x) .none) _ _ _
  refine wpAny_bind ?_
  unfold Builtin.List.listItems
  refine wpAny_bind (wpAny_seqItems hS rfl (wpAny_pure ?_))
  show wpAny _ _ (updateSeq s.heap.objs.size (fun _ => #[]) >>= fun _ => letGo (#[] : Array Value).toList.reverse >>= fun _ => Builtin.List.listExtendWith (.ref s.heap.objs.size) (.ref x) .none) _ _ _
  refine wpAny_bind (wpAny_updateSeq hS rfl ?_)
  have hS₂ := Heap.get?_update_self (Obj.mapSeq (fun _ => (#[] : Array Value))) hS rfl
  refine wpAny_bind (wpAny_letGo ?_)
  have up : ∀ b o, s.heap.get? b = some o → ((s.heap.push { cls := .type "list", data := .seq #[] }).update s.heap.objs.size (Obj.mapSeq (fun _ => (#[] : Array Value)))).get? b = some o :=
    fun b o e => (Heap.get?_update_other _ _ (Nat.ne_of_gt (Heap.lt_size e))).trans (Heap.get?_push_of_some _ e)
  generalize hH : (s.heap.push { cls := .type "list", data := .seq #[] }).update s.heap.objs.size (Obj.mapSeq (fun _ => (#[] : Array Value))) = H at hS₂ up ⊢
  have hSL : s.heap.objs.size ≠ L := Ne.symm (Nat.ne_of_lt F.ns.lt)
  have hS0 : h₀.get? s.heap.objs.size = none := next_is_new F
  have F1 : Fr h₀ L H m := F.keeps up
  have N1 : News h₀ L H ((s.heap.objs.size, listOf #[] 0) :: news) := fun p hp => by
    rcases List.mem_cons.mp hp with rfl | hp
    · exact ⟨hS₂, hSL, hS0⟩
    · exact ⟨up _ _ (N p hp).1, (N p hp).2⟩
  have hlt : ∀ q ∈ news, q.1 < s.heap.objs.size := fun q hq => Heap.lt_size (N q hq).1
  have I1 : W.InstAt H x ox C odx := by
    refine ⟨up _ _ I.at_, I.cls, I.no, ?_⟩
    have hd := I.dict
    revert hd
    cases ox.dict <;> cases odx <;> intro hd <;> first | exact hd | exact up _ _ hd
  have hSx : s.heap.objs.size ≠ x := Nat.ne_of_gt hxlt
  generalize s.heap.objs.size = S at *
  unfold Builtin.List.listExtendWith
  refine wpAny_bind (I1.type.here ?_)
  have h1 : Builtin.List.listSameRef (.ref S) (.ref x) = false := by simp [Builtin.List.listSameRef, hSx]
  simp only [h1, Bool.false_or]
  refine wpAny_ite_split (fun hab => absurd hab (by show ¬ (false = true); decide)) (fun _ => ?_)
  refine wpAny_bind (wpAny_mono (h _ S 0 H hlt F1 N1) (fun it s₁ hit => ?_) fun _ _ e => e)
  obtain ⟨I', d, oI, od, kvs, ep, nw, rfl, I2, F2, N2, hI, hat, hd, hSI, hltS, hnI, hsz, hlen, hdone⟩ := hit
  refine wpAny_bind (wpAny_holding (own_hint (X₀.keeps F2.keep) I2 hs fun E' => wpAny_mono (hlen E') (fun n s₂ hn => ?_) fun _ _ e => e))
  obtain ⟨k, t, rfl, k0, k1, hp, tk, rfl, F3, N3⟩ := hn
  refine ⟨k, t, rfl, k0, k1, fun b => ?_⟩
  have zI := N3 (I', oI) List.mem_cons_self
  have zS := N3 (S, listOf #[] 0) (List.mem_cons_of_mem _ List.mem_cons_self)
  have zd := N3 (d, od) (List.mem_cons_of_mem _ (List.mem_cons_of_mem _ hd))
  have hdI : d ≠ I' := hnI _ hd
  have hdS : d ≠ S := Nat.ne_of_lt (hltS _ hd)
  have key : ∀ (g : Heap) (c₁ : Nat), (∀ b o, b ≠ S → hp.get? b = some o → g.get? b = some o) → g.get? S = some { cls := .type "list", data := .seq #[] c₁ } →
      codeAny (model prog w) A.in1 (.builtin "list.extend.loop" ⟨[.ref S, .ref I', .none], []⟩) (wants (fun r s₂ => r = .none ∧ Q (.ref S) s₂) E) { s₁ with heap := g, toks := tk } := by
    intro g c₁ hg hSg
    have hh' : A.in1.in1.handled = none := hh
    have W := Walks.dictKeys (prog := prog) (w := w) (knd := intKind prog w) hh' I' d hdI kvs ep
    refine codeAny_extend_loopS W.toS hsz S (by simp [hSI, Ne.symm hdS]) .none kvs.length 0 _ #[] c₁ rfl (Nat.zero_le _) ⟨hI.at (hg _ _ (Ne.symm hSI) zI.1), hat.dictAt (hg _ _ hdS zd.1)⟩ hSg (ItemsOf.nil _) fun s' acc' c' hm hS' hacc => ?_
    rw [Moved.eq_with hm]
    have mv : ∀ b o, b ≠ S → b ≠ I' → hp.get? b = some o → s'.heap.get? b = some o := fun b o b1 b2 e => hm.heap b o (by simp [b1, b2]) (hg b o b1 e)
    refine ⟨rfl, hdone s'.heap s'.toks acc'.toList c' ⟨F3.ns.at' fun o e => mv L o (Ne.symm zS.2.1) (Ne.symm zI.2.1) e, fun b o e => mv b o (fun q => by rw [q, zS.2.2] at e; cases e) (fun q => by rw [q, zI.2.2] at e; cases e) (F3.keep b o e), F3.above⟩ (fun p hp' => ?_) (by rw [Array.length_toList]; exact hacc.1) fun j v e => hacc.2 j v (by rw [← Array.getElem?_toList]; exact e)⟩
    rcases List.mem_cons.mp hp' with rfl | hp'
    · exact ⟨by rw [Array.toArray_toList]; exact hS', zS.2⟩
    · have z := N3 p (List.mem_cons_of_mem _ (List.mem_cons_of_mem _ hp'))
      exact ⟨mv _ _ (Nat.ne_of_lt (hltS p hp')) (hnI p hp') z.1, z.2⟩
  refine wpAny_ite_split (fun _ => ?_) (fun _ => wpAny_pure ⟨plainId_quiet PySem.F.plain_extend_loop _, key hp 0 (fun _ _ _ e => e) zS.1⟩)
  refine wpAny_bind (wpAny_rule ?_)
  refine wpAny_bind ?_
  show wpAny _ _ (updateSeq S (·.push .none) >>= fun _ => updateSeq S (·.pop)) _ _ _
  refine wpAny_bind (wpAny_updateSeq zS.1 rfl ?_)
  have hS₄ := Heap.get?_update_self (Obj.mapSeq (·.push Value.none)) zS.1 rfl
  refine wpAny_updateSeq (hz := by seq_fits) hS₄ rfl ?_
  have hS₅ := Heap.get?_update_self (Obj.mapSeq (·.pop)) hS₄ rfl
  exact wpAny_pure ⟨plainId_quiet PySem.F.plain_extend_loop _, key _ _ (fun b o hb e => (Heap.get?_update_other _ _ (Ne.symm hb)).trans ((Heap.get?_update_other _ _ (Ne.symm hb)).trans e)) hS₅⟩
end
end Mine
end
section
open PySem PySem.W PySem.Calls PyProof.Rows PySem.Spec
namespace Mine
section
variable {prog : Program} {w : World} {A : Around} {E : Value → Shared → Prop} {s : Shared} {h₀ : Heap} {L : Addr} {m : Str → Option Value} {x C : Addr} {ox : Obj} {odx : Option Obj}
theorem OwnIt.intro {S c0 I d : Addr} {oI od : Obj} {kvs : List (Int × Value)} {c : Prs} {ep : Nat} {news : List (Addr × Obj)} {Q : Value → Shared → Prop} (Ix : W.InstAt s.heap x ox C odx) (F : Fr h₀ L s.heap m) (N : News h₀ L s.heap ((I, oI) :: (S, listOf #[] c0) :: news)) (hI : KdkIter oI d 0 kvs.length ep) (hat : KdkAt (intKind prog w) od kvs ep)
    (hd : (d, od) ∈ news) (hSI : S < I) (hS : ∀ p ∈ news, p.1 < S) (hf : PyProof.V.FlatPairs PyData.int kvs (kdfD c)) (hn : c.length ≤ 1000)
    (hlen : ∀ E' : Value → Shared → Prop, wpAny (model prog w) A (call (.builtin "len") [.ref x]) (HintBack fun s₂ => ∃ h tk, s₂ = { s with heap := h, toks := tk } ∧ Fr h₀ L h m ∧ News h₀ L h ((I, oI) :: (S, listOf #[] c0) :: news)) E' s)
    (done : ∀ h tk (vs : List Value) n, Fr h₀ L h m → News h₀ L h ((S, listOf vs.toArray n) :: news) → IntsAre vs (c.map (·.1)) → Q (.ref S) { s with heap := h, toks := tk }) : OwnIt prog w A h₀ L m x S C ox odx c0 Q (.ref I) s := by
  refine ⟨I, d, oI, od, kvs, ep, news, rfl, Ix, F, N, hI, hat, hd, Nat.ne_of_lt hSI, hS, fun p hp => Nat.ne_of_lt (Nat.lt_trans (hS p hp) hSI), by rw [flat_len hf, sizeLine_eq]; omega, hlen, fun h tk vs n F' N' hl hw => done h tk vs n F' N' (kdy_ints (by rw [hl, flat_len hf, List.length_map]) fun j u hu => ?_)⟩
  obtain ⟨k, y, hx, hk⟩ := hw j u hu
  obtain ⟨z, hy⟩ := flat_key hf hx
  obtain ⟨t, rfl⟩ := Value.isInt_shape hk
  exact ⟨k, by rw [List.getElem?_map, hy]; rfl, t, rfl⟩
end
end Mine
end
theorem Mine.offU02a : True := by
  w_top off
  exact trivial
section
local macro_rules | `(tactic| walk_at "my pad") => `(tactic| fail)
local macro_rules | `(tactic| walk_at "my pad") => `(tactic| fail)
local macro_rules | `(tactic| walk_at "my pad") => `(tactic| fail)
local macro_rules | `(tactic| walk_at "my pad") => `(tactic| fail)
local macro_rules | `(tactic| walk_at "my pad") => `(tactic| fail)
local macro_rules | `(tactic| walk_at "my pad") => `(tactic| fail)
local macro_rules | `(tactic| walk_at "my pad") => `(tactic| fail)
local macro_rules | `(tactic| walk_at "my pad") => `(tactic| fail)
local macro_rules | `(tactic| walk_at "my pad") => `(tactic| fail)
open PySem PySem.W PyProof.Rows
namespace Mine
section
local macro_rules | `(tactic| walk_at "eval ListComp") => `(tactic| (k_here; k_dflt (refine LCp.ListComp_P (F₀ := by k_asm) (by with_unfolding_all rfl) (by decide) (by rfl) (by decide) (by rfl) (by rfl) (by decide) ?_)))
local macro_rules | `(tactic| walk_at "SrcLP") => `(tactic| (k_here; refine Stop.go ?_))
structure Stop (P : Prop) : Prop where
  go : P
variable {w : World} {h₀ : Heap} {L fa : Addr} {cdv : Value} {p : Program} {loose : List Str} {mean : ExcName → Option Value} {mg mb : Str → Option Value} {l x d dc R K : Addr} {vs0 vs ks : List Value} {ns : List Int} {ta tb : Tok} {cap : Value} {oks ocm od : Obj} {kvs : List (Int × Value)} {c : Prs} {n : Nat}
  {tail led : List (Addr × Obj)} {m : Str → Option Value} {s : Shared} {E : Value → Shared → Prop} {Q : Flow → Shared → Prop}
set_option maxRecDepth 100000 in
set_option maxHeartbeats 4000000 in
theorem st5 {ov : Option Value} (X : (hd.heap_39 w.params).In h₀)
  (hm : ∀ p ∈ [(Str.ofString "rows", Value.ref R)], m p.1 = some p.2) (F : Fr h₀ L s.heap m) (N : News h₀ L s.heap ((L + 1 + 1 + 1, oks) :: (R, listOf vs.toArray n) :: tail)) (hck : oks.data = .cell ov) (hoff : ∀ p ∈ tail, p.1 ≠ L + 1 + 1 + 1) (hR0 : R ≠ L + 1 + 1 + 1) {tl0 : List (Addr × Obj)} (hsub : ∀ p ∈ tl0, p ∈ tail) (hR : RowsIn tl0 vs c) (hlen : c.length ≤ 100)
  (done : ∀ D ys h' tk o', Fr h₀ L h' m → News h₀ L h' ((D, LCg.lst ys) :: (L + 1 + 1 + 1, o') :: (R, listOf vs.toArray n) :: tail) → o'.data = .cell (some (.ref D)) → IntsAre ys (c.map (·.1)) → LCg.Off1 D ((L + 1 + 1 + 1, oks) :: (R, listOf vs.toArray n) :: tail) → Q .next { s with heap := h', toks := tk }) :
  wpAny (model Challenge.rw_fk5013_02.row.prog w) (A2 L fa cdv) (exec (B2 5) (E2 L fa cdv)) Q E s := by
  revert X
  k_fill
  intro X
  unfold A2 E2 B2
  conv in (stAt _ _) => whnf
  conv in (occs := *) (lawS _) => all_goals whnf
  rw [← kst_self hm] at F
  refine wpAny_Assign_Name ?_ (by with_unfolding_all rfl)
  refine LCp.ListComp_P (F₀ := F) (by with_unfolding_all rfl) (by decide) (by rfl) (by decide) (by rfl) (by rfl) (by decide) ?_
  walk1
  refine LCp.SrcLP.ledger (by rfl) F N (by k_mem) (by rw [List.size_toArray, hR.length, sizeLine_eq]; omega) ?_
  intro g
  refine rows_P (c := c) (fun p => p.1) (fun p hp => List.mem_cons_of_mem _ (List.mem_cons_of_mem _ (hsub p hp))) hR (.inr ⟨_, by k_mem, rfl, _, rfl⟩) ?_ ?_
  · intro i j t u I oI C oC D m₂ ys h tk' E' hC hx hx2 F' N' off ne
    k_steps
    all_goals exact CEnd.mk' F' N'
  · intro ys hy D h' tk' F' N' o1
    have o2 := off1_all o1
    have h9 : OwnOff ((D, LCg.lst ys) :: (R, listOf vs.toArray n) :: tail) [L + 1 + 1 + 1] := by
      intro p hp b hb
      rw [List.mem_singleton.mp hb]
      rcases List.mem_cons.mp hp with rfl | hp
      · exact Ne.symm (o2 (L + 1 + 1 + 1, oks) List.mem_cons_self)
      · rcases List.mem_cons.mp hp with rfl | hp
        · exact hR0
        · exact hoff p hp
    generalize hT : (D, LCg.lst ys) :: (R, listOf vs.toArray n) :: tail = T9 at h9
    have N9 : News h₀ L h' ((L + 1 + 1 + 1, oks) :: T9) := fun p hp => N' p (by
      rw [← hT] at hp
      simp only [List.mem_cons] at hp ⊢
      rcases hp with rfl | rfl | rfl | hp <;> simp [*])
    clear N N'
    walk1
    rename Fr _ _ _ _ => F9
    rename News _ _ _ _ => N9
    rw [kst_self hm] at F9
    refine done D ys _ _ _ F9 (fun p hp => N9 p ?_) (by assumption) hy o1
    rw [← hT]
    simp only [List.mem_cons] at hp ⊢
    rcases hp with rfl | rfl | rfl | hp <;> simp [*]
end
end Mine
end
theorem Mine.offU02b : True := by
  w_top off
  exact trivial
section
local macro_rules | `(tactic| walk_at "my pad") => `(tactic| fail)
local macro_rules | `(tactic| walk_at "my pad") => `(tactic| fail)
local macro_rules | `(tactic| walk_at "my pad") => `(tactic| fail)
local macro_rules | `(tactic| walk_at "my pad") => `(tactic| fail)
local macro_rules | `(tactic| walk_at "my pad") => `(tactic| fail)
local macro_rules | `(tactic| walk_at "my pad") => `(tactic| fail)
local macro_rules | `(tactic| walk_at "my pad") => `(tactic| fail)
local macro_rules | `(tactic| walk_at "my pad") => `(tactic| fail)
local macro_rules | `(tactic| walk_at "my pad") => `(tactic| fail)
local macro_rules | `(tactic| walk_at "my pad") => `(tactic| fail)
local macro_rules | `(tactic| walk_at "my pad") => `(tactic| fail)
local macro_rules | `(tactic| walk_at "my pad") => `(tactic| fail)
open PySem PySem.W PyProof.Rows
namespace Mine
section
local macro_rules | `(tactic| walk_at "my in") => `(tactic| first | assumption | exact List.mem_cons_self | (refine List.mem_cons_of_mem _ ?_; walk_at "my in"))
local macro_rules | `(tactic| walk_at "my sub") => `(tactic| (intro p9 hp9; walk_at "my in"))
local macro_rules | `(tactic| walk_at "OwitIt") => `(tactic| (k_dflt (refine' owit_key ?N ?m ?h ?_; (case N => k_asm); (case m => k_mem); (case h => k_asm))))
local macro_rules | `(tactic| walk_at "call type:list") => `(tactic| (k_here; (with_reducible show wpAny _ _ (call (Value.type "list") [Value.ref _]) _ _ _); k_dflt (first
  | (refine listK (by rfl) (by k_asm) (by k_asm) (by k_mem) (by k_mem) (by k_asm) (by k_asm) (by omega) ?_; intro D' n' h' tk' vs' F' N' l1 hi'; (try k_lt l1))
  | (refine' own_list ?hh ?F ?N ?X ?I ?hs ?_; (case hh => rfl); (case F => k_asm); (case N => k_asm); (case X => k_asm); (case I => k_inst); (case hs => k_is); intro E9 S9 c9 h9 l9 F9 N9; (try k_lt l9)))))
local macro_rules | `(tactic| walk_at "pyIter ref") => `(tactic| ((with_reducible show wpAny _ _ (pyIter (Value.ref _)) (OwnIt _ _ _ _ _ _ _ _ _ _ _ _ _) _ _); k_here; k_dflt (refine' owit_iter ?F ?X ?I ?hs ?hf ?_; (case F => k_asm); (case X => k_asm); (case I => k_inst); (case hs => k_is); (case hf => k_is); k_whole)))
local macro_rules | `(tactic| walk_at "OwnIt") => `(tactic| (k_dflt (refine' OwnIt.intro ?Ix ?F ?N ?I ?ka ?d ?si ?lt ?f ?n (fun E9 => ?_) (fun h9 tk9 vs9 n9 F9 N9 hi9 => ?_); (case F => k_asm); (case N => k_asm); (case Ix => k_inst); (case I => k_asm); (case ka => k_asm); (case d => k_mem); (case f => k_asm); (case n => omega); (case si => (refine ltN ?_; omega)); (case lt => (refine allLt_all ?_; simp only [AllLt, and_true]; first | assumption | omega)))))
local macro_rules | `(tactic| walk_at "HintBack") => `(tactic| exact ⟨_, _, rfl, by omega, by omega, _, _, rfl, by k_asm, by k_asm⟩)

variable {w : World} {h₀ : Heap} {L fa : Addr} {cdv : Value} {p : Program} {loose : List Str} {mean : ExcName → Option Value} {mg mb : Str → Option Value} {l x d dc R K : Addr} {vs0 vs ks : List Value} {ns : List Int} {ta tb : Tok} {cap : Value} {oks ocm od : Obj} {kvs : List (Int × Value)} {c : Prs} {n : Nat}
  {tail led : List (Addr × Obj)} {m : Str → Option Value} {s : Shared} {E : Value → Shared → Prop} {Q : Flow → Shared → Prop}
theorem len_rows {prog : Program} {w : World} {A : Around} {E : Value → Shared → Prop} {s : Shared} {h₀ : Heap} {L R : Addr} {news tl : List (Addr × Obj)} {vs : List Value} {c : Prs} {n : Nat} {Q : Value → Shared → Prop} (N : News h₀ L s.heap news) (hm : (R, listOf vs.toArray n) ∈ news) (hR : RowsIn tl vs c) (hc : c.length ≤ 1000)
    (h : Q (.int (c.length : Int) (s.toks + 1)) { s with toks := s.toks + 1 + 1 }) : wpAny (model prog w) A (call (.builtin "len") [.ref R]) Q E s := by
  have hl : s.heap.IsList R vs.toArray := ⟨_, (N _ hm).1, rfl, n, rfl⟩
  have e : vs.toArray.size = c.length := by rw [List.size_toArray]; exact hR.length
  exact PySem.Calls.call_len_list hl (by rw [e]; omega) (by rw [e]; exact h)
set_option maxRecDepth 100000 in
set_option maxHeartbeats 4000000 in
theorem st6 (B : Below callerA h₀ [] h₀) (X : (hd.heap_39 w.params).In h₀) (T : Top p loose mean mg mb h₀)
  (F : Fr h₀ L s.heap m) (N : News h₀ L s.heap ((L + 1 + 1 + 1, oks) :: (K, LCg.lst ks) :: (L + 1, ocm) :: (x, instObj 112 d) :: (d, inD w ta tb cap dc) :: (dc, od) :: tail)) (hks : oks.data = .cell (some (.ref K))) (hki : IntsAre ks (c.map (·.1))) (hcm : ocm.data = .cell (some (.ref x))) (hlen : c.length ≤ 100)
  (lo : (dc == sysModules) = false) (hd : od.IsDictOf (intKind Challenge.rw_fk5013_02.row.prog w) kvs) (hf : PyProof.V.FlatPairs PyData.int kvs (kdfD c))
  (done : ∀ h' tk, Fr h₀ L h' m → News h₀ L h' ((L + 1 + 1 + 1, oks) :: (K, LCg.lst ks) :: (L + 1, ocm) :: (x, instObj 112 d) :: (d, inD w ta tb cap dc) :: (dc, od) :: tail) → Q .next { s with heap := h', toks := tk }) :
  wpAny (model Challenge.rw_fk5013_02.row.prog w) (A2 L fa cdv) (exec (B2 6) (E2 L fa cdv)) Q E s := by
  have hm : ∀ p ∈ ([] : List (Str × Value)), m p.1 = some p.2 := fun _ h => nomatch h
  revert X
  k_fill
  intro X
  unfold A2 E2 B2
  conv in (stAt _ _) => whnf
  conv in (occs := *) (lawS _) => all_goals whnf
  rw [← kst_self hm] at F
  k_steps
  all_goals first
  | exact absurd (show ((c.length : Nat) : Int) = (((c.map fun x => x.1).length : Nat) : Int) by rw [List.length_map]) (by assumption)
  | (rename Fr _ _ _ _ => F9
     rename News _ _ _ _ => N9
     rw [kst_self hm] at F9
     exact done _ _ F9 (fun p hp => N9 p (by walk_at "my in")))
end
end Mine
end
theorem Mine.offU02c : True := by
  w_top off
  exact trivial
section
local macro_rules | `(tactic| walk_at "my pad") => `(tactic| fail)
local macro_rules | `(tactic| walk_at "my pad") => `(tactic| fail)
local macro_rules | `(tactic| walk_at "my pad") => `(tactic| fail)
local macro_rules | `(tactic| walk_at "my pad") => `(tactic| fail)
local macro_rules | `(tactic| walk_at "my pad") => `(tactic| fail)
local macro_rules | `(tactic| walk_at "my pad") => `(tactic| fail)
local macro_rules | `(tactic| walk_at "my pad") => `(tactic| fail)
local macro_rules | `(tactic| walk_at "my pad") => `(tactic| fail)
local macro_rules | `(tactic| walk_at "my pad") => `(tactic| fail)
local macro_rules | `(tactic| walk_at "my pad") => `(tactic| fail)
local macro_rules | `(tactic| walk_at "my pad") => `(tactic| fail)
local macro_rules | `(tactic| walk_at "my pad") => `(tactic| fail)
local macro_rules | `(tactic| walk_at "my pad") => `(tactic| fail)
local macro_rules | `(tactic| walk_at "my pad") => `(tactic| fail)
local macro_rules | `(tactic| walk_at "my pad") => `(tactic| fail)
local macro_rules | `(tactic| walk_at "my pad") => `(tactic| fail)
local macro_rules | `(tactic| walk_at "my pad") => `(tactic| fail)
local macro_rules | `(tactic| walk_at "my pad") => `(tactic| fail)
local macro_rules | `(tactic| walk_at "my pad") => `(tactic| fail)
local macro_rules | `(tactic| walk_at "my pad") => `(tactic| fail)
open PySem PySem.W PyProof.Rows
namespace Mine
theorem range_none {prog : Program} {w : World} {A : Around} {h₀ : Heap} {L : Addr} {m : Str → Option Value} {env : Env} {ct elt : Expr} {x : Str} {scope : Scope} {cl : List (Str × Addr)} {s : Shared} {S : List (Addr × Obj) → Prop} {Fin : List Value → List (Addr × Obj) → Prop} {news : List (Addr × Obj)} {k0 : Int} {n : Nat} (hS : S news)
    (turn : ∀ (k : Int) (t : Tok) I oI C oC D m₂ ys h tk (E' : Value → Shared → Prop), LCg.NsObj oC m₂ → m₂ x = some (.int k t) → Fr h₀ L h m → News h₀ L h ((I, oI) :: (C, oC) :: (D, LCg.lst ys) :: news) → LCg.Off3 I C D news → ((@Ne Nat I C) ∧ (@Ne Nat I D) ∧ (@Ne Nat C D)) →
      wpAny (model prog w) A (isTrue ct (compEnvC scope cl C env) (eval ct (compEnvC scope cl C env))) (fun ok s' => ok = false ∧ CEnd h₀ L m { s with heap := h, toks := tk } I oI C oC D ys news s') E' { s with heap := h, toks := tk })
    (fin : Fin [] news) : LCt.CompRestT prog w A h₀ L m env ct elt x scope cl s S (fun i v => ∃ t, v = .int (k0 + (i : Int)) t) Fin n 0 [] news := by
  refine restT (fun _ ys => ys = []) _ hS rfl ?_ fun ys hy => by rw [hy]; exact fin
  intro i v I oI C oC D m₂ ys h tk E' hi hg hv hC hx F N off ne
  obtain ⟨t, rfl⟩ := hv
  refine wpAny_mono (turn _ t I oI C oC D m₂ ys h tk E' hC hx F N off ne) (fun ok s' hq => ?_) fun _ _ e => e
  obtain ⟨rfl, hq⟩ := hq
  simp only [Bool.false_eq_true, if_false]
  exact ⟨hq, hg⟩
theorem has_any (c : Prs) (k : Int) : ((c.map fun x => x.1).any fun x => x == k) = kdfHas c k := by
  unfold kdfHas
  rw [List.any_map]
  rfl
section
local macro_rules | `(tactic| walk_at "my in") => `(tactic| first | assumption | exact List.mem_cons_self | (refine List.mem_cons_of_mem _ ?_; walk_at "my in"))
local macro_rules | `(tactic| walk_at "my sub") => `(tactic| (intro p9 hp9; walk_at "my in"))
local macro_rules | `(tactic| walk_at "eval ListComp") => `(tactic| (k_here; (with_reducible show wpAny _ _ (eval (Expr.ListComp _ [⟨_, _, [_], _⟩] _ _) _) _ _ _); k_dflt (refine LCt.ListComp_T (F₀ := by k_asm) (by with_unfolding_all rfl) (by decide) (by rfl) (by decide) (by rfl) ?_)))
local macro_rules | `(tactic| walk_at "CompSrcT") => `(tactic| (k_here; k_dflt (refine LCt.CompSrcT.range (n := 14) (by rfl) (by k_asm) (by k_asm) (by assumption) (by decide) (by rfl) (by exact Nat.le_of_ble_eq_true rfl) ?_); intro g'; refine' range_none trivial (fun k' t' I' oI' C' oC' D' m' ys' h' tk' E' hC' hx' F' N' off' ne' => ?_) (fun D' h' tk' F' N' o1' => ?_)))
local macro_rules | `(tactic| walk_at "CEnd") => `(tactic| exact CEnd.mk' (by k_asm) (by k_asm))
variable {w : World} {h₀ : Heap} {L fa : Addr} {cdv : Value} {p : Program} {loose : List Str} {mean : ExcName → Option Value} {mg mb : Str → Option Value} {l x d dc R K : Addr} {vs0 vs ks : List Value} {ns : List Int} {ta tb : Tok} {cap : Value} {oks ocm od : Obj} {kvs : List (Int × Value)} {c : Prs} {n : Nat}
  {tail led : List (Addr × Obj)} {m : Str → Option Value} {s : Shared} {E : Value → Shared → Prop} {Q : Flow → Shared → Prop}
set_option maxRecDepth 100000 in
set_option maxHeartbeats 4000000 in
theorem st7 (B : Below callerA h₀ [] h₀) (X : (hd.heap_39 w.params).In h₀) (T : Top p loose mean mg mb h₀)
  (F : Fr h₀ L s.heap m) (N : News h₀ L s.heap ((L + 1 + 1 + 1, oks) :: (K, LCg.lst ks) :: (L + 1, ocm) :: (x, instObj 112 d) :: (d, inD w ta tb cap dc) :: (dc, od) :: tail)) (hks : oks.data = .cell (some (.ref K))) (hki : IntsAre ks (c.map (·.1))) (hcm : ocm.data = .cell (some (.ref x))) (hlen : c.length ≤ 100)
  (lo : (dc == sysModules) = false) (hd : od.IsDictOf (intKind Challenge.rw_fk5013_02.row.prog w) kvs) (hf : PyProof.V.FlatPairs PyData.int kvs (kdfD c))
  (done : ∀ h' tk, Fr h₀ L h' m → News h₀ L h' ((L + 1 + 1 + 1, oks) :: (K, LCg.lst ks) :: (L + 1, ocm) :: (x, instObj 112 d) :: (d, inD w ta tb cap dc) :: (dc, od) :: tail) → Q .next { s with heap := h', toks := tk }) :
  wpAny (model Challenge.rw_fk5013_02.row.prog w) (A2 L fa cdv) (exec (B2 7) (E2 L fa cdv)) Q E s := by
  have hm : ∀ p ∈ ([] : List (Str × Value)), m p.1 = some p.2 := fun _ h => nomatch h
  revert X
  k_fill
  intro X
  unfold A2 E2 B2
  conv in (stAt _ _) => whnf
  conv in (occs := *) (lawS _) => all_goals whnf
  rw [← kst_self hm] at F
  k_steps
  all_goals first
  | (exfalso
     rename (_ != _) = true => a9
     rw [has_any] at a9
     simp at a9
     done)
  | exact ⟨_, _, _, rfl, by k_asm, by k_asm, by assumption, trivial, rfl, rfl⟩
  | (rename Fr _ _ _ _ => F9
     rename News _ _ _ _ => N9
     rw [kst_self hm] at F9
     exact done _ _ F9 (fun p hp => N9 p (by walk_at "my in")))
end
end Mine
end
section
open PySem PySem.W PyProof.Rows
namespace Mine
theorem ints_nil {ks : List Value} (h : IntsAre ks []) : ks = [] := by
  cases h; rfl
theorem ints_one {ks : List Value} {a : Int} (h : IntsAre ks [a]) : ∃ t, ks = [.int a t] := by
  cases h with
  | cons _ t h2 => cases h2; exact ⟨t, rfl⟩
end Mine
end
theorem Mine.offY1 : True := by
  w_top off
  exact trivial
section
local macro_rules | `(tactic| walk_at "my pad") => `(tactic| fail)
local macro_rules | `(tactic| walk_at "my pad") => `(tactic| fail)
local macro_rules | `(tactic| walk_at "my pad") => `(tactic| fail)
local macro_rules | `(tactic| walk_at "my pad") => `(tactic| fail)
local macro_rules | `(tactic| walk_at "my pad") => `(tactic| fail)
local macro_rules | `(tactic| walk_at "my pad") => `(tactic| fail)
local macro_rules | `(tactic| walk_at "my pad") => `(tactic| fail)
local macro_rules | `(tactic| walk_at "my pad") => `(tactic| fail)
local macro_rules | `(tactic| walk_at "my pad") => `(tactic| fail)
local macro_rules | `(tactic| walk_at "my pad") => `(tactic| fail)
local macro_rules | `(tactic| walk_at "my pad") => `(tactic| fail)
local macro_rules | `(tactic| walk_at "my pad") => `(tactic| fail)
local macro_rules | `(tactic| walk_at "my pad") => `(tactic| fail)
local macro_rules | `(tactic| walk_at "my pad") => `(tactic| fail)
local macro_rules | `(tactic| walk_at "my pad") => `(tactic| fail)
local macro_rules | `(tactic| walk_at "my pad") => `(tactic| fail)
local macro_rules | `(tactic| walk_at "my pad") => `(tactic| fail)
local macro_rules | `(tactic| walk_at "my pad") => `(tactic| fail)
local macro_rules | `(tactic| walk_at "my pad") => `(tactic| fail)
local macro_rules | `(tactic| walk_at "my pad") => `(tactic| fail)
local macro_rules | `(tactic| walk_at "my pad") => `(tactic| fail)
local macro_rules | `(tactic| walk_at "my pad") => `(tactic| fail)
local macro_rules | `(tactic| walk_at "my pad") => `(tactic| fail)
local macro_rules | `(tactic| walk_at "my pad") => `(tactic| fail)
local macro_rules | `(tactic| walk_at "my pad") => `(tactic| fail)
local macro_rules | `(tactic| walk_at "my pad") => `(tactic| fail)
open PySem PySem.W PyProof.Rows
namespace Mine
theorem len_led {prog : Program} {w : World} {A : Around} {E : Value → Shared → Prop} {s : Shared} {h₀ : Heap} {L R : Addr} {news : List (Addr × Obj)} {vs : List Value} {n : Nat} {Q : Value → Shared → Prop} (N : News h₀ L s.heap news) (hm : (R, listOf vs.toArray n) ∈ news) (hc : vs.length ≤ 1000)
    (h : Q (.int (vs.length : Int) (s.toks + 1)) { s with toks := s.toks + 1 + 1 }) : wpAny (model prog w) A (call (.builtin "len") [.ref R]) Q E s := by
  have hl : s.heap.IsList R vs.toArray := ⟨_, (N _ hm).1, rfl, n, rfl⟩
  have e : vs.toArray.size = vs.length := List.size_toArray
  exact PySem.Calls.call_len_list hl (by rw [e]; omega) (by rw [e]; exact h)
section
local macro_rules | `(tactic| walk_at "my dp") => `(tactic| first | decide | ((try simp only [depth_under_make, depth_under_kw, depth_in1, depth_deeper, depth_caller]); decide))
local macro_rules | `(tactic| walk_at "call ref") => `(tactic| (k_here; (with_reducible show wpAny _ _ (call (Value.ref 109) _) _ _ _); k_dflt (refine' set_at ?B ?dp ?X ?T ?F ?N ?x ?dd ?U ?xd ?xc ?dc ?lo ?hd ?hf ?hc ?hn ?cap (fun h' o' kvs' tk' F' N' hd' hf' => ?_); (case B => k_asm); (case dp => walk_at "my dp"); (case X => k_in); (case T => k_asm); (case F => k_asm); (case N => k_asm); (case x => k_mem); (case dd => k_mem); (case U => k_updF); (case xd => k_ne); (case xc => k_ne); (case dc => k_ne); (case lo => k_asm); (case hd => k_asm); (case hf => k_asm); (case hc => omega); (case hn => assumption); (case cap => assumption)); (try dsimp only at N')))
local macro_rules | `(tactic| walk_at "my len") => `(tactic| ((try simp only [List.length_append, List.length_cons, List.length_nil]); omega))
local macro_rules | `(tactic| walk_at "binaryOp Add ref ref") => `(tactic| (k_here; k_dflt (refine' my_add ?F ?N ?a ?b ?z ?z2 ?_; (case F => k_asm); (case N => k_asm); (case a => k_mem); (case b => k_mem); (case z => walk_at "my len"); (case z2 => walk_at "my len")); intro D' h' F' N' l1; (try k_lt l1)))
local macro_rules | `(tactic| walk_at "subscriptTail Name Slice ref ref") => `(tactic| (k_here; k_dflt (refine' my_slice_pos ?x ?F ?N ?l ?z ?_ ?s ?t; (case F => k_asm); (case N => k_asm); (case l => k_mem); (case x => omega); (case z => walk_at "my len"); (case s => with_unfolding_all rfl); (case t => kmk_pure)); intro D' h' F' N' l1; (try k_lt l1)))
local macro_rules | `(tactic| walk_at "my in") => `(tactic| first | assumption | exact List.mem_cons_self | (refine List.mem_cons_of_mem _ ?_; walk_at "my in"))
local macro_rules | `(tactic| walk_at "my incl") => `(tactic| first | exact List.forall_mem_nil _ | (refine List.forall_mem_cons.mpr ⟨?_, ?_⟩; (focus walk_at "my in"); walk_at "my incl") | (intro p9 hp9; walk_at "my in"))
local macro_rules | `(tactic| walk_at "my split") => `(tactic| repeat (rename _ ∧ _ => hA9; obtain ⟨hA1, hA2⟩ := hA9))
local macro_rules | `(tactic| walk_at "my off") => `(tactic| exact fun p hp => Nat.ne_of_lt (allLt_all (by assumption) p hp))
local macro_rules | `(tactic| walk_at "my newx") => `(tactic| exact ⟨by (refine neN ?_; omega), by (refine neN ?_; omega), by walk_at "my off", by first | (refine neN ?_; omega) | omega⟩)
local macro_rules | `(tactic| walk_at "my new") => `(tactic| exact ⟨by (refine neN ?_; omega), by (refine neN ?_; omega), by walk_at "my off"⟩)
local macro_rules | `(tactic| walk_at "my two") => `(tactic| exact ⟨by (refine neN ?_; omega), by (refine neN ?_; omega)⟩)
local macro_rules | `(tactic| walk_at "my newx") => `(tactic| exact ⟨by (refine neN ?_; omega), by walk_at "my two", by walk_at "my off", by first | (refine neN ?_; omega) | omega⟩)
local macro_rules | `(tactic| walk_at "my new") => `(tactic| exact ⟨by (refine neN ?_; omega), by walk_at "my two", by walk_at "my off"⟩)
local macro_rules | `(tactic| walk_at "call builtin:len") => `(tactic| (k_here; (with_reducible show wpAny _ _ (call (Value.builtin "len") [Value.ref _]) _ _ _); k_dflt (refine' len_led ?N ?m ?c ?_; (case N => k_asm); (case m => k_mem); (case c => walk_at "my len"))))
section
variable {w : World} {h₀ : Heap} {L fa : Addr} {cdv : Value} {p : Program} {loose : List Str} {mean : ExcName → Option Value} {mg mb : Str → Option Value} {x d dc R H G : Addr} {vs ks gs : List Value} {way k turn many : Int} {ta tb tn tw tk : Tok} {cap : Value} {co : Option Int} {ock ocm oks od : Obj} {kvs : List (Int × Value)} {c : Prs} {n : Nat}
  {tail : List (Addr × Obj)} {m : Str → Option Value} {s : Shared} {E : Value → Shared → Prop} {Q : Flow → Shared → Prop}
set_option maxRecDepth 100000 in
set_option maxHeartbeats 8000000 in
theorem y1 (B : Below callerA h₀ [] h₀) (X : (hd.heap_39 w.params).In h₀) (T : Top p loose mean mg mb h₀)
  (hw1 : 0 ≤ way) (hw2 : way < 9)
  (hm : ∀ p ∈ [(Str.ofString "most", cap), (Str.ofString "rows", Value.ref R), (Str.ofString "turn", Value.int turn tn), (Str.ofString "way", Value.int way tw), (Str.ofString "known", Value.ref H), (Str.ofString "rest", Value.ref G)], m p.1 = some p.2) (F : Fr h₀ L s.heap m)
  (N : News h₀ L s.heap ((L + 1 + 1 + 1, oks) :: (L + 1 + 1, ock) :: (L + 1, ocm) :: (x, instObj 112 d) :: (d, inD w ta tb cap dc) :: (dc, od) :: (R, listOf vs.toArray n) :: (H, LCg.lst ks) :: (G, LCg.lst gs) :: tail))
  (hck : ock.data = .cell (some (.int k tk))) (hcm : ocm.data = .cell (some (.ref x))) {tl0 : List (Addr × Obj)} (hsub : ∀ p ∈ tl0, p ∈ tail) (hR : RowsIn tl0 vs c) (hK : IntsAre ks ((c.filter fun p => decide (p.1 = k)).map (·.2))) (hG : RowsIn tl0 gs (kdyDel c k))
  (lo : (dc == sysModules) = false) (hd : od.IsDictOf (intKind Challenge.rw_fk5013_02.row.prog w) kvs) (hf : PyProof.V.FlatPairs PyData.int kvs (kdfD c)) (hlen : c.length ≤ 60) (hn : (c.map (·.1)).Nodup) (hr : ∀ k ∈ c.map (·.1), 0 ≤ k ∧ k < many) (hk1 : 0 ≤ k) (hk2 : k < many)
  (hcap : co = none ∧ cap = .none)
  (hoff : OwnOff tail [dc]) (e0 : L + 1 + 1 + 1 ≠ dc) (e1 : L + 1 + 1 ≠ dc) (e2 : L + 1 ≠ dc) (e3 : x ≠ dc) (e4 : d ≠ dc) (e5 : R ≠ dc) (e6 : H ≠ dc) (e7 : G ≠ dc) (e8 : x ≠ d) (e9 : R ≠ L + 1 + 1 ∧ R ≠ L + 1 + 1 + 1) (e10 : ∀ p ∈ tail, p.1 ≠ R) (e11 : G ≠ L + 1 + 1 ∧ G ≠ L + 1 + 1 + 1) (e12 : ∀ p ∈ tail, p.1 ≠ G)
  (done : ∀ h' tk' m' od' kvs' c' R' vs' n' extra, Fr h₀ L h' m' → m' "rows" = some (.ref R') → (∀ y : Str, y ≠ "rows" → y ≠ "told" → y ≠ "due" → m' y = m y) →
    News h₀ L h' ((L + 1 + 1 + 1, oks) :: (L + 1 + 1, ock) :: (L + 1, ocm) :: (x, instObj 112 d) :: (d, inD w ta tb cap dc) :: (dc, od') :: (R', listOf vs'.toArray n') :: (extra ++ tail)) →
    od'.IsDictOf (intKind Challenge.rw_fk5013_02.row.prog w) kvs' → PyProof.V.FlatPairs PyData.int kvs' (kdfD c') → RowsIn (extra ++ tl0) vs' c' → (c'.map (·.1)).Nodup → (∀ k ∈ c'.map (·.1), 0 ≤ k ∧ k < many) → (c'.length ≤ c.length + 1 ∧ ∀ n, co = some n → (c'.length : Int) ≤ n) →
    (R' ≠ dc ∧ (R' ≠ L + 1 + 1 ∧ R' ≠ L + 1 + 1 + 1) ∧ ∀ p ∈ tail, p.1 ≠ R') → (∀ q ∈ extra, q.1 ≠ dc ∧ (q.1 ≠ L + 1 + 1 ∧ q.1 ≠ L + 1 + 1 + 1) ∧ (∀ p ∈ tail, p.1 ≠ q.1) ∧ q.1 ≠ R') → Q .next { s with heap := h', toks := tk' }) :
  wpAny (model Challenge.rw_fk5013_02.row.prog w) (A2 L fa cdv) (exec (B2 3) (E2 L fa cdv)) Q E s := by
  revert X
  k_fill
  intro X
  unfold A2 E2 B2
  conv in (stAt _ _) => whnf
  conv in (occs := *) (lawS _) => all_goals whnf
  rw [← kst_self hm] at F
  have g1 := hG.length
  have g2 := hR.length
  have g3 := hK.length
  have g4 := kdyDel_len c k
  obtain ⟨rfl, rfl⟩ := hcap
  have hcap' : ((none : Option Int) = none ∧ Value.none = Value.none) ∨ ∃ t n, (none : Option Int) = some n ∧ Value.none = .int n t ∧ (c.length : Int) ≤ n := .inl ⟨rfl, rfl⟩
  k_steps
  all_goals
    rename Fr _ _ _ _ => F9
    rename News _ _ _ _ => N9
    rw [kst_self hm] at F9
    walk_at "my split"
    refine' done _ _ _ _ _ (putL c k turn) _ _ 0 [(_, tupO k _ turn tn 0)] F9 rfl (fun y h1 h2 h3 => by simp [h1]) (fun p hp => N9 p ?inn) (by assumption) (by assumption) ?rows (putL_nodup hn _ _) (putL_range hr ⟨hk1, hk2⟩) ⟨setC_len none c k turn, fun n h => nomatch h⟩ ?nw ?ex
    case inn =>
      revert p
      simp only [List.cons_append, List.nil_append]
      walk_at "my incl"
    case rows => exact RowsIn.append (hG.mono fun p hp => List.mem_append.mpr (.inr hp)) (.cons List.mem_cons_self .nil)
    case nw => walk_at "my new"
    case ex => exact List.forall_mem_cons.mpr ⟨by walk_at "my newx", List.forall_mem_nil _⟩
end
end
end Mine
end
theorem Mine.offY2 : True := by
  w_top off
  exact trivial
section
local macro_rules | `(tactic| walk_at "my pad") => `(tactic| fail)
local macro_rules | `(tactic| walk_at "my pad") => `(tactic| fail)
local macro_rules | `(tactic| walk_at "my pad") => `(tactic| fail)
local macro_rules | `(tactic| walk_at "my pad") => `(tactic| fail)
local macro_rules | `(tactic| walk_at "my pad") => `(tactic| fail)
local macro_rules | `(tactic| walk_at "my pad") => `(tactic| fail)
local macro_rules | `(tactic| walk_at "my pad") => `(tactic| fail)
local macro_rules | `(tactic| walk_at "my pad") => `(tactic| fail)
local macro_rules | `(tactic| walk_at "my pad") => `(tactic| fail)
local macro_rules | `(tactic| walk_at "my pad") => `(tactic| fail)
local macro_rules | `(tactic| walk_at "my pad") => `(tactic| fail)
local macro_rules | `(tactic| walk_at "my pad") => `(tactic| fail)
local macro_rules | `(tactic| walk_at "my pad") => `(tactic| fail)
local macro_rules | `(tactic| walk_at "my pad") => `(tactic| fail)
local macro_rules | `(tactic| walk_at "my pad") => `(tactic| fail)
local macro_rules | `(tactic| walk_at "my pad") => `(tactic| fail)
local macro_rules | `(tactic| walk_at "my pad") => `(tactic| fail)
local macro_rules | `(tactic| walk_at "my pad") => `(tactic| fail)
local macro_rules | `(tactic| walk_at "my pad") => `(tactic| fail)
local macro_rules | `(tactic| walk_at "my pad") => `(tactic| fail)
local macro_rules | `(tactic| walk_at "my pad") => `(tactic| fail)
local macro_rules | `(tactic| walk_at "my pad") => `(tactic| fail)
local macro_rules | `(tactic| walk_at "my pad") => `(tactic| fail)
local macro_rules | `(tactic| walk_at "my pad") => `(tactic| fail)
local macro_rules | `(tactic| walk_at "my pad") => `(tactic| fail)
local macro_rules | `(tactic| walk_at "my pad") => `(tactic| fail)
local macro_rules | `(tactic| walk_at "my pad") => `(tactic| fail)
local macro_rules | `(tactic| walk_at "my pad") => `(tactic| fail)
local macro_rules | `(tactic| walk_at "my pad") => `(tactic| fail)
local macro_rules | `(tactic| walk_at "my pad") => `(tactic| fail)
local macro_rules | `(tactic| walk_at "my pad") => `(tactic| fail)
local macro_rules | `(tactic| walk_at "my pad") => `(tactic| fail)
local macro_rules | `(tactic| walk_at "my pad") => `(tactic| fail)
local macro_rules | `(tactic| walk_at "my pad") => `(tactic| fail)
local macro_rules | `(tactic| walk_at "my pad") => `(tactic| fail)
local macro_rules | `(tactic| walk_at "my pad") => `(tactic| fail)
local macro_rules | `(tactic| walk_at "my pad") => `(tactic| fail)
local macro_rules | `(tactic| walk_at "my pad") => `(tactic| fail)
local macro_rules | `(tactic| walk_at "my pad") => `(tactic| fail)
local macro_rules | `(tactic| walk_at "my pad") => `(tactic| fail)
local macro_rules | `(tactic| walk_at "my pad") => `(tactic| fail)
local macro_rules | `(tactic| walk_at "my pad") => `(tactic| fail)
open PySem PySem.W PyProof.Rows
namespace Mine
section
local macro_rules | `(tactic| walk_at "my dp") => `(tactic| first | decide | ((try simp only [depth_under_make, depth_under_kw, depth_in1, depth_deeper, depth_caller]); decide))
local macro_rules | `(tactic| walk_at "call ref") => `(tactic| (k_here; (with_reducible show wpAny _ _ (call (Value.ref 109) _) _ _ _); k_dflt (refine' set_at ?B ?dp ?X ?T ?F ?N ?x ?dd ?U ?xd ?xc ?dc ?lo ?hd ?hf ?hc ?hn ?cap (fun h' o' kvs' tk' F' N' hd' hf' => ?_); (case B => k_asm); (case dp => walk_at "my dp"); (case X => k_in); (case T => k_asm); (case F => k_asm); (case N => k_asm); (case x => k_mem); (case dd => k_mem); (case U => k_updF); (case xd => k_ne); (case xc => k_ne); (case dc => k_ne); (case lo => k_asm); (case hd => k_asm); (case hf => k_asm); (case hc => omega); (case hn => assumption); (case cap => assumption)); (try dsimp only at N')))
local macro_rules | `(tactic| walk_at "my len") => `(tactic| ((try simp only [List.length_append, List.length_cons, List.length_nil]); omega))
local macro_rules | `(tactic| walk_at "binaryOp Add ref ref") => `(tactic| (k_here; k_dflt (refine' my_add ?F ?N ?a ?b ?z ?z2 ?_; (case F => k_asm); (case N => k_asm); (case a => k_mem); (case b => k_mem); (case z => walk_at "my len"); (case z2 => walk_at "my len")); intro D' h' F' N' l1; (try k_lt l1)))
local macro_rules | `(tactic| walk_at "subscriptTail Name Slice ref ref") => `(tactic| (k_here; k_dflt (refine' my_slice_pos ?x ?F ?N ?l ?z ?_ ?s ?t; (case F => k_asm); (case N => k_asm); (case l => k_mem); (case x => omega); (case z => walk_at "my len"); (case s => with_unfolding_all rfl); (case t => kmk_pure)); intro D' h' F' N' l1; (try k_lt l1)))
local macro_rules | `(tactic| walk_at "my in") => `(tactic| first | assumption | exact List.mem_cons_self | (refine List.mem_cons_of_mem _ ?_; walk_at "my in"))
local macro_rules | `(tactic| walk_at "my incl") => `(tactic| first | exact List.forall_mem_nil _ | (refine List.forall_mem_cons.mpr ⟨?_, ?_⟩; (focus walk_at "my in"); walk_at "my incl") | (intro p9 hp9; walk_at "my in"))
local macro_rules | `(tactic| walk_at "my split") => `(tactic| repeat (rename _ ∧ _ => hA9; obtain ⟨hA1, hA2⟩ := hA9))
local macro_rules | `(tactic| walk_at "my off") => `(tactic| exact fun p hp => Nat.ne_of_lt (allLt_all (by assumption) p hp))
local macro_rules | `(tactic| walk_at "my newx") => `(tactic| exact ⟨by (refine neN ?_; omega), by (refine neN ?_; omega), by walk_at "my off", by first | (refine neN ?_; omega) | omega⟩)
local macro_rules | `(tactic| walk_at "my new") => `(tactic| exact ⟨by (refine neN ?_; omega), by (refine neN ?_; omega), by walk_at "my off"⟩)
local macro_rules | `(tactic| walk_at "my two") => `(tactic| exact ⟨by (refine neN ?_; omega), by (refine neN ?_; omega)⟩)
local macro_rules | `(tactic| walk_at "my newx") => `(tactic| exact ⟨by (refine neN ?_; omega), by walk_at "my two", by walk_at "my off", by first | (refine neN ?_; omega) | omega⟩)
local macro_rules | `(tactic| walk_at "my new") => `(tactic| exact ⟨by (refine neN ?_; omega), by walk_at "my two", by walk_at "my off"⟩)
local macro_rules | `(tactic| walk_at "call builtin:len") => `(tactic| (k_here; (with_reducible show wpAny _ _ (call (Value.builtin "len") [Value.ref _]) _ _ _); k_dflt (refine' len_led ?N ?m ?c ?_; (case N => k_asm); (case m => k_mem); (case c => walk_at "my len"))))
section
variable {w : World} {h₀ : Heap} {L fa : Addr} {cdv : Value} {p : Program} {loose : List Str} {mean : ExcName → Option Value} {mg mb : Str → Option Value} {x d dc R H G : Addr} {vs ks gs : List Value} {way k turn many : Int} {ta tb tn tw tk : Tok} {cap : Value} {co : Option Int} {ock ocm oks od : Obj} {kvs : List (Int × Value)} {c : Prs} {n : Nat}
  {tail : List (Addr × Obj)} {m : Str → Option Value} {s : Shared} {E : Value → Shared → Prop} {Q : Flow → Shared → Prop}
set_option maxRecDepth 100000 in
set_option maxHeartbeats 8000000 in
theorem y2 (B : Below callerA h₀ [] h₀) (X : (hd.heap_39 w.params).In h₀) (T : Top p loose mean mg mb h₀)
  (hw1 : 0 ≤ way) (hw2 : way < 9)
  (hm : ∀ p ∈ [(Str.ofString "most", cap), (Str.ofString "rows", Value.ref R), (Str.ofString "turn", Value.int turn tn), (Str.ofString "way", Value.int way tw), (Str.ofString "known", Value.ref H), (Str.ofString "rest", Value.ref G)], m p.1 = some p.2) (F : Fr h₀ L s.heap m)
  (N : News h₀ L s.heap ((L + 1 + 1 + 1, oks) :: (L + 1 + 1, ock) :: (L + 1, ocm) :: (x, instObj 112 d) :: (d, inD w ta tb cap dc) :: (dc, od) :: (R, listOf vs.toArray n) :: (H, LCg.lst ks) :: (G, LCg.lst gs) :: tail))
  (hck : ock.data = .cell (some (.int k tk))) (hcm : ocm.data = .cell (some (.ref x))) {tl0 : List (Addr × Obj)} (hsub : ∀ p ∈ tl0, p ∈ tail) (hR : RowsIn tl0 vs c) (hK : IntsAre ks ((c.filter fun p => decide (p.1 = k)).map (·.2))) (hG : RowsIn tl0 gs (kdyDel c k))
  (lo : (dc == sysModules) = false) (hd : od.IsDictOf (intKind Challenge.rw_fk5013_02.row.prog w) kvs) (hf : PyProof.V.FlatPairs PyData.int kvs (kdfD c)) (hlen : c.length ≤ 60) (hn : (c.map (·.1)).Nodup) (hr : ∀ k ∈ c.map (·.1), 0 ≤ k ∧ k < many) (hk1 : 0 ≤ k) (hk2 : k < many)
  (hcap : ∃ t n, co = some n ∧ cap = .int n t ∧ 1 ≤ n ∧ (c.length : Int) ≤ n)
  (hoff : OwnOff tail [dc]) (e0 : L + 1 + 1 + 1 ≠ dc) (e1 : L + 1 + 1 ≠ dc) (e2 : L + 1 ≠ dc) (e3 : x ≠ dc) (e4 : d ≠ dc) (e5 : R ≠ dc) (e6 : H ≠ dc) (e7 : G ≠ dc) (e8 : x ≠ d) (e9 : R ≠ L + 1 + 1 ∧ R ≠ L + 1 + 1 + 1) (e10 : ∀ p ∈ tail, p.1 ≠ R) (e11 : G ≠ L + 1 + 1 ∧ G ≠ L + 1 + 1 + 1) (e12 : ∀ p ∈ tail, p.1 ≠ G)
  (done : ∀ h' tk' m' od' kvs' c' R' vs' n' extra, Fr h₀ L h' m' → m' "rows" = some (.ref R') → (∀ y : Str, y ≠ "rows" → y ≠ "told" → y ≠ "due" → m' y = m y) →
    News h₀ L h' ((L + 1 + 1 + 1, oks) :: (L + 1 + 1, ock) :: (L + 1, ocm) :: (x, instObj 112 d) :: (d, inD w ta tb cap dc) :: (dc, od') :: (R', listOf vs'.toArray n') :: (extra ++ tail)) →
    od'.IsDictOf (intKind Challenge.rw_fk5013_02.row.prog w) kvs' → PyProof.V.FlatPairs PyData.int kvs' (kdfD c') → RowsIn (extra ++ tl0) vs' c' → (c'.map (·.1)).Nodup → (∀ k ∈ c'.map (·.1), 0 ≤ k ∧ k < many) → (c'.length ≤ c.length + 1 ∧ ∀ n, co = some n → (c'.length : Int) ≤ n) →
    (R' ≠ dc ∧ (R' ≠ L + 1 + 1 ∧ R' ≠ L + 1 + 1 + 1) ∧ ∀ p ∈ tail, p.1 ≠ R') → (∀ q ∈ extra, q.1 ≠ dc ∧ (q.1 ≠ L + 1 + 1 ∧ q.1 ≠ L + 1 + 1 + 1) ∧ (∀ p ∈ tail, p.1 ≠ q.1) ∧ q.1 ≠ R') → Q .next { s with heap := h', toks := tk' }) :
  wpAny (model Challenge.rw_fk5013_02.row.prog w) (A2 L fa cdv) (exec (B2 3) (E2 L fa cdv)) Q E s := by
  revert X
  k_fill
  intro X
  unfold A2 E2 B2
  conv in (stAt _ _) => whnf
  conv in (occs := *) (lawS _) => all_goals whnf
  rw [← kst_self hm] at F
  have g1 := hG.length
  have g2 := hR.length
  have g3 := hK.length
  have g4 := kdyDel_len c k
  obtain ⟨tc, rm, rfl, rfl, r1, r2⟩ := hcap
  have hcap' : ((some rm : Option Int) = none ∧ Value.int rm tc = Value.none) ∨ ∃ t n, (some rm : Option Int) = some n ∧ Value.int rm tc = .int n t ∧ (c.length : Int) ≤ n := .inr ⟨tc, rm, rfl, rfl, r2⟩
  k_steps
  all_goals
    rename Fr _ _ _ _ => F9
    rename News _ _ _ _ => N9
    rw [kst_self hm] at F9
    walk_at "my split"
    refine' done _ _ _ _ _ (setC (some rm) c k turn) _ _ 0 [(_, tupO k _ turn tn 0)] F9 rfl (fun y h1 h2 h3 => by simp [h1]) (fun p hp => N9 p ?inn) (by assumption) (by assumption) ?rows (setC_nodup hn _ _) (setC_range hr ⟨hk1, hk2⟩) ⟨setC_len _ c k turn, fun n h => (Option.some.inj h) ▸ setC_room r2⟩ ?nw ?ex
    case inn =>
      revert p
      simp only [List.cons_append, List.nil_append]
      walk_at "my incl"
    case rows =>
      show RowsIn _ _ (if rm < ((putL c k turn).length : Int) then (putL c k turn).drop 1 else putL c k turn)
      have pl := putL_len c k turn
      simp only [List.length_append, List.length_cons, List.length_nil] at *
      first
      | (rw [if_pos (by omega)]; exact RowsIn.drop (RowsIn.append (hG.mono fun p hp => List.mem_append.mpr (.inr hp)) (.cons List.mem_cons_self .nil)) 1)
      | (rw [if_neg (by omega)]; exact RowsIn.append (hG.mono fun p hp => List.mem_append.mpr (.inr hp)) (.cons List.mem_cons_self .nil))
    case nw => walk_at "my new"
    case ex => exact List.forall_mem_cons.mpr ⟨by walk_at "my newx", List.forall_mem_nil _⟩
end
end
end Mine
end
theorem Mine.offY3 : True := by
  w_top off
  exact trivial
section
local macro_rules | `(tactic| walk_at "my pad") => `(tactic| fail)
local macro_rules | `(tactic| walk_at "my pad") => `(tactic| fail)
local macro_rules | `(tactic| walk_at "my pad") => `(tactic| fail)
local macro_rules | `(tactic| walk_at "my pad") => `(tactic| fail)
local macro_rules | `(tactic| walk_at "my pad") => `(tactic| fail)
local macro_rules | `(tactic| walk_at "my pad") => `(tactic| fail)
local macro_rules | `(tactic| walk_at "my pad") => `(tactic| fail)
local macro_rules | `(tactic| walk_at "my pad") => `(tactic| fail)
local macro_rules | `(tactic| walk_at "my pad") => `(tactic| fail)
local macro_rules | `(tactic| walk_at "my pad") => `(tactic| fail)
local macro_rules | `(tactic| walk_at "my pad") => `(tactic| fail)
local macro_rules | `(tactic| walk_at "my pad") => `(tactic| fail)
local macro_rules | `(tactic| walk_at "my pad") => `(tactic| fail)
local macro_rules | `(tactic| walk_at "my pad") => `(tactic| fail)
local macro_rules | `(tactic| walk_at "my pad") => `(tactic| fail)
local macro_rules | `(tactic| walk_at "my pad") => `(tactic| fail)
local macro_rules | `(tactic| walk_at "my pad") => `(tactic| fail)
local macro_rules | `(tactic| walk_at "my pad") => `(tactic| fail)
local macro_rules | `(tactic| walk_at "my pad") => `(tactic| fail)
local macro_rules | `(tactic| walk_at "my pad") => `(tactic| fail)
local macro_rules | `(tactic| walk_at "my pad") => `(tactic| fail)
local macro_rules | `(tactic| walk_at "my pad") => `(tactic| fail)
local macro_rules | `(tactic| walk_at "my pad") => `(tactic| fail)
local macro_rules | `(tactic| walk_at "my pad") => `(tactic| fail)
local macro_rules | `(tactic| walk_at "my pad") => `(tactic| fail)
local macro_rules | `(tactic| walk_at "my pad") => `(tactic| fail)
local macro_rules | `(tactic| walk_at "my pad") => `(tactic| fail)
local macro_rules | `(tactic| walk_at "my pad") => `(tactic| fail)
local macro_rules | `(tactic| walk_at "my pad") => `(tactic| fail)
local macro_rules | `(tactic| walk_at "my pad") => `(tactic| fail)
local macro_rules | `(tactic| walk_at "my pad") => `(tactic| fail)
local macro_rules | `(tactic| walk_at "my pad") => `(tactic| fail)
local macro_rules | `(tactic| walk_at "my pad") => `(tactic| fail)
local macro_rules | `(tactic| walk_at "my pad") => `(tactic| fail)
local macro_rules | `(tactic| walk_at "my pad") => `(tactic| fail)
local macro_rules | `(tactic| walk_at "my pad") => `(tactic| fail)
local macro_rules | `(tactic| walk_at "my pad") => `(tactic| fail)
local macro_rules | `(tactic| walk_at "my pad") => `(tactic| fail)
local macro_rules | `(tactic| walk_at "my pad") => `(tactic| fail)
local macro_rules | `(tactic| walk_at "my pad") => `(tactic| fail)
local macro_rules | `(tactic| walk_at "my pad") => `(tactic| fail)
local macro_rules | `(tactic| walk_at "my pad") => `(tactic| fail)
local macro_rules | `(tactic| walk_at "my pad") => `(tactic| fail)
local macro_rules | `(tactic| walk_at "my pad") => `(tactic| fail)
local macro_rules | `(tactic| walk_at "my pad") => `(tactic| fail)
local macro_rules | `(tactic| walk_at "my pad") => `(tactic| fail)
local macro_rules | `(tactic| walk_at "my pad") => `(tactic| fail)
local macro_rules | `(tactic| walk_at "my pad") => `(tactic| fail)
local macro_rules | `(tactic| walk_at "my pad") => `(tactic| fail)
local macro_rules | `(tactic| walk_at "my pad") => `(tactic| fail)
local macro_rules | `(tactic| walk_at "my pad") => `(tactic| fail)
local macro_rules | `(tactic| walk_at "my pad") => `(tactic| fail)
local macro_rules | `(tactic| walk_at "my pad") => `(tactic| fail)
local macro_rules | `(tactic| walk_at "my pad") => `(tactic| fail)
local macro_rules | `(tactic| walk_at "my pad") => `(tactic| fail)
local macro_rules | `(tactic| walk_at "my pad") => `(tactic| fail)
local macro_rules | `(tactic| walk_at "my pad") => `(tactic| fail)
local macro_rules | `(tactic| walk_at "my pad") => `(tactic| fail)
open PySem PySem.W PyProof.Rows
namespace Mine
section
local macro_rules | `(tactic| walk_at "my dp") => `(tactic| first | decide | ((try simp only [depth_under_make, depth_under_kw, depth_in1, depth_deeper, depth_caller]); decide))
local macro_rules | `(tactic| walk_at "call ref") => `(tactic| (k_here; (with_reducible show wpAny _ _ (call (Value.ref 109) _) _ _ _); k_dflt (refine' set_at ?B ?dp ?X ?T ?F ?N ?x ?dd ?U ?xd ?xc ?dc ?lo ?hd ?hf ?hc ?hn ?cap (fun h' o' kvs' tk' F' N' hd' hf' => ?_); (case B => k_asm); (case dp => walk_at "my dp"); (case X => k_in); (case T => k_asm); (case F => k_asm); (case N => k_asm); (case x => k_mem); (case dd => k_mem); (case U => k_updF); (case xd => k_ne); (case xc => k_ne); (case dc => k_ne); (case lo => k_asm); (case hd => k_asm); (case hf => k_asm); (case hc => omega); (case hn => assumption); (case cap => assumption)); (try dsimp only at N')))
local macro_rules | `(tactic| walk_at "my len") => `(tactic| ((try simp only [List.length_append, List.length_cons, List.length_nil]); omega))
local macro_rules | `(tactic| walk_at "binaryOp Add ref ref") => `(tactic| (k_here; k_dflt (refine' my_add ?F ?N ?a ?b ?z ?z2 ?_; (case F => k_asm); (case N => k_asm); (case a => k_mem); (case b => k_mem); (case z => walk_at "my len"); (case z2 => walk_at "my len")); intro D' h' F' N' l1; (try k_lt l1)))
local macro_rules | `(tactic| walk_at "subscriptTail Name Slice ref ref") => `(tactic| (k_here; k_dflt (refine' my_slice_pos ?x ?F ?N ?l ?z ?_ ?s ?t; (case F => k_asm); (case N => k_asm); (case l => k_mem); (case x => omega); (case z => walk_at "my len"); (case s => with_unfolding_all rfl); (case t => kmk_pure)); intro D' h' F' N' l1; (try k_lt l1)))
local macro_rules | `(tactic| walk_at "my in") => `(tactic| first | assumption | exact List.mem_cons_self | (refine List.mem_cons_of_mem _ ?_; walk_at "my in"))
local macro_rules | `(tactic| walk_at "my incl") => `(tactic| first | exact List.forall_mem_nil _ | (refine List.forall_mem_cons.mpr ⟨?_, ?_⟩; (focus walk_at "my in"); walk_at "my incl") | (intro p9 hp9; walk_at "my in"))
local macro_rules | `(tactic| walk_at "my split") => `(tactic| repeat (rename _ ∧ _ => hA9; obtain ⟨hA1, hA2⟩ := hA9))
local macro_rules | `(tactic| walk_at "my off") => `(tactic| exact fun p hp => Nat.ne_of_lt (allLt_all (by assumption) p hp))
local macro_rules | `(tactic| walk_at "my newx") => `(tactic| exact ⟨by (refine neN ?_; omega), by (refine neN ?_; omega), by walk_at "my off", by first | (refine neN ?_; omega) | omega⟩)
local macro_rules | `(tactic| walk_at "my new") => `(tactic| exact ⟨by (refine neN ?_; omega), by (refine neN ?_; omega), by walk_at "my off"⟩)
local macro_rules | `(tactic| walk_at "my two") => `(tactic| exact ⟨by (refine neN ?_; omega), by (refine neN ?_; omega)⟩)
local macro_rules | `(tactic| walk_at "my newx") => `(tactic| exact ⟨by (refine neN ?_; omega), by walk_at "my two", by walk_at "my off", by first | (refine neN ?_; omega) | omega⟩)
local macro_rules | `(tactic| walk_at "my new") => `(tactic| exact ⟨by (refine neN ?_; omega), by walk_at "my two", by walk_at "my off"⟩)
local macro_rules | `(tactic| k_mem) => `(tactic| walk_at "my in")
local macro_rules | `(tactic| walk_at "my more") => `(tactic| first | exact .inr rfl | exact .inl ⟨rfl, rfl⟩)
local macro_rules | `(tactic| walk_at "call ref") => `(tactic| (k_here; (with_reducible show wpAny _ _ (call (Value.ref 102) _) _ _ _); k_dflt (first
  | (refine' get_yes ?mo ?B ?dp ?X ?T ?F ?N ?x ?dd ?U ?xd ?xc ?dc ?lo ?hd ?hf ?hc ?hk (fun h' o' kvs' tk' t' F' N' hd' hf' => ?_); (case mo => walk_at "my more"); (case B => k_asm); (case dp => walk_at "my dp"); (case X => k_in); (case T => k_asm); (case F => k_asm); (case N => k_asm); (case x => k_mem); (case dd => k_mem); (case U => k_updF); (case xd => k_ne); (case xc => k_ne); (case dc => k_ne); (case lo => k_asm); (case hd => k_asm); (case hf => k_asm); (case hc => omega); (case hk => assumption))
  | (refine' get_no ?mo ?B ?dp ?X ?T ?F ?N ?x ?dd ?U ?xd ?xc ?dc ?lo ?hd ?hf ?hc ?hk (fun h' tk' F' N' => ?_); (case mo => walk_at "my more"); (case B => k_asm); (case dp => walk_at "my dp"); (case X => k_in); (case T => k_asm); (case F => k_asm); (case N => k_asm); (case x => k_mem); (case dd => k_mem); (case U => k_updF); (case xd => k_ne); (case xc => k_ne); (case dc => k_ne); (case lo => k_asm); (case hd => k_asm); (case hf => k_asm); (case hc => omega); (case hk => assumption))); (try dsimp only at N')))
section
variable {w : World} {h₀ : Heap} {L fa : Addr} {cdv : Value} {p : Program} {loose : List Str} {mean : ExcName → Option Value} {mg mb : Str → Option Value} {x d dc R H G : Addr} {vs ks gs : List Value} {way k turn many : Int} {ta tb tn tw tk : Tok} {cap : Value} {co : Option Int} {ock ocm oks od : Obj} {kvs : List (Int × Value)} {c : Prs} {n : Nat}
  {tail : List (Addr × Obj)} {m : Str → Option Value} {s : Shared} {E : Value → Shared → Prop} {Q : Flow → Shared → Prop}
set_option maxRecDepth 100000 in
set_option maxHeartbeats 8000000 in
theorem y3 (B : Below callerA h₀ [] h₀) (X : (hd.heap_39 w.params).In h₀) (T : Top p loose mean mg mb h₀)
  (hw1 : 9 ≤ way) (hw2 : way < 12)
  (hm : ∀ p ∈ [(Str.ofString "most", cap), (Str.ofString "rows", Value.ref R), (Str.ofString "turn", Value.int turn tn), (Str.ofString "way", Value.int way tw), (Str.ofString "known", Value.ref H), (Str.ofString "rest", Value.ref G)], m p.1 = some p.2) (F : Fr h₀ L s.heap m)
  (N : News h₀ L s.heap ((L + 1 + 1 + 1, oks) :: (L + 1 + 1, ock) :: (L + 1, ocm) :: (x, instObj 112 d) :: (d, inD w ta tb cap dc) :: (dc, od) :: (R, listOf vs.toArray n) :: (H, LCg.lst ks) :: (G, LCg.lst gs) :: tail))
  (hck : ock.data = .cell (some (.int k tk))) (hcm : ocm.data = .cell (some (.ref x))) {tl0 : List (Addr × Obj)} (hsub : ∀ p ∈ tl0, p ∈ tail) (hR : RowsIn tl0 vs c) (hK : IntsAre ks ((c.filter fun p => decide (p.1 = k)).map (·.2))) (hG : RowsIn tl0 gs (kdyDel c k))
  (lo : (dc == sysModules) = false) (hd : od.IsDictOf (intKind Challenge.rw_fk5013_02.row.prog w) kvs) (hf : PyProof.V.FlatPairs PyData.int kvs (kdfD c)) (hlen : c.length ≤ 60) (hn : (c.map (·.1)).Nodup) (hr : ∀ k ∈ c.map (·.1), 0 ≤ k ∧ k < many) (hk1 : 0 ≤ k) (hk2 : k < many)
  (hcap : (co = none ∧ cap = .none) ∨ ∃ t n, co = some n ∧ cap = .int n t ∧ (c.length : Int) ≤ n)
  (hoff : OwnOff tail [dc]) (e0 : L + 1 + 1 + 1 ≠ dc) (e1 : L + 1 + 1 ≠ dc) (e2 : L + 1 ≠ dc) (e3 : x ≠ dc) (e4 : d ≠ dc) (e5 : R ≠ dc) (e6 : H ≠ dc) (e7 : G ≠ dc) (e8 : x ≠ d) (e9 : R ≠ L + 1 + 1 ∧ R ≠ L + 1 + 1 + 1) (e10 : ∀ p ∈ tail, p.1 ≠ R) (e11 : G ≠ L + 1 + 1 ∧ G ≠ L + 1 + 1 + 1) (e12 : ∀ p ∈ tail, p.1 ≠ G)
  (done : ∀ h' tk' m' od' kvs' c' R' vs' n' extra, Fr h₀ L h' m' → m' "rows" = some (.ref R') → (∀ y : Str, y ≠ "rows" → y ≠ "told" → y ≠ "due" → m' y = m y) →
    News h₀ L h' ((L + 1 + 1 + 1, oks) :: (L + 1 + 1, ock) :: (L + 1, ocm) :: (x, instObj 112 d) :: (d, inD w ta tb cap dc) :: (dc, od') :: (R', listOf vs'.toArray n') :: (extra ++ tail)) →
    od'.IsDictOf (intKind Challenge.rw_fk5013_02.row.prog w) kvs' → PyProof.V.FlatPairs PyData.int kvs' (kdfD c') → RowsIn (extra ++ tl0) vs' c' → (c'.map (·.1)).Nodup → (∀ k ∈ c'.map (·.1), 0 ≤ k ∧ k < many) → (c'.length ≤ c.length + 1 ∧ ∀ n, co = some n → (c'.length : Int) ≤ n) →
    (R' ≠ dc ∧ (R' ≠ L + 1 + 1 ∧ R' ≠ L + 1 + 1 + 1) ∧ ∀ p ∈ tail, p.1 ≠ R') → (∀ q ∈ extra, q.1 ≠ dc ∧ (q.1 ≠ L + 1 + 1 ∧ q.1 ≠ L + 1 + 1 + 1) ∧ (∀ p ∈ tail, p.1 ≠ q.1) ∧ q.1 ≠ R') → Q .next { s with heap := h', toks := tk' }) :
  wpAny (model Challenge.rw_fk5013_02.row.prog w) (A2 L fa cdv) (exec (B2 3) (E2 L fa cdv)) Q E s := by
  revert X
  k_fill
  intro X
  unfold A2 E2 B2
  conv in (stAt _ _) => whnf
  conv in (occs := *) (lawS _) => all_goals whnf
  rw [← kst_self hm] at F
  have g1 := hG.length
  have g2 := hR.length
  have g3 := hK.length
  have g4 := kdyDel_len c k
  have hroom : ∀ n, co = some n → (c.length : Int) ≤ n := by
    intro n h
    rcases hcap with ⟨q, _⟩ | ⟨_, _, q, _, q2⟩
    · rw [q] at h; cases h
    · rw [q] at h; cases h; exact q2
  cases hkk : kdfHas c k with
  | false =>
    rw [filter_none hkk] at hK
    obtain rfl := ints_nil hK
    clear hK g3
    k_steps
    all_goals first
    | exact absurd rfl (by assumption)
    | (exfalso; rename (decide _ = true) => a9; exact absurd a9 (by simp))
    | (rename Fr _ _ _ _ => F9
       rename News _ _ _ _ => N9
       rw [kst_self hm] at F9
       walk_at "my split"
       refine' done _ _ _ _ _ c R vs n [] F9 rfl (fun y h1 h2 h3 => by simp [h1, h2, h3]) (fun p hp => N9 p ?inn) (by assumption) (by assumption) hR hn hr ⟨Nat.le_succ _, hroom⟩ ?nw (List.forall_mem_nil _)
       case inn =>
         revert p
         simp only [List.cons_append, List.nil_append]
         walk_at "my incl"
       case nw => exact ⟨e5, ⟨by assumption, by assumption⟩, e10⟩)
  | true =>
    rw [filter_one hkk hn] at hK
    obtain ⟨t9, rfl⟩ := ints_one hK
    clear hK g3
    have hdl := del_lt hkk
    have hpl2 := putL_len c k (kdfLook c k 0)
    have hpl : (putL c k (kdfLook c k 0)).length ≤ c.length + 1 := by omega
    k_steps
    all_goals first
    | exact absurd rfl (by assumption)
    | (exfalso; rename (decide _ = true) => a9; exact absurd a9 (by simp))
    | (rename Fr _ _ _ _ => F9
       rename News _ _ _ _ => N9
       rw [kst_self hm] at F9
       walk_at "my split"
       refine' done _ _ _ _ _ (putL c k (kdfLook c k 0)) _ _ 0 [(_, tupO k _ (kdfLook c k 0) _ 0)] F9 rfl (fun y h1 h2 h3 => by simp [h1, h2, h3]) (fun p hp => N9 p ?inn) (by assumption) (by assumption) ?rows (putL_nodup hn _ _) (putL_range hr ⟨hk1, hk2⟩) ⟨hpl, fun n h => by have := hroom n h; omega⟩ ?nw ?ex
       case inn =>
         revert p
         simp only [List.cons_append, List.nil_append]
         walk_at "my incl"
       case rows => exact RowsIn.append (hG.mono fun p hp => List.mem_append.mpr (.inr hp)) (.cons List.mem_cons_self .nil)
       case nw => walk_at "my new"
       case ex => exact List.forall_mem_cons.mpr ⟨by walk_at "my newx", List.forall_mem_nil _⟩)
end
end
end Mine
end
theorem Mine.offY4 : True := by
  w_top off
  exact trivial
section
local macro_rules | `(tactic| walk_at "my pad") => `(tactic| fail)
local macro_rules | `(tactic| walk_at "my pad") => `(tactic| fail)
local macro_rules | `(tactic| walk_at "my pad") => `(tactic| fail)
local macro_rules | `(tactic| walk_at "my pad") => `(tactic| fail)
local macro_rules | `(tactic| walk_at "my pad") => `(tactic| fail)
local macro_rules | `(tactic| walk_at "my pad") => `(tactic| fail)
local macro_rules | `(tactic| walk_at "my pad") => `(tactic| fail)
local macro_rules | `(tactic| walk_at "my pad") => `(tactic| fail)
local macro_rules | `(tactic| walk_at "my pad") => `(tactic| fail)
local macro_rules | `(tactic| walk_at "my pad") => `(tactic| fail)
local macro_rules | `(tactic| walk_at "my pad") => `(tactic| fail)
local macro_rules | `(tactic| walk_at "my pad") => `(tactic| fail)
local macro_rules | `(tactic| walk_at "my pad") => `(tactic| fail)
local macro_rules | `(tactic| walk_at "my pad") => `(tactic| fail)
local macro_rules | `(tactic| walk_at "my pad") => `(tactic| fail)
local macro_rules | `(tactic| walk_at "my pad") => `(tactic| fail)
local macro_rules | `(tactic| walk_at "my pad") => `(tactic| fail)
local macro_rules | `(tactic| walk_at "my pad") => `(tactic| fail)
local macro_rules | `(tactic| walk_at "my pad") => `(tactic| fail)
local macro_rules | `(tactic| walk_at "my pad") => `(tactic| fail)
local macro_rules | `(tactic| walk_at "my pad") => `(tactic| fail)
local macro_rules | `(tactic| walk_at "my pad") => `(tactic| fail)
local macro_rules | `(tactic| walk_at "my pad") => `(tactic| fail)
local macro_rules | `(tactic| walk_at "my pad") => `(tactic| fail)
local macro_rules | `(tactic| walk_at "my pad") => `(tactic| fail)
local macro_rules | `(tactic| walk_at "my pad") => `(tactic| fail)
local macro_rules | `(tactic| walk_at "my pad") => `(tactic| fail)
local macro_rules | `(tactic| walk_at "my pad") => `(tactic| fail)
local macro_rules | `(tactic| walk_at "my pad") => `(tactic| fail)
local macro_rules | `(tactic| walk_at "my pad") => `(tactic| fail)
local macro_rules | `(tactic| walk_at "my pad") => `(tactic| fail)
local macro_rules | `(tactic| walk_at "my pad") => `(tactic| fail)
local macro_rules | `(tactic| walk_at "my pad") => `(tactic| fail)
local macro_rules | `(tactic| walk_at "my pad") => `(tactic| fail)
local macro_rules | `(tactic| walk_at "my pad") => `(tactic| fail)
local macro_rules | `(tactic| walk_at "my pad") => `(tactic| fail)
local macro_rules | `(tactic| walk_at "my pad") => `(tactic| fail)
local macro_rules | `(tactic| walk_at "my pad") => `(tactic| fail)
local macro_rules | `(tactic| walk_at "my pad") => `(tactic| fail)
local macro_rules | `(tactic| walk_at "my pad") => `(tactic| fail)
local macro_rules | `(tactic| walk_at "my pad") => `(tactic| fail)
local macro_rules | `(tactic| walk_at "my pad") => `(tactic| fail)
local macro_rules | `(tactic| walk_at "my pad") => `(tactic| fail)
local macro_rules | `(tactic| walk_at "my pad") => `(tactic| fail)
local macro_rules | `(tactic| walk_at "my pad") => `(tactic| fail)
local macro_rules | `(tactic| walk_at "my pad") => `(tactic| fail)
local macro_rules | `(tactic| walk_at "my pad") => `(tactic| fail)
local macro_rules | `(tactic| walk_at "my pad") => `(tactic| fail)
local macro_rules | `(tactic| walk_at "my pad") => `(tactic| fail)
local macro_rules | `(tactic| walk_at "my pad") => `(tactic| fail)
local macro_rules | `(tactic| walk_at "my pad") => `(tactic| fail)
local macro_rules | `(tactic| walk_at "my pad") => `(tactic| fail)
local macro_rules | `(tactic| walk_at "my pad") => `(tactic| fail)
local macro_rules | `(tactic| walk_at "my pad") => `(tactic| fail)
local macro_rules | `(tactic| walk_at "my pad") => `(tactic| fail)
local macro_rules | `(tactic| walk_at "my pad") => `(tactic| fail)
local macro_rules | `(tactic| walk_at "my pad") => `(tactic| fail)
local macro_rules | `(tactic| walk_at "my pad") => `(tactic| fail)
local macro_rules | `(tactic| walk_at "my pad") => `(tactic| fail)
local macro_rules | `(tactic| walk_at "my pad") => `(tactic| fail)
local macro_rules | `(tactic| walk_at "my pad") => `(tactic| fail)
local macro_rules | `(tactic| walk_at "my pad") => `(tactic| fail)
local macro_rules | `(tactic| walk_at "my pad") => `(tactic| fail)
local macro_rules | `(tactic| walk_at "my pad") => `(tactic| fail)
local macro_rules | `(tactic| walk_at "my pad") => `(tactic| fail)
local macro_rules | `(tactic| walk_at "my pad") => `(tactic| fail)
local macro_rules | `(tactic| walk_at "my pad") => `(tactic| fail)
local macro_rules | `(tactic| walk_at "my pad") => `(tactic| fail)
local macro_rules | `(tactic| walk_at "my pad") => `(tactic| fail)
local macro_rules | `(tactic| walk_at "my pad") => `(tactic| fail)
local macro_rules | `(tactic| walk_at "my pad") => `(tactic| fail)
local macro_rules | `(tactic| walk_at "my pad") => `(tactic| fail)
local macro_rules | `(tactic| walk_at "my pad") => `(tactic| fail)
local macro_rules | `(tactic| walk_at "my pad") => `(tactic| fail)
local macro_rules | `(tactic| walk_at "my pad") => `(tactic| fail)
local macro_rules | `(tactic| walk_at "my pad") => `(tactic| fail)
open PySem PySem.W PyProof.Rows
namespace Mine
section
local macro_rules | `(tactic| walk_at "my dp") => `(tactic| first | decide | ((try simp only [depth_under_make, depth_under_kw, depth_in1, depth_deeper, depth_caller]); decide))
local macro_rules | `(tactic| walk_at "call ref") => `(tactic| (k_here; (with_reducible show wpAny _ _ (call (Value.ref 109) _) _ _ _); k_dflt (refine' set_at ?B ?dp ?X ?T ?F ?N ?x ?dd ?U ?xd ?xc ?dc ?lo ?hd ?hf ?hc ?hn ?cap (fun h' o' kvs' tk' F' N' hd' hf' => ?_); (case B => k_asm); (case dp => walk_at "my dp"); (case X => k_in); (case T => k_asm); (case F => k_asm); (case N => k_asm); (case x => k_mem); (case dd => k_mem); (case U => k_updF); (case xd => k_ne); (case xc => k_ne); (case dc => k_ne); (case lo => k_asm); (case hd => k_asm); (case hf => k_asm); (case hc => omega); (case hn => assumption); (case cap => assumption)); (try dsimp only at N')))
local macro_rules | `(tactic| walk_at "my len") => `(tactic| ((try simp only [List.length_append, List.length_cons, List.length_nil]); omega))
local macro_rules | `(tactic| walk_at "binaryOp Add ref ref") => `(tactic| (k_here; k_dflt (refine' my_add ?F ?N ?a ?b ?z ?z2 ?_; (case F => k_asm); (case N => k_asm); (case a => k_mem); (case b => k_mem); (case z => walk_at "my len"); (case z2 => walk_at "my len")); intro D' h' F' N' l1; (try k_lt l1)))
local macro_rules | `(tactic| walk_at "subscriptTail Name Slice ref ref") => `(tactic| (k_here; k_dflt (refine' my_slice_pos ?x ?F ?N ?l ?z ?_ ?s ?t; (case F => k_asm); (case N => k_asm); (case l => k_mem); (case x => omega); (case z => walk_at "my len"); (case s => with_unfolding_all rfl); (case t => kmk_pure)); intro D' h' F' N' l1; (try k_lt l1)))
local macro_rules | `(tactic| walk_at "my in") => `(tactic| first | assumption | exact List.mem_cons_self | (refine List.mem_cons_of_mem _ ?_; walk_at "my in"))
local macro_rules | `(tactic| walk_at "my incl") => `(tactic| first | exact List.forall_mem_nil _ | (refine List.forall_mem_cons.mpr ⟨?_, ?_⟩; (focus walk_at "my in"); walk_at "my incl") | (intro p9 hp9; walk_at "my in"))
local macro_rules | `(tactic| walk_at "my split") => `(tactic| repeat (rename _ ∧ _ => hA9; obtain ⟨hA1, hA2⟩ := hA9))
local macro_rules | `(tactic| walk_at "my off") => `(tactic| exact fun p hp => Nat.ne_of_lt (allLt_all (by assumption) p hp))
local macro_rules | `(tactic| walk_at "my newx") => `(tactic| exact ⟨by (refine neN ?_; omega), by (refine neN ?_; omega), by walk_at "my off", by first | (refine neN ?_; omega) | omega⟩)
local macro_rules | `(tactic| walk_at "my new") => `(tactic| exact ⟨by (refine neN ?_; omega), by (refine neN ?_; omega), by walk_at "my off"⟩)
local macro_rules | `(tactic| walk_at "my two") => `(tactic| exact ⟨by (refine neN ?_; omega), by (refine neN ?_; omega)⟩)
local macro_rules | `(tactic| walk_at "my newx") => `(tactic| exact ⟨by (refine neN ?_; omega), by walk_at "my two", by walk_at "my off", by first | (refine neN ?_; omega) | omega⟩)
local macro_rules | `(tactic| walk_at "my new") => `(tactic| exact ⟨by (refine neN ?_; omega), by walk_at "my two", by walk_at "my off"⟩)
local macro_rules | `(tactic| k_mem) => `(tactic| walk_at "my in")
local macro_rules | `(tactic| walk_at "my more") => `(tactic| first | exact .inr rfl | exact .inl ⟨rfl, rfl⟩)
local macro_rules | `(tactic| walk_at "call ref") => `(tactic| (k_here; (with_reducible show wpAny _ _ (call (Value.ref 102) _) _ _ _); k_dflt (first
  | (refine' get_yes ?mo ?B ?dp ?X ?T ?F ?N ?x ?dd ?U ?xd ?xc ?dc ?lo ?hd ?hf ?hc ?hk (fun h' o' kvs' tk' t' F' N' hd' hf' => ?_); (case mo => walk_at "my more"); (case B => k_asm); (case dp => walk_at "my dp"); (case X => k_in); (case T => k_asm); (case F => k_asm); (case N => k_asm); (case x => k_mem); (case dd => k_mem); (case U => k_updF); (case xd => k_ne); (case xc => k_ne); (case dc => k_ne); (case lo => k_asm); (case hd => k_asm); (case hf => k_asm); (case hc => omega); (case hk => assumption))
  | (refine' get_no ?mo ?B ?dp ?X ?T ?F ?N ?x ?dd ?U ?xd ?xc ?dc ?lo ?hd ?hf ?hc ?hk (fun h' tk' F' N' => ?_); (case mo => walk_at "my more"); (case B => k_asm); (case dp => walk_at "my dp"); (case X => k_in); (case T => k_asm); (case F => k_asm); (case N => k_asm); (case x => k_mem); (case dd => k_mem); (case U => k_updF); (case xd => k_ne); (case xc => k_ne); (case dc => k_ne); (case lo => k_asm); (case hd => k_asm); (case hf => k_asm); (case hc => omega); (case hk => assumption))); (try dsimp only at N')))
section
variable {w : World} {h₀ : Heap} {L fa : Addr} {cdv : Value} {p : Program} {loose : List Str} {mean : ExcName → Option Value} {mg mb : Str → Option Value} {x d dc R H G : Addr} {vs ks gs : List Value} {way k turn many : Int} {ta tb tn tw tk : Tok} {cap : Value} {co : Option Int} {ock ocm oks od : Obj} {kvs : List (Int × Value)} {c : Prs} {n : Nat}
  {tail : List (Addr × Obj)} {m : Str → Option Value} {s : Shared} {E : Value → Shared → Prop} {Q : Flow → Shared → Prop}
set_option maxRecDepth 100000 in
set_option maxHeartbeats 8000000 in
theorem y4 (B : Below callerA h₀ [] h₀) (X : (hd.heap_39 w.params).In h₀) (T : Top p loose mean mg mb h₀)
  (hw1 : 12 ≤ way) (hw2 : way < 14)
  (hm : ∀ p ∈ [(Str.ofString "most", cap), (Str.ofString "rows", Value.ref R), (Str.ofString "turn", Value.int turn tn), (Str.ofString "way", Value.int way tw), (Str.ofString "known", Value.ref H), (Str.ofString "rest", Value.ref G)], m p.1 = some p.2) (F : Fr h₀ L s.heap m)
  (N : News h₀ L s.heap ((L + 1 + 1 + 1, oks) :: (L + 1 + 1, ock) :: (L + 1, ocm) :: (x, instObj 112 d) :: (d, inD w ta tb cap dc) :: (dc, od) :: (R, listOf vs.toArray n) :: (H, LCg.lst ks) :: (G, LCg.lst gs) :: tail))
  (hck : ock.data = .cell (some (.int k tk))) (hcm : ocm.data = .cell (some (.ref x))) {tl0 : List (Addr × Obj)} (hsub : ∀ p ∈ tl0, p ∈ tail) (hR : RowsIn tl0 vs c) (hK : IntsAre ks ((c.filter fun p => decide (p.1 = k)).map (·.2))) (hG : RowsIn tl0 gs (kdyDel c k))
  (lo : (dc == sysModules) = false) (hd : od.IsDictOf (intKind Challenge.rw_fk5013_02.row.prog w) kvs) (hf : PyProof.V.FlatPairs PyData.int kvs (kdfD c)) (hlen : c.length ≤ 60) (hn : (c.map (·.1)).Nodup) (hr : ∀ k ∈ c.map (·.1), 0 ≤ k ∧ k < many) (hk1 : 0 ≤ k) (hk2 : k < many)
  (hcap : (co = none ∧ cap = .none) ∨ ∃ t n, co = some n ∧ cap = .int n t ∧ (c.length : Int) ≤ n)
  (hoff : OwnOff tail [dc]) (e0 : L + 1 + 1 + 1 ≠ dc) (e1 : L + 1 + 1 ≠ dc) (e2 : L + 1 ≠ dc) (e3 : x ≠ dc) (e4 : d ≠ dc) (e5 : R ≠ dc) (e6 : H ≠ dc) (e7 : G ≠ dc) (e8 : x ≠ d) (e9 : R ≠ L + 1 + 1 ∧ R ≠ L + 1 + 1 + 1) (e10 : ∀ p ∈ tail, p.1 ≠ R) (e11 : G ≠ L + 1 + 1 ∧ G ≠ L + 1 + 1 + 1) (e12 : ∀ p ∈ tail, p.1 ≠ G)
  (done : ∀ h' tk' m' od' kvs' c' R' vs' n' extra, Fr h₀ L h' m' → m' "rows" = some (.ref R') → (∀ y : Str, y ≠ "rows" → y ≠ "told" → y ≠ "due" → m' y = m y) →
    News h₀ L h' ((L + 1 + 1 + 1, oks) :: (L + 1 + 1, ock) :: (L + 1, ocm) :: (x, instObj 112 d) :: (d, inD w ta tb cap dc) :: (dc, od') :: (R', listOf vs'.toArray n') :: (extra ++ tail)) →
    od'.IsDictOf (intKind Challenge.rw_fk5013_02.row.prog w) kvs' → PyProof.V.FlatPairs PyData.int kvs' (kdfD c') → RowsIn (extra ++ tl0) vs' c' → (c'.map (·.1)).Nodup → (∀ k ∈ c'.map (·.1), 0 ≤ k ∧ k < many) → (c'.length ≤ c.length + 1 ∧ ∀ n, co = some n → (c'.length : Int) ≤ n) →
    (R' ≠ dc ∧ (R' ≠ L + 1 + 1 ∧ R' ≠ L + 1 + 1 + 1) ∧ ∀ p ∈ tail, p.1 ≠ R') → (∀ q ∈ extra, q.1 ≠ dc ∧ (q.1 ≠ L + 1 + 1 ∧ q.1 ≠ L + 1 + 1 + 1) ∧ (∀ p ∈ tail, p.1 ≠ q.1) ∧ q.1 ≠ R') → Q .next { s with heap := h', toks := tk' }) :
  wpAny (model Challenge.rw_fk5013_02.row.prog w) (A2 L fa cdv) (exec (B2 3) (E2 L fa cdv)) Q E s := by
  revert X
  k_fill
  intro X
  unfold A2 E2 B2
  conv in (stAt _ _) => whnf
  conv in (occs := *) (lawS _) => all_goals whnf
  rw [← kst_self hm] at F
  have g1 := hG.length
  have g2 := hR.length
  have g3 := hK.length
  have g4 := kdyDel_len c k
  have hroom : ∀ n, co = some n → (c.length : Int) ≤ n := by
    intro n h
    rcases hcap with ⟨q, _⟩ | ⟨_, _, q, _, q2⟩
    · rw [q] at h; cases h
    · rw [q] at h; cases h; exact q2
  cases hkk : kdfHas c k with
  | false =>
    rw [filter_none hkk] at hK
    obtain rfl := ints_nil hK
    clear hK g3
    k_steps
    all_goals first
    | exact absurd rfl (by assumption)
    | (exfalso; rename (decide _ = true) => a9; exact absurd a9 (by simp))
    | (rename Fr _ _ _ _ => F9
       rename News _ _ _ _ => N9
       rw [kst_self hm] at F9
       walk_at "my split"
       refine' done _ _ _ _ _ c R vs n [] F9 rfl (fun y h1 h2 h3 => by simp [h1, h2, h3]) (fun p hp => N9 p ?inn) (by assumption) (by assumption) hR hn hr ⟨Nat.le_succ _, hroom⟩ ?nw (List.forall_mem_nil _)
       case inn =>
         revert p
         simp only [List.cons_append, List.nil_append]
         walk_at "my incl"
       case nw => exact ⟨e5, ⟨by assumption, by assumption⟩, e10⟩)
  | true =>
    rw [filter_one hkk hn] at hK
    obtain ⟨t9, rfl⟩ := ints_one hK
    clear hK g3
    have hdl := del_lt hkk
    have hpl2 := putL_len c k (kdfLook c k 0)
    have hpl : (putL c k (kdfLook c k 0)).length ≤ c.length + 1 := by omega
    k_steps
    all_goals first
    | exact absurd rfl (by assumption)
    | (exfalso; rename (decide _ = true) => a9; exact absurd a9 (by simp))
    | (rename Fr _ _ _ _ => F9
       rename News _ _ _ _ => N9
       rw [kst_self hm] at F9
       walk_at "my split"
       refine' done _ _ _ _ _ (putL c k (kdfLook c k 0)) _ _ 0 [(_, tupO k _ (kdfLook c k 0) _ 0)] F9 rfl (fun y h1 h2 h3 => by simp [h1, h2, h3]) (fun p hp => N9 p ?inn) (by assumption) (by assumption) ?rows (putL_nodup hn _ _) (putL_range hr ⟨hk1, hk2⟩) ⟨hpl, fun n h => by have := hroom n h; omega⟩ ?nw ?ex
       case inn =>
         revert p
         simp only [List.cons_append, List.nil_append]
         walk_at "my incl"
       case rows => exact RowsIn.append (hG.mono fun p hp => List.mem_append.mpr (.inr hp)) (.cons List.mem_cons_self .nil)
       case nw => walk_at "my new"
       case ex => exact List.forall_mem_cons.mpr ⟨by walk_at "my newx", List.forall_mem_nil _⟩)
end
end
end Mine
end
theorem Mine.offY4b : True := by
  w_top off
  exact trivial
section
local macro_rules | `(tactic| walk_at "my pad") => `(tactic| fail)
local macro_rules | `(tactic| walk_at "my pad") => `(tactic| fail)
local macro_rules | `(tactic| walk_at "my pad") => `(tactic| fail)
local macro_rules | `(tactic| walk_at "my pad") => `(tactic| fail)
local macro_rules | `(tactic| walk_at "my pad") => `(tactic| fail)
local macro_rules | `(tactic| walk_at "my pad") => `(tactic| fail)
local macro_rules | `(tactic| walk_at "my pad") => `(tactic| fail)
local macro_rules | `(tactic| walk_at "my pad") => `(tactic| fail)
local macro_rules | `(tactic| walk_at "my pad") => `(tactic| fail)
local macro_rules | `(tactic| walk_at "my pad") => `(tactic| fail)
local macro_rules | `(tactic| walk_at "my pad") => `(tactic| fail)
local macro_rules | `(tactic| walk_at "my pad") => `(tactic| fail)
local macro_rules | `(tactic| walk_at "my pad") => `(tactic| fail)
local macro_rules | `(tactic| walk_at "my pad") => `(tactic| fail)
local macro_rules | `(tactic| walk_at "my pad") => `(tactic| fail)
local macro_rules | `(tactic| walk_at "my pad") => `(tactic| fail)
local macro_rules | `(tactic| walk_at "my pad") => `(tactic| fail)
local macro_rules | `(tactic| walk_at "my pad") => `(tactic| fail)
local macro_rules | `(tactic| walk_at "my pad") => `(tactic| fail)
local macro_rules | `(tactic| walk_at "my pad") => `(tactic| fail)
local macro_rules | `(tactic| walk_at "my pad") => `(tactic| fail)
local macro_rules | `(tactic| walk_at "my pad") => `(tactic| fail)
local macro_rules | `(tactic| walk_at "my pad") => `(tactic| fail)
local macro_rules | `(tactic| walk_at "my pad") => `(tactic| fail)
local macro_rules | `(tactic| walk_at "my pad") => `(tactic| fail)
local macro_rules | `(tactic| walk_at "my pad") => `(tactic| fail)
local macro_rules | `(tactic| walk_at "my pad") => `(tactic| fail)
local macro_rules | `(tactic| walk_at "my pad") => `(tactic| fail)
local macro_rules | `(tactic| walk_at "my pad") => `(tactic| fail)
local macro_rules | `(tactic| walk_at "my pad") => `(tactic| fail)
local macro_rules | `(tactic| walk_at "my pad") => `(tactic| fail)
local macro_rules | `(tactic| walk_at "my pad") => `(tactic| fail)
local macro_rules | `(tactic| walk_at "my pad") => `(tactic| fail)
local macro_rules | `(tactic| walk_at "my pad") => `(tactic| fail)
local macro_rules | `(tactic| walk_at "my pad") => `(tactic| fail)
local macro_rules | `(tactic| walk_at "my pad") => `(tactic| fail)
local macro_rules | `(tactic| walk_at "my pad") => `(tactic| fail)
local macro_rules | `(tactic| walk_at "my pad") => `(tactic| fail)
local macro_rules | `(tactic| walk_at "my pad") => `(tactic| fail)
local macro_rules | `(tactic| walk_at "my pad") => `(tactic| fail)
local macro_rules | `(tactic| walk_at "my pad") => `(tactic| fail)
local macro_rules | `(tactic| walk_at "my pad") => `(tactic| fail)
local macro_rules | `(tactic| walk_at "my pad") => `(tactic| fail)
local macro_rules | `(tactic| walk_at "my pad") => `(tactic| fail)
local macro_rules | `(tactic| walk_at "my pad") => `(tactic| fail)
local macro_rules | `(tactic| walk_at "my pad") => `(tactic| fail)
local macro_rules | `(tactic| walk_at "my pad") => `(tactic| fail)
local macro_rules | `(tactic| walk_at "my pad") => `(tactic| fail)
local macro_rules | `(tactic| walk_at "my pad") => `(tactic| fail)
local macro_rules | `(tactic| walk_at "my pad") => `(tactic| fail)
local macro_rules | `(tactic| walk_at "my pad") => `(tactic| fail)
local macro_rules | `(tactic| walk_at "my pad") => `(tactic| fail)
local macro_rules | `(tactic| walk_at "my pad") => `(tactic| fail)
local macro_rules | `(tactic| walk_at "my pad") => `(tactic| fail)
local macro_rules | `(tactic| walk_at "my pad") => `(tactic| fail)
local macro_rules | `(tactic| walk_at "my pad") => `(tactic| fail)
local macro_rules | `(tactic| walk_at "my pad") => `(tactic| fail)
local macro_rules | `(tactic| walk_at "my pad") => `(tactic| fail)
local macro_rules | `(tactic| walk_at "my pad") => `(tactic| fail)
local macro_rules | `(tactic| walk_at "my pad") => `(tactic| fail)
local macro_rules | `(tactic| walk_at "my pad") => `(tactic| fail)
local macro_rules | `(tactic| walk_at "my pad") => `(tactic| fail)
local macro_rules | `(tactic| walk_at "my pad") => `(tactic| fail)
local macro_rules | `(tactic| walk_at "my pad") => `(tactic| fail)
local macro_rules | `(tactic| walk_at "my pad") => `(tactic| fail)
local macro_rules | `(tactic| walk_at "my pad") => `(tactic| fail)
local macro_rules | `(tactic| walk_at "my pad") => `(tactic| fail)
local macro_rules | `(tactic| walk_at "my pad") => `(tactic| fail)
local macro_rules | `(tactic| walk_at "my pad") => `(tactic| fail)
local macro_rules | `(tactic| walk_at "my pad") => `(tactic| fail)
local macro_rules | `(tactic| walk_at "my pad") => `(tactic| fail)
local macro_rules | `(tactic| walk_at "my pad") => `(tactic| fail)
local macro_rules | `(tactic| walk_at "my pad") => `(tactic| fail)
local macro_rules | `(tactic| walk_at "my pad") => `(tactic| fail)
local macro_rules | `(tactic| walk_at "my pad") => `(tactic| fail)
local macro_rules | `(tactic| walk_at "my pad") => `(tactic| fail)
local macro_rules | `(tactic| walk_at "my pad") => `(tactic| fail)
local macro_rules | `(tactic| walk_at "my pad") => `(tactic| fail)
local macro_rules | `(tactic| walk_at "my pad") => `(tactic| fail)
local macro_rules | `(tactic| walk_at "my pad") => `(tactic| fail)
local macro_rules | `(tactic| walk_at "my pad") => `(tactic| fail)
local macro_rules | `(tactic| walk_at "my pad") => `(tactic| fail)
local macro_rules | `(tactic| walk_at "my pad") => `(tactic| fail)
local macro_rules | `(tactic| walk_at "my pad") => `(tactic| fail)
local macro_rules | `(tactic| walk_at "my pad") => `(tactic| fail)
local macro_rules | `(tactic| walk_at "my pad") => `(tactic| fail)
local macro_rules | `(tactic| walk_at "my pad") => `(tactic| fail)
local macro_rules | `(tactic| walk_at "my pad") => `(tactic| fail)
local macro_rules | `(tactic| walk_at "my pad") => `(tactic| fail)
local macro_rules | `(tactic| walk_at "my pad") => `(tactic| fail)
local macro_rules | `(tactic| walk_at "my pad") => `(tactic| fail)
local macro_rules | `(tactic| walk_at "my pad") => `(tactic| fail)
local macro_rules | `(tactic| walk_at "my pad") => `(tactic| fail)
local macro_rules | `(tactic| walk_at "my pad") => `(tactic| fail)
open PySem PySem.W PyProof.Rows
namespace Mine
section
local macro_rules | `(tactic| walk_at "my dp") => `(tactic| first | decide | ((try simp only [depth_under_make, depth_under_kw, depth_in1, depth_deeper, depth_caller]); decide))
local macro_rules | `(tactic| walk_at "call ref") => `(tactic| (k_here; (with_reducible show wpAny _ _ (call (Value.ref 109) _) _ _ _); k_dflt (refine' set_at ?B ?dp ?X ?T ?F ?N ?x ?dd ?U ?xd ?xc ?dc ?lo ?hd ?hf ?hc ?hn ?cap (fun h' o' kvs' tk' F' N' hd' hf' => ?_); (case B => k_asm); (case dp => walk_at "my dp"); (case X => k_in); (case T => k_asm); (case F => k_asm); (case N => k_asm); (case x => k_mem); (case dd => k_mem); (case U => k_updF); (case xd => k_ne); (case xc => k_ne); (case dc => k_ne); (case lo => k_asm); (case hd => k_asm); (case hf => k_asm); (case hc => omega); (case hn => assumption); (case cap => assumption)); (try dsimp only at N')))
local macro_rules | `(tactic| walk_at "my len") => `(tactic| ((try simp only [List.length_append, List.length_cons, List.length_nil]); omega))
local macro_rules | `(tactic| walk_at "binaryOp Add ref ref") => `(tactic| (k_here; k_dflt (refine' my_add ?F ?N ?a ?b ?z ?z2 ?_; (case F => k_asm); (case N => k_asm); (case a => k_mem); (case b => k_mem); (case z => walk_at "my len"); (case z2 => walk_at "my len")); intro D' h' F' N' l1; (try k_lt l1)))
local macro_rules | `(tactic| walk_at "subscriptTail Name Slice ref ref") => `(tactic| (k_here; k_dflt (refine' my_slice_pos ?x ?F ?N ?l ?z ?_ ?s ?t; (case F => k_asm); (case N => k_asm); (case l => k_mem); (case x => omega); (case z => walk_at "my len"); (case s => with_unfolding_all rfl); (case t => kmk_pure)); intro D' h' F' N' l1; (try k_lt l1)))
local macro_rules | `(tactic| walk_at "my in") => `(tactic| first | assumption | exact List.mem_cons_self | (refine List.mem_cons_of_mem _ ?_; walk_at "my in"))
local macro_rules | `(tactic| walk_at "my incl") => `(tactic| first | exact List.forall_mem_nil _ | (refine List.forall_mem_cons.mpr ⟨?_, ?_⟩; (focus walk_at "my in"); walk_at "my incl") | (intro p9 hp9; walk_at "my in"))
local macro_rules | `(tactic| walk_at "my split") => `(tactic| repeat (rename _ ∧ _ => hA9; obtain ⟨hA1, hA2⟩ := hA9))
local macro_rules | `(tactic| walk_at "my off") => `(tactic| exact fun p hp => Nat.ne_of_lt (allLt_all (by assumption) p hp))
local macro_rules | `(tactic| walk_at "my newx") => `(tactic| exact ⟨by (refine neN ?_; omega), by (refine neN ?_; omega), by walk_at "my off", by first | (refine neN ?_; omega) | omega⟩)
local macro_rules | `(tactic| walk_at "my new") => `(tactic| exact ⟨by (refine neN ?_; omega), by (refine neN ?_; omega), by walk_at "my off"⟩)
local macro_rules | `(tactic| walk_at "my two") => `(tactic| exact ⟨by (refine neN ?_; omega), by (refine neN ?_; omega)⟩)
local macro_rules | `(tactic| walk_at "my newx") => `(tactic| exact ⟨by (refine neN ?_; omega), by walk_at "my two", by walk_at "my off", by first | (refine neN ?_; omega) | omega⟩)
local macro_rules | `(tactic| walk_at "my new") => `(tactic| exact ⟨by (refine neN ?_; omega), by walk_at "my two", by walk_at "my off"⟩)
local macro_rules | `(tactic| k_mem) => `(tactic| walk_at "my in")
local macro_rules | `(tactic| walk_at "my more") => `(tactic| first | exact .inr rfl | exact .inl ⟨rfl, rfl⟩)
local macro_rules | `(tactic| walk_at "call ref") => `(tactic| (k_here; (with_reducible show wpAny _ _ (call (Value.ref 102) _) _ _ _); k_dflt (first
  | (refine' get_yes ?mo ?B ?dp ?X ?T ?F ?N ?x ?dd ?U ?xd ?xc ?dc ?lo ?hd ?hf ?hc ?hk (fun h' o' kvs' tk' t' F' N' hd' hf' => ?_); (case mo => walk_at "my more"); (case B => k_asm); (case dp => walk_at "my dp"); (case X => k_in); (case T => k_asm); (case F => k_asm); (case N => k_asm); (case x => k_mem); (case dd => k_mem); (case U => k_updF); (case xd => k_ne); (case xc => k_ne); (case dc => k_ne); (case lo => k_asm); (case hd => k_asm); (case hf => k_asm); (case hc => omega); (case hk => assumption))
  | (refine' get_no ?mo ?B ?dp ?X ?T ?F ?N ?x ?dd ?U ?xd ?xc ?dc ?lo ?hd ?hf ?hc ?hk (fun h' tk' F' N' => ?_); (case mo => walk_at "my more"); (case B => k_asm); (case dp => walk_at "my dp"); (case X => k_in); (case T => k_asm); (case F => k_asm); (case N => k_asm); (case x => k_mem); (case dd => k_mem); (case U => k_updF); (case xd => k_ne); (case xc => k_ne); (case dc => k_ne); (case lo => k_asm); (case hd => k_asm); (case hf => k_asm); (case hc => omega); (case hk => assumption))); (try dsimp only at N')))
local macro_rules | `(tactic| k_enter) => `(tactic| ((with_reducible rename KtsDicts _ _ => kdX); kts_go))
local macro_rules | `(tactic| walk_at "call ref") => `(tactic| (k_here; (with_reducible show wpAny _ _ (call (Value.ref 130) _) _ _ _); k_dflt (refine wpAny_call ?_; (refine' defS0X ?k1 ?k2 ?k3 ?k4 ?k5 ?kA ?kF ?kK ?k6 ?k7 ?k8 ?k9 ?kB ?_ ?c2 ?c3 ?c4 ?c5; (case kA => exact rfl); (case kF => exact rfl); (case kK => exact rfl); (case k2 => k_asm); (case k1 => k_asm); (case k3 => k_asm); (case k4 => k_asm); (case k5 => k_asm); (case k6 => k_is); (case k7 => k_is); (case k8 => k_room); (case k9 => first | exact BindsTo.of_eq rfl | exact binds_K (by k_in) rfl (by k_is) rfl rfl rfl); (case kB => exact locs rfl); (case c2 => exact rfl); (case c3 => exact rfl); (case c4 => exact rfl); (case c5 => decide); k_whole; intro g' L' h' FG' F' N' B' X' T' D'; (try dsimp only); (try k_lift B'); (try k_fold)))))
section
variable {w : World} {h₀ : Heap} {L fa : Addr} {cdv : Value} {p : Program} {loose : List Str} {mean : ExcName → Option Value} {mg mb : Str → Option Value} {x d dc R H G : Addr} {vs ks gs : List Value} {way k turn many : Int} {ta tb tn tw tk : Tok} {cap : Value} {co : Option Int} {ock ocm oks od : Obj} {kvs : List (Int × Value)} {c : Prs} {n : Nat}
  {tail : List (Addr × Obj)} {m : Str → Option Value} {s : Shared} {E : Value → Shared → Prop} {Q : Flow → Shared → Prop}
set_option maxRecDepth 100000 in
set_option maxHeartbeats 8000000 in
theorem y4b (B : Below callerA h₀ [] h₀) (X : (hd.heap_39 w.params).In h₀) (T : Top p loose mean mg mb h₀)
  (hw1 : 14 ≤ way) (hw2 : way < 16)
  (hm : ∀ p ∈ [(Str.ofString "most", cap), (Str.ofString "rows", Value.ref R), (Str.ofString "turn", Value.int turn tn), (Str.ofString "way", Value.int way tw), (Str.ofString "known", Value.ref H), (Str.ofString "rest", Value.ref G)], m p.1 = some p.2) (F : Fr h₀ L s.heap m)
  (N : News h₀ L s.heap ((L + 1 + 1 + 1, oks) :: (L + 1 + 1, ock) :: (L + 1, ocm) :: (x, instObj 112 d) :: (d, inD w ta tb cap dc) :: (dc, od) :: (R, listOf vs.toArray n) :: (H, LCg.lst ks) :: (G, LCg.lst gs) :: tail))
  (hck : ock.data = .cell (some (.int k tk))) (hcm : ocm.data = .cell (some (.ref x))) {tl0 : List (Addr × Obj)} (hsub : ∀ p ∈ tl0, p ∈ tail) (hR : RowsIn tl0 vs c) (hK : IntsAre ks ((c.filter fun p => decide (p.1 = k)).map (·.2))) (hG : RowsIn tl0 gs (kdyDel c k))
  (lo : (dc == sysModules) = false) (hd : od.IsDictOf (intKind Challenge.rw_fk5013_02.row.prog w) kvs) (hf : PyProof.V.FlatPairs PyData.int kvs (kdfD c)) (hlen : c.length ≤ 60) (hn : (c.map (·.1)).Nodup) (hr : ∀ k ∈ c.map (·.1), 0 ≤ k ∧ k < many) (hk1 : 0 ≤ k) (hk2 : k < many)
  (hcap : (co = none ∧ cap = .none) ∨ ∃ t n, co = some n ∧ cap = .int n t ∧ (c.length : Int) ≤ n)
  (hoff : OwnOff tail [dc]) (e0 : L + 1 + 1 + 1 ≠ dc) (e1 : L + 1 + 1 ≠ dc) (e2 : L + 1 ≠ dc) (e3 : x ≠ dc) (e4 : d ≠ dc) (e5 : R ≠ dc) (e6 : H ≠ dc) (e7 : G ≠ dc) (e8 : x ≠ d) (e9 : R ≠ L + 1 + 1 ∧ R ≠ L + 1 + 1 + 1) (e10 : ∀ p ∈ tail, p.1 ≠ R) (e11 : G ≠ L + 1 + 1 ∧ G ≠ L + 1 + 1 + 1) (e12 : ∀ p ∈ tail, p.1 ≠ G)
  (done : ∀ h' tk' m' od' kvs' c' R' vs' n' extra, Fr h₀ L h' m' → m' "rows" = some (.ref R') → (∀ y : Str, y ≠ "rows" → y ≠ "told" → y ≠ "due" → m' y = m y) →
    News h₀ L h' ((L + 1 + 1 + 1, oks) :: (L + 1 + 1, ock) :: (L + 1, ocm) :: (x, instObj 112 d) :: (d, inD w ta tb cap dc) :: (dc, od') :: (R', listOf vs'.toArray n') :: (extra ++ tail)) →
    od'.IsDictOf (intKind Challenge.rw_fk5013_02.row.prog w) kvs' → PyProof.V.FlatPairs PyData.int kvs' (kdfD c') → RowsIn (extra ++ tl0) vs' c' → (c'.map (·.1)).Nodup → (∀ k ∈ c'.map (·.1), 0 ≤ k ∧ k < many) → (c'.length ≤ c.length + 1 ∧ ∀ n, co = some n → (c'.length : Int) ≤ n) →
    (R' ≠ dc ∧ (R' ≠ L + 1 + 1 ∧ R' ≠ L + 1 + 1 + 1) ∧ ∀ p ∈ tail, p.1 ≠ R') → (∀ q ∈ extra, q.1 ≠ dc ∧ (q.1 ≠ L + 1 + 1 ∧ q.1 ≠ L + 1 + 1 + 1) ∧ (∀ p ∈ tail, p.1 ≠ q.1) ∧ q.1 ≠ R') → Q .next { s with heap := h', toks := tk' }) :
  wpAny (model Challenge.rw_fk5013_02.row.prog w) (A2 L fa cdv) (exec (B2 3) (E2 L fa cdv)) Q E s := by
  revert X
  k_fill
  intro X
  unfold A2 E2 B2
  conv in (stAt _ _) => whnf
  conv in (occs := *) (lawS _) => all_goals whnf
  rw [← kst_self hm] at F
  have g1 := hG.length
  have g2 := hR.length
  have g3 := hK.length
  have g4 := kdyDel_len c k
  have hroom : ∀ n, co = some n → (c.length : Int) ≤ n := by
    intro n h
    rcases hcap with ⟨q, _⟩ | ⟨_, _, q, _, q2⟩
    · rw [q] at h; cases h
    · rw [q] at h; cases h; exact q2
  cases hkk : kdfHas c k with
  | false =>
    rw [filter_none hkk] at hK
    obtain rfl := ints_nil hK
    clear hK g3
    k_steps
    all_goals first
    | exact absurd rfl (by assumption)
    | (exfalso; rename (decide _ = true) => a9; exact absurd a9 (by simp))
    | (rename Fr _ _ _ _ => F9
       rename News _ _ _ _ => N9
       rw [kst_self hm] at F9
       walk_at "my split"
       refine' done _ _ _ _ _ c R vs n [] F9 rfl (fun y h1 h2 h3 => by simp [h1, h2, h3]) (fun p hp => N9 p ?inn) (by assumption) (by assumption) hR hn hr ⟨Nat.le_succ _, hroom⟩ ?nw (List.forall_mem_nil _)
       case inn =>
         revert p
         simp only [List.cons_append, List.nil_append]
         walk_at "my incl"
       case nw => exact ⟨e5, ⟨by assumption, by assumption⟩, e10⟩)
  | true =>
    rw [filter_one hkk hn] at hK
    obtain ⟨t9, rfl⟩ := ints_one hK
    clear hK g3
    have hdl := del_lt hkk
    have hpl2 := putL_len c k (kdfLook c k 0)
    have hpl : (putL c k (kdfLook c k 0)).length ≤ c.length + 1 := by omega
    k_steps
    all_goals first
    | exact absurd rfl (by assumption)
    | (exfalso; rename (decide _ = true) => a9; exact absurd a9 (by simp))
    | (rename Fr _ _ _ _ => F9
       rename News _ _ _ _ => N9
       rw [kst_self hm] at F9
       walk_at "my split"
       refine' done _ _ _ _ _ (putL c k (kdfLook c k 0)) _ _ 0 [(_, tupO k _ (kdfLook c k 0) _ 0)] F9 rfl (fun y h1 h2 h3 => by simp [h1, h2, h3]) (fun p hp => N9 p ?inn) (by assumption) (by assumption) ?rows (putL_nodup hn _ _) (putL_range hr ⟨hk1, hk2⟩) ⟨hpl, fun n h => by have := hroom n h; omega⟩ ?nw ?ex
       case inn =>
         revert p
         simp only [List.cons_append, List.nil_append]
         walk_at "my incl"
       case rows => exact RowsIn.append (hG.mono fun p hp => List.mem_append.mpr (.inr hp)) (.cons List.mem_cons_self .nil)
       case nw => walk_at "my new"
       case ex => exact List.forall_mem_cons.mpr ⟨by walk_at "my newx", List.forall_mem_nil _⟩)
end
end
end Mine
end
section
open PySem PySem.W PySem.Calls PyProof.Rows PySem.Spec
namespace Mine
section
variable {prog : Program} {w : World} {A : Around} {E : Value → Shared → Prop} {s : Shared} {h₀ : Heap} {L : Addr}
/-- del of a key that is not there -/
theorem del_miss {Q : Unit → Shared → Prop} {news : List (Addr × Obj)} {d : Addr} {o : Obj} {kvs : List (Int × Value)} {c : Prs} {k : Int} {tk : Tok} (hh : A.handled = none) (N : News h₀ L s.heap news) (hm : (d, o) ∈ news) (hd : o.IsDictOf (PySem.intKind prog w) kvs) (hf : PyProof.V.FlatPairs PyData.int kvs (kdfD c)) (hk : kdfHas c k = false) (lo : (d == sysModules) = false)
    (h : ∀ h' e, Heap.NewExc s.heap h' e "KeyError" → E (.ref e) { s with heap := h', toks := s.toks + 1 }) : wpAny (model prog w) A (delItem (.ref d) (.int k tk)) Q E s := by
  have hD : s.heap.DictOf (PySem.intKind prog w) d kvs := Heap.dictOf_iff.mpr ⟨o, (N _ hm).1, hd⟩
  have hv : valueAt kvs k = none := by
    refine valueAt_none_of_not_mem fun hmem => ?_
    obtain ⟨⟨k', x⟩, hin, hkk⟩ := List.mem_map.mp hmem
    obtain ⟨i, hi⟩ := List.mem_iff_getElem?.mp hin
    obtain ⟨y, hy⟩ := flat_key hf hi
    have hkk' : k' = k := hkk
    subst hkk'
    exact has_false.mp hk (List.mem_map.mpr ⟨_, List.mem_of_getElem? hy, rfl⟩)
  unfold delItem
  try with_reducible refine wpAny_holding ?_
  refine wpAny_bind (wpAny_sequenceKey hD.typeIs (by decide) ?_)
  refine wpAny_bind (wpAny_callSpecial?_slot (name := Str.ofString "__delitem__") hD.typeIs PySem.F.slot_dict_delitem
    (call_meetsIn PySem.F.slot_dict_delitem hD.typeIs PySem.F.entry_dict_delitem (PySem.F.args_dict_delitem_2 _ _) (meets_dict_delitem_missing (PySem.intKind prog w) d (intKind_is _ _ _ _) lo) ⟨hh, kvs, hD, hv, fun h' e hx => ?_⟩))
  exact h h' e hx
end
end Mine
end
section
open PySem PySem.W PySem.Calls PyProof.Rows PySem.Spec
namespace Mine
section
variable {prog : Program} {w : World} {A₀ : Around} {E : Value → Shared → Prop} {s' : Shared} {h₀ h : Heap} {outer : List Env} {L a e : Addr} {m : Str → Option Value} {cn : Str} {cs : Scope} {cd : Value} {cl : List (Str × Addr)} {K : Frag}
  {b₀ : Stmt} {suite : List Stmt} {pos np : Pos} {rest : List ExceptHandler} {Q : Flow → Shared → Prop} {news : List (Addr × Obj)}
  {p : Program} {loose : List Str} {mg mb : Str → Option Value} {x : Str} {X T' : String}
/-- a handler in a frame that may have cells -/
theorem caught_X (Kb : Below A₀ h₀ outer h₀) (X₀ : K.In h₀) (F : Fr h₀ L h m) (hsm : h.UpToSlots s'.heap) (R : RaisedN h₀ (envX cn cs L a cd cl :: outer) e (.type X) news s'.heap)
    (T : TopRead p loose mg mb h₀) (ex : nsIn K mainGlobals x = some none) (hv : bootBuiltins x = some (.type T'))
    (hexc : isSubtype (.type T') (.type "BaseException") = pure true) (hnt : isSubtype (.type ((Manifest.find? T').elim "type" fun y => y.metatype)) (.type "tuple") = pure false) (hsub : isSubtype (.type X) (.type T') = pure true)
    (k : ∀ (E' : Value → Shared → Prop) h', Fr h₀ L h' m → News h₀ L h' news →
      wpAny (model prog w) ((A₀.deeper (envX cn cs L a cd cl)).mark (some (.ref e))) (execs (b₀ :: suite) (envX cn cs L a cd cl)) Q E' { s' with heap := h' })
    (hn : x ≠ "__name__" := by decide +kernel)
    (hk : cs.kind = .function := by rfl) (hx : (envX cn cs L a cd cl).kindOf x = some .globalImplicit := by rfl) (hd : (x == ("__debug__" : Str)) = false := by decide) :
    wpAny (model prog w) (A₀.deeper (envX cn cs L a cd cl)) (noteFrame (.ref e) (envX cn cs L a cd cl))
      (fun _ s₂ => wpAny (model prog w) (A₀.deeper (envX cn cs L a cd cl)) (setFlight (.ref e) none) (fun _ s₃ =>
        wpAny (model prog w) (A₀.deeper (envX cn cs L a cd cl)) (handleBy (.ref e) (envX cn cs L a cd cl) (.ExceptHandler (some (.Name x np)) none (b₀ :: suite) pos :: rest)) Q E s₃) E s₂) E s' := by
  obtain ⟨B, a0, hB, hl, hfl⟩ := R
  have hL : B.get? L = none := by
    obtain ⟨_, ⟨L', _, hf, hn', _⟩, _⟩ := hfl.2.2.1
    obtain rfl : L = L' := Option.some.inj hf
    exact hn'
  refine wpAny_looks_onW (Around.frames_deeper Kb.stack) rfl hfl fun h₄ hheld₄ hsm₄ => ?_
  refine wpAny_landsW hheld₄ fun h₅ hheld hsm₅' => ?_
  have hsm₅ := hsm₄.trans hsm₅'
  have hheld' := flyingW_base hB hheld
  have F₅ := F.of_stays hheld'.1 (hsm.trans hsm₅)
  obtain ⟨ob, hob, hobc⟩ := hheld'.there
  refine wpAny_handleBy_builtin (X := X) (T := T') (b := true) hexc hnt hsub (nameX_B F₅ X₀ T ex hv hn ⟨rfl, ⟨ob, hob, hobc⟩, ?_⟩ hk hx hd)
  refine lands_againW hheld fun h₆ hfl₆ hsm₆ => ?_
  have F₆ := F.of_stays (flyingW_base hB hfl₆).1 ((hsm.trans hsm₅).trans hsm₆)
  exact k _ h₆ F₆ fun q hq => ⟨hfl₆.1 _ _ (hl q hq).1, (fun z => by have := (hl q hq).1; rw [z, hL] at this; cases this), (hl q hq).2⟩
end
end Mine
end
theorem Mine.offY5 : True := by
  w_top off
  exact trivial
section
local macro_rules | `(tactic| walk_at "my pad") => `(tactic| fail)
local macro_rules | `(tactic| walk_at "my pad") => `(tactic| fail)
local macro_rules | `(tactic| walk_at "my pad") => `(tactic| fail)
local macro_rules | `(tactic| walk_at "my pad") => `(tactic| fail)
local macro_rules | `(tactic| walk_at "my pad") => `(tactic| fail)
local macro_rules | `(tactic| walk_at "my pad") => `(tactic| fail)
local macro_rules | `(tactic| walk_at "my pad") => `(tactic| fail)
local macro_rules | `(tactic| walk_at "my pad") => `(tactic| fail)
local macro_rules | `(tactic| walk_at "my pad") => `(tactic| fail)
local macro_rules | `(tactic| walk_at "my pad") => `(tactic| fail)
local macro_rules | `(tactic| walk_at "my pad") => `(tactic| fail)
local macro_rules | `(tactic| walk_at "my pad") => `(tactic| fail)
local macro_rules | `(tactic| walk_at "my pad") => `(tactic| fail)
local macro_rules | `(tactic| walk_at "my pad") => `(tactic| fail)
local macro_rules | `(tactic| walk_at "my pad") => `(tactic| fail)
local macro_rules | `(tactic| walk_at "my pad") => `(tactic| fail)
local macro_rules | `(tactic| walk_at "my pad") => `(tactic| fail)
local macro_rules | `(tactic| walk_at "my pad") => `(tactic| fail)
local macro_rules | `(tactic| walk_at "my pad") => `(tactic| fail)
local macro_rules | `(tactic| walk_at "my pad") => `(tactic| fail)
local macro_rules | `(tactic| walk_at "my pad") => `(tactic| fail)
local macro_rules | `(tactic| walk_at "my pad") => `(tactic| fail)
local macro_rules | `(tactic| walk_at "my pad") => `(tactic| fail)
local macro_rules | `(tactic| walk_at "my pad") => `(tactic| fail)
local macro_rules | `(tactic| walk_at "my pad") => `(tactic| fail)
local macro_rules | `(tactic| walk_at "my pad") => `(tactic| fail)
local macro_rules | `(tactic| walk_at "my pad") => `(tactic| fail)
local macro_rules | `(tactic| walk_at "my pad") => `(tactic| fail)
local macro_rules | `(tactic| walk_at "my pad") => `(tactic| fail)
local macro_rules | `(tactic| walk_at "my pad") => `(tactic| fail)
local macro_rules | `(tactic| walk_at "my pad") => `(tactic| fail)
local macro_rules | `(tactic| walk_at "my pad") => `(tactic| fail)
local macro_rules | `(tactic| walk_at "my pad") => `(tactic| fail)
local macro_rules | `(tactic| walk_at "my pad") => `(tactic| fail)
local macro_rules | `(tactic| walk_at "my pad") => `(tactic| fail)
local macro_rules | `(tactic| walk_at "my pad") => `(tactic| fail)
local macro_rules | `(tactic| walk_at "my pad") => `(tactic| fail)
local macro_rules | `(tactic| walk_at "my pad") => `(tactic| fail)
local macro_rules | `(tactic| walk_at "my pad") => `(tactic| fail)
local macro_rules | `(tactic| walk_at "my pad") => `(tactic| fail)
local macro_rules | `(tactic| walk_at "my pad") => `(tactic| fail)
local macro_rules | `(tactic| walk_at "my pad") => `(tactic| fail)
local macro_rules | `(tactic| walk_at "my pad") => `(tactic| fail)
local macro_rules | `(tactic| walk_at "my pad") => `(tactic| fail)
local macro_rules | `(tactic| walk_at "my pad") => `(tactic| fail)
local macro_rules | `(tactic| walk_at "my pad") => `(tactic| fail)
local macro_rules | `(tactic| walk_at "my pad") => `(tactic| fail)
local macro_rules | `(tactic| walk_at "my pad") => `(tactic| fail)
local macro_rules | `(tactic| walk_at "my pad") => `(tactic| fail)
local macro_rules | `(tactic| walk_at "my pad") => `(tactic| fail)
local macro_rules | `(tactic| walk_at "my pad") => `(tactic| fail)
local macro_rules | `(tactic| walk_at "my pad") => `(tactic| fail)
local macro_rules | `(tactic| walk_at "my pad") => `(tactic| fail)
local macro_rules | `(tactic| walk_at "my pad") => `(tactic| fail)
local macro_rules | `(tactic| walk_at "my pad") => `(tactic| fail)
local macro_rules | `(tactic| walk_at "my pad") => `(tactic| fail)
local macro_rules | `(tactic| walk_at "my pad") => `(tactic| fail)
local macro_rules | `(tactic| walk_at "my pad") => `(tactic| fail)
local macro_rules | `(tactic| walk_at "my pad") => `(tactic| fail)
local macro_rules | `(tactic| walk_at "my pad") => `(tactic| fail)
local macro_rules | `(tactic| walk_at "my pad") => `(tactic| fail)
local macro_rules | `(tactic| walk_at "my pad") => `(tactic| fail)
local macro_rules | `(tactic| walk_at "my pad") => `(tactic| fail)
local macro_rules | `(tactic| walk_at "my pad") => `(tactic| fail)
local macro_rules | `(tactic| walk_at "my pad") => `(tactic| fail)
local macro_rules | `(tactic| walk_at "my pad") => `(tactic| fail)
local macro_rules | `(tactic| walk_at "my pad") => `(tactic| fail)
local macro_rules | `(tactic| walk_at "my pad") => `(tactic| fail)
local macro_rules | `(tactic| walk_at "my pad") => `(tactic| fail)
local macro_rules | `(tactic| walk_at "my pad") => `(tactic| fail)
local macro_rules | `(tactic| walk_at "my pad") => `(tactic| fail)
local macro_rules | `(tactic| walk_at "my pad") => `(tactic| fail)
local macro_rules | `(tactic| walk_at "my pad") => `(tactic| fail)
local macro_rules | `(tactic| walk_at "my pad") => `(tactic| fail)
local macro_rules | `(tactic| walk_at "my pad") => `(tactic| fail)
local macro_rules | `(tactic| walk_at "my pad") => `(tactic| fail)
local macro_rules | `(tactic| walk_at "my pad") => `(tactic| fail)
local macro_rules | `(tactic| walk_at "my pad") => `(tactic| fail)
local macro_rules | `(tactic| walk_at "my pad") => `(tactic| fail)
local macro_rules | `(tactic| walk_at "my pad") => `(tactic| fail)
local macro_rules | `(tactic| walk_at "my pad") => `(tactic| fail)
local macro_rules | `(tactic| walk_at "my pad") => `(tactic| fail)
local macro_rules | `(tactic| walk_at "my pad") => `(tactic| fail)
local macro_rules | `(tactic| walk_at "my pad") => `(tactic| fail)
local macro_rules | `(tactic| walk_at "my pad") => `(tactic| fail)
local macro_rules | `(tactic| walk_at "my pad") => `(tactic| fail)
local macro_rules | `(tactic| walk_at "my pad") => `(tactic| fail)
local macro_rules | `(tactic| walk_at "my pad") => `(tactic| fail)
local macro_rules | `(tactic| walk_at "my pad") => `(tactic| fail)
local macro_rules | `(tactic| walk_at "my pad") => `(tactic| fail)
local macro_rules | `(tactic| walk_at "my pad") => `(tactic| fail)
local macro_rules | `(tactic| walk_at "my pad") => `(tactic| fail)
local macro_rules | `(tactic| walk_at "my pad") => `(tactic| fail)
local macro_rules | `(tactic| walk_at "my pad") => `(tactic| fail)
local macro_rules | `(tactic| walk_at "my pad") => `(tactic| fail)
local macro_rules | `(tactic| walk_at "my pad") => `(tactic| fail)
local macro_rules | `(tactic| walk_at "my pad") => `(tactic| fail)
local macro_rules | `(tactic| walk_at "my pad") => `(tactic| fail)
local macro_rules | `(tactic| walk_at "my pad") => `(tactic| fail)
local macro_rules | `(tactic| walk_at "my pad") => `(tactic| fail)
local macro_rules | `(tactic| walk_at "my pad") => `(tactic| fail)
local macro_rules | `(tactic| walk_at "my pad") => `(tactic| fail)
local macro_rules | `(tactic| walk_at "my pad") => `(tactic| fail)
local macro_rules | `(tactic| walk_at "my pad") => `(tactic| fail)
local macro_rules | `(tactic| walk_at "my pad") => `(tactic| fail)
local macro_rules | `(tactic| walk_at "my pad") => `(tactic| fail)
local macro_rules | `(tactic| walk_at "my pad") => `(tactic| fail)
local macro_rules | `(tactic| walk_at "my pad") => `(tactic| fail)
local macro_rules | `(tactic| walk_at "my pad") => `(tactic| fail)
local macro_rules | `(tactic| walk_at "my pad") => `(tactic| fail)
local macro_rules | `(tactic| walk_at "my pad") => `(tactic| fail)
local macro_rules | `(tactic| walk_at "my pad") => `(tactic| fail)
local macro_rules | `(tactic| walk_at "my pad") => `(tactic| fail)
local macro_rules | `(tactic| walk_at "my pad") => `(tactic| fail)
open PySem PySem.W PyProof.Rows
namespace Mine
section
local macro_rules | `(tactic| walk_at "my dp") => `(tactic| first | decide | ((try simp only [depth_under_make, depth_under_kw, depth_in1, depth_deeper, depth_caller]); decide))
local macro_rules | `(tactic| walk_at "call ref") => `(tactic| (k_here; (with_reducible show wpAny _ _ (call (Value.ref 109) _) _ _ _); k_dflt (refine' set_at ?B ?dp ?X ?T ?F ?N ?x ?dd ?U ?xd ?xc ?dc ?lo ?hd ?hf ?hc ?hn ?cap (fun h' o' kvs' tk' F' N' hd' hf' => ?_); (case B => k_asm); (case dp => walk_at "my dp"); (case X => k_in); (case T => k_asm); (case F => k_asm); (case N => k_asm); (case x => k_mem); (case dd => k_mem); (case U => k_updF); (case xd => k_ne); (case xc => k_ne); (case dc => k_ne); (case lo => k_asm); (case hd => k_asm); (case hf => k_asm); (case hc => omega); (case hn => assumption); (case cap => assumption)); (try dsimp only at N')))
local macro_rules | `(tactic| walk_at "my len") => `(tactic| ((try simp only [List.length_append, List.length_cons, List.length_nil]); omega))
local macro_rules | `(tactic| walk_at "binaryOp Add ref ref") => `(tactic| (k_here; k_dflt (refine' my_add ?F ?N ?a ?b ?z ?z2 ?_; (case F => k_asm); (case N => k_asm); (case a => k_mem); (case b => k_mem); (case z => walk_at "my len"); (case z2 => walk_at "my len")); intro D' h' F' N' l1; (try k_lt l1)))
local macro_rules | `(tactic| walk_at "subscriptTail Name Slice ref ref") => `(tactic| (k_here; k_dflt (refine' my_slice_pos ?x ?F ?N ?l ?z ?_ ?s ?t; (case F => k_asm); (case N => k_asm); (case l => k_mem); (case x => omega); (case z => walk_at "my len"); (case s => with_unfolding_all rfl); (case t => kmk_pure)); intro D' h' F' N' l1; (try k_lt l1)))
local macro_rules | `(tactic| walk_at "my in") => `(tactic| first | assumption | exact List.mem_cons_self | (refine List.mem_cons_of_mem _ ?_; walk_at "my in"))
local macro_rules | `(tactic| walk_at "my incl") => `(tactic| first | exact List.forall_mem_nil _ | (refine List.forall_mem_cons.mpr ⟨?_, ?_⟩; (focus walk_at "my in"); walk_at "my incl") | (intro p9 hp9; walk_at "my in"))
local macro_rules | `(tactic| walk_at "my split") => `(tactic| repeat (rename _ ∧ _ => hA9; obtain ⟨hA1, hA2⟩ := hA9))
local macro_rules | `(tactic| walk_at "my off") => `(tactic| exact fun p hp => Nat.ne_of_lt (allLt_all (by assumption) p hp))
local macro_rules | `(tactic| walk_at "my newx") => `(tactic| exact ⟨by (refine neN ?_; omega), by (refine neN ?_; omega), by walk_at "my off", by first | (refine neN ?_; omega) | omega⟩)
local macro_rules | `(tactic| walk_at "my new") => `(tactic| exact ⟨by (refine neN ?_; omega), by (refine neN ?_; omega), by walk_at "my off"⟩)
local macro_rules | `(tactic| walk_at "my two") => `(tactic| exact ⟨by (refine neN ?_; omega), by (refine neN ?_; omega)⟩)
local macro_rules | `(tactic| walk_at "my newx") => `(tactic| exact ⟨by (refine neN ?_; omega), by walk_at "my two", by walk_at "my off", by first | (refine neN ?_; omega) | omega⟩)
local macro_rules | `(tactic| walk_at "my new") => `(tactic| exact ⟨by (refine neN ?_; omega), by walk_at "my two", by walk_at "my off"⟩)
local macro_rules | `(tactic| k_mem) => `(tactic| walk_at "my in")
local macro_rules | `(tactic| walk_at "my more") => `(tactic| first | exact .inr rfl | exact .inl ⟨rfl, rfl⟩)
local macro_rules | `(tactic| walk_at "call ref") => `(tactic| (k_here; (with_reducible show wpAny _ _ (call (Value.ref 102) _) _ _ _); k_dflt (first
  | (refine' get_yes ?mo ?B ?dp ?X ?T ?F ?N ?x ?dd ?U ?xd ?xc ?dc ?lo ?hd ?hf ?hc ?hk (fun h' o' kvs' tk' t' F' N' hd' hf' => ?_); (case mo => walk_at "my more"); (case B => k_asm); (case dp => walk_at "my dp"); (case X => k_in); (case T => k_asm); (case F => k_asm); (case N => k_asm); (case x => k_mem); (case dd => k_mem); (case U => k_updF); (case xd => k_ne); (case xc => k_ne); (case dc => k_ne); (case lo => k_asm); (case hd => k_asm); (case hf => k_asm); (case hc => omega); (case hk => assumption))
  | (refine' get_no ?mo ?B ?dp ?X ?T ?F ?N ?x ?dd ?U ?xd ?xc ?dc ?lo ?hd ?hf ?hc ?hk (fun h' tk' F' N' => ?_); (case mo => walk_at "my more"); (case B => k_asm); (case dp => walk_at "my dp"); (case X => k_in); (case T => k_asm); (case F => k_asm); (case N => k_asm); (case x => k_mem); (case dd => k_mem); (case U => k_updF); (case xd => k_ne); (case xc => k_ne); (case dc => k_ne); (case lo => k_asm); (case hd => k_asm); (case hf => k_asm); (case hc => omega); (case hk => assumption))); (try dsimp only at N')))
local macro_rules | `(tactic| walk_at "delItem ref") => `(tactic| (k_here; k_dflt (refine' own_delItem ?F ?X ?I ?hQ ?hS ?hF ?_; (case F => k_asm); (case X => k_asm); (case I => k_inst); (case hS => k_is); (case hF => k_is); (case hQ => k_is); k_whole)))
local macro_rules | `(tactic| walk_at "exec Try") => `(tactic| (k_here; (with_reducible show wpAny _ _ (exec (Stmt.Try _ (_ :: _) _ [] _) _) _ _ _); refine wpAny_Try_except ?_))
local macro_rules | `(tactic| walk_at "delItem ref int") => `(tactic| (k_here; k_dflt (refine' del_miss ?hh ?N ?m ?d ?f ?k ?lo ?_; (case hh => rfl); (case N => k_asm); (case m => k_mem); (case d => k_asm); (case f => k_asm); (case k => assumption); (case lo => k_asm)); intro h' e' hx'; (try dsimp only)))
local macro_rules | `(tactic| walk_at "noteFrame ref") => `(tactic| (k_here; k_dflt (refine caught_X (T' := "KeyError") (by assumption) (by k_in) (by assumption) (by assumption) (by assumption) (by k_asm) (by k_is) PyProof.Rows.Boot.«KeyError» kr_isExc_KeyError kr_notTuple_KeyError (by rw [isSubtype_type]; kernel_rfl) ?_); intro E9 h9 F9 N9))
section
variable {w : World} {h₀ : Heap} {L fa : Addr} {cdv : Value} {p : Program} {loose : List Str} {mean : ExcName → Option Value} {mg mb : Str → Option Value} {x d dc R H G : Addr} {vs ks gs : List Value} {way k turn many : Int} {ta tb tn tw tk : Tok} {cap : Value} {co : Option Int} {ock ocm oks od : Obj} {kvs : List (Int × Value)} {c : Prs} {n : Nat}
  {tail : List (Addr × Obj)} {m : Str → Option Value} {s : Shared} {E : Value → Shared → Prop} {Q : Flow → Shared → Prop}
set_option maxRecDepth 100000 in
set_option maxHeartbeats 8000000 in
theorem y5 (B : Below callerA h₀ [] h₀) (X : (hd.heap_39 w.params).In h₀) (T : Top p loose mean mg mb h₀)
  
  (hm : ∀ p ∈ [(Str.ofString "most", cap), (Str.ofString "rows", Value.ref R), (Str.ofString "turn", Value.int turn tn), (Str.ofString "way", Value.int 16 tw), (Str.ofString "known", Value.ref H), (Str.ofString "rest", Value.ref G)], m p.1 = some p.2) (F : Fr h₀ L s.heap m)
  (N : News h₀ L s.heap ((L + 1 + 1 + 1, oks) :: (L + 1 + 1, ock) :: (L + 1, ocm) :: (x, instObj 112 d) :: (d, inD w ta tb cap dc) :: (dc, od) :: (R, listOf vs.toArray n) :: (H, LCg.lst ks) :: (G, LCg.lst gs) :: tail))
  (hck : ock.data = .cell (some (.int k tk))) (hcm : ocm.data = .cell (some (.ref x))) {tl0 : List (Addr × Obj)} (hsub : ∀ p ∈ tl0, p ∈ tail) (hR : RowsIn tl0 vs c) (hK : IntsAre ks ((c.filter fun p => decide (p.1 = k)).map (·.2))) (hG : RowsIn tl0 gs (kdyDel c k))
  (lo : (dc == sysModules) = false) (hd : od.IsDictOf (intKind Challenge.rw_fk5013_02.row.prog w) kvs) (hf : PyProof.V.FlatPairs PyData.int kvs (kdfD c)) (hlen : c.length ≤ 60) (hn : (c.map (·.1)).Nodup) (hr : ∀ k ∈ c.map (·.1), 0 ≤ k ∧ k < many) (hk1 : 0 ≤ k) (hk2 : k < many)
  (hcap : (co = none ∧ cap = .none) ∨ ∃ t n, co = some n ∧ cap = .int n t ∧ (c.length : Int) ≤ n)
  (hoff : OwnOff tail [dc]) (e0 : L + 1 + 1 + 1 ≠ dc) (e1 : L + 1 + 1 ≠ dc) (e2 : L + 1 ≠ dc) (e3 : x ≠ dc) (e4 : d ≠ dc) (e5 : R ≠ dc) (e6 : H ≠ dc) (e7 : G ≠ dc) (e8 : x ≠ d) (e9 : R ≠ L + 1 + 1 ∧ R ≠ L + 1 + 1 + 1) (e10 : ∀ p ∈ tail, p.1 ≠ R) (e11 : G ≠ L + 1 + 1 ∧ G ≠ L + 1 + 1 + 1) (e12 : ∀ p ∈ tail, p.1 ≠ G)
  (done : ∀ h' tk' m' od' kvs' c' R' vs' n' extra, Fr h₀ L h' m' → m' "rows" = some (.ref R') → (∀ y : Str, y ≠ "rows" → y ≠ "told" → y ≠ "due" → m' y = m y) →
    News h₀ L h' ((L + 1 + 1 + 1, oks) :: (L + 1 + 1, ock) :: (L + 1, ocm) :: (x, instObj 112 d) :: (d, inD w ta tb cap dc) :: (dc, od') :: (R', listOf vs'.toArray n') :: (extra ++ tail)) →
    od'.IsDictOf (intKind Challenge.rw_fk5013_02.row.prog w) kvs' → PyProof.V.FlatPairs PyData.int kvs' (kdfD c') → RowsIn (extra ++ tl0) vs' c' → (c'.map (·.1)).Nodup → (∀ k ∈ c'.map (·.1), 0 ≤ k ∧ k < many) → (c'.length ≤ c.length + 1 ∧ ∀ n, co = some n → (c'.length : Int) ≤ n) →
    (R' ≠ dc ∧ (R' ≠ L + 1 + 1 ∧ R' ≠ L + 1 + 1 + 1) ∧ ∀ p ∈ tail, p.1 ≠ R') → (∀ q ∈ extra, q.1 ≠ dc ∧ (q.1 ≠ L + 1 + 1 ∧ q.1 ≠ L + 1 + 1 + 1) ∧ (∀ p ∈ tail, p.1 ≠ q.1) ∧ q.1 ≠ R') → Q .next { s with heap := h', toks := tk' }) :
  wpAny (model Challenge.rw_fk5013_02.row.prog w) (A2 L fa cdv) (exec (B2 3) (E2 L fa cdv)) Q E s := by
  revert X
  k_fill
  intro X
  unfold A2 E2 B2
  conv in (stAt _ _) => whnf
  conv in (occs := *) (lawS _) => all_goals whnf
  rw [← kst_self hm] at F
  have g1 := hG.length
  have g2 := hR.length
  have g3 := hK.length
  have g4 := kdyDel_len c k
  have hroom : ∀ n, co = some n → (c.length : Int) ≤ n := by
    intro n h
    rcases hcap with ⟨q, _⟩ | ⟨_, _, q, _, q2⟩
    · rw [q] at h; cases h
    · rw [q] at h; cases h; exact q2
  cases hkk : kdfHas c k with
  | false =>
    rw [filter_none hkk] at hK
    obtain rfl := ints_nil hK
    clear hK g3
    k_steps
    all_goals first
    | (exfalso; rename ((_ != _) = true) => a9; exact absurd a9 (by simp))
    | (rename Fr _ _ _ _ => F9
       rename News _ _ _ _ => N9
       rw [kst_self hm] at F9
       walk_at "my split"
       refine' done _ _ _ _ _ c _ _ _ [] F9 rfl (fun y h1 h2 h3 => by simp [h1, h2, h3]) (fun p hp => N9 p ?inn) (by assumption) (by assumption) (by have h9 := hG; rw [del_new hkk] at h9; exact h9) hn hr ⟨Nat.le_succ _, hroom⟩ ?nw (List.forall_mem_nil _)
       case inn =>
         revert p
         simp only [List.cons_append, List.nil_append]
         walk_at "my incl"
       case nw => exact ⟨e7, ⟨by assumption, by assumption⟩, e12⟩)
  | true =>
    rw [filter_one hkk hn] at hK
    obtain ⟨t9, rfl⟩ := ints_one hK
    clear hK g3
    k_steps
    all_goals first
    | (exfalso; rename ((_ != _) = true) => a9; exact absurd a9 (by simp))
    | (rename Fr _ _ _ _ => F9
       rename News _ _ _ _ => N9
       rw [kst_self hm] at F9
       walk_at "my split"
       refine' done _ _ _ _ _ (kdyDel c k) _ _ _ [] F9 rfl (fun y h1 h2 h3 => by simp [h1, h2, h3]) (fun p hp => N9 p ?inn) (by assumption) (by assumption) hG (del_nodup hn k) (fun j hj => hr j (del_mem.mp hj).1) ⟨by omega, fun n h => by have := hroom n h; omega⟩ ?nw (List.forall_mem_nil _)
       case inn =>
         revert p
         simp only [List.cons_append, List.nil_append]
         walk_at "my incl"
       case nw => exact ⟨e7, ⟨by assumption, by assumption⟩, e12⟩)
end
end
end Mine
end
theorem Mine.offY6 : True := by
  w_top off
  exact trivial
section
local macro_rules | `(tactic| walk_at "my pad") => `(tactic| fail)
local macro_rules | `(tactic| walk_at "my pad") => `(tactic| fail)
local macro_rules | `(tactic| walk_at "my pad") => `(tactic| fail)
local macro_rules | `(tactic| walk_at "my pad") => `(tactic| fail)
local macro_rules | `(tactic| walk_at "my pad") => `(tactic| fail)
local macro_rules | `(tactic| walk_at "my pad") => `(tactic| fail)
local macro_rules | `(tactic| walk_at "my pad") => `(tactic| fail)
local macro_rules | `(tactic| walk_at "my pad") => `(tactic| fail)
local macro_rules | `(tactic| walk_at "my pad") => `(tactic| fail)
local macro_rules | `(tactic| walk_at "my pad") => `(tactic| fail)
local macro_rules | `(tactic| walk_at "my pad") => `(tactic| fail)
local macro_rules | `(tactic| walk_at "my pad") => `(tactic| fail)
local macro_rules | `(tactic| walk_at "my pad") => `(tactic| fail)
local macro_rules | `(tactic| walk_at "my pad") => `(tactic| fail)
local macro_rules | `(tactic| walk_at "my pad") => `(tactic| fail)
local macro_rules | `(tactic| walk_at "my pad") => `(tactic| fail)
local macro_rules | `(tactic| walk_at "my pad") => `(tactic| fail)
local macro_rules | `(tactic| walk_at "my pad") => `(tactic| fail)
local macro_rules | `(tactic| walk_at "my pad") => `(tactic| fail)
local macro_rules | `(tactic| walk_at "my pad") => `(tactic| fail)
local macro_rules | `(tactic| walk_at "my pad") => `(tactic| fail)
local macro_rules | `(tactic| walk_at "my pad") => `(tactic| fail)
local macro_rules | `(tactic| walk_at "my pad") => `(tactic| fail)
local macro_rules | `(tactic| walk_at "my pad") => `(tactic| fail)
local macro_rules | `(tactic| walk_at "my pad") => `(tactic| fail)
local macro_rules | `(tactic| walk_at "my pad") => `(tactic| fail)
local macro_rules | `(tactic| walk_at "my pad") => `(tactic| fail)
local macro_rules | `(tactic| walk_at "my pad") => `(tactic| fail)
local macro_rules | `(tactic| walk_at "my pad") => `(tactic| fail)
local macro_rules | `(tactic| walk_at "my pad") => `(tactic| fail)
local macro_rules | `(tactic| walk_at "my pad") => `(tactic| fail)
local macro_rules | `(tactic| walk_at "my pad") => `(tactic| fail)
local macro_rules | `(tactic| walk_at "my pad") => `(tactic| fail)
local macro_rules | `(tactic| walk_at "my pad") => `(tactic| fail)
local macro_rules | `(tactic| walk_at "my pad") => `(tactic| fail)
local macro_rules | `(tactic| walk_at "my pad") => `(tactic| fail)
local macro_rules | `(tactic| walk_at "my pad") => `(tactic| fail)
local macro_rules | `(tactic| walk_at "my pad") => `(tactic| fail)
local macro_rules | `(tactic| walk_at "my pad") => `(tactic| fail)
local macro_rules | `(tactic| walk_at "my pad") => `(tactic| fail)
local macro_rules | `(tactic| walk_at "my pad") => `(tactic| fail)
local macro_rules | `(tactic| walk_at "my pad") => `(tactic| fail)
local macro_rules | `(tactic| walk_at "my pad") => `(tactic| fail)
local macro_rules | `(tactic| walk_at "my pad") => `(tactic| fail)
local macro_rules | `(tactic| walk_at "my pad") => `(tactic| fail)
local macro_rules | `(tactic| walk_at "my pad") => `(tactic| fail)
local macro_rules | `(tactic| walk_at "my pad") => `(tactic| fail)
local macro_rules | `(tactic| walk_at "my pad") => `(tactic| fail)
local macro_rules | `(tactic| walk_at "my pad") => `(tactic| fail)
local macro_rules | `(tactic| walk_at "my pad") => `(tactic| fail)
local macro_rules | `(tactic| walk_at "my pad") => `(tactic| fail)
local macro_rules | `(tactic| walk_at "my pad") => `(tactic| fail)
local macro_rules | `(tactic| walk_at "my pad") => `(tactic| fail)
local macro_rules | `(tactic| walk_at "my pad") => `(tactic| fail)
local macro_rules | `(tactic| walk_at "my pad") => `(tactic| fail)
local macro_rules | `(tactic| walk_at "my pad") => `(tactic| fail)
local macro_rules | `(tactic| walk_at "my pad") => `(tactic| fail)
local macro_rules | `(tactic| walk_at "my pad") => `(tactic| fail)
local macro_rules | `(tactic| walk_at "my pad") => `(tactic| fail)
local macro_rules | `(tactic| walk_at "my pad") => `(tactic| fail)
local macro_rules | `(tactic| walk_at "my pad") => `(tactic| fail)
local macro_rules | `(tactic| walk_at "my pad") => `(tactic| fail)
local macro_rules | `(tactic| walk_at "my pad") => `(tactic| fail)
local macro_rules | `(tactic| walk_at "my pad") => `(tactic| fail)
local macro_rules | `(tactic| walk_at "my pad") => `(tactic| fail)
local macro_rules | `(tactic| walk_at "my pad") => `(tactic| fail)
local macro_rules | `(tactic| walk_at "my pad") => `(tactic| fail)
local macro_rules | `(tactic| walk_at "my pad") => `(tactic| fail)
local macro_rules | `(tactic| walk_at "my pad") => `(tactic| fail)
local macro_rules | `(tactic| walk_at "my pad") => `(tactic| fail)
local macro_rules | `(tactic| walk_at "my pad") => `(tactic| fail)
local macro_rules | `(tactic| walk_at "my pad") => `(tactic| fail)
local macro_rules | `(tactic| walk_at "my pad") => `(tactic| fail)
local macro_rules | `(tactic| walk_at "my pad") => `(tactic| fail)
local macro_rules | `(tactic| walk_at "my pad") => `(tactic| fail)
local macro_rules | `(tactic| walk_at "my pad") => `(tactic| fail)
local macro_rules | `(tactic| walk_at "my pad") => `(tactic| fail)
local macro_rules | `(tactic| walk_at "my pad") => `(tactic| fail)
local macro_rules | `(tactic| walk_at "my pad") => `(tactic| fail)
local macro_rules | `(tactic| walk_at "my pad") => `(tactic| fail)
local macro_rules | `(tactic| walk_at "my pad") => `(tactic| fail)
local macro_rules | `(tactic| walk_at "my pad") => `(tactic| fail)
local macro_rules | `(tactic| walk_at "my pad") => `(tactic| fail)
local macro_rules | `(tactic| walk_at "my pad") => `(tactic| fail)
local macro_rules | `(tactic| walk_at "my pad") => `(tactic| fail)
local macro_rules | `(tactic| walk_at "my pad") => `(tactic| fail)
local macro_rules | `(tactic| walk_at "my pad") => `(tactic| fail)
local macro_rules | `(tactic| walk_at "my pad") => `(tactic| fail)
local macro_rules | `(tactic| walk_at "my pad") => `(tactic| fail)
local macro_rules | `(tactic| walk_at "my pad") => `(tactic| fail)
local macro_rules | `(tactic| walk_at "my pad") => `(tactic| fail)
local macro_rules | `(tactic| walk_at "my pad") => `(tactic| fail)
local macro_rules | `(tactic| walk_at "my pad") => `(tactic| fail)
local macro_rules | `(tactic| walk_at "my pad") => `(tactic| fail)
local macro_rules | `(tactic| walk_at "my pad") => `(tactic| fail)
local macro_rules | `(tactic| walk_at "my pad") => `(tactic| fail)
local macro_rules | `(tactic| walk_at "my pad") => `(tactic| fail)
local macro_rules | `(tactic| walk_at "my pad") => `(tactic| fail)
local macro_rules | `(tactic| walk_at "my pad") => `(tactic| fail)
local macro_rules | `(tactic| walk_at "my pad") => `(tactic| fail)
local macro_rules | `(tactic| walk_at "my pad") => `(tactic| fail)
local macro_rules | `(tactic| walk_at "my pad") => `(tactic| fail)
local macro_rules | `(tactic| walk_at "my pad") => `(tactic| fail)
local macro_rules | `(tactic| walk_at "my pad") => `(tactic| fail)
local macro_rules | `(tactic| walk_at "my pad") => `(tactic| fail)
local macro_rules | `(tactic| walk_at "my pad") => `(tactic| fail)
local macro_rules | `(tactic| walk_at "my pad") => `(tactic| fail)
local macro_rules | `(tactic| walk_at "my pad") => `(tactic| fail)
local macro_rules | `(tactic| walk_at "my pad") => `(tactic| fail)
local macro_rules | `(tactic| walk_at "my pad") => `(tactic| fail)
local macro_rules | `(tactic| walk_at "my pad") => `(tactic| fail)
local macro_rules | `(tactic| walk_at "my pad") => `(tactic| fail)
local macro_rules | `(tactic| walk_at "my pad") => `(tactic| fail)
local macro_rules | `(tactic| walk_at "my pad") => `(tactic| fail)
local macro_rules | `(tactic| walk_at "my pad") => `(tactic| fail)
local macro_rules | `(tactic| walk_at "my pad") => `(tactic| fail)
local macro_rules | `(tactic| walk_at "my pad") => `(tactic| fail)
local macro_rules | `(tactic| walk_at "my pad") => `(tactic| fail)
local macro_rules | `(tactic| walk_at "my pad") => `(tactic| fail)
local macro_rules | `(tactic| walk_at "my pad") => `(tactic| fail)
local macro_rules | `(tactic| walk_at "my pad") => `(tactic| fail)
local macro_rules | `(tactic| walk_at "my pad") => `(tactic| fail)
local macro_rules | `(tactic| walk_at "my pad") => `(tactic| fail)
local macro_rules | `(tactic| walk_at "my pad") => `(tactic| fail)
local macro_rules | `(tactic| walk_at "my pad") => `(tactic| fail)
local macro_rules | `(tactic| walk_at "my pad") => `(tactic| fail)
local macro_rules | `(tactic| walk_at "my pad") => `(tactic| fail)
local macro_rules | `(tactic| walk_at "my pad") => `(tactic| fail)
local macro_rules | `(tactic| walk_at "my pad") => `(tactic| fail)
local macro_rules | `(tactic| walk_at "my pad") => `(tactic| fail)
local macro_rules | `(tactic| walk_at "my pad") => `(tactic| fail)
local macro_rules | `(tactic| walk_at "my pad") => `(tactic| fail)
local macro_rules | `(tactic| walk_at "my pad") => `(tactic| fail)
local macro_rules | `(tactic| walk_at "my pad") => `(tactic| fail)
local macro_rules | `(tactic| walk_at "my pad") => `(tactic| fail)
local macro_rules | `(tactic| walk_at "my pad") => `(tactic| fail)
open PySem PySem.W PyProof.Rows
namespace Mine
section
local macro_rules | `(tactic| walk_at "my dp") => `(tactic| first | decide | ((try simp only [depth_under_make, depth_under_kw, depth_in1, depth_deeper, depth_caller]); decide))
local macro_rules | `(tactic| walk_at "call ref") => `(tactic| (k_here; (with_reducible show wpAny _ _ (call (Value.ref 109) _) _ _ _); k_dflt (refine' set_at ?B ?dp ?X ?T ?F ?N ?x ?dd ?U ?xd ?xc ?dc ?lo ?hd ?hf ?hc ?hn ?cap (fun h' o' kvs' tk' F' N' hd' hf' => ?_); (case B => k_asm); (case dp => walk_at "my dp"); (case X => k_in); (case T => k_asm); (case F => k_asm); (case N => k_asm); (case x => k_mem); (case dd => k_mem); (case U => k_updF); (case xd => k_ne); (case xc => k_ne); (case dc => k_ne); (case lo => k_asm); (case hd => k_asm); (case hf => k_asm); (case hc => omega); (case hn => assumption); (case cap => assumption)); (try dsimp only at N')))
local macro_rules | `(tactic| walk_at "my len") => `(tactic| ((try simp only [List.length_append, List.length_cons, List.length_nil]); omega))
local macro_rules | `(tactic| walk_at "binaryOp Add ref ref") => `(tactic| (k_here; k_dflt (refine' my_add ?F ?N ?a ?b ?z ?z2 ?_; (case F => k_asm); (case N => k_asm); (case a => k_mem); (case b => k_mem); (case z => walk_at "my len"); (case z2 => walk_at "my len")); intro D' h' F' N' l1; (try k_lt l1)))
local macro_rules | `(tactic| walk_at "subscriptTail Name Slice ref ref") => `(tactic| (k_here; k_dflt (refine' my_slice_pos ?x ?F ?N ?l ?z ?_ ?s ?t; (case F => k_asm); (case N => k_asm); (case l => k_mem); (case x => omega); (case z => walk_at "my len"); (case s => with_unfolding_all rfl); (case t => kmk_pure)); intro D' h' F' N' l1; (try k_lt l1)))
local macro_rules | `(tactic| walk_at "my in") => `(tactic| first | assumption | exact List.mem_cons_self | (refine List.mem_cons_of_mem _ ?_; walk_at "my in"))
local macro_rules | `(tactic| walk_at "my incl") => `(tactic| first | exact List.forall_mem_nil _ | (refine List.forall_mem_cons.mpr ⟨?_, ?_⟩; (focus walk_at "my in"); walk_at "my incl") | (intro p9 hp9; walk_at "my in"))
local macro_rules | `(tactic| walk_at "my split") => `(tactic| repeat (rename _ ∧ _ => hA9; obtain ⟨hA1, hA2⟩ := hA9))
local macro_rules | `(tactic| walk_at "my off") => `(tactic| exact fun p hp => Nat.ne_of_lt (allLt_all (by assumption) p hp))
local macro_rules | `(tactic| walk_at "my newx") => `(tactic| exact ⟨by (refine neN ?_; omega), by (refine neN ?_; omega), by walk_at "my off", by first | (refine neN ?_; omega) | omega⟩)
local macro_rules | `(tactic| walk_at "my new") => `(tactic| exact ⟨by (refine neN ?_; omega), by (refine neN ?_; omega), by walk_at "my off"⟩)
local macro_rules | `(tactic| walk_at "my two") => `(tactic| exact ⟨by (refine neN ?_; omega), by (refine neN ?_; omega)⟩)
local macro_rules | `(tactic| walk_at "my newx") => `(tactic| exact ⟨by (refine neN ?_; omega), by walk_at "my two", by walk_at "my off", by first | (refine neN ?_; omega) | omega⟩)
local macro_rules | `(tactic| walk_at "my new") => `(tactic| exact ⟨by (refine neN ?_; omega), by walk_at "my two", by walk_at "my off"⟩)
section
variable {w : World} {h₀ : Heap} {L fa : Addr} {cdv : Value} {p : Program} {loose : List Str} {mean : ExcName → Option Value} {mg mb : Str → Option Value} {x d dc R H G : Addr} {vs ks gs : List Value} {way k turn many : Int} {ta tb tn tw tk : Tok} {cap : Value} {co : Option Int} {ock ocm oks od : Obj} {kvs : List (Int × Value)} {c : Prs} {n : Nat}
  {tail : List (Addr × Obj)} {m : Str → Option Value} {s : Shared} {E : Value → Shared → Prop} {Q : Flow → Shared → Prop}
set_option maxRecDepth 100000 in
set_option maxHeartbeats 8000000 in
theorem y6 (B : Below callerA h₀ [] h₀) (X : (hd.heap_39 w.params).In h₀) (T : Top p loose mean mg mb h₀)
  
  (hm : ∀ p ∈ [(Str.ofString "most", cap), (Str.ofString "rows", Value.ref R), (Str.ofString "turn", Value.int turn tn), (Str.ofString "way", Value.int 17 tw), (Str.ofString "known", Value.ref H), (Str.ofString "rest", Value.ref G)], m p.1 = some p.2) (F : Fr h₀ L s.heap m)
  (N : News h₀ L s.heap ((L + 1 + 1 + 1, oks) :: (L + 1 + 1, ock) :: (L + 1, ocm) :: (x, instObj 112 d) :: (d, inD w ta tb cap dc) :: (dc, od) :: (R, listOf vs.toArray n) :: (H, LCg.lst ks) :: (G, LCg.lst gs) :: tail))
  (hck : ock.data = .cell (some (.int k tk))) (hcm : ocm.data = .cell (some (.ref x))) {tl0 : List (Addr × Obj)} (hsub : ∀ p ∈ tl0, p ∈ tail) (hR : RowsIn tl0 vs c) (hK : IntsAre ks ((c.filter fun p => decide (p.1 = k)).map (·.2))) (hG : RowsIn tl0 gs (kdyDel c k))
  (lo : (dc == sysModules) = false) (hd : od.IsDictOf (intKind Challenge.rw_fk5013_02.row.prog w) kvs) (hf : PyProof.V.FlatPairs PyData.int kvs (kdfD c)) (hlen : c.length ≤ 60) (hn : (c.map (·.1)).Nodup) (hr : ∀ k ∈ c.map (·.1), 0 ≤ k ∧ k < many) (hk1 : 0 ≤ k) (hk2 : k < many)
  (hcap : (co = none ∧ cap = .none) ∨ ∃ t n, co = some n ∧ cap = .int n t ∧ (c.length : Int) ≤ n)
  (hoff : OwnOff tail [dc]) (e0 : L + 1 + 1 + 1 ≠ dc) (e1 : L + 1 + 1 ≠ dc) (e2 : L + 1 ≠ dc) (e3 : x ≠ dc) (e4 : d ≠ dc) (e5 : R ≠ dc) (e6 : H ≠ dc) (e7 : G ≠ dc) (e8 : x ≠ d) (e9 : R ≠ L + 1 + 1 ∧ R ≠ L + 1 + 1 + 1) (e10 : ∀ p ∈ tail, p.1 ≠ R) (e11 : G ≠ L + 1 + 1 ∧ G ≠ L + 1 + 1 + 1) (e12 : ∀ p ∈ tail, p.1 ≠ G)
  (done : ∀ h' tk' m' od' kvs' c' R' vs' n' extra, Fr h₀ L h' m' → m' "rows" = some (.ref R') → (∀ y : Str, y ≠ "rows" → y ≠ "told" → y ≠ "due" → m' y = m y) →
    News h₀ L h' ((L + 1 + 1 + 1, oks) :: (L + 1 + 1, ock) :: (L + 1, ocm) :: (x, instObj 112 d) :: (d, inD w ta tb cap dc) :: (dc, od') :: (R', listOf vs'.toArray n') :: (extra ++ tail)) →
    od'.IsDictOf (intKind Challenge.rw_fk5013_02.row.prog w) kvs' → PyProof.V.FlatPairs PyData.int kvs' (kdfD c') → RowsIn (extra ++ tl0) vs' c' → (c'.map (·.1)).Nodup → (∀ k ∈ c'.map (·.1), 0 ≤ k ∧ k < many) → (c'.length ≤ c.length + 1 ∧ ∀ n, co = some n → (c'.length : Int) ≤ n) →
    (R' ≠ dc ∧ (R' ≠ L + 1 + 1 ∧ R' ≠ L + 1 + 1 + 1) ∧ ∀ p ∈ tail, p.1 ≠ R') → (∀ q ∈ extra, q.1 ≠ dc ∧ (q.1 ≠ L + 1 + 1 ∧ q.1 ≠ L + 1 + 1 + 1) ∧ (∀ p ∈ tail, p.1 ≠ q.1) ∧ q.1 ≠ R') → Q .next { s with heap := h', toks := tk' }) :
  wpAny (model Challenge.rw_fk5013_02.row.prog w) (A2 L fa cdv) (exec (B2 3) (E2 L fa cdv)) Q E s := by
  revert X
  k_fill
  intro X
  unfold A2 E2 B2
  conv in (stAt _ _) => whnf
  conv in (occs := *) (lawS _) => all_goals whnf
  rw [← kst_self hm] at F
  have g1 := hG.length
  have g2 := hR.length
  have g3 := hK.length
  have g4 := kdyDel_len c k
  k_steps
  all_goals
    rename Fr _ _ _ _ => F9
    rename News _ _ _ _ => N9
    rw [kst_self hm] at F9
    walk_at "my split"
    refine' done _ _ _ _ _ [] _ _ _ [] F9 rfl (fun y h1 h2 h3 => by simp [h1]) (fun p hp => N9 p ?inn) (by assumption) (by assumption) RowsIn.nil (by simp) (fun j hj => by simp at hj) ⟨Nat.zero_le _, fun n h => ?cc⟩ ?nw (List.forall_mem_nil _)
    case inn =>
      revert p
      simp only [List.cons_append, List.nil_append]
      walk_at "my incl"
    case cc =>
      rcases hcap with ⟨q, _⟩ | ⟨_, _, q, _, q2⟩
      · rw [q] at h; cases h
      · rw [q] at h; cases h; simp only [List.length_nil]; omega
    case nw => walk_at "my new"
end
end
end Mine
end
theorem Mine.offY : True := by
  w_top off
  exact trivial
section
local macro_rules | `(tactic| walk_at "my pad") => `(tactic| fail)
local macro_rules | `(tactic| walk_at "my pad") => `(tactic| fail)
local macro_rules | `(tactic| walk_at "my pad") => `(tactic| fail)
local macro_rules | `(tactic| walk_at "my pad") => `(tactic| fail)
local macro_rules | `(tactic| walk_at "my pad") => `(tactic| fail)
local macro_rules | `(tactic| walk_at "my pad") => `(tactic| fail)
local macro_rules | `(tactic| walk_at "my pad") => `(tactic| fail)
local macro_rules | `(tactic| walk_at "my pad") => `(tactic| fail)
local macro_rules | `(tactic| walk_at "my pad") => `(tactic| fail)
local macro_rules | `(tactic| walk_at "my pad") => `(tactic| fail)
local macro_rules | `(tactic| walk_at "my pad") => `(tactic| fail)
local macro_rules | `(tactic| walk_at "my pad") => `(tactic| fail)
local macro_rules | `(tactic| walk_at "my pad") => `(tactic| fail)
local macro_rules | `(tactic| walk_at "my pad") => `(tactic| fail)
local macro_rules | `(tactic| walk_at "my pad") => `(tactic| fail)
local macro_rules | `(tactic| walk_at "my pad") => `(tactic| fail)
local macro_rules | `(tactic| walk_at "my pad") => `(tactic| fail)
local macro_rules | `(tactic| walk_at "my pad") => `(tactic| fail)
local macro_rules | `(tactic| walk_at "my pad") => `(tactic| fail)
local macro_rules | `(tactic| walk_at "my pad") => `(tactic| fail)
local macro_rules | `(tactic| walk_at "my pad") => `(tactic| fail)
local macro_rules | `(tactic| walk_at "my pad") => `(tactic| fail)
local macro_rules | `(tactic| walk_at "my pad") => `(tactic| fail)
local macro_rules | `(tactic| walk_at "my pad") => `(tactic| fail)
local macro_rules | `(tactic| walk_at "my pad") => `(tactic| fail)
local macro_rules | `(tactic| walk_at "my pad") => `(tactic| fail)
local macro_rules | `(tactic| walk_at "my pad") => `(tactic| fail)
local macro_rules | `(tactic| walk_at "my pad") => `(tactic| fail)
local macro_rules | `(tactic| walk_at "my pad") => `(tactic| fail)
local macro_rules | `(tactic| walk_at "my pad") => `(tactic| fail)
local macro_rules | `(tactic| walk_at "my pad") => `(tactic| fail)
local macro_rules | `(tactic| walk_at "my pad") => `(tactic| fail)
local macro_rules | `(tactic| walk_at "my pad") => `(tactic| fail)
local macro_rules | `(tactic| walk_at "my pad") => `(tactic| fail)
local macro_rules | `(tactic| walk_at "my pad") => `(tactic| fail)
local macro_rules | `(tactic| walk_at "my pad") => `(tactic| fail)
local macro_rules | `(tactic| walk_at "my pad") => `(tactic| fail)
local macro_rules | `(tactic| walk_at "my pad") => `(tactic| fail)
local macro_rules | `(tactic| walk_at "my pad") => `(tactic| fail)
local macro_rules | `(tactic| walk_at "my pad") => `(tactic| fail)
local macro_rules | `(tactic| walk_at "my pad") => `(tactic| fail)
local macro_rules | `(tactic| walk_at "my pad") => `(tactic| fail)
local macro_rules | `(tactic| walk_at "my pad") => `(tactic| fail)
local macro_rules | `(tactic| walk_at "my pad") => `(tactic| fail)
local macro_rules | `(tactic| walk_at "my pad") => `(tactic| fail)
local macro_rules | `(tactic| walk_at "my pad") => `(tactic| fail)
local macro_rules | `(tactic| walk_at "my pad") => `(tactic| fail)
local macro_rules | `(tactic| walk_at "my pad") => `(tactic| fail)
local macro_rules | `(tactic| walk_at "my pad") => `(tactic| fail)
local macro_rules | `(tactic| walk_at "my pad") => `(tactic| fail)
local macro_rules | `(tactic| walk_at "my pad") => `(tactic| fail)
local macro_rules | `(tactic| walk_at "my pad") => `(tactic| fail)
local macro_rules | `(tactic| walk_at "my pad") => `(tactic| fail)
local macro_rules | `(tactic| walk_at "my pad") => `(tactic| fail)
local macro_rules | `(tactic| walk_at "my pad") => `(tactic| fail)
local macro_rules | `(tactic| walk_at "my pad") => `(tactic| fail)
local macro_rules | `(tactic| walk_at "my pad") => `(tactic| fail)
local macro_rules | `(tactic| walk_at "my pad") => `(tactic| fail)
local macro_rules | `(tactic| walk_at "my pad") => `(tactic| fail)
local macro_rules | `(tactic| walk_at "my pad") => `(tactic| fail)
local macro_rules | `(tactic| walk_at "my pad") => `(tactic| fail)
local macro_rules | `(tactic| walk_at "my pad") => `(tactic| fail)
local macro_rules | `(tactic| walk_at "my pad") => `(tactic| fail)
local macro_rules | `(tactic| walk_at "my pad") => `(tactic| fail)
local macro_rules | `(tactic| walk_at "my pad") => `(tactic| fail)
local macro_rules | `(tactic| walk_at "my pad") => `(tactic| fail)
local macro_rules | `(tactic| walk_at "my pad") => `(tactic| fail)
local macro_rules | `(tactic| walk_at "my pad") => `(tactic| fail)
local macro_rules | `(tactic| walk_at "my pad") => `(tactic| fail)
local macro_rules | `(tactic| walk_at "my pad") => `(tactic| fail)
local macro_rules | `(tactic| walk_at "my pad") => `(tactic| fail)
local macro_rules | `(tactic| walk_at "my pad") => `(tactic| fail)
local macro_rules | `(tactic| walk_at "my pad") => `(tactic| fail)
local macro_rules | `(tactic| walk_at "my pad") => `(tactic| fail)
local macro_rules | `(tactic| walk_at "my pad") => `(tactic| fail)
local macro_rules | `(tactic| walk_at "my pad") => `(tactic| fail)
local macro_rules | `(tactic| walk_at "my pad") => `(tactic| fail)
local macro_rules | `(tactic| walk_at "my pad") => `(tactic| fail)
local macro_rules | `(tactic| walk_at "my pad") => `(tactic| fail)
local macro_rules | `(tactic| walk_at "my pad") => `(tactic| fail)
local macro_rules | `(tactic| walk_at "my pad") => `(tactic| fail)
local macro_rules | `(tactic| walk_at "my pad") => `(tactic| fail)
local macro_rules | `(tactic| walk_at "my pad") => `(tactic| fail)
local macro_rules | `(tactic| walk_at "my pad") => `(tactic| fail)
local macro_rules | `(tactic| walk_at "my pad") => `(tactic| fail)
local macro_rules | `(tactic| walk_at "my pad") => `(tactic| fail)
local macro_rules | `(tactic| walk_at "my pad") => `(tactic| fail)
local macro_rules | `(tactic| walk_at "my pad") => `(tactic| fail)
local macro_rules | `(tactic| walk_at "my pad") => `(tactic| fail)
local macro_rules | `(tactic| walk_at "my pad") => `(tactic| fail)
local macro_rules | `(tactic| walk_at "my pad") => `(tactic| fail)
local macro_rules | `(tactic| walk_at "my pad") => `(tactic| fail)
local macro_rules | `(tactic| walk_at "my pad") => `(tactic| fail)
local macro_rules | `(tactic| walk_at "my pad") => `(tactic| fail)
local macro_rules | `(tactic| walk_at "my pad") => `(tactic| fail)
local macro_rules | `(tactic| walk_at "my pad") => `(tactic| fail)
local macro_rules | `(tactic| walk_at "my pad") => `(tactic| fail)
local macro_rules | `(tactic| walk_at "my pad") => `(tactic| fail)
local macro_rules | `(tactic| walk_at "my pad") => `(tactic| fail)
local macro_rules | `(tactic| walk_at "my pad") => `(tactic| fail)
local macro_rules | `(tactic| walk_at "my pad") => `(tactic| fail)
local macro_rules | `(tactic| walk_at "my pad") => `(tactic| fail)
local macro_rules | `(tactic| walk_at "my pad") => `(tactic| fail)
local macro_rules | `(tactic| walk_at "my pad") => `(tactic| fail)
local macro_rules | `(tactic| walk_at "my pad") => `(tactic| fail)
local macro_rules | `(tactic| walk_at "my pad") => `(tactic| fail)
local macro_rules | `(tactic| walk_at "my pad") => `(tactic| fail)
local macro_rules | `(tactic| walk_at "my pad") => `(tactic| fail)
local macro_rules | `(tactic| walk_at "my pad") => `(tactic| fail)
local macro_rules | `(tactic| walk_at "my pad") => `(tactic| fail)
local macro_rules | `(tactic| walk_at "my pad") => `(tactic| fail)
local macro_rules | `(tactic| walk_at "my pad") => `(tactic| fail)
local macro_rules | `(tactic| walk_at "my pad") => `(tactic| fail)
local macro_rules | `(tactic| walk_at "my pad") => `(tactic| fail)
local macro_rules | `(tactic| walk_at "my pad") => `(tactic| fail)
local macro_rules | `(tactic| walk_at "my pad") => `(tactic| fail)
local macro_rules | `(tactic| walk_at "my pad") => `(tactic| fail)
local macro_rules | `(tactic| walk_at "my pad") => `(tactic| fail)
local macro_rules | `(tactic| walk_at "my pad") => `(tactic| fail)
local macro_rules | `(tactic| walk_at "my pad") => `(tactic| fail)
local macro_rules | `(tactic| walk_at "my pad") => `(tactic| fail)
local macro_rules | `(tactic| walk_at "my pad") => `(tactic| fail)
local macro_rules | `(tactic| walk_at "my pad") => `(tactic| fail)
local macro_rules | `(tactic| walk_at "my pad") => `(tactic| fail)
local macro_rules | `(tactic| walk_at "my pad") => `(tactic| fail)
local macro_rules | `(tactic| walk_at "my pad") => `(tactic| fail)
local macro_rules | `(tactic| walk_at "my pad") => `(tactic| fail)
local macro_rules | `(tactic| walk_at "my pad") => `(tactic| fail)
local macro_rules | `(tactic| walk_at "my pad") => `(tactic| fail)
local macro_rules | `(tactic| walk_at "my pad") => `(tactic| fail)
local macro_rules | `(tactic| walk_at "my pad") => `(tactic| fail)
local macro_rules | `(tactic| walk_at "my pad") => `(tactic| fail)
local macro_rules | `(tactic| walk_at "my pad") => `(tactic| fail)
local macro_rules | `(tactic| walk_at "my pad") => `(tactic| fail)
local macro_rules | `(tactic| walk_at "my pad") => `(tactic| fail)
local macro_rules | `(tactic| walk_at "my pad") => `(tactic| fail)
local macro_rules | `(tactic| walk_at "my pad") => `(tactic| fail)
local macro_rules | `(tactic| walk_at "my pad") => `(tactic| fail)
local macro_rules | `(tactic| walk_at "my pad") => `(tactic| fail)
local macro_rules | `(tactic| walk_at "my pad") => `(tactic| fail)
local macro_rules | `(tactic| walk_at "my pad") => `(tactic| fail)
local macro_rules | `(tactic| walk_at "my pad") => `(tactic| fail)
local macro_rules | `(tactic| walk_at "my pad") => `(tactic| fail)
local macro_rules | `(tactic| walk_at "my pad") => `(tactic| fail)
local macro_rules | `(tactic| walk_at "my pad") => `(tactic| fail)
local macro_rules | `(tactic| walk_at "my pad") => `(tactic| fail)
local macro_rules | `(tactic| walk_at "my pad") => `(tactic| fail)
local macro_rules | `(tactic| walk_at "my pad") => `(tactic| fail)
local macro_rules | `(tactic| walk_at "my pad") => `(tactic| fail)
local macro_rules | `(tactic| walk_at "my pad") => `(tactic| fail)
local macro_rules | `(tactic| walk_at "my pad") => `(tactic| fail)
open PySem PySem.W PyProof.Rows
namespace Mine
section
variable {w : World} {h₀ : Heap} {L fa : Addr} {cdv : Value} {p : Program} {loose : List Str} {mean : ExcName → Option Value} {mg mb : Str → Option Value} {x d dc R H G : Addr} {vs ks gs : List Value} {way k turn many : Int} {ta tb tn tw tk : Tok} {cap : Value} {co : Option Int} {ock ocm oks od : Obj} {kvs : List (Int × Value)} {c : Prs} {n : Nat}
  {tail : List (Addr × Obj)} {m : Str → Option Value} {s : Shared} {E : Value → Shared → Prop} {Q : Flow → Shared → Prop}
set_option maxRecDepth 100000 in
set_option maxHeartbeats 8000000 in
theorem st3 (B : Below callerA h₀ [] h₀) (X : (hd.heap_39 w.params).In h₀) (T : Top p loose mean mg mb h₀)
  (hw1 : 0 ≤ way) (hw2 : way < 18)
  (hm : ∀ p ∈ [(Str.ofString "most", cap), (Str.ofString "rows", Value.ref R), (Str.ofString "turn", Value.int turn tn), (Str.ofString "way", Value.int way tw), (Str.ofString "known", Value.ref H), (Str.ofString "rest", Value.ref G)], m p.1 = some p.2) (F : Fr h₀ L s.heap m)
  (N : News h₀ L s.heap ((L + 1 + 1 + 1, oks) :: (L + 1 + 1, ock) :: (L + 1, ocm) :: (x, instObj 112 d) :: (d, inD w ta tb cap dc) :: (dc, od) :: (R, listOf vs.toArray n) :: (H, LCg.lst ks) :: (G, LCg.lst gs) :: tail))
  (hck : ock.data = .cell (some (.int k tk))) (hcm : ocm.data = .cell (some (.ref x))) {tl0 : List (Addr × Obj)} (hsub : ∀ p ∈ tl0, p ∈ tail) (hR : RowsIn tl0 vs c) (hK : IntsAre ks ((c.filter fun p => decide (p.1 = k)).map (·.2))) (hG : RowsIn tl0 gs (kdyDel c k))
  (lo : (dc == sysModules) = false) (hd : od.IsDictOf (intKind Challenge.rw_fk5013_02.row.prog w) kvs) (hf : PyProof.V.FlatPairs PyData.int kvs (kdfD c)) (hlen : c.length ≤ 60) (hn : (c.map (·.1)).Nodup) (hr : ∀ k ∈ c.map (·.1), 0 ≤ k ∧ k < many) (hk1 : 0 ≤ k) (hk2 : k < many)
  (hcap : (co = none ∧ cap = .none) ∨ ∃ t n, co = some n ∧ cap = .int n t ∧ 1 ≤ n ∧ (c.length : Int) ≤ n)
  (hoff : OwnOff tail [dc]) (e0 : L + 1 + 1 + 1 ≠ dc) (e1 : L + 1 + 1 ≠ dc) (e2 : L + 1 ≠ dc) (e3 : x ≠ dc) (e4 : d ≠ dc) (e5 : R ≠ dc) (e6 : H ≠ dc) (e7 : G ≠ dc) (e8 : x ≠ d) (e9 : R ≠ L + 1 + 1 ∧ R ≠ L + 1 + 1 + 1) (e10 : ∀ p ∈ tail, p.1 ≠ R) (e11 : G ≠ L + 1 + 1 ∧ G ≠ L + 1 + 1 + 1) (e12 : ∀ p ∈ tail, p.1 ≠ G)
  (done : ∀ h' tk' m' od' kvs' c' R' vs' n' extra, Fr h₀ L h' m' → m' "rows" = some (.ref R') → (∀ y : Str, y ≠ "rows" → y ≠ "told" → y ≠ "due" → m' y = m y) →
    News h₀ L h' ((L + 1 + 1 + 1, oks) :: (L + 1 + 1, ock) :: (L + 1, ocm) :: (x, instObj 112 d) :: (d, inD w ta tb cap dc) :: (dc, od') :: (R', listOf vs'.toArray n') :: (extra ++ tail)) →
    od'.IsDictOf (intKind Challenge.rw_fk5013_02.row.prog w) kvs' → PyProof.V.FlatPairs PyData.int kvs' (kdfD c') → RowsIn (extra ++ tl0) vs' c' → (c'.map (·.1)).Nodup → (∀ k ∈ c'.map (·.1), 0 ≤ k ∧ k < many) → (c'.length ≤ c.length + 1 ∧ ∀ n, co = some n → (c'.length : Int) ≤ n) →
    (R' ≠ dc ∧ (R' ≠ L + 1 + 1 ∧ R' ≠ L + 1 + 1 + 1) ∧ ∀ p ∈ tail, p.1 ≠ R') → (∀ q ∈ extra, q.1 ≠ dc ∧ (q.1 ≠ L + 1 + 1 ∧ q.1 ≠ L + 1 + 1 + 1) ∧ (∀ p ∈ tail, p.1 ≠ q.1) ∧ q.1 ≠ R') → Q .next { s with heap := h', toks := tk' }) :
  wpAny (model Challenge.rw_fk5013_02.row.prog w) (A2 L fa cdv) (exec (B2 3) (E2 L fa cdv)) Q E s := by
  have hcap' : (co = none ∧ cap = .none) ∨ ∃ t n, co = some n ∧ cap = .int n t ∧ (c.length : Int) ≤ n := by
    rcases hcap with q | ⟨t, n, a, b, _, q⟩
    · exact .inl q
    · exact .inr ⟨t, n, a, b, q⟩
  by_cases w1 : way < 9
  · rcases hcap with hcap | hcap
    · exact y1 B X T hw1 w1 hm F N hck hcm hsub hR hK hG lo hd hf hlen hn hr hk1 hk2 hcap hoff e0 e1 e2 e3 e4 e5 e6 e7 e8 e9 e10 e11 e12 done
    · exact y2 B X T hw1 w1 hm F N hck hcm hsub hR hK hG lo hd hf hlen hn hr hk1 hk2 hcap hoff e0 e1 e2 e3 e4 e5 e6 e7 e8 e9 e10 e11 e12 done
  by_cases w2 : way < 12
  · exact y3 B X T (by omega) w2 hm F N hck hcm hsub hR hK hG lo hd hf hlen hn hr hk1 hk2 hcap' hoff e0 e1 e2 e3 e4 e5 e6 e7 e8 e9 e10 e11 e12 done
  by_cases w3 : way < 14
  · exact y4 B X T (by omega) w3 hm F N hck hcm hsub hR hK hG lo hd hf hlen hn hr hk1 hk2 hcap' hoff e0 e1 e2 e3 e4 e5 e6 e7 e8 e9 e10 e11 e12 done
  by_cases w4 : way < 16
  · exact y4b B X T (by omega) w4 hm F N hck hcm hsub hR hK hG lo hd hf hlen hn hr hk1 hk2 hcap' hoff e0 e1 e2 e3 e4 e5 e6 e7 e8 e9 e10 e11 e12 done
  by_cases w5 : way = 16
  · subst w5
    exact y5 B X T hm F N hck hcm hsub hR hK hG lo hd hf hlen hn hr hk1 hk2 hcap' hoff e0 e1 e2 e3 e4 e5 e6 e7 e8 e9 e10 e11 e12 done
  · have w6 : way = 17 := by omega
    subst w6
    exact y6 B X T hm F N hck hcm hsub hR hK hG lo hd hf hlen hn hr hk1 hk2 hcap' hoff e0 e1 e2 e3 e4 e5 e6 e7 e8 e9 e10 e11 e12 done
end
section
variable {w : World} {h₀ : Heap} {L fa : Addr} {cdv : Value} {m : Str → Option Value} {s : Shared} {E : Value → Shared → Prop} {Q : Flow → Shared → Prop} {led : List (Addr × Obj)}
set_option maxRecDepth 100000 in
set_option maxHeartbeats 8000000 in
theorem st4 {a : Int} {ta : Tok} (X : (hd.heap_39 w.params).In h₀) (hm : ∀ p ∈ [(Str.ofString "at", Value.int a ta)], m p.1 = some p.2) (F : Fr h₀ L s.heap m) (N : News h₀ L s.heap led)
  (done : ∀ h' tk t, Fr h₀ L h' (fun y => if y = "at" then some (.int (a + 2) t) else m y) → News h₀ L h' led → Q .next { s with heap := h', toks := tk }) :
  wpAny (model Challenge.rw_fk5013_02.row.prog w) (A2 L fa cdv) (exec (B2 4) (E2 L fa cdv)) Q E s := by
  revert X
  k_fill
  intro X
  unfold A2 E2 B2
  conv in (stAt _ _) => whnf
  conv in (occs := *) (lawS _) => all_goals whnf
  rw [← kst_self hm] at F
  k_steps
  rename Fr _ _ _ _ => F9
  rename News _ _ _ _ => N9
  rw [kst_self hm] at F9
  exact done _ _ _ F9 N9
end
end Mine
end
section
open PySem PySem.W PyProof.Rows
namespace Mine
section
variable {prog : Program} {w : World} {A : Around} {E : Value → Shared → Prop} {s : Shared} {h₀ : Heap} {env : Env} {x : Str} {body : List Stmt} {Q : Flow → Shared → Prop} {r : Addr} {a₀ b₀ : Int} {t₀ u₀ v₀ : Tok} {n : Nat} {m₀ : Str → Option Value} {news : List (Addr × Obj)}
theorem my_range (J : Nat → (Str → Option Value) → List (Addr × Obj) → Prop)
  (hh : A.handled = none) (hr : IsRange s.heap r a₀ b₀ 1 t₀ u₀ v₀) (hsmall : Builtin.Range.small a₀ b₀ 1 = true) (hsz : Builtin.Range.rangeSize a₀ b₀ 1 = (n : Int)) (F : Fr h₀ env.locals s.heap m₀) (N : News h₀ env.locals s.heap news) (hj : J 0 m₀ news)
  (turn : ∀ i t m₁ nx h tk own, i < n → OwnOff own (nx.map (·.1)) → J i m₁ nx → Fr h₀ env.locals h (fun y => if y = x then some (.int (a₀ + (i : Int)) t) else m₁ y) → News h₀ env.locals h (nx ++ own) →
    wpAny (model prog w) A (execs body env) (InvPostG h₀ env.locals (J (i + 1)) own { s with heap := h, toks := tk } Q) E { s with heap := h, toks := tk })
  (done : ∀ m₁ nx h tk, J n m₁ nx → Fr h₀ env.locals h m₁ → News h₀ env.locals h nx → Q .next { s with heap := h, toks := tk }) :
  wpAny (model prog w) A (pyIter (.ref r)) (fun it s₂ => LoopAtV prog w A h₀ env x body Q E it s₂) E s := by
  refine wpAny_pyIter_range hr hsmall ?_
  have W : Walks prog w A s.heap.objs.size [s.heap.objs.size] [s.heap.objs.size] n (fun i v => i < n ∧ ∃ t, v = .int (a₀ + i * 1) t)
      (fun i h => IsRangeIter h s.heap.objs.size (a₀ + (i : Nat) * 1) ((n : Int) - (i : Nat)) 1) := (Walks.range hh _ a₀ 1 n).bound
  refine kdr_loop J W (fun _ h => h) (fun _ h => h) ?_ ?_ ?_ ?_ (by show IsRangeIter _ _ _ _ _; rw [hsz]; simpa using Heap.get?_push_size _ rfl) (F.push _) (fun p hp => ⟨Heap.get?_push_of_some _ (N p hp).1, (N p hp).2⟩) hj ?_ ?_
  · intro i h hi b hb
    rw [List.mem_singleton.mp hb]
    exact ⟨_, hi⟩
  · intro hm
    exact absurd F.ns.lt ((List.mem_singleton.mp hm) ▸ Nat.lt_irrefl _)
  · intro b hb
    rw [List.mem_singleton.mp hb]
    exact next_is_new F
  · intro p hp hI
    exact absurd (Heap.lt_size (N p hp).1) ((List.mem_singleton.mp hI) ▸ Nat.lt_irrefl _)
  · rintro i v m₁ nx h tk own hi ⟨_, t, rfl⟩ hoff hj' F₁ N₁
    have e1 : a₀ + (i : Int) * 1 = a₀ + (i : Int) := by omega
    rw [e1] at F₁
    exact turn i t m₁ nx h tk own hi hoff hj' F₁ N₁
  · intro m₁ nx h tk hj' F₁ N₁
    exact done m₁ nx h tk hj' F₁ N₁
end
end Mine
end
theorem Mine.offW02 : True := by
  w_top off
  exact trivial
section
local macro_rules | `(tactic| walk_at "my pad") => `(tactic| fail)
local macro_rules | `(tactic| walk_at "my pad") => `(tactic| fail)
local macro_rules | `(tactic| walk_at "my pad") => `(tactic| fail)
local macro_rules | `(tactic| walk_at "my pad") => `(tactic| fail)
local macro_rules | `(tactic| walk_at "my pad") => `(tactic| fail)
local macro_rules | `(tactic| walk_at "my pad") => `(tactic| fail)
local macro_rules | `(tactic| walk_at "my pad") => `(tactic| fail)
local macro_rules | `(tactic| walk_at "my pad") => `(tactic| fail)
local macro_rules | `(tactic| walk_at "my pad") => `(tactic| fail)
local macro_rules | `(tactic| walk_at "my pad") => `(tactic| fail)
local macro_rules | `(tactic| walk_at "my pad") => `(tactic| fail)
local macro_rules | `(tactic| walk_at "my pad") => `(tactic| fail)
local macro_rules | `(tactic| walk_at "my pad") => `(tactic| fail)
local macro_rules | `(tactic| walk_at "my pad") => `(tactic| fail)
local macro_rules | `(tactic| walk_at "my pad") => `(tactic| fail)
local macro_rules | `(tactic| walk_at "my pad") => `(tactic| fail)
local macro_rules | `(tactic| walk_at "my pad") => `(tactic| fail)
local macro_rules | `(tactic| walk_at "my pad") => `(tactic| fail)
local macro_rules | `(tactic| walk_at "my pad") => `(tactic| fail)
local macro_rules | `(tactic| walk_at "my pad") => `(tactic| fail)
local macro_rules | `(tactic| walk_at "my pad") => `(tactic| fail)
local macro_rules | `(tactic| walk_at "my pad") => `(tactic| fail)
local macro_rules | `(tactic| walk_at "my pad") => `(tactic| fail)
local macro_rules | `(tactic| walk_at "my pad") => `(tactic| fail)
local macro_rules | `(tactic| walk_at "my pad") => `(tactic| fail)
local macro_rules | `(tactic| walk_at "my pad") => `(tactic| fail)
local macro_rules | `(tactic| walk_at "my pad") => `(tactic| fail)
local macro_rules | `(tactic| walk_at "my pad") => `(tactic| fail)
local macro_rules | `(tactic| walk_at "my pad") => `(tactic| fail)
local macro_rules | `(tactic| walk_at "my pad") => `(tactic| fail)
local macro_rules | `(tactic| walk_at "my pad") => `(tactic| fail)
local macro_rules | `(tactic| walk_at "my pad") => `(tactic| fail)
local macro_rules | `(tactic| walk_at "my pad") => `(tactic| fail)
local macro_rules | `(tactic| walk_at "my pad") => `(tactic| fail)
local macro_rules | `(tactic| walk_at "my pad") => `(tactic| fail)
local macro_rules | `(tactic| walk_at "my pad") => `(tactic| fail)
local macro_rules | `(tactic| walk_at "my pad") => `(tactic| fail)
local macro_rules | `(tactic| walk_at "my pad") => `(tactic| fail)
local macro_rules | `(tactic| walk_at "my pad") => `(tactic| fail)
local macro_rules | `(tactic| walk_at "my pad") => `(tactic| fail)
local macro_rules | `(tactic| walk_at "my pad") => `(tactic| fail)
local macro_rules | `(tactic| walk_at "my pad") => `(tactic| fail)
local macro_rules | `(tactic| walk_at "my pad") => `(tactic| fail)
local macro_rules | `(tactic| walk_at "my pad") => `(tactic| fail)
local macro_rules | `(tactic| walk_at "my pad") => `(tactic| fail)
local macro_rules | `(tactic| walk_at "my pad") => `(tactic| fail)
local macro_rules | `(tactic| walk_at "my pad") => `(tactic| fail)
local macro_rules | `(tactic| walk_at "my pad") => `(tactic| fail)
local macro_rules | `(tactic| walk_at "my pad") => `(tactic| fail)
local macro_rules | `(tactic| walk_at "my pad") => `(tactic| fail)
local macro_rules | `(tactic| walk_at "my pad") => `(tactic| fail)
local macro_rules | `(tactic| walk_at "my pad") => `(tactic| fail)
local macro_rules | `(tactic| walk_at "my pad") => `(tactic| fail)
local macro_rules | `(tactic| walk_at "my pad") => `(tactic| fail)
local macro_rules | `(tactic| walk_at "my pad") => `(tactic| fail)
local macro_rules | `(tactic| walk_at "my pad") => `(tactic| fail)
local macro_rules | `(tactic| walk_at "my pad") => `(tactic| fail)
local macro_rules | `(tactic| walk_at "my pad") => `(tactic| fail)
local macro_rules | `(tactic| walk_at "my pad") => `(tactic| fail)
local macro_rules | `(tactic| walk_at "my pad") => `(tactic| fail)
local macro_rules | `(tactic| walk_at "my pad") => `(tactic| fail)
local macro_rules | `(tactic| walk_at "my pad") => `(tactic| fail)
local macro_rules | `(tactic| walk_at "my pad") => `(tactic| fail)
local macro_rules | `(tactic| walk_at "my pad") => `(tactic| fail)
local macro_rules | `(tactic| walk_at "my pad") => `(tactic| fail)
local macro_rules | `(tactic| walk_at "my pad") => `(tactic| fail)
local macro_rules | `(tactic| walk_at "my pad") => `(tactic| fail)
local macro_rules | `(tactic| walk_at "my pad") => `(tactic| fail)
local macro_rules | `(tactic| walk_at "my pad") => `(tactic| fail)
local macro_rules | `(tactic| walk_at "my pad") => `(tactic| fail)
local macro_rules | `(tactic| walk_at "my pad") => `(tactic| fail)
local macro_rules | `(tactic| walk_at "my pad") => `(tactic| fail)
local macro_rules | `(tactic| walk_at "my pad") => `(tactic| fail)
local macro_rules | `(tactic| walk_at "my pad") => `(tactic| fail)
local macro_rules | `(tactic| walk_at "my pad") => `(tactic| fail)
local macro_rules | `(tactic| walk_at "my pad") => `(tactic| fail)
local macro_rules | `(tactic| walk_at "my pad") => `(tactic| fail)
local macro_rules | `(tactic| walk_at "my pad") => `(tactic| fail)
local macro_rules | `(tactic| walk_at "my pad") => `(tactic| fail)
local macro_rules | `(tactic| walk_at "my pad") => `(tactic| fail)
local macro_rules | `(tactic| walk_at "my pad") => `(tactic| fail)
local macro_rules | `(tactic| walk_at "my pad") => `(tactic| fail)
local macro_rules | `(tactic| walk_at "my pad") => `(tactic| fail)
local macro_rules | `(tactic| walk_at "my pad") => `(tactic| fail)
local macro_rules | `(tactic| walk_at "my pad") => `(tactic| fail)
local macro_rules | `(tactic| walk_at "my pad") => `(tactic| fail)
local macro_rules | `(tactic| walk_at "my pad") => `(tactic| fail)
local macro_rules | `(tactic| walk_at "my pad") => `(tactic| fail)
local macro_rules | `(tactic| walk_at "my pad") => `(tactic| fail)
local macro_rules | `(tactic| walk_at "my pad") => `(tactic| fail)
local macro_rules | `(tactic| walk_at "my pad") => `(tactic| fail)
local macro_rules | `(tactic| walk_at "my pad") => `(tactic| fail)
local macro_rules | `(tactic| walk_at "my pad") => `(tactic| fail)
local macro_rules | `(tactic| walk_at "my pad") => `(tactic| fail)
local macro_rules | `(tactic| walk_at "my pad") => `(tactic| fail)
local macro_rules | `(tactic| walk_at "my pad") => `(tactic| fail)
local macro_rules | `(tactic| walk_at "my pad") => `(tactic| fail)
local macro_rules | `(tactic| walk_at "my pad") => `(tactic| fail)
local macro_rules | `(tactic| walk_at "my pad") => `(tactic| fail)
local macro_rules | `(tactic| walk_at "my pad") => `(tactic| fail)
local macro_rules | `(tactic| walk_at "my pad") => `(tactic| fail)
local macro_rules | `(tactic| walk_at "my pad") => `(tactic| fail)
local macro_rules | `(tactic| walk_at "my pad") => `(tactic| fail)
local macro_rules | `(tactic| walk_at "my pad") => `(tactic| fail)
local macro_rules | `(tactic| walk_at "my pad") => `(tactic| fail)
local macro_rules | `(tactic| walk_at "my pad") => `(tactic| fail)
local macro_rules | `(tactic| walk_at "my pad") => `(tactic| fail)
local macro_rules | `(tactic| walk_at "my pad") => `(tactic| fail)
local macro_rules | `(tactic| walk_at "my pad") => `(tactic| fail)
local macro_rules | `(tactic| walk_at "my pad") => `(tactic| fail)
local macro_rules | `(tactic| walk_at "my pad") => `(tactic| fail)
local macro_rules | `(tactic| walk_at "my pad") => `(tactic| fail)
local macro_rules | `(tactic| walk_at "my pad") => `(tactic| fail)
local macro_rules | `(tactic| walk_at "my pad") => `(tactic| fail)
local macro_rules | `(tactic| walk_at "my pad") => `(tactic| fail)
local macro_rules | `(tactic| walk_at "my pad") => `(tactic| fail)
local macro_rules | `(tactic| walk_at "my pad") => `(tactic| fail)
local macro_rules | `(tactic| walk_at "my pad") => `(tactic| fail)
local macro_rules | `(tactic| walk_at "my pad") => `(tactic| fail)
local macro_rules | `(tactic| walk_at "my pad") => `(tactic| fail)
local macro_rules | `(tactic| walk_at "my pad") => `(tactic| fail)
local macro_rules | `(tactic| walk_at "my pad") => `(tactic| fail)
local macro_rules | `(tactic| walk_at "my pad") => `(tactic| fail)
local macro_rules | `(tactic| walk_at "my pad") => `(tactic| fail)
local macro_rules | `(tactic| walk_at "my pad") => `(tactic| fail)
local macro_rules | `(tactic| walk_at "my pad") => `(tactic| fail)
local macro_rules | `(tactic| walk_at "my pad") => `(tactic| fail)
local macro_rules | `(tactic| walk_at "my pad") => `(tactic| fail)
local macro_rules | `(tactic| walk_at "my pad") => `(tactic| fail)
local macro_rules | `(tactic| walk_at "my pad") => `(tactic| fail)
local macro_rules | `(tactic| walk_at "my pad") => `(tactic| fail)
local macro_rules | `(tactic| walk_at "my pad") => `(tactic| fail)
local macro_rules | `(tactic| walk_at "my pad") => `(tactic| fail)
local macro_rules | `(tactic| walk_at "my pad") => `(tactic| fail)
local macro_rules | `(tactic| walk_at "my pad") => `(tactic| fail)
local macro_rules | `(tactic| walk_at "my pad") => `(tactic| fail)
local macro_rules | `(tactic| walk_at "my pad") => `(tactic| fail)
local macro_rules | `(tactic| walk_at "my pad") => `(tactic| fail)
local macro_rules | `(tactic| walk_at "my pad") => `(tactic| fail)
local macro_rules | `(tactic| walk_at "my pad") => `(tactic| fail)
local macro_rules | `(tactic| walk_at "my pad") => `(tactic| fail)
local macro_rules | `(tactic| walk_at "my pad") => `(tactic| fail)
local macro_rules | `(tactic| walk_at "my pad") => `(tactic| fail)
local macro_rules | `(tactic| walk_at "my pad") => `(tactic| fail)
local macro_rules | `(tactic| walk_at "my pad") => `(tactic| fail)
local macro_rules | `(tactic| walk_at "my pad") => `(tactic| fail)
local macro_rules | `(tactic| walk_at "my pad") => `(tactic| fail)
local macro_rules | `(tactic| walk_at "my pad") => `(tactic| fail)
local macro_rules | `(tactic| walk_at "my pad") => `(tactic| fail)
local macro_rules | `(tactic| walk_at "my pad") => `(tactic| fail)
local macro_rules | `(tactic| walk_at "my pad") => `(tactic| fail)
local macro_rules | `(tactic| walk_at "my pad") => `(tactic| fail)
open PySem PySem.W PyProof.Rows
namespace Mine
/-- what holds between two turns of the second law's loop -/
def J3 (w : World) (L l x d dc : Addr) (many : Int) (tmn ta tb : Tok) (cap : Value) (co : Option Int) (i : Nat) (m : Str → Option Value) (nx : List (Addr × Obj)) : Prop :=
  ∃ (oks ock ocm od : Obj) (ov ov2 : Option Value) (kvs : List (Int × Value)) (c : Prs) (R : Addr) (vs : List Value) (n : Nat) (tl : List (Addr × Obj)) (tat : Tok),
    nx = (L + 1 + 1 + 1, oks) :: (L + 1 + 1, ock) :: (L + 1, ocm) :: (x, instObj 112 d) :: (d, inD w ta tb cap dc) :: (dc, od) :: (R, listOf vs.toArray n) :: tl ∧
    (∀ p ∈ [(Str.ofString "script", Value.ref l), (Str.ofString "most", cap), (Str.ofString "rows", Value.ref R), (Str.ofString "many", Value.int many tmn), (Str.ofString "at", Value.int (2 + 2 * (i : Int)) tat)], m p.1 = some p.2) ∧
    oks.data = .cell ov2 ∧ ock.data = .cell ov ∧ ocm.data = .cell (some (.ref x)) ∧ od.IsDictOf (intKind Challenge.rw_fk5013_02.row.prog w) kvs ∧ PyProof.V.FlatPairs PyData.int kvs (kdfD c) ∧ RowsIn tl vs c ∧
    (c.map (·.1)).Nodup ∧ (∀ k ∈ c.map (·.1), 0 ≤ k ∧ k < many) ∧ c.length ≤ i ∧ (∀ n, co = some n → (c.length : Int) ≤ n) ∧
    R ≠ dc ∧ (R ≠ L + 1 + 1 ∧ R ≠ L + 1 + 1 + 1) ∧ (∀ p ∈ tl, p.1 ≠ dc ∧ (p.1 ≠ L + 1 + 1 ∧ p.1 ≠ L + 1 + 1 + 1) ∧ p.1 ≠ R)
section
variable {w : World} {h₀ : Heap} {L fa : Addr} {cdv : Value} {p : Program} {loose : List Str} {mean : ExcName → Option Value} {mg mb : Str → Option Value} {l x d dc : Addr} {vs0 : List Value} {ns : List Int} {many : Int} {tmn ta tb : Tok} {cap : Value} {co : Option Int}
  {own nx : List (Addr × Obj)} {m : Str → Option Value} {s : Shared} {E : Value → Shared → Prop} {Q : Flow → Shared → Prop}
local macro_rules | `(tactic| walk_at "my in") => `(tactic| first | assumption | exact List.mem_cons_self | (refine List.mem_cons_of_mem _ ?_; walk_at "my in"))
local macro_rules | `(tactic| walk_at "my incl") => `(tactic| first | exact List.forall_mem_nil _ | (refine List.forall_mem_cons.mpr ⟨?_, ?_⟩; (focus walk_at "my in"); walk_at "my incl") | (intro p9 hp9; walk_at "my in"))
set_option maxRecDepth 100000 in
set_option maxHeartbeats 8000000 in
theorem turn3 {i : Nat} {t : Tok} (B : Below callerA h₀ [] h₀) (X : (hd.heap_39 w.params).In h₀) (T : Top p loose mean mg mb h₀) (hl : h₀.IsList l vs0.toArray) (hi0 : IntsAre vs0 ns) (hns : ns.length ≤ 63) (hi : i ≤ 19) (hmn : 1 ≤ many) (hmn2 : many ≤ 14)
  (hcap : (co = none ∧ cap = .none) ∨ ∃ t n, co = some n ∧ cap = .int n t ∧ 1 ≤ n) (lo : (dc == sysModules) = false)
  (e0 : L + 1 + 1 + 1 ≠ dc) (e1 : L + 1 + 1 ≠ dc) (e2 : L + 1 ≠ dc) (e3 : x ≠ dc) (e4 : d ≠ dc) (e8 : x ≠ d) (e13 : x ≠ L + 1 + 1 ∧ x ≠ L + 1 + 1 + 1) (e14 : d ≠ L + 1 + 1 ∧ d ≠ L + 1 + 1 + 1)
  (hJ : J3 w L l x d dc many tmn ta tb cap co i m nx) (hsep : OwnOff own (nx.map (·.1)))
  (F : Fr h₀ L s.heap (fun y => if y = "turn" then some (.int (0 + (i : Int)) t) else m y)) (N : News h₀ L s.heap (nx ++ own)) :
  wpAny (model Challenge.rw_fk5013_02.row.prog w) (A2 L fa cdv) (execs (forB Challenge.rw_fk5013_02.row.prog 3) (E2 L fa cdv)) (InvPostG h₀ L (J3 w L l x d dc many tmn ta tb cap co (i + 1)) own s Q) E s := by
  obtain ⟨oks, ock, ocm, od, ov, ov2, kvs, c, R, vs, n, tl, tat, rfl, hm, hks, hck, hcm, hd, hf, hR, hn, hr, hlen, hroom, e5, e9, htl⟩ := hJ
  rw [body2]
  have hs : ∀ b, b ∈ [L + 1 + 1 + 1, L + 1 + 1, L + 1, x, d, dc, R] → ∀ p ∈ own, p.1 ≠ b := fun b hb p hp => hsep p hp b (by
    simp only [List.map_cons, List.mem_cons, List.not_mem_nil, or_false] at hb ⊢
    rcases hb with rfl | rfl | rfl | rfl | rfl | rfl | rfl <;> simp)
  have hst : ∀ p ∈ own, ∀ q ∈ tl, p.1 ≠ q.1 := fun p hp q hq => hsep p hp q.1 (by
    simp only [List.map_cons, List.mem_cons]
    exact .inr (.inr (.inr (.inr (.inr (.inr (.inr (List.mem_map_of_mem hq))))))))
  have n12 : L + 1 ≠ L + 1 + 1 := Nat.ne_of_lt (Nat.lt_succ_self _)
  have n13 : L + 1 ≠ L + 1 + 1 + 1 := Nat.ne_of_lt (Nat.lt_succ_of_lt (Nat.lt_succ_self _))
  have n23 : L + 1 + 1 ≠ L + 1 + 1 + 1 := Nat.ne_of_lt (Nat.lt_succ_self _)
  refine wpAny_execs_cons (st0 (a := 2 + 2 * (i : Int)) (tat := tat) (many := many) (tmn := tmn) (ock := ock) (ov := ov) (tail := (L + 1 + 1 + 1, oks) :: (L + 1, ocm) :: (x, instObj 112 d) :: (d, inD w ta tb cap dc) :: (dc, od) :: (R, listOf vs.toArray n) :: (tl ++ own)) B X T hl hi0 hns (by omega) (by omega) hmn ?hm0 F ?N0 hck ?off0 fun way k t0 t2 ock2 h1 tk1 hw1 hw2 hk1 hk2 hck2 F2 N2 => ?_)
  case hm0 =>
    intro q hq
    simp only [List.mem_cons, List.not_mem_nil, or_false] at hq
    rcases hq with rfl | rfl | rfl
    · exact hm _ (.head _)
    · exact hm _ (.tail _ (.tail _ (.tail _ (.tail _ (.head _)))))
    · exact hm _ (.tail _ (.tail _ (.tail _ (.head _))))
  case N0 =>
    intro p hp
    refine N p ?_
    simp only [List.mem_cons, List.mem_append] at hp ⊢
    rcases hp with rfl | rfl | rfl | rfl | rfl | rfl | rfl | hp | hp <;> simp [*]
  case off0 =>
    intro p hp b hb
    rw [List.mem_singleton.mp hb]
    simp only [List.mem_cons, List.mem_append] at hp
    rcases hp with rfl | rfl | rfl | rfl | rfl | rfl | hp | hp
    · exact Ne.symm n23
    · exact n12
    · exact e13.1
    · exact e14.1
    · exact Ne.symm e1
    · exact e9.1
    · exact (htl p hp).2.1.1
    · exact hs _ (by simp) p hp
  refine wpAny_execs_cons (st1 (c := c) (vs := vs) (n := n) (R := R) (tl0 := tl) (tail := (L + 1 + 1 + 1, oks) :: (L + 1, ocm) :: (x, instObj 112 d) :: (d, inD w ta tb cap dc) :: (dc, od) :: (tl ++ own)) X (fun q hq => by rw [List.mem_singleton.mp hq]; exact hm _ (.tail _ (.tail _ (.head _)))) F2 (fun p hp => N2 p (by revert p; walk_at "my incl")) hck2 (fun p hp => by simp [hp]) hR (by omega) fun H ks1 h3 tk3 F3 N3 hK hoH => ?_)
  refine wpAny_execs_cons (st2 (c := c) (vs := vs) (n := n) (R := R) (tl0 := tl) (tail := (H, LCg.lst ks1) :: (L + 1 + 1 + 1, oks) :: (L + 1, ocm) :: (x, instObj 112 d) :: (d, inD w ta tb cap dc) :: (dc, od) :: (tl ++ own)) X (fun q hq => by rw [List.mem_singleton.mp hq]; exact hm _ (.tail _ (.tail _ (.head _)))) F3 (fun p hp => N3 p (by revert p; walk_at "my incl")) hck2 (fun p hp => by simp [hp]) hR (by omega) fun G gs1 h4 tk4 F4 N4 hG hoG => ?_)
  have oH := off1_all hoH
  have oG := off1_all hoG
  have hap : ∀ p ∈ tl ++ own, p.1 ≠ dc ∧ p.1 ≠ R := fun p hp => (List.mem_append.mp hp).elim (fun h => ⟨(htl p h).1, (htl p h).2.2⟩) (fun h => ⟨hs _ (by simp) p h, hs _ (by simp) p h⟩)
  refine wpAny_execs_cons (st3 (oks := oks) (co := co) (cap := cap) (ta := ta) (tb := tb) (H := H) (G := G) (R := R) (c := c) (vs := vs) (n := n) (ks := ks1) (gs := gs1) (way := way) (k := k) (turn := 0 + (i : Int)) (many := many) (tn := t) (tw := t0) (tk := t2) (tl0 := tl) (tail := tl ++ own) B X T hw1 hw2 ?hm3 F4 ?N3 hck2 hcm (fun p hp => List.mem_append_left _ hp) hR hK hG lo hd hf (by omega) hn hr hk1 hk2 ?cap (fun p hp b hb => by rw [List.mem_singleton.mp hb]; exact (hap p hp).1) e0 e1 e2 e3 e4 e5 ?e6 ?e7 e8 e9 (fun p hp => (hap p hp).2) ?e11 ?e12 fun h5 tk5 m5 od5 kvs5 c5 R5 vs5 n5 extra F5 hrow hsame N5 hd5 hf5 hR5 hn5 hr5 hlen5 hR5' hex => ?_)
  case hm3 =>
    intro q hq
    simp only [List.mem_cons, List.not_mem_nil, or_false] at hq
    rcases hq with rfl | rfl | rfl | rfl | rfl | rfl
    · exact hm _ (.tail _ (.head _))
    · exact hm _ (.tail _ (.tail _ (.head _)))
    · rfl
    · rfl
    · rfl
    · rfl
  case N3 =>
    intro p hp
    exact N4 p (by revert p; walk_at "my incl")
  case cap =>
    rcases hcap with hq | ⟨a, b, q, r, u⟩
    · exact .inl hq
    · exact .inr ⟨a, b, q, r, u, hroom b q⟩
  case e6 => exact Ne.symm (oH (dc, od) (by simp))
  case e7 => exact Ne.symm (oG (dc, od) (by simp))
  case e11 => exact ⟨Ne.symm (oG (L + 1 + 1, ock2) (by simp)), Ne.symm (oG (L + 1 + 1 + 1, oks) (by simp))⟩
  case e12 => exact fun p hp => oG p (by simp only [List.mem_cons]; simp only [List.mem_append] at hp ⊢; simp [hp])
  have hat5 : m5 (Str.ofString "at") = some (Value.int (2 + 2 * (i : Int)) tat) := by
    rw [hsame (Str.ofString "at") (by decide) (by decide) (by decide)]
    exact hm _ (.tail _ (.tail _ (.tail _ (.tail _ (.head _)))))
  refine wpAny_execs_cons (st4 (a := 2 + 2 * (i : Int)) (ta := tat) X (fun q hq => by rw [List.mem_singleton.mp hq]; exact hat5) F5 N5 fun h6 tk6 t6 F6 N6 => ?_)
  have hext : ∀ p ∈ extra ++ tl, p.1 ≠ dc ∧ (p.1 ≠ L + 1 + 1 ∧ p.1 ≠ L + 1 + 1 + 1) ∧ p.1 ≠ R5 := fun p hp => (List.mem_append.mp hp).elim (fun h => ⟨(hex p h).1, (hex p h).2.1, (hex p h).2.2.2⟩) (fun h => ⟨(htl p h).1, (htl p h).2.1, hR5'.2.2 p (List.mem_append_left _ h)⟩)
  refine wpAny_execs_cons (st5 (c := c5) (vs := vs5) (n := n5) (R := R5) (tl0 := extra ++ tl) (oks := oks) (ov := ov2) (tail := (L + 1 + 1, ock2) :: (L + 1, ocm) :: (x, instObj 112 d) :: (d, inD w ta tb cap dc) :: (dc, od5) :: ((extra ++ tl) ++ own)) X (fun q hq => by rw [List.mem_singleton.mp hq]; exact hrow) F6 ?N5 hks ?off5 hR5'.2.1.2 (fun p hp => by simp only [List.mem_cons]; exact .inr (.inr (.inr (.inr (.inr (List.mem_append_left _ hp)))))) hR5 (by omega) fun K ks7 h7 tk7 oks7 F7 N7 hks7 hki hoK => ?_)
  case N5 =>
    intro p hp
    refine N6 p ?_
    simp only [List.mem_cons, List.mem_append] at hp ⊢
    rcases hp with rfl | rfl | rfl | rfl | rfl | rfl | rfl | (hp | hp) | hp <;> simp [*]
  case off5 =>
    intro p hp
    simp only [List.mem_cons] at hp
    rcases hp with rfl | rfl | rfl | rfl | rfl | hp
    · exact n23
    · exact n13
    · exact e13.2
    · exact e14.2
    · exact Ne.symm e0
    · rcases List.mem_append.mp hp with hp | hp
      · exact (hext p hp).2.1.2
      · exact hs _ (by simp) p hp
  refine wpAny_execs_cons (st6 (c := c5) (K := K) (ks := ks7) (kvs := kvs5) (oks := oks7) (ocm := ocm) (x := x) (d := d) (ta := ta) (tb := tb) (cap := cap) (dc := dc) (od := od5) (tail := (R5, listOf vs5.toArray n5) :: (L + 1 + 1, ock2) :: ((extra ++ tl) ++ own)) B X T F7 (fun p hp => N7 p ?_) hks7 hki hcm (by omega) lo hd5 hf5 fun h8 tk8 F8 N8 => ?_)
  · simp only [List.mem_cons, List.mem_append] at hp ⊢
    rcases hp with rfl | rfl | rfl | rfl | rfl | rfl | rfl | rfl | (hp | hp) | hp <;> simp [*]
  refine wpAny_execs_cons (st7 (c := c5) (K := K) (ks := ks7) (kvs := kvs5) (ocm := ocm) B X T F8 N8 hks7 hki hcm (by omega) lo hd5 hf5 fun h9 tk9 F9 N9 => ?_)
  refine wpAny_execs_nil ?_
  refine InvEndG.intro F9 N9 ⟨oks7, ock2, ocm, od5, _, _, kvs5, c5, R5, vs5, n5, extra ++ tl, t6, rfl, ?_, hks7, hck2, hcm, hd5, hf5, hR5, hn5, hr5, ?_, hlen5.2, hR5'.1, hR5'.2.1, hext⟩ ?_ ?_ ?_
  · intro q hq
    simp only [List.mem_cons, List.not_mem_nil, or_false] at hq
    rcases hq with rfl | rfl | rfl | rfl | rfl
    · show m5 (Str.ofString "script") = _
      rw [hsame (Str.ofString "script") (by decide) (by decide) (by decide)]; exact hm _ (.head _)
    · show m5 (Str.ofString "most") = _
      rw [hsame (Str.ofString "most") (by decide) (by decide) (by decide)]; exact hm _ (.tail _ (.head _))
    · exact hrow
    · show m5 (Str.ofString "many") = _
      rw [hsame (Str.ofString "many") (by decide) (by decide) (by decide)]; exact hm _ (.tail _ (.tail _ (.tail _ (.head _))))
    · show some (Value.int (2 + 2 * (i : Int) + 2) t6) = some (Value.int (2 + 2 * ((i + 1 : Nat) : Int)) t6)
      rw [show 2 + 2 * (i : Int) + 2 = 2 + 2 * ((i + 1 : Nat) : Int) by omega]
  · have := hlen5.1; omega
  · intro p hp b hb
    simp only [List.map_cons, List.map_append, List.mem_cons, List.mem_append, List.mem_map] at hb
    rcases hb with rfl | rfl | rfl | rfl | rfl | rfl | rfl | ⟨q, hq, rfl⟩ | ⟨q, hq, rfl⟩
    · exact hs _ (by simp) p hp
    · exact hs _ (by simp) p hp
    · exact hs _ (by simp) p hp
    · exact hs _ (by simp) p hp
    · exact hs _ (by simp) p hp
    · exact hs _ (by simp) p hp
    · exact hR5'.2.2 p (List.mem_append_right _ hp)
    · exact (hex q hq).2.2.1 p (List.mem_append_right _ hp)
    · exact hst p hp q hq
  · intro p hp
    simp only [List.mem_cons, List.mem_append] at hp ⊢
    rcases hp with rfl | rfl | rfl | rfl | rfl | rfl | rfl | hp | hp <;> simp [*]
  · intro p hp
    simp [hp]
end
end Mine
end
theorem Mine.offP06 : True := by
  w_top off
  exact trivial
section
local macro_rules | `(tactic| walk_at "my pad") => `(tactic| fail)
local macro_rules | `(tactic| walk_at "my pad") => `(tactic| fail)
local macro_rules | `(tactic| walk_at "my pad") => `(tactic| fail)
local macro_rules | `(tactic| walk_at "my pad") => `(tactic| fail)
local macro_rules | `(tactic| walk_at "my pad") => `(tactic| fail)
local macro_rules | `(tactic| walk_at "my pad") => `(tactic| fail)
local macro_rules | `(tactic| walk_at "my pad") => `(tactic| fail)
local macro_rules | `(tactic| walk_at "my pad") => `(tactic| fail)
local macro_rules | `(tactic| walk_at "my pad") => `(tactic| fail)
local macro_rules | `(tactic| walk_at "my pad") => `(tactic| fail)
local macro_rules | `(tactic| walk_at "my pad") => `(tactic| fail)
local macro_rules | `(tactic| walk_at "my pad") => `(tactic| fail)
local macro_rules | `(tactic| walk_at "my pad") => `(tactic| fail)
local macro_rules | `(tactic| walk_at "my pad") => `(tactic| fail)
local macro_rules | `(tactic| walk_at "my pad") => `(tactic| fail)
local macro_rules | `(tactic| walk_at "my pad") => `(tactic| fail)
local macro_rules | `(tactic| walk_at "my pad") => `(tactic| fail)
local macro_rules | `(tactic| walk_at "my pad") => `(tactic| fail)
local macro_rules | `(tactic| walk_at "my pad") => `(tactic| fail)
local macro_rules | `(tactic| walk_at "my pad") => `(tactic| fail)
local macro_rules | `(tactic| walk_at "my pad") => `(tactic| fail)
local macro_rules | `(tactic| walk_at "my pad") => `(tactic| fail)
local macro_rules | `(tactic| walk_at "my pad") => `(tactic| fail)
local macro_rules | `(tactic| walk_at "my pad") => `(tactic| fail)
local macro_rules | `(tactic| walk_at "my pad") => `(tactic| fail)
local macro_rules | `(tactic| walk_at "my pad") => `(tactic| fail)
local macro_rules | `(tactic| walk_at "my pad") => `(tactic| fail)
local macro_rules | `(tactic| walk_at "my pad") => `(tactic| fail)
local macro_rules | `(tactic| walk_at "my pad") => `(tactic| fail)
local macro_rules | `(tactic| walk_at "my pad") => `(tactic| fail)
local macro_rules | `(tactic| walk_at "my pad") => `(tactic| fail)
local macro_rules | `(tactic| walk_at "my pad") => `(tactic| fail)
local macro_rules | `(tactic| walk_at "my pad") => `(tactic| fail)
local macro_rules | `(tactic| walk_at "my pad") => `(tactic| fail)
local macro_rules | `(tactic| walk_at "my pad") => `(tactic| fail)
local macro_rules | `(tactic| walk_at "my pad") => `(tactic| fail)
local macro_rules | `(tactic| walk_at "my pad") => `(tactic| fail)
local macro_rules | `(tactic| walk_at "my pad") => `(tactic| fail)
local macro_rules | `(tactic| walk_at "my pad") => `(tactic| fail)
local macro_rules | `(tactic| walk_at "my pad") => `(tactic| fail)
local macro_rules | `(tactic| walk_at "my pad") => `(tactic| fail)
local macro_rules | `(tactic| walk_at "my pad") => `(tactic| fail)
local macro_rules | `(tactic| walk_at "my pad") => `(tactic| fail)
local macro_rules | `(tactic| walk_at "my pad") => `(tactic| fail)
local macro_rules | `(tactic| walk_at "my pad") => `(tactic| fail)
local macro_rules | `(tactic| walk_at "my pad") => `(tactic| fail)
local macro_rules | `(tactic| walk_at "my pad") => `(tactic| fail)
local macro_rules | `(tactic| walk_at "my pad") => `(tactic| fail)
local macro_rules | `(tactic| walk_at "my pad") => `(tactic| fail)
local macro_rules | `(tactic| walk_at "my pad") => `(tactic| fail)
local macro_rules | `(tactic| walk_at "my pad") => `(tactic| fail)
local macro_rules | `(tactic| walk_at "my pad") => `(tactic| fail)
local macro_rules | `(tactic| walk_at "my pad") => `(tactic| fail)
local macro_rules | `(tactic| walk_at "my pad") => `(tactic| fail)
local macro_rules | `(tactic| walk_at "my pad") => `(tactic| fail)
local macro_rules | `(tactic| walk_at "my pad") => `(tactic| fail)
local macro_rules | `(tactic| walk_at "my pad") => `(tactic| fail)
local macro_rules | `(tactic| walk_at "my pad") => `(tactic| fail)
local macro_rules | `(tactic| walk_at "my pad") => `(tactic| fail)
local macro_rules | `(tactic| walk_at "my pad") => `(tactic| fail)
local macro_rules | `(tactic| walk_at "my pad") => `(tactic| fail)
local macro_rules | `(tactic| walk_at "my pad") => `(tactic| fail)
local macro_rules | `(tactic| walk_at "my pad") => `(tactic| fail)
local macro_rules | `(tactic| walk_at "my pad") => `(tactic| fail)
local macro_rules | `(tactic| walk_at "my pad") => `(tactic| fail)
local macro_rules | `(tactic| walk_at "my pad") => `(tactic| fail)
local macro_rules | `(tactic| walk_at "my pad") => `(tactic| fail)
local macro_rules | `(tactic| walk_at "my pad") => `(tactic| fail)
local macro_rules | `(tactic| walk_at "my pad") => `(tactic| fail)
local macro_rules | `(tactic| walk_at "my pad") => `(tactic| fail)
local macro_rules | `(tactic| walk_at "my pad") => `(tactic| fail)
local macro_rules | `(tactic| walk_at "my pad") => `(tactic| fail)
local macro_rules | `(tactic| walk_at "my pad") => `(tactic| fail)
local macro_rules | `(tactic| walk_at "my pad") => `(tactic| fail)
local macro_rules | `(tactic| walk_at "my pad") => `(tactic| fail)
local macro_rules | `(tactic| walk_at "my pad") => `(tactic| fail)
local macro_rules | `(tactic| walk_at "my pad") => `(tactic| fail)
local macro_rules | `(tactic| walk_at "my pad") => `(tactic| fail)
local macro_rules | `(tactic| walk_at "my pad") => `(tactic| fail)
local macro_rules | `(tactic| walk_at "my pad") => `(tactic| fail)
local macro_rules | `(tactic| walk_at "my pad") => `(tactic| fail)
local macro_rules | `(tactic| walk_at "my pad") => `(tactic| fail)
local macro_rules | `(tactic| walk_at "my pad") => `(tactic| fail)
local macro_rules | `(tactic| walk_at "my pad") => `(tactic| fail)
local macro_rules | `(tactic| walk_at "my pad") => `(tactic| fail)
local macro_rules | `(tactic| walk_at "my pad") => `(tactic| fail)
local macro_rules | `(tactic| walk_at "my pad") => `(tactic| fail)
local macro_rules | `(tactic| walk_at "my pad") => `(tactic| fail)
local macro_rules | `(tactic| walk_at "my pad") => `(tactic| fail)
local macro_rules | `(tactic| walk_at "my pad") => `(tactic| fail)
local macro_rules | `(tactic| walk_at "my pad") => `(tactic| fail)
local macro_rules | `(tactic| walk_at "my pad") => `(tactic| fail)
local macro_rules | `(tactic| walk_at "my pad") => `(tactic| fail)
local macro_rules | `(tactic| walk_at "my pad") => `(tactic| fail)
local macro_rules | `(tactic| walk_at "my pad") => `(tactic| fail)
local macro_rules | `(tactic| walk_at "my pad") => `(tactic| fail)
local macro_rules | `(tactic| walk_at "my pad") => `(tactic| fail)
local macro_rules | `(tactic| walk_at "my pad") => `(tactic| fail)
local macro_rules | `(tactic| walk_at "my pad") => `(tactic| fail)
local macro_rules | `(tactic| walk_at "my pad") => `(tactic| fail)
local macro_rules | `(tactic| walk_at "my pad") => `(tactic| fail)
local macro_rules | `(tactic| walk_at "my pad") => `(tactic| fail)
local macro_rules | `(tactic| walk_at "my pad") => `(tactic| fail)
local macro_rules | `(tactic| walk_at "my pad") => `(tactic| fail)
local macro_rules | `(tactic| walk_at "my pad") => `(tactic| fail)
local macro_rules | `(tactic| walk_at "my pad") => `(tactic| fail)
local macro_rules | `(tactic| walk_at "my pad") => `(tactic| fail)
local macro_rules | `(tactic| walk_at "my pad") => `(tactic| fail)
local macro_rules | `(tactic| walk_at "my pad") => `(tactic| fail)
local macro_rules | `(tactic| walk_at "my pad") => `(tactic| fail)
local macro_rules | `(tactic| walk_at "my pad") => `(tactic| fail)
local macro_rules | `(tactic| walk_at "my pad") => `(tactic| fail)
local macro_rules | `(tactic| walk_at "my pad") => `(tactic| fail)
local macro_rules | `(tactic| walk_at "my pad") => `(tactic| fail)
local macro_rules | `(tactic| walk_at "my pad") => `(tactic| fail)
local macro_rules | `(tactic| walk_at "my pad") => `(tactic| fail)
local macro_rules | `(tactic| walk_at "my pad") => `(tactic| fail)
local macro_rules | `(tactic| walk_at "my pad") => `(tactic| fail)
local macro_rules | `(tactic| walk_at "my pad") => `(tactic| fail)
local macro_rules | `(tactic| walk_at "my pad") => `(tactic| fail)
local macro_rules | `(tactic| walk_at "my pad") => `(tactic| fail)
local macro_rules | `(tactic| walk_at "my pad") => `(tactic| fail)
local macro_rules | `(tactic| walk_at "my pad") => `(tactic| fail)
local macro_rules | `(tactic| walk_at "my pad") => `(tactic| fail)
local macro_rules | `(tactic| walk_at "my pad") => `(tactic| fail)
local macro_rules | `(tactic| walk_at "my pad") => `(tactic| fail)
local macro_rules | `(tactic| walk_at "my pad") => `(tactic| fail)
local macro_rules | `(tactic| walk_at "my pad") => `(tactic| fail)
local macro_rules | `(tactic| walk_at "my pad") => `(tactic| fail)
local macro_rules | `(tactic| walk_at "my pad") => `(tactic| fail)
local macro_rules | `(tactic| walk_at "my pad") => `(tactic| fail)
local macro_rules | `(tactic| walk_at "my pad") => `(tactic| fail)
local macro_rules | `(tactic| walk_at "my pad") => `(tactic| fail)
local macro_rules | `(tactic| walk_at "my pad") => `(tactic| fail)
local macro_rules | `(tactic| walk_at "my pad") => `(tactic| fail)
local macro_rules | `(tactic| walk_at "my pad") => `(tactic| fail)
local macro_rules | `(tactic| walk_at "my pad") => `(tactic| fail)
local macro_rules | `(tactic| walk_at "my pad") => `(tactic| fail)
local macro_rules | `(tactic| walk_at "my pad") => `(tactic| fail)
local macro_rules | `(tactic| walk_at "my pad") => `(tactic| fail)
local macro_rules | `(tactic| walk_at "my pad") => `(tactic| fail)
local macro_rules | `(tactic| walk_at "my pad") => `(tactic| fail)
local macro_rules | `(tactic| walk_at "my pad") => `(tactic| fail)
local macro_rules | `(tactic| walk_at "my pad") => `(tactic| fail)
local macro_rules | `(tactic| walk_at "my pad") => `(tactic| fail)
local macro_rules | `(tactic| walk_at "my pad") => `(tactic| fail)
local macro_rules | `(tactic| walk_at "my pad") => `(tactic| fail)
local macro_rules | `(tactic| walk_at "my pad") => `(tactic| fail)
local macro_rules | `(tactic| walk_at "my pad") => `(tactic| fail)
local macro_rules | `(tactic| walk_at "my pad") => `(tactic| fail)
local macro_rules | `(tactic| walk_at "my pad") => `(tactic| fail)
local macro_rules | `(tactic| walk_at "my pad") => `(tactic| fail)
local macro_rules | `(tactic| walk_at "my pad") => `(tactic| fail)
local macro_rules | `(tactic| walk_at "my pad") => `(tactic| fail)
local macro_rules | `(tactic| walk_at "my pad") => `(tactic| fail)
open PySem PySem.W PyProof.Rows
namespace Mine
local macro_rules | `(tactic| walk_at "pyIter ref") => `(tactic| (k_here; refine Stop.go ?_))
section
variable {w : World} {h₀ : Heap} {L fa : Addr} {cdv : Value} {p : Program} {loose : List Str} {mean : ExcName → Option Value} {mg mb : Str → Option Value} {l x d dc : Addr} {vs0 : List Value} {ns : List Int} {many : Int} {tmn ta tb : Tok} {cap : Value} {co : Option Int}
  {nx : List (Addr × Obj)} {m : Str → Option Value} {s : Shared} {E : Value → Shared → Prop} {Q : Flow → Shared → Prop}
abbrev L2 (i : Nat) : Stmt := stAt (lawB Challenge.rw_fk5013_02.row.prog) i
theorem range_len (z : Int) : (1 + z.fmod 20 - 0).toNat ≤ 20 ∧ 0 ≤ 1 + z.fmod 20 ∧ 1 + z.fmod 20 ≤ 20 := by
  rw [Int.fmod_eq_emod_of_nonneg _ (by decide)]
  omega
theorem small20 (z : Int) : Builtin.Range.small 0 (1 + z.fmod 20) 1 = true := by
  have := range_len z
  exact small_one (by omega) (by omega) (by omega) (by omega)
theorem lt20 {z : Int} {i : Nat} (h : i < (1 + z.fmod 20 - 0).toNat) : i ≤ 19 := by
  have := (range_len z).1
  omega
set_option maxRecDepth 100000 in
set_option maxHeartbeats 8000000 in
theorem loop3 (B : Below callerA h₀ [] h₀) (X : (hd.heap_39 w.params).In h₀) (T : Top p loose mean mg mb h₀) (hl : h₀.IsList l vs0.toArray) (hi0 : IntsAre vs0 ns) (hns : ns.length ≤ 63) (hmn : 1 ≤ many) (hmn2 : many ≤ 14)
  (hcap : (co = none ∧ cap = .none) ∨ ∃ t n, co = some n ∧ cap = .int n t ∧ 1 ≤ n) (lo : (dc == sysModules) = false)
  (e0 : L + 1 + 1 + 1 ≠ dc) (e1 : L + 1 + 1 ≠ dc) (e2 : L + 1 ≠ dc) (e3 : x ≠ dc) (e4 : d ≠ dc) (e8 : x ≠ d) (e13 : x ≠ L + 1 + 1 ∧ x ≠ L + 1 + 1 + 1) (e14 : d ≠ L + 1 + 1 ∧ d ≠ L + 1 + 1 + 1)
  (hm : ∀ p ∈ [(Str.ofString "script", Value.ref l)], m p.1 = some p.2)
  (hJ : J3 w L l x d dc many tmn ta tb cap co 0 m nx) (F : Fr h₀ L s.heap m) (N : News h₀ L s.heap nx)
  (hE : PassesOwn (model Challenge.rw_fk5013_02.row.prog w) (A2 L fa cdv) (E2 L fa cdv) E)
  (done : ∀ h' tk m' nx', Fr h₀ L h' m' → News h₀ L h' nx' → Q .next { s with heap := h', toks := tk }) :
  wpAny (model Challenge.rw_fk5013_02.row.prog w) (A2 L fa cdv) (exec (L2 3) (E2 L fa cdv)) Q E s := by
  revert X
  k_fill
  intro X
  revert hE
  unfold A2 E2 L2
  conv in (stAt _ _) => whnf
  conv in (occs := *) (lawS _) => all_goals whnf
  intro hE
  rw [← kst_self hm] at F
  refine For_invVF F (by exact rfl) (by exact rfl) ?_ (hE := hE)
  k_steps
  all_goals
    constructor
    rename Fr _ _ _ _ => F9
    rename News _ _ _ nx => N9
    rename IsRange _ _ _ _ _ _ _ _ => R9
    rw [kst_self hm] at F9
    refine my_range (J3 w L l x d dc many tmn ta tb cap co) rfl R9 (small20 _) (rangeSize_nat _ _) F9 N9 hJ ?_ ?_
    · intro i t m₁ nx h tk own hi hsep hj F₁ N₁
      exact turn3 B X T hl hi0 hns (lt20 hi) hmn hmn2 hcap lo e0 e1 e2 e3 e4 e8 e13 e14 hj hsep F₁ N₁
    · intro m₁ nx h tk hj F₁ N₁
      exact done _ _ _ _ F₁ N₁
end
end Mine
end
theorem Mine.offFin02 : True := by
  w_top off
  exact trivial
section
local macro_rules | `(tactic| walk_at "my pad") => `(tactic| fail)
local macro_rules | `(tactic| walk_at "my pad") => `(tactic| fail)
local macro_rules | `(tactic| walk_at "my pad") => `(tactic| fail)
local macro_rules | `(tactic| walk_at "my pad") => `(tactic| fail)
local macro_rules | `(tactic| walk_at "my pad") => `(tactic| fail)
local macro_rules | `(tactic| walk_at "my pad") => `(tactic| fail)
local macro_rules | `(tactic| walk_at "my pad") => `(tactic| fail)
local macro_rules | `(tactic| walk_at "my pad") => `(tactic| fail)
local macro_rules | `(tactic| walk_at "my pad") => `(tactic| fail)
local macro_rules | `(tactic| walk_at "my pad") => `(tactic| fail)
local macro_rules | `(tactic| walk_at "my pad") => `(tactic| fail)
local macro_rules | `(tactic| walk_at "my pad") => `(tactic| fail)
local macro_rules | `(tactic| walk_at "my pad") => `(tactic| fail)
local macro_rules | `(tactic| walk_at "my pad") => `(tactic| fail)
local macro_rules | `(tactic| walk_at "my pad") => `(tactic| fail)
local macro_rules | `(tactic| walk_at "my pad") => `(tactic| fail)
local macro_rules | `(tactic| walk_at "my pad") => `(tactic| fail)
local macro_rules | `(tactic| walk_at "my pad") => `(tactic| fail)
local macro_rules | `(tactic| walk_at "my pad") => `(tactic| fail)
local macro_rules | `(tactic| walk_at "my pad") => `(tactic| fail)
local macro_rules | `(tactic| walk_at "my pad") => `(tactic| fail)
local macro_rules | `(tactic| walk_at "my pad") => `(tactic| fail)
local macro_rules | `(tactic| walk_at "my pad") => `(tactic| fail)
local macro_rules | `(tactic| walk_at "my pad") => `(tactic| fail)
local macro_rules | `(tactic| walk_at "my pad") => `(tactic| fail)
local macro_rules | `(tactic| walk_at "my pad") => `(tactic| fail)
local macro_rules | `(tactic| walk_at "my pad") => `(tactic| fail)
local macro_rules | `(tactic| walk_at "my pad") => `(tactic| fail)
local macro_rules | `(tactic| walk_at "my pad") => `(tactic| fail)
local macro_rules | `(tactic| walk_at "my pad") => `(tactic| fail)
local macro_rules | `(tactic| walk_at "my pad") => `(tactic| fail)
local macro_rules | `(tactic| walk_at "my pad") => `(tactic| fail)
local macro_rules | `(tactic| walk_at "my pad") => `(tactic| fail)
local macro_rules | `(tactic| walk_at "my pad") => `(tactic| fail)
local macro_rules | `(tactic| walk_at "my pad") => `(tactic| fail)
local macro_rules | `(tactic| walk_at "my pad") => `(tactic| fail)
local macro_rules | `(tactic| walk_at "my pad") => `(tactic| fail)
local macro_rules | `(tactic| walk_at "my pad") => `(tactic| fail)
local macro_rules | `(tactic| walk_at "my pad") => `(tactic| fail)
local macro_rules | `(tactic| walk_at "my pad") => `(tactic| fail)
local macro_rules | `(tactic| walk_at "my pad") => `(tactic| fail)
local macro_rules | `(tactic| walk_at "my pad") => `(tactic| fail)
local macro_rules | `(tactic| walk_at "my pad") => `(tactic| fail)
local macro_rules | `(tactic| walk_at "my pad") => `(tactic| fail)
local macro_rules | `(tactic| walk_at "my pad") => `(tactic| fail)
local macro_rules | `(tactic| walk_at "my pad") => `(tactic| fail)
local macro_rules | `(tactic| walk_at "my pad") => `(tactic| fail)
local macro_rules | `(tactic| walk_at "my pad") => `(tactic| fail)
local macro_rules | `(tactic| walk_at "my pad") => `(tactic| fail)
local macro_rules | `(tactic| walk_at "my pad") => `(tactic| fail)
local macro_rules | `(tactic| walk_at "my pad") => `(tactic| fail)
local macro_rules | `(tactic| walk_at "my pad") => `(tactic| fail)
local macro_rules | `(tactic| walk_at "my pad") => `(tactic| fail)
local macro_rules | `(tactic| walk_at "my pad") => `(tactic| fail)
local macro_rules | `(tactic| walk_at "my pad") => `(tactic| fail)
local macro_rules | `(tactic| walk_at "my pad") => `(tactic| fail)
local macro_rules | `(tactic| walk_at "my pad") => `(tactic| fail)
local macro_rules | `(tactic| walk_at "my pad") => `(tactic| fail)
local macro_rules | `(tactic| walk_at "my pad") => `(tactic| fail)
local macro_rules | `(tactic| walk_at "my pad") => `(tactic| fail)
local macro_rules | `(tactic| walk_at "my pad") => `(tactic| fail)
local macro_rules | `(tactic| walk_at "my pad") => `(tactic| fail)
local macro_rules | `(tactic| walk_at "my pad") => `(tactic| fail)
local macro_rules | `(tactic| walk_at "my pad") => `(tactic| fail)
local macro_rules | `(tactic| walk_at "my pad") => `(tactic| fail)
local macro_rules | `(tactic| walk_at "my pad") => `(tactic| fail)
local macro_rules | `(tactic| walk_at "my pad") => `(tactic| fail)
local macro_rules | `(tactic| walk_at "my pad") => `(tactic| fail)
local macro_rules | `(tactic| walk_at "my pad") => `(tactic| fail)
local macro_rules | `(tactic| walk_at "my pad") => `(tactic| fail)
local macro_rules | `(tactic| walk_at "my pad") => `(tactic| fail)
local macro_rules | `(tactic| walk_at "my pad") => `(tactic| fail)
local macro_rules | `(tactic| walk_at "my pad") => `(tactic| fail)
local macro_rules | `(tactic| walk_at "my pad") => `(tactic| fail)
local macro_rules | `(tactic| walk_at "my pad") => `(tactic| fail)
local macro_rules | `(tactic| walk_at "my pad") => `(tactic| fail)
local macro_rules | `(tactic| walk_at "my pad") => `(tactic| fail)
local macro_rules | `(tactic| walk_at "my pad") => `(tactic| fail)
local macro_rules | `(tactic| walk_at "my pad") => `(tactic| fail)
local macro_rules | `(tactic| walk_at "my pad") => `(tactic| fail)
local macro_rules | `(tactic| walk_at "my pad") => `(tactic| fail)
local macro_rules | `(tactic| walk_at "my pad") => `(tactic| fail)
local macro_rules | `(tactic| walk_at "my pad") => `(tactic| fail)
local macro_rules | `(tactic| walk_at "my pad") => `(tactic| fail)
local macro_rules | `(tactic| walk_at "my pad") => `(tactic| fail)
local macro_rules | `(tactic| walk_at "my pad") => `(tactic| fail)
local macro_rules | `(tactic| walk_at "my pad") => `(tactic| fail)
local macro_rules | `(tactic| walk_at "my pad") => `(tactic| fail)
local macro_rules | `(tactic| walk_at "my pad") => `(tactic| fail)
local macro_rules | `(tactic| walk_at "my pad") => `(tactic| fail)
local macro_rules | `(tactic| walk_at "my pad") => `(tactic| fail)
local macro_rules | `(tactic| walk_at "my pad") => `(tactic| fail)
local macro_rules | `(tactic| walk_at "my pad") => `(tactic| fail)
local macro_rules | `(tactic| walk_at "my pad") => `(tactic| fail)
local macro_rules | `(tactic| walk_at "my pad") => `(tactic| fail)
local macro_rules | `(tactic| walk_at "my pad") => `(tactic| fail)
local macro_rules | `(tactic| walk_at "my pad") => `(tactic| fail)
local macro_rules | `(tactic| walk_at "my pad") => `(tactic| fail)
local macro_rules | `(tactic| walk_at "my pad") => `(tactic| fail)
local macro_rules | `(tactic| walk_at "my pad") => `(tactic| fail)
local macro_rules | `(tactic| walk_at "my pad") => `(tactic| fail)
local macro_rules | `(tactic| walk_at "my pad") => `(tactic| fail)
local macro_rules | `(tactic| walk_at "my pad") => `(tactic| fail)
local macro_rules | `(tactic| walk_at "my pad") => `(tactic| fail)
local macro_rules | `(tactic| walk_at "my pad") => `(tactic| fail)
local macro_rules | `(tactic| walk_at "my pad") => `(tactic| fail)
local macro_rules | `(tactic| walk_at "my pad") => `(tactic| fail)
local macro_rules | `(tactic| walk_at "my pad") => `(tactic| fail)
local macro_rules | `(tactic| walk_at "my pad") => `(tactic| fail)
local macro_rules | `(tactic| walk_at "my pad") => `(tactic| fail)
local macro_rules | `(tactic| walk_at "my pad") => `(tactic| fail)
local macro_rules | `(tactic| walk_at "my pad") => `(tactic| fail)
local macro_rules | `(tactic| walk_at "my pad") => `(tactic| fail)
local macro_rules | `(tactic| walk_at "my pad") => `(tactic| fail)
local macro_rules | `(tactic| walk_at "my pad") => `(tactic| fail)
local macro_rules | `(tactic| walk_at "my pad") => `(tactic| fail)
local macro_rules | `(tactic| walk_at "my pad") => `(tactic| fail)
local macro_rules | `(tactic| walk_at "my pad") => `(tactic| fail)
local macro_rules | `(tactic| walk_at "my pad") => `(tactic| fail)
local macro_rules | `(tactic| walk_at "my pad") => `(tactic| fail)
local macro_rules | `(tactic| walk_at "my pad") => `(tactic| fail)
local macro_rules | `(tactic| walk_at "my pad") => `(tactic| fail)
local macro_rules | `(tactic| walk_at "my pad") => `(tactic| fail)
local macro_rules | `(tactic| walk_at "my pad") => `(tactic| fail)
local macro_rules | `(tactic| walk_at "my pad") => `(tactic| fail)
local macro_rules | `(tactic| walk_at "my pad") => `(tactic| fail)
local macro_rules | `(tactic| walk_at "my pad") => `(tactic| fail)
local macro_rules | `(tactic| walk_at "my pad") => `(tactic| fail)
local macro_rules | `(tactic| walk_at "my pad") => `(tactic| fail)
local macro_rules | `(tactic| walk_at "my pad") => `(tactic| fail)
local macro_rules | `(tactic| walk_at "my pad") => `(tactic| fail)
local macro_rules | `(tactic| walk_at "my pad") => `(tactic| fail)
local macro_rules | `(tactic| walk_at "my pad") => `(tactic| fail)
local macro_rules | `(tactic| walk_at "my pad") => `(tactic| fail)
local macro_rules | `(tactic| walk_at "my pad") => `(tactic| fail)
local macro_rules | `(tactic| walk_at "my pad") => `(tactic| fail)
local macro_rules | `(tactic| walk_at "my pad") => `(tactic| fail)
local macro_rules | `(tactic| walk_at "my pad") => `(tactic| fail)
local macro_rules | `(tactic| walk_at "my pad") => `(tactic| fail)
local macro_rules | `(tactic| walk_at "my pad") => `(tactic| fail)
local macro_rules | `(tactic| walk_at "my pad") => `(tactic| fail)
local macro_rules | `(tactic| walk_at "my pad") => `(tactic| fail)
local macro_rules | `(tactic| walk_at "my pad") => `(tactic| fail)
local macro_rules | `(tactic| walk_at "my pad") => `(tactic| fail)
local macro_rules | `(tactic| walk_at "my pad") => `(tactic| fail)
local macro_rules | `(tactic| walk_at "my pad") => `(tactic| fail)
local macro_rules | `(tactic| walk_at "my pad") => `(tactic| fail)
local macro_rules | `(tactic| walk_at "my pad") => `(tactic| fail)
local macro_rules | `(tactic| walk_at "my pad") => `(tactic| fail)
local macro_rules | `(tactic| walk_at "my pad") => `(tactic| fail)
local macro_rules | `(tactic| walk_at "my pad") => `(tactic| fail)
local macro_rules | `(tactic| walk_at "my pad") => `(tactic| fail)
local macro_rules | `(tactic| walk_at "my pad") => `(tactic| fail)
local macro_rules | `(tactic| walk_at "my pad") => `(tactic| fail)
local macro_rules | `(tactic| walk_at "my pad") => `(tactic| fail)
local macro_rules | `(tactic| walk_at "my pad") => `(tactic| fail)
local macro_rules | `(tactic| walk_at "my pad") => `(tactic| fail)
open PySem PySem.W PyProof.Rows
section
open Mine
local macro_rules | `(tactic| walk_at "exec For Name Call cons nil") => `(tactic| (k_here; refine Stop.go ?_))
local macro_rules | `(tactic| walk_at "my in") => `(tactic| first | assumption | exact List.mem_cons_self | (refine List.mem_cons_of_mem _ ?_; walk_at "my in"))
local macro_rules | `(tactic| walk_at "my incl") => `(tactic| first | exact List.forall_mem_nil _ | (refine List.forall_mem_cons.mpr ⟨?_, ?_⟩; (focus walk_at "my in"); walk_at "my incl") | (intro p9 hp9; walk_at "my in"))
local macro_rules | `(tactic| walk_at "my split") => `(tactic| repeat (rename _ ∧ _ => hA9; obtain ⟨hA1, hA2⟩ := hA9))
local macro_rules | `(tactic| walk_at "my close") => `(tactic| (
    constructor
    rename Fr _ _ _ _ => F9
    rename News _ _ _ _ => N9
    walk_at "my split"
    refine' loop3 (L := ?L) (nx := [(?L + 1 + 1 + 1, ?oks), (?L + 1 + 1, ?ock), (?L + 1, ?ocm), (?x, instObj 112 ?d), (?d, inD _ ?ta ?tb ?cap ?dc), (?dc, ?od), (?R, listOf [].toArray 0)]) (many := ?many) (tmn := ?tmn) (m := ?m) (x := ?x) (d := ?d) (dc := ?dc) (cap := ?cap) (ta := ?ta) (tb := ?tb) ?B ?X ?T ?hl ?hi0 ?hns ?hmn ?hmn2 ?hcap ?lo ?e0 ?e1 ?e2 ?e3 ?e4 ?e8 ?e13 ?e14 ?hm ?hJ ?F ?N ?hE ?done
    case N => 
      intro p hp
      refine N9 p ?_
      revert p
      walk_at "my incl"
    case F => exact F9
    case hE => passes_own
    case hi0 => assumption
    case hns => omega
    case B => k_asm
    case X => k_asm
    case T => k_asm
    case hl => k_asm
    case lo => assumption
    case hm => intro p hp; rw [List.mem_singleton.mp hp]; rfl
    case e0 => exact by (refine neN ?_; omega)
    case e1 => exact by (refine neN ?_; omega)
    case e2 => exact by (refine neN ?_; omega)
    case e3 => exact by (refine neN ?_; omega)
    case e4 => exact by (refine neN ?_; omega)
    case e8 => exact by (refine neN ?_; omega)
    case e13 => exact ⟨by (refine neN ?_; omega), by (refine neN ?_; omega)⟩
    case e14 => exact ⟨by (refine neN ?_; omega), by (refine neN ?_; omega)⟩
    case hcap => first | exact .inl ⟨rfl, rfl⟩ | exact .inr ⟨_, _, rfl, rfl, by decide⟩
    case hJ =>
      refine' ⟨_, _, _, _, _, _, [], [], _, [], 0, [], _, rfl, List.forall_mem_cons.mpr ⟨rfl, List.forall_mem_cons.mpr ⟨rfl, List.forall_mem_cons.mpr ⟨rfl, List.forall_mem_cons.mpr ⟨rfl, List.forall_mem_cons.mpr ⟨rfl, List.forall_mem_nil _⟩⟩⟩⟩⟩, ?a0, ?a, ?b, ?c, PyProof.V.FlatPairs.nil, RowsIn.nil, List.nodup_nil, ?d1, Nat.zero_le _, ?d2, ?n1, ?n2, List.forall_mem_nil _⟩
      case a0 => assumption
      case a => assumption
      case b => assumption
      case c => assumption
      case d1 => exact List.forall_mem_nil _
      case d2 => intro n h; cases h <;> decide
      case n1 => exact by (refine neN ?_; omega)
      case n2 => exact ⟨by (refine neN ?_; omega), by (refine neN ?_; omega)⟩
    case hmn => decide
    case hmn2 => decide))
set_option maxRecDepth 100000 in
set_option maxHeartbeats 8000000 in
theorem PySem.Challenge.cw_fk5013_02_holds : PySem.Challenge.rw_fk5013_02.Holds := by
  refine hd ?_
  k_go0
  (all_goals try k_fold)
  k_steps
  all_goals walk_at "my close"
  all_goals
    intro h8 tk8 m8 nx8 F8 N8
    dsimp only
    k_steps
end

end
