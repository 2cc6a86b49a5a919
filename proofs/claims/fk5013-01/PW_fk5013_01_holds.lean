import PyProof.Rows.All
import Wide.All
import OpenK.AllK
import Wide.FinOn
import Lean
import PySem.Challenge.RW_fk5013_01
set_option Elab.async false
section
open PySem PySem.W PyProof.Rows
namespace Mine
set_option maxRecDepth 100000 in
set_option maxHeartbeats 8000000 in
open_top hd for PySem.Challenge.rw_fk5013_01
end Mine
end
section
open PySem PySem.W PyProof.Rows
namespace Mine
abbrev Prs := List (Int × Int)
def putL (c : Prs) (k v : Int) : Prs := kdyDel c k ++ [(k, v)]
def setC (co : Option Int) (c : Prs) (k v : Int) : Prs := match co with
  | none => putL c k v
  | some n => if n < ((putL c k v).length : Int) then (putL c k v).drop 1 else putL c k v
theorem has_mem {c : Prs} {k : Int} : kdfHas c k = true ↔ k ∈ c.map (·.1) := by
  unfold kdfHas
  simp only [List.any_eq_true, decide_eq_true_eq, List.mem_map]
theorem has_false {c : Prs} {k : Int} : kdfHas c k = false ↔ k ∉ c.map (·.1) := by
  rw [← has_mem]; simp
theorem del_mem {c : Prs} {k j : Int} : j ∈ (kdyDel c k).map (·.1) ↔ j ∈ c.map (·.1) ∧ j ≠ k := by
  unfold kdyDel
  simp only [List.mem_map, List.mem_filter, Bool.not_eq_true', decide_eq_false_iff_not]
  constructor
  · rintro ⟨a, ⟨h1, h2⟩, rfl⟩; exact ⟨⟨a, h1, rfl⟩, h2⟩
  · rintro ⟨⟨a, h1, rfl⟩, h2⟩; exact ⟨a, ⟨h1, h2⟩, rfl⟩
theorem has_del (c : Prs) (k : Int) : kdfHas (kdyDel c k) k = false := by
  rw [has_false, del_mem]; exact fun h => h.2 rfl
theorem put_new {c : Prs} {k : Int} (h : kdfHas c k = false) (v : Int) : kdfPut c k v = c ++ [(k, v)] := by
  unfold kdfPut
  have h' : (c.any fun p => decide (p.1 = k)) = false := h
  rw [h']; rfl
theorem del_new {c : Prs} {k : Int} (h : kdfHas c k = false) : kdyDel c k = c := by
  unfold kdyDel
  rw [List.filter_eq_self]
  intro a ha
  have : a.1 ≠ k := fun e => has_false.mp h (e ▸ List.mem_map_of_mem ha)
  simp [this]
theorem put_has {c : Prs} {k : Int} (v : Int) : kdfPut (kdyDel c k) k v = putL c k v := put_new (has_del c k) v
theorem put_hasnt {c : Prs} {k : Int} (h : kdfHas c k = false) (v : Int) : kdfPut c k v = putL c k v := by
  rw [put_new h]; unfold putL; rw [del_new h]
theorem del_nodup {c : Prs} (h : (c.map (·.1)).Nodup) (k : Int) : ((kdyDel c k).map (·.1)).Nodup := by
  unfold kdyDel
  exact h.sublist (List.Sublist.map _ List.filter_sublist)
theorem putL_nodup {c : Prs} (h : (c.map (·.1)).Nodup) (k v : Int) : ((putL c k v).map (·.1)).Nodup := by
  unfold putL
  rw [List.map_append, List.nodup_append]
  refine ⟨del_nodup h k, by simp, ?_⟩
  intro a ha b hb
  simp only [List.map_cons, List.map_nil, List.mem_singleton] at hb
  subst hb
  exact (del_mem.mp ha).2
theorem del_lt {c : Prs} {k : Int} (h : kdfHas c k = true) : (kdyDel c k).length < c.length := by
  unfold kdyDel
  obtain ⟨a, ha, hk⟩ := List.mem_map.mp (has_mem.mp h)
  have := List.length_filter_lt_length_iff_exists (l := c) (p := fun p => !decide (p.1 = k))
  rw [this]
  exact ⟨a, ha, by simp [hk]⟩
theorem putL_len (c : Prs) (k v : Int) : (putL c k v).length = (kdyDel c k).length + 1 := by
  unfold putL; simp
theorem setC_has {co : Option Int} {c : Prs} {k v : Int} (h : kdfHas c k = true) (hc : ∀ n, co = some n → (c.length : Int) ≤ n) : setC co c k v = putL c k v := by
  cases co with
  | none => rfl
  | some n =>
    have h1 := del_lt h
    have h2 := hc n rfl
    have h3 := putL_len c k v
    show (if _ then _ else _) = _
    rw [if_neg (by omega)]
theorem head_has {c : Prs} (h : c ≠ []) : kdfHas c ((c.map (fun x => x.1)).getD (Int.toNat 0) 0) = true := by
  cases c with
  | nil => exact absurd rfl h
  | cons p c => rw [has_mem]; simp
theorem head_del {c : Prs} (h : c ≠ []) (hn : (c.map (·.1)).Nodup) : kdyDel c ((c.map (fun x => x.1)).getD (Int.toNat 0) 0) = c.drop 1 := by
  cases c with
  | nil => exact absurd rfl h
  | cons p c =>
    simp only [List.map_cons, List.nodup_cons] at hn
    show kdyDel (p :: c) p.1 = c
    unfold kdyDel
    rw [List.filter_cons]
    simp only [decide_true, Bool.not_true, Bool.false_eq_true, if_false]
    rw [List.filter_eq_self]
    intro a ha
    have : a.1 ≠ p.1 := fun e => hn.1 (e ▸ List.mem_map_of_mem ha)
    simp [this]
theorem putL_ne (c : Prs) (k v : Int) : putL c k v ≠ [] := by unfold putL; simp
theorem putL_range {P : Int → Prop} {c : Prs} {k v : Int} (hc : ∀ j ∈ c.map (·.1), P j) (hk : P k) : ∀ j ∈ (putL c k v).map (·.1), P j := by
  intro j hj
  unfold putL at hj
  rw [List.map_append, List.mem_append] at hj
  rcases hj with hj | hj
  · exact hc j (del_mem.mp hj).1
  · simp only [List.map_cons, List.map_nil, List.mem_singleton] at hj
    rw [hj]; exact hk
theorem setC_sub (co : Option Int) (c : Prs) (k v : Int) : (setC co c k v).Sublist (putL c k v) := by
  cases co with
  | none => exact List.Sublist.refl _
  | some n =>
    show (if _ then _ else _ : Prs).Sublist _
    split
    · exact List.drop_sublist _ _
    · exact List.Sublist.refl _
theorem setC_nodup {co : Option Int} {c : Prs} (h : (c.map (·.1)).Nodup) (k v : Int) : ((setC co c k v).map (·.1)).Nodup := (putL_nodup h k v).sublist ((setC_sub co c k v).map _)
theorem setC_range {P : Int → Prop} {co : Option Int} {c : Prs} {k v : Int} (hc : ∀ j ∈ c.map (·.1), P j) (hk : P k) : ∀ j ∈ (setC co c k v).map (·.1), P j :=
  fun j hj => putL_range hc hk j (((setC_sub co c k v).map _).subset hj)
theorem setC_len (co : Option Int) (c : Prs) (k v : Int) : (setC co c k v).length ≤ c.length + 1 := by
  have h1 := (setC_sub co c k v).length_le
  have h2 := putL_len c k v
  have h3 := kdyDel_len c k
  omega
theorem setC_room {n : Int} {c : Prs} {k v : Int} (h : (c.length : Int) ≤ n) : ((setC (some n) c k v).length : Int) ≤ n := by
  have h2 := putL_len c k v
  have h3 := kdyDel_len c k
  show ((if _ then _ else _ : Prs).length : Int) ≤ n
  split
  · rw [List.length_drop]; omega
  · omega
theorem setC_drop {n : Int} {c : Prs} {k v : Int} (h : (c.length : Int) ≤ n) (h0 : 0 ≤ n) : setC (some n) c k v = (putL c k v).drop ((putL c k v).length - (- -n).toNat) := by
  have h2 := putL_len c k v
  have h3 := kdyDel_len c k
  show (if _ then _ else _) = _
  split
  · rw [show (putL c k v).length - (- -n).toNat = 1 by omega]
  · rw [show (putL c k v).length - (- -n).toNat = 0 by omega]; rfl
theorem filter_none {c : Prs} {k : Int} (h : kdfHas c k = false) : (c.filter fun p => decide (p.1 = k)) = [] := by
  rw [List.filter_eq_nil_iff]
  intro a ha
  have : a.1 ≠ k := fun e => has_false.mp h (e ▸ List.mem_map_of_mem ha)
  simp [this]
theorem filter_one {c : Prs} {k : Int} (h : kdfHas c k = true) (hn : (c.map (·.1)).Nodup) : (c.filter fun p => decide (p.1 = k)) = [(k, kdfLook c k 0)] := by
  induction c with
  | nil => cases h
  | cons p c ih =>
    simp only [List.map_cons, List.nodup_cons] at hn
    unfold kdfLook
    rw [List.filter_cons, List.find?_cons]
    by_cases hp : p.1 = k
    · have hk : kdfHas c k = false := has_false.mpr (hp ▸ hn.1)
      simp only [hp, decide_true, if_true, filter_none hk]
      rw [← hp]; rfl
    · have h' : kdfHas c k = true := by
        unfold kdfHas at h ⊢
        rw [List.any_cons] at h
        simpa [hp] using h
      simp only [hp, decide_false, Bool.false_eq_true, if_false]
      exact ih h' hn.2
theorem sorted_eq {c : Prs} {ns : List Int} {m : Nat} (hn : (c.map (·.1)).Nodup) (hr : ∀ k ∈ c.map (·.1), 0 ≤ k ∧ k < (m : Int)) (hp : ns.Perm (c.map (·.1))) (ho : ns.Pairwise (· ≤ ·)) :
    (rangeKs 0 m).filter (kdfHas c) = ns := by
  have hlt : (rangeKs 0 m).Pairwise (· < ·) := by
    unfold rangeKs
    rw [List.pairwise_map]
    exact List.pairwise_lt_range.imp fun h => by omega
  have h1 : ((rangeKs 0 m).filter (kdfHas c)).Pairwise (· < ·) := hlt.filter _
  have hd1 : ((rangeKs 0 m).filter (kdfHas c)).Nodup := h1.imp fun h => by omega
  have hd2 : ns.Nodup := hp.nodup_iff.mpr hn
  have hperm : ((rangeKs 0 m).filter (kdfHas c)).Perm ns := by
    rw [List.perm_ext_iff_of_nodup hd1 hd2]
    intro a
    rw [List.mem_filter, has_mem, hp.mem_iff]
    constructor
    · exact fun h => h.2
    · intro h
      refine ⟨?_, h⟩
      obtain ⟨h0, h5⟩ := hr a h
      unfold rangeKs
      exact List.mem_map.mpr ⟨a.toNat, List.mem_range.mpr (by omega), by omega⟩
  exact hperm.eq_of_pairwise (le := (· ≤ ·)) (fun a b _ _ h1 h2 => by omega) (h1.imp fun h => by omega) ho
end Mine
end
section
open PySem PySem.W PyProof.Rows PySem.Spec
namespace Mine
abbrev tupO (i : Int) (t : Tok) (j : Int) (u : Tok) (n : Nat) : Obj := { cls := .type "tuple", data := .seq #[.int i t, .int j u] n }
/-- the list's items are pairs that stand in the ledger -/
inductive RowsIn (news : List (Addr × Obj)) : List Value → Prs → Prop where
  | nil : RowsIn news [] []
  | cons {a : Addr} {i j : Int} {t u : Tok} {n : Nat} {vs : List Value} {c : Prs} : (a, tupO i t j u n) ∈ news → RowsIn news vs c → RowsIn news (.ref a :: vs) ((i, j) :: c)
theorem RowsIn.mono {news news' : List (Addr × Obj)} {vs : List Value} {c : Prs} (h : RowsIn news vs c) (hs : ∀ p ∈ news, p ∈ news') : RowsIn news' vs c := by
  induction h with
  | nil => exact .nil
  | cons hm _ ih => exact .cons (hs _ hm) ih
theorem RowsIn.length {news : List (Addr × Obj)} {vs : List Value} {c : Prs} (h : RowsIn news vs c) : vs.length = c.length := by
  induction h with
  | nil => rfl
  | cons _ _ ih => simp [ih]
theorem RowsIn.append {news : List (Addr × Obj)} {vs ws : List Value} {c d : Prs} (h : RowsIn news vs c) (k : RowsIn news ws d) : RowsIn news (vs ++ ws) (c ++ d) := by
  induction h with
  | nil => exact k
  | cons hm _ ih => exact .cons hm ih
theorem RowsIn.drop {news : List (Addr × Obj)} {vs : List Value} {c : Prs} (h : RowsIn news vs c) : ∀ n : Nat, RowsIn news (vs.drop n) (c.drop n) := by
  induction h with
  | nil => intro n; simp only [List.drop_nil]; exact .nil
  | cons hm hr ih =>
    intro n
    cases n with
    | zero => exact .cons hm hr
    | succ n => exact ih n
theorem RowsIn.at {news : List (Addr × Obj)} {vs : List Value} {c : Prs} (h : RowsIn news vs c) : ∀ {k : Nat} {v : Value}, vs[k]? = some v → ∃ a i j t u n, v = .ref a ∧ c[k]? = some (i, j) ∧ (a, tupO i t j u n) ∈ news := by
  induction h with
  | nil => intro k v e; cases e
  | @cons a i j t u n vs c hm hr ih =>
    intro k v e
    cases k with
    | zero => exact ⟨a, i, j, t, u, n, (Option.some.inj e).symm, rfl, hm⟩
    | succ k => exact ih e
theorem RowsIn.nil_iff {news : List (Addr × Obj)} {vs : List Value} {c : Prs} (h : RowsIn news vs c) : vs = [] ↔ c = [] := by
  cases h with
  | nil => simp
  | cons => simp

/-- the end of a comprehension's turn: all stands as it stood -/
def CEnd (h₀ : Heap) (L : Addr) (m : Str → Option Value) (s : Shared) (I : Addr) (oI : Obj) (C : Addr) (oC : Obj) (D : Addr) (ys : List Value) (news : List (Addr × Obj)) (s₂ : Shared) : Prop :=
  ∃ h' tk, s₂ = { s with heap := h', toks := tk } ∧ Fr h₀ L h' m ∧ News h₀ L h' ((I, oI) :: (C, oC) :: (D, LCg.lst ys) :: news)
theorem CEnd.mk' {h₀ : Heap} {L : Addr} {m : Str → Option Value} {s : Shared} {I : Addr} {oI : Obj} {C : Addr} {oC : Obj} {D : Addr} {ys : List Value} {news : List (Addr × Obj)} {h' : Heap} {tk : Nat}
    (F : Fr h₀ L h' m) (N : News h₀ L h' ((I, oI) :: (C, oC) :: (D, LCg.lst ys) :: news)) : CEnd h₀ L m s I oI C oC D ys news { s with heap := h', toks := tk } := ⟨h', tk, rfl, F, N⟩
section
variable {prog : Program} {w : World} {A : Around} {h₀ : Heap} {L : Addr} {m : Str → Option Value} {env : Env} {ct elt : Expr} {x : Str} {scope : Scope} {cl : List (Str × Addr)} {s : Shared} {S : List (Addr × Obj) → Prop} {P : Nat → Value → Prop} {Fin : List Value → List (Addr × Obj) → Prop} {news : List (Addr × Obj)}
theorem restT (G : Nat → List Value → Prop) (n : Nat) (hS : S news) (g0 : G 0 [])
    (turn : ∀ i v I oI C oC D m₂ ys h tk (E' : Value → Shared → Prop), i < n → G i ys → P i v → LCg.NsObj oC m₂ → m₂ x = some v → Fr h₀ L h m → News h₀ L h ((I, oI) :: (C, oC) :: (D, LCg.lst ys) :: news) → LCg.Off3 I C D news → ((@Ne Nat I C) ∧ (@Ne Nat I D) ∧ (@Ne Nat C D)) →
      wpAny (model prog w) A (isTrue ct (compEnvC scope cl C env) (eval ct (compEnvC scope cl C env))) (fun ok s' => if ok = true then
        wpAny (model prog w) A (eval elt (compEnvC scope cl C env)) (fun y s'' => CEnd h₀ L m { s with heap := h, toks := tk } I oI C oC D ys news s'' ∧ G (i + 1) (ys ++ [y])) E' s'
        else CEnd h₀ L m { s with heap := h, toks := tk } I oI C oC D ys news s' ∧ G (i + 1) ys) E' { s with heap := h, toks := tk })
    (fin : ∀ ys, G n ys → Fin ys news) : LCt.CompRestT prog w A h₀ L m env ct elt x scope cl s S P Fin n 0 [] news := by
  have key : ∀ (j i : Nat) (ys : List Value), i + j = n → G i ys → LCt.CompRestT prog w A h₀ L m env ct elt x scope cl s S P Fin j i ys news := by
    intro j
    induction j with
    | zero =>
      intro i ys hi hg
      have e : i = n := by omega
      subst e
      exact LCt.CompRestT.zero (fin ys hg)
    | succ j ih =>
      intro i ys hi hg
      refine LCt.CompRestT.succ ?_
      intro v I oI C oC D m₂ h tk E' hv hC hx F N off ne
      refine wpAny_mono (turn i v I oI C oC D m₂ ys h tk E' (by omega) hg hv hC hx F N off ne) (fun b s₂ hq => ?_) fun _ _ e => e
      cases b with
      | true =>
        simp only [if_true] at hq ⊢
        refine wpAny_mono hq (fun y s₃ hr => ?_) fun _ _ e => e
        obtain ⟨⟨h', tk', e, F', N'⟩, hg'⟩ := hr
        exact ⟨h', tk', news, e, F', N', off, hS, ih (i + 1) _ (by omega) hg'⟩
      | false =>
        simp only [Bool.false_eq_true, if_false] at hq ⊢
        obtain ⟨⟨h', tk', e, F', N'⟩, hg'⟩ := hq
        exact ⟨h', tk', news, e, F', N', off, hS, ih (i + 1) _ (by omega) hg'⟩
  exact key n 0 [] (by omega) g0
theorem restU (G : Nat → List Value → Prop) (n : Nat) (hS : S news) (g0 : G 0 [])
    (turn : ∀ i v I oI C oC D m₂ ys h tk (E' : Value → Shared → Prop), i < n → G i ys → P i v → LCg.NsObj oC m₂ → m₂ x = some v → Fr h₀ L h m → News h₀ L h ((I, oI) :: (C, oC) :: (D, LCg.lst ys) :: news) → LCg.Off3 I C D news → ((@Ne Nat I C) ∧ (@Ne Nat I D) ∧ (@Ne Nat C D)) →
      wpAny (model prog w) A (eval elt (compEnvC scope cl C env)) (fun y s'' => CEnd h₀ L m { s with heap := h, toks := tk } I oI C oC D ys news s'' ∧ G (i + 1) (ys ++ [y])) E' { s with heap := h, toks := tk })
    (fin : ∀ ys, G n ys → Fin ys news) : LCg.CompRest prog w A h₀ L m env elt x scope cl s S P Fin n 0 [] news := by
  have key : ∀ (j i : Nat) (ys : List Value), i + j = n → G i ys → LCg.CompRest prog w A h₀ L m env elt x scope cl s S P Fin j i ys news := by
    intro j
    induction j with
    | zero =>
      intro i ys hi hg
      have e : i = n := by omega
      subst e
      exact LCg.CompRest.zero (fin ys hg)
    | succ j ih =>
      intro i ys hi hg
      refine LCg.CompRest.succ ?_
      intro v I oI C oC D m₂ h tk E' hv hC hx F N off ne
      refine wpAny_mono (turn i v I oI C oC D m₂ ys h tk E' (by omega) hg hv hC hx F N off ne) (fun y s₃ hr => ?_) fun _ _ e => e
      obtain ⟨⟨h', tk', e, F', N'⟩, hg'⟩ := hr
      exact ⟨h', tk', news, e, F', N', off, hS, ih (i + 1) _ (by omega) hg'⟩
  exact key n 0 [] (by omega) g0

/-- a filter over a range -/
theorem range_filter {k0 : Int} {n : Nat} (f : Int → Bool) (hS : S news)
    (turn : ∀ (k : Int) (t : Tok) I oI C oC D m₂ ys h tk (E' : Value → Shared → Prop), k0 ≤ k → k < k0 + (n : Int) → LCg.NsObj oC m₂ → m₂ x = some (.int k t) → Fr h₀ L h m → News h₀ L h ((I, oI) :: (C, oC) :: (D, LCg.lst ys) :: news) → LCg.Off3 I C D news → ((@Ne Nat I C) ∧ (@Ne Nat I D) ∧ (@Ne Nat C D)) →
      wpAny (model prog w) A (isTrue ct (compEnvC scope cl C env) (eval ct (compEnvC scope cl C env))) (fun ok s' => ok = f k ∧ (ok = true →
        wpAny (model prog w) A (eval elt (compEnvC scope cl C env)) (fun y s'' => (∃ t', y = .int k t') ∧ CEnd h₀ L m { s with heap := h, toks := tk } I oI C oC D ys news s'') E' s') ∧
        CEnd h₀ L m { s with heap := h, toks := tk } I oI C oC D ys news s') E' { s with heap := h, toks := tk })
    (fin : ∀ ys, IntsAre ys ((rangeKs k0 n).filter f) → Fin ys news) : LCt.CompRestT prog w A h₀ L m env ct elt x scope cl s S (fun i v => ∃ t, v = .int (k0 + (i : Int)) t) Fin n 0 [] news := by
  refine restT (fun i ys => IntsAre ys (((rangeKs k0 n).take i).filter f)) _ hS (by simpa using IntsAre.nil) ?_ ?_
  · intro i v I oI C oC D m₂ ys h tk E' hi hg hv hC hx F N off ne
    obtain ⟨t, rfl⟩ := hv
    have hk : (rangeKs k0 n)[i]? = some (k0 + (i : Int)) := by simp [rangeKs, hi]
    have hs : ((rangeKs k0 n).take (i + 1)).filter f = ((rangeKs k0 n).take i).filter f ++ (if f (k0 + (i : Int)) = true then [k0 + (i : Int)] else []) := by
      rw [List.take_add_one, hk, List.filter_append]
      congr 1
      simp only [Option.toList_some, List.filter_cons, List.filter_nil]
    refine wpAny_mono (turn _ t I oI C oC D m₂ ys h tk E' (by omega) (by omega) hC hx F N off ne) (fun ok s' hq => ?_) fun _ _ e => e
    obtain ⟨e, h1, h2⟩ := hq
    cases ok with
    | true =>
      simp only [if_true]
      refine wpAny_mono (h1 rfl) (fun y s'' hy => ?_) fun _ _ e => e
      obtain ⟨⟨t', rfl⟩, hy⟩ := hy
      refine ⟨hy, ?_⟩
      rw [hs, if_pos e.symm]
      exact IntsAre.append hg (.cons _ t' .nil)
    | false =>
      simp only [Bool.false_eq_true, if_false]
      refine ⟨h2, ?_⟩
      rw [hs, if_neg (by rw [← e]; decide), List.append_nil]
      exact hg
  · intro ys hg
    rw [List.take_of_length_le (Nat.le_of_eq (rangeKs_length _ _))] at hg
    exact fin ys hg

/-- a filter over the rows' list, the element the row itself -/
theorem rows_filter {vs : List Value} {c : Prs} {tl : List (Addr × Obj)} (f : Int × Int → Bool) (hsub : ∀ p ∈ tl, p ∈ news) (hR : RowsIn tl vs c) (hS : S news)
    (turn : ∀ (a : Addr) (i j : Int) (t u : Tok) I oI C oC D m₂ ys h tk (E' : Value → Shared → Prop), IsTup h a #[.int i t, .int j u] → LCg.NsObj oC m₂ → m₂ x = some (.ref a) → Fr h₀ L h m → News h₀ L h ((I, oI) :: (C, oC) :: (D, LCg.lst ys) :: news) → LCg.Off3 I C D news → ((@Ne Nat I C) ∧ (@Ne Nat I D) ∧ (@Ne Nat C D)) →
      wpAny (model prog w) A (isTrue ct (compEnvC scope cl C env) (eval ct (compEnvC scope cl C env))) (fun ok s' => ok = f (i, j) ∧ (ok = true →
        wpAny (model prog w) A (eval elt (compEnvC scope cl C env)) (fun y s'' => y = .ref a ∧ CEnd h₀ L m { s with heap := h, toks := tk } I oI C oC D ys news s'') E' s') ∧
        CEnd h₀ L m { s with heap := h, toks := tk } I oI C oC D ys news s') E' { s with heap := h, toks := tk })
    (fin : ∀ ys, RowsIn tl ys (c.filter f) → Fin ys news) : LCt.CompRestT prog w A h₀ L m env ct elt x scope cl s S (fun i v => vs.toArray[i]? = some v) Fin vs.toArray.size 0 [] news := by
  have hl : vs.toArray.size = c.length := by rw [List.size_toArray]; exact hR.length
  refine restT (fun i ys => RowsIn tl ys ((c.take i).filter f)) _ hS (by simpa using RowsIn.nil) ?_ ?_
  · intro i v I oI C oC D m₂ ys h tk E' hi hg hv hC hx F N off ne
    have hv' : vs[i]? = some v := by simpa using hv
    obtain ⟨a, p, q, t, u, n, rfl, hc, hm⟩ := hR.at hv'
    have hs : (c.take (i + 1)).filter f = (c.take i).filter f ++ (if f (p, q) = true then [(p, q)] else []) := by
      rw [List.take_add_one, hc, List.filter_append]
      congr 1
      simp only [Option.toList_some, List.filter_cons, List.filter_nil]
    refine wpAny_mono (turn a p q t u I oI C oC D m₂ ys h tk E' (News.isTup N (List.mem_cons_of_mem _ (List.mem_cons_of_mem _ (List.mem_cons_of_mem _ (hsub _ hm))))) hC hx F N off ne) (fun ok s' hq => ?_) fun _ _ e => e
    obtain ⟨e, h1, h2⟩ := hq
    cases ok with
    | true =>
      simp only [if_true]
      refine wpAny_mono (h1 rfl) (fun y s'' hy => ?_) fun _ _ e => e
      obtain ⟨rfl, hy⟩ := hy
      refine ⟨hy, ?_⟩
      rw [hs, if_pos e.symm]
      exact RowsIn.append hg (.cons hm .nil)
    | false =>
      simp only [Bool.false_eq_true, if_false]
      refine ⟨h2, ?_⟩
      rw [hs, if_neg (by rw [← e]; decide), List.append_nil]
      exact hg
  · intro ys hg
    rw [hl, List.take_length] at hg
    exact fin ys hg
/-- the rows' keys -/
theorem rows_keys {vs : List Value} {c : Prs} {tl : List (Addr × Obj)} (g : Int × Int → Int) (hsub : ∀ p ∈ tl, p ∈ news) (hR : RowsIn tl vs c) (hS : S news)
    (turn : ∀ (a : Addr) (i j : Int) (t u : Tok) I oI C oC D m₂ ys h tk (E' : Value → Shared → Prop), IsTup h a #[.int i t, .int j u] → LCg.NsObj oC m₂ → m₂ x = some (.ref a) → Fr h₀ L h m → News h₀ L h ((I, oI) :: (C, oC) :: (D, LCg.lst ys) :: news) → LCg.Off3 I C D news → ((@Ne Nat I C) ∧ (@Ne Nat I D) ∧ (@Ne Nat C D)) →
      wpAny (model prog w) A (eval elt (compEnvC scope cl C env)) (fun y s'' => (∃ t', y = .int (g (i, j)) t') ∧ CEnd h₀ L m { s with heap := h, toks := tk } I oI C oC D ys news s'') E' { s with heap := h, toks := tk })
    (fin : ∀ ys, IntsAre ys (c.map g) → Fin ys news) : LCg.CompRest prog w A h₀ L m env elt x scope cl s S (fun i v => vs.toArray[i]? = some v) Fin vs.toArray.size 0 [] news := by
  have hl : vs.toArray.size = c.length := by rw [List.size_toArray]; exact hR.length
  refine restU (fun i ys => IntsAre ys ((c.take i).map g)) _ hS (by simpa using IntsAre.nil) ?_ ?_
  · intro i v I oI C oC D m₂ ys h tk E' hi hg hv hC hx F N off ne
    have hv' : vs[i]? = some v := by simpa using hv
    obtain ⟨a, p, q, t, u, n, rfl, hc, hm⟩ := hR.at hv'
    refine wpAny_mono (turn a p q t u I oI C oC D m₂ ys h tk E' (News.isTup N (List.mem_cons_of_mem _ (List.mem_cons_of_mem _ (List.mem_cons_of_mem _ (hsub _ hm))))) hC hx F N off ne) (fun y s' hq => ?_) fun _ _ e => e
    obtain ⟨⟨t', rfl⟩, h2⟩ := hq
    refine ⟨h2, ?_⟩
    rw [List.take_add_one, hc]
    simpa using IntsAre.append hg (.cons _ t' .nil)
  · intro ys hg
    rw [hl, List.take_length] at hg
    exact fin ys hg
end
end Mine
end
theorem Mine.offS01 : True := by
  w_top off
  exact trivial
section
open PySem PySem.W PyProof.Rows
namespace Mine
abbrev AA (dp un : Nat) (gs : Option (List Code)) (outer : List Env) (env : Env) : Around := { handled := none, depth := dp, frames := some (env :: outer), guards := gs, units := un }
abbrev fsc (nm : List (Str × NameKind)) (ig ic : Bool) (mo : List (Str × Const)) : Scope := { kind := .function, names := nm, isGenerator := ig, isCoroutine := ic, more := mo }
abbrev inD (w : World) (ta tb : Tok) (cap : Value) (dc : Addr) : Obj :=
  dictOf [{ hash := PyData.keyHash w.params "capacity", key := .str "capacity" ta, val := cap }, { hash := PyData.keyHash w.params "cache", key := .str "cache" tb, val := .ref dc }] 2
local macro_rules | `(tactic| k_room) => `(tactic| ((try simp only [depth_under_make, depth_under_kw, depth_in1, depth_deeper, depth_caller, recursionLimit]); omega))
set_option maxRecDepth 100000 in
set_option maxHeartbeats 8000000 in
theorem set_core {w : World} {A₀ : Around} {base h₀ : Heap} {outer : List Env} {dp un : Nat} {gs : Option (List Code)} {q : Str} {nm ig ic mo} {L fa : Addr} {cdv : Value} {cl : List (Str × Addr)} {m : Str → Option Value} {s : Shared}
  {p : Program} {loose : List Str} {mean : ExcName → Option Value} {mg mb : Str → Option Value} {rest : List (Addr × Obj)} {x d dc : Addr} {od : Obj} {kvs : List (Int × Value)} {c : List (Int × Int)} {cap : Value} {ta tb tk tv : Tok} {k v : Int} {R : Value → Shared → Prop} {E : Value → Shared → Prop} {co : Option Int}
  (B : Below A₀ base outer h₀) (hdp : dp ≤ 400) (X : (hd.heap_39 w.params).In h₀) (T : Top p loose mean mg mb h₀) (F : Fr h₀ L s.heap m)
  (N : News h₀ L s.heap ((x, instObj 112 d) :: (d, inD w ta tb cap dc) :: (dc, od) :: rest)) (hxd : x ≠ d) (hxc : x ≠ dc) (hdc : d ≠ dc) (hoff : OwnOff rest [dc])
  (lo : (dc == sysModules) = false) (hd : od.IsDictOf (intKind Challenge.rw_fk5013_01.row.prog w) kvs) (hf : PyProof.V.FlatPairs PyData.int kvs (kdfD c)) (hc : c.length ≤ 1000) (hn : (c.map (·.1)).Nodup)
  (hcap : (co = none ∧ cap = .none) ∨ ∃ t n, co = some n ∧ cap = .int n t ∧ (c.length : Int) ≤ n)
  (done : ∀ h' o' kvs' tk', Fr h₀ L h' m → News h₀ L h' ((x, instObj 112 d) :: (d, inD w ta tb cap dc) :: (dc, o') :: rest) → o'.IsDictOf (intKind Challenge.rw_fk5013_01.row.prog w) kvs' → PyProof.V.FlatPairs PyData.int kvs' (kdfD (setC co c k v)) → R .none { s with heap := h', toks := tk' }) :
  wpAny (model Challenge.rw_fk5013_01.row.prog w) (AA dp un gs outer (envX q (fsc nm ig ic mo) L fa cdv cl)) (call (.ref 109) [.ref x, .int k tk, .int v tv]) R E s := by
  revert X
  k_fill
  intro X
  have hl1 := kdyDel_len c k
  have hl2 := kdfPut_len c k v
  have hl3 := kdfPut_len (kdyDel c k) k v
  have hne : kdfPut c k v ≠ [] := by
    cases hh : kdfHas c k with
    | false => rw [put_hasnt hh]; exact putL_ne _ _ _
    | true =>
      intro e
      have hx := kdyHas_put c k k v
      rw [e] at hx
      simp [kdfHas] at hx
  have hh := head_has hne
  rcases hcap with ⟨rfl, rfl⟩ | ⟨t, n, rfl, rfl, hn2⟩
  · k_steps
    · refine done _ _ _ _ (by assumption) (by assumption) (by assumption) ?_
      rw [setC_has (by assumption) (by intro n h; cases h), ← put_has]
      assumption
    · refine done _ _ _ _ (by assumption) (by assumption) (by assumption) ?_
      show PyProof.V.FlatPairs _ _ (kdfD (putL c k v))
      rw [← put_hasnt (by assumption)]
      assumption
  · k_steps
    · refine done _ _ _ _ (by assumption) (by assumption) (by assumption) ?_
      rw [setC_has (by assumption) (by intro n h; cases h; exact hn2), ← put_has]
      assumption
    · rename News _ _ _ _ => kN
      refine done _ _ _ _ (by assumption) (fun p hp => kN p (List.mem_cons_of_mem _ hp)) (by assumption) ?_
      have e := put_hasnt (c := c) (k := k) (by assumption) v
      show PyProof.V.FlatPairs _ _ (kdfD (if n < ((putL c k v).length : Int) then (putL c k v).drop 1 else putL c k v))
      rw [if_pos (by rw [← e]; assumption), ← e, ← head_del hne (by rw [e]; exact putL_nodup hn _ _)]
      assumption
    · refine done _ _ _ _ (by assumption) (by assumption) (by assumption) ?_
      have e := put_hasnt (c := c) (k := k) (by assumption) v
      show PyProof.V.FlatPairs _ _ (kdfD (if n < ((putL c k v).length : Int) then (putL c k v).drop 1 else putL c k v))
      rw [← e, if_neg (by assumption)]
      assumption

/-- the ledger cut to its head -/
theorem led_in {h₀ h : Heap} {L x d dc : Addr} {ox oD od : Obj} {news pre post : List (Addr × Obj)} (N : News h₀ L h news) (hx : (x, ox) ∈ news) (hdd : (d, oD) ∈ news) (e : news = pre ++ (dc, od) :: post) :
    News h₀ L h ((x, ox) :: (d, oD) :: (dc, od) :: (pre ++ post)) := by
  intro p hp
  refine N p ?_
  rcases List.mem_cons.mp hp with rfl | hp
  · exact hx
  rcases List.mem_cons.mp hp with rfl | hp
  · exact hdd
  rw [e]
  rcases List.mem_cons.mp hp with rfl | hp
  · simp
  · rcases List.mem_append.mp hp with hp | hp
    · exact List.mem_append.mpr (.inl hp)
    · exact List.mem_append.mpr (.inr (List.mem_cons_of_mem _ hp))
theorem led_out {h₀ h : Heap} {L x d dc : Addr} {ox oD od : Obj} {pre post : List (Addr × Obj)} (N : News h₀ L h ((x, ox) :: (d, oD) :: (dc, od) :: (pre ++ post))) :
    News h₀ L h (pre ++ (dc, od) :: post) := by
  intro p hp
  refine N p ?_
  refine List.mem_cons_of_mem _ (List.mem_cons_of_mem _ ?_)
  rcases List.mem_append.mp hp with hp | hp
  · exact List.mem_cons_of_mem _ (List.mem_append.mpr (.inl hp))
  · rcases List.mem_cons.mp hp with rfl | hp
    · exact List.mem_cons_self
    · exact List.mem_cons_of_mem _ (List.mem_append.mpr (.inr hp))
theorem led_off {dc : Addr} {pre post : List (Addr × Obj)} (a : ∀ p ∈ pre, p.1 ≠ dc) (b : ∀ p ∈ post, p.1 ≠ dc) : OwnOff (pre ++ post) [dc] := by
  intro p hp z hz
  rw [List.mem_singleton.mp hz]
  rcases List.mem_append.mp hp with hp | hp
  · exact a p hp
  · exact b p hp
theorem set_at {w : World} {A₀ : Around} {base h₀ : Heap} {outer : List Env} {dp un : Nat} {gs : Option (List Code)} {q : Str} {nm ig ic mo} {L fa : Addr} {cdv : Value} {cl : List (Str × Addr)} {m : Str → Option Value} {s : Shared}
  {p : Program} {loose : List Str} {mean : ExcName → Option Value} {mg mb : Str → Option Value} {news : List (Addr × Obj)} {u : Obj → List (Addr × Obj)} {x d dc : Addr} {od : Obj} {kvs : List (Int × Value)} {c : List (Int × Int)} {cap : Value} {ta tb tk tv : Tok} {k v : Int} {R : Value → Shared → Prop} {E : Value → Shared → Prop} {co : Option Int}
  (B : Below A₀ base outer h₀) (hdp : dp ≤ 400) (X : (hd.heap_39 w.params).In h₀) (T : Top p loose mean mg mb h₀) (F : Fr h₀ L s.heap m)
  (N : News h₀ L s.heap news) (hx : (x, instObj 112 d) ∈ news) (hdd : (d, inD w ta tb cap dc) ∈ news) (U : UpdF dc od news u) (hxd : x ≠ d) (hxc : x ≠ dc) (hdc : d ≠ dc)
  (lo : (dc == sysModules) = false) (hd : od.IsDictOf (intKind Challenge.rw_fk5013_01.row.prog w) kvs) (hf : PyProof.V.FlatPairs PyData.int kvs (kdfD c)) (hc : c.length ≤ 1000) (hn : (c.map (·.1)).Nodup)
  (hcap : (co = none ∧ cap = .none) ∨ ∃ t n, co = some n ∧ cap = .int n t ∧ (c.length : Int) ≤ n)
  (done : ∀ h' o' kvs' tk', Fr h₀ L h' m → News h₀ L h' (u o') → o'.IsDictOf (intKind Challenge.rw_fk5013_01.row.prog w) kvs' → PyProof.V.FlatPairs PyData.int kvs' (kdfD (setC co c k v)) → R .none { s with heap := h', toks := tk' }) :
  wpAny (model Challenge.rw_fk5013_01.row.prog w) (AA dp un gs outer (envX q (fsc nm ig ic mo) L fa cdv cl)) (call (.ref 109) [.ref x, .int k tk, .int v tv]) R E s := by
  obtain ⟨pre, post, e, hu, a, b⟩ := U.split
  exact set_core B hdp X T F (led_in N hx hdd e) hxd hxc hdc (led_off a b) lo hd hf hc hn hcap fun h' o' kvs' tk' F' N' hd' hf' =>
    done h' o' kvs' tk' F' (by rw [hu]; exact led_out N') hd' hf'
end Mine
end
theorem Mine.offG01 : True := by
  w_top off
  exact trivial
section
local macro_rules | `(tactic| walk_at "my pad") => `(tactic| fail)
local macro_rules | `(tactic| walk_at "my pad") => `(tactic| fail)
open PySem PySem.W PyProof.Rows
namespace Mine
local macro_rules | `(tactic| k_room) => `(tactic| ((try simp only [depth_under_make, depth_under_kw, depth_in1, depth_deeper, depth_caller, recursionLimit]); omega))
theorem get1_yes {prog : Program} {w : World} {A : Around} {E : Value → Shared → Prop} {s : Shared} {d : Addr} {c : List (Int × Int)} {k : Int} {tk : Tok} {Q : Value → Shared → Prop} (T : IntTab prog w s.heap d (kdfD c)) (hk : kdfHas c k = true)
    (h : ∀ t, Q (.int (kdfLook c k 0) t) { s with toks := s.toks + 1 }) : wpAny (model prog w) A (call (.builtin "dict.get") [.ref d, .int k tk]) Q E s :=
  call_get1_intTab T fun v hv => by
    rw [kdfD_item hk] at hv
    obtain ⟨t, ht⟩ := PyProof.V.Flat.int_inv hv
    rw [ht]
    exact h t
theorem get1_no {prog : Program} {w : World} {A : Around} {E : Value → Shared → Prop} {s : Shared} {d : Addr} {c : List (Int × Int)} {k : Int} {tk : Tok} {Q : Value → Shared → Prop} (T : IntTab prog w s.heap d (kdfD c)) (hk : kdfHas c k = false)
    (h : Q .none { s with toks := s.toks + 1 }) : wpAny (model prog w) A (call (.builtin "dict.get") [.ref d, .int k tk]) Q E s :=
  call_get1_intTab T fun v hv => by
    rw [kdfD_none hk] at hv
    obtain rfl := PyProof.V.Flat.none_inv hv
    exact h
local macro_rules | `(tactic| walk_at "call builtin:dict.get") => `(tactic| (k_here; kdf_here; (with_reducible show wpAny _ _ (call (Value.builtin "dict.get") [Value.ref _, Value.int _ _]) _ _ _); k_dflt (first
  | (refine get1_yes (by k_tabat) (by assumption) ?_; intro t')
  | refine get1_no (by k_tabat) (by assumption) ?_)))
set_option maxRecDepth 100000 in
set_option maxHeartbeats 8000000 in
theorem get_core {w : World} {A₀ : Around} {base h₀ : Heap} {outer : List Env} {dp un : Nat} {gs : Option (List Code)} {q : Str} {nm ig ic mo} {L fa : Addr} {cdv : Value} {cl : List (Str × Addr)} {m : Str → Option Value} {s : Shared}
  {p : Program} {loose : List Str} {mean : ExcName → Option Value} {mg mb : Str → Option Value} {rest : List (Addr × Obj)} {x d dc : Addr} {od : Obj} {kvs : List (Int × Value)} {c : List (Int × Int)} {cap dv : Value} {ta tb tk : Tok} {k : Int} {R : Value → Shared → Prop} {E : Value → Shared → Prop} {more : List Value}
  (hmore : (more = [] ∧ dv = .none) ∨ more = [dv])
  (B : Below A₀ base outer h₀) (hdp : dp ≤ 400) (X : (hd.heap_39 w.params).In h₀) (T : Top p loose mean mg mb h₀) (F : Fr h₀ L s.heap m)
  (N : News h₀ L s.heap ((x, instObj 112 d) :: (d, inD w ta tb cap dc) :: (dc, od) :: rest)) (hxd : x ≠ d) (hxc : x ≠ dc) (hdc : d ≠ dc) (hoff : OwnOff rest [dc])
  (lo : (dc == sysModules) = false) (hd : od.IsDictOf (intKind Challenge.rw_fk5013_01.row.prog w) kvs) (hf : PyProof.V.FlatPairs PyData.int kvs (kdfD c)) (hc : c.length ≤ 1000)
  (yes : kdfHas c k = true → ∀ h' o' kvs' tk' t, Fr h₀ L h' m → News h₀ L h' ((x, instObj 112 d) :: (d, inD w ta tb cap dc) :: (dc, o') :: rest) → o'.IsDictOf (intKind Challenge.rw_fk5013_01.row.prog w) kvs' → PyProof.V.FlatPairs PyData.int kvs' (kdfD (putL c k (kdfLook c k 0))) → R (.int (kdfLook c k 0) t) { s with heap := h', toks := tk' })
  (no : kdfHas c k = false → ∀ h' tk', Fr h₀ L h' m → News h₀ L h' ((x, instObj 112 d) :: (d, inD w ta tb cap dc) :: (dc, od) :: rest) → R dv { s with heap := h', toks := tk' }) :
  wpAny (model Challenge.rw_fk5013_01.row.prog w) (AA dp un gs outer (envX q (fsc nm ig ic mo) L fa cdv cl)) (call (.ref 102) (.ref x :: .int k tk :: more)) R E s := by
  revert X
  k_fill
  intro X
  have hl1 := kdyDel_len c k
  have hl3 := kdfPut_len (kdyDel c k) k (kdfLook c k 0)
  rcases hmore with ⟨rfl, rfl⟩ | rfl
  · cases hk : kdfHas c k
    · k_steps
      exact no hk _ _ (by assumption) (by assumption)
    · k_steps
      refine yes hk _ _ _ _ _ (by assumption) (by assumption) (by assumption) ?_
      rw [← put_has]
      assumption
  · cases hk : kdfHas c k
    · k_steps
      exact no hk _ _ (by assumption) (by assumption)
    · k_steps
      refine yes hk _ _ _ _ _ (by assumption) (by assumption) (by assumption) ?_
      rw [← put_has]
      assumption
theorem get_at {w : World} {A₀ : Around} {base h₀ : Heap} {outer : List Env} {dp un : Nat} {gs : Option (List Code)} {q : Str} {nm ig ic mo} {L fa : Addr} {cdv : Value} {cl : List (Str × Addr)} {m : Str → Option Value} {s : Shared}
  {p : Program} {loose : List Str} {mean : ExcName → Option Value} {mg mb : Str → Option Value} {news : List (Addr × Obj)} {u : Obj → List (Addr × Obj)} {x d dc : Addr} {od : Obj} {kvs : List (Int × Value)} {c : List (Int × Int)} {cap dv : Value} {ta tb tk : Tok} {k : Int} {R : Value → Shared → Prop} {E : Value → Shared → Prop} {more : List Value}
  (hmore : (more = [] ∧ dv = .none) ∨ more = [dv])
  (B : Below A₀ base outer h₀) (hdp : dp ≤ 400) (X : (hd.heap_39 w.params).In h₀) (T : Top p loose mean mg mb h₀) (F : Fr h₀ L s.heap m)
  (N : News h₀ L s.heap news) (hx : (x, instObj 112 d) ∈ news) (hdd : (d, inD w ta tb cap dc) ∈ news) (U : UpdF dc od news u) (hxd : x ≠ d) (hxc : x ≠ dc) (hdc : d ≠ dc)
  (lo : (dc == sysModules) = false) (hd : od.IsDictOf (intKind Challenge.rw_fk5013_01.row.prog w) kvs) (hf : PyProof.V.FlatPairs PyData.int kvs (kdfD c)) (hc : c.length ≤ 1000)
  (yes : kdfHas c k = true → ∀ h' o' kvs' tk' t, Fr h₀ L h' m → News h₀ L h' (u o') → o'.IsDictOf (intKind Challenge.rw_fk5013_01.row.prog w) kvs' → PyProof.V.FlatPairs PyData.int kvs' (kdfD (putL c k (kdfLook c k 0))) → R (.int (kdfLook c k 0) t) { s with heap := h', toks := tk' })
  (no : kdfHas c k = false → ∀ h' tk', Fr h₀ L h' m → News h₀ L h' news → R dv { s with heap := h', toks := tk' }) :
  wpAny (model Challenge.rw_fk5013_01.row.prog w) (AA dp un gs outer (envX q (fsc nm ig ic mo) L fa cdv cl)) (call (.ref 102) (.ref x :: .int k tk :: more)) R E s := by
  obtain ⟨pre, post, e, hu, a, b⟩ := U.split
  refine get_core hmore B hdp X T F (led_in N hx hdd e) hxd hxc hdc (led_off a b) lo hd hf hc (fun hk h' o' kvs' tk' t F' N' hd' hf' => ?_) fun hk h' tk' F' N' => ?_
  · exact yes hk h' o' kvs' tk' t F' (by rw [hu]; exact led_out N') hd' hf'
  · exact no hk h' tk' F' (by rw [e]; exact led_out N')
theorem get_yes {w : World} {A₀ : Around} {base h₀ : Heap} {outer : List Env} {dp un : Nat} {gs : Option (List Code)} {q : Str} {nm ig ic mo} {L fa : Addr} {cdv : Value} {cl : List (Str × Addr)} {m : Str → Option Value} {s : Shared}
  {p : Program} {loose : List Str} {mean : ExcName → Option Value} {mg mb : Str → Option Value} {news : List (Addr × Obj)} {u : Obj → List (Addr × Obj)} {x d dc : Addr} {od : Obj} {kvs : List (Int × Value)} {c : List (Int × Int)} {cap dv : Value} {ta tb tk : Tok} {k : Int} {R : Value → Shared → Prop} {E : Value → Shared → Prop} {more : List Value}
  (hmore : (more = [] ∧ dv = .none) ∨ more = [dv])
  (B : Below A₀ base outer h₀) (hdp : dp ≤ 400) (X : (hd.heap_39 w.params).In h₀) (T : Top p loose mean mg mb h₀) (F : Fr h₀ L s.heap m)
  (N : News h₀ L s.heap news) (hx : (x, instObj 112 d) ∈ news) (hdd : (d, inD w ta tb cap dc) ∈ news) (U : UpdF dc od news u) (hxd : x ≠ d) (hxc : x ≠ dc) (hdc : d ≠ dc)
  (lo : (dc == sysModules) = false) (hd : od.IsDictOf (intKind Challenge.rw_fk5013_01.row.prog w) kvs) (hf : PyProof.V.FlatPairs PyData.int kvs (kdfD c)) (hc : c.length ≤ 1000)
  (hk : kdfHas c k = true)
  (yes : ∀ h' o' kvs' tk' t, Fr h₀ L h' m → News h₀ L h' (u o') → o'.IsDictOf (intKind Challenge.rw_fk5013_01.row.prog w) kvs' → PyProof.V.FlatPairs PyData.int kvs' (kdfD (putL c k (kdfLook c k 0))) → R (.int (kdfLook c k 0) t) { s with heap := h', toks := tk' }) :
  wpAny (model Challenge.rw_fk5013_01.row.prog w) (AA dp un gs outer (envX q (fsc nm ig ic mo) L fa cdv cl)) (call (.ref 102) (.ref x :: .int k tk :: more)) R E s :=
  get_at hmore B hdp X T F N hx hdd U hxd hxc hdc lo hd hf hc (fun _ => yes) (fun h => by rw [hk] at h; cases h)
theorem get_no {w : World} {A₀ : Around} {base h₀ : Heap} {outer : List Env} {dp un : Nat} {gs : Option (List Code)} {q : Str} {nm ig ic mo} {L fa : Addr} {cdv : Value} {cl : List (Str × Addr)} {m : Str → Option Value} {s : Shared}
  {p : Program} {loose : List Str} {mean : ExcName → Option Value} {mg mb : Str → Option Value} {news : List (Addr × Obj)} {u : Obj → List (Addr × Obj)} {x d dc : Addr} {od : Obj} {kvs : List (Int × Value)} {c : List (Int × Int)} {cap dv : Value} {ta tb tk : Tok} {k : Int} {R : Value → Shared → Prop} {E : Value → Shared → Prop} {more : List Value}
  (hmore : (more = [] ∧ dv = .none) ∨ more = [dv])
  (B : Below A₀ base outer h₀) (hdp : dp ≤ 400) (X : (hd.heap_39 w.params).In h₀) (T : Top p loose mean mg mb h₀) (F : Fr h₀ L s.heap m)
  (N : News h₀ L s.heap news) (hx : (x, instObj 112 d) ∈ news) (hdd : (d, inD w ta tb cap dc) ∈ news) (U : UpdF dc od news u) (hxd : x ≠ d) (hxc : x ≠ dc) (hdc : d ≠ dc)
  (lo : (dc == sysModules) = false) (hd : od.IsDictOf (intKind Challenge.rw_fk5013_01.row.prog w) kvs) (hf : PyProof.V.FlatPairs PyData.int kvs (kdfD c)) (hc : c.length ≤ 1000)
  (hk : kdfHas c k = false)
  (no : ∀ h' tk', Fr h₀ L h' m → News h₀ L h' news → R dv { s with heap := h', toks := tk' }) :
  wpAny (model Challenge.rw_fk5013_01.row.prog w) (AA dp un gs outer (envX q (fsc nm ig ic mo) L fa cdv cl)) (call (.ref 102) (.ref x :: .int k tk :: more)) R E s :=
  get_at hmore B hdp X T F N hx hdd U hxd hxc hdc lo hd hf hc (fun h => by rw [hk] at h; cases h) (fun _ => no)
end Mine
end
section
open PySem PySem.W PyProof.Rows
namespace Mine
def lawB (p : Program) : List Stmt := match p.main.body.getLast? with
  | some (.FunctionDef (body := b) ..) => b
  | _ => []
def lawS (p : Program) : Scope := match p.main.body.getLast? with
  | some (.FunctionDef (scope := b) ..) => b
  | _ => { kind := .function, names := [], isGenerator := false, isCoroutine := false, more := [] }
def forB (p : Program) (i : Nat) : List Stmt := match (lawB p)[i]? with
  | some (.For (body := b) ..) => b
  | _ => []
def stAt (l : List Stmt) (i : Nat) : Stmt := (l[i]?).getD (.Pass ⟨0,0,0,0⟩)
theorem kst_self {m : Str → Option Value} {ps : List (Str × Value)} (h : ∀ p ∈ ps, m p.1 = some p.2) : kstB m ps = m := by
  funext z
  exact kstB_eq h fun _ => rfl
end Mine
end
section
open PySem PySem.W PyProof.Rows PySem.Spec PySem.Calls
namespace Mine
theorem flat_key {c : Prs} {kvs : List (Int × Value)} (hf : PyProof.V.FlatPairs PyData.int kvs (kdfD c)) {j : Nat} {k : Int} {x : Value} (hx : kvs[j]? = some (k, x)) : ∃ v, c[j]? = some (k, v) := by
  obtain ⟨dv, hd, _⟩ := hf.at hx
  have hd' : (c[j]?).map (fun p => (PyData.int p.1, PyData.int p.2)) = some (PyData.int k, dv) := by rw [← List.getElem?_map]; exact hd
  cases hcj : c[j]? with
  | none => rw [hcj] at hd'; cases hd'
  | some p =>
    rw [hcj] at hd'
    have e1 : PyData.int p.1 = PyData.int k := congrArg Prod.fst (Option.some.inj hd')
    injection e1 with e1
    exact ⟨p.2, by rw [← e1]⟩
theorem flat_len {c : Prs} {kvs : List (Int × Value)} (hf : PyProof.V.FlatPairs PyData.int kvs (kdfD c)) : kvs.length = c.length := by rw [← hf.length, kdfD_length]
section
variable {prog : Program} {w : World} {A : Around} {E : Value → Shared → Prop} {s : Shared} {h₀ : Heap} {L d : Addr} {m : Str → Option Value} {news : List (Addr × Obj)} {o : Obj} {kvs : List (Int × Value)} {c : Prs}
theorem listK {v : Addr} {Q : Value → Shared → Prop} (hh : A.handled = none) (F : Fr h₀ L s.heap m) (N : News h₀ L s.heap news) (hv : (v, { cls := .type "dict_keys", data := .fields #[.ref d] }) ∈ news) (hp : (d, o) ∈ news) (hd : o.IsDictOf (PySem.intKind prog w) kvs) (hf : PyProof.V.FlatPairs PyData.int kvs (kdfD c)) (hn : c.length ≤ 1000)
    (h : ∀ (B : Addr) n h' tk vs, Fr h₀ L h' m → News h₀ L h' ((B, listOf vs.toArray n) :: news) → (∀ q ∈ news, q.1 < B) → IntsAre vs (c.map (·.1)) → Q (.ref B) { s with heap := h', toks := tk }) :
    wpAny (model prog w) A (call (.type "list") [.ref v]) Q E s := by
  obtain ⟨ep, hat⟩ := (kda_dict N hp hd).dictAt
  refine kdl_N (kdl_keys (knd := PySem.intKind prog w) (kvs := kvs) (ep := ep)) hh F N ⟨⟨_, (N _ hv).1, rfl, rfl⟩, hat⟩ (kdl_size (by rw [flat_len hf]; omega)) fun B n h' tk vs F' N' l1 hl hw => ?_
  refine h B n h' tk vs F' N' l1 (kdy_ints (by rw [hl, flat_len hf, List.length_map]) fun j u hu => ?_)
  obtain ⟨k, x, hx, hk⟩ := hw j u hu
  obtain ⟨y, hy⟩ := flat_key hf hx
  obtain ⟨t, rfl⟩ := Value.isInt_shape hk
  exact ⟨k, by rw [List.getElem?_map, hy]; rfl, t, rfl⟩
end
section
variable {prog : Program} {w : World} {A : Around} {E : Value → Shared → Prop} {s : Shared} {h₀ : Heap} {L : Addr} {m : Str → Option Value} {env : Env}
/-- the comprehension's source is an iterator over a dict's keys -/
def KeySrc (prog : Program) (w : World) (A : Around) (h₀ : Heap) (L : Addr) (m : Str → Option Value) (env : Env) (elt : Expr) (x : Str) (scope : Scope) (cl : List (Str × Addr)) (Fin : Shared → List Value → List (Addr × Obj) → Prop) (it : Value) (s₂ : Shared) : Prop :=
  ∃ (I d : Addr) (oI od : Obj) (kvs : List (Int × Value)) (ep : Nat) (news : List (Addr × Obj)), it = .ref I ∧ A.handled = none ∧ Fr h₀ L s₂.heap m ∧ News h₀ L s₂.heap ((I, oI) :: news) ∧ KdkIter oI d 0 kvs.length ep ∧ KdkAt (intKind prog w) od kvs ep ∧ (d, od) ∈ news ∧ (∀ p ∈ news, p.1 < I) ∧ kvs.length ≤ sizeLine ∧
    LCg.CompRest prog w A h₀ L m env elt x scope cl s₂ (fun nw => (d, od) ∈ nw) (fun i v => ∃ k x, kvs[i]? = some (k, x) ∧ (intKind prog w).is k v = true) (Fin s₂) kvs.length 0 [] news
theorem ListComp_keys {elt iter : Expr} {x : Str} {px : Pos} {scope : Scope} {cl : List (Str × Addr)} {pos : Pos} {Q : Value → Shared → Prop} (_F₀ : Fr h₀ L s.heap m)
    (hclos : closureFor scope env = pure cl) (hcell : ∀ y ∈ scope.names, y.2 ≠ .cell) (hkind : scope.kind = .function)
    (hnames : ∀ y ∈ scope.names, y.2 = .local → scope.names.lookup y.1 = some .local) (hx : scope.names.lookup x = some .local)
    (h : wpAny (model prog w) A (eval iter env) (fun xv s₁ => wpAny (model prog w) A (pyIter xv) (KeySrc prog w A h₀ L m env elt x scope cl (fun s₂ => LCg.FinE h₀ L m s₂ Q)) E s₁) E s)
    (hs : ∀ x, foldedSetIterable iter env x = pure x := by intro _; rfl) :
    wpAny (model prog w) A (eval (.ListComp elt [⟨.Name x px, iter, [], 0⟩] scope pos) env) Q E s := by
  rw [eval_ListComp]
  refine wpAny_comprehension_free (use := none) rfl hs hclos hkind hnames (wpAny_mono h (fun xv s₁ h₁ => wpAny_mono h₁ (fun it s₂ h₂ => ?_) fun _ _ e => e) fun _ _ e => e)
  obtain ⟨I, d, oI, od, kvs, ep, news, rfl, hh, F, N, hI, hat, hd, hlt, hsz, R⟩ := h₂
  have NI := N _ List.mem_cons_self
  have Nd : News h₀ L s₂.heap news := fun p hp => N p (List.mem_cons_of_mem _ hp)
  have hdI : d ≠ I := Nat.ne_of_lt (hlt _ hd)
  refine LCg.block_U (S := fun nw => (d, od) ∈ nw) (Walks.dictKeys hh I d hdI kvs ep) hsz (fun i h st => by obtain ⟨o, e, _⟩ := st.1; exact ⟨o, e⟩)
    (fun i h h' o nw st e e' k N' hS => ⟨by obtain ⟨o', q, r⟩ := st.1; rw [e] at q; cases q; exact ⟨o, e', r⟩, hat.dictAt (N' _ hS).1⟩) hcell hkind hx
    ⟨hI.at NI.1, hat.dictAt (Nd _ hd).1⟩ (fun b hb => ?_) F Nd (Ne.symm NI.2.1) NI.2.2 (fun p hp => Nat.ne_of_lt (hlt p hp)) hd R ?_
  · rcases List.mem_cons.mp hb with rfl | hb
    · exact Heap.lt_size NI.1
    · rw [List.mem_singleton.mp hb]; exact Heap.lt_size (Nd _ hd).1
  · intro D C h tk m' ys news' F' N' o1 hn hC₀ hD₀ hCL hDL hCD offC fin
    refine ⟨m', hn, fun h'' hs'' => fin D h'' tk (F'.change hs'' hCL hC₀) (fun p hp => ?_) o1⟩
    refine ⟨hs''.extBut _ _ ?_ (N' p hp).1, (N' p hp).2⟩
    rcases List.mem_cons.mp hp with rfl | hp
    · exact Ne.symm hCD
    · exact offC p hp
theorem owit_key {Q : Value → Shared → Prop} {I d : Addr} {oI : Obj} {i n ep : Nat} {news : List (Addr × Obj)} (N : News h₀ L s.heap news) (hm : (I, oI) ∈ news) (hI : KdkIter oI d i n ep) (h : Q (.ref I) s) : OwitIt (model prog w) A Q E (.ref I) s := by
  unfold OwitIt
  have hit := hI.at (N _ hm).1
  exact wpAny_specialOf (name := Str.ofString "__next__") hit.typeIs PySem.F.slot_dict_keyiterator_next.lookup h
/-- the keys themselves -/
theorem KeySrc.intro {elt : Expr} {x : Str} {scope : Scope} {cl : List (Str × Addr)} {Fin : Shared → List Value → List (Addr × Obj) → Prop} {I d : Addr} {oI od : Obj} {kvs : List (Int × Value)} {c : Prs} {ep : Nat} {news : List (Addr × Obj)}
    (hh : A.handled = none) (F : Fr h₀ L s.heap m) (N : News h₀ L s.heap ((I, oI) :: news)) (hlt : ∀ p ∈ news, p.1 < I) (hI : KdkIter oI d 0 kvs.length ep) (hat : KdkAt (intKind prog w) od kvs ep) (hd : (d, od) ∈ news) (hf : PyProof.V.FlatPairs PyData.int kvs (kdfD c)) (hn : c.length ≤ 1000)
    (turn : ∀ k t I oI C oC D m₂ ys h tk (E' : Value → Shared → Prop), LCg.NsObj oC m₂ → m₂ x = some (.int k t) → Fr h₀ L h m → News h₀ L h ((I, oI) :: (C, oC) :: (D, LCg.lst ys) :: news) → LCg.Off3 I C D news → ((@Ne Nat I C) ∧ (@Ne Nat I D) ∧ (@Ne Nat C D)) →
      wpAny (model prog w) A (eval elt (compEnvC scope cl C env)) (fun y s'' => (∃ t', y = .int k t') ∧ CEnd h₀ L m { s with heap := h, toks := tk } I oI C oC D ys news s'') E' { s with heap := h, toks := tk })
    (fin : ∀ ys, IntsAre ys (c.map (·.1)) → Fin s ys news) : KeySrc prog w A h₀ L m env elt x scope cl Fin (.ref I) s := by
  have hl := flat_len hf
  refine ⟨I, d, oI, od, kvs, ep, news, rfl, hh, F, N, hI, hat, hd, hlt, by rw [hl, sizeLine_eq]; omega, ?_⟩
  refine restU (fun i ys => IntsAre ys ((c.take i).map (·.1))) _ hd (by simpa using IntsAre.nil) ?_ ?_
  · intro i v I oI C oC D m₂ ys h tk E' hi hg hv hC hx F N off ne
    obtain ⟨k, y, hk, hk2⟩ := hv
    obtain ⟨t, rfl⟩ := Value.isInt_shape hk2
    obtain ⟨z, hz⟩ := flat_key hf hk
    refine wpAny_mono (turn k t I oI C oC D m₂ ys h tk E' hC hx F N off ne) (fun y s' hq => ?_) fun _ _ e => e
    obtain ⟨⟨t', rfl⟩, h2⟩ := hq
    refine ⟨h2, ?_⟩
    rw [List.take_add_one, hz]
    simpa using IntsAre.append hg (.cons _ t' .nil)
  · intro ys hg
    rw [hl, List.take_length] at hg
    exact fin ys hg
end
end Mine
end
section
open PySem PySem.W PyProof.Rows PySem.Spec PySem.Calls
namespace Mine
section
variable {prog : Program} {w : World} {A : Around} {E : Value → Shared → Prop} {s : Shared} {h₀ : Heap} {L a b l : Addr} {m : Str → Option Value} {news : List (Addr × Obj)} {vs ws : List Value} {n n2 : Nat} {Q : Value → Shared → Prop} {x : Int} {t : Tok} {value slice : PySem.Expr}
theorem my_add (F : Fr h₀ L s.heap m) (N : News h₀ L s.heap news) (ha : (a, listOf vs.toArray n) ∈ news) (hb : (b, listOf ws.toArray n2) ∈ news) (hz : vs.length ≤ 1000) (hz2 : ws.length ≤ 1000)
    (h : ∀ D h', Fr h₀ L h' m → News h₀ L h' ((D, listOf (vs ++ ws).toArray 0) :: news) → (∀ p ∈ news, p.1 < D) → Q (.ref D) { s with heap := h' }) :
    wpAny (model prog w) A (binaryOp .Add (.ref a) (.ref b)) Q E s :=
  kmk_add_lit F N ⟨_, (N _ ha).1, rfl, _, rfl⟩ ⟨_, (N _ hb).1, rfl, _, rfl⟩ (by rw [List.toList_toArray, List.toList_toArray]) h (by rw [List.toList_toArray, List.toList_toArray, sizeLine_eq]; omega)
theorem pick_neg (hx : x < 0) : (slicePick vs.toArray (some x) none none).toList = vs.drop (vs.length - (-x).toNat) := by
  have e : sliceBounds (some x) none none vs.toArray.size = (((vs.toArray.size - (-x).toNat : Nat) : Int), ((vs.toArray.size : Nat) : Int), 1) := by
    simp only [sliceBounds, Option.getD_none, show (1 : Int) > 0 by decide, if_true, if_pos hx]
    congr 1
    omega
  rw [kmk_pick_nat _ e]
  show (vs.drop (vs.toArray.size - (-x).toNat)).take (vs.toArray.size - (vs.toArray.size - (-x).toNat)) = _
  rw [List.size_toArray, List.take_of_length_le (by rw [List.length_drop]; omega)]
theorem pick_pos (hx : 0 ≤ x) : (slicePick vs.toArray (some x) none none).toList = vs.drop x.toNat := by
  have e : sliceBounds (some x) none none vs.toArray.size = (((min x.toNat vs.toArray.size : Nat) : Int), ((vs.toArray.size : Nat) : Int), 1) := by
    simp only [sliceBounds, Option.getD_none, show (1 : Int) > 0 by decide, if_true, if_neg (show ¬ (x < 0) by omega)]
    congr 1
    omega
  rw [kmk_pick_nat _ e]
  show (vs.drop (min x.toNat vs.toArray.size)).take (vs.toArray.size - min x.toNat vs.toArray.size) = _
  rw [List.size_toArray, kmk_drop_min, List.take_of_length_le (by rw [List.length_drop]; omega)]
theorem my_slice_neg (hx : x < 0) (F : Fr h₀ L s.heap m) (N : News h₀ L s.heap news) (hl : (l, listOf vs.toArray n) ∈ news) (hz : vs.length ≤ 1000)
    (h : ∀ D h', Fr h₀ L h' m → News h₀ L h' ((D, listOf (vs.drop (vs.length - (-x).toNat)).toArray 0) :: news) → (∀ p ∈ news, p.1 < D) → Q (.ref D) { s with heap := h' })
    (hs : subscripted slice false (.ref l) (.ref s.heap.objs.size) = operate [.ref s.heap.objs.size, .ref l] (getItem (.ref l) (.ref s.heap.objs.size))) (ht : ∀ r, letTemporaryGo value (.ref l) r = pure ()) :
    wpAny (model prog w) A (subscriptTail value slice (.ref l) (.ref s.heap.objs.size)) Q E { s with heap := s.heap.push { cls := .type "slice", data := .fields #[.int x t, .none, .none] } } :=
  kmk_slice_lit F N (⟨_, (N _ hl).1, rfl, _, rfl⟩ : s.heap.IsList l vs.toArray) (.int x t) .none (pick_neg hx) h hs ht (by rw [List.size_toArray, sizeLine_eq]; omega)
theorem my_slice_pos (hx : 0 ≤ x) (F : Fr h₀ L s.heap m) (N : News h₀ L s.heap news) (hl : (l, listOf vs.toArray n) ∈ news) (hz : vs.length ≤ 1000)
    (h : ∀ D h', Fr h₀ L h' m → News h₀ L h' ((D, listOf (vs.drop x.toNat).toArray 0) :: news) → (∀ p ∈ news, p.1 < D) → Q (.ref D) { s with heap := h' })
    (hs : subscripted slice false (.ref l) (.ref s.heap.objs.size) = operate [.ref s.heap.objs.size, .ref l] (getItem (.ref l) (.ref s.heap.objs.size))) (ht : ∀ r, letTemporaryGo value (.ref l) r = pure ()) :
    wpAny (model prog w) A (subscriptTail value slice (.ref l) (.ref s.heap.objs.size)) Q E { s with heap := s.heap.push { cls := .type "slice", data := .fields #[.int x t, .none, .none] } } :=
  kmk_slice_lit F N (⟨_, (N _ hl).1, rfl, _, rfl⟩ : s.heap.IsList l vs.toArray) (.int x t) .none (pick_pos hx) h hs ht (by rw [List.size_toArray, sizeLine_eq]; omega)
end
theorem allLt_all {d : Addr} : ∀ {l : List (Addr × Obj)}, AllLt d l → ∀ p ∈ l, p.1 < d
  | [], _, _, h => nomatch h
  | _ :: _, x, p, h => by
    rcases List.mem_cons.mp h with rfl | h
    · exact x.1
    · exact allLt_all x.2 p h
end Mine
end
section
open PySem PySem.W PyProof.Rows PySem.Spec PySem.Calls
namespace Mine
section
variable {prog : Program} {w : World} {A₀ A : Around} {s : Shared} {base h₀ : Heap} {L : Addr} {m : Str → Option Value} {env : Env} {news : List (Addr × Obj)} {K : Frag} {p : Program} {loose : List Str} {mean : ExcName → Option Value} {mg mb : Str → Option Value}
  {R : Result → Shared → Prop} {name qual : Str} {params : Arguments} {body : List Stmt} {scope : Scope} {dV kV doc pm cdv ct oc : Value} {an od : Option Addr} {osl : Array (Option Value)} {f : Addr} {args : Args} {binds : List (Str × Value)}
theorem slots_ns {h : Heap} {a : Addr} {o : Obj} {es : Array DictEntry} {ep : Nat} {sl : Array (Option Value)} {mm : Str → Option Value} (hd : o.data = .dict es ep) (hk : StrKeys es) (hf : ∀ name, nsFind es name = mm name) (e : h.get? a = some { o with slots := sl }) : h.Ns a mm := ⟨_, es, ep, e, hd, hk, hf⟩
/-- a call out of a frame that may have cells, of a def that catches -/
theorem defS0X (B : Below A₀ base [] h₀) (F : Fr h₀ L s.heap m) (X₀ : K.In h₀) (N : News h₀ L s.heap news) (T : Top p loose mean mg mb h₀) (hA : A.frames = some [env]) (hfr : env.frame = some L) (hke : env.scope.kind = .function)
    (ho : K.lookup f = some ⟨oc, od, .func (fnOf name qual params body scope dV kV doc pm an cdv ct), osl⟩) (hcd : codeIn K cdv qual = true) (hroom : A.depth < recursionLimit)
    (hbind : BindsTo s (fnOf name qual params body scope dV kV doc pm an cdv ct) args binds) (hloc : ∀ y ∈ binds, scope.names.lookup y.1 = some .local)
    (h : ∀ g L' h₁, Fr h₀ L g m → Fr g L' h₁ (fun y => binds.reverse.lookup y) → News g L' h₁ news → Below A base [env] g → K.In g → Top p loose mean mg mb g → KtsDicts ([env].filterMap (·.frame)) g →
      wpAny (model prog w) (A.deeper (envOf qual scope L' f cdv)) (execs body (envOf qual scope L' f cdv))
        (fun fl s' => LeaveS0 ([env].filterMap (·.frame)) h₀ L m g R (match fl with | .ret v => v | _ => .none) s')
        (fun e s' => wpAny (model prog w) (A.deeper (envOf qual scope L' f cdv)) (leaving (envOf qual scope L' f cdv) e) (fun _ s'' => R (.error e) s'') (fun e' s'' => R (.error e') s'') s')
        { s with heap := h₁, toks := s.toks + binds.length })
    (hco : scope.isCoroutine = false) (hgen : scope.isGenerator = false) (hk : scope.kind = .function)
    (hcell : ∀ x ∈ scope.names, x.2 ≠ .cell) : codeAny (model prog w) A (.call (.ref f) args) R s := by
  have X := X₀.keeps F.keep
  obtain ⟨FG, BG, st, -⟩ := groundX (R := R) B F N hA hfr hke
  have efs : [env].filterMap (·.frame) = [L] := by simp [hfr]
  obtain ⟨oL, es, ep, hL, hd, hkk, hff⟩ := FG.ns
  have gsz : (hideAll s.heap (news.map (·.1))).objs.size = s.heap.objs.size := hideAll_size _ _
  have L0 : h₀.get? L = none := Heap.get?_none_of_le F.above
  refine codeAny_call_def (fd := fnOf name qual params body scope dV kV doc pm an cdv ct) (body := body) (binds := binds) hroom (X _ _ ho) rfl (T.nolimit.keeps F.keep) (codeRec_of X hcd) rfl hbind hcell hloc (fun h₁ hns hk₁ => ?_) hco hgen hk
  have F' : Fr (hideAll s.heap (news.map (·.1))) s.heap.objs.size h₁ (fun y => binds.reverse.lookup y) := ⟨hns, fun b o e => hk₁ b o (of_hideAll _ e), Nat.le_of_eq gsz⟩
  have N' : News (hideAll s.heap (news.map (·.1))) s.heap.objs.size h₁ news := fun q hq => ⟨hk₁ _ _ (N q hq).1, Nat.ne_of_lt (Heap.lt_size (N q hq).1), hideAll_none _ (List.mem_map_of_mem hq)⟩
  have D : KtsDicts ([env].filterMap (·.frame)) (hideAll s.heap (news.map (·.1))) := by
    rw [efs]
    intro b hb
    rw [List.mem_singleton.mp hb]
    exact ⟨oL, es, ep, hL, hd⟩
  refine wpAny_mono (h _ _ h₁ FG F' N' BG (X₀.keeps st) (T.keeps st) D) (fun fl s' hl => ?_) fun _ _ y => y
  obtain ⟨g', L', m', news', T', F₂, N₂, k⟩ := hl
  obtain ⟨sl, hs⟩ := T'.up hL
  refine k ⟨slots_ns hd hkk hff (F₂.keep _ _ hs), fun b o e => F₂.keep b o (T'.other b o (st b o e) ?_), F.above⟩ fun q hq => ⟨(N₂ q hq).1, fun hqL => ?_, ?_⟩
  · rw [efs]
    intro hb
    rw [List.mem_singleton.mp hb, L0] at e
    cases e
  · have z := (N₂ q hq).2.2
    rw [hqL, hs] at z
    cases z
  · cases hb : h₀.get? q.1 with
    | none => rfl
    | some o =>
      obtain ⟨sl', hs'⟩ := T'.up (st _ _ hb)
      have z := (N₂ q hq).2.2
      rw [hs'] at z
      cases z
end
section
variable {M : Model} {A : Around} {E : Value → Shared → Prop} {s : Shared} {K : Frag} {x C L f : Addr} {h₀ : Heap} {m : Str → Option Value} {ox : Obj} {od : Option Obj} {i : Value}
/-- del of an item of an own class's instance -/
theorem own_delItem {Q : Unit → Shared → Prop} (F : Fr h₀ L s.heap m) (X₀ : K.In h₀) (I : InstAt s.heap x ox C od) (hq : noSeq K C = true) (hs : findIn K (.ref C) "__delitem__" = some (some (.ref f))) (hf : isFn K (.ref f) = true)
    (h : wpAny M A (call (.ref f) [.ref x, i]) (fun _ s' => Q () s') E s) : wpAny M A (delItem (.ref x) i) Q E s := by
  have X := X₀.keeps F.keep
  have fin : wpAny M A (callSpecial? (.ref x) "__delitem__" [i]) (fun r s' => ∃ v, r = some v ∧ Q () s') E s :=
    special_fn X I hs (beq_iff_eq.mp hf) (wpAny_mono h (fun v _ z => ⟨v, rfl, z⟩) fun _ _ z => z)
  unfold delItem sequenceKey
  refine wpAny_holding (wpAny_bind (wpAny_bind (I.type.here (wpAny_bind ((anyM_none X hq).here ?_)))))
  rw [if_pos (show (!false) = true from rfl)]
  refine wpAny_pure (wpAny_bind (wpAny_mono fin (fun r s' hr => ?_) fun _ _ z => z))
  obtain ⟨v, rfl, hq'⟩ := hr
  exact wpAny_pure hq'
end
end Mine
end
theorem Mine.offT01 : True := by
  w_top off
  exact trivial
section
local macro_rules | `(tactic| walk_at "my pad") => `(tactic| fail)
local macro_rules | `(tactic| walk_at "my pad") => `(tactic| fail)
local macro_rules | `(tactic| walk_at "my pad") => `(tactic| fail)
local macro_rules | `(tactic| walk_at "my pad") => `(tactic| fail)
local macro_rules | `(tactic| walk_at "my pad") => `(tactic| fail)
open PySem PySem.W PyProof.Rows
namespace Mine
abbrev E1 (L fa : Addr) (cdv : Value) : Env := envOfC "law" (lawS Challenge.rw_fk5013_01.row.prog) L fa cdv
abbrev A1 (L fa : Addr) (cdv : Value) : Around := callerA.deeper (E1 L fa cdv)
abbrev B1 (i : Nat) : Stmt := stAt (forB Challenge.rw_fk5013_01.row.prog 2) i
section
variable {w : World} {h₀ : Heap} {L fa : Addr} {cdv : Value} {p : Program} {loose : List Str} {mean : ExcName → Option Value} {mg mb : Str → Option Value} {l ck cm x d dc R : Addr} {vs0 vs : List Value} {ns : List Int} {room : Int} {tr ta tb : Tok} {cap : Value} {ock ocm od : Obj} {kvs : List (Int × Value)} {c : Prs} {n : Nat}
  {tail led : List (Addr × Obj)} {m : Str → Option Value} {s : Shared} {E : Value → Shared → Prop} {Q : Flow → Shared → Prop}
set_option maxRecDepth 100000 in
set_option maxHeartbeats 8000000 in
theorem st0 {a : Int} {tat : Tok} (B : Below callerA h₀ [] h₀) (X : (hd.heap_39 w.params).In h₀) (T : Top p loose mean mg mb h₀) (hl : h₀.IsList l vs0.toArray) (hi0 : IntsAre vs0 ns) (hns : ns.length ≤ 63) (ha : 0 ≤ a) (ha2 : a ≤ 100)
  (hm : ∀ p ∈ [(Str.ofString "script", Value.ref l), (Str.ofString "at", Value.int a tat)], m p.1 = some p.2) (F : Fr h₀ L s.heap m) (N : News h₀ L s.heap led)
  (done : ∀ num t h' tk, 0 ≤ num → Fr h₀ L h' (fun y => if y = "number" then some (.int num t) else m y) → News h₀ L h' led → Q .next { s with heap := h', toks := tk }) :
  wpAny (model Challenge.rw_fk5013_01.row.prog w) (A1 L fa cdv) (exec (B1 0) (E1 L fa cdv)) Q E s := by
  revert X
  k_fill
  intro X
  unfold A1 E1 B1
  conv in (stAt _ _) => whnf
  conv in (occs := *) (lawS _) => all_goals whnf
  rw [← kst_self hm] at F
  k_steps
  all_goals (rename Fr _ _ _ _ => F9; rw [kst_self hm] at F9; refine done _ _ _ _ ?_ F9 (by assumption))
  · rw [Int.fmod_eq_emod_of_nonneg _ (by decide)]; omega
  · omega
set_option maxRecDepth 100000 in
set_option maxHeartbeats 8000000 in
theorem st1 {num : Int} {tn : Tok} {ov : Option Value} (X : (hd.heap_39 w.params).In h₀)
  (hm : ∀ p ∈ [(Str.ofString "number", Value.int num tn)], m p.1 = some p.2) (F : Fr h₀ L s.heap m) (N : News h₀ L s.heap ((L + 1 + 1, ock) :: tail)) (hck : ock.data = .cell ov) (hoff : OwnOff tail [L + 1 + 1])
  (done : ∀ t t' o' h' tk, o'.data = .cell (some (.int ((num.fdiv 5).fmod 5) t)) → Fr h₀ L h' (fun y => if y = "way" then some (.int (num.fmod 5) t') else m y) → News h₀ L h' ((L + 1 + 1, o') :: tail) → Q .next { s with heap := h', toks := tk }) :
  wpAny (model Challenge.rw_fk5013_01.row.prog w) (A1 L fa cdv) (exec (B1 1) (E1 L fa cdv)) Q E s := by
  revert X
  k_fill
  intro X
  unfold A1 E1 B1
  conv in (stAt _ _) => whnf
  conv in (occs := *) (lawS _) => all_goals whnf
  rw [← kst_self hm] at F
  k_steps
  rename Fr _ _ _ _ => F9
  rename News _ _ _ _ => N9
  rw [kst_self hm] at F9
  exact done _ _ _ _ _ (by assumption) F9 (fun p hp => N9 p (List.mem_cons_of_mem _ hp))
local macro_rules | `(tactic| walk_at "exec Assign cons ListComp") => `(tactic| (k_here; k_dflt (refine LCt.Assign_ListComp_T (F₀ := by k_asm) (by rfl) (by with_unfolding_all rfl) (by with_unfolding_all rfl) (by decide) (by rfl) (by decide) (by rfl) (by rfl) (by rfl) ?_)))
set_option maxRecDepth 100000 in
set_option maxHeartbeats 8000000 in
theorem st2 {k : Int} {tk : Tok} (X : (hd.heap_39 w.params).In h₀)
  (hm : ∀ p ∈ [(Str.ofString "rows", Value.ref R)], m p.1 = some p.2) (F : Fr h₀ L s.heap m) (N : News h₀ L s.heap ((L + 1 + 1, ock) :: (R, listOf vs.toArray n) :: tail)) (hck : ock.data = .cell (some (.int k tk))) {tl0 : List (Addr × Obj)} (hsub : ∀ p ∈ tl0, p ∈ tail) (hR : RowsIn tl0 vs c) (hlen : c.length ≤ 100)
  (done : ∀ D ys h' tk, Fr h₀ L h' (fun y => if y = "here" then some (.ref D) else m y) → News h₀ L h' ((D, LCg.lst ys) :: (L + 1 + 1, ock) :: (R, listOf vs.toArray n) :: tail) → RowsIn tl0 ys (c.filter fun p => decide (p.1 = k)) → LCg.Off1 D ((L + 1 + 1, ock) :: (R, listOf vs.toArray n) :: tail) → Q .next { s with heap := h', toks := tk }) :
  wpAny (model Challenge.rw_fk5013_01.row.prog w) (A1 L fa cdv) (exec (B1 2) (E1 L fa cdv)) Q E s := by
  revert X
  k_fill
  intro X
  unfold A1 E1 B1
  conv in (stAt _ _) => whnf
  conv in (occs := *) (lawS _) => all_goals whnf
  rw [← kst_self hm] at F
  k_steps
  refine LCt.CompSrcT.ledger (by rfl) F N (by k_mem) (by rw [List.size_toArray, hR.length, sizeLine_eq]; omega) ?_
  intro g
  refine rows_filter (c := c) (fun p => decide (p.1 = k)) (fun p hp => List.mem_cons_of_mem _ (List.mem_cons_of_mem _ (hsub p hp))) hR (.inr ⟨_, by k_mem, rfl, _, rfl⟩) ?_ ?_
  · intro a i j t u I oI C oC D m₂ ys h tk' E' hT hC hx F' N' off ne
    k_steps
    all_goals exact CEnd.mk' F' N'
  · intro ys hy D h' tk' F' N' o1
    rw [kst_self hm] at F'
    exact done D ys h' tk' F' N' hy o1
set_option maxRecDepth 100000 in
set_option maxHeartbeats 8000000 in
theorem st3 {k : Int} {tk : Tok} (X : (hd.heap_39 w.params).In h₀)
  (hm : ∀ p ∈ [(Str.ofString "rows", Value.ref R)], m p.1 = some p.2) (F : Fr h₀ L s.heap m) (N : News h₀ L s.heap ((L + 1 + 1, ock) :: (R, listOf vs.toArray n) :: tail)) (hck : ock.data = .cell (some (.int k tk))) {tl0 : List (Addr × Obj)} (hsub : ∀ p ∈ tl0, p ∈ tail) (hR : RowsIn tl0 vs c) (hlen : c.length ≤ 100)
  (done : ∀ D ys h' tk, Fr h₀ L h' (fun y => if y = "rest" then some (.ref D) else m y) → News h₀ L h' ((D, LCg.lst ys) :: (L + 1 + 1, ock) :: (R, listOf vs.toArray n) :: tail) → RowsIn tl0 ys (kdyDel c k) → LCg.Off1 D ((L + 1 + 1, ock) :: (R, listOf vs.toArray n) :: tail) → Q .next { s with heap := h', toks := tk }) :
  wpAny (model Challenge.rw_fk5013_01.row.prog w) (A1 L fa cdv) (exec (B1 3) (E1 L fa cdv)) Q E s := by
  revert X
  k_fill
  intro X
  unfold A1 E1 B1
  conv in (stAt _ _) => whnf
  conv in (occs := *) (lawS _) => all_goals whnf
  rw [← kst_self hm] at F
  k_steps
  refine LCt.CompSrcT.ledger (by rfl) F N (by k_mem) (by rw [List.size_toArray, hR.length, sizeLine_eq]; omega) ?_
  intro g
  refine rows_filter (c := c) (fun p => !decide (p.1 = k)) (fun p hp => List.mem_cons_of_mem _ (List.mem_cons_of_mem _ (hsub p hp))) hR (.inr ⟨_, by k_mem, rfl, _, rfl⟩) ?_ ?_
  · intro a i j t u I oI C oC D m₂ ys h tk' E' hT hC hx F' N' off ne
    k_steps
    all_goals exact CEnd.mk' F' N'
  · intro ys hy D h' tk' F' N' o1
    rw [kst_self hm] at F'
    exact done D ys h' tk' F' N' hy o1
end
end Mine
end
theorem Mine.offU01 : True := by
  w_top off
  exact trivial
section
local macro_rules | `(tactic| walk_at "my pad") => `(tactic| fail)
local macro_rules | `(tactic| walk_at "my pad") => `(tactic| fail)
local macro_rules | `(tactic| walk_at "my pad") => `(tactic| fail)
local macro_rules | `(tactic| walk_at "my pad") => `(tactic| fail)
local macro_rules | `(tactic| walk_at "my pad") => `(tactic| fail)
local macro_rules | `(tactic| walk_at "my pad") => `(tactic| fail)
local macro_rules | `(tactic| walk_at "my pad") => `(tactic| fail)
open PySem PySem.W PyProof.Rows
namespace Mine
section
variable {w : World} {h₀ : Heap} {L fa : Addr} {cdv : Value} {p : Program} {loose : List Str} {mean : ExcName → Option Value} {mg mb : Str → Option Value} {l ck cm x d dc R : Addr} {vs0 vs : List Value} {ns : List Int} {room : Int} {tr ta tb : Tok} {cap : Value} {ock ocm od : Obj} {kvs : List (Int × Value)} {c : Prs} {n : Nat}
  {tail led : List (Addr × Obj)} {m : Str → Option Value} {s : Shared} {E : Value → Shared → Prop} {Q : Flow → Shared → Prop}
local macro_rules | `(tactic| walk_at "my in") => `(tactic| first | assumption | exact List.mem_cons_self | (refine List.mem_cons_of_mem _ ?_; walk_at "my in"))
local macro_rules | `(tactic| walk_at "my sub") => `(tactic| (intro p9 hp9; walk_at "my in"))
local macro_rules | `(tactic| walk_at "call type:list") => `(tactic| (k_here; (with_reducible show wpAny _ _ (call (Value.type "list") [Value.ref _]) _ _ _); k_dflt (refine listK (by rfl) (by k_asm) (by k_asm) (by k_mem) (by k_mem) (by k_asm) (by k_asm) (by omega) ?_; intro D' n' h' tk' vs' F' N' l1 hi'; (try k_lt l1))))
local macro_rules | `(tactic| walk_at "eval ListComp") => `(tactic| (k_here; (with_reducible show wpAny _ _ (eval (Expr.ListComp _ [⟨_, _, [], _⟩] _ _) _) _ _ _); k_dflt (refine LCg.ListComp_U (F₀ := by k_asm) (by with_unfolding_all rfl) (by decide) (by rfl) (by decide) (by rfl) ?_)))
local macro_rules | `(tactic| walk_at "eval ListComp") => `(tactic| (k_here; (with_reducible show wpAny _ _ (eval (Expr.ListComp _ [⟨_, Expr.Name (Str.ofString "made") _, [], _⟩] _ _) _) _ _ _); k_dflt (refine ListComp_keys (by k_asm) (by with_unfolding_all rfl) (by decide) (by rfl) (by decide) (by rfl) ?_)))
local macro_rules | `(tactic| walk_at "CompSrc") => `(tactic| (k_here; k_dflt (refine LCg.CompSrc.ledger (by rfl) (by k_asm) (by k_asm) (by k_mem) (by rw [List.size_toArray, RowsIn.length (by assumption), sizeLine_eq]; omega) ?_); intro g'; refine' rows_keys (fun q => q.1) ?sub ?hR ?S (fun a' i' j' t' u' I' oI' C' oC' D' m' ys' h' tk' E' hT' hC' hx' F' N' off' ne' => ?_) (fun ys' hy' D' h' tk' F' N' o1' => ?_); (case hR => assumption); (case sub => walk_at "my sub"); (case S => exact (.inr ⟨_, by k_mem, rfl, _, rfl⟩))))
local macro_rules | `(tactic| walk_at "pyIter ref") => `(tactic| ((with_reducible show wpAny _ _ (pyIter (Value.ref _)) (KeySrc _ _ _ _ _ _ _ _ _ _ _ _) _ _); k_here; k_dflt (refine' owit_iter ?F ?X ?I ?hs ?hf ?_; (case F => k_asm); (case X => k_asm); (case I => k_inst); (case hs => k_is); (case hf => k_is); k_whole)))
local macro_rules | `(tactic| walk_at "OwitIt") => `(tactic| (k_dflt (refine' owit_key ?N ?m ?h ?_; (case N => k_asm); (case m => k_mem); (case h => k_asm))))
local macro_rules | `(tactic| walk_at "KeySrc") => `(tactic| (k_dflt (refine' KeySrc.intro (by rfl) ?F ?N ?lt ?I ?ka ?d ?f ?n (fun k' t' I' oI' C' oC' D' m' ys' h' tk' E' hC' hx' F' N' off' ne' => ?_) (fun ys' hy' D' h' tk' F' N' o1' => ?_); (case F => k_asm); (case N => k_asm); (case I => k_asm); (case ka => k_asm); (case d => k_mem); (case f => k_asm); (case n => omega); (case lt => (refine allLt_all ?_; simp only [AllLt, and_true]; assumption)))))
local macro_rules | `(tactic| walk_at "CEnd") => `(tactic| exact CEnd.mk' (by k_asm) (by k_asm))
theorem len_rows {prog : Program} {w : World} {A : Around} {E : Value → Shared → Prop} {s : Shared} {h₀ : Heap} {L R : Addr} {news tl : List (Addr × Obj)} {vs : List Value} {c : Prs} {n : Nat} {Q : Value → Shared → Prop} (N : News h₀ L s.heap news) (hm : (R, listOf vs.toArray n) ∈ news) (hR : RowsIn tl vs c) (hc : c.length ≤ 1000)
    (h : Q (.int (c.length : Int) (s.toks + 1)) { s with toks := s.toks + 1 + 1 }) : wpAny (model prog w) A (call (.builtin "len") [.ref R]) Q E s := by
  have hl : s.heap.IsList R vs.toArray := ⟨_, (N _ hm).1, rfl, n, rfl⟩
  have e : vs.toArray.size = c.length := by rw [List.size_toArray]; exact hR.length
  exact PySem.Calls.call_len_list hl (by rw [e]; omega) (by rw [e]; exact h)
local macro_rules | `(tactic| walk_at "call builtin:len") => `(tactic| (k_here; (with_reducible show wpAny _ _ (call (Value.builtin "len") [Value.ref _]) _ _ _); k_dflt (refine' len_rows ?N ?m ?r ?c ?_; (case N => k_asm); (case m => k_mem); (case r => k_asm); (case c => omega))))
set_option maxRecDepth 100000 in
set_option maxHeartbeats 8000000 in
theorem st5 (B : Below callerA h₀ [] h₀) (X : (hd.heap_39 w.params).In h₀) (T : Top p loose mean mg mb h₀)
  (hm : ∀ p ∈ [(Str.ofString "rows", Value.ref R)], m p.1 = some p.2) (F : Fr h₀ L s.heap m)
  (N : News h₀ L s.heap ((L + 1, ocm) :: (x, instObj 112 d) :: (d, inD w ta tb cap dc) :: (dc, od) :: (R, listOf vs.toArray n) :: tail)) (hcm : ocm.data = .cell (some (.ref x))) (hR : RowsIn tail vs c) (hlen : c.length ≤ 100)
  (lo : (dc == sysModules) = false) (hd : od.IsDictOf (intKind Challenge.rw_fk5013_01.row.prog w) kvs) (hf : PyProof.V.FlatPairs PyData.int kvs (kdfD c))
  (done : ∀ h' tk, Fr h₀ L h' m → News h₀ L h' ((L + 1, ocm) :: (x, instObj 112 d) :: (d, inD w ta tb cap dc) :: (dc, od) :: (R, listOf vs.toArray n) :: tail) → Q .next { s with heap := h', toks := tk }) :
  wpAny (model Challenge.rw_fk5013_01.row.prog w) (A1 L fa cdv) (exec (B1 5) (E1 L fa cdv)) Q E s := by
  revert X
  k_fill
  intro X
  unfold A1 E1 B1
  conv in (stAt _ _) => whnf
  conv in (occs := *) (lawS _) => all_goals whnf
  rw [← kst_self hm] at F
  k_steps
  · exfalso; omega
  · rename Fr _ _ _ _ => F9
    rename News _ _ _ _ => N9
    rw [kst_self hm] at F9
    exact done _ _ F9 (fun p hp => N9 p (by walk_at "my in"))
theorem range_has {prog : Program} {w : World} {A : Around} {h₀ : Heap} {L : Addr} {m : Str → Option Value} {env : Env} {ct elt : Expr} {x : Str} {scope : Scope} {cl : List (Str × Addr)} {s : Shared} {S : List (Addr × Obj) → Prop} {Fin : List Value → List (Addr × Obj) → Prop} {news : List (Addr × Obj)} {c : Prs} {kvs : List (Int × Value)} {k0 : Int} {n : Nat} (_hf : PyProof.V.FlatPairs PyData.int kvs (kdfD c)) (hS : S news)
    (turn : ∀ (k : Int) (t : Tok) I oI C oC D m₂ ys h tk (E' : Value → Shared → Prop), k0 ≤ k → k < k0 + (n : Int) → LCg.NsObj oC m₂ → m₂ x = some (.int k t) → Fr h₀ L h m → News h₀ L h ((I, oI) :: (C, oC) :: (D, LCg.lst ys) :: news) → LCg.Off3 I C D news → ((@Ne Nat I C) ∧ (@Ne Nat I D) ∧ (@Ne Nat C D)) →
      wpAny (model prog w) A (isTrue ct (compEnvC scope cl C env) (eval ct (compEnvC scope cl C env))) (fun ok s' => ok = kdfHas c k ∧ (ok = true →
        wpAny (model prog w) A (eval elt (compEnvC scope cl C env)) (fun y s'' => (∃ t', y = .int k t') ∧ CEnd h₀ L m { s with heap := h, toks := tk } I oI C oC D ys news s'') E' s') ∧
        CEnd h₀ L m { s with heap := h, toks := tk } I oI C oC D ys news s') E' { s with heap := h, toks := tk })
    (fin : ∀ ys, IntsAre ys ((rangeKs k0 n).filter (kdfHas c)) → Fin ys news) : LCt.CompRestT prog w A h₀ L m env ct elt x scope cl s S (fun i v => ∃ t, v = .int (k0 + (i : Int)) t) Fin n 0 [] news :=
  range_filter _ hS turn fin
local macro_rules | `(tactic| walk_at "eval ListComp") => `(tactic| (k_here; (with_reducible show wpAny _ _ (eval (Expr.ListComp _ [⟨_, _, [_], _⟩] _ _) _) _ _ _); k_dflt (refine LCt.ListComp_T (F₀ := by k_asm) (by with_unfolding_all rfl) (by decide) (by rfl) (by decide) (by rfl) ?_)))
local macro_rules | `(tactic| walk_at "CompSrcT") => `(tactic| (k_here; k_dflt (refine LCt.CompSrcT.range (n := 5) (by rfl) (by k_asm) (by k_asm) (by assumption) (by decide) (by rfl) (by exact Nat.le_of_ble_eq_true rfl) ?_); intro g'; refine' range_has ?hf trivial (fun k' t' I' oI' C' oC' D' m' ys' h' tk' E' hk1' hk2' hC' hx' F' N' off' ne' => ?_) (fun ys' hy' D' h' tk' F' N' o1' => ?_); (case hf => k_asm)))
set_option maxRecDepth 100000 in
set_option maxHeartbeats 8000000 in
theorem st6 (B : Below callerA h₀ [] h₀) (X : (hd.heap_39 w.params).In h₀) (T : Top p loose mean mg mb h₀)
  (hm : ∀ p ∈ [(Str.ofString "rows", Value.ref R)], m p.1 = some p.2) (F : Fr h₀ L s.heap m)
  (N : News h₀ L s.heap ((L + 1, ocm) :: (x, instObj 112 d) :: (d, inD w ta tb cap dc) :: (dc, od) :: (R, listOf vs.toArray n) :: tail)) (hcm : ocm.data = .cell (some (.ref x))) (hR : RowsIn tail vs c) (hlen : c.length ≤ 60) (hn : (c.map (·.1)).Nodup) (hr : ∀ k ∈ c.map (·.1), 0 ≤ k ∧ k < ((5 : Nat) : Int))
  (lo : (dc == sysModules) = false) (hd : od.IsDictOf (intKind Challenge.rw_fk5013_01.row.prog w) kvs) (hf : PyProof.V.FlatPairs PyData.int kvs (kdfD c))
  (done : ∀ h' tk, Fr h₀ L h' m → News h₀ L h' ((L + 1, ocm) :: (x, instObj 112 d) :: (d, inD w ta tb cap dc) :: (dc, od) :: (R, listOf vs.toArray n) :: tail) → Q .next { s with heap := h', toks := tk }) :
  wpAny (model Challenge.rw_fk5013_01.row.prog w) (A1 L fa cdv) (exec (B1 6) (E1 L fa cdv)) Q E s := by
  revert X
  k_fill
  intro X
  unfold A1 E1 B1
  conv in (stAt _ _) => whnf
  conv in (occs := *) (lawS _) => all_goals whnf
  rw [← kst_self hm] at F
  k_steps
  · exfalso; omega
  · rename Fr _ _ _ _ => F9
    rename News _ _ _ _ => N9
    rw [kst_self hm] at F9
    exact done _ _ F9 (fun p hp => N9 p (by walk_at "my in"))
  · rename List.Perm _ _ => p9
    rename List.Pairwise _ _ => o9
    exact absurd (sorted_eq hn hr p9 o9) (by assumption)
end
end Mine
end
theorem Mine.offV40 : True := by
  w_top off
  exact trivial
section
local macro_rules | `(tactic| walk_at "my pad") => `(tactic| fail)
local macro_rules | `(tactic| walk_at "my pad") => `(tactic| fail)
local macro_rules | `(tactic| walk_at "my pad") => `(tactic| fail)
local macro_rules | `(tactic| walk_at "my pad") => `(tactic| fail)
local macro_rules | `(tactic| walk_at "my pad") => `(tactic| fail)
local macro_rules | `(tactic| walk_at "my pad") => `(tactic| fail)
local macro_rules | `(tactic| walk_at "my pad") => `(tactic| fail)
local macro_rules | `(tactic| walk_at "my pad") => `(tactic| fail)
local macro_rules | `(tactic| walk_at "my pad") => `(tactic| fail)
local macro_rules | `(tactic| walk_at "my pad") => `(tactic| fail)
local macro_rules | `(tactic| walk_at "my pad") => `(tactic| fail)
local macro_rules | `(tactic| walk_at "my pad") => `(tactic| fail)
local macro_rules | `(tactic| walk_at "my pad") => `(tactic| fail)
local macro_rules | `(tactic| walk_at "my pad") => `(tactic| fail)
local macro_rules | `(tactic| walk_at "my pad") => `(tactic| fail)
local macro_rules | `(tactic| walk_at "my pad") => `(tactic| fail)
local macro_rules | `(tactic| walk_at "my pad") => `(tactic| fail)
local macro_rules | `(tactic| walk_at "my pad") => `(tactic| fail)
local macro_rules | `(tactic| walk_at "my pad") => `(tactic| fail)
local macro_rules | `(tactic| walk_at "my pad") => `(tactic| fail)
local macro_rules | `(tactic| walk_at "my pad") => `(tactic| fail)
open PySem PySem.W PyProof.Rows
namespace Mine
local macro_rules | `(tactic| walk_at "my dp") => `(tactic| first | decide | ((try simp only [depth_under_make, depth_under_kw, depth_in1, depth_deeper, depth_caller]); decide))
local macro_rules | `(tactic| walk_at "call ref") => `(tactic| (k_here; (with_reducible show wpAny _ _ (call (Value.ref 109) _) _ _ _); k_dflt (refine' set_at ?B ?dp ?X ?T ?F ?N ?x ?dd ?U ?xd ?xc ?dc ?lo ?hd ?hf ?hc ?hn ?cap (fun h' o' kvs' tk' F' N' hd' hf' => ?_); (case B => k_asm); (case dp => walk_at "my dp"); (case X => k_in); (case T => k_asm); (case F => k_asm); (case N => k_asm); (case x => k_mem); (case dd => k_mem); (case U => k_updF); (case xd => k_ne); (case xc => k_ne); (case dc => k_ne); (case lo => k_asm); (case hd => k_asm); (case hf => k_asm); (case hc => omega); (case hn => assumption); (case cap => assumption)); (try dsimp only at N')))
local macro_rules | `(tactic| walk_at "my len") => `(tactic| ((try simp only [List.length_append, List.length_cons, List.length_nil]); omega))
local macro_rules | `(tactic| walk_at "binaryOp Add ref ref") => `(tactic| (k_here; k_dflt (refine' my_add ?F ?N ?a ?b ?z ?z2 ?_; (case F => k_asm); (case N => k_asm); (case a => k_mem); (case b => k_mem); (case z => walk_at "my len"); (case z2 => walk_at "my len")); intro D' h' F' N' l1; (try k_lt l1)))
local macro_rules | `(tactic| walk_at "subscriptTail Name Slice ref ref") => `(tactic| (k_here; k_dflt (refine' my_slice_neg ?x ?F ?N ?l ?z ?_ ?s ?t; (case F => k_asm); (case N => k_asm); (case l => k_mem); (case x => omega); (case z => walk_at "my len"); (case s => with_unfolding_all rfl); (case t => kmk_pure)); intro D' h' F' N' l1; (try k_lt l1)))
local macro_rules | `(tactic| walk_at "my in") => `(tactic| first | assumption | exact List.mem_cons_self | (refine List.mem_cons_of_mem _ ?_; walk_at "my in"))
local macro_rules | `(tactic| walk_at "my incl") => `(tactic| first | exact List.forall_mem_nil _ | (refine List.forall_mem_cons.mpr ⟨?_, ?_⟩; (focus walk_at "my in"); walk_at "my incl") | (intro p9 hp9; walk_at "my in"))
local macro_rules | `(tactic| walk_at "my split") => `(tactic| repeat (rename _ ∧ _ => hA9; obtain ⟨hA1, hA2⟩ := hA9))
local macro_rules | `(tactic| walk_at "my off") => `(tactic| exact fun p hp => Nat.ne_of_lt (allLt_all (by assumption) p hp))
local macro_rules | `(tactic| walk_at "my newx") => `(tactic| exact ⟨by (refine neN ?_; omega), by (refine neN ?_; omega), by walk_at "my off", by first | (refine neN ?_; omega) | omega⟩)
local macro_rules | `(tactic| walk_at "my new") => `(tactic| exact ⟨by (refine neN ?_; omega), by (refine neN ?_; omega), by walk_at "my off"⟩)
section
variable {w : World} {h₀ : Heap} {L fa : Addr} {cdv : Value} {p : Program} {loose : List Str} {mean : ExcName → Option Value} {mg mb : Str → Option Value} {l ck cm x d dc R H G : Addr} {vs0 vs hs gs : List Value} {ns : List Int} {room num k : Int} {tr ta tb tn tw tk : Tok} {cap : Value} {ock ocm od : Obj} {kvs : List (Int × Value)} {c : Prs} {n : Nat}
  {tail : List (Addr × Obj)} {m : Str → Option Value} {s : Shared} {E : Value → Shared → Prop} {Q : Flow → Shared → Prop}
set_option maxRecDepth 100000 in
set_option maxHeartbeats 8000000 in
theorem st40a (B : Below callerA h₀ [] h₀) (X : (hd.heap_39 w.params).In h₀) (T : Top p loose mean mg mb h₀)
  (hm : ∀ p ∈ [(Str.ofString "room", Value.int room tr), (Str.ofString "rows", Value.ref R), (Str.ofString "number", Value.int num tn), (Str.ofString "way", Value.int 0 tw), (Str.ofString "here", Value.ref H), (Str.ofString "rest", Value.ref G)], m p.1 = some p.2) (F : Fr h₀ L s.heap m)
  (N : News h₀ L s.heap ((L + 1 + 1, ock) :: (L + 1, ocm) :: (x, instObj 112 d) :: (d, inD w ta tb cap dc) :: (dc, od) :: (R, listOf vs.toArray n) :: (H, LCg.lst hs) :: (G, LCg.lst gs) :: tail))
  (hck : ock.data = .cell (some (.int k tk))) (hcm : ocm.data = .cell (some (.ref x))) {tl0 : List (Addr × Obj)} (hsub : ∀ p ∈ tl0, p ∈ tail) (hR : RowsIn tl0 vs c) (hH : RowsIn tl0 hs (c.filter fun p => decide (p.1 = k))) (hG : RowsIn tl0 gs (kdyDel c k))
  (lo : (dc == sysModules) = false) (hd : od.IsDictOf (intKind Challenge.rw_fk5013_01.row.prog w) kvs) (hf : PyProof.V.FlatPairs PyData.int kvs (kdfD c)) (hlen : c.length ≤ 60) (hn : (c.map (·.1)).Nodup) (hr : ∀ k ∈ c.map (·.1), 0 ≤ k ∧ k < ((5 : Nat) : Int)) (hk1 : 0 ≤ k) (hk2 : k < ((5 : Nat) : Int))
  (hcap : room = 4 ∧ cap = .none)
  (hoff : OwnOff tail [dc]) (e1 : L + 1 + 1 ≠ dc) (e2 : L + 1 ≠ dc) (e3 : x ≠ dc) (e4 : d ≠ dc) (e5 : R ≠ dc) (e6 : H ≠ dc) (e7 : G ≠ dc) (e8 : x ≠ d) (e9 : R ≠ L + 1 + 1) (e10 : ∀ p ∈ tail, p.1 ≠ R) (e11 : G ≠ L + 1 + 1) (e12 : ∀ p ∈ tail, p.1 ≠ G)
  (done : ∀ h' tk' m' od' kvs' c' R' vs' n' extra, Fr h₀ L h' m' → m' "rows" = some (.ref R') → (∀ y : Str, y ≠ "rows" → y ≠ "told" → m' y = m y) →
    News h₀ L h' ((L + 1 + 1, ock) :: (L + 1, ocm) :: (x, instObj 112 d) :: (d, inD w ta tb cap dc) :: (dc, od') :: (R', listOf vs'.toArray n') :: (extra ++ tail)) →
    od'.IsDictOf (intKind Challenge.rw_fk5013_01.row.prog w) kvs' → PyProof.V.FlatPairs PyData.int kvs' (kdfD c') → RowsIn (extra ++ tl0) vs' c' → (c'.map (·.1)).Nodup → (∀ k ∈ c'.map (·.1), 0 ≤ k ∧ k < ((5 : Nat) : Int)) → (c'.length ≤ c.length + 1 ∧ (room < 4 → (c'.length : Int) ≤ room)) →
    (R' ≠ dc ∧ R' ≠ L + 1 + 1 ∧ ∀ p ∈ tail, p.1 ≠ R') → (∀ q ∈ extra, q.1 ≠ dc ∧ q.1 ≠ L + 1 + 1 ∧ (∀ p ∈ tail, p.1 ≠ q.1) ∧ q.1 ≠ R') → Q .next { s with heap := h', toks := tk' }) :
  wpAny (model Challenge.rw_fk5013_01.row.prog w) (A1 L fa cdv) (exec (B1 4) (E1 L fa cdv)) Q E s := by
  revert X
  k_fill
  intro X
  unfold A1 E1 B1
  conv in (stAt _ _) => whnf
  conv in (occs := *) (lawS _) => all_goals whnf
  rw [← kst_self hm] at F
  have g1 := hG.length
  have g2 := hR.length
  have g3 := hH.length
  have g4 := kdyDel_len c k
  have hcap' : ((none : Option Int) = none ∧ cap = Value.none) ∨ ∃ t n, (none : Option Int) = some n ∧ cap = .int n t ∧ (c.length : Int) ≤ n := .inl ⟨rfl, hcap.2⟩
  k_steps
  all_goals
    rename Fr _ _ _ _ => F9
    rename News _ _ _ _ => N9
    rw [kst_self hm] at F9
    walk_at "my split"
    refine' done _ _ _ _ _ (putL c k num) _ _ 0 [(_, tupO k _ num tn 0)] F9 rfl (fun y h1 h2 => by simp [h1]) (fun p hp => N9 p ?inn) (by assumption) (by assumption) ?rows (putL_nodup hn _ _) (putL_range hr ⟨hk1, hk2⟩) ⟨setC_len none c k num, fun h => by omega⟩ ?nw ?ex
    case inn =>
      revert p
      simp only [List.cons_append, List.nil_append]
      walk_at "my incl"
    case rows => exact RowsIn.append (hG.mono fun p hp => List.mem_append.mpr (.inr hp)) (.cons List.mem_cons_self .nil)
    case nw => walk_at "my new"
    case ex => exact List.forall_mem_cons.mpr ⟨by walk_at "my newx", List.forall_mem_nil _⟩
end
end Mine
end
theorem Mine.offV40b : True := by
  w_top off
  exact trivial
section
local macro_rules | `(tactic| walk_at "my pad") => `(tactic| fail)
local macro_rules | `(tactic| walk_at "my pad") => `(tactic| fail)
local macro_rules | `(tactic| walk_at "my pad") => `(tactic| fail)
local macro_rules | `(tactic| walk_at "my pad") => `(tactic| fail)
local macro_rules | `(tactic| walk_at "my pad") => `(tactic| fail)
local macro_rules | `(tactic| walk_at "my pad") => `(tactic| fail)
local macro_rules | `(tactic| walk_at "my pad") => `(tactic| fail)
local macro_rules | `(tactic| walk_at "my pad") => `(tactic| fail)
local macro_rules | `(tactic| walk_at "my pad") => `(tactic| fail)
local macro_rules | `(tactic| walk_at "my pad") => `(tactic| fail)
local macro_rules | `(tactic| walk_at "my pad") => `(tactic| fail)
local macro_rules | `(tactic| walk_at "my pad") => `(tactic| fail)
local macro_rules | `(tactic| walk_at "my pad") => `(tactic| fail)
local macro_rules | `(tactic| walk_at "my pad") => `(tactic| fail)
local macro_rules | `(tactic| walk_at "my pad") => `(tactic| fail)
local macro_rules | `(tactic| walk_at "my pad") => `(tactic| fail)
local macro_rules | `(tactic| walk_at "my pad") => `(tactic| fail)
local macro_rules | `(tactic| walk_at "my pad") => `(tactic| fail)
local macro_rules | `(tactic| walk_at "my pad") => `(tactic| fail)
local macro_rules | `(tactic| walk_at "my pad") => `(tactic| fail)
local macro_rules | `(tactic| walk_at "my pad") => `(tactic| fail)
local macro_rules | `(tactic| walk_at "my pad") => `(tactic| fail)
local macro_rules | `(tactic| walk_at "my pad") => `(tactic| fail)
local macro_rules | `(tactic| walk_at "my pad") => `(tactic| fail)
local macro_rules | `(tactic| walk_at "my pad") => `(tactic| fail)
local macro_rules | `(tactic| walk_at "my pad") => `(tactic| fail)
local macro_rules | `(tactic| walk_at "my pad") => `(tactic| fail)
local macro_rules | `(tactic| walk_at "my pad") => `(tactic| fail)
local macro_rules | `(tactic| walk_at "my pad") => `(tactic| fail)
local macro_rules | `(tactic| walk_at "my pad") => `(tactic| fail)
local macro_rules | `(tactic| walk_at "my pad") => `(tactic| fail)
local macro_rules | `(tactic| walk_at "my pad") => `(tactic| fail)
local macro_rules | `(tactic| walk_at "my pad") => `(tactic| fail)
open PySem PySem.W PyProof.Rows
namespace Mine
local macro_rules | `(tactic| walk_at "my dp") => `(tactic| first | decide | ((try simp only [depth_under_make, depth_under_kw, depth_in1, depth_deeper, depth_caller]); decide))
local macro_rules | `(tactic| walk_at "call ref") => `(tactic| (k_here; (with_reducible show wpAny _ _ (call (Value.ref 109) _) _ _ _); k_dflt (refine' set_at ?B ?dp ?X ?T ?F ?N ?x ?dd ?U ?xd ?xc ?dc ?lo ?hd ?hf ?hc ?hn ?cap (fun h' o' kvs' tk' F' N' hd' hf' => ?_); (case B => k_asm); (case dp => walk_at "my dp"); (case X => k_in); (case T => k_asm); (case F => k_asm); (case N => k_asm); (case x => k_mem); (case dd => k_mem); (case U => k_updF); (case xd => k_ne); (case xc => k_ne); (case dc => k_ne); (case lo => k_asm); (case hd => k_asm); (case hf => k_asm); (case hc => omega); (case hn => assumption); (case cap => assumption)); (try dsimp only at N')))
local macro_rules | `(tactic| walk_at "my len") => `(tactic| ((try simp only [List.length_append, List.length_cons, List.length_nil]); omega))
local macro_rules | `(tactic| walk_at "binaryOp Add ref ref") => `(tactic| (k_here; k_dflt (refine' my_add ?F ?N ?a ?b ?z ?z2 ?_; (case F => k_asm); (case N => k_asm); (case a => k_mem); (case b => k_mem); (case z => walk_at "my len"); (case z2 => walk_at "my len")); intro D' h' F' N' l1; (try k_lt l1)))
local macro_rules | `(tactic| walk_at "subscriptTail Name Slice ref ref") => `(tactic| (k_here; k_dflt (refine' my_slice_neg ?x ?F ?N ?l ?z ?_ ?s ?t; (case F => k_asm); (case N => k_asm); (case l => k_mem); (case x => omega); (case z => walk_at "my len"); (case s => with_unfolding_all rfl); (case t => kmk_pure)); intro D' h' F' N' l1; (try k_lt l1)))
local macro_rules | `(tactic| walk_at "my in") => `(tactic| first | assumption | exact List.mem_cons_self | (refine List.mem_cons_of_mem _ ?_; walk_at "my in"))
local macro_rules | `(tactic| walk_at "my incl") => `(tactic| first | exact List.forall_mem_nil _ | (refine List.forall_mem_cons.mpr ⟨?_, ?_⟩; (focus walk_at "my in"); walk_at "my incl") | (intro p9 hp9; walk_at "my in"))
local macro_rules | `(tactic| walk_at "my split") => `(tactic| repeat (rename _ ∧ _ => hA9; obtain ⟨hA1, hA2⟩ := hA9))
local macro_rules | `(tactic| walk_at "my off") => `(tactic| exact fun p hp => Nat.ne_of_lt (allLt_all (by assumption) p hp))
local macro_rules | `(tactic| walk_at "my newx") => `(tactic| exact ⟨by (refine neN ?_; omega), by (refine neN ?_; omega), by walk_at "my off", by first | (refine neN ?_; omega) | omega⟩)
local macro_rules | `(tactic| walk_at "my new") => `(tactic| exact ⟨by (refine neN ?_; omega), by (refine neN ?_; omega), by walk_at "my off"⟩)
section
variable {w : World} {h₀ : Heap} {L fa : Addr} {cdv : Value} {p : Program} {loose : List Str} {mean : ExcName → Option Value} {mg mb : Str → Option Value} {l ck cm x d dc R H G : Addr} {vs0 vs hs gs : List Value} {ns : List Int} {room num k : Int} {tr ta tb tn tw tk : Tok} {cap : Value} {ock ocm od : Obj} {kvs : List (Int × Value)} {c : Prs} {n : Nat}
  {tail : List (Addr × Obj)} {m : Str → Option Value} {s : Shared} {E : Value → Shared → Prop} {Q : Flow → Shared → Prop}
set_option maxRecDepth 100000 in
set_option maxHeartbeats 8000000 in
theorem st40b (B : Below callerA h₀ [] h₀) (X : (hd.heap_39 w.params).In h₀) (T : Top p loose mean mg mb h₀)
  (hm : ∀ p ∈ [(Str.ofString "room", Value.int room tr), (Str.ofString "rows", Value.ref R), (Str.ofString "number", Value.int num tn), (Str.ofString "way", Value.int 0 tw), (Str.ofString "here", Value.ref H), (Str.ofString "rest", Value.ref G)], m p.1 = some p.2) (F : Fr h₀ L s.heap m)
  (N : News h₀ L s.heap ((L + 1 + 1, ock) :: (L + 1, ocm) :: (x, instObj 112 d) :: (d, inD w ta tb cap dc) :: (dc, od) :: (R, listOf vs.toArray n) :: (H, LCg.lst hs) :: (G, LCg.lst gs) :: tail))
  (hck : ock.data = .cell (some (.int k tk))) (hcm : ocm.data = .cell (some (.ref x))) {tl0 : List (Addr × Obj)} (hsub : ∀ p ∈ tl0, p ∈ tail) (hR : RowsIn tl0 vs c) (hH : RowsIn tl0 hs (c.filter fun p => decide (p.1 = k))) (hG : RowsIn tl0 gs (kdyDel c k))
  (lo : (dc == sysModules) = false) (hd : od.IsDictOf (intKind Challenge.rw_fk5013_01.row.prog w) kvs) (hf : PyProof.V.FlatPairs PyData.int kvs (kdfD c)) (hlen : c.length ≤ 60) (hn : (c.map (·.1)).Nodup) (hr : ∀ k ∈ c.map (·.1), 0 ≤ k ∧ k < ((5 : Nat) : Int)) (hk1 : 0 ≤ k) (hk2 : k < ((5 : Nat) : Int))
  (hcap : ∃ tr2, 1 ≤ room ∧ room < 4 ∧ cap = .int room tr2 ∧ (c.length : Int) ≤ room)
  (hoff : OwnOff tail [dc]) (e1 : L + 1 + 1 ≠ dc) (e2 : L + 1 ≠ dc) (e3 : x ≠ dc) (e4 : d ≠ dc) (e5 : R ≠ dc) (e6 : H ≠ dc) (e7 : G ≠ dc) (e8 : x ≠ d) (e9 : R ≠ L + 1 + 1) (e10 : ∀ p ∈ tail, p.1 ≠ R) (e11 : G ≠ L + 1 + 1) (e12 : ∀ p ∈ tail, p.1 ≠ G)
  (done : ∀ h' tk' m' od' kvs' c' R' vs' n' extra, Fr h₀ L h' m' → m' "rows" = some (.ref R') → (∀ y : Str, y ≠ "rows" → y ≠ "told" → m' y = m y) →
    News h₀ L h' ((L + 1 + 1, ock) :: (L + 1, ocm) :: (x, instObj 112 d) :: (d, inD w ta tb cap dc) :: (dc, od') :: (R', listOf vs'.toArray n') :: (extra ++ tail)) →
    od'.IsDictOf (intKind Challenge.rw_fk5013_01.row.prog w) kvs' → PyProof.V.FlatPairs PyData.int kvs' (kdfD c') → RowsIn (extra ++ tl0) vs' c' → (c'.map (·.1)).Nodup → (∀ k ∈ c'.map (·.1), 0 ≤ k ∧ k < ((5 : Nat) : Int)) → (c'.length ≤ c.length + 1 ∧ (room < 4 → (c'.length : Int) ≤ room)) →
    (R' ≠ dc ∧ R' ≠ L + 1 + 1 ∧ ∀ p ∈ tail, p.1 ≠ R') → (∀ q ∈ extra, q.1 ≠ dc ∧ q.1 ≠ L + 1 + 1 ∧ (∀ p ∈ tail, p.1 ≠ q.1) ∧ q.1 ≠ R') → Q .next { s with heap := h', toks := tk' }) :
  wpAny (model Challenge.rw_fk5013_01.row.prog w) (A1 L fa cdv) (exec (B1 4) (E1 L fa cdv)) Q E s := by
  revert X
  k_fill
  intro X
  unfold A1 E1 B1
  conv in (stAt _ _) => whnf
  conv in (occs := *) (lawS _) => all_goals whnf
  rw [← kst_self hm] at F
  have g1 := hG.length
  have g2 := hR.length
  have g3 := hH.length
  have g4 := kdyDel_len c k
  obtain ⟨tr2, r1, r2, r3, r4⟩ := hcap
  have hcap' : ((some room : Option Int) = none ∧ cap = Value.none) ∨ ∃ t n, (some room : Option Int) = some n ∧ cap = .int n t ∧ (c.length : Int) ≤ n := .inr ⟨tr2, room, rfl, r3, r4⟩
  k_steps
  all_goals
    rename Fr _ _ _ _ => F9
    rename News _ _ _ _ => N9
    rw [kst_self hm] at F9
    walk_at "my split"
    refine' done _ _ _ _ _ (setC (some room) c k num) _ _ 0 [(_, tupO k _ num tn 0)] F9 rfl (fun y h1 h2 => by simp [h1]) (fun p hp => N9 p ?inn) (by assumption) (by assumption) ?rows (setC_nodup hn _ _) (setC_range hr ⟨hk1, hk2⟩) ⟨setC_len _ c k num, fun h => setC_room (by assumption)⟩ ?nw ?ex
    case inn =>
      revert p
      simp only [List.cons_append, List.nil_append]
      walk_at "my incl"
    case rows =>
      rw [setC_drop (by assumption) (by omega)]
      have hh : ∀ v : Value, (gs ++ [v]).length = (putL c k num).length := fun v => by rw [putL_len, List.length_append, g1]; rfl
      rw [hh]
      exact RowsIn.drop (RowsIn.append (hG.mono fun p hp => List.mem_append.mpr (.inr hp)) (.cons List.mem_cons_self .nil)) _
    case nw => walk_at "my new"
    case ex => exact List.forall_mem_cons.mpr ⟨by walk_at "my newx", List.forall_mem_nil _⟩
end
end Mine
end
theorem Mine.offV41 : True := by
  w_top off
  exact trivial
section
local macro_rules | `(tactic| walk_at "my pad") => `(tactic| fail)
local macro_rules | `(tactic| walk_at "my pad") => `(tactic| fail)
local macro_rules | `(tactic| walk_at "my pad") => `(tactic| fail)
local macro_rules | `(tactic| walk_at "my pad") => `(tactic| fail)
local macro_rules | `(tactic| walk_at "my pad") => `(tactic| fail)
local macro_rules | `(tactic| walk_at "my pad") => `(tactic| fail)
local macro_rules | `(tactic| walk_at "my pad") => `(tactic| fail)
local macro_rules | `(tactic| walk_at "my pad") => `(tactic| fail)
local macro_rules | `(tactic| walk_at "my pad") => `(tactic| fail)
local macro_rules | `(tactic| walk_at "my pad") => `(tactic| fail)
local macro_rules | `(tactic| walk_at "my pad") => `(tactic| fail)
local macro_rules | `(tactic| walk_at "my pad") => `(tactic| fail)
local macro_rules | `(tactic| walk_at "my pad") => `(tactic| fail)
local macro_rules | `(tactic| walk_at "my pad") => `(tactic| fail)
local macro_rules | `(tactic| walk_at "my pad") => `(tactic| fail)
local macro_rules | `(tactic| walk_at "my pad") => `(tactic| fail)
local macro_rules | `(tactic| walk_at "my pad") => `(tactic| fail)
local macro_rules | `(tactic| walk_at "my pad") => `(tactic| fail)
local macro_rules | `(tactic| walk_at "my pad") => `(tactic| fail)
local macro_rules | `(tactic| walk_at "my pad") => `(tactic| fail)
local macro_rules | `(tactic| walk_at "my pad") => `(tactic| fail)
local macro_rules | `(tactic| walk_at "my pad") => `(tactic| fail)
local macro_rules | `(tactic| walk_at "my pad") => `(tactic| fail)
local macro_rules | `(tactic| walk_at "my pad") => `(tactic| fail)
local macro_rules | `(tactic| walk_at "my pad") => `(tactic| fail)
local macro_rules | `(tactic| walk_at "my pad") => `(tactic| fail)
local macro_rules | `(tactic| walk_at "my pad") => `(tactic| fail)
local macro_rules | `(tactic| walk_at "my pad") => `(tactic| fail)
local macro_rules | `(tactic| walk_at "my pad") => `(tactic| fail)
local macro_rules | `(tactic| walk_at "my pad") => `(tactic| fail)
local macro_rules | `(tactic| walk_at "my pad") => `(tactic| fail)
local macro_rules | `(tactic| walk_at "my pad") => `(tactic| fail)
local macro_rules | `(tactic| walk_at "my pad") => `(tactic| fail)
local macro_rules | `(tactic| walk_at "my pad") => `(tactic| fail)
local macro_rules | `(tactic| walk_at "my pad") => `(tactic| fail)
local macro_rules | `(tactic| walk_at "my pad") => `(tactic| fail)
local macro_rules | `(tactic| walk_at "my pad") => `(tactic| fail)
local macro_rules | `(tactic| walk_at "my pad") => `(tactic| fail)
local macro_rules | `(tactic| walk_at "my pad") => `(tactic| fail)
local macro_rules | `(tactic| walk_at "my pad") => `(tactic| fail)
local macro_rules | `(tactic| walk_at "my pad") => `(tactic| fail)
local macro_rules | `(tactic| walk_at "my pad") => `(tactic| fail)
local macro_rules | `(tactic| walk_at "my pad") => `(tactic| fail)
local macro_rules | `(tactic| walk_at "my pad") => `(tactic| fail)
local macro_rules | `(tactic| walk_at "my pad") => `(tactic| fail)
open PySem PySem.W PyProof.Rows
namespace Mine
local macro_rules | `(tactic| walk_at "my dp") => `(tactic| first | decide | ((try simp only [depth_under_make, depth_under_kw, depth_in1, depth_deeper, depth_caller]); decide))
local macro_rules | `(tactic| walk_at "call ref") => `(tactic| (k_here; (with_reducible show wpAny _ _ (call (Value.ref 109) _) _ _ _); k_dflt (refine' set_at ?B ?dp ?X ?T ?F ?N ?x ?dd ?U ?xd ?xc ?dc ?lo ?hd ?hf ?hc ?hn ?cap (fun h' o' kvs' tk' F' N' hd' hf' => ?_); (case B => k_asm); (case dp => walk_at "my dp"); (case X => k_in); (case T => k_asm); (case F => k_asm); (case N => k_asm); (case x => k_mem); (case dd => k_mem); (case U => k_updF); (case xd => k_ne); (case xc => k_ne); (case dc => k_ne); (case lo => k_asm); (case hd => k_asm); (case hf => k_asm); (case hc => omega); (case hn => assumption); (case cap => assumption)); (try dsimp only at N')))
local macro_rules | `(tactic| walk_at "my len") => `(tactic| ((try simp only [List.length_append, List.length_cons, List.length_nil]); omega))
local macro_rules | `(tactic| walk_at "binaryOp Add ref ref") => `(tactic| (k_here; k_dflt (refine' my_add ?F ?N ?a ?b ?z ?z2 ?_; (case F => k_asm); (case N => k_asm); (case a => k_mem); (case b => k_mem); (case z => walk_at "my len"); (case z2 => walk_at "my len")); intro D' h' F' N' l1; (try k_lt l1)))
local macro_rules | `(tactic| walk_at "subscriptTail Name Slice ref ref") => `(tactic| (k_here; k_dflt (refine' my_slice_neg ?x ?F ?N ?l ?z ?_ ?s ?t; (case F => k_asm); (case N => k_asm); (case l => k_mem); (case x => omega); (case z => walk_at "my len"); (case s => with_unfolding_all rfl); (case t => kmk_pure)); intro D' h' F' N' l1; (try k_lt l1)))
local macro_rules | `(tactic| walk_at "my in") => `(tactic| first | assumption | exact List.mem_cons_self | (refine List.mem_cons_of_mem _ ?_; walk_at "my in"))
local macro_rules | `(tactic| walk_at "my incl") => `(tactic| first | exact List.forall_mem_nil _ | (refine List.forall_mem_cons.mpr ⟨?_, ?_⟩; (focus walk_at "my in"); walk_at "my incl") | (intro p9 hp9; walk_at "my in"))
local macro_rules | `(tactic| walk_at "my split") => `(tactic| repeat (rename _ ∧ _ => hA9; obtain ⟨hA1, hA2⟩ := hA9))
local macro_rules | `(tactic| walk_at "my off") => `(tactic| exact fun p hp => Nat.ne_of_lt (allLt_all (by assumption) p hp))
local macro_rules | `(tactic| walk_at "my newx") => `(tactic| exact ⟨by (refine neN ?_; omega), by (refine neN ?_; omega), by walk_at "my off", by first | (refine neN ?_; omega) | omega⟩)
local macro_rules | `(tactic| walk_at "my new") => `(tactic| exact ⟨by (refine neN ?_; omega), by (refine neN ?_; omega), by walk_at "my off"⟩)
local macro_rules | `(tactic| k_mem) => `(tactic| walk_at "my in")
local macro_rules | `(tactic| walk_at "my more") => `(tactic| first | exact .inr rfl | exact .inl ⟨rfl, rfl⟩)
local macro_rules | `(tactic| walk_at "call ref") => `(tactic| (k_here; (with_reducible show wpAny _ _ (call (Value.ref 102) _) _ _ _); k_dflt (first
  | (refine' get_yes ?mo ?B ?dp ?X ?T ?F ?N ?x ?dd ?U ?xd ?xc ?dc ?lo ?hd ?hf ?hc ?hk (fun h' o' kvs' tk' t' F' N' hd' hf' => ?_); (case mo => walk_at "my more"); (case B => k_asm); (case dp => walk_at "my dp"); (case X => k_in); (case T => k_asm); (case F => k_asm); (case N => k_asm); (case x => k_mem); (case dd => k_mem); (case U => k_updF); (case xd => k_ne); (case xc => k_ne); (case dc => k_ne); (case lo => k_asm); (case hd => k_asm); (case hf => k_asm); (case hc => omega); (case hk => assumption))
  | (refine' get_no ?mo ?B ?dp ?X ?T ?F ?N ?x ?dd ?U ?xd ?xc ?dc ?lo ?hd ?hf ?hc ?hk (fun h' tk' F' N' => ?_); (case mo => walk_at "my more"); (case B => k_asm); (case dp => walk_at "my dp"); (case X => k_in); (case T => k_asm); (case F => k_asm); (case N => k_asm); (case x => k_mem); (case dd => k_mem); (case U => k_updF); (case xd => k_ne); (case xc => k_ne); (case dc => k_ne); (case lo => k_asm); (case hd => k_asm); (case hf => k_asm); (case hc => omega); (case hk => assumption))); (try dsimp only at N')))
section
variable {w : World} {h₀ : Heap} {L fa : Addr} {cdv : Value} {p : Program} {loose : List Str} {mean : ExcName → Option Value} {mg mb : Str → Option Value} {l ck cm x d dc R H G : Addr} {vs0 vs hs gs : List Value} {ns : List Int} {room num k : Int} {tr ta tb tn tw tk : Tok} {cap : Value} {ock ocm od : Obj} {kvs : List (Int × Value)} {c : Prs} {n : Nat}
  {tail : List (Addr × Obj)} {m : Str → Option Value} {s : Shared} {E : Value → Shared → Prop} {Q : Flow → Shared → Prop}
set_option maxRecDepth 100000 in
set_option maxHeartbeats 8000000 in
theorem st41 (B : Below callerA h₀ [] h₀) (X : (hd.heap_39 w.params).In h₀) (T : Top p loose mean mg mb h₀)
  (hm : ∀ p ∈ [(Str.ofString "room", Value.int room tr), (Str.ofString "rows", Value.ref R), (Str.ofString "number", Value.int num tn), (Str.ofString "way", Value.int 1 tw), (Str.ofString "here", Value.ref H), (Str.ofString "rest", Value.ref G)], m p.1 = some p.2) (F : Fr h₀ L s.heap m)
  (N : News h₀ L s.heap ((L + 1 + 1, ock) :: (L + 1, ocm) :: (x, instObj 112 d) :: (d, inD w ta tb cap dc) :: (dc, od) :: (R, listOf vs.toArray n) :: (H, LCg.lst hs) :: (G, LCg.lst gs) :: tail))
  (hck : ock.data = .cell (some (.int k tk))) (hcm : ocm.data = .cell (some (.ref x))) {tl0 : List (Addr × Obj)} (hsub : ∀ p ∈ tl0, p ∈ tail) (hR : RowsIn tl0 vs c) (hH : RowsIn tl0 hs (c.filter fun p => decide (p.1 = k))) (hG : RowsIn tl0 gs (kdyDel c k))
  (lo : (dc == sysModules) = false) (hd : od.IsDictOf (intKind Challenge.rw_fk5013_01.row.prog w) kvs) (hf : PyProof.V.FlatPairs PyData.int kvs (kdfD c)) (hlen : c.length ≤ 60) (hn : (c.map (·.1)).Nodup) (hr : ∀ k ∈ c.map (·.1), 0 ≤ k ∧ k < ((5 : Nat) : Int)) (hk1 : 0 ≤ k) (hk2 : k < ((5 : Nat) : Int))
  (hcap : (room = 4 ∧ cap = .none) ∨ ∃ tr2, 1 ≤ room ∧ room < 4 ∧ cap = .int room tr2 ∧ (c.length : Int) ≤ room)
  (hoff : OwnOff tail [dc]) (e1 : L + 1 + 1 ≠ dc) (e2 : L + 1 ≠ dc) (e3 : x ≠ dc) (e4 : d ≠ dc) (e5 : R ≠ dc) (e6 : H ≠ dc) (e7 : G ≠ dc) (e8 : x ≠ d) (e9 : R ≠ L + 1 + 1) (e10 : ∀ p ∈ tail, p.1 ≠ R) (e11 : G ≠ L + 1 + 1) (e12 : ∀ p ∈ tail, p.1 ≠ G)
  (done : ∀ h' tk' m' od' kvs' c' R' vs' n' extra, Fr h₀ L h' m' → m' "rows" = some (.ref R') → (∀ y : Str, y ≠ "rows" → y ≠ "told" → m' y = m y) →
    News h₀ L h' ((L + 1 + 1, ock) :: (L + 1, ocm) :: (x, instObj 112 d) :: (d, inD w ta tb cap dc) :: (dc, od') :: (R', listOf vs'.toArray n') :: (extra ++ tail)) →
    od'.IsDictOf (intKind Challenge.rw_fk5013_01.row.prog w) kvs' → PyProof.V.FlatPairs PyData.int kvs' (kdfD c') → RowsIn (extra ++ tl0) vs' c' → (c'.map (·.1)).Nodup → (∀ k ∈ c'.map (·.1), 0 ≤ k ∧ k < ((5 : Nat) : Int)) → (c'.length ≤ c.length + 1 ∧ (room < 4 → (c'.length : Int) ≤ room)) →
    (R' ≠ dc ∧ R' ≠ L + 1 + 1 ∧ ∀ p ∈ tail, p.1 ≠ R') → (∀ q ∈ extra, q.1 ≠ dc ∧ q.1 ≠ L + 1 + 1 ∧ (∀ p ∈ tail, p.1 ≠ q.1) ∧ q.1 ≠ R') → Q .next { s with heap := h', toks := tk' }) :
  wpAny (model Challenge.rw_fk5013_01.row.prog w) (A1 L fa cdv) (exec (B1 4) (E1 L fa cdv)) Q E s := by
  revert X
  k_fill
  intro X
  unfold A1 E1 B1
  conv in (stAt _ _) => whnf
  conv in (occs := *) (lawS _) => all_goals whnf
  rw [← kst_self hm] at F
  have g1 := hG.length
  have g2 := hR.length
  have g3 := hH.length
  have g4 := kdyDel_len c k
  have hroom : room < 4 → (c.length : Int) ≤ room := by
    intro h
    rcases hcap with ⟨q, _⟩ | ⟨_, _, _, _, q⟩
    · omega
    · exact q
  cases hkk : kdfHas c k with
  | false =>
    rw [filter_none hkk] at hH
    cases hH
    k_steps
    rename Fr _ _ _ _ => F9
    rename News _ _ _ _ => N9
    rw [kst_self hm] at F9
    walk_at "my split"
    refine' done _ _ _ _ _ c _ _ _ [] F9 rfl (fun y h1 h2 => by simp [h1, h2]) (fun p hp => N9 p ?inn) (by assumption) (by assumption) ?rows hn hr ⟨Nat.le_succ _, hroom⟩ ?nw (List.forall_mem_nil _)
    case inn =>
      revert p
      simp only [List.nil_append]
      walk_at "my incl"
    case rows => exact (by rw [List.append_nil]; exact (del_new hkk) ▸ hG : RowsIn tl0 (gs ++ []) c)
    case nw => walk_at "my new"
  | true =>
    rw [filter_one hkk hn] at hH
    cases hH with
    | @cons a _ _ t9 u9 n9 ws _ ha hw =>
    cases hw
    have ha9 := hsub _ ha
    have hdl := del_lt hkk
    have hpl2 := putL_len c k (kdfLook c k 0)
    have hpl : (putL c k (kdfLook c k 0)).length ≤ c.length + 1 := by omega
    k_steps
    · exact absurd rfl (by assumption)
    · rename Fr _ _ _ _ => F9
      rename News _ _ _ _ => N9
      rw [kst_self hm] at F9
      walk_at "my split"
      refine' done _ _ _ _ _ (putL c k (kdfLook c k 0)) _ _ _ [] F9 rfl (fun y h1 h2 => by simp [h1, h2]) (fun p hp => N9 p ?inn) (by assumption) (by assumption) ?rows (putL_nodup hn _ _) (putL_range hr ⟨hk1, hk2⟩) ⟨hpl, fun h => by have := hroom h; omega⟩ ?nw (List.forall_mem_nil _)
      case inn =>
        revert p
        simp only [List.nil_append]
        walk_at "my incl"
      case rows => exact (RowsIn.append hG (.cons ha .nil))
      case nw => walk_at "my new"
end
end Mine
end
theorem Mine.offV42 : True := by
  w_top off
  exact trivial
section
local macro_rules | `(tactic| walk_at "my pad") => `(tactic| fail)
local macro_rules | `(tactic| walk_at "my pad") => `(tactic| fail)
local macro_rules | `(tactic| walk_at "my pad") => `(tactic| fail)
local macro_rules | `(tactic| walk_at "my pad") => `(tactic| fail)
local macro_rules | `(tactic| walk_at "my pad") => `(tactic| fail)
local macro_rules | `(tactic| walk_at "my pad") => `(tactic| fail)
local macro_rules | `(tactic| walk_at "my pad") => `(tactic| fail)
local macro_rules | `(tactic| walk_at "my pad") => `(tactic| fail)
local macro_rules | `(tactic| walk_at "my pad") => `(tactic| fail)
local macro_rules | `(tactic| walk_at "my pad") => `(tactic| fail)
local macro_rules | `(tactic| walk_at "my pad") => `(tactic| fail)
local macro_rules | `(tactic| walk_at "my pad") => `(tactic| fail)
local macro_rules | `(tactic| walk_at "my pad") => `(tactic| fail)
local macro_rules | `(tactic| walk_at "my pad") => `(tactic| fail)
local macro_rules | `(tactic| walk_at "my pad") => `(tactic| fail)
local macro_rules | `(tactic| walk_at "my pad") => `(tactic| fail)
local macro_rules | `(tactic| walk_at "my pad") => `(tactic| fail)
local macro_rules | `(tactic| walk_at "my pad") => `(tactic| fail)
local macro_rules | `(tactic| walk_at "my pad") => `(tactic| fail)
local macro_rules | `(tactic| walk_at "my pad") => `(tactic| fail)
local macro_rules | `(tactic| walk_at "my pad") => `(tactic| fail)
local macro_rules | `(tactic| walk_at "my pad") => `(tactic| fail)
local macro_rules | `(tactic| walk_at "my pad") => `(tactic| fail)
local macro_rules | `(tactic| walk_at "my pad") => `(tactic| fail)
local macro_rules | `(tactic| walk_at "my pad") => `(tactic| fail)
local macro_rules | `(tactic| walk_at "my pad") => `(tactic| fail)
local macro_rules | `(tactic| walk_at "my pad") => `(tactic| fail)
local macro_rules | `(tactic| walk_at "my pad") => `(tactic| fail)
local macro_rules | `(tactic| walk_at "my pad") => `(tactic| fail)
local macro_rules | `(tactic| walk_at "my pad") => `(tactic| fail)
local macro_rules | `(tactic| walk_at "my pad") => `(tactic| fail)
local macro_rules | `(tactic| walk_at "my pad") => `(tactic| fail)
local macro_rules | `(tactic| walk_at "my pad") => `(tactic| fail)
local macro_rules | `(tactic| walk_at "my pad") => `(tactic| fail)
local macro_rules | `(tactic| walk_at "my pad") => `(tactic| fail)
local macro_rules | `(tactic| walk_at "my pad") => `(tactic| fail)
local macro_rules | `(tactic| walk_at "my pad") => `(tactic| fail)
local macro_rules | `(tactic| walk_at "my pad") => `(tactic| fail)
local macro_rules | `(tactic| walk_at "my pad") => `(tactic| fail)
local macro_rules | `(tactic| walk_at "my pad") => `(tactic| fail)
local macro_rules | `(tactic| walk_at "my pad") => `(tactic| fail)
local macro_rules | `(tactic| walk_at "my pad") => `(tactic| fail)
local macro_rules | `(tactic| walk_at "my pad") => `(tactic| fail)
local macro_rules | `(tactic| walk_at "my pad") => `(tactic| fail)
local macro_rules | `(tactic| walk_at "my pad") => `(tactic| fail)
local macro_rules | `(tactic| walk_at "my pad") => `(tactic| fail)
local macro_rules | `(tactic| walk_at "my pad") => `(tactic| fail)
local macro_rules | `(tactic| walk_at "my pad") => `(tactic| fail)
local macro_rules | `(tactic| walk_at "my pad") => `(tactic| fail)
local macro_rules | `(tactic| walk_at "my pad") => `(tactic| fail)
local macro_rules | `(tactic| walk_at "my pad") => `(tactic| fail)
local macro_rules | `(tactic| walk_at "my pad") => `(tactic| fail)
local macro_rules | `(tactic| walk_at "my pad") => `(tactic| fail)
local macro_rules | `(tactic| walk_at "my pad") => `(tactic| fail)
local macro_rules | `(tactic| walk_at "my pad") => `(tactic| fail)
local macro_rules | `(tactic| walk_at "my pad") => `(tactic| fail)
local macro_rules | `(tactic| walk_at "my pad") => `(tactic| fail)
local macro_rules | `(tactic| walk_at "my pad") => `(tactic| fail)
local macro_rules | `(tactic| walk_at "my pad") => `(tactic| fail)
local macro_rules | `(tactic| walk_at "my pad") => `(tactic| fail)
open PySem PySem.W PyProof.Rows
namespace Mine
local macro_rules | `(tactic| walk_at "my dp") => `(tactic| first | decide | ((try simp only [depth_under_make, depth_under_kw, depth_in1, depth_deeper, depth_caller]); decide))
local macro_rules | `(tactic| walk_at "call ref") => `(tactic| (k_here; (with_reducible show wpAny _ _ (call (Value.ref 109) _) _ _ _); k_dflt (refine' set_at ?B ?dp ?X ?T ?F ?N ?x ?dd ?U ?xd ?xc ?dc ?lo ?hd ?hf ?hc ?hn ?cap (fun h' o' kvs' tk' F' N' hd' hf' => ?_); (case B => k_asm); (case dp => walk_at "my dp"); (case X => k_in); (case T => k_asm); (case F => k_asm); (case N => k_asm); (case x => k_mem); (case dd => k_mem); (case U => k_updF); (case xd => k_ne); (case xc => k_ne); (case dc => k_ne); (case lo => k_asm); (case hd => k_asm); (case hf => k_asm); (case hc => omega); (case hn => assumption); (case cap => assumption)); (try dsimp only at N')))
local macro_rules | `(tactic| walk_at "my len") => `(tactic| ((try simp only [List.length_append, List.length_cons, List.length_nil]); omega))
local macro_rules | `(tactic| walk_at "binaryOp Add ref ref") => `(tactic| (k_here; k_dflt (refine' my_add ?F ?N ?a ?b ?z ?z2 ?_; (case F => k_asm); (case N => k_asm); (case a => k_mem); (case b => k_mem); (case z => walk_at "my len"); (case z2 => walk_at "my len")); intro D' h' F' N' l1; (try k_lt l1)))
local macro_rules | `(tactic| walk_at "subscriptTail Name Slice ref ref") => `(tactic| (k_here; k_dflt (refine' my_slice_neg ?x ?F ?N ?l ?z ?_ ?s ?t; (case F => k_asm); (case N => k_asm); (case l => k_mem); (case x => omega); (case z => walk_at "my len"); (case s => with_unfolding_all rfl); (case t => kmk_pure)); intro D' h' F' N' l1; (try k_lt l1)))
local macro_rules | `(tactic| walk_at "my in") => `(tactic| first | assumption | exact List.mem_cons_self | (refine List.mem_cons_of_mem _ ?_; walk_at "my in"))
local macro_rules | `(tactic| walk_at "my incl") => `(tactic| first | exact List.forall_mem_nil _ | (refine List.forall_mem_cons.mpr ⟨?_, ?_⟩; (focus walk_at "my in"); walk_at "my incl") | (intro p9 hp9; walk_at "my in"))
local macro_rules | `(tactic| walk_at "my split") => `(tactic| repeat (rename _ ∧ _ => hA9; obtain ⟨hA1, hA2⟩ := hA9))
local macro_rules | `(tactic| walk_at "my off") => `(tactic| exact fun p hp => Nat.ne_of_lt (allLt_all (by assumption) p hp))
local macro_rules | `(tactic| walk_at "my newx") => `(tactic| exact ⟨by (refine neN ?_; omega), by (refine neN ?_; omega), by walk_at "my off", by first | (refine neN ?_; omega) | omega⟩)
local macro_rules | `(tactic| walk_at "my new") => `(tactic| exact ⟨by (refine neN ?_; omega), by (refine neN ?_; omega), by walk_at "my off"⟩)
local macro_rules | `(tactic| k_mem) => `(tactic| walk_at "my in")
local macro_rules | `(tactic| walk_at "my more") => `(tactic| first | exact .inr rfl | exact .inl ⟨rfl, rfl⟩)
local macro_rules | `(tactic| walk_at "call ref") => `(tactic| (k_here; (with_reducible show wpAny _ _ (call (Value.ref 102) _) _ _ _); k_dflt (first
  | (refine' get_yes ?mo ?B ?dp ?X ?T ?F ?N ?x ?dd ?U ?xd ?xc ?dc ?lo ?hd ?hf ?hc ?hk (fun h' o' kvs' tk' t' F' N' hd' hf' => ?_); (case mo => walk_at "my more"); (case B => k_asm); (case dp => walk_at "my dp"); (case X => k_in); (case T => k_asm); (case F => k_asm); (case N => k_asm); (case x => k_mem); (case dd => k_mem); (case U => k_updF); (case xd => k_ne); (case xc => k_ne); (case dc => k_ne); (case lo => k_asm); (case hd => k_asm); (case hf => k_asm); (case hc => omega); (case hk => assumption))
  | (refine' get_no ?mo ?B ?dp ?X ?T ?F ?N ?x ?dd ?U ?xd ?xc ?dc ?lo ?hd ?hf ?hc ?hk (fun h' tk' F' N' => ?_); (case mo => walk_at "my more"); (case B => k_asm); (case dp => walk_at "my dp"); (case X => k_in); (case T => k_asm); (case F => k_asm); (case N => k_asm); (case x => k_mem); (case dd => k_mem); (case U => k_updF); (case xd => k_ne); (case xc => k_ne); (case dc => k_ne); (case lo => k_asm); (case hd => k_asm); (case hf => k_asm); (case hc => omega); (case hk => assumption))); (try dsimp only at N')))
local macro_rules | `(tactic| k_enter) => `(tactic| ((with_reducible rename KtsDicts _ _ => kdX); kts_go))
local macro_rules | `(tactic| walk_at "call ref") => `(tactic| (k_here; (with_reducible show wpAny _ _ (call (Value.ref 130) _) _ _ _); k_dflt (refine wpAny_call ?_; (refine' defS0X ?k1 ?k2 ?k3 ?k4 ?k5 ?kA ?kF ?kK ?k6 ?k7 ?k8 ?k9 ?kB ?_ ?c2 ?c3 ?c4 ?c5; (case kA => exact rfl); (case kF => exact rfl); (case kK => exact rfl); (case k2 => k_asm); (case k1 => k_asm); (case k3 => k_asm); (case k4 => k_asm); (case k5 => k_asm); (case k6 => k_is); (case k7 => k_is); (case k8 => k_room); (case k9 => first | exact BindsTo.of_eq rfl | exact binds_K (by k_in) rfl (by k_is) rfl rfl rfl); (case kB => exact locs rfl); (case c2 => exact rfl); (case c3 => exact rfl); (case c4 => exact rfl); (case c5 => decide); k_whole; intro g' L' h' FG' F' N' B' X' T' D'; (try dsimp only); (try k_lift B'); (try k_fold)))))
section
variable {w : World} {h₀ : Heap} {L fa : Addr} {cdv : Value} {p : Program} {loose : List Str} {mean : ExcName → Option Value} {mg mb : Str → Option Value} {l ck cm x d dc R H G : Addr} {vs0 vs hs gs : List Value} {ns : List Int} {room num k : Int} {tr ta tb tn tw tk : Tok} {cap : Value} {ock ocm od : Obj} {kvs : List (Int × Value)} {c : Prs} {n : Nat}
  {tail : List (Addr × Obj)} {m : Str → Option Value} {s : Shared} {E : Value → Shared → Prop} {Q : Flow → Shared → Prop}
set_option maxRecDepth 100000 in
set_option maxHeartbeats 8000000 in
theorem st42 (B : Below callerA h₀ [] h₀) (X : (hd.heap_39 w.params).In h₀) (T : Top p loose mean mg mb h₀)
  (hm : ∀ p ∈ [(Str.ofString "room", Value.int room tr), (Str.ofString "rows", Value.ref R), (Str.ofString "number", Value.int num tn), (Str.ofString "way", Value.int 2 tw), (Str.ofString "here", Value.ref H), (Str.ofString "rest", Value.ref G)], m p.1 = some p.2) (F : Fr h₀ L s.heap m)
  (N : News h₀ L s.heap ((L + 1 + 1, ock) :: (L + 1, ocm) :: (x, instObj 112 d) :: (d, inD w ta tb cap dc) :: (dc, od) :: (R, listOf vs.toArray n) :: (H, LCg.lst hs) :: (G, LCg.lst gs) :: tail))
  (hck : ock.data = .cell (some (.int k tk))) (hcm : ocm.data = .cell (some (.ref x))) {tl0 : List (Addr × Obj)} (hsub : ∀ p ∈ tl0, p ∈ tail) (hR : RowsIn tl0 vs c) (hH : RowsIn tl0 hs (c.filter fun p => decide (p.1 = k))) (hG : RowsIn tl0 gs (kdyDel c k))
  (lo : (dc == sysModules) = false) (hd : od.IsDictOf (intKind Challenge.rw_fk5013_01.row.prog w) kvs) (hf : PyProof.V.FlatPairs PyData.int kvs (kdfD c)) (hlen : c.length ≤ 60) (hn : (c.map (·.1)).Nodup) (hr : ∀ k ∈ c.map (·.1), 0 ≤ k ∧ k < ((5 : Nat) : Int)) (hk1 : 0 ≤ k) (hk2 : k < ((5 : Nat) : Int))
  (hcap : (room = 4 ∧ cap = .none) ∨ ∃ tr2, 1 ≤ room ∧ room < 4 ∧ cap = .int room tr2 ∧ (c.length : Int) ≤ room)
  (hoff : OwnOff tail [dc]) (e1 : L + 1 + 1 ≠ dc) (e2 : L + 1 ≠ dc) (e3 : x ≠ dc) (e4 : d ≠ dc) (e5 : R ≠ dc) (e6 : H ≠ dc) (e7 : G ≠ dc) (e8 : x ≠ d) (e9 : R ≠ L + 1 + 1) (e10 : ∀ p ∈ tail, p.1 ≠ R) (e11 : G ≠ L + 1 + 1) (e12 : ∀ p ∈ tail, p.1 ≠ G)
  (done : ∀ h' tk' m' od' kvs' c' R' vs' n' extra, Fr h₀ L h' m' → m' "rows" = some (.ref R') → (∀ y : Str, y ≠ "rows" → y ≠ "told" → m' y = m y) →
    News h₀ L h' ((L + 1 + 1, ock) :: (L + 1, ocm) :: (x, instObj 112 d) :: (d, inD w ta tb cap dc) :: (dc, od') :: (R', listOf vs'.toArray n') :: (extra ++ tail)) →
    od'.IsDictOf (intKind Challenge.rw_fk5013_01.row.prog w) kvs' → PyProof.V.FlatPairs PyData.int kvs' (kdfD c') → RowsIn (extra ++ tl0) vs' c' → (c'.map (·.1)).Nodup → (∀ k ∈ c'.map (·.1), 0 ≤ k ∧ k < ((5 : Nat) : Int)) → (c'.length ≤ c.length + 1 ∧ (room < 4 → (c'.length : Int) ≤ room)) →
    (R' ≠ dc ∧ R' ≠ L + 1 + 1 ∧ ∀ p ∈ tail, p.1 ≠ R') → (∀ q ∈ extra, q.1 ≠ dc ∧ q.1 ≠ L + 1 + 1 ∧ (∀ p ∈ tail, p.1 ≠ q.1) ∧ q.1 ≠ R') → Q .next { s with heap := h', toks := tk' }) :
  wpAny (model Challenge.rw_fk5013_01.row.prog w) (A1 L fa cdv) (exec (B1 4) (E1 L fa cdv)) Q E s := by
  revert X
  k_fill
  intro X
  unfold A1 E1 B1
  conv in (stAt _ _) => whnf
  conv in (occs := *) (lawS _) => all_goals whnf
  rw [← kst_self hm] at F
  have g1 := hG.length
  have g2 := hR.length
  have g3 := hH.length
  have g4 := kdyDel_len c k
  have hroom : room < 4 → (c.length : Int) ≤ room := by
    intro h
    rcases hcap with ⟨q, _⟩ | ⟨_, _, _, _, q⟩
    · omega
    · exact q
  cases hkk : kdfHas c k with
  | false =>
    rw [filter_none hkk] at hH
    cases hH
    k_steps
    rename Fr _ _ _ _ => F9
    rename News _ _ _ _ => N9
    rw [kst_self hm] at F9
    walk_at "my split"
    refine' done _ _ _ _ _ c _ _ _ [] F9 rfl (fun y h1 h2 => by simp [h1, h2]) (fun p hp => N9 p ?inn) (by assumption) (by assumption) ?rows hn hr ⟨Nat.le_succ _, hroom⟩ ?nw (List.forall_mem_nil _)
    case inn =>
      revert p
      simp only [List.nil_append]
      walk_at "my incl"
    case rows => exact (by rw [List.append_nil]; exact (del_new hkk) ▸ hG : RowsIn tl0 (gs ++ []) c)
    case nw => walk_at "my new"
  | true =>
    rw [filter_one hkk hn] at hH
    cases hH with
    | @cons a _ _ t9 u9 n9 ws _ ha hw =>
    cases hw
    have ha9 := hsub _ ha
    have hdl := del_lt hkk
    have hpl2 := putL_len c k (kdfLook c k 0)
    have hpl : (putL c k (kdfLook c k 0)).length ≤ c.length + 1 := by omega
    k_steps
    · exact absurd rfl (by assumption)
    · rename Fr _ _ _ _ => F9
      rename News _ _ _ _ => N9
      rw [kst_self hm] at F9
      walk_at "my split"
      refine' done _ _ _ _ _ (putL c k (kdfLook c k 0)) _ _ _ [] F9 rfl (fun y h1 h2 => by simp [h1, h2]) (fun p hp => N9 p ?inn) (by assumption) (by assumption) ?rows (putL_nodup hn _ _) (putL_range hr ⟨hk1, hk2⟩) ⟨hpl, fun h => by have := hroom h; omega⟩ ?nw (List.forall_mem_nil _)
      case inn =>
        revert p
        simp only [List.nil_append]
        walk_at "my incl"
      case rows => exact (RowsIn.append hG (.cons ha .nil))
      case nw => walk_at "my new"
end
end Mine
end
theorem Mine.offV43 : True := by
  w_top off
  exact trivial
section
local macro_rules | `(tactic| walk_at "my pad") => `(tactic| fail)
local macro_rules | `(tactic| walk_at "my pad") => `(tactic| fail)
local macro_rules | `(tactic| walk_at "my pad") => `(tactic| fail)
local macro_rules | `(tactic| walk_at "my pad") => `(tactic| fail)
local macro_rules | `(tactic| walk_at "my pad") => `(tactic| fail)
local macro_rules | `(tactic| walk_at "my pad") => `(tactic| fail)
local macro_rules | `(tactic| walk_at "my pad") => `(tactic| fail)
local macro_rules | `(tactic| walk_at "my pad") => `(tactic| fail)
local macro_rules | `(tactic| walk_at "my pad") => `(tactic| fail)
local macro_rules | `(tactic| walk_at "my pad") => `(tactic| fail)
local macro_rules | `(tactic| walk_at "my pad") => `(tactic| fail)
local macro_rules | `(tactic| walk_at "my pad") => `(tactic| fail)
local macro_rules | `(tactic| walk_at "my pad") => `(tactic| fail)
local macro_rules | `(tactic| walk_at "my pad") => `(tactic| fail)
local macro_rules | `(tactic| walk_at "my pad") => `(tactic| fail)
local macro_rules | `(tactic| walk_at "my pad") => `(tactic| fail)
local macro_rules | `(tactic| walk_at "my pad") => `(tactic| fail)
local macro_rules | `(tactic| walk_at "my pad") => `(tactic| fail)
local macro_rules | `(tactic| walk_at "my pad") => `(tactic| fail)
local macro_rules | `(tactic| walk_at "my pad") => `(tactic| fail)
local macro_rules | `(tactic| walk_at "my pad") => `(tactic| fail)
local macro_rules | `(tactic| walk_at "my pad") => `(tactic| fail)
local macro_rules | `(tactic| walk_at "my pad") => `(tactic| fail)
local macro_rules | `(tactic| walk_at "my pad") => `(tactic| fail)
local macro_rules | `(tactic| walk_at "my pad") => `(tactic| fail)
local macro_rules | `(tactic| walk_at "my pad") => `(tactic| fail)
local macro_rules | `(tactic| walk_at "my pad") => `(tactic| fail)
local macro_rules | `(tactic| walk_at "my pad") => `(tactic| fail)
local macro_rules | `(tactic| walk_at "my pad") => `(tactic| fail)
local macro_rules | `(tactic| walk_at "my pad") => `(tactic| fail)
local macro_rules | `(tactic| walk_at "my pad") => `(tactic| fail)
local macro_rules | `(tactic| walk_at "my pad") => `(tactic| fail)
local macro_rules | `(tactic| walk_at "my pad") => `(tactic| fail)
local macro_rules | `(tactic| walk_at "my pad") => `(tactic| fail)
local macro_rules | `(tactic| walk_at "my pad") => `(tactic| fail)
local macro_rules | `(tactic| walk_at "my pad") => `(tactic| fail)
local macro_rules | `(tactic| walk_at "my pad") => `(tactic| fail)
local macro_rules | `(tactic| walk_at "my pad") => `(tactic| fail)
local macro_rules | `(tactic| walk_at "my pad") => `(tactic| fail)
local macro_rules | `(tactic| walk_at "my pad") => `(tactic| fail)
local macro_rules | `(tactic| walk_at "my pad") => `(tactic| fail)
local macro_rules | `(tactic| walk_at "my pad") => `(tactic| fail)
local macro_rules | `(tactic| walk_at "my pad") => `(tactic| fail)
local macro_rules | `(tactic| walk_at "my pad") => `(tactic| fail)
local macro_rules | `(tactic| walk_at "my pad") => `(tactic| fail)
local macro_rules | `(tactic| walk_at "my pad") => `(tactic| fail)
local macro_rules | `(tactic| walk_at "my pad") => `(tactic| fail)
local macro_rules | `(tactic| walk_at "my pad") => `(tactic| fail)
local macro_rules | `(tactic| walk_at "my pad") => `(tactic| fail)
local macro_rules | `(tactic| walk_at "my pad") => `(tactic| fail)
local macro_rules | `(tactic| walk_at "my pad") => `(tactic| fail)
local macro_rules | `(tactic| walk_at "my pad") => `(tactic| fail)
local macro_rules | `(tactic| walk_at "my pad") => `(tactic| fail)
local macro_rules | `(tactic| walk_at "my pad") => `(tactic| fail)
local macro_rules | `(tactic| walk_at "my pad") => `(tactic| fail)
local macro_rules | `(tactic| walk_at "my pad") => `(tactic| fail)
local macro_rules | `(tactic| walk_at "my pad") => `(tactic| fail)
local macro_rules | `(tactic| walk_at "my pad") => `(tactic| fail)
local macro_rules | `(tactic| walk_at "my pad") => `(tactic| fail)
local macro_rules | `(tactic| walk_at "my pad") => `(tactic| fail)
local macro_rules | `(tactic| walk_at "my pad") => `(tactic| fail)
local macro_rules | `(tactic| walk_at "my pad") => `(tactic| fail)
local macro_rules | `(tactic| walk_at "my pad") => `(tactic| fail)
local macro_rules | `(tactic| walk_at "my pad") => `(tactic| fail)
local macro_rules | `(tactic| walk_at "my pad") => `(tactic| fail)
local macro_rules | `(tactic| walk_at "my pad") => `(tactic| fail)
local macro_rules | `(tactic| walk_at "my pad") => `(tactic| fail)
local macro_rules | `(tactic| walk_at "my pad") => `(tactic| fail)
local macro_rules | `(tactic| walk_at "my pad") => `(tactic| fail)
local macro_rules | `(tactic| walk_at "my pad") => `(tactic| fail)
local macro_rules | `(tactic| walk_at "my pad") => `(tactic| fail)
local macro_rules | `(tactic| walk_at "my pad") => `(tactic| fail)
local macro_rules | `(tactic| walk_at "my pad") => `(tactic| fail)
local macro_rules | `(tactic| walk_at "my pad") => `(tactic| fail)
local macro_rules | `(tactic| walk_at "my pad") => `(tactic| fail)
local macro_rules | `(tactic| walk_at "my pad") => `(tactic| fail)
local macro_rules | `(tactic| walk_at "my pad") => `(tactic| fail)
open PySem PySem.W PyProof.Rows
namespace Mine
local macro_rules | `(tactic| walk_at "my dp") => `(tactic| first | decide | ((try simp only [depth_under_make, depth_under_kw, depth_in1, depth_deeper, depth_caller]); decide))
local macro_rules | `(tactic| walk_at "call ref") => `(tactic| (k_here; (with_reducible show wpAny _ _ (call (Value.ref 109) _) _ _ _); k_dflt (refine' set_at ?B ?dp ?X ?T ?F ?N ?x ?dd ?U ?xd ?xc ?dc ?lo ?hd ?hf ?hc ?hn ?cap (fun h' o' kvs' tk' F' N' hd' hf' => ?_); (case B => k_asm); (case dp => walk_at "my dp"); (case X => k_in); (case T => k_asm); (case F => k_asm); (case N => k_asm); (case x => k_mem); (case dd => k_mem); (case U => k_updF); (case xd => k_ne); (case xc => k_ne); (case dc => k_ne); (case lo => k_asm); (case hd => k_asm); (case hf => k_asm); (case hc => omega); (case hn => assumption); (case cap => assumption)); (try dsimp only at N')))
local macro_rules | `(tactic| walk_at "my len") => `(tactic| ((try simp only [List.length_append, List.length_cons, List.length_nil]); omega))
local macro_rules | `(tactic| walk_at "binaryOp Add ref ref") => `(tactic| (k_here; k_dflt (refine' my_add ?F ?N ?a ?b ?z ?z2 ?_; (case F => k_asm); (case N => k_asm); (case a => k_mem); (case b => k_mem); (case z => walk_at "my len"); (case z2 => walk_at "my len")); intro D' h' F' N' l1; (try k_lt l1)))
local macro_rules | `(tactic| walk_at "subscriptTail Name Slice ref ref") => `(tactic| (k_here; k_dflt (refine' my_slice_neg ?x ?F ?N ?l ?z ?_ ?s ?t; (case F => k_asm); (case N => k_asm); (case l => k_mem); (case x => omega); (case z => walk_at "my len"); (case s => with_unfolding_all rfl); (case t => kmk_pure)); intro D' h' F' N' l1; (try k_lt l1)))
local macro_rules | `(tactic| walk_at "my in") => `(tactic| first | assumption | exact List.mem_cons_self | (refine List.mem_cons_of_mem _ ?_; walk_at "my in"))
local macro_rules | `(tactic| walk_at "my incl") => `(tactic| first | exact List.forall_mem_nil _ | (refine List.forall_mem_cons.mpr ⟨?_, ?_⟩; (focus walk_at "my in"); walk_at "my incl") | (intro p9 hp9; walk_at "my in"))
local macro_rules | `(tactic| walk_at "my split") => `(tactic| repeat (rename _ ∧ _ => hA9; obtain ⟨hA1, hA2⟩ := hA9))
local macro_rules | `(tactic| walk_at "my off") => `(tactic| exact fun p hp => Nat.ne_of_lt (allLt_all (by assumption) p hp))
local macro_rules | `(tactic| walk_at "my newx") => `(tactic| exact ⟨by (refine neN ?_; omega), by (refine neN ?_; omega), by walk_at "my off", by first | (refine neN ?_; omega) | omega⟩)
local macro_rules | `(tactic| walk_at "my new") => `(tactic| exact ⟨by (refine neN ?_; omega), by (refine neN ?_; omega), by walk_at "my off"⟩)
local macro_rules | `(tactic| k_mem) => `(tactic| walk_at "my in")
local macro_rules | `(tactic| walk_at "my more") => `(tactic| first | exact .inr rfl | exact .inl ⟨rfl, rfl⟩)
local macro_rules | `(tactic| walk_at "call ref") => `(tactic| (k_here; (with_reducible show wpAny _ _ (call (Value.ref 102) _) _ _ _); k_dflt (first
  | (refine' get_yes ?mo ?B ?dp ?X ?T ?F ?N ?x ?dd ?U ?xd ?xc ?dc ?lo ?hd ?hf ?hc ?hk (fun h' o' kvs' tk' t' F' N' hd' hf' => ?_); (case mo => walk_at "my more"); (case B => k_asm); (case dp => walk_at "my dp"); (case X => k_in); (case T => k_asm); (case F => k_asm); (case N => k_asm); (case x => k_mem); (case dd => k_mem); (case U => k_updF); (case xd => k_ne); (case xc => k_ne); (case dc => k_ne); (case lo => k_asm); (case hd => k_asm); (case hf => k_asm); (case hc => omega); (case hk => assumption))
  | (refine' get_no ?mo ?B ?dp ?X ?T ?F ?N ?x ?dd ?U ?xd ?xc ?dc ?lo ?hd ?hf ?hc ?hk (fun h' tk' F' N' => ?_); (case mo => walk_at "my more"); (case B => k_asm); (case dp => walk_at "my dp"); (case X => k_in); (case T => k_asm); (case F => k_asm); (case N => k_asm); (case x => k_mem); (case dd => k_mem); (case U => k_updF); (case xd => k_ne); (case xc => k_ne); (case dc => k_ne); (case lo => k_asm); (case hd => k_asm); (case hf => k_asm); (case hc => omega); (case hk => assumption))); (try dsimp only at N')))
local macro_rules | `(tactic| walk_at "delItem ref") => `(tactic| (k_here; k_dflt (refine' own_delItem ?F ?X ?I ?hQ ?hS ?hF ?_; (case F => k_asm); (case X => k_asm); (case I => k_inst); (case hS => k_is); (case hF => k_is); (case hQ => k_is); k_whole)))
section
variable {w : World} {h₀ : Heap} {L fa : Addr} {cdv : Value} {p : Program} {loose : List Str} {mean : ExcName → Option Value} {mg mb : Str → Option Value} {l ck cm x d dc R H G : Addr} {vs0 vs hs gs : List Value} {ns : List Int} {room num k : Int} {tr ta tb tn tw tk : Tok} {cap : Value} {ock ocm od : Obj} {kvs : List (Int × Value)} {c : Prs} {n : Nat}
  {tail : List (Addr × Obj)} {m : Str → Option Value} {s : Shared} {E : Value → Shared → Prop} {Q : Flow → Shared → Prop}
set_option maxRecDepth 100000 in
set_option maxHeartbeats 8000000 in
theorem st43 (B : Below callerA h₀ [] h₀) (X : (hd.heap_39 w.params).In h₀) (T : Top p loose mean mg mb h₀)
  (hm : ∀ p ∈ [(Str.ofString "room", Value.int room tr), (Str.ofString "rows", Value.ref R), (Str.ofString "number", Value.int num tn), (Str.ofString "way", Value.int 3 tw), (Str.ofString "here", Value.ref H), (Str.ofString "rest", Value.ref G)], m p.1 = some p.2) (F : Fr h₀ L s.heap m)
  (N : News h₀ L s.heap ((L + 1 + 1, ock) :: (L + 1, ocm) :: (x, instObj 112 d) :: (d, inD w ta tb cap dc) :: (dc, od) :: (R, listOf vs.toArray n) :: (H, LCg.lst hs) :: (G, LCg.lst gs) :: tail))
  (hck : ock.data = .cell (some (.int k tk))) (hcm : ocm.data = .cell (some (.ref x))) {tl0 : List (Addr × Obj)} (hsub : ∀ p ∈ tl0, p ∈ tail) (hR : RowsIn tl0 vs c) (hH : RowsIn tl0 hs (c.filter fun p => decide (p.1 = k))) (hG : RowsIn tl0 gs (kdyDel c k))
  (lo : (dc == sysModules) = false) (hd : od.IsDictOf (intKind Challenge.rw_fk5013_01.row.prog w) kvs) (hf : PyProof.V.FlatPairs PyData.int kvs (kdfD c)) (hlen : c.length ≤ 60) (hn : (c.map (·.1)).Nodup) (hr : ∀ k ∈ c.map (·.1), 0 ≤ k ∧ k < ((5 : Nat) : Int)) (hk1 : 0 ≤ k) (hk2 : k < ((5 : Nat) : Int))
  (hcap : (room = 4 ∧ cap = .none) ∨ ∃ tr2, 1 ≤ room ∧ room < 4 ∧ cap = .int room tr2 ∧ (c.length : Int) ≤ room)
  (hoff : OwnOff tail [dc]) (e1 : L + 1 + 1 ≠ dc) (e2 : L + 1 ≠ dc) (e3 : x ≠ dc) (e4 : d ≠ dc) (e5 : R ≠ dc) (e6 : H ≠ dc) (e7 : G ≠ dc) (e8 : x ≠ d) (e9 : R ≠ L + 1 + 1) (e10 : ∀ p ∈ tail, p.1 ≠ R) (e11 : G ≠ L + 1 + 1) (e12 : ∀ p ∈ tail, p.1 ≠ G)
  (done : ∀ h' tk' m' od' kvs' c' R' vs' n' extra, Fr h₀ L h' m' → m' "rows" = some (.ref R') → (∀ y : Str, y ≠ "rows" → y ≠ "told" → m' y = m y) →
    News h₀ L h' ((L + 1 + 1, ock) :: (L + 1, ocm) :: (x, instObj 112 d) :: (d, inD w ta tb cap dc) :: (dc, od') :: (R', listOf vs'.toArray n') :: (extra ++ tail)) →
    od'.IsDictOf (intKind Challenge.rw_fk5013_01.row.prog w) kvs' → PyProof.V.FlatPairs PyData.int kvs' (kdfD c') → RowsIn (extra ++ tl0) vs' c' → (c'.map (·.1)).Nodup → (∀ k ∈ c'.map (·.1), 0 ≤ k ∧ k < ((5 : Nat) : Int)) → (c'.length ≤ c.length + 1 ∧ (room < 4 → (c'.length : Int) ≤ room)) →
    (R' ≠ dc ∧ R' ≠ L + 1 + 1 ∧ ∀ p ∈ tail, p.1 ≠ R') → (∀ q ∈ extra, q.1 ≠ dc ∧ q.1 ≠ L + 1 + 1 ∧ (∀ p ∈ tail, p.1 ≠ q.1) ∧ q.1 ≠ R') → Q .next { s with heap := h', toks := tk' }) :
  wpAny (model Challenge.rw_fk5013_01.row.prog w) (A1 L fa cdv) (exec (B1 4) (E1 L fa cdv)) Q E s := by
  revert X
  k_fill
  intro X
  unfold A1 E1 B1
  conv in (stAt _ _) => whnf
  conv in (occs := *) (lawS _) => all_goals whnf
  rw [← kst_self hm] at F
  have g1 := hG.length
  have g2 := hR.length
  have g3 := hH.length
  have g4 := kdyDel_len c k
  have hroom : room < 4 → (c.length : Int) ≤ room := by
    intro h
    rcases hcap with ⟨q, _⟩ | ⟨_, _, _, _, q⟩
    · omega
    · exact q
  cases hkk : kdfHas c k with
  | false =>
    rw [filter_none hkk] at hH
    cases hH
    k_steps
    rename Fr _ _ _ _ => F9
    rename News _ _ _ _ => N9
    rw [kst_self hm] at F9
    walk_at "my split"
    refine' done _ _ _ _ _ c R vs n [] F9 (hm _ (.tail _ (.head _))) (fun _ _ _ => rfl) (fun p hp => N9 p ?inn) (by assumption) (by assumption) ?rows hn hr ⟨Nat.le_succ _, hroom⟩ ?nw (List.forall_mem_nil _)
    case inn =>
      revert p
      simp only [List.nil_append]
      walk_at "my incl"
    case rows => exact hR
    case nw => exact ⟨e5, e9, e10⟩
  | true =>
    rw [filter_one hkk hn] at hH
    cases hH with
    | @cons a _ _ t9 u9 n9 ws _ ha hw =>
    cases hw
    have ha9 := hsub _ ha
    k_steps
    rename Fr _ _ _ _ => F9
    rename News _ _ _ _ => N9
    rw [kst_self hm] at F9
    walk_at "my split"
    refine' done _ _ _ _ _ (kdyDel c k) _ _ _ [] F9 rfl (fun y h1 h2 => by simp [h1, h2]) (fun p hp => N9 p ?inn) (by assumption) (by assumption) ?rows (del_nodup hn k) (fun j hj => hr j (del_mem.mp hj).1) ⟨by omega, fun h => by have := hroom h; omega⟩ ?nw (List.forall_mem_nil _)
    case inn =>
      revert p
      simp only [List.nil_append]
      walk_at "my incl"
    case rows => exact hG
    case nw => exact ⟨e7, e11, e12⟩
end
end Mine
end
theorem Mine.offV44 : True := by
  w_top off
  exact trivial
section
local macro_rules | `(tactic| walk_at "my pad") => `(tactic| fail)
local macro_rules | `(tactic| walk_at "my pad") => `(tactic| fail)
local macro_rules | `(tactic| walk_at "my pad") => `(tactic| fail)
local macro_rules | `(tactic| walk_at "my pad") => `(tactic| fail)
local macro_rules | `(tactic| walk_at "my pad") => `(tactic| fail)
local macro_rules | `(tactic| walk_at "my pad") => `(tactic| fail)
local macro_rules | `(tactic| walk_at "my pad") => `(tactic| fail)
local macro_rules | `(tactic| walk_at "my pad") => `(tactic| fail)
local macro_rules | `(tactic| walk_at "my pad") => `(tactic| fail)
local macro_rules | `(tactic| walk_at "my pad") => `(tactic| fail)
local macro_rules | `(tactic| walk_at "my pad") => `(tactic| fail)
local macro_rules | `(tactic| walk_at "my pad") => `(tactic| fail)
local macro_rules | `(tactic| walk_at "my pad") => `(tactic| fail)
local macro_rules | `(tactic| walk_at "my pad") => `(tactic| fail)
local macro_rules | `(tactic| walk_at "my pad") => `(tactic| fail)
local macro_rules | `(tactic| walk_at "my pad") => `(tactic| fail)
local macro_rules | `(tactic| walk_at "my pad") => `(tactic| fail)
local macro_rules | `(tactic| walk_at "my pad") => `(tactic| fail)
local macro_rules | `(tactic| walk_at "my pad") => `(tactic| fail)
local macro_rules | `(tactic| walk_at "my pad") => `(tactic| fail)
local macro_rules | `(tactic| walk_at "my pad") => `(tactic| fail)
local macro_rules | `(tactic| walk_at "my pad") => `(tactic| fail)
local macro_rules | `(tactic| walk_at "my pad") => `(tactic| fail)
local macro_rules | `(tactic| walk_at "my pad") => `(tactic| fail)
local macro_rules | `(tactic| walk_at "my pad") => `(tactic| fail)
local macro_rules | `(tactic| walk_at "my pad") => `(tactic| fail)
local macro_rules | `(tactic| walk_at "my pad") => `(tactic| fail)
local macro_rules | `(tactic| walk_at "my pad") => `(tactic| fail)
local macro_rules | `(tactic| walk_at "my pad") => `(tactic| fail)
local macro_rules | `(tactic| walk_at "my pad") => `(tactic| fail)
local macro_rules | `(tactic| walk_at "my pad") => `(tactic| fail)
local macro_rules | `(tactic| walk_at "my pad") => `(tactic| fail)
local macro_rules | `(tactic| walk_at "my pad") => `(tactic| fail)
local macro_rules | `(tactic| walk_at "my pad") => `(tactic| fail)
local macro_rules | `(tactic| walk_at "my pad") => `(tactic| fail)
local macro_rules | `(tactic| walk_at "my pad") => `(tactic| fail)
local macro_rules | `(tactic| walk_at "my pad") => `(tactic| fail)
local macro_rules | `(tactic| walk_at "my pad") => `(tactic| fail)
local macro_rules | `(tactic| walk_at "my pad") => `(tactic| fail)
local macro_rules | `(tactic| walk_at "my pad") => `(tactic| fail)
local macro_rules | `(tactic| walk_at "my pad") => `(tactic| fail)
local macro_rules | `(tactic| walk_at "my pad") => `(tactic| fail)
local macro_rules | `(tactic| walk_at "my pad") => `(tactic| fail)
local macro_rules | `(tactic| walk_at "my pad") => `(tactic| fail)
local macro_rules | `(tactic| walk_at "my pad") => `(tactic| fail)
local macro_rules | `(tactic| walk_at "my pad") => `(tactic| fail)
local macro_rules | `(tactic| walk_at "my pad") => `(tactic| fail)
local macro_rules | `(tactic| walk_at "my pad") => `(tactic| fail)
local macro_rules | `(tactic| walk_at "my pad") => `(tactic| fail)
local macro_rules | `(tactic| walk_at "my pad") => `(tactic| fail)
local macro_rules | `(tactic| walk_at "my pad") => `(tactic| fail)
local macro_rules | `(tactic| walk_at "my pad") => `(tactic| fail)
local macro_rules | `(tactic| walk_at "my pad") => `(tactic| fail)
local macro_rules | `(tactic| walk_at "my pad") => `(tactic| fail)
local macro_rules | `(tactic| walk_at "my pad") => `(tactic| fail)
local macro_rules | `(tactic| walk_at "my pad") => `(tactic| fail)
local macro_rules | `(tactic| walk_at "my pad") => `(tactic| fail)
local macro_rules | `(tactic| walk_at "my pad") => `(tactic| fail)
local macro_rules | `(tactic| walk_at "my pad") => `(tactic| fail)
local macro_rules | `(tactic| walk_at "my pad") => `(tactic| fail)
local macro_rules | `(tactic| walk_at "my pad") => `(tactic| fail)
local macro_rules | `(tactic| walk_at "my pad") => `(tactic| fail)
local macro_rules | `(tactic| walk_at "my pad") => `(tactic| fail)
local macro_rules | `(tactic| walk_at "my pad") => `(tactic| fail)
local macro_rules | `(tactic| walk_at "my pad") => `(tactic| fail)
local macro_rules | `(tactic| walk_at "my pad") => `(tactic| fail)
local macro_rules | `(tactic| walk_at "my pad") => `(tactic| fail)
local macro_rules | `(tactic| walk_at "my pad") => `(tactic| fail)
local macro_rules | `(tactic| walk_at "my pad") => `(tactic| fail)
local macro_rules | `(tactic| walk_at "my pad") => `(tactic| fail)
local macro_rules | `(tactic| walk_at "my pad") => `(tactic| fail)
local macro_rules | `(tactic| walk_at "my pad") => `(tactic| fail)
local macro_rules | `(tactic| walk_at "my pad") => `(tactic| fail)
local macro_rules | `(tactic| walk_at "my pad") => `(tactic| fail)
local macro_rules | `(tactic| walk_at "my pad") => `(tactic| fail)
local macro_rules | `(tactic| walk_at "my pad") => `(tactic| fail)
local macro_rules | `(tactic| walk_at "my pad") => `(tactic| fail)
local macro_rules | `(tactic| walk_at "my pad") => `(tactic| fail)
local macro_rules | `(tactic| walk_at "my pad") => `(tactic| fail)
local macro_rules | `(tactic| walk_at "my pad") => `(tactic| fail)
local macro_rules | `(tactic| walk_at "my pad") => `(tactic| fail)
local macro_rules | `(tactic| walk_at "my pad") => `(tactic| fail)
local macro_rules | `(tactic| walk_at "my pad") => `(tactic| fail)
local macro_rules | `(tactic| walk_at "my pad") => `(tactic| fail)
local macro_rules | `(tactic| walk_at "my pad") => `(tactic| fail)
local macro_rules | `(tactic| walk_at "my pad") => `(tactic| fail)
local macro_rules | `(tactic| walk_at "my pad") => `(tactic| fail)
local macro_rules | `(tactic| walk_at "my pad") => `(tactic| fail)
local macro_rules | `(tactic| walk_at "my pad") => `(tactic| fail)
local macro_rules | `(tactic| walk_at "my pad") => `(tactic| fail)
local macro_rules | `(tactic| walk_at "my pad") => `(tactic| fail)
local macro_rules | `(tactic| walk_at "my pad") => `(tactic| fail)
local macro_rules | `(tactic| walk_at "my pad") => `(tactic| fail)
open PySem PySem.W PyProof.Rows
namespace Mine
local macro_rules | `(tactic| walk_at "my dp") => `(tactic| first | decide | ((try simp only [depth_under_make, depth_under_kw, depth_in1, depth_deeper, depth_caller]); decide))
local macro_rules | `(tactic| walk_at "call ref") => `(tactic| (k_here; (with_reducible show wpAny _ _ (call (Value.ref 109) _) _ _ _); k_dflt (refine' set_at ?B ?dp ?X ?T ?F ?N ?x ?dd ?U ?xd ?xc ?dc ?lo ?hd ?hf ?hc ?hn ?cap (fun h' o' kvs' tk' F' N' hd' hf' => ?_); (case B => k_asm); (case dp => walk_at "my dp"); (case X => k_in); (case T => k_asm); (case F => k_asm); (case N => k_asm); (case x => k_mem); (case dd => k_mem); (case U => k_updF); (case xd => k_ne); (case xc => k_ne); (case dc => k_ne); (case lo => k_asm); (case hd => k_asm); (case hf => k_asm); (case hc => omega); (case hn => assumption); (case cap => assumption)); (try dsimp only at N')))
local macro_rules | `(tactic| walk_at "my len") => `(tactic| ((try simp only [List.length_append, List.length_cons, List.length_nil]); omega))
local macro_rules | `(tactic| walk_at "binaryOp Add ref ref") => `(tactic| (k_here; k_dflt (refine' my_add ?F ?N ?a ?b ?z ?z2 ?_; (case F => k_asm); (case N => k_asm); (case a => k_mem); (case b => k_mem); (case z => walk_at "my len"); (case z2 => walk_at "my len")); intro D' h' F' N' l1; (try k_lt l1)))
local macro_rules | `(tactic| walk_at "subscriptTail Name Slice ref ref") => `(tactic| (k_here; k_dflt (refine' my_slice_neg ?x ?F ?N ?l ?z ?_ ?s ?t; (case F => k_asm); (case N => k_asm); (case l => k_mem); (case x => omega); (case z => walk_at "my len"); (case s => with_unfolding_all rfl); (case t => kmk_pure)); intro D' h' F' N' l1; (try k_lt l1)))
local macro_rules | `(tactic| walk_at "my in") => `(tactic| first | assumption | exact List.mem_cons_self | (refine List.mem_cons_of_mem _ ?_; walk_at "my in"))
local macro_rules | `(tactic| walk_at "my incl") => `(tactic| first | exact List.forall_mem_nil _ | (refine List.forall_mem_cons.mpr ⟨?_, ?_⟩; (focus walk_at "my in"); walk_at "my incl") | (intro p9 hp9; walk_at "my in"))
local macro_rules | `(tactic| walk_at "my split") => `(tactic| repeat (rename _ ∧ _ => hA9; obtain ⟨hA1, hA2⟩ := hA9))
local macro_rules | `(tactic| walk_at "my off") => `(tactic| exact fun p hp => Nat.ne_of_lt (allLt_all (by assumption) p hp))
local macro_rules | `(tactic| walk_at "my newx") => `(tactic| exact ⟨by (refine neN ?_; omega), by (refine neN ?_; omega), by walk_at "my off", by first | (refine neN ?_; omega) | omega⟩)
local macro_rules | `(tactic| walk_at "my new") => `(tactic| exact ⟨by (refine neN ?_; omega), by (refine neN ?_; omega), by walk_at "my off"⟩)
local macro_rules | `(tactic| k_mem) => `(tactic| walk_at "my in")
local macro_rules | `(tactic| walk_at "my more") => `(tactic| first | exact .inr rfl | exact .inl ⟨rfl, rfl⟩)
local macro_rules | `(tactic| walk_at "call ref") => `(tactic| (k_here; (with_reducible show wpAny _ _ (call (Value.ref 102) _) _ _ _); k_dflt (first
  | (refine' get_yes ?mo ?B ?dp ?X ?T ?F ?N ?x ?dd ?U ?xd ?xc ?dc ?lo ?hd ?hf ?hc ?hk (fun h' o' kvs' tk' t' F' N' hd' hf' => ?_); (case mo => walk_at "my more"); (case B => k_asm); (case dp => walk_at "my dp"); (case X => k_in); (case T => k_asm); (case F => k_asm); (case N => k_asm); (case x => k_mem); (case dd => k_mem); (case U => k_updF); (case xd => k_ne); (case xc => k_ne); (case dc => k_ne); (case lo => k_asm); (case hd => k_asm); (case hf => k_asm); (case hc => omega); (case hk => assumption))
  | (refine' get_no ?mo ?B ?dp ?X ?T ?F ?N ?x ?dd ?U ?xd ?xc ?dc ?lo ?hd ?hf ?hc ?hk (fun h' tk' F' N' => ?_); (case mo => walk_at "my more"); (case B => k_asm); (case dp => walk_at "my dp"); (case X => k_in); (case T => k_asm); (case F => k_asm); (case N => k_asm); (case x => k_mem); (case dd => k_mem); (case U => k_updF); (case xd => k_ne); (case xc => k_ne); (case dc => k_ne); (case lo => k_asm); (case hd => k_asm); (case hf => k_asm); (case hc => omega); (case hk => assumption))); (try dsimp only at N')))
section
variable {w : World} {h₀ : Heap} {L fa : Addr} {cdv : Value} {p : Program} {loose : List Str} {mean : ExcName → Option Value} {mg mb : Str → Option Value} {l ck cm x d dc R H G : Addr} {vs0 vs hs gs : List Value} {ns : List Int} {room num k : Int} {tr ta tb tn tw tk : Tok} {cap : Value} {ock ocm od : Obj} {kvs : List (Int × Value)} {c : Prs} {n : Nat}
  {tail : List (Addr × Obj)} {m : Str → Option Value} {s : Shared} {E : Value → Shared → Prop} {Q : Flow → Shared → Prop}
set_option maxRecDepth 100000 in
set_option maxHeartbeats 8000000 in
theorem st44 (B : Below callerA h₀ [] h₀) (X : (hd.heap_39 w.params).In h₀) (T : Top p loose mean mg mb h₀)
  (hm : ∀ p ∈ [(Str.ofString "room", Value.int room tr), (Str.ofString "rows", Value.ref R), (Str.ofString "number", Value.int num tn), (Str.ofString "way", Value.int 4 tw), (Str.ofString "here", Value.ref H), (Str.ofString "rest", Value.ref G)], m p.1 = some p.2) (F : Fr h₀ L s.heap m)
  (N : News h₀ L s.heap ((L + 1 + 1, ock) :: (L + 1, ocm) :: (x, instObj 112 d) :: (d, inD w ta tb cap dc) :: (dc, od) :: (R, listOf vs.toArray n) :: (H, LCg.lst hs) :: (G, LCg.lst gs) :: tail))
  (hck : ock.data = .cell (some (.int k tk))) (hcm : ocm.data = .cell (some (.ref x))) {tl0 : List (Addr × Obj)} (hsub : ∀ p ∈ tl0, p ∈ tail) (hR : RowsIn tl0 vs c) (hH : RowsIn tl0 hs (c.filter fun p => decide (p.1 = k))) (hG : RowsIn tl0 gs (kdyDel c k))
  (lo : (dc == sysModules) = false) (hd : od.IsDictOf (intKind Challenge.rw_fk5013_01.row.prog w) kvs) (hf : PyProof.V.FlatPairs PyData.int kvs (kdfD c)) (hlen : c.length ≤ 60) (hn : (c.map (·.1)).Nodup) (hr : ∀ k ∈ c.map (·.1), 0 ≤ k ∧ k < ((5 : Nat) : Int)) (hk1 : 0 ≤ k) (hk2 : k < ((5 : Nat) : Int))
  (hcap : (room = 4 ∧ cap = .none) ∨ ∃ tr2, 1 ≤ room ∧ room < 4 ∧ cap = .int room tr2 ∧ (c.length : Int) ≤ room)
  (hoff : OwnOff tail [dc]) (e1 : L + 1 + 1 ≠ dc) (e2 : L + 1 ≠ dc) (e3 : x ≠ dc) (e4 : d ≠ dc) (e5 : R ≠ dc) (e6 : H ≠ dc) (e7 : G ≠ dc) (e8 : x ≠ d) (e9 : R ≠ L + 1 + 1) (e10 : ∀ p ∈ tail, p.1 ≠ R) (e11 : G ≠ L + 1 + 1) (e12 : ∀ p ∈ tail, p.1 ≠ G)
  (done : ∀ h' tk' m' od' kvs' c' R' vs' n' extra, Fr h₀ L h' m' → m' "rows" = some (.ref R') → (∀ y : Str, y ≠ "rows" → y ≠ "told" → m' y = m y) →
    News h₀ L h' ((L + 1 + 1, ock) :: (L + 1, ocm) :: (x, instObj 112 d) :: (d, inD w ta tb cap dc) :: (dc, od') :: (R', listOf vs'.toArray n') :: (extra ++ tail)) →
    od'.IsDictOf (intKind Challenge.rw_fk5013_01.row.prog w) kvs' → PyProof.V.FlatPairs PyData.int kvs' (kdfD c') → RowsIn (extra ++ tl0) vs' c' → (c'.map (·.1)).Nodup → (∀ k ∈ c'.map (·.1), 0 ≤ k ∧ k < ((5 : Nat) : Int)) → (c'.length ≤ c.length + 1 ∧ (room < 4 → (c'.length : Int) ≤ room)) →
    (R' ≠ dc ∧ R' ≠ L + 1 + 1 ∧ ∀ p ∈ tail, p.1 ≠ R') → (∀ q ∈ extra, q.1 ≠ dc ∧ q.1 ≠ L + 1 + 1 ∧ (∀ p ∈ tail, p.1 ≠ q.1) ∧ q.1 ≠ R') → Q .next { s with heap := h', toks := tk' }) :
  wpAny (model Challenge.rw_fk5013_01.row.prog w) (A1 L fa cdv) (exec (B1 4) (E1 L fa cdv)) Q E s := by
  revert X
  k_fill
  intro X
  unfold A1 E1 B1
  conv in (stAt _ _) => whnf
  conv in (occs := *) (lawS _) => all_goals whnf
  rw [← kst_self hm] at F
  have g1 := hG.length
  have g2 := hR.length
  have g3 := hH.length
  have g4 := kdyDel_len c k
  have hroom : room < 4 → (c.length : Int) ≤ room := by
    intro h
    rcases hcap with ⟨q, _⟩ | ⟨_, _, _, _, q⟩
    · omega
    · exact q
  k_steps
  · rename Fr _ _ _ _ => F9
    rename News _ _ _ _ => N9
    rw [kst_self hm] at F9
    walk_at "my split"
    refine' done _ _ _ _ _ [] _ _ _ [] F9 rfl (fun y h1 h2 => by simp [h1, h2]) (fun p hp => N9 p ?inn) (by assumption) (by assumption) ?rows (by simp) (fun j hj => by simp at hj) ⟨Nat.zero_le _, fun h => by have := hroom h; simp only [List.length_nil]; omega⟩ ?nw (List.forall_mem_nil _)
    case inn =>
      revert p
      simp only [List.nil_append]
      walk_at "my incl"
    case rows => exact RowsIn.nil
    case nw => walk_at "my new"
  · rename Fr _ _ _ _ => F9
    rename News _ _ _ _ => N9
    rw [kst_self hm] at F9
    walk_at "my split"
    refine' done _ _ _ _ _ c R vs n [] F9 (hm _ (.tail _ (.head _))) (fun _ _ _ => rfl) (fun p hp => N9 p ?inn) (by assumption) (by assumption) ?rows hn hr ⟨Nat.le_succ _, hroom⟩ ?nw (List.forall_mem_nil _)
    case inn =>
      revert p
      simp only [List.nil_append]
      walk_at "my incl"
    case rows => exact hR
    case nw => exact ⟨e5, e9, e10⟩
end
end Mine
end
section
open PySem PySem.W PyProof.Rows
namespace Mine
section
variable {w : World} {h₀ : Heap} {L fa : Addr} {cdv : Value} {p : Program} {loose : List Str} {mean : ExcName → Option Value} {mg mb : Str → Option Value} {l ck cm x d dc R H G : Addr} {vs0 vs hs gs : List Value} {ns : List Int} {room num k : Int} {tr ta tb tn tw tk : Tok} {cap : Value} {ock ocm od : Obj} {kvs : List (Int × Value)} {c : Prs} {n : Nat}
  {tail : List (Addr × Obj)} {m : Str → Option Value} {s : Shared} {E : Value → Shared → Prop} {Q : Flow → Shared → Prop}
set_option maxRecDepth 100000 in
set_option maxHeartbeats 8000000 in
theorem st4 {way : Int} (hw1 : 0 ≤ way) (hw2 : way < 5) (B : Below callerA h₀ [] h₀) (X : (hd.heap_39 w.params).In h₀) (T : Top p loose mean mg mb h₀)
  (hm : ∀ p ∈ [(Str.ofString "room", Value.int room tr), (Str.ofString "rows", Value.ref R), (Str.ofString "number", Value.int num tn), (Str.ofString "way", Value.int way tw), (Str.ofString "here", Value.ref H), (Str.ofString "rest", Value.ref G)], m p.1 = some p.2) (F : Fr h₀ L s.heap m)
  (N : News h₀ L s.heap ((L + 1 + 1, ock) :: (L + 1, ocm) :: (x, instObj 112 d) :: (d, inD w ta tb cap dc) :: (dc, od) :: (R, listOf vs.toArray n) :: (H, LCg.lst hs) :: (G, LCg.lst gs) :: tail))
  (hck : ock.data = .cell (some (.int k tk))) (hcm : ocm.data = .cell (some (.ref x))) {tl0 : List (Addr × Obj)} (hsub : ∀ p ∈ tl0, p ∈ tail) (hR : RowsIn tl0 vs c) (hH : RowsIn tl0 hs (c.filter fun p => decide (p.1 = k))) (hG : RowsIn tl0 gs (kdyDel c k))
  (lo : (dc == sysModules) = false) (hd : od.IsDictOf (intKind Challenge.rw_fk5013_01.row.prog w) kvs) (hf : PyProof.V.FlatPairs PyData.int kvs (kdfD c)) (hlen : c.length ≤ 60) (hn : (c.map (·.1)).Nodup) (hr : ∀ k ∈ c.map (·.1), 0 ≤ k ∧ k < ((5 : Nat) : Int)) (hk1 : 0 ≤ k) (hk2 : k < ((5 : Nat) : Int))
  (hcap : (room = 4 ∧ cap = .none) ∨ ∃ tr2, 1 ≤ room ∧ room < 4 ∧ cap = .int room tr2 ∧ (c.length : Int) ≤ room)
  (hoff : OwnOff tail [dc]) (e1 : L + 1 + 1 ≠ dc) (e2 : L + 1 ≠ dc) (e3 : x ≠ dc) (e4 : d ≠ dc) (e5 : R ≠ dc) (e6 : H ≠ dc) (e7 : G ≠ dc) (e8 : x ≠ d) (e9 : R ≠ L + 1 + 1) (e10 : ∀ p ∈ tail, p.1 ≠ R) (e11 : G ≠ L + 1 + 1) (e12 : ∀ p ∈ tail, p.1 ≠ G)
  (done : ∀ h' tk' m' od' kvs' c' R' vs' n' extra, Fr h₀ L h' m' → m' "rows" = some (.ref R') → (∀ y : Str, y ≠ "rows" → y ≠ "told" → m' y = m y) →
    News h₀ L h' ((L + 1 + 1, ock) :: (L + 1, ocm) :: (x, instObj 112 d) :: (d, inD w ta tb cap dc) :: (dc, od') :: (R', listOf vs'.toArray n') :: (extra ++ tail)) →
    od'.IsDictOf (intKind Challenge.rw_fk5013_01.row.prog w) kvs' → PyProof.V.FlatPairs PyData.int kvs' (kdfD c') → RowsIn (extra ++ tl0) vs' c' → (c'.map (·.1)).Nodup → (∀ k ∈ c'.map (·.1), 0 ≤ k ∧ k < ((5 : Nat) : Int)) → (c'.length ≤ c.length + 1 ∧ (room < 4 → (c'.length : Int) ≤ room)) →
    (R' ≠ dc ∧ R' ≠ L + 1 + 1 ∧ ∀ p ∈ tail, p.1 ≠ R') → (∀ q ∈ extra, q.1 ≠ dc ∧ q.1 ≠ L + 1 + 1 ∧ (∀ p ∈ tail, p.1 ≠ q.1) ∧ q.1 ≠ R') → Q .next { s with heap := h', toks := tk' }) :
  wpAny (model Challenge.rw_fk5013_01.row.prog w) (A1 L fa cdv) (exec (B1 4) (E1 L fa cdv)) Q E s := by
  have hw : way = 0 ∨ way = 1 ∨ way = 2 ∨ way = 3 ∨ way = 4 := by omega
  rcases hw with rfl | rfl | rfl | rfl | rfl
  · rcases hcap with hcap | hcap
    · exact st40a B X T hm F N hck hcm hsub hR hH hG lo hd hf hlen hn hr hk1 hk2 hcap hoff e1 e2 e3 e4 e5 e6 e7 e8 e9 e10 e11 e12 done
    · exact st40b B X T hm F N hck hcm hsub hR hH hG lo hd hf hlen hn hr hk1 hk2 hcap hoff e1 e2 e3 e4 e5 e6 e7 e8 e9 e10 e11 e12 done
  · exact st41 B X T hm F N hck hcm hsub hR hH hG lo hd hf hlen hn hr hk1 hk2 hcap hoff e1 e2 e3 e4 e5 e6 e7 e8 e9 e10 e11 e12 done
  · exact st42 B X T hm F N hck hcm hsub hR hH hG lo hd hf hlen hn hr hk1 hk2 hcap hoff e1 e2 e3 e4 e5 e6 e7 e8 e9 e10 e11 e12 done
  · exact st43 B X T hm F N hck hcm hsub hR hH hG lo hd hf hlen hn hr hk1 hk2 hcap hoff e1 e2 e3 e4 e5 e6 e7 e8 e9 e10 e11 e12 done
  · exact st44 B X T hm F N hck hcm hsub hR hH hG lo hd hf hlen hn hr hk1 hk2 hcap hoff e1 e2 e3 e4 e5 e6 e7 e8 e9 e10 e11 e12 done
end
end Mine
end
theorem Mine.offW01 : True := by
  w_top off
  exact trivial
section
local macro_rules | `(tactic| walk_at "my pad") => `(tactic| fail)
local macro_rules | `(tactic| walk_at "my pad") => `(tactic| fail)
local macro_rules | `(tactic| walk_at "my pad") => `(tactic| fail)
local macro_rules | `(tactic| walk_at "my pad") => `(tactic| fail)
local macro_rules | `(tactic| walk_at "my pad") => `(tactic| fail)
local macro_rules | `(tactic| walk_at "my pad") => `(tactic| fail)
local macro_rules | `(tactic| walk_at "my pad") => `(tactic| fail)
local macro_rules | `(tactic| walk_at "my pad") => `(tactic| fail)
local macro_rules | `(tactic| walk_at "my pad") => `(tactic| fail)
local macro_rules | `(tactic| walk_at "my pad") => `(tactic| fail)
local macro_rules | `(tactic| walk_at "my pad") => `(tactic| fail)
local macro_rules | `(tactic| walk_at "my pad") => `(tactic| fail)
local macro_rules | `(tactic| walk_at "my pad") => `(tactic| fail)
local macro_rules | `(tactic| walk_at "my pad") => `(tactic| fail)
local macro_rules | `(tactic| walk_at "my pad") => `(tactic| fail)
local macro_rules | `(tactic| walk_at "my pad") => `(tactic| fail)
local macro_rules | `(tactic| walk_at "my pad") => `(tactic| fail)
local macro_rules | `(tactic| walk_at "my pad") => `(tactic| fail)
local macro_rules | `(tactic| walk_at "my pad") => `(tactic| fail)
local macro_rules | `(tactic| walk_at "my pad") => `(tactic| fail)
local macro_rules | `(tactic| walk_at "my pad") => `(tactic| fail)
local macro_rules | `(tactic| walk_at "my pad") => `(tactic| fail)
local macro_rules | `(tactic| walk_at "my pad") => `(tactic| fail)
local macro_rules | `(tactic| walk_at "my pad") => `(tactic| fail)
local macro_rules | `(tactic| walk_at "my pad") => `(tactic| fail)
local macro_rules | `(tactic| walk_at "my pad") => `(tactic| fail)
local macro_rules | `(tactic| walk_at "my pad") => `(tactic| fail)
local macro_rules | `(tactic| walk_at "my pad") => `(tactic| fail)
local macro_rules | `(tactic| walk_at "my pad") => `(tactic| fail)
local macro_rules | `(tactic| walk_at "my pad") => `(tactic| fail)
local macro_rules | `(tactic| walk_at "my pad") => `(tactic| fail)
local macro_rules | `(tactic| walk_at "my pad") => `(tactic| fail)
local macro_rules | `(tactic| walk_at "my pad") => `(tactic| fail)
local macro_rules | `(tactic| walk_at "my pad") => `(tactic| fail)
local macro_rules | `(tactic| walk_at "my pad") => `(tactic| fail)
local macro_rules | `(tactic| walk_at "my pad") => `(tactic| fail)
local macro_rules | `(tactic| walk_at "my pad") => `(tactic| fail)
local macro_rules | `(tactic| walk_at "my pad") => `(tactic| fail)
local macro_rules | `(tactic| walk_at "my pad") => `(tactic| fail)
local macro_rules | `(tactic| walk_at "my pad") => `(tactic| fail)
local macro_rules | `(tactic| walk_at "my pad") => `(tactic| fail)
local macro_rules | `(tactic| walk_at "my pad") => `(tactic| fail)
local macro_rules | `(tactic| walk_at "my pad") => `(tactic| fail)
local macro_rules | `(tactic| walk_at "my pad") => `(tactic| fail)
local macro_rules | `(tactic| walk_at "my pad") => `(tactic| fail)
local macro_rules | `(tactic| walk_at "my pad") => `(tactic| fail)
local macro_rules | `(tactic| walk_at "my pad") => `(tactic| fail)
local macro_rules | `(tactic| walk_at "my pad") => `(tactic| fail)
local macro_rules | `(tactic| walk_at "my pad") => `(tactic| fail)
local macro_rules | `(tactic| walk_at "my pad") => `(tactic| fail)
local macro_rules | `(tactic| walk_at "my pad") => `(tactic| fail)
local macro_rules | `(tactic| walk_at "my pad") => `(tactic| fail)
local macro_rules | `(tactic| walk_at "my pad") => `(tactic| fail)
local macro_rules | `(tactic| walk_at "my pad") => `(tactic| fail)
local macro_rules | `(tactic| walk_at "my pad") => `(tactic| fail)
local macro_rules | `(tactic| walk_at "my pad") => `(tactic| fail)
local macro_rules | `(tactic| walk_at "my pad") => `(tactic| fail)
local macro_rules | `(tactic| walk_at "my pad") => `(tactic| fail)
local macro_rules | `(tactic| walk_at "my pad") => `(tactic| fail)
local macro_rules | `(tactic| walk_at "my pad") => `(tactic| fail)
local macro_rules | `(tactic| walk_at "my pad") => `(tactic| fail)
local macro_rules | `(tactic| walk_at "my pad") => `(tactic| fail)
local macro_rules | `(tactic| walk_at "my pad") => `(tactic| fail)
local macro_rules | `(tactic| walk_at "my pad") => `(tactic| fail)
local macro_rules | `(tactic| walk_at "my pad") => `(tactic| fail)
local macro_rules | `(tactic| walk_at "my pad") => `(tactic| fail)
local macro_rules | `(tactic| walk_at "my pad") => `(tactic| fail)
local macro_rules | `(tactic| walk_at "my pad") => `(tactic| fail)
local macro_rules | `(tactic| walk_at "my pad") => `(tactic| fail)
local macro_rules | `(tactic| walk_at "my pad") => `(tactic| fail)
local macro_rules | `(tactic| walk_at "my pad") => `(tactic| fail)
local macro_rules | `(tactic| walk_at "my pad") => `(tactic| fail)
local macro_rules | `(tactic| walk_at "my pad") => `(tactic| fail)
local macro_rules | `(tactic| walk_at "my pad") => `(tactic| fail)
local macro_rules | `(tactic| walk_at "my pad") => `(tactic| fail)
local macro_rules | `(tactic| walk_at "my pad") => `(tactic| fail)
local macro_rules | `(tactic| walk_at "my pad") => `(tactic| fail)
local macro_rules | `(tactic| walk_at "my pad") => `(tactic| fail)
local macro_rules | `(tactic| walk_at "my pad") => `(tactic| fail)
local macro_rules | `(tactic| walk_at "my pad") => `(tactic| fail)
local macro_rules | `(tactic| walk_at "my pad") => `(tactic| fail)
local macro_rules | `(tactic| walk_at "my pad") => `(tactic| fail)
local macro_rules | `(tactic| walk_at "my pad") => `(tactic| fail)
local macro_rules | `(tactic| walk_at "my pad") => `(tactic| fail)
local macro_rules | `(tactic| walk_at "my pad") => `(tactic| fail)
local macro_rules | `(tactic| walk_at "my pad") => `(tactic| fail)
local macro_rules | `(tactic| walk_at "my pad") => `(tactic| fail)
local macro_rules | `(tactic| walk_at "my pad") => `(tactic| fail)
local macro_rules | `(tactic| walk_at "my pad") => `(tactic| fail)
local macro_rules | `(tactic| walk_at "my pad") => `(tactic| fail)
local macro_rules | `(tactic| walk_at "my pad") => `(tactic| fail)
local macro_rules | `(tactic| walk_at "my pad") => `(tactic| fail)
local macro_rules | `(tactic| walk_at "my pad") => `(tactic| fail)
local macro_rules | `(tactic| walk_at "my pad") => `(tactic| fail)
local macro_rules | `(tactic| walk_at "my pad") => `(tactic| fail)
local macro_rules | `(tactic| walk_at "my pad") => `(tactic| fail)
local macro_rules | `(tactic| walk_at "my pad") => `(tactic| fail)
local macro_rules | `(tactic| walk_at "my pad") => `(tactic| fail)
local macro_rules | `(tactic| walk_at "my pad") => `(tactic| fail)
local macro_rules | `(tactic| walk_at "my pad") => `(tactic| fail)
local macro_rules | `(tactic| walk_at "my pad") => `(tactic| fail)
local macro_rules | `(tactic| walk_at "my pad") => `(tactic| fail)
local macro_rules | `(tactic| walk_at "my pad") => `(tactic| fail)
local macro_rules | `(tactic| walk_at "my pad") => `(tactic| fail)
local macro_rules | `(tactic| walk_at "my pad") => `(tactic| fail)
local macro_rules | `(tactic| walk_at "my pad") => `(tactic| fail)
local macro_rules | `(tactic| walk_at "my pad") => `(tactic| fail)
local macro_rules | `(tactic| walk_at "my pad") => `(tactic| fail)
open PySem PySem.W PyProof.Rows
namespace Mine
theorem off1_mem {D : Addr} : ∀ {l : List (Addr × Obj)}, LCg.Off1 D l → ∀ p ∈ l, p.1 ≠ D
  | [], _, _, h => nomatch h
  | _ :: _, x, p, h => by
    rcases List.mem_cons.mp h with rfl | h
    · exact x.1
    · exact off1_mem x.2 p h
/-- what holds between two turns of the law's loop -/
def J1 (w : World) (L l x d dc : Addr) (room : Int) (tr ta tb : Tok) (cap : Value) (i : Nat) (m : Str → Option Value) (nx : List (Addr × Obj)) : Prop :=
  ∃ (ock ocm od : Obj) (ov : Option Value) (kvs : List (Int × Value)) (c : Prs) (R : Addr) (vs : List Value) (n : Nat) (tl : List (Addr × Obj)),
    nx = (L + 1 + 1, ock) :: (L + 1, ocm) :: (x, instObj 112 d) :: (d, inD w ta tb cap dc) :: (dc, od) :: (R, listOf vs.toArray n) :: tl ∧
    (∀ p ∈ [(Str.ofString "script", Value.ref l), (Str.ofString "room", Value.int room tr), (Str.ofString "rows", Value.ref R)], m p.1 = some p.2) ∧
    ock.data = .cell ov ∧ ocm.data = .cell (some (.ref x)) ∧ od.IsDictOf (intKind Challenge.rw_fk5013_01.row.prog w) kvs ∧ PyProof.V.FlatPairs PyData.int kvs (kdfD c) ∧ RowsIn tl vs c ∧
    (c.map (·.1)).Nodup ∧ (∀ k ∈ c.map (·.1), 0 ≤ k ∧ k < ((5 : Nat) : Int)) ∧ c.length ≤ i ∧ (room < 4 → (c.length : Int) ≤ room) ∧
    R ≠ dc ∧ R ≠ L + 1 + 1 ∧ (∀ p ∈ tl, p.1 ≠ dc ∧ p.1 ≠ L + 1 + 1 ∧ p.1 ≠ R)
section
variable {w : World} {h₀ : Heap} {L fa : Addr} {cdv : Value} {p : Program} {loose : List Str} {mean : ExcName → Option Value} {mg mb : Str → Option Value} {l x d dc : Addr} {vs0 : List Value} {ns : List Int} {room : Int} {tr ta tb : Tok} {cap : Value}
  {own nx : List (Addr × Obj)} {m : Str → Option Value} {s : Shared} {E : Value → Shared → Prop} {Q : Flow → Shared → Prop}
local macro_rules | `(tactic| walk_at "my in") => `(tactic| first | assumption | exact List.mem_cons_self | (refine List.mem_cons_of_mem _ ?_; walk_at "my in"))
local macro_rules | `(tactic| walk_at "my incl") => `(tactic| first | exact List.forall_mem_nil _ | (refine List.forall_mem_cons.mpr ⟨?_, ?_⟩; (focus walk_at "my in"); walk_at "my incl") | (intro p9 hp9; walk_at "my in"))
theorem body1 : forB Challenge.rw_fk5013_01.row.prog 2 = [B1 0, B1 1, B1 2, B1 3, B1 4, B1 5, B1 6] := rfl
set_option maxRecDepth 100000 in
set_option maxHeartbeats 8000000 in
theorem turn1 {i : Nat} {t : Tok} (B : Below callerA h₀ [] h₀) (X : (hd.heap_39 w.params).In h₀) (T : Top p loose mean mg mb h₀) (hl : h₀.IsList l vs0.toArray) (hi0 : IntsAre vs0 ns) (hns : ns.length ≤ 63) (hi : i ≤ 9)
  (hcap : (room = 4 ∧ cap = .none) ∨ ∃ tr2, 1 ≤ room ∧ room < 4 ∧ cap = .int room tr2) (lo : (dc == sysModules) = false)
  (e1 : L + 1 + 1 ≠ dc) (e2 : L + 1 ≠ dc) (e3 : x ≠ dc) (e4 : d ≠ dc) (e8 : x ≠ d) (e13 : x ≠ L + 1 + 1) (e14 : d ≠ L + 1 + 1)
  (hJ : J1 w L l x d dc room tr ta tb cap i m nx) (hsep : OwnOff own (nx.map (·.1)))
  (F : Fr h₀ L s.heap (fun y => if y = "at" then some (.int (1 + (i : Int)) t) else m y)) (N : News h₀ L s.heap (nx ++ own)) :
  wpAny (model Challenge.rw_fk5013_01.row.prog w) (A1 L fa cdv) (execs (forB Challenge.rw_fk5013_01.row.prog 2) (E1 L fa cdv)) (InvPostG h₀ L (J1 w L l x d dc room tr ta tb cap (i + 1)) own s Q) E s := by
  obtain ⟨ock, ocm, od, ov, kvs, c, R, vs, n, tl, rfl, hm, hck, hcm, hd, hf, hR, hn, hr, hlen, hroom, e5, e9, htl⟩ := hJ
  rw [body1]
  have hs : ∀ b, b ∈ [L + 1 + 1, L + 1, x, d, dc, R] → ∀ p ∈ own, p.1 ≠ b := fun b hb p hp => hsep p hp b (by
    simp only [List.map_cons, List.mem_cons, List.not_mem_nil, or_false] at hb ⊢
    rcases hb with rfl | rfl | rfl | rfl | rfl | rfl <;> simp)
  have hst : ∀ p ∈ own, ∀ q ∈ tl, p.1 ≠ q.1 := fun p hp q hq => hsep p hp q.1 (by
    simp only [List.map_cons, List.mem_cons]
    exact .inr (.inr (.inr (.inr (.inr (.inr (List.mem_map_of_mem hq)))))))
  refine wpAny_execs_cons (st0 (a := 1 + (i : Int)) (tat := t) B X T hl hi0 hns (by omega) (by omega) (fun q hq => ?_) F N fun num t0 h1 tk1 hnum F1 N1 => ?_)
  · rcases List.mem_cons.mp hq with rfl | hq
    · exact hm _ (.head _)
    · rw [List.mem_singleton.mp hq]; rfl
  refine wpAny_execs_cons (st1 (num := num) (tn := t0) (ock := ock) (ov := ov) (tail := (L + 1, ocm) :: (x, instObj 112 d) :: (d, inD w ta tb cap dc) :: (dc, od) :: (R, listOf vs.toArray n) :: (tl ++ own)) X (fun q hq => by rw [List.mem_singleton.mp hq]; rfl) F1 (fun p hp => N1 p hp) hck ?_ fun t2 t3 ock2 h2 tk2 hck2 F2 N2 => ?_)
  · intro p hp b hb
    rw [List.mem_singleton.mp hb]
    simp only [List.mem_cons, List.mem_append] at hp
    rcases hp with rfl | rfl | rfl | rfl | rfl | hp | hp
    · exact fun e => absurd e (by show L + 1 ≠ L + 1 + 1; exact (Nat.ne_of_lt (Nat.lt_succ_self _)))
    · exact e13
    · exact e14
    · exact Ne.symm e1
    · exact e9
    · exact (htl p hp).2.1
    · exact hs _ (.head _) p hp
  have hk1 : 0 ≤ (num.fdiv 5).fmod 5 := by rw [Int.fmod_eq_emod_of_nonneg _ (by decide)]; omega
  have hk2 : (num.fdiv 5).fmod 5 < ((5 : Nat) : Int) := by rw [Int.fmod_eq_emod_of_nonneg _ (by decide)]; omega
  have hw1 : 0 ≤ num.fmod 5 := by rw [Int.fmod_eq_emod_of_nonneg _ (by decide)]; omega
  have hw2 : num.fmod 5 < 5 := by rw [Int.fmod_eq_emod_of_nonneg _ (by decide)]; omega
  generalize (num.fdiv 5).fmod 5 = k at hk1 hk2 hck2
  generalize num.fmod 5 = way at hw1 hw2 F2
  refine wpAny_execs_cons (st2 (c := c) (vs := vs) (n := n) (R := R) (tl0 := tl) (tail := (L + 1, ocm) :: (x, instObj 112 d) :: (d, inD w ta tb cap dc) :: (dc, od) :: (tl ++ own)) X (fun q hq => by rw [List.mem_singleton.mp hq]; exact hm _ (.tail _ (.tail _ (.head _)))) F2 (fun p hp => N2 p (by revert p; walk_at "my incl")) hck2 (fun p hp => by simp [hp]) hR (by omega) fun H hs1 h3 tk3 F3 N3 hH hoH => ?_)
  refine wpAny_execs_cons (st3 (c := c) (vs := vs) (n := n) (R := R) (tl0 := tl) (tail := (H, LCg.lst hs1) :: (L + 1, ocm) :: (x, instObj 112 d) :: (d, inD w ta tb cap dc) :: (dc, od) :: (tl ++ own)) X (fun q hq => by rw [List.mem_singleton.mp hq]; exact hm _ (.tail _ (.tail _ (.head _)))) F3 (fun p hp => N3 p (by revert p; walk_at "my incl")) hck2 (fun p hp => by simp [hp]) hR (by omega) fun G gs1 h4 tk4 F4 N4 hG hoG => ?_)
  have oH := off1_mem hoH
  have oG := off1_mem hoG
  have hap : ∀ p ∈ tl ++ own, p.1 ≠ dc ∧ p.1 ≠ R := fun p hp => (List.mem_append.mp hp).elim (fun h => ⟨(htl p h).1, (htl p h).2.2⟩) (fun h => ⟨hs _ (by simp) p h, hs _ (by simp) p h⟩)
  refine wpAny_execs_cons (st4 (cap := cap) (ta := ta) (tb := tb) (H := H) (G := G) (R := R) (c := c) (vs := vs) (n := n) (hs := hs1) (gs := gs1) (way := way) (k := k) (num := num) (room := room) (tr := tr) (tn := t0) (tw := t3) (tk := t2) (tl0 := tl) (tail := tl ++ own) hw1 hw2 B X T ?hm F4 ?N hck2 hcm (fun p hp => List.mem_append_left _ hp) hR hH hG lo hd hf (by omega) hn hr hk1 hk2 ?cap (fun p hp b hb => by rw [List.mem_singleton.mp hb]; exact (hap p hp).1) e1 e2 e3 e4 e5 ?e6 ?e7 e8 e9 (fun p hp => (hap p hp).2) ?e11 ?e12 fun h5 tk5 m5 od5 kvs5 c5 R5 vs5 n5 extra F5 hrow hsame N5 hd5 hf5 hR5 hn5 hr5 hlen5 hR5' hex => ?_)
  case hm =>
    intro q hq
    simp only [List.mem_cons, List.not_mem_nil, or_false] at hq
    rcases hq with rfl | rfl | rfl | rfl | rfl | rfl
    · exact hm _ (.tail _ (.head _))
    · exact hm _ (.tail _ (.tail _ (.head _)))
    · rfl
    · rfl
    · rfl
    · rfl
  case N =>
    intro p hp
    exact N4 p (by revert p; walk_at "my incl")
  case cap =>
    rcases hcap with hq | ⟨a, b, q, r⟩
    · exact .inl hq
    · exact .inr ⟨a, b, q, r, hroom q⟩
  case e6 => exact Ne.symm (oH (dc, od) (by simp))
  case e7 => exact Ne.symm (oG (dc, od) (by simp))
  case e11 => exact Ne.symm (oG (L + 1 + 1, ock2) (by simp))
  case e12 => exact fun p hp => oG p (by simp only [List.mem_cons]; simp only [List.mem_append] at hp ⊢; simp [hp])
  refine wpAny_execs_cons (st5 (cap := cap) (ta := ta) (tb := tb) (d := d) (c := c5) (R := R5) (vs := vs5) (n := n5) (tail := (extra ++ tl) ++ ((L + 1 + 1, ock2) :: own)) B X T (fun q hq => by rw [List.mem_singleton.mp hq]; exact hrow) F5 (fun p hp => N5 p ?_) hcm (hR5.mono fun p hp => List.mem_append_left _ hp) (by omega) lo hd5 hf5 fun h6 tk6 F6 N6 => ?_)
  · simp only [List.mem_cons, List.mem_append] at hp ⊢
    rcases hp with rfl | rfl | rfl | rfl | rfl | (hp | hp) | rfl | hp <;> simp [*]
  refine wpAny_execs_cons (st6 (cap := cap) (ta := ta) (tb := tb) (d := d) (c := c5) (R := R5) (vs := vs5) (n := n5) (tail := (extra ++ tl) ++ ((L + 1 + 1, ock2) :: own)) B X T (fun q hq => by rw [List.mem_singleton.mp hq]; exact hrow) F6 N6 hcm (hR5.mono fun p hp => List.mem_append_left _ hp) (by omega) hn5 hr5 lo hd5 hf5 fun h7 tk7 F7 N7 => ?_)
  refine wpAny_execs_nil ?_
  refine InvEndG.intro F7 N7 ⟨ock2, ocm, od5, _, kvs5, c5, R5, vs5, n5, extra ++ tl, rfl, ?_, hck2, hcm, hd5, hf5, hR5, hn5, hr5, ?_, hlen5.2, hR5'.1, hR5'.2.1, ?_⟩ ?_ ?_ ?_
  · intro q hq
    simp only [List.mem_cons, List.not_mem_nil, or_false] at hq
    rcases hq with rfl | rfl | rfl
    · (show m5 (Str.ofString "script") = _); rw [hsame _ (by decide) (by decide)]; exact hm _ (.head _)
    · (show m5 (Str.ofString "room") = _); rw [hsame _ (by decide) (by decide)]; exact hm _ (.tail _ (.head _))
    · exact hrow
  · have := hlen5.1; omega
  · intro p hp
    rcases List.mem_append.mp hp with hp | hp
    · exact ⟨(hex p hp).1, (hex p hp).2.1, (hex p hp).2.2.2⟩
    · exact ⟨(htl p hp).1, (htl p hp).2.1, hR5'.2.2 p (List.mem_append_left _ hp)⟩
  · intro p hp b hb
    simp only [List.map_cons, List.map_append, List.mem_cons, List.mem_append, List.mem_map] at hb
    rcases hb with rfl | rfl | rfl | rfl | rfl | rfl | ⟨q, hq, rfl⟩ | ⟨q, hq, rfl⟩
    · exact hs _ (by simp) p hp
    · exact hs _ (by simp) p hp
    · exact hs _ (by simp) p hp
    · exact hs _ (by simp) p hp
    · exact hs _ (by simp) p hp
    · exact hR5'.2.2 p (List.mem_append_right _ hp)
    · exact (hex q hq).2.2.1 p (List.mem_append_right _ hp)
    · exact hst p hp q hq
  · intro p hp
    simp only [List.mem_cons, List.mem_append] at hp ⊢
    rcases hp with rfl | rfl | rfl | rfl | rfl | rfl | hp | hp <;> simp [*]
  · intro p hp
    simp [hp]
end
end Mine
end
section
open PySem PySem.W PyProof.Rows
namespace Mine
section
variable {prog : Program} {w : World} {A : Around} {E : Value → Shared → Prop} {s : Shared} {h₀ : Heap} {env : Env} {x : Str} {body : List Stmt} {Q : Flow → Shared → Prop} {r : Addr} {a₀ b₀ : Int} {t₀ u₀ v₀ : Tok} {n : Nat} {m₀ : Str → Option Value} {news : List (Addr × Obj)}
theorem my_range (J : Nat → (Str → Option Value) → List (Addr × Obj) → Prop)
  (hh : A.handled = none) (hr : IsRange s.heap r a₀ b₀ 1 t₀ u₀ v₀) (hsmall : Builtin.Range.small a₀ b₀ 1 = true) (hsz : Builtin.Range.rangeSize a₀ b₀ 1 = (n : Int)) (F : Fr h₀ env.locals s.heap m₀) (N : News h₀ env.locals s.heap news) (hj : J 0 m₀ news)
  (turn : ∀ i t m₁ nx h tk own, i < n → OwnOff own (nx.map (·.1)) → J i m₁ nx → Fr h₀ env.locals h (fun y => if y = x then some (.int (a₀ + (i : Int)) t) else m₁ y) → News h₀ env.locals h (nx ++ own) →
    wpAny (model prog w) A (execs body env) (InvPostG h₀ env.locals (J (i + 1)) own { s with heap := h, toks := tk } Q) E { s with heap := h, toks := tk })
  (done : ∀ m₁ nx h tk, J n m₁ nx → Fr h₀ env.locals h m₁ → News h₀ env.locals h nx → Q .next { s with heap := h, toks := tk }) :
  wpAny (model prog w) A (pyIter (.ref r)) (fun it s₂ => LoopAtV prog w A h₀ env x body Q E it s₂) E s := by
  refine wpAny_pyIter_range hr hsmall ?_
  have W : Walks prog w A s.heap.objs.size [s.heap.objs.size] [s.heap.objs.size] n (fun i v => i < n ∧ ∃ t, v = .int (a₀ + i * 1) t)
      (fun i h => IsRangeIter h s.heap.objs.size (a₀ + (i : Nat) * 1) ((n : Int) - (i : Nat)) 1) := (Walks.range hh _ a₀ 1 n).bound
  refine kdr_loop J W (fun _ h => h) (fun _ h => h) ?_ ?_ ?_ ?_ (by show IsRangeIter _ _ _ _ _; rw [hsz]; simpa using Heap.get?_push_size _ rfl) (F.push _) (fun p hp => ⟨Heap.get?_push_of_some _ (N p hp).1, (N p hp).2⟩) hj ?_ ?_
  · intro i h hi b hb
    rw [List.mem_singleton.mp hb]
    exact ⟨_, hi⟩
  · intro hm
    exact absurd F.ns.lt ((List.mem_singleton.mp hm) ▸ Nat.lt_irrefl _)
  · intro b hb
    rw [List.mem_singleton.mp hb]
    exact next_is_new F
  · intro p hp hI
    exact absurd (Heap.lt_size (N p hp).1) ((List.mem_singleton.mp hI) ▸ Nat.lt_irrefl _)
  · rintro i v m₁ nx h tk own hi ⟨_, t, rfl⟩ hoff hj' F₁ N₁
    have e1 : a₀ + (i : Int) * 1 = a₀ + (i : Int) := by omega
    rw [e1] at F₁
    exact turn i t m₁ nx h tk own hi hoff hj' F₁ N₁
  · intro m₁ nx h tk hj' F₁ N₁
    exact done m₁ nx h tk hj' F₁ N₁
end
end Mine
end
theorem Mine.offP02 : True := by
  w_top off
  exact trivial
section
local macro_rules | `(tactic| walk_at "my pad") => `(tactic| fail)
local macro_rules | `(tactic| walk_at "my pad") => `(tactic| fail)
local macro_rules | `(tactic| walk_at "my pad") => `(tactic| fail)
local macro_rules | `(tactic| walk_at "my pad") => `(tactic| fail)
local macro_rules | `(tactic| walk_at "my pad") => `(tactic| fail)
local macro_rules | `(tactic| walk_at "my pad") => `(tactic| fail)
local macro_rules | `(tactic| walk_at "my pad") => `(tactic| fail)
local macro_rules | `(tactic| walk_at "my pad") => `(tactic| fail)
local macro_rules | `(tactic| walk_at "my pad") => `(tactic| fail)
local macro_rules | `(tactic| walk_at "my pad") => `(tactic| fail)
local macro_rules | `(tactic| walk_at "my pad") => `(tactic| fail)
local macro_rules | `(tactic| walk_at "my pad") => `(tactic| fail)
local macro_rules | `(tactic| walk_at "my pad") => `(tactic| fail)
local macro_rules | `(tactic| walk_at "my pad") => `(tactic| fail)
local macro_rules | `(tactic| walk_at "my pad") => `(tactic| fail)
local macro_rules | `(tactic| walk_at "my pad") => `(tactic| fail)
local macro_rules | `(tactic| walk_at "my pad") => `(tactic| fail)
local macro_rules | `(tactic| walk_at "my pad") => `(tactic| fail)
local macro_rules | `(tactic| walk_at "my pad") => `(tactic| fail)
local macro_rules | `(tactic| walk_at "my pad") => `(tactic| fail)
local macro_rules | `(tactic| walk_at "my pad") => `(tactic| fail)
local macro_rules | `(tactic| walk_at "my pad") => `(tactic| fail)
local macro_rules | `(tactic| walk_at "my pad") => `(tactic| fail)
local macro_rules | `(tactic| walk_at "my pad") => `(tactic| fail)
local macro_rules | `(tactic| walk_at "my pad") => `(tactic| fail)
local macro_rules | `(tactic| walk_at "my pad") => `(tactic| fail)
local macro_rules | `(tactic| walk_at "my pad") => `(tactic| fail)
local macro_rules | `(tactic| walk_at "my pad") => `(tactic| fail)
local macro_rules | `(tactic| walk_at "my pad") => `(tactic| fail)
local macro_rules | `(tactic| walk_at "my pad") => `(tactic| fail)
local macro_rules | `(tactic| walk_at "my pad") => `(tactic| fail)
local macro_rules | `(tactic| walk_at "my pad") => `(tactic| fail)
local macro_rules | `(tactic| walk_at "my pad") => `(tactic| fail)
local macro_rules | `(tactic| walk_at "my pad") => `(tactic| fail)
local macro_rules | `(tactic| walk_at "my pad") => `(tactic| fail)
local macro_rules | `(tactic| walk_at "my pad") => `(tactic| fail)
local macro_rules | `(tactic| walk_at "my pad") => `(tactic| fail)
local macro_rules | `(tactic| walk_at "my pad") => `(tactic| fail)
local macro_rules | `(tactic| walk_at "my pad") => `(tactic| fail)
local macro_rules | `(tactic| walk_at "my pad") => `(tactic| fail)
local macro_rules | `(tactic| walk_at "my pad") => `(tactic| fail)
local macro_rules | `(tactic| walk_at "my pad") => `(tactic| fail)
local macro_rules | `(tactic| walk_at "my pad") => `(tactic| fail)
local macro_rules | `(tactic| walk_at "my pad") => `(tactic| fail)
local macro_rules | `(tactic| walk_at "my pad") => `(tactic| fail)
local macro_rules | `(tactic| walk_at "my pad") => `(tactic| fail)
local macro_rules | `(tactic| walk_at "my pad") => `(tactic| fail)
local macro_rules | `(tactic| walk_at "my pad") => `(tactic| fail)
local macro_rules | `(tactic| walk_at "my pad") => `(tactic| fail)
local macro_rules | `(tactic| walk_at "my pad") => `(tactic| fail)
local macro_rules | `(tactic| walk_at "my pad") => `(tactic| fail)
local macro_rules | `(tactic| walk_at "my pad") => `(tactic| fail)
local macro_rules | `(tactic| walk_at "my pad") => `(tactic| fail)
local macro_rules | `(tactic| walk_at "my pad") => `(tactic| fail)
local macro_rules | `(tactic| walk_at "my pad") => `(tactic| fail)
local macro_rules | `(tactic| walk_at "my pad") => `(tactic| fail)
local macro_rules | `(tactic| walk_at "my pad") => `(tactic| fail)
local macro_rules | `(tactic| walk_at "my pad") => `(tactic| fail)
local macro_rules | `(tactic| walk_at "my pad") => `(tactic| fail)
local macro_rules | `(tactic| walk_at "my pad") => `(tactic| fail)
local macro_rules | `(tactic| walk_at "my pad") => `(tactic| fail)
local macro_rules | `(tactic| walk_at "my pad") => `(tactic| fail)
local macro_rules | `(tactic| walk_at "my pad") => `(tactic| fail)
local macro_rules | `(tactic| walk_at "my pad") => `(tactic| fail)
local macro_rules | `(tactic| walk_at "my pad") => `(tactic| fail)
local macro_rules | `(tactic| walk_at "my pad") => `(tactic| fail)
local macro_rules | `(tactic| walk_at "my pad") => `(tactic| fail)
local macro_rules | `(tactic| walk_at "my pad") => `(tactic| fail)
local macro_rules | `(tactic| walk_at "my pad") => `(tactic| fail)
local macro_rules | `(tactic| walk_at "my pad") => `(tactic| fail)
local macro_rules | `(tactic| walk_at "my pad") => `(tactic| fail)
local macro_rules | `(tactic| walk_at "my pad") => `(tactic| fail)
local macro_rules | `(tactic| walk_at "my pad") => `(tactic| fail)
local macro_rules | `(tactic| walk_at "my pad") => `(tactic| fail)
local macro_rules | `(tactic| walk_at "my pad") => `(tactic| fail)
local macro_rules | `(tactic| walk_at "my pad") => `(tactic| fail)
local macro_rules | `(tactic| walk_at "my pad") => `(tactic| fail)
local macro_rules | `(tactic| walk_at "my pad") => `(tactic| fail)
local macro_rules | `(tactic| walk_at "my pad") => `(tactic| fail)
local macro_rules | `(tactic| walk_at "my pad") => `(tactic| fail)
local macro_rules | `(tactic| walk_at "my pad") => `(tactic| fail)
local macro_rules | `(tactic| walk_at "my pad") => `(tactic| fail)
local macro_rules | `(tactic| walk_at "my pad") => `(tactic| fail)
local macro_rules | `(tactic| walk_at "my pad") => `(tactic| fail)
local macro_rules | `(tactic| walk_at "my pad") => `(tactic| fail)
local macro_rules | `(tactic| walk_at "my pad") => `(tactic| fail)
local macro_rules | `(tactic| walk_at "my pad") => `(tactic| fail)
local macro_rules | `(tactic| walk_at "my pad") => `(tactic| fail)
local macro_rules | `(tactic| walk_at "my pad") => `(tactic| fail)
local macro_rules | `(tactic| walk_at "my pad") => `(tactic| fail)
local macro_rules | `(tactic| walk_at "my pad") => `(tactic| fail)
local macro_rules | `(tactic| walk_at "my pad") => `(tactic| fail)
local macro_rules | `(tactic| walk_at "my pad") => `(tactic| fail)
local macro_rules | `(tactic| walk_at "my pad") => `(tactic| fail)
local macro_rules | `(tactic| walk_at "my pad") => `(tactic| fail)
local macro_rules | `(tactic| walk_at "my pad") => `(tactic| fail)
local macro_rules | `(tactic| walk_at "my pad") => `(tactic| fail)
local macro_rules | `(tactic| walk_at "my pad") => `(tactic| fail)
local macro_rules | `(tactic| walk_at "my pad") => `(tactic| fail)
local macro_rules | `(tactic| walk_at "my pad") => `(tactic| fail)
local macro_rules | `(tactic| walk_at "my pad") => `(tactic| fail)
local macro_rules | `(tactic| walk_at "my pad") => `(tactic| fail)
local macro_rules | `(tactic| walk_at "my pad") => `(tactic| fail)
local macro_rules | `(tactic| walk_at "my pad") => `(tactic| fail)
local macro_rules | `(tactic| walk_at "my pad") => `(tactic| fail)
local macro_rules | `(tactic| walk_at "my pad") => `(tactic| fail)
local macro_rules | `(tactic| walk_at "my pad") => `(tactic| fail)
local macro_rules | `(tactic| walk_at "my pad") => `(tactic| fail)
local macro_rules | `(tactic| walk_at "my pad") => `(tactic| fail)
local macro_rules | `(tactic| walk_at "my pad") => `(tactic| fail)
local macro_rules | `(tactic| walk_at "my pad") => `(tactic| fail)
open PySem PySem.W PyProof.Rows
namespace Mine
structure Stop (P : Prop) : Prop where
  go : P
local macro_rules | `(tactic| walk_at "pyIter ref") => `(tactic| (k_here; refine Stop.go ?_))
section
variable {w : World} {h₀ : Heap} {L fa : Addr} {cdv : Value} {p : Program} {loose : List Str} {mean : ExcName → Option Value} {mg mb : Str → Option Value} {l x d dc : Addr} {vs0 : List Value} {ns : List Int} {room : Int} {tr ta tb : Tok} {cap : Value}
  {nx : List (Addr × Obj)} {m : Str → Option Value} {s : Shared} {E : Value → Shared → Prop} {Q : Flow → Shared → Prop}
abbrev L1 (i : Nat) : Stmt := stAt (lawB Challenge.rw_fk5013_01.row.prog) i
set_option maxRecDepth 100000 in
set_option maxHeartbeats 8000000 in
theorem loop1 (B : Below callerA h₀ [] h₀) (X : (hd.heap_39 w.params).In h₀) (T : Top p loose mean mg mb h₀) (hl : h₀.IsList l vs0.toArray) (hi0 : IntsAre vs0 ns) (hns : ns.length ≤ 63)
  (hcap : (room = 4 ∧ cap = .none) ∨ ∃ tr2, 1 ≤ room ∧ room < 4 ∧ cap = .int room tr2) (lo : (dc == sysModules) = false)
  (e1 : L + 1 + 1 ≠ dc) (e2 : L + 1 ≠ dc) (e3 : x ≠ dc) (e4 : d ≠ dc) (e8 : x ≠ d) (e13 : x ≠ L + 1 + 1) (e14 : d ≠ L + 1 + 1)
  (hm : ∀ p ∈ [(Str.ofString "script", Value.ref l)], m p.1 = some p.2)
  (hJ : J1 w L l x d dc room tr ta tb cap 0 m nx) (F : Fr h₀ L s.heap m) (N : News h₀ L s.heap nx)
  (hE : PassesOwn (model Challenge.rw_fk5013_01.row.prog w) (A1 L fa cdv) (E1 L fa cdv) E)
  (done : ∀ i h' tk m' nx', i ≤ 10 → J1 w L l x d dc room tr ta tb cap i m' nx' → Fr h₀ L h' m' → News h₀ L h' nx' → Q .next { s with heap := h', toks := tk }) :
  wpAny (model Challenge.rw_fk5013_01.row.prog w) (A1 L fa cdv) (exec (L1 2) (E1 L fa cdv)) Q E s := by
  revert X
  k_fill
  intro X
  revert hE
  unfold A1 E1 L1
  conv in (stAt _ _) => whnf
  conv in (occs := *) (lawS _) => all_goals whnf
  intro hE
  rw [← kst_self hm] at F
  refine For_invVF F (by exact rfl) (by exact rfl) ?_ (hE := hE)
  k_steps
  constructor
  rename Fr _ _ _ _ => F9
  rename News _ _ _ nx => N9
  rename IsRange _ _ _ _ _ _ _ _ => R9
  have h9 := ints_size hi0
  have hb : 5 ≤ (if (if ↑ns.length > 5 then (ns.length : Int) else 5) < 11 then if ↑ns.length > 5 then (ns.length : Int) else 5 else 11) ∧ (if (if ↑ns.length > 5 then (ns.length : Int) else 5) < 11 then if ↑ns.length > 5 then (ns.length : Int) else 5 else 11) ≤ 11 := by
    constructor <;> (repeat' split) <;> omega
  rw [kst_self hm] at F9
  refine my_range (J1 w L l x d dc room tr ta tb cap) rfl R9 (small_one (by omega) (by omega) (by omega) (by omega)) (rangeSize_nat _ _) F9 N9 hJ ?_ ?_
  · intro i t m₁ nx h tk own hi hsep hj F₁ N₁
    exact turn1 B X T hl hi0 hns (by omega) hcap lo e1 e2 e3 e4 e8 e13 e14 hj hsep F₁ N₁
  · intro m₁ nx h tk hj F₁ N₁
    exact done _ _ _ _ _ (by omega) hj F₁ N₁
end
end Mine
end
section
open PySem PySem.W PyProof.Rows
namespace Mine
section
variable {prog : Program} {w : World} {A : Around} {E : Value → Shared → Prop} {s : Shared} {h₀ : Heap} {env : Env} {x : Str} {body : List Stmt} {Q : Flow → Shared → Prop} {r : Addr} {a₀ b₀ : Int} {t₀ u₀ v₀ : Tok} {n : Nat} {m₀ : Str → Option Value} {news : List (Addr × Obj)}
/-- a loop whose name is a cell, at its range's iterator: the store is a part of the turn -/
def CellAt (prog : Program) (w : World) (A : Around) (h₀ : Heap) (env : Env) (x : Str) (body : List Stmt) (Q : Flow → Shared → Prop) (E : Value → Shared → Prop) (it : Value) (s₂ : Shared) : Prop :=
  ∃ (I : Addr) (a : Int) (n : Nat) (m : Str → Option Value) (news : List (Addr × Obj)) (J : Nat → (Str → Option Value) → List (Addr × Obj) → Prop),
    it = .ref I ∧ A.handled = none ∧ IsRangeIter s₂.heap I a (n : Int) 1 ∧ h₀.get? I = none ∧ I ≠ env.locals ∧ (∀ p ∈ news, p.1 ≠ I) ∧ Fr h₀ env.locals s₂.heap m ∧ News h₀ env.locals s₂.heap news ∧ J 0 m news ∧
    (∀ i t m₁ nx h tk own, i < n → OwnOff own (nx.map (·.1)) → J i m₁ nx → Fr h₀ env.locals h m₁ → News h₀ env.locals h (nx ++ own) →
      wpAny (model prog w) A (storeName env x (.int (a + (i : Int)) t)) (fun _ s₃ => wpAny (model prog w) A (execs body env) (InvPostG h₀ env.locals (J (i + 1)) own { s₂ with heap := h, toks := tk } Q) E s₃) E { s₂ with heap := h, toks := tk }) ∧
    ∀ m₁ nx h tk, J n m₁ nx → Fr h₀ env.locals h m₁ → News h₀ env.locals h nx → Q .next { s₂ with heap := h, toks := tk }
theorem cell_for {px pos : Pos} {iter : Expr}
  (h : wpAny (model prog w) A (eval iter env) (fun xv s₁ => wpAny (model prog w) A (pyIter xv) (fun it s₂ => CellAt prog w A h₀ env x body Q E it s₂) E s₁) E s)
  (hs : ∀ x, foldedSetIterable iter env x = pure x := by intro _; rfl) (hE : PassesOwn (model prog w) A env E := by passes_own) :
  wpAny (model prog w) A (exec (.For (.Name x px) iter body [] pos) env) Q E s := by
  refine wpAny_For (wpAny_mono h (fun xv s₁ h₁ => wpAny_mono h₁ (fun it s₂ h₂ => ?_) fun _ _ z => z) fun _ _ z => z) hs
  obtain ⟨I, a, n, m, news, J, rfl, hh, hI, hI0, hIL, hoff, F, N, h0, turn, done⟩ := h₂
  have W := Walks.range (prog := prog) (w := w) hh I a 1 n
  refine codeAny_forLoop (R := fun r s' => match r with | .ok f => Q f s' | .error e => cameBackBy (model prog w) A env E e s')
    (fun k s' => ∃ h' tk m' news' i, s' = { s₂ with heap := h', toks := tk } ∧ IsRangeIter h' I (a + (i : Nat) * 1) ((n : Int) - (i : Nat)) 1 ∧ Fr h₀ env.locals h' m' ∧ News h₀ env.locals h' news' ∧ (∀ p ∈ news', p.1 ≠ I) ∧ J i m' news' ∧ i ≤ n ∧ k = n + 1 - i) ?_ (n + 1)
    ⟨s₂.heap, s₂.toks, m, news, 0, rfl, by simpa using hI, F, N, hoff, h0, Nat.zero_le _, rfl⟩
  rintro k s' ⟨h', tk, m', news', i, rfl, hst', F', N', hnw', hJ, hi, rfl⟩
  have next : ∀ h₁ : Heap, (∀ b o, b ∉ [I] → h'.get? b = some o → h₁.get? b = some o) → Fr h₀ env.locals h₁ m' ∧ News h₀ env.locals h₁ news' := fun h₁ hk₁ =>
    ⟨⟨F'.ns.at' fun o e => hk₁ _ o (by simpa using Ne.symm hIL) e, fun b o e => hk₁ b o (by intro hb; rw [List.mem_singleton.mp hb, hI0] at e; cases e) (F'.keep b o e), F'.above⟩, fun p hp => ⟨hk₁ _ _ (by simpa using hnw' p hp) (N' p hp).1, (N' p hp).2⟩⟩
  by_cases hlt : i < n
  · refine wpAny_passesOwn hE ?_
    refine W.item i _ _ _ hlt hst' fun v h₁ tk₁ hP hst₁ hk₁ => ?_
    obtain ⟨t, rfl⟩ := hP
    obtain ⟨F₁, N₁⟩ := next h₁ hk₁
    have e1 : a + (i : Int) * 1 = a + (i : Int) := by omega
    rw [e1]
    obtain ⟨o, ho⟩ : ∃ o, h₁.get? I = some o := ⟨_, hst₁⟩
    have hsep : OwnOff [(I, o)] (news'.map (·.1)) := by
      intro p hp b hb e
      rw [List.mem_singleton.mp hp] at e
      obtain ⟨q, hq, rfl⟩ := List.mem_map.mp hb
      exact hnw' q hq e.symm
    have N₂ : News h₀ env.locals h₁ (news' ++ [(I, o)]) := fun p hp => (List.mem_append.mp hp).elim (N₁ p) fun h => by
      rw [List.mem_singleton.mp h]
      exact ⟨ho, hIL, hI0⟩
    refine wpAny_passesOwn hE (wpAny_assign_Name (wpAny_mono (turn i t m' news' h₁ tk₁ [(I, o)] hlt hsep hJ F₁ N₂) (fun _ s₃ h₃ => ?_) fun _ _ z => z))
    refine wpAny_passesOwn hE (wpAny_mono h₃ (fun f s₄ h₄ => ?_) fun _ _ z => z)
    have fin : InvEndG h₀ env.locals (J (i + 1)) [(I, o)] { s₂ with heap := h₁, toks := tk₁ } s₄ → ∃ m, m < n + 1 - i ∧ ∃ h' tk m' news' i, s₄ = { s₂ with heap := h', toks := tk } ∧ IsRangeIter h' I (a + (i : Nat) * 1) ((n : Int) - (i : Nat)) 1 ∧ Fr h₀ env.locals h' m' ∧ News h₀ env.locals h' news' ∧ (∀ p ∈ news', p.1 ≠ I) ∧ J i m' news' ∧ i ≤ n ∧ m = n + 1 - i := by
      rintro ⟨h'', tk, m'', news'', nx, rfl, F'', N'', hn, ho', ha, hm⟩
      refine ⟨n + 1 - (i + 1), by omega, h'', tk, m'', nx, i + 1, rfl, ?_, F'', fun p hp => N'' p (hn p hp), fun p hp e => ?_, hm, hlt, rfl⟩
      · have := (N'' _ (ho' _ (List.mem_singleton_self _))).1
        exact W.frame _ _ _ hst₁ fun b hb o' e => by
          rw [List.mem_singleton.mp hb] at e ⊢
          rw [ho] at e
          cases e
          exact this
      · exact ha _ (List.mem_singleton_self _) p.1 (List.mem_map_of_mem hp) e.symm
    cases f with
    | next => exact fin h₄
    | cont => exact fin h₄
    | brk => exact h₄
    | ret _ => exact h₄
  · have hin : i = n := by omega
    subst hin
    refine wpAny_passesOwn hE ?_
    refine W.done _ _ _ hst' fun h₁ tk₁ hk₁ => wpAny_execs_nil ?_
    obtain ⟨F₁, N₁⟩ := next h₁ hk₁
    exact done m' news' h₁ tk₁ hJ F₁ N₁
theorem cell_range (J : Nat → (Str → Option Value) → List (Addr × Obj) → Prop)
  (hh : A.handled = none) (hr : IsRange s.heap r a₀ b₀ 1 t₀ u₀ v₀) (hsmall : Builtin.Range.small a₀ b₀ 1 = true) (hsz : Builtin.Range.rangeSize a₀ b₀ 1 = (n : Int)) (F : Fr h₀ env.locals s.heap m₀) (N : News h₀ env.locals s.heap news) (hj : J 0 m₀ news)
  (turn : ∀ i t m₁ nx h tk own, i < n → OwnOff own (nx.map (·.1)) → J i m₁ nx → Fr h₀ env.locals h m₁ → News h₀ env.locals h (nx ++ own) →
    wpAny (model prog w) A (storeName env x (.int (a₀ + (i : Int)) t)) (fun _ s₃ => wpAny (model prog w) A (execs body env) (InvPostG h₀ env.locals (J (i + 1)) own { s with heap := h, toks := tk } Q) E s₃) E { s with heap := h, toks := tk })
  (done : ∀ m₁ nx h tk, J n m₁ nx → Fr h₀ env.locals h m₁ → News h₀ env.locals h nx → Q .next { s with heap := h, toks := tk }) :
  wpAny (model prog w) A (pyIter (.ref r)) (fun it s₂ => CellAt prog w A h₀ env x body Q E it s₂) E s := by
  refine wpAny_pyIter_range hr hsmall ?_
  refine ⟨s.heap.objs.size, a₀, n, m₀, news, J, rfl, hh, ?_, next_is_new F, ?_, ?_, F.push _, fun p hp => ⟨Heap.get?_push_of_some _ (N p hp).1, (N p hp).2⟩, hj, ?_, ?_⟩
  · show IsRangeIter _ _ _ _ _
    rw [← hsz]
    exact Heap.get?_push_size _ rfl
  · exact Ne.symm (Nat.ne_of_lt F.ns.lt)
  · exact fun p hp => Nat.ne_of_lt (Heap.lt_size (N p hp).1)
  · intro i t m₁ nx h tk own hi hoff hj' F₁ N₁
    exact turn i t m₁ nx h tk own hi hoff hj' F₁ N₁
  · intro m₁ nx h tk hj' F₁ N₁
    exact done m₁ nx h tk hj' F₁ N₁
end
end Mine
end
theorem Mine.offQ01 : True := by
  w_top off
  exact trivial
section
local macro_rules | `(tactic| walk_at "my pad") => `(tactic| fail)
local macro_rules | `(tactic| walk_at "my pad") => `(tactic| fail)
local macro_rules | `(tactic| walk_at "my pad") => `(tactic| fail)
local macro_rules | `(tactic| walk_at "my pad") => `(tactic| fail)
local macro_rules | `(tactic| walk_at "my pad") => `(tactic| fail)
local macro_rules | `(tactic| walk_at "my pad") => `(tactic| fail)
local macro_rules | `(tactic| walk_at "my pad") => `(tactic| fail)
local macro_rules | `(tactic| walk_at "my pad") => `(tactic| fail)
local macro_rules | `(tactic| walk_at "my pad") => `(tactic| fail)
local macro_rules | `(tactic| walk_at "my pad") => `(tactic| fail)
local macro_rules | `(tactic| walk_at "my pad") => `(tactic| fail)
local macro_rules | `(tactic| walk_at "my pad") => `(tactic| fail)
local macro_rules | `(tactic| walk_at "my pad") => `(tactic| fail)
local macro_rules | `(tactic| walk_at "my pad") => `(tactic| fail)
local macro_rules | `(tactic| walk_at "my pad") => `(tactic| fail)
local macro_rules | `(tactic| walk_at "my pad") => `(tactic| fail)
local macro_rules | `(tactic| walk_at "my pad") => `(tactic| fail)
local macro_rules | `(tactic| walk_at "my pad") => `(tactic| fail)
local macro_rules | `(tactic| walk_at "my pad") => `(tactic| fail)
local macro_rules | `(tactic| walk_at "my pad") => `(tactic| fail)
local macro_rules | `(tactic| walk_at "my pad") => `(tactic| fail)
local macro_rules | `(tactic| walk_at "my pad") => `(tactic| fail)
local macro_rules | `(tactic| walk_at "my pad") => `(tactic| fail)
local macro_rules | `(tactic| walk_at "my pad") => `(tactic| fail)
local macro_rules | `(tactic| walk_at "my pad") => `(tactic| fail)
local macro_rules | `(tactic| walk_at "my pad") => `(tactic| fail)
local macro_rules | `(tactic| walk_at "my pad") => `(tactic| fail)
local macro_rules | `(tactic| walk_at "my pad") => `(tactic| fail)
local macro_rules | `(tactic| walk_at "my pad") => `(tactic| fail)
local macro_rules | `(tactic| walk_at "my pad") => `(tactic| fail)
local macro_rules | `(tactic| walk_at "my pad") => `(tactic| fail)
local macro_rules | `(tactic| walk_at "my pad") => `(tactic| fail)
local macro_rules | `(tactic| walk_at "my pad") => `(tactic| fail)
local macro_rules | `(tactic| walk_at "my pad") => `(tactic| fail)
local macro_rules | `(tactic| walk_at "my pad") => `(tactic| fail)
local macro_rules | `(tactic| walk_at "my pad") => `(tactic| fail)
local macro_rules | `(tactic| walk_at "my pad") => `(tactic| fail)
local macro_rules | `(tactic| walk_at "my pad") => `(tactic| fail)
local macro_rules | `(tactic| walk_at "my pad") => `(tactic| fail)
local macro_rules | `(tactic| walk_at "my pad") => `(tactic| fail)
local macro_rules | `(tactic| walk_at "my pad") => `(tactic| fail)
local macro_rules | `(tactic| walk_at "my pad") => `(tactic| fail)
local macro_rules | `(tactic| walk_at "my pad") => `(tactic| fail)
local macro_rules | `(tactic| walk_at "my pad") => `(tactic| fail)
local macro_rules | `(tactic| walk_at "my pad") => `(tactic| fail)
local macro_rules | `(tactic| walk_at "my pad") => `(tactic| fail)
local macro_rules | `(tactic| walk_at "my pad") => `(tactic| fail)
local macro_rules | `(tactic| walk_at "my pad") => `(tactic| fail)
local macro_rules | `(tactic| walk_at "my pad") => `(tactic| fail)
local macro_rules | `(tactic| walk_at "my pad") => `(tactic| fail)
local macro_rules | `(tactic| walk_at "my pad") => `(tactic| fail)
local macro_rules | `(tactic| walk_at "my pad") => `(tactic| fail)
local macro_rules | `(tactic| walk_at "my pad") => `(tactic| fail)
local macro_rules | `(tactic| walk_at "my pad") => `(tactic| fail)
local macro_rules | `(tactic| walk_at "my pad") => `(tactic| fail)
local macro_rules | `(tactic| walk_at "my pad") => `(tactic| fail)
local macro_rules | `(tactic| walk_at "my pad") => `(tactic| fail)
local macro_rules | `(tactic| walk_at "my pad") => `(tactic| fail)
local macro_rules | `(tactic| walk_at "my pad") => `(tactic| fail)
local macro_rules | `(tactic| walk_at "my pad") => `(tactic| fail)
local macro_rules | `(tactic| walk_at "my pad") => `(tactic| fail)
local macro_rules | `(tactic| walk_at "my pad") => `(tactic| fail)
local macro_rules | `(tactic| walk_at "my pad") => `(tactic| fail)
local macro_rules | `(tactic| walk_at "my pad") => `(tactic| fail)
local macro_rules | `(tactic| walk_at "my pad") => `(tactic| fail)
local macro_rules | `(tactic| walk_at "my pad") => `(tactic| fail)
local macro_rules | `(tactic| walk_at "my pad") => `(tactic| fail)
local macro_rules | `(tactic| walk_at "my pad") => `(tactic| fail)
local macro_rules | `(tactic| walk_at "my pad") => `(tactic| fail)
local macro_rules | `(tactic| walk_at "my pad") => `(tactic| fail)
local macro_rules | `(tactic| walk_at "my pad") => `(tactic| fail)
local macro_rules | `(tactic| walk_at "my pad") => `(tactic| fail)
local macro_rules | `(tactic| walk_at "my pad") => `(tactic| fail)
local macro_rules | `(tactic| walk_at "my pad") => `(tactic| fail)
local macro_rules | `(tactic| walk_at "my pad") => `(tactic| fail)
local macro_rules | `(tactic| walk_at "my pad") => `(tactic| fail)
local macro_rules | `(tactic| walk_at "my pad") => `(tactic| fail)
local macro_rules | `(tactic| walk_at "my pad") => `(tactic| fail)
local macro_rules | `(tactic| walk_at "my pad") => `(tactic| fail)
local macro_rules | `(tactic| walk_at "my pad") => `(tactic| fail)
local macro_rules | `(tactic| walk_at "my pad") => `(tactic| fail)
local macro_rules | `(tactic| walk_at "my pad") => `(tactic| fail)
local macro_rules | `(tactic| walk_at "my pad") => `(tactic| fail)
local macro_rules | `(tactic| walk_at "my pad") => `(tactic| fail)
local macro_rules | `(tactic| walk_at "my pad") => `(tactic| fail)
local macro_rules | `(tactic| walk_at "my pad") => `(tactic| fail)
local macro_rules | `(tactic| walk_at "my pad") => `(tactic| fail)
local macro_rules | `(tactic| walk_at "my pad") => `(tactic| fail)
local macro_rules | `(tactic| walk_at "my pad") => `(tactic| fail)
local macro_rules | `(tactic| walk_at "my pad") => `(tactic| fail)
local macro_rules | `(tactic| walk_at "my pad") => `(tactic| fail)
local macro_rules | `(tactic| walk_at "my pad") => `(tactic| fail)
local macro_rules | `(tactic| walk_at "my pad") => `(tactic| fail)
local macro_rules | `(tactic| walk_at "my pad") => `(tactic| fail)
local macro_rules | `(tactic| walk_at "my pad") => `(tactic| fail)
local macro_rules | `(tactic| walk_at "my pad") => `(tactic| fail)
local macro_rules | `(tactic| walk_at "my pad") => `(tactic| fail)
local macro_rules | `(tactic| walk_at "my pad") => `(tactic| fail)
local macro_rules | `(tactic| walk_at "my pad") => `(tactic| fail)
local macro_rules | `(tactic| walk_at "my pad") => `(tactic| fail)
local macro_rules | `(tactic| walk_at "my pad") => `(tactic| fail)
local macro_rules | `(tactic| walk_at "my pad") => `(tactic| fail)
local macro_rules | `(tactic| walk_at "my pad") => `(tactic| fail)
local macro_rules | `(tactic| walk_at "my pad") => `(tactic| fail)
local macro_rules | `(tactic| walk_at "my pad") => `(tactic| fail)
local macro_rules | `(tactic| walk_at "my pad") => `(tactic| fail)
local macro_rules | `(tactic| walk_at "my pad") => `(tactic| fail)
local macro_rules | `(tactic| walk_at "my pad") => `(tactic| fail)
local macro_rules | `(tactic| walk_at "my pad") => `(tactic| fail)
local macro_rules | `(tactic| walk_at "my pad") => `(tactic| fail)
local macro_rules | `(tactic| walk_at "my pad") => `(tactic| fail)
local macro_rules | `(tactic| walk_at "my pad") => `(tactic| fail)
local macro_rules | `(tactic| walk_at "my pad") => `(tactic| fail)
open PySem PySem.W PyProof.Rows
namespace Mine
local macro_rules | `(tactic| walk_at "my dp") => `(tactic| first | decide | ((try simp only [depth_under_make, depth_under_kw, depth_in1, depth_deeper, depth_caller]); decide))
local macro_rules | `(tactic| walk_at "call ref") => `(tactic| (k_here; (with_reducible show wpAny _ _ (call (Value.ref 109) _) _ _ _); k_dflt (refine' set_at ?B ?dp ?X ?T ?F ?N ?x ?dd ?U ?xd ?xc ?dc ?lo ?hd ?hf ?hc ?hn ?cap (fun h' o' kvs' tk' F' N' hd' hf' => ?_); (case B => k_asm); (case dp => walk_at "my dp"); (case X => k_in); (case T => k_asm); (case F => k_asm); (case N => k_asm); (case x => k_mem); (case dd => k_mem); (case U => k_updF); (case xd => k_ne); (case xc => k_ne); (case dc => k_ne); (case lo => k_asm); (case hd => k_asm); (case hf => k_asm); (case hc => omega); (case hn => assumption); (case cap => assumption)); (try dsimp only at N')))
local macro_rules | `(tactic| walk_at "my in") => `(tactic| first | assumption | exact List.mem_cons_self | (refine List.mem_cons_of_mem _ ?_; walk_at "my in"))
local macro_rules | `(tactic| walk_at "my incl") => `(tactic| first | exact List.forall_mem_nil _ | (refine List.forall_mem_cons.mpr ⟨?_, ?_⟩; (focus walk_at "my in"); walk_at "my incl") | (intro p9 hp9; walk_at "my in"))
local macro_rules | `(tactic| walk_at "my split") => `(tactic| repeat (rename _ ∧ _ => hA9; obtain ⟨hA1, hA2⟩ := hA9))
local macro_rules | `(tactic| walk_at "my off") => `(tactic| exact fun p hp => Nat.ne_of_lt (allLt_all (by assumption) p hp))
local macro_rules | `(tactic| walk_at "my len") => `(tactic| ((try simp only [List.length_append, List.length_cons, List.length_nil, List.size_toArray, sizeLine_eq]); omega))
local macro_rules | `(tactic| walk_at "call builtin:list.append") => `(tactic| (k_here; (with_reducible show wpAny _ _ (call (Value.builtin _) [Value.ref _, _]) _ _ _); k_dflt (refine' append_K ?k1 ?k2 ?k3 ?_ ?z; (case k1 => k_asm); (case k2 => k_asm); (case k3 => k_upd); (case z => walk_at "my len"); k_whole); intro h' F' N'; (try k_sweep)))
section
variable {w : World} {h₀ : Heap} {L fa : Addr} {cdv : Value} {p : Program} {loose : List Str} {mean : ExcName → Option Value} {mg mb : Str → Option Value} {l x d dc R : Addr} {vs : List Value} {ta tb : Tok} {cap : Value} {ock ocm od : Obj} {ov : Option Value} {kvs : List (Int × Value)} {c c2 : Prs} {n : Nat}
  {tail : List (Addr × Obj)} {m : Str → Option Value} {s : Shared} {E : Value → Shared → Prop} {Q : Flow → Shared → Prop}
set_option maxRecDepth 100000 in
set_option maxHeartbeats 8000000 in
theorem turn2s {k : Int} {t : Tok} {co : Option Int} (B : Below callerA h₀ [] h₀) (X : (hd.heap_39 w.params).In h₀) (T : Top p loose mean mg mb h₀)
  (hm : ∀ p ∈ [(Str.ofString "rows", Value.ref R)], m p.1 = some p.2) (F : Fr h₀ L s.heap m)
  (N : News h₀ L s.heap ((L + 1 + 1, ock) :: (L + 1, ocm) :: (x, instObj 112 d) :: (d, inD w ta tb cap dc) :: (dc, od) :: (R, listOf vs.toArray n) :: tail))
  (hck : ock.data = .cell ov) (hcm : ocm.data = .cell (some (.ref x))) (hvs : vs.length ≤ 100)
  (lo : (dc == sysModules) = false) (hd : od.IsDictOf (intKind Challenge.rw_fk5013_01.row.prog w) kvs) (hf : PyProof.V.FlatPairs PyData.int kvs (kdfD c)) (hlen : c.length ≤ 60) (hn : (c.map (·.1)).Nodup)
  (hcap : (co = none ∧ cap = .none) ∨ ∃ t n, co = some n ∧ cap = .int n t ∧ (c.length : Int) ≤ n)
  (hoff : OwnOff tail [dc, L + 1 + 1, R]) (e1 : L + 1 + 1 ≠ dc) (e1' : dc ≠ L + 1 + 1) (e2 : L + 1 ≠ dc) (e3 : x ≠ dc) (e4 : d ≠ dc) (e5 : R ≠ dc) (e8 : x ≠ d) (e9 : R ≠ L + 1 + 1) (e13 : x ≠ L + 1 + 1) (e14 : d ≠ L + 1 + 1) (e15 : L + 1 ≠ R) (e16 : x ≠ R) (e17 : d ≠ R) (e18 : L + 1 + 1 ≠ R) (e19 : dc ≠ R) 
  (done : ∀ h' tk' ock' od' kvs' n' D t1 t2 n2, Fr h₀ L h' m →
    News h₀ L h' ((L + 1 + 1, ock') :: (L + 1, ocm) :: (x, instObj 112 d) :: (d, inD w ta tb cap dc) :: (dc, od') :: (R, listOf (vs ++ [Value.ref D]).toArray n') :: (D, tupO k t1 k t2 n2) :: tail) → ock'.data = .cell (some (.int k t)) →
    od'.IsDictOf (intKind Challenge.rw_fk5013_01.row.prog w) kvs' → PyProof.V.FlatPairs PyData.int kvs' (kdfD (setC co c k k)) →
    (D ≠ dc ∧ D ≠ L + 1 + 1 ∧ (∀ p ∈ tail, p.1 ≠ D) ∧ D ≠ R) → Q .next { s with heap := h', toks := tk' }) :
  wpAny (model Challenge.rw_fk5013_01.row.prog w) (A1 L fa cdv) (storeName (E1 L fa cdv) "key" (.int k t)) (fun _ s₃ => wpAny (model Challenge.rw_fk5013_01.row.prog w) (A1 L fa cdv) (execs (forB Challenge.rw_fk5013_01.row.prog 3) (E1 L fa cdv)) Q E s₃) E s := by
  revert X
  k_fill
  intro X
  unfold A1 E1
  conv in (forB _ _) => whnf
  conv in (occs := *) (lawS _) => all_goals whnf
  rw [← kst_self hm] at F
  k_steps
  rename Fr _ _ _ _ => F9
  rename News _ _ _ _ => N9
  rw [kst_self hm] at F9
  rw [List.push_toArray] at N9
  walk_at "my split"
  refine' done _ _ _ _ _ _ _ t t 0 F9 (fun p hp => N9 p ?inn) (by assumption) (by assumption) (by assumption) ?nw
  case inn =>
    revert p
    walk_at "my incl"
  case nw => exact ⟨by (refine neN ?_; omega), by (refine neN ?_; omega), by walk_at "my off", by (refine neN ?_; omega)⟩
end
end Mine
end
section
open PySem PySem.W PyProof.Rows
namespace Mine
/-- the last ones that a bound of `co` leaves -/
def lastR (co : Option Int) (c : Prs) : Prs := match co with
  | none => c
  | some n => c.drop (c.length - n.toNat)
theorem lastR_sub (co : Option Int) (c : Prs) : (lastR co c).Sublist c := by
  cases co with
  | none => exact List.Sublist.refl _
  | some n => exact List.drop_sublist _ _
theorem lastR_all {n : Int} {c : Prs} (h : (c.length : Int) ≤ n) : lastR (some n) c = c := by
  show c.drop (c.length - n.toNat) = c
  rw [show c.length - n.toNat = 0 by omega]; rfl
theorem lastR_len {n : Int} {c : Prs} (h : 0 ≤ n) : ((lastR (some n) c).length : Int) ≤ n := by
  show ((c.drop (c.length - n.toNat)).length : Int) ≤ n
  rw [List.length_drop]; omega
theorem lastR_set {co : Option Int} {c : Prs} {k v : Int} (hk : k ∉ c.map (·.1)) (h : ∀ n, co = some n → 1 ≤ n) : setC co (lastR co c) k v = lastR co (c ++ [(k, v)]) := by
  have hk' : kdfHas (lastR co c) k = false := has_false.mpr fun hm => hk (((lastR_sub co c).map _).subset hm)
  have hp : putL (lastR co c) k v = lastR co c ++ [(k, v)] := by unfold putL; rw [del_new hk']
  cases co with
  | none => exact hp
  | some n =>
    have h1 := h n rfl
    show (if n < ((putL (lastR (some n) c) k v).length : Int) then (putL (lastR (some n) c) k v).drop 1 else putL (lastR (some n) c) k v) = _
    rw [hp]
    show (if n < (((c.drop (c.length - n.toNat)) ++ [(k, v)]).length : Int) then ((c.drop (c.length - n.toNat)) ++ [(k, v)]).drop 1 else (c.drop (c.length - n.toNat)) ++ [(k, v)]) = (c ++ [(k, v)]).drop ((c ++ [(k, v)]).length - n.toNat)
    rw [List.length_append, List.length_append, List.length_drop]
    simp only [List.length_cons, List.length_nil]
    by_cases hh : n ≤ (c.length : Int)
    · rw [if_pos (by push_cast; omega), List.drop_append_of_le_length (by rw [List.length_drop]; omega), List.drop_drop, List.drop_append_of_le_length (by omega)]
      congr 2
      omega
    · rw [if_neg (by push_cast; omega), show c.length - n.toNat = 0 by omega, show c.length + (0 + 1) - n.toNat = 0 by omega]
      rfl
end Mine
end
theorem Mine.offP03 : True := by
  w_top off
  exact trivial
section
local macro_rules | `(tactic| walk_at "my pad") => `(tactic| fail)
local macro_rules | `(tactic| walk_at "my pad") => `(tactic| fail)
local macro_rules | `(tactic| walk_at "my pad") => `(tactic| fail)
local macro_rules | `(tactic| walk_at "my pad") => `(tactic| fail)
local macro_rules | `(tactic| walk_at "my pad") => `(tactic| fail)
local macro_rules | `(tactic| walk_at "my pad") => `(tactic| fail)
local macro_rules | `(tactic| walk_at "my pad") => `(tactic| fail)
local macro_rules | `(tactic| walk_at "my pad") => `(tactic| fail)
local macro_rules | `(tactic| walk_at "my pad") => `(tactic| fail)
local macro_rules | `(tactic| walk_at "my pad") => `(tactic| fail)
local macro_rules | `(tactic| walk_at "my pad") => `(tactic| fail)
local macro_rules | `(tactic| walk_at "my pad") => `(tactic| fail)
local macro_rules | `(tactic| walk_at "my pad") => `(tactic| fail)
local macro_rules | `(tactic| walk_at "my pad") => `(tactic| fail)
local macro_rules | `(tactic| walk_at "my pad") => `(tactic| fail)
local macro_rules | `(tactic| walk_at "my pad") => `(tactic| fail)
local macro_rules | `(tactic| walk_at "my pad") => `(tactic| fail)
local macro_rules | `(tactic| walk_at "my pad") => `(tactic| fail)
local macro_rules | `(tactic| walk_at "my pad") => `(tactic| fail)
local macro_rules | `(tactic| walk_at "my pad") => `(tactic| fail)
local macro_rules | `(tactic| walk_at "my pad") => `(tactic| fail)
local macro_rules | `(tactic| walk_at "my pad") => `(tactic| fail)
local macro_rules | `(tactic| walk_at "my pad") => `(tactic| fail)
local macro_rules | `(tactic| walk_at "my pad") => `(tactic| fail)
local macro_rules | `(tactic| walk_at "my pad") => `(tactic| fail)
local macro_rules | `(tactic| walk_at "my pad") => `(tactic| fail)
local macro_rules | `(tactic| walk_at "my pad") => `(tactic| fail)
local macro_rules | `(tactic| walk_at "my pad") => `(tactic| fail)
local macro_rules | `(tactic| walk_at "my pad") => `(tactic| fail)
local macro_rules | `(tactic| walk_at "my pad") => `(tactic| fail)
local macro_rules | `(tactic| walk_at "my pad") => `(tactic| fail)
local macro_rules | `(tactic| walk_at "my pad") => `(tactic| fail)
local macro_rules | `(tactic| walk_at "my pad") => `(tactic| fail)
local macro_rules | `(tactic| walk_at "my pad") => `(tactic| fail)
local macro_rules | `(tactic| walk_at "my pad") => `(tactic| fail)
local macro_rules | `(tactic| walk_at "my pad") => `(tactic| fail)
local macro_rules | `(tactic| walk_at "my pad") => `(tactic| fail)
local macro_rules | `(tactic| walk_at "my pad") => `(tactic| fail)
local macro_rules | `(tactic| walk_at "my pad") => `(tactic| fail)
local macro_rules | `(tactic| walk_at "my pad") => `(tactic| fail)
local macro_rules | `(tactic| walk_at "my pad") => `(tactic| fail)
local macro_rules | `(tactic| walk_at "my pad") => `(tactic| fail)
local macro_rules | `(tactic| walk_at "my pad") => `(tactic| fail)
local macro_rules | `(tactic| walk_at "my pad") => `(tactic| fail)
local macro_rules | `(tactic| walk_at "my pad") => `(tactic| fail)
local macro_rules | `(tactic| walk_at "my pad") => `(tactic| fail)
local macro_rules | `(tactic| walk_at "my pad") => `(tactic| fail)
local macro_rules | `(tactic| walk_at "my pad") => `(tactic| fail)
local macro_rules | `(tactic| walk_at "my pad") => `(tactic| fail)
local macro_rules | `(tactic| walk_at "my pad") => `(tactic| fail)
local macro_rules | `(tactic| walk_at "my pad") => `(tactic| fail)
local macro_rules | `(tactic| walk_at "my pad") => `(tactic| fail)
local macro_rules | `(tactic| walk_at "my pad") => `(tactic| fail)
local macro_rules | `(tactic| walk_at "my pad") => `(tactic| fail)
local macro_rules | `(tactic| walk_at "my pad") => `(tactic| fail)
local macro_rules | `(tactic| walk_at "my pad") => `(tactic| fail)
local macro_rules | `(tactic| walk_at "my pad") => `(tactic| fail)
local macro_rules | `(tactic| walk_at "my pad") => `(tactic| fail)
local macro_rules | `(tactic| walk_at "my pad") => `(tactic| fail)
local macro_rules | `(tactic| walk_at "my pad") => `(tactic| fail)
local macro_rules | `(tactic| walk_at "my pad") => `(tactic| fail)
local macro_rules | `(tactic| walk_at "my pad") => `(tactic| fail)
local macro_rules | `(tactic| walk_at "my pad") => `(tactic| fail)
local macro_rules | `(tactic| walk_at "my pad") => `(tactic| fail)
local macro_rules | `(tactic| walk_at "my pad") => `(tactic| fail)
local macro_rules | `(tactic| walk_at "my pad") => `(tactic| fail)
local macro_rules | `(tactic| walk_at "my pad") => `(tactic| fail)
local macro_rules | `(tactic| walk_at "my pad") => `(tactic| fail)
local macro_rules | `(tactic| walk_at "my pad") => `(tactic| fail)
local macro_rules | `(tactic| walk_at "my pad") => `(tactic| fail)
local macro_rules | `(tactic| walk_at "my pad") => `(tactic| fail)
local macro_rules | `(tactic| walk_at "my pad") => `(tactic| fail)
local macro_rules | `(tactic| walk_at "my pad") => `(tactic| fail)
local macro_rules | `(tactic| walk_at "my pad") => `(tactic| fail)
local macro_rules | `(tactic| walk_at "my pad") => `(tactic| fail)
local macro_rules | `(tactic| walk_at "my pad") => `(tactic| fail)
local macro_rules | `(tactic| walk_at "my pad") => `(tactic| fail)
local macro_rules | `(tactic| walk_at "my pad") => `(tactic| fail)
local macro_rules | `(tactic| walk_at "my pad") => `(tactic| fail)
local macro_rules | `(tactic| walk_at "my pad") => `(tactic| fail)
local macro_rules | `(tactic| walk_at "my pad") => `(tactic| fail)
local macro_rules | `(tactic| walk_at "my pad") => `(tactic| fail)
local macro_rules | `(tactic| walk_at "my pad") => `(tactic| fail)
local macro_rules | `(tactic| walk_at "my pad") => `(tactic| fail)
local macro_rules | `(tactic| walk_at "my pad") => `(tactic| fail)
local macro_rules | `(tactic| walk_at "my pad") => `(tactic| fail)
local macro_rules | `(tactic| walk_at "my pad") => `(tactic| fail)
local macro_rules | `(tactic| walk_at "my pad") => `(tactic| fail)
local macro_rules | `(tactic| walk_at "my pad") => `(tactic| fail)
local macro_rules | `(tactic| walk_at "my pad") => `(tactic| fail)
local macro_rules | `(tactic| walk_at "my pad") => `(tactic| fail)
local macro_rules | `(tactic| walk_at "my pad") => `(tactic| fail)
local macro_rules | `(tactic| walk_at "my pad") => `(tactic| fail)
local macro_rules | `(tactic| walk_at "my pad") => `(tactic| fail)
local macro_rules | `(tactic| walk_at "my pad") => `(tactic| fail)
local macro_rules | `(tactic| walk_at "my pad") => `(tactic| fail)
local macro_rules | `(tactic| walk_at "my pad") => `(tactic| fail)
local macro_rules | `(tactic| walk_at "my pad") => `(tactic| fail)
local macro_rules | `(tactic| walk_at "my pad") => `(tactic| fail)
local macro_rules | `(tactic| walk_at "my pad") => `(tactic| fail)
local macro_rules | `(tactic| walk_at "my pad") => `(tactic| fail)
local macro_rules | `(tactic| walk_at "my pad") => `(tactic| fail)
local macro_rules | `(tactic| walk_at "my pad") => `(tactic| fail)
local macro_rules | `(tactic| walk_at "my pad") => `(tactic| fail)
local macro_rules | `(tactic| walk_at "my pad") => `(tactic| fail)
local macro_rules | `(tactic| walk_at "my pad") => `(tactic| fail)
local macro_rules | `(tactic| walk_at "my pad") => `(tactic| fail)
local macro_rules | `(tactic| walk_at "my pad") => `(tactic| fail)
local macro_rules | `(tactic| walk_at "my pad") => `(tactic| fail)
local macro_rules | `(tactic| walk_at "my pad") => `(tactic| fail)
local macro_rules | `(tactic| walk_at "my pad") => `(tactic| fail)
local macro_rules | `(tactic| walk_at "my pad") => `(tactic| fail)
local macro_rules | `(tactic| walk_at "my pad") => `(tactic| fail)
local macro_rules | `(tactic| walk_at "my pad") => `(tactic| fail)
local macro_rules | `(tactic| walk_at "my pad") => `(tactic| fail)
local macro_rules | `(tactic| walk_at "my pad") => `(tactic| fail)
local macro_rules | `(tactic| walk_at "my pad") => `(tactic| fail)
local macro_rules | `(tactic| walk_at "my pad") => `(tactic| fail)
local macro_rules | `(tactic| walk_at "my pad") => `(tactic| fail)
local macro_rules | `(tactic| walk_at "my pad") => `(tactic| fail)
local macro_rules | `(tactic| walk_at "my pad") => `(tactic| fail)
local macro_rules | `(tactic| walk_at "my pad") => `(tactic| fail)
open PySem PySem.W PyProof.Rows
namespace Mine
/-- what holds between two turns of the law's second loop -/
def J2 (w : World) (L x d dc : Addr) (room : Int) (tr ta tb : Tok) (cap : Value) (co : Option Int) (i : Nat) (m : Str → Option Value) (nx : List (Addr × Obj)) : Prop :=
  ∃ (ock ocm od : Obj) (ov : Option Value) (kvs : List (Int × Value)) (c : Prs) (R : Addr) (vs : List Value) (n : Nat) (tl : List (Addr × Obj)),
    nx = (L + 1 + 1, ock) :: (L + 1, ocm) :: (x, instObj 112 d) :: (d, inD w ta tb cap dc) :: (dc, od) :: (R, listOf vs.toArray n) :: tl ∧
    (∀ p ∈ [(Str.ofString "room", Value.int room tr), (Str.ofString "rows", Value.ref R)], m p.1 = some p.2) ∧
    ock.data = .cell ov ∧ ocm.data = .cell (some (.ref x)) ∧ od.IsDictOf (intKind Challenge.rw_fk5013_01.row.prog w) kvs ∧ PyProof.V.FlatPairs PyData.int kvs (kdfD (lastR co c)) ∧ RowsIn tl vs c ∧
    (c.map (·.1)).Nodup ∧ (∀ k ∈ c.map (·.1), (0 ≤ k ∧ k < 5) ∨ (20 ≤ k ∧ k < 20 + (i : Int))) ∧ c.length ≤ 10 + i ∧
    R ≠ dc ∧ R ≠ L + 1 + 1 ∧ (∀ p ∈ tl, p.1 ≠ dc ∧ p.1 ≠ L + 1 + 1 ∧ p.1 ≠ R)
theorem J1.toJ2 {w : World} {L l x d dc : Addr} {room : Int} {tr ta tb : Tok} {cap : Value} {co : Option Int} {i : Nat} {m : Str → Option Value} {nx : List (Addr × Obj)}
  (hco : (room = 4 ∧ co = none) ∨ (room < 4 ∧ co = some room)) (hi : i ≤ 10) (h : J1 w L l x d dc room tr ta tb cap i m nx) : J2 w L x d dc room tr ta tb cap co 0 m nx := by
  obtain ⟨ock, ocm, od, ov, kvs, c, R, vs, n, tl, rfl, hm, hck, hcm, hd, hf, hR, hn, hr, hlen, hroom, e5, e9, htl⟩ := h
  refine ⟨ock, ocm, od, ov, kvs, c, R, vs, n, tl, rfl, fun p hp => hm p (.tail _ hp), hck, hcm, hd, ?_, hR, hn, fun k hk => ?_, by omega, e5, e9, htl⟩
  · have : lastR co c = c := by
      rcases hco with ⟨_, rfl⟩ | ⟨hr, rfl⟩
      · rfl
      · exact lastR_all (hroom hr)
    rw [this]; exact hf
  · have := hr k hk
    exact .inl ⟨this.1, by omega⟩
section
variable {w : World} {h₀ : Heap} {L fa : Addr} {cdv : Value} {p : Program} {loose : List Str} {mean : ExcName → Option Value} {mg mb : Str → Option Value} {l x d dc : Addr} {room : Int} {tr ta tb : Tok} {cap : Value} {co : Option Int}
  {own nx : List (Addr × Obj)} {m : Str → Option Value} {s : Shared} {E : Value → Shared → Prop} {Q : Flow → Shared → Prop}
theorem list_ne {h₀ h : Heap} {L : Addr} {nx : List (Addr × Obj)} (N : News h₀ L h nx) {R a : Addr} {its : Array Value} {n : Nat} {o : Obj} (h1 : (R, listOf its n) ∈ nx) (h2 : (a, o) ∈ nx) (ho : o ≠ listOf its n) : a ≠ R := by
  intro e
  have a1 := (N _ h1).1
  have a2 := (N _ h2).1
  rw [e] at a2
  exact ho (Option.some.inj (a2.symm.trans a1))
theorem turn2 {i : Nat} {t : Tok} (B : Below callerA h₀ [] h₀) (X : (hd.heap_39 w.params).In h₀) (T : Top p loose mean mg mb h₀) (hi : i ≤ 13)
  (hcap : (room = 4 ∧ co = none ∧ cap = .none) ∨ ∃ tr2, 1 ≤ room ∧ room < 4 ∧ co = some room ∧ cap = .int room tr2) (lo : (dc == sysModules) = false)
  (e1 : L + 1 + 1 ≠ dc) (e2 : L + 1 ≠ dc) (e3 : x ≠ dc) (e4 : d ≠ dc) (e8 : x ≠ d) (e13 : x ≠ L + 1 + 1) (e14 : d ≠ L + 1 + 1)
  (hJ : J2 w L x d dc room tr ta tb cap co i m nx) (hsep : OwnOff own (nx.map (·.1)))
  (F : Fr h₀ L s.heap m) (N : News h₀ L s.heap (nx ++ own)) :
  wpAny (model Challenge.rw_fk5013_01.row.prog w) (A1 L fa cdv) (storeName (E1 L fa cdv) "key" (.int (20 + (i : Int)) t)) (fun _ s₃ => wpAny (model Challenge.rw_fk5013_01.row.prog w) (A1 L fa cdv) (execs (forB Challenge.rw_fk5013_01.row.prog 3) (E1 L fa cdv)) (InvPostG h₀ L (J2 w L x d dc room tr ta tb cap co (i + 1)) own s Q) E s₃) E s := by
  obtain ⟨ock, ocm, od, ov, kvs, c, R, vs, n, tl, rfl, hm, hck, hcm, hd, hf, hR, hn, hr, hlen, e5, e9, htl⟩ := hJ
  have hs : ∀ b, b ∈ [L + 1 + 1, L + 1, x, d, dc, R] → ∀ p ∈ own, p.1 ≠ b := fun b hb p hp => hsep p hp b (by
    simp only [List.map_cons, List.mem_cons, List.not_mem_nil, or_false] at hb ⊢
    rcases hb with rfl | rfl | rfl | rfl | rfl | rfl <;> simp)
  have hst : ∀ p ∈ own, ∀ q ∈ tl, p.1 ≠ q.1 := fun p hp q hq => hsep p hp q.1 (by
    simp only [List.map_cons, List.mem_cons]
    exact .inr (.inr (.inr (.inr (.inr (.inr (List.mem_map_of_mem hq)))))))
  have hl := (lastR_sub co c).length_le
  have hk : (20 + (i : Int)) ∉ c.map (·.1) := fun h => by rcases hr _ h with h | h <;> omega
  have hset : setC co (lastR co c) (20 + (i : Int)) (20 + (i : Int)) = lastR co (c ++ [(20 + (i : Int), 20 + (i : Int))]) := lastR_set hk fun n hn => by
    rcases hcap with ⟨_, h, _⟩ | ⟨_, h, _, h2, _⟩
    · rw [h] at hn; cases hn
    · rw [h2] at hn; cases hn; exact h
  have hRl : (R, listOf vs.toArray n) ∈ (L + 1 + 1, ock) :: (L + 1, ocm) :: (x, instObj 112 d) :: (d, inD w ta tb cap dc) :: (dc, od) :: (R, listOf vs.toArray n) :: tl ++ own := by simp
  refine turn2s (co := co) (c := lastR co c) (vs := vs) (n := n) (R := R) (od := od) (kvs := kvs) (tail := tl ++ own) B X T (fun q hq => by rw [List.mem_singleton.mp hq]; exact hm _ (.tail _ (.head _))) F (fun p hp => N p (by simpa using hp)) hck hcm (by rw [hR.length]; omega) lo hd hf (by omega) (hn.sublist ((lastR_sub co c).map _)) ?cap ?off e1 (Ne.symm e1) e2 e3 e4 e5 e8 e9 e13 e14
    (list_ne N hRl (a := L + 1) (o := ocm) (by simp) (by intro h; rw [h] at hcm; cases hcm)) (list_ne N hRl (a := x) (o := instObj 112 d) (by simp) (by intro h; cases h)) (list_ne N hRl (a := d) (o := inD w ta tb cap dc) (by simp) (by intro h; have h2 : Value.type "dict" = Value.type "list" := congrArg Obj.cls h; injection h2 with h3; exact absurd h3 (by decide))) (Ne.symm e9) (Ne.symm e5) ?done
  case cap =>
    rcases hcap with ⟨_, h, h2⟩ | ⟨tr2, h, _, h2, h3⟩
    · exact .inl ⟨h, h2⟩
    · exact .inr ⟨tr2, room, h2, h3, by rw [h2]; exact lastR_len (by omega)⟩
  case off =>
    intro p hp b hb
    simp only [List.mem_cons, List.not_mem_nil, or_false] at hb
    rcases List.mem_append.mp hp with hp | hp
    · rcases hb with rfl | rfl | rfl
      · exact (htl p hp).1
      · exact (htl p hp).2.1
      · exact (htl p hp).2.2
    · rcases hb with rfl | rfl | rfl <;> exact hs _ (by simp) p hp
  case done =>
    intro h' tk' ock' od' kvs' n' D t1 t2 n2 F1 N1 hck' hd' hf' hD
    rw [hset] at hf'
    refine InvEndG.intro F1 N1 ⟨ock', ocm, od', _, kvs', _, R, _, n', (D, tupO (20 + (i : Int)) t1 (20 + (i : Int)) t2 n2) :: tl, rfl, hm, hck', hcm, hd', hf', RowsIn.append (hR.mono fun p hp => List.mem_cons_of_mem _ hp) (.cons List.mem_cons_self .nil), ?_, ?_, ?_, e5, e9, ?_⟩ ?_ ?_ ?_
    · rw [List.map_append, List.nodup_append]
      refine ⟨hn, by simp, ?_⟩
      intro a ha b hb e
      rw [List.map_cons, List.map_nil, List.mem_singleton] at hb
      exact hk (by have hb' : b = 20 + (i : Int) := hb; rw [← hb', ← e]; exact ha)
    · intro k hk'
      rw [List.map_append, List.mem_append] at hk'
      rcases hk' with h | h
      · rcases hr k h with h | h
        · exact .inl h
        · exact .inr ⟨h.1, by push_cast; omega⟩
      · rw [List.map_cons, List.map_nil, List.mem_singleton] at h
        exact .inr (by rw [h]; push_cast; omega)
    · rw [List.length_append]; simp only [List.length_cons, List.length_nil]; omega
    · intro p hp
      rcases List.mem_cons.mp hp with rfl | hp
      · exact ⟨hD.1, hD.2.1, hD.2.2.2⟩
      · exact htl p hp
    · intro p hp b hb
      simp only [List.map_cons, List.mem_cons, List.mem_map] at hb
      rcases hb with rfl | rfl | rfl | rfl | rfl | rfl | rfl | ⟨q, hq, rfl⟩
      · exact hs _ (by simp) p hp
      · exact hs _ (by simp) p hp
      · exact hs _ (by simp) p hp
      · exact hs _ (by simp) p hp
      · exact hs _ (by simp) p hp
      · exact hs _ (by simp) p hp
      · exact hD.2.2.1 p (List.mem_append_right _ hp)
      · exact hst p hp q hq
    · intro p hp
      simp only [List.mem_cons, List.mem_append] at hp ⊢
      rcases hp with rfl | rfl | rfl | rfl | rfl | rfl | rfl | hp <;> simp [*]
    · intro p hp
      simp [hp]
end
local macro_rules | `(tactic| walk_at "pyIter ref") => `(tactic| (k_here; refine Stop.go ?_))
section
variable {w : World} {h₀ : Heap} {L fa : Addr} {cdv : Value} {p : Program} {loose : List Str} {mean : ExcName → Option Value} {mg mb : Str → Option Value} {l x d dc : Addr} {room : Int} {tr ta tb : Tok} {cap : Value} {co : Option Int}
  {nx : List (Addr × Obj)} {m : Str → Option Value} {s : Shared} {E : Value → Shared → Prop} {Q : Flow → Shared → Prop}
set_option maxRecDepth 100000 in
set_option maxHeartbeats 8000000 in
theorem loop2 (B : Below callerA h₀ [] h₀) (X : (hd.heap_39 w.params).In h₀) (T : Top p loose mean mg mb h₀)
  (hcap : (room = 4 ∧ co = none ∧ cap = .none) ∨ ∃ tr2, 1 ≤ room ∧ room < 4 ∧ co = some room ∧ cap = .int room tr2) (lo : (dc == sysModules) = false)
  (e1 : L + 1 + 1 ≠ dc) (e2 : L + 1 ≠ dc) (e3 : x ≠ dc) (e4 : d ≠ dc) (e8 : x ≠ d) (e13 : x ≠ L + 1 + 1) (e14 : d ≠ L + 1 + 1)
  (hJ : J2 w L x d dc room tr ta tb cap co 0 m nx) (F : Fr h₀ L s.heap m) (N : News h₀ L s.heap nx)
  (hE : PassesOwn (model Challenge.rw_fk5013_01.row.prog w) (A1 L fa cdv) (E1 L fa cdv) E)
  (done : ∀ h' tk m' nx', J2 w L x d dc room tr ta tb cap co 14 m' nx' → Fr h₀ L h' m' → News h₀ L h' nx' → Q .next { s with heap := h', toks := tk }) :
  wpAny (model Challenge.rw_fk5013_01.row.prog w) (A1 L fa cdv) (exec (L1 3) (E1 L fa cdv)) Q E s := by
  revert X
  k_fill
  intro X
  revert hE
  unfold A1 E1 L1
  conv in (stAt _ _) => whnf
  conv in (occs := *) (lawS _) => all_goals whnf
  intro hE
  have hm : ∀ p ∈ ([] : List (Str × Value)), m p.1 = some p.2 := fun _ h => nomatch h
  rw [← kst_self hm] at F
  refine cell_for (h₀ := h₀) ?_ (hE := hE)
  k_steps
  constructor
  rename Fr _ _ _ _ => F9
  rename News _ _ _ nx => N9
  rename IsRange _ _ _ _ _ _ _ _ => R9
  rw [kst_self hm] at F9
  refine cell_range (J2 w L x d dc room tr ta tb cap co) rfl R9 (small_one (by omega) (by omega) (by omega) (by omega)) (rangeSize_nat _ _) F9 N9 hJ ?_ ?_
  · intro i t m₁ nx h tk own hi hsep hj F₁ N₁
    exact turn2 B X T (by revert hi; show i < 14 → _; omega) hcap lo e1 e2 e3 e4 e8 e13 e14 hj hsep F₁ N₁
  · intro m₁ nx h tk hj F₁ N₁
    exact done _ _ _ _ hj F₁ N₁
end
end Mine
end
theorem Mine.offP04 : True := by
  w_top off
  exact trivial
section
local macro_rules | `(tactic| walk_at "my pad") => `(tactic| fail)
local macro_rules | `(tactic| walk_at "my pad") => `(tactic| fail)
local macro_rules | `(tactic| walk_at "my pad") => `(tactic| fail)
local macro_rules | `(tactic| walk_at "my pad") => `(tactic| fail)
local macro_rules | `(tactic| walk_at "my pad") => `(tactic| fail)
local macro_rules | `(tactic| walk_at "my pad") => `(tactic| fail)
local macro_rules | `(tactic| walk_at "my pad") => `(tactic| fail)
local macro_rules | `(tactic| walk_at "my pad") => `(tactic| fail)
local macro_rules | `(tactic| walk_at "my pad") => `(tactic| fail)
local macro_rules | `(tactic| walk_at "my pad") => `(tactic| fail)
local macro_rules | `(tactic| walk_at "my pad") => `(tactic| fail)
local macro_rules | `(tactic| walk_at "my pad") => `(tactic| fail)
local macro_rules | `(tactic| walk_at "my pad") => `(tactic| fail)
local macro_rules | `(tactic| walk_at "my pad") => `(tactic| fail)
local macro_rules | `(tactic| walk_at "my pad") => `(tactic| fail)
local macro_rules | `(tactic| walk_at "my pad") => `(tactic| fail)
local macro_rules | `(tactic| walk_at "my pad") => `(tactic| fail)
local macro_rules | `(tactic| walk_at "my pad") => `(tactic| fail)
local macro_rules | `(tactic| walk_at "my pad") => `(tactic| fail)
local macro_rules | `(tactic| walk_at "my pad") => `(tactic| fail)
local macro_rules | `(tactic| walk_at "my pad") => `(tactic| fail)
local macro_rules | `(tactic| walk_at "my pad") => `(tactic| fail)
local macro_rules | `(tactic| walk_at "my pad") => `(tactic| fail)
local macro_rules | `(tactic| walk_at "my pad") => `(tactic| fail)
local macro_rules | `(tactic| walk_at "my pad") => `(tactic| fail)
local macro_rules | `(tactic| walk_at "my pad") => `(tactic| fail)
local macro_rules | `(tactic| walk_at "my pad") => `(tactic| fail)
local macro_rules | `(tactic| walk_at "my pad") => `(tactic| fail)
local macro_rules | `(tactic| walk_at "my pad") => `(tactic| fail)
local macro_rules | `(tactic| walk_at "my pad") => `(tactic| fail)
local macro_rules | `(tactic| walk_at "my pad") => `(tactic| fail)
local macro_rules | `(tactic| walk_at "my pad") => `(tactic| fail)
local macro_rules | `(tactic| walk_at "my pad") => `(tactic| fail)
local macro_rules | `(tactic| walk_at "my pad") => `(tactic| fail)
local macro_rules | `(tactic| walk_at "my pad") => `(tactic| fail)
local macro_rules | `(tactic| walk_at "my pad") => `(tactic| fail)
local macro_rules | `(tactic| walk_at "my pad") => `(tactic| fail)
local macro_rules | `(tactic| walk_at "my pad") => `(tactic| fail)
local macro_rules | `(tactic| walk_at "my pad") => `(tactic| fail)
local macro_rules | `(tactic| walk_at "my pad") => `(tactic| fail)
local macro_rules | `(tactic| walk_at "my pad") => `(tactic| fail)
local macro_rules | `(tactic| walk_at "my pad") => `(tactic| fail)
local macro_rules | `(tactic| walk_at "my pad") => `(tactic| fail)
local macro_rules | `(tactic| walk_at "my pad") => `(tactic| fail)
local macro_rules | `(tactic| walk_at "my pad") => `(tactic| fail)
local macro_rules | `(tactic| walk_at "my pad") => `(tactic| fail)
local macro_rules | `(tactic| walk_at "my pad") => `(tactic| fail)
local macro_rules | `(tactic| walk_at "my pad") => `(tactic| fail)
local macro_rules | `(tactic| walk_at "my pad") => `(tactic| fail)
local macro_rules | `(tactic| walk_at "my pad") => `(tactic| fail)
local macro_rules | `(tactic| walk_at "my pad") => `(tactic| fail)
local macro_rules | `(tactic| walk_at "my pad") => `(tactic| fail)
local macro_rules | `(tactic| walk_at "my pad") => `(tactic| fail)
local macro_rules | `(tactic| walk_at "my pad") => `(tactic| fail)
local macro_rules | `(tactic| walk_at "my pad") => `(tactic| fail)
local macro_rules | `(tactic| walk_at "my pad") => `(tactic| fail)
local macro_rules | `(tactic| walk_at "my pad") => `(tactic| fail)
local macro_rules | `(tactic| walk_at "my pad") => `(tactic| fail)
local macro_rules | `(tactic| walk_at "my pad") => `(tactic| fail)
local macro_rules | `(tactic| walk_at "my pad") => `(tactic| fail)
local macro_rules | `(tactic| walk_at "my pad") => `(tactic| fail)
local macro_rules | `(tactic| walk_at "my pad") => `(tactic| fail)
local macro_rules | `(tactic| walk_at "my pad") => `(tactic| fail)
local macro_rules | `(tactic| walk_at "my pad") => `(tactic| fail)
local macro_rules | `(tactic| walk_at "my pad") => `(tactic| fail)
local macro_rules | `(tactic| walk_at "my pad") => `(tactic| fail)
local macro_rules | `(tactic| walk_at "my pad") => `(tactic| fail)
local macro_rules | `(tactic| walk_at "my pad") => `(tactic| fail)
local macro_rules | `(tactic| walk_at "my pad") => `(tactic| fail)
local macro_rules | `(tactic| walk_at "my pad") => `(tactic| fail)
local macro_rules | `(tactic| walk_at "my pad") => `(tactic| fail)
local macro_rules | `(tactic| walk_at "my pad") => `(tactic| fail)
local macro_rules | `(tactic| walk_at "my pad") => `(tactic| fail)
local macro_rules | `(tactic| walk_at "my pad") => `(tactic| fail)
local macro_rules | `(tactic| walk_at "my pad") => `(tactic| fail)
local macro_rules | `(tactic| walk_at "my pad") => `(tactic| fail)
local macro_rules | `(tactic| walk_at "my pad") => `(tactic| fail)
local macro_rules | `(tactic| walk_at "my pad") => `(tactic| fail)
local macro_rules | `(tactic| walk_at "my pad") => `(tactic| fail)
local macro_rules | `(tactic| walk_at "my pad") => `(tactic| fail)
local macro_rules | `(tactic| walk_at "my pad") => `(tactic| fail)
local macro_rules | `(tactic| walk_at "my pad") => `(tactic| fail)
local macro_rules | `(tactic| walk_at "my pad") => `(tactic| fail)
local macro_rules | `(tactic| walk_at "my pad") => `(tactic| fail)
local macro_rules | `(tactic| walk_at "my pad") => `(tactic| fail)
local macro_rules | `(tactic| walk_at "my pad") => `(tactic| fail)
local macro_rules | `(tactic| walk_at "my pad") => `(tactic| fail)
local macro_rules | `(tactic| walk_at "my pad") => `(tactic| fail)
local macro_rules | `(tactic| walk_at "my pad") => `(tactic| fail)
local macro_rules | `(tactic| walk_at "my pad") => `(tactic| fail)
local macro_rules | `(tactic| walk_at "my pad") => `(tactic| fail)
local macro_rules | `(tactic| walk_at "my pad") => `(tactic| fail)
local macro_rules | `(tactic| walk_at "my pad") => `(tactic| fail)
local macro_rules | `(tactic| walk_at "my pad") => `(tactic| fail)
local macro_rules | `(tactic| walk_at "my pad") => `(tactic| fail)
local macro_rules | `(tactic| walk_at "my pad") => `(tactic| fail)
local macro_rules | `(tactic| walk_at "my pad") => `(tactic| fail)
local macro_rules | `(tactic| walk_at "my pad") => `(tactic| fail)
local macro_rules | `(tactic| walk_at "my pad") => `(tactic| fail)
local macro_rules | `(tactic| walk_at "my pad") => `(tactic| fail)
local macro_rules | `(tactic| walk_at "my pad") => `(tactic| fail)
local macro_rules | `(tactic| walk_at "my pad") => `(tactic| fail)
local macro_rules | `(tactic| walk_at "my pad") => `(tactic| fail)
local macro_rules | `(tactic| walk_at "my pad") => `(tactic| fail)
local macro_rules | `(tactic| walk_at "my pad") => `(tactic| fail)
local macro_rules | `(tactic| walk_at "my pad") => `(tactic| fail)
local macro_rules | `(tactic| walk_at "my pad") => `(tactic| fail)
local macro_rules | `(tactic| walk_at "my pad") => `(tactic| fail)
local macro_rules | `(tactic| walk_at "my pad") => `(tactic| fail)
local macro_rules | `(tactic| walk_at "my pad") => `(tactic| fail)
local macro_rules | `(tactic| walk_at "my pad") => `(tactic| fail)
local macro_rules | `(tactic| walk_at "my pad") => `(tactic| fail)
local macro_rules | `(tactic| walk_at "my pad") => `(tactic| fail)
local macro_rules | `(tactic| walk_at "my pad") => `(tactic| fail)
local macro_rules | `(tactic| walk_at "my pad") => `(tactic| fail)
local macro_rules | `(tactic| walk_at "my pad") => `(tactic| fail)
local macro_rules | `(tactic| walk_at "my pad") => `(tactic| fail)
local macro_rules | `(tactic| walk_at "my pad") => `(tactic| fail)
local macro_rules | `(tactic| walk_at "my pad") => `(tactic| fail)
local macro_rules | `(tactic| walk_at "my pad") => `(tactic| fail)
local macro_rules | `(tactic| walk_at "my pad") => `(tactic| fail)
local macro_rules | `(tactic| walk_at "my pad") => `(tactic| fail)
local macro_rules | `(tactic| walk_at "my pad") => `(tactic| fail)
local macro_rules | `(tactic| walk_at "my pad") => `(tactic| fail)
open PySem PySem.W PyProof.Rows
namespace Mine
section
local macro_rules | `(tactic| walk_at "my dp") => `(tactic| first | decide | ((try simp only [depth_under_make, depth_under_kw, depth_in1, depth_deeper, depth_caller]); decide))
local macro_rules | `(tactic| walk_at "call ref") => `(tactic| (k_here; (with_reducible show wpAny _ _ (call (Value.ref 109) _) _ _ _); k_dflt (refine' set_at ?B ?dp ?X ?T ?F ?N ?x ?dd ?U ?xd ?xc ?dc ?lo ?hd ?hf ?hc ?hn ?cap (fun h' o' kvs' tk' F' N' hd' hf' => ?_); (case B => k_asm); (case dp => walk_at "my dp"); (case X => k_in); (case T => k_asm); (case F => k_asm); (case N => k_asm); (case x => k_mem); (case dd => k_mem); (case U => k_updF); (case xd => k_ne); (case xc => k_ne); (case dc => k_ne); (case lo => k_asm); (case hd => k_asm); (case hf => k_asm); (case hc => omega); (case hn => assumption); (case cap => assumption)); (try dsimp only at N')))
local macro_rules | `(tactic| walk_at "my len") => `(tactic| ((try simp only [List.length_append, List.length_cons, List.length_nil]); omega))
local macro_rules | `(tactic| walk_at "binaryOp Add ref ref") => `(tactic| (k_here; k_dflt (refine' my_add ?F ?N ?a ?b ?z ?z2 ?_; (case F => k_asm); (case N => k_asm); (case a => k_mem); (case b => k_mem); (case z => walk_at "my len"); (case z2 => walk_at "my len")); intro D' h' F' N' l1; (try k_lt l1)))
local macro_rules | `(tactic| walk_at "subscriptTail Name Slice ref ref") => `(tactic| (k_here; k_dflt (refine' my_slice_neg ?x ?F ?N ?l ?z ?_ ?s ?t; (case F => k_asm); (case N => k_asm); (case l => k_mem); (case x => omega); (case z => walk_at "my len"); (case s => with_unfolding_all rfl); (case t => kmk_pure)); intro D' h' F' N' l1; (try k_lt l1)))
local macro_rules | `(tactic| walk_at "my in") => `(tactic| first | assumption | exact List.mem_cons_self | (refine List.mem_cons_of_mem _ ?_; walk_at "my in"))
local macro_rules | `(tactic| walk_at "my incl") => `(tactic| first | exact List.forall_mem_nil _ | (refine List.forall_mem_cons.mpr ⟨?_, ?_⟩; (focus walk_at "my in"); walk_at "my incl") | (intro p9 hp9; walk_at "my in"))
local macro_rules | `(tactic| walk_at "my split") => `(tactic| repeat (rename _ ∧ _ => hA9; obtain ⟨hA1, hA2⟩ := hA9))
local macro_rules | `(tactic| walk_at "my off") => `(tactic| exact fun p hp => Nat.ne_of_lt (allLt_all (by assumption) p hp))
local macro_rules | `(tactic| walk_at "my newx") => `(tactic| exact ⟨by (refine neN ?_; omega), by (refine neN ?_; omega), by walk_at "my off", by first | (refine neN ?_; omega) | omega⟩)
local macro_rules | `(tactic| walk_at "my new") => `(tactic| exact ⟨by (refine neN ?_; omega), by (refine neN ?_; omega), by walk_at "my off"⟩)
local macro_rules | `(tactic| k_mem) => `(tactic| walk_at "my in")
local macro_rules | `(tactic| walk_at "my more") => `(tactic| first | exact .inr rfl | exact .inl ⟨rfl, rfl⟩)
local macro_rules | `(tactic| walk_at "call ref") => `(tactic| (k_here; (with_reducible show wpAny _ _ (call (Value.ref 102) _) _ _ _); k_dflt (first
  | (refine' get_yes ?mo ?B ?dp ?X ?T ?F ?N ?x ?dd ?U ?xd ?xc ?dc ?lo ?hd ?hf ?hc ?hk (fun h' o' kvs' tk' t' F' N' hd' hf' => ?_); (case mo => walk_at "my more"); (case B => k_asm); (case dp => walk_at "my dp"); (case X => k_in); (case T => k_asm); (case F => k_asm); (case N => k_asm); (case x => k_mem); (case dd => k_mem); (case U => k_updF); (case xd => k_ne); (case xc => k_ne); (case dc => k_ne); (case lo => k_asm); (case hd => k_asm); (case hf => k_asm); (case hc => omega); (case hk => assumption))
  | (refine' get_no ?mo ?B ?dp ?X ?T ?F ?N ?x ?dd ?U ?xd ?xc ?dc ?lo ?hd ?hf ?hc ?hk (fun h' tk' F' N' => ?_); (case mo => walk_at "my more"); (case B => k_asm); (case dp => walk_at "my dp"); (case X => k_in); (case T => k_asm); (case F => k_asm); (case N => k_asm); (case x => k_mem); (case dd => k_mem); (case U => k_updF); (case xd => k_ne); (case xc => k_ne); (case dc => k_ne); (case lo => k_asm); (case hd => k_asm); (case hf => k_asm); (case hc => omega); (case hk => assumption))); (try dsimp only at N')))
local macro_rules | `(tactic| k_enter) => `(tactic| ((with_reducible rename KtsDicts _ _ => kdX); kts_go))
local macro_rules | `(tactic| walk_at "call ref") => `(tactic| (k_here; (with_reducible show wpAny _ _ (call (Value.ref 130) _) _ _ _); k_dflt (refine wpAny_call ?_; (refine' defS0X ?k1 ?k2 ?k3 ?k4 ?k5 ?kA ?kF ?kK ?k6 ?k7 ?k8 ?k9 ?kB ?_ ?c2 ?c3 ?c4 ?c5; (case kA => exact rfl); (case kF => exact rfl); (case kK => exact rfl); (case k2 => k_asm); (case k1 => k_asm); (case k3 => k_asm); (case k4 => k_asm); (case k5 => k_asm); (case k6 => k_is); (case k7 => k_is); (case k8 => k_room); (case k9 => first | exact BindsTo.of_eq rfl | exact binds_K (by k_in) rfl (by k_is) rfl rfl rfl); (case kB => exact locs rfl); (case c2 => exact rfl); (case c3 => exact rfl); (case c4 => exact rfl); (case c5 => decide); k_whole; intro g' L' h' FG' F' N' B' X' T' D'; (try dsimp only); (try k_lift B'); (try k_fold)))))
section
variable {w : World} {h₀ : Heap} {L fa : Addr} {cdv : Value} {p : Program} {loose : List Str} {mean : ExcName → Option Value} {mg mb : Str → Option Value} {l x d dc R : Addr} {vs : List Value} {room : Int} {tr ta tb : Tok} {cap : Value} {ock ocm od : Obj} {ov : Option Value} {kvs : List (Int × Value)} {c : Prs} {n : Nat}
  {tail : List (Addr × Obj)} {m : Str → Option Value} {s : Shared} {E : Value → Shared → Prop} {Q : Flow → Shared → Prop}
set_option maxRecDepth 100000 in
set_option maxHeartbeats 8000000 in
theorem fin4a (X : (hd.heap_39 w.params).In h₀)
  (hm : ∀ p ∈ [(Str.ofString "room", Value.int 4 tr), (Str.ofString "rows", Value.ref R)], m p.1 = some p.2) (F : Fr h₀ L s.heap m) (N : News h₀ L s.heap ((L + 1, ocm) :: (x, instObj 112 d) :: (d, inD w ta tb cap dc) :: (dc, od) :: (R, listOf vs.toArray n) :: tail))
  (done : ∀ h' tk, Fr h₀ L h' (fun y => if y = "rows" then some (.ref R) else m y) → News h₀ L h' ((L + 1, ocm) :: (x, instObj 112 d) :: (d, inD w ta tb cap dc) :: (dc, od) :: (R, listOf vs.toArray n) :: tail) → Q .next { s with heap := h', toks := tk }) :
  wpAny (model Challenge.rw_fk5013_01.row.prog w) (A1 L fa cdv) (exec (L1 4) (E1 L fa cdv)) Q E s := by
  revert X
  k_fill
  intro X
  unfold A1 E1 L1
  conv in (stAt _ _) => whnf
  conv in (occs := *) (lawS _) => all_goals whnf
  rw [← kst_self hm] at F
  k_steps
  rename Fr _ _ _ _ => F9
  rename News _ _ _ _ => N9
  rw [kst_self hm] at F9
  exact done _ _ F9 N9
set_option maxRecDepth 100000 in
set_option maxHeartbeats 8000000 in
theorem fin4b (X : (hd.heap_39 w.params).In h₀) (hr1 : 1 ≤ room) (hr2 : room < 4) (hvs : vs.length ≤ 100)
  (hm : ∀ p ∈ [(Str.ofString "room", Value.int room tr), (Str.ofString "rows", Value.ref R)], m p.1 = some p.2) (F : Fr h₀ L s.heap m) (N : News h₀ L s.heap ((L + 1, ocm) :: (x, instObj 112 d) :: (d, inD w ta tb cap dc) :: (dc, od) :: (R, listOf vs.toArray n) :: tail))
  (done : ∀ h' tk D n', Fr h₀ L h' (fun y => if y = "rows" then some (.ref D) else m y) → D ≠ dc → News h₀ L h' ((D, listOf (vs.drop (vs.length - room.toNat)).toArray n') :: ((L + 1, ocm) :: (x, instObj 112 d) :: (d, inD w ta tb cap dc) :: (dc, od) :: (R, listOf vs.toArray n) :: tail)) → Q .next { s with heap := h', toks := tk }) :
  wpAny (model Challenge.rw_fk5013_01.row.prog w) (A1 L fa cdv) (exec (L1 4) (E1 L fa cdv)) Q E s := by
  revert X
  k_fill
  intro X
  unfold A1 E1 L1
  conv in (stAt _ _) => whnf
  conv in (occs := *) (lawS _) => all_goals whnf
  rw [← kst_self hm] at F
  k_steps
  rename Fr _ _ _ _ => F9
  rename News _ _ _ _ => N9
  rw [kst_self hm] at F9
  rw [Int.neg_neg] at N9
  walk_at "my split"
  exact done _ _ _ _ F9 (by (refine neN ?_; omega)) N9
set_option maxRecDepth 100000 in
set_option maxHeartbeats 8000000 in
theorem fin6 (B : Below callerA h₀ [] h₀) (X : (hd.heap_39 w.params).In h₀) (T : Top p loose mean mg mb h₀)
  (F : Fr h₀ L s.heap m) (N : News h₀ L s.heap ((L + 1, ocm) :: (x, instObj 112 d) :: (d, inD w ta tb cap dc) :: (dc, od) :: (R, listOf vs.toArray n) :: tail)) (hcm : ocm.data = .cell (some (.ref x))) (hlen : c.length ≤ 60) (hk : kdfHas c 9 = false)
  (lo : (dc == sysModules) = false) (hd : od.IsDictOf (intKind Challenge.rw_fk5013_01.row.prog w) kvs) (hf : PyProof.V.FlatPairs PyData.int kvs (kdfD c))
  (hoff : OwnOff tail [dc]) (e2 : L + 1 ≠ dc) (e3 : x ≠ dc) (e4 : d ≠ dc) (e5 : R ≠ dc) (e8 : x ≠ d)
  (done : ∀ h' tk, Fr h₀ L h' m → News h₀ L h' ((L + 1, ocm) :: (x, instObj 112 d) :: (d, inD w ta tb cap dc) :: (dc, od) :: (R, listOf vs.toArray n) :: tail) → Q (.ret (.bool true)) { s with heap := h', toks := tk }) :
  wpAny (model Challenge.rw_fk5013_01.row.prog w) (A1 L fa cdv) (exec (L1 6) (E1 L fa cdv)) Q E s := by
  have hm : ∀ p ∈ ([] : List (Str × Value)), m p.1 = some p.2 := fun _ h => nomatch h
  revert X
  k_fill
  intro X
  unfold A1 E1 L1
  conv in (stAt _ _) => whnf
  conv in (occs := *) (lawS _) => all_goals whnf
  rw [← kst_self hm] at F
  k_steps
  rename Fr _ _ _ _ => F9
  rename News _ _ _ _ => N9
  rw [kst_self hm] at F9
  exact done _ _ F9 (fun p hp => N9 p (by walk_at "my in"))
end
end
section
local macro_rules | `(tactic| walk_at "my in") => `(tactic| first | assumption | exact List.mem_cons_self | (refine List.mem_cons_of_mem _ ?_; walk_at "my in"))
local macro_rules | `(tactic| walk_at "my sub") => `(tactic| (intro p9 hp9; walk_at "my in"))
local macro_rules | `(tactic| walk_at "call type:list") => `(tactic| (k_here; (with_reducible show wpAny _ _ (call (Value.type "list") [Value.ref _]) _ _ _); k_dflt (refine listK (by rfl) (by k_asm) (by k_asm) (by k_mem) (by k_mem) (by k_asm) (by k_asm) (by omega) ?_; intro D' n' h' tk' vs' F' N' l1 hi'; (try k_lt l1))))
local macro_rules | `(tactic| walk_at "eval ListComp") => `(tactic| (k_here; (with_reducible show wpAny _ _ (eval (Expr.ListComp _ [⟨_, _, [], _⟩] _ _) _) _ _ _); k_dflt (refine LCg.ListComp_U (F₀ := by k_asm) (by with_unfolding_all rfl) (by decide) (by rfl) (by decide) (by rfl) ?_)))
local macro_rules | `(tactic| walk_at "eval ListComp") => `(tactic| (k_here; (with_reducible show wpAny _ _ (eval (Expr.ListComp _ [⟨_, Expr.Name (Str.ofString "made") _, [], _⟩] _ _) _) _ _ _); k_dflt (refine ListComp_keys (by k_asm) (by with_unfolding_all rfl) (by decide) (by rfl) (by decide) (by rfl) ?_)))
local macro_rules | `(tactic| walk_at "CompSrc") => `(tactic| (k_here; k_dflt (refine LCg.CompSrc.ledger (by rfl) (by k_asm) (by k_asm) (by k_mem) (by rw [List.size_toArray, RowsIn.length (by assumption), sizeLine_eq]; omega) ?_); intro g'; refine' rows_keys (fun q => q.1) ?sub ?hR ?S (fun a' i' j' t' u' I' oI' C' oC' D' m' ys' h' tk' E' hT' hC' hx' F' N' off' ne' => ?_) (fun ys' hy' D' h' tk' F' N' o1' => ?_); (case hR => assumption); (case sub => walk_at "my sub"); (case S => exact (.inr ⟨_, by k_mem, rfl, _, rfl⟩))))
local macro_rules | `(tactic| walk_at "pyIter ref") => `(tactic| ((with_reducible show wpAny _ _ (pyIter (Value.ref _)) (KeySrc _ _ _ _ _ _ _ _ _ _ _ _) _ _); k_here; k_dflt (refine' owit_iter ?F ?X ?I ?hs ?hf ?_; (case F => k_asm); (case X => k_asm); (case I => k_inst); (case hs => k_is); (case hf => k_is); k_whole)))
local macro_rules | `(tactic| walk_at "OwitIt") => `(tactic| (k_dflt (refine' owit_key ?N ?m ?h ?_; (case N => k_asm); (case m => k_mem); (case h => k_asm))))
local macro_rules | `(tactic| walk_at "call builtin:len") => `(tactic| (k_here; (with_reducible show wpAny _ _ (call (Value.builtin "len") [Value.ref _]) _ _ _); k_dflt (refine' len_rows ?N ?m ?r ?c ?_; (case N => k_asm); (case m => k_mem); (case r => k_asm); (case c => omega))))
local macro_rules | `(tactic| walk_at "KeySrc") => `(tactic| (k_dflt (refine' KeySrc.intro (by rfl) ?F ?N ?lt ?I ?ka ?d ?f ?n (fun k' t' I' oI' C' oC' D' m' ys' h' tk' E' hC' hx' F' N' off' ne' => ?_) (fun ys' hy' D' h' tk' F' N' o1' => ?_); (case F => k_asm); (case N => k_asm); (case I => k_asm); (case ka => k_asm); (case d => k_mem); (case f => k_asm); (case n => omega); (case lt => (refine allLt_all ?_; simp only [AllLt, and_true]; assumption)))))
local macro_rules | `(tactic| walk_at "CEnd") => `(tactic| exact CEnd.mk' (by k_asm) (by k_asm))
section
variable {w : World} {h₀ : Heap} {L fa : Addr} {cdv : Value} {p : Program} {loose : List Str} {mean : ExcName → Option Value} {mg mb : Str → Option Value} {l x d dc R : Addr} {vs : List Value} {room : Int} {tr ta tb : Tok} {cap : Value} {ock ocm od : Obj} {ov : Option Value} {kvs : List (Int × Value)} {c : Prs} {n : Nat}
  {tail : List (Addr × Obj)} {m : Str → Option Value} {s : Shared} {E : Value → Shared → Prop} {Q : Flow → Shared → Prop}
set_option maxRecDepth 100000 in
set_option maxHeartbeats 8000000 in
theorem fin5 (B : Below callerA h₀ [] h₀) (X : (hd.heap_39 w.params).In h₀) (T : Top p loose mean mg mb h₀)
  (hm : ∀ p ∈ [(Str.ofString "rows", Value.ref R)], m p.1 = some p.2) (F : Fr h₀ L s.heap m)
  (N : News h₀ L s.heap ((L + 1, ocm) :: (x, instObj 112 d) :: (d, inD w ta tb cap dc) :: (dc, od) :: (R, listOf vs.toArray n) :: tail)) (hcm : ocm.data = .cell (some (.ref x))) (hR : RowsIn tail vs c) (hlen : c.length ≤ 100)
  (lo : (dc == sysModules) = false) (hd : od.IsDictOf (intKind Challenge.rw_fk5013_01.row.prog w) kvs) (hf : PyProof.V.FlatPairs PyData.int kvs (kdfD c))
  (done : ∀ h' tk, Fr h₀ L h' m → News h₀ L h' ((L + 1, ocm) :: (x, instObj 112 d) :: (d, inD w ta tb cap dc) :: (dc, od) :: (R, listOf vs.toArray n) :: tail) → Q .next { s with heap := h', toks := tk }) :
  wpAny (model Challenge.rw_fk5013_01.row.prog w) (A1 L fa cdv) (exec (L1 5) (E1 L fa cdv)) Q E s := by
  revert X
  k_fill
  intro X
  unfold A1 E1 L1
  conv in (stAt _ _) => whnf
  conv in (occs := *) (lawS _) => all_goals whnf
  rw [← kst_self hm] at F
  k_steps
  all_goals first
  | (exfalso; omega)
  | (rename Fr _ _ _ _ => F9
     rename News _ _ _ _ => N9
     rw [kst_self hm] at F9
     exact done _ _ F9 (fun p hp => N9 p (by walk_at "my in")))
end
end
end Mine
end
section
open PySem PySem.W PyProof.Rows
namespace Mine
theorem RowsIn.last {tl : List (Addr × Obj)} {vs : List Value} {c : Prs} (h : RowsIn tl vs c) (room : Int) : RowsIn tl (vs.drop (vs.length - room.toNat)) (lastR (some room) c) := by
  rw [h.length]
  exact RowsIn.drop h _
section
variable {w : World} {h₀ : Heap} {L fa : Addr} {cdv : Value} {p : Program} {loose : List Str} {mean : ExcName → Option Value} {mg mb : Str → Option Value} {l x d dc : Addr} {room : Int} {tr ta tb : Tok} {cap : Value}
  {nx : List (Addr × Obj)} {m : Str → Option Value} {s : Shared} {E : Value → Shared → Prop} {Q : Flow → Shared → Prop}
theorem has9 {co : Option Int} {c : Prs} (hr : ∀ k ∈ c.map (·.1), (0 ≤ k ∧ k < 5) ∨ (20 ≤ k ∧ k < 20 + ((14 : Nat) : Int))) : kdfHas (lastR co c) 9 = false := by
  rw [has_false]
  intro h
  have := hr _ (((lastR_sub co c).map _).subset h)
  omega
theorem rest2 {i : Nat} (B : Below callerA h₀ [] h₀) (X : (hd.heap_39 w.params).In h₀) (T : Top p loose mean mg mb h₀)
  (hcap : (room = 4 ∧ cap = .none) ∨ ∃ tr2, 1 ≤ room ∧ room < 4 ∧ cap = .int room tr2) (lo : (dc == sysModules) = false)
  (e1 : L + 1 + 1 ≠ dc) (e2 : L + 1 ≠ dc) (e3 : x ≠ dc) (e4 : d ≠ dc) (e8 : x ≠ d) (e13 : x ≠ L + 1 + 1) (e14 : d ≠ L + 1 + 1) (hi : i ≤ 10)
  (hJ : J1 w L l x d dc room tr ta tb cap i m nx) (F : Fr h₀ L s.heap m) (N : News h₀ L s.heap nx)
  (hE : PassesOwn (model Challenge.rw_fk5013_01.row.prog w) (A1 L fa cdv) (E1 L fa cdv) E)
  (done : ∀ h' tk m' nx', Fr h₀ L h' m' → News h₀ L h' nx' → Q (.ret (.bool true)) { s with heap := h', toks := tk }) :
  wpAny (model Challenge.rw_fk5013_01.row.prog w) (A1 L fa cdv) (execs [L1 3, L1 4, L1 5, L1 6] (E1 L fa cdv)) Q E s := by
  obtain ⟨co, hco, hcap2⟩ : ∃ co : Option Int, ((room = 4 ∧ co = none) ∨ (room < 4 ∧ co = some room)) ∧ ((room = 4 ∧ co = none ∧ cap = .none) ∨ ∃ tr2, 1 ≤ room ∧ room < 4 ∧ co = some room ∧ cap = .int room tr2) := by
    rcases hcap with ⟨a, b⟩ | ⟨t, a, b, e⟩
    · exact ⟨none, .inl ⟨a, rfl⟩, .inl ⟨a, rfl, b⟩⟩
    · exact ⟨some room, .inr ⟨b, rfl⟩, .inr ⟨t, a, b, rfl, e⟩⟩
  refine wpAny_execs_cons (loop2 B X T hcap2 lo e1 e2 e3 e4 e8 e13 e14 (hJ.toJ2 hco hi) F N hE fun h1 tk1 m1 nx1 hJ2 F1 N1 => ?_)
  obtain ⟨ock, ocm, od, ov, kvs, c, R, vs, n, tl, rfl, hm, hck, hcm, hd, hf, hR, hn, hr, hlen, e5, e9, htl⟩ := hJ2
  have hl := (lastR_sub co c).length_le
  have h9 : kdfHas (lastR co c) 9 = false := has9 hr
  have o1 : OwnOff ((L + 1 + 1, ock) :: tl) [dc] := by
    intro p hp b hb
    rw [List.mem_singleton.mp hb]
    rcases List.mem_cons.mp hp with rfl | hp
    · exact e1
    · exact (htl p hp).1
  rcases hcap2 with ⟨rfl, rfl, hc⟩ | ⟨tr2, hr1, hr2, rfl, hc⟩
  · refine wpAny_execs_cons (fin4a (tr := tr) (R := R) (vs := vs) (n := n) (ocm := ocm) (d := d) (ta := ta) (tb := tb) (cap := cap) (od := od) (dc := dc) (x := x) (tail := (L + 1 + 1, ock) :: tl) X hm F1 (fun p hp => N1 p ?_) fun h2 tk2 F2 N2 => ?_)
    · simp only [List.mem_cons] at hp ⊢
      rcases hp with rfl | rfl | rfl | rfl | rfl | rfl | hp <;> simp [*]
    refine wpAny_execs_cons (fin5 B X T (fun q hq => by rw [List.mem_singleton.mp hq]; rfl) F2 N2 hcm (hR.mono fun p hp => List.mem_cons_of_mem _ hp) (by omega) lo hd hf fun h3 tk3 F3 N3 => ?_)
    exact wpAny_execs_cons (fin6 B X T F3 N3 hcm (by omega) h9 lo hd hf o1 e2 e3 e4 e5 e8 fun h4 tk4 F4 N4 => done _ _ _ _ F4 N4)
  · refine wpAny_execs_cons (fin4b (tr := tr) (R := R) (vs := vs) (n := n) (ocm := ocm) (d := d) (ta := ta) (tb := tb) (cap := cap) (od := od) (dc := dc) (x := x) (tail := (L + 1 + 1, ock) :: tl) X hr1 hr2 (by rw [hR.length]; omega) hm F1 (fun p hp => N1 p ?_) fun h2 tk2 D n' F2 hD N2 => ?_)
    · simp only [List.mem_cons] at hp ⊢
      rcases hp with rfl | rfl | rfl | rfl | rfl | rfl | hp <;> simp [*]
    refine wpAny_execs_cons (fin5 (ta := ta) (tb := tb) (cap := cap) (d := d) (R := D) (vs := vs.drop (vs.length - room.toNat)) (n := n') (tail := (R, listOf vs.toArray n) :: (L + 1 + 1, ock) :: tl) B X T (fun q hq => by rw [List.mem_singleton.mp hq]; rfl) F2 (fun p hp => N2 p ?_) hcm ((hR.last room).mono fun p hp => List.mem_cons_of_mem _ (List.mem_cons_of_mem _ hp)) (by omega) lo hd hf fun h3 tk3 F3 N3 => ?_)
    · simp only [List.mem_cons] at hp ⊢
      rcases hp with rfl | rfl | rfl | rfl | rfl | rfl | rfl | hp <;> simp [*]
    refine wpAny_execs_cons (fin6 B X T F3 N3 hcm (by omega) h9 lo hd hf ?_ e2 e3 e4 hD e8 fun h4 tk4 F4 N4 => done _ _ _ _ F4 N4)
    intro p hp b hb
    rcases List.mem_cons.mp hp with rfl | hp
    · rw [List.mem_singleton.mp hb]; exact e5
    · exact o1 p hp b hb
theorem law1 {vs0 : List Value} {ns : List Int} {K : Flow → Shared → Prop} (B : Below callerA h₀ [] h₀) (X : (hd.heap_39 w.params).In h₀) (T : Top p loose mean mg mb h₀) (hl : h₀.IsList l vs0.toArray) (hi0 : IntsAre vs0 ns) (hns : ns.length ≤ 63)
  (hcap : (room = 4 ∧ cap = .none) ∨ ∃ tr2, 1 ≤ room ∧ room < 4 ∧ cap = .int room tr2) (lo : (dc == sysModules) = false)
  (e1 : L + 1 + 1 ≠ dc) (e2 : L + 1 ≠ dc) (e3 : x ≠ dc) (e4 : d ≠ dc) (e8 : x ≠ d) (e13 : x ≠ L + 1 + 1) (e14 : d ≠ L + 1 + 1)
  (hm : ∀ p ∈ [(Str.ofString "script", Value.ref l)], m p.1 = some p.2)
  (hJ : J1 w L l x d dc room tr ta tb cap 0 m nx) (F : Fr h₀ L s.heap m) (N : News h₀ L s.heap nx)
  (hE : PassesOwn (model Challenge.rw_fk5013_01.row.prog w) (A1 L fa cdv) (E1 L fa cdv) E)
  (hK : ∀ s', wpAny (model Challenge.rw_fk5013_01.row.prog w) (A1 L fa cdv) (execs [L1 3, L1 4, L1 5, L1 6] (E1 L fa cdv)) Q E s' → K .next s')
  (done : ∀ h' tk m' nx', Fr h₀ L h' m' → News h₀ L h' nx' → Q (.ret (.bool true)) { s with heap := h', toks := tk }) :
  wpAny (model Challenge.rw_fk5013_01.row.prog w) (A1 L fa cdv) (exec (L1 2) (E1 L fa cdv)) K E s :=
  loop1 B X T hl hi0 hns hcap lo e1 e2 e3 e4 e8 e13 e14 hm hJ F N hE fun _ _ _ _ _ hi hj F2 N2 =>
    hK _ (rest2 B X T hcap lo e1 e2 e3 e4 e8 e13 e14 hi hj F2 N2 hE fun h' tk m' nx' F3 N3 => done h' tk m' nx' F3 N3)
theorem cap_lt {z : Int} {t : Tok} (h : 1 + z.fmod 4 < 4) : (1 + z.fmod 4 = 4 ∧ Value.int (1 + z.fmod 4) t = .none) ∨ ∃ tr2, 1 ≤ 1 + z.fmod 4 ∧ 1 + z.fmod 4 < 4 ∧ Value.int (1 + z.fmod 4) t = .int (1 + z.fmod 4) tr2 :=
  .inr ⟨t, by rw [Int.fmod_eq_emod_of_nonneg _ (by decide)]; omega, h, rfl⟩
theorem cap_ge {z : Int} (h : ¬ 1 + z.fmod 4 < 4) : (1 + z.fmod 4 = 4 ∧ Value.none = .none) ∨ ∃ tr2, 1 ≤ 1 + z.fmod 4 ∧ 1 + z.fmod 4 < 4 ∧ Value.none = .int (1 + z.fmod 4) tr2 :=
  .inl ⟨by rw [Int.fmod_eq_emod_of_nonneg _ (by decide)] at h ⊢; omega, rfl⟩
theorem len0 (z : Int) : ((([] : Prs).length : Nat) : Int) ≤ 1 + z.fmod 4 := by
  rw [Int.fmod_eq_emod_of_nonneg _ (by decide)]
  show (0 : Int) ≤ _
  omega
end
end Mine
end
theorem Mine.offFin01 : True := by
  w_top off
  exact trivial
section
local macro_rules | `(tactic| walk_at "my pad") => `(tactic| fail)
local macro_rules | `(tactic| walk_at "my pad") => `(tactic| fail)
local macro_rules | `(tactic| walk_at "my pad") => `(tactic| fail)
local macro_rules | `(tactic| walk_at "my pad") => `(tactic| fail)
local macro_rules | `(tactic| walk_at "my pad") => `(tactic| fail)
local macro_rules | `(tactic| walk_at "my pad") => `(tactic| fail)
local macro_rules | `(tactic| walk_at "my pad") => `(tactic| fail)
local macro_rules | `(tactic| walk_at "my pad") => `(tactic| fail)
local macro_rules | `(tactic| walk_at "my pad") => `(tactic| fail)
local macro_rules | `(tactic| walk_at "my pad") => `(tactic| fail)
local macro_rules | `(tactic| walk_at "my pad") => `(tactic| fail)
local macro_rules | `(tactic| walk_at "my pad") => `(tactic| fail)
local macro_rules | `(tactic| walk_at "my pad") => `(tactic| fail)
local macro_rules | `(tactic| walk_at "my pad") => `(tactic| fail)
local macro_rules | `(tactic| walk_at "my pad") => `(tactic| fail)
local macro_rules | `(tactic| walk_at "my pad") => `(tactic| fail)
local macro_rules | `(tactic| walk_at "my pad") => `(tactic| fail)
local macro_rules | `(tactic| walk_at "my pad") => `(tactic| fail)
local macro_rules | `(tactic| walk_at "my pad") => `(tactic| fail)
local macro_rules | `(tactic| walk_at "my pad") => `(tactic| fail)
local macro_rules | `(tactic| walk_at "my pad") => `(tactic| fail)
local macro_rules | `(tactic| walk_at "my pad") => `(tactic| fail)
local macro_rules | `(tactic| walk_at "my pad") => `(tactic| fail)
local macro_rules | `(tactic| walk_at "my pad") => `(tactic| fail)
local macro_rules | `(tactic| walk_at "my pad") => `(tactic| fail)
local macro_rules | `(tactic| walk_at "my pad") => `(tactic| fail)
local macro_rules | `(tactic| walk_at "my pad") => `(tactic| fail)
local macro_rules | `(tactic| walk_at "my pad") => `(tactic| fail)
local macro_rules | `(tactic| walk_at "my pad") => `(tactic| fail)
local macro_rules | `(tactic| walk_at "my pad") => `(tactic| fail)
local macro_rules | `(tactic| walk_at "my pad") => `(tactic| fail)
local macro_rules | `(tactic| walk_at "my pad") => `(tactic| fail)
local macro_rules | `(tactic| walk_at "my pad") => `(tactic| fail)
local macro_rules | `(tactic| walk_at "my pad") => `(tactic| fail)
local macro_rules | `(tactic| walk_at "my pad") => `(tactic| fail)
local macro_rules | `(tactic| walk_at "my pad") => `(tactic| fail)
local macro_rules | `(tactic| walk_at "my pad") => `(tactic| fail)
local macro_rules | `(tactic| walk_at "my pad") => `(tactic| fail)
local macro_rules | `(tactic| walk_at "my pad") => `(tactic| fail)
local macro_rules | `(tactic| walk_at "my pad") => `(tactic| fail)
local macro_rules | `(tactic| walk_at "my pad") => `(tactic| fail)
local macro_rules | `(tactic| walk_at "my pad") => `(tactic| fail)
local macro_rules | `(tactic| walk_at "my pad") => `(tactic| fail)
local macro_rules | `(tactic| walk_at "my pad") => `(tactic| fail)
local macro_rules | `(tactic| walk_at "my pad") => `(tactic| fail)
local macro_rules | `(tactic| walk_at "my pad") => `(tactic| fail)
local macro_rules | `(tactic| walk_at "my pad") => `(tactic| fail)
local macro_rules | `(tactic| walk_at "my pad") => `(tactic| fail)
local macro_rules | `(tactic| walk_at "my pad") => `(tactic| fail)
local macro_rules | `(tactic| walk_at "my pad") => `(tactic| fail)
local macro_rules | `(tactic| walk_at "my pad") => `(tactic| fail)
local macro_rules | `(tactic| walk_at "my pad") => `(tactic| fail)
local macro_rules | `(tactic| walk_at "my pad") => `(tactic| fail)
local macro_rules | `(tactic| walk_at "my pad") => `(tactic| fail)
local macro_rules | `(tactic| walk_at "my pad") => `(tactic| fail)
local macro_rules | `(tactic| walk_at "my pad") => `(tactic| fail)
local macro_rules | `(tactic| walk_at "my pad") => `(tactic| fail)
local macro_rules | `(tactic| walk_at "my pad") => `(tactic| fail)
local macro_rules | `(tactic| walk_at "my pad") => `(tactic| fail)
local macro_rules | `(tactic| walk_at "my pad") => `(tactic| fail)
local macro_rules | `(tactic| walk_at "my pad") => `(tactic| fail)
local macro_rules | `(tactic| walk_at "my pad") => `(tactic| fail)
local macro_rules | `(tactic| walk_at "my pad") => `(tactic| fail)
local macro_rules | `(tactic| walk_at "my pad") => `(tactic| fail)
local macro_rules | `(tactic| walk_at "my pad") => `(tactic| fail)
local macro_rules | `(tactic| walk_at "my pad") => `(tactic| fail)
local macro_rules | `(tactic| walk_at "my pad") => `(tactic| fail)
local macro_rules | `(tactic| walk_at "my pad") => `(tactic| fail)
local macro_rules | `(tactic| walk_at "my pad") => `(tactic| fail)
local macro_rules | `(tactic| walk_at "my pad") => `(tactic| fail)
local macro_rules | `(tactic| walk_at "my pad") => `(tactic| fail)
local macro_rules | `(tactic| walk_at "my pad") => `(tactic| fail)
local macro_rules | `(tactic| walk_at "my pad") => `(tactic| fail)
local macro_rules | `(tactic| walk_at "my pad") => `(tactic| fail)
local macro_rules | `(tactic| walk_at "my pad") => `(tactic| fail)
local macro_rules | `(tactic| walk_at "my pad") => `(tactic| fail)
local macro_rules | `(tactic| walk_at "my pad") => `(tactic| fail)
local macro_rules | `(tactic| walk_at "my pad") => `(tactic| fail)
local macro_rules | `(tactic| walk_at "my pad") => `(tactic| fail)
local macro_rules | `(tactic| walk_at "my pad") => `(tactic| fail)
local macro_rules | `(tactic| walk_at "my pad") => `(tactic| fail)
local macro_rules | `(tactic| walk_at "my pad") => `(tactic| fail)
local macro_rules | `(tactic| walk_at "my pad") => `(tactic| fail)
local macro_rules | `(tactic| walk_at "my pad") => `(tactic| fail)
local macro_rules | `(tactic| walk_at "my pad") => `(tactic| fail)
local macro_rules | `(tactic| walk_at "my pad") => `(tactic| fail)
local macro_rules | `(tactic| walk_at "my pad") => `(tactic| fail)
local macro_rules | `(tactic| walk_at "my pad") => `(tactic| fail)
local macro_rules | `(tactic| walk_at "my pad") => `(tactic| fail)
local macro_rules | `(tactic| walk_at "my pad") => `(tactic| fail)
local macro_rules | `(tactic| walk_at "my pad") => `(tactic| fail)
local macro_rules | `(tactic| walk_at "my pad") => `(tactic| fail)
local macro_rules | `(tactic| walk_at "my pad") => `(tactic| fail)
local macro_rules | `(tactic| walk_at "my pad") => `(tactic| fail)
local macro_rules | `(tactic| walk_at "my pad") => `(tactic| fail)
local macro_rules | `(tactic| walk_at "my pad") => `(tactic| fail)
local macro_rules | `(tactic| walk_at "my pad") => `(tactic| fail)
local macro_rules | `(tactic| walk_at "my pad") => `(tactic| fail)
local macro_rules | `(tactic| walk_at "my pad") => `(tactic| fail)
local macro_rules | `(tactic| walk_at "my pad") => `(tactic| fail)
local macro_rules | `(tactic| walk_at "my pad") => `(tactic| fail)
local macro_rules | `(tactic| walk_at "my pad") => `(tactic| fail)
local macro_rules | `(tactic| walk_at "my pad") => `(tactic| fail)
local macro_rules | `(tactic| walk_at "my pad") => `(tactic| fail)
local macro_rules | `(tactic| walk_at "my pad") => `(tactic| fail)
local macro_rules | `(tactic| walk_at "my pad") => `(tactic| fail)
local macro_rules | `(tactic| walk_at "my pad") => `(tactic| fail)
local macro_rules | `(tactic| walk_at "my pad") => `(tactic| fail)
local macro_rules | `(tactic| walk_at "my pad") => `(tactic| fail)
local macro_rules | `(tactic| walk_at "my pad") => `(tactic| fail)
local macro_rules | `(tactic| walk_at "my pad") => `(tactic| fail)
local macro_rules | `(tactic| walk_at "my pad") => `(tactic| fail)
local macro_rules | `(tactic| walk_at "my pad") => `(tactic| fail)
local macro_rules | `(tactic| walk_at "my pad") => `(tactic| fail)
local macro_rules | `(tactic| walk_at "my pad") => `(tactic| fail)
local macro_rules | `(tactic| walk_at "my pad") => `(tactic| fail)
local macro_rules | `(tactic| walk_at "my pad") => `(tactic| fail)
local macro_rules | `(tactic| walk_at "my pad") => `(tactic| fail)
local macro_rules | `(tactic| walk_at "my pad") => `(tactic| fail)
local macro_rules | `(tactic| walk_at "my pad") => `(tactic| fail)
local macro_rules | `(tactic| walk_at "my pad") => `(tactic| fail)
local macro_rules | `(tactic| walk_at "my pad") => `(tactic| fail)
local macro_rules | `(tactic| walk_at "my pad") => `(tactic| fail)
local macro_rules | `(tactic| walk_at "my pad") => `(tactic| fail)
local macro_rules | `(tactic| walk_at "my pad") => `(tactic| fail)
local macro_rules | `(tactic| walk_at "my pad") => `(tactic| fail)
local macro_rules | `(tactic| walk_at "my pad") => `(tactic| fail)
local macro_rules | `(tactic| walk_at "my pad") => `(tactic| fail)
local macro_rules | `(tactic| walk_at "my pad") => `(tactic| fail)
local macro_rules | `(tactic| walk_at "my pad") => `(tactic| fail)
local macro_rules | `(tactic| walk_at "my pad") => `(tactic| fail)
local macro_rules | `(tactic| walk_at "my pad") => `(tactic| fail)
local macro_rules | `(tactic| walk_at "my pad") => `(tactic| fail)
local macro_rules | `(tactic| walk_at "my pad") => `(tactic| fail)
local macro_rules | `(tactic| walk_at "my pad") => `(tactic| fail)
local macro_rules | `(tactic| walk_at "my pad") => `(tactic| fail)
local macro_rules | `(tactic| walk_at "my pad") => `(tactic| fail)
local macro_rules | `(tactic| walk_at "my pad") => `(tactic| fail)
local macro_rules | `(tactic| walk_at "my pad") => `(tactic| fail)
local macro_rules | `(tactic| walk_at "my pad") => `(tactic| fail)
local macro_rules | `(tactic| walk_at "my pad") => `(tactic| fail)
local macro_rules | `(tactic| walk_at "my pad") => `(tactic| fail)
local macro_rules | `(tactic| walk_at "my pad") => `(tactic| fail)
local macro_rules | `(tactic| walk_at "my pad") => `(tactic| fail)
local macro_rules | `(tactic| walk_at "my pad") => `(tactic| fail)
local macro_rules | `(tactic| walk_at "my pad") => `(tactic| fail)
local macro_rules | `(tactic| walk_at "my pad") => `(tactic| fail)
local macro_rules | `(tactic| walk_at "my pad") => `(tactic| fail)
local macro_rules | `(tactic| walk_at "my pad") => `(tactic| fail)
local macro_rules | `(tactic| walk_at "my pad") => `(tactic| fail)
local macro_rules | `(tactic| walk_at "my pad") => `(tactic| fail)
local macro_rules | `(tactic| walk_at "my pad") => `(tactic| fail)
open PySem PySem.W PyProof.Rows
section
open Mine
local macro_rules | `(tactic| walk_at "exec For Name Call cons nil") => `(tactic| (k_here; refine Stop.go ?_))
local macro_rules | `(tactic| walk_at "my in") => `(tactic| first | assumption | exact List.mem_cons_self | (refine List.mem_cons_of_mem _ ?_; walk_at "my in"))
local macro_rules | `(tactic| walk_at "my incl") => `(tactic| first | exact List.forall_mem_nil _ | (refine List.forall_mem_cons.mpr ⟨?_, ?_⟩; (focus walk_at "my in"); walk_at "my incl") | (intro p9 hp9; walk_at "my in"))
local macro_rules | `(tactic| walk_at "my split") => `(tactic| repeat (rename _ ∧ _ => hA9; obtain ⟨hA1, hA2⟩ := hA9))
local macro_rules | `(tactic| walk_at "my close") => `(tactic| (
    constructor
    rename Fr _ _ _ _ => F9
    rename News _ _ _ _ => N9
    walk_at "my split"
    refine' law1 (L := ?L) (nx := [(?L + 1 + 1, ?ock), (?L + 1, ?ocm), (?x, instObj 112 ?d), (?d, inD _ ?ta ?tb ?cap ?dc), (?dc, ?od), (?R, listOf [].toArray 0)]) (room := ?room) (tr := ?tr) (m := ?m) (x := ?x) (d := ?d) (dc := ?dc) (cap := ?cap) (ta := ?ta) (tb := ?tb) ?B ?X ?T ?hl ?hi0 ?hns ?hcap ?lo ?e1 ?e2 ?e3 ?e4 ?e8 ?e13 ?e14 ?hm ?hJ ?F ?N ?hE (fun _ h9 => h9) ?done
    case N => 
      intro p hp
      refine N9 p ?_
      revert p
      walk_at "my incl"
    case F => exact F9
    case hE => passes_own
    case hi0 => assumption
    case hns => omega
    case B => k_asm
    case X => k_asm
    case T => k_asm
    case hl => k_asm
    case lo => assumption
    case hm => intro p hp; rw [List.mem_singleton.mp hp]; rfl
    case e1 => exact by (refine neN ?_; omega)
    case e2 => exact by (refine neN ?_; omega)
    case e3 => exact by (refine neN ?_; omega)
    case e4 => exact by (refine neN ?_; omega)
    case e8 => exact by (refine neN ?_; omega)
    case e13 => exact by (refine neN ?_; omega)
    case e14 => exact by (refine neN ?_; omega)
    case hJ =>
      refine' ⟨_, _, _, _, [], [], _, [], 0, [], rfl, List.forall_mem_cons.mpr ⟨rfl, List.forall_mem_cons.mpr ⟨rfl, List.forall_mem_cons.mpr ⟨rfl, List.forall_mem_nil _⟩⟩⟩, ?a, ?b, ?c, PyProof.V.FlatPairs.nil, RowsIn.nil, List.nodup_nil, ?d1, Nat.zero_le _, ?d2, ?n1, ?n2, List.forall_mem_nil _⟩
      case a => assumption
      case b => assumption
      case c => assumption
      case d1 => exact List.forall_mem_nil _
      case d2 => intro h; first | (simp only [List.length_nil]; omega) | exact len0 _
      case n1 => exact by (refine neN ?_; omega)
      case n2 => exact by (refine neN ?_; omega)
    case hcap => first | exact cap_lt (by assumption) | exact cap_ge (by assumption) | exact .inr ⟨_, by decide, by decide, rfl⟩))
set_option maxRecDepth 100000 in
set_option maxHeartbeats 8000000 in
theorem PySem.Challenge.cw_fk5013_01_holds : PySem.Challenge.rw_fk5013_01.Holds := by
  refine hd ?_
  k_go0
  (all_goals try k_fold)
  k_steps
  all_goals walk_at "my close"
  all_goals
    intro h8 tk8 m8 nx8 F8 N8
    k_steps
end

end
