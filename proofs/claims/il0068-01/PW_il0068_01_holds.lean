import PyProof.Rows.All
import Wide.All
import OpenK.AllK
import Wide.FinOn
import Lean
import PySem.Challenge.RW_il0068_01
set_option compiler.extract_closed false
set_option linter.all false
set_option genSizeOf false
section PP3
namespace Mine.Pl
noncomputable def swapL (C : List Nat) (i j : Nat) : List Nat := (C.set i (C.getD j 0)).set j (C.getD i 0)
theorem swapL_perm {C : List Nat} {i j : Nat} (hi : i < C.length) (hj : j < C.length) : (swapL C i j).Perm C := by
  have h := (Array.swap_perm (xs := C.toArray) (i := i) (j := j) (by simpa using hi) (by simpa using hj))
  rw [Array.perm_iff_toList_perm] at h
  have e : (C.toArray.swap i j (by simpa using hi) (by simpa using hj)).toList = swapL C i j := by
    unfold swapL
    rw [Array.toList_swap]
    simp [List.getD_eq_getElem?_getD, List.getElem?_eq_getElem, hi, hj]
  rw [e] at h
  simpa using h
theorem shift_swap {L : List Nat} {k pp x : Nat} (hp : pp < k) (hk : k < L.length) : (L.set k (L.getD pp 0)).set pp x = swapL (L.set k x) k pp := by
  unfold swapL
  have hp' : pp < L.length := Nat.lt_trans hp hk
  have e1 : (L.set k x).getD pp 0 = L.getD pp 0 := by
    simp [List.getD_eq_getElem?_getD, List.getElem?_set, Nat.ne_of_gt hp]
  have e2 : (L.set k x).getD k 0 = x := by
    simp [List.getD_eq_getElem?_getD, hk]
  rw [e1, e2, List.set_set]
theorem getD_set_ne {L : List Nat} {k pp x : Nat} (hp : pp ≠ k) : (L.set k x).getD pp 0 = L.getD pp 0 := by
  simp [List.getD_eq_getElem?_getD, Ne.symm hp]
theorem shift_swap2 {L : List Nat} {k pp x : Nat} (hp : pp ≠ k) (hk : k < L.length) : (L.set k (L.getD pp 0)).set pp x = swapL (L.set k x) k pp := by
  unfold swapL
  have e2 : (L.set k x).getD k 0 = x := by
    simp [List.getD_eq_getElem?_getD, hk]
  rw [getD_set_ne hp, e2, List.set_set]
theorem getD_mem {L : List Nat} {i : Nat} (h : i < L.length) : L.getD i 0 ∈ L := by
  rw [List.getD_eq_getElem?_getD, List.getElem?_eq_getElem h]
  exact List.getElem_mem _
theorem getD_ne {L : List Nat} {i j : Nat} (nd : L.Nodup) (hi : i < L.length) (hj : j < L.length) (h : i ≠ j) : L.getD i 0 ≠ L.getD j 0 := fun e => by
  rw [List.getD_eq_getElem?_getD, List.getD_eq_getElem?_getD, List.getElem?_eq_getElem hi, List.getElem?_eq_getElem hj] at e
  exact h ((List.getElem_inj (h₀ := hi) (h₁ := hj) nd).mp e)
theorem set_ne {L : List Nat} {k pp x : Nat} (hp : pp < k) (hk : k < L.length) (nd : (L.set k x).Nodup) : L.getD pp 0 ≠ x := fun e => by
  have hp' : pp < L.length := Nat.lt_trans hp hk
  have h1 : (L.set k x)[pp]'(by simpa using hp') = L.getD pp 0 := by
    simp [List.getD_eq_getElem?_getD, List.getElem_set, Nat.ne_of_gt hp, hp']
  have h2 : (L.set k x)[k]'(by simpa using hk) = x := by simp
  have := (List.getElem_inj (h₀ := by simpa using hp') (h₁ := by simpa using hk) nd).mp (h1.trans (e.trans h2.symm))
  lia
theorem half (k : Nat) (h : 0 < k) : ((k : Int) - 1).fdiv (2 ^ Int.toNat 1) = (((k - 1) / 2 : Nat) : Int) := by
  have e : ((k : Int) - 1) = ((k - 1 : Nat) : Int) := by lia
  have e2 : ((2 : Int) ^ Int.toNat 1) = 2 := by decide
  rw [e, e2, Int.fdiv_eq_ediv_of_nonneg _ (by decide)]
  lia
end Mine.Pl

end PP3
section PP4
/- the heap's order, on the keys alone -/
namespace Mine.Pl
noncomputable def upd (A : Nat → Int) (p : Nat) (v : Int) : Nat → Int := fun i => if i = p then v else A i
noncomputable def par (i : Nat) : Nat := (i - 1) / 2
/-- in order from s on -/
noncomputable def HeapFrom (A : Nat → Int) (n s : Nat) : Prop := ∀ i, 0 < i → i < n → s ≤ par i → A (par i) ≤ A i
/-- in order but at the hole p; the hole's own parent is no more than its children -/
structure Hole (A : Nat → Int) (n s p : Nat) : Prop where
  ord : ∀ i, 0 < i → i < n → s ≤ par i → par i ≠ p → i ≠ p → A (par i) ≤ A i
  br : ∀ c, 0 < c → c < n → par c = p → 0 < p → s ≤ par p → A (par p) ≤ A c
theorem Hole.start {A : Nat → Int} {n s : Nat} (h : HeapFrom A n (s + 1)) : Hole A n s s where
  ord := fun i h0 hn hs hp _ => h i h0 hn (by lia)
  br := fun c _ _ _ hs h2 => by unfold par at h2; lia
theorem Hole.down {A : Nat → Int} {n s p c : Nat} (h : Hole A n s p) (hp : s ≤ p) (hc : c = 2 * p + 1 ∨ c = 2 * p + 2) (hcn : c < n) (hmin : ∀ d, (d = 2 * p + 1 ∨ d = 2 * p + 2) → d < n → A c ≤ A d) : Hole (upd A p (A c)) n s c where
  ord := fun i h0 hn hs hpc hic => by
    unfold upd
    by_cases e1 : i = p
    · subst e1
      have e2 : par i ≠ i := by unfold par; lia
      rw [if_neg e2, if_pos rfl]
      exact h.br c (by lia) hcn (by unfold par; lia) h0 hs
    · rw [if_neg e1]
      by_cases e2 : par i = p
      · rw [if_pos e2]
        exact hmin i (by unfold par at e2; lia) hn
      · rw [if_neg e2]
        exact h.ord i h0 hn hs e2 e1
  br := fun d h0 hn hd hc0 hs => by
    have e1 : par c = p := by unfold par; lia
    unfold upd
    rw [if_pos e1]
    have e2 : d ≠ p := by unfold par at hd; lia
    rw [if_neg e2]
    have := h.ord d h0 hn (by rw [hd]; lia) (by rw [hd]; lia) e2
    rw [hd] at this
    exact this
/-- in order but perhaps between p and its parent -/
structure Up (A : Nat → Int) (n s p : Nat) : Prop where
  ord : ∀ i, 0 < i → i < n → s ≤ par i → i ≠ p → A (par i) ≤ A i
  br : ∀ c, 0 < c → c < n → par c = p → 0 < p → s ≤ par p → A (par p) ≤ A c
theorem Up.of_leaf {A : Nat → Int} {n s p : Nat} {x : Int} (h : Hole A n s p) (hl : n ≤ 2 * p + 1) : Up (upd A p x) n s p where
  ord := fun i h0 hn hs hip => by
    unfold upd
    have e : par i ≠ p := by unfold par; lia
    rw [if_neg hip, if_neg e]
    exact h.ord i h0 hn hs e hip
  br := fun c h0 hn hc => by unfold par at hc; lia
theorem Up.up {A : Nat → Int} {n s p : Nat} (h : Up A n s p) (hp : 0 < p) (hpn : p < n) (hs : s ≤ par p) (hlt : A p < A (par p)) : Up (upd (upd A p (A (par p))) (par p) (A p)) n s (par p) where
  ord := fun i h0 hn hsi hip => by
    have epp : par p ≠ p := by unfold par; lia
    unfold upd
    rw [if_neg hip]
    by_cases e1 : i = p
    · rw [if_pos e1]
      subst e1
      rw [if_pos rfl]; lia
    · rw [if_neg e1]
      by_cases e2 : par i = par p
      · rw [if_pos e2]
        have := h.ord i h0 hn hsi e1
        rw [e2] at this; lia
      · rw [if_neg e2]
        by_cases e3 : par i = p
        · rw [if_pos e3]
          exact h.br i h0 hn e3 hp hs
        · rw [if_neg e3]
          exact h.ord i h0 hn hsi e1
  br := fun c h0 hn hc hp0 hs2 => by
    have e0 : par (par p) ≠ par p := by unfold par at hp0 ⊢; lia
    have e1 : par (par p) ≠ p := by unfold par at hp0 ⊢; lia
    have e2 : c ≠ par p := fun e => e0 (by rw [← e]; rw [hc, e])
    have hpp := h.ord (par p) hp0 (by unfold par; lia) hs2 (by unfold par; lia)
    unfold upd
    rw [if_neg e0, if_neg e1, if_neg e2]
    by_cases e3 : c = p
    · rw [if_pos e3]; exact hpp
    · rw [if_neg e3]
      have := h.ord c h0 hn (by rw [hc]; exact hs) e3
      rw [hc] at this; lia
theorem Up.done {A : Nat → Int} {n s p : Nat} (h : Up A n s p) (hge : 0 < p → s ≤ par p → A (par p) ≤ A p) : HeapFrom A n s := fun i h0 hn hs => by
  by_cases e : i = p
  · subst e; exact hge h0 hs
  · exact h.ord i h0 hn hs e
/-- the first is the least -/
theorem HeapFrom.least {A : Nat → Int} {n : Nat} (h : HeapFrom A n 0) : ∀ i, i < n → A 0 ≤ A i := by
  intro i
  induction i using Nat.strongRecOn with
  | ind i ih =>
    intro hn
    by_cases e : i = 0
    · subst e; exact Int.le_refl _
    · have h1 := h i (by lia) hn (Nat.zero_le _)
      have h2 := ih (par i) (by unfold par; lia) (by unfold par; lia)
      lia
end Mine.Pl

end PP4
section PP1
/- the plain law: Boruvka in two rounds takes what the told roads are -/
namespace Mine.Pl
structure R where
  rank : Int
  o : Nat
  t : Nat
  i : Nat
  deriving DecidableEq
/-- hangs together over the edges in S -/
inductive Conn (S : R → Prop) : Nat → Nat → Prop
  | refl (x) : Conn S x x
  | fwd {x r} : Conn S x r.o → S r → Conn S x r.t
  | bwd {x r} : Conn S x r.t → S r → Conn S x r.o
variable {S T : R → Prop}
theorem Conn.mono (h : ∀ r, S r → T r) {x y : Nat} (c : Conn S x y) : Conn T x y := by
  induction c with
  | refl => exact .refl _
  | fwd _ hs ih => exact .fwd ih (h _ hs)
  | bwd _ hs ih => exact .bwd ih (h _ hs)
theorem Conn.trans {x y z : Nat} (a : Conn S x y) (b : Conn S y z) : Conn S x z := by
  induction b with
  | refl => exact a
  | fwd _ hs ih => exact .fwd ih hs
  | bwd _ hs ih => exact .bwd ih hs
theorem Conn.edge {r : R} (h : S r) : Conn S r.o r.t := .fwd (.refl _) h
theorem Conn.egde {r : R} (h : S r) : Conn S r.t r.o := .bwd (.refl _) h
theorem Conn.symm {x y : Nat} (a : Conn S x y) : Conn S y x := by
  induction a with
  | refl => exact .refl _
  | fwd _ hs ih => exact (Conn.egde hs).trans ih
  | bwd _ hs ih => exact (Conn.edge hs).trans ih
/-- one edge more -/
theorem Conn.split {e : R} {x y : Nat} (c : Conn (fun r => S r ∨ r = e) x y) : Conn S x y ∨ (Conn S x e.o ∧ Conn S e.t y) ∨ (Conn S x e.t ∧ Conn S e.o y) := by
  induction c with
  | refl => exact .inl (.refl _)
  | fwd _ hs ih =>
    rcases hs with hs | rfl
    · rcases ih with h | ⟨h1, h2⟩ | ⟨h1, h2⟩
      · exact .inl (.fwd h hs)
      · exact .inr (.inl ⟨h1, .fwd h2 hs⟩)
      · exact .inr (.inr ⟨h1, .fwd h2 hs⟩)
    · rcases ih with h | ⟨h1, h2⟩ | ⟨h1, h2⟩
      · exact .inr (.inl ⟨h, .refl _⟩)
      · exact .inr (.inl ⟨h1, .refl _⟩)
      · exact .inl h1
  | bwd _ hs ih =>
    rcases hs with hs | rfl
    · rcases ih with h | ⟨h1, h2⟩ | ⟨h1, h2⟩
      · exact .inl (.bwd h hs)
      · exact .inr (.inl ⟨h1, .bwd h2 hs⟩)
      · exact .inr (.inr ⟨h1, .bwd h2 hs⟩)
    · rcases ih with h | ⟨h1, h2⟩ | ⟨h1, h2⟩
      · exact .inr (.inr ⟨h, .refl _⟩)
      · exact .inl h1
      · exact .inr (.inr ⟨h1, .refl _⟩)
theorem Conn.none {x y : Nat} (c : Conn (fun _ => False) x y) : x = y := by
  induction c with
  | refl => rfl
  | fwd _ hs => exact hs.elim
  | bwd _ hs => exact hs.elim
/-- f tells the classes of S -/
noncomputable def Labels (f : Nat → Nat) (S : R → Prop) : Prop := ∀ x y, x < 5 → y < 5 → (f x = f y ↔ Conn S x y)
noncomputable def In5 (S : R → Prop) : Prop := ∀ r, S r → r.o < 5 ∧ r.t < 5
/-- gone becomes keep -/
noncomputable def joinF (f : Nat → Nat) (keep gone : Nat) : Nat → Nat := fun x => if f x = gone then keep else f x
theorem Labels.join {f : Nat → Nat} {e : R} (h : Labels f S) (h5 : In5 S) (ho : e.o < 5) (ht : e.t < 5) : Labels (joinF f (f e.o) (f e.t)) (fun r => S r ∨ r = e) := by
  intro x y hx hy
  have mono : ∀ {a b}, Conn S a b → Conn (fun r => S r ∨ r = e) a b := fun c => c.mono fun r hr => .inl hr
  have ed : Conn (fun r => S r ∨ r = e) e.o e.t := .edge (.inr rfl)
  constructor
  · intro q
    unfold joinF at q
    by_cases h1 : f x = f e.t <;> by_cases h2 : f y = f e.t
    · exact mono (((h x e.t hx ht).mp h1).trans ((h e.t y ht hy).mp h2.symm))
    · rw [if_pos h1, if_neg h2] at q
      exact ((mono ((h x e.t hx ht).mp h1)).trans ed.symm).trans (mono ((h e.o y ho hy).mp q))
    · rw [if_neg h1, if_pos h2] at q
      exact ((mono ((h x e.o hx ho).mp q)).trans ed).trans (mono ((h e.t y ht hy).mp h2.symm))
    · rw [if_neg h1, if_neg h2] at q
      exact mono ((h x y hx hy).mp q)
  · intro c
    unfold joinF
    rcases c.split with c | ⟨c1, c2⟩ | ⟨c1, c2⟩
    · rw [(h x y hx hy).mpr c]
    · have a := (h x e.o hx ho).mpr c1
      have b := (h e.t y ht hy).mpr c2
      rw [a, ← b]
      by_cases q : f e.o = f e.t <;> simp [q]
    · have a := (h x e.t hx ht).mpr c1
      have b := (h e.o y ho hy).mpr c2
      rw [a, ← b]
      by_cases q : f e.o = f e.t <;> simp [q]
/-- e's two places do not hang together by cheaper roads -/
noncomputable def Told (all : R → Prop) (e : R) : Prop := all e ∧ ¬ Conn (fun r => all r ∧ r.rank < e.rank) e.o e.t
/-- told roads make no ring -/
theorem told_forest (all : R → Prop) (inj : ∀ a b, all a → all b → a.rank = b.rank → a = b) :
    ∀ (l : List R), (∀ r ∈ l, Told all r) → ∀ e, Told all e → e ∉ l → ¬ Conn (fun r => r ∈ l) e.o e.t := by
  intro l
  induction hn : l.length using Nat.strongRecOn generalizing l with
  | ind n ih =>
    intro hl e he hel c
    by_cases hm : ∀ r ∈ l, r.rank < e.rank
    · exact he.2 (c.mono fun r hr => ⟨(hl r hr).1, hm r hr⟩)
    · -- some road of l is dearer than e: take the dearest
      have : ∃ m ∈ l, ∀ r ∈ l, r.rank ≤ m.rank := by
        have hne : l ≠ [] := by
          intro h0; subst h0; exact hm fun r hr => nomatch hr
        clear ih hn hl hel c hm
        induction l with
        | nil => exact absurd rfl hne
        | cons a l ih2 =>
          by_cases h0 : l = []
          · subst h0; exact ⟨a, .head _, fun r hr => by rcases List.mem_singleton.mp hr with rfl; exact Int.le_refl _⟩
          · obtain ⟨m, hm, hmm⟩ := ih2 h0
            by_cases hc : m.rank ≤ a.rank
            · exact ⟨a, .head _, fun r hr => by
                rcases List.mem_cons.mp hr with rfl | hr
                · exact Int.le_refl _
                · exact Int.le_trans (hmm r hr) hc⟩
            · exact ⟨m, .tail _ hm, fun r hr => by
                rcases List.mem_cons.mp hr with rfl | hr
                · lia
                · exact hmm r hr⟩
      obtain ⟨m, hml, hmm⟩ := this
      have hme : e.rank < m.rank := by
        obtain ⟨r, hr, hrr⟩ : ∃ r ∈ l, ¬ r.rank < e.rank := by
          apply Classical.byContradiction
          intro h0
          exact hm fun r hr => Classical.byContradiction fun h1 => h0 ⟨r, hr, h1⟩
        have h1 := hmm r hr
        have h2 : r.rank ≠ e.rank := fun q => hel (by rw [← inj r e (hl r hr).1 he.1 q]; exact hr)
        lia
      let l' := l.filter (fun r => decide (r ≠ m))
      have hlt : l'.length < n := by
        rw [← hn]
        exact List.length_filter_lt_length_iff_exists.mpr ⟨m, hml, by simp⟩
      have hsub : ∀ r ∈ l', r ∈ l ∧ r ≠ m := fun r hr => by
        have := List.mem_filter.mp hr
        exact ⟨this.1, by simpa using this.2⟩
      have cheap : ∀ r ∈ l', r.rank < m.rank := fun r hr => by
        obtain ⟨h1, h2⟩ := hsub r hr
        have h3 := hmm r h1
        have h4 : r.rank ≠ m.rank := fun q => h2 (inj r m (hl r h1).1 (hl m hml).1 q)
        lia
      have c' : Conn (fun r => r ∈ l' ∨ r = m) e.o e.t := c.mono fun r hr => by
        by_cases q : r = m
        · exact .inr q
        · exact .inl (List.mem_filter.mpr ⟨hr, by simpa using q⟩)
      have no : ¬ Conn (fun r => r ∈ l') e.o e.t := ih _ hlt l' rfl (fun r hr => hl r (hsub r hr).1) e he fun h => hel (hsub e h).1
      have up : ∀ {a b}, Conn (fun r => r ∈ l') a b → Conn (fun r => all r ∧ r.rank < m.rank) a b := fun c => c.mono fun r hr => ⟨(hl r (hsub r hr).1).1, cheap r hr⟩
      have ed : Conn (fun r => all r ∧ r.rank < m.rank) e.o e.t := .edge ⟨he.1, hme⟩
      rcases c'.split with c | ⟨c1, c2⟩ | ⟨c1, c2⟩
      · exact no c
      · exact (hl m hml).2 (((up c1).symm.trans ed).trans (up c2).symm)
      · exact (hl m hml).2 ((((up c1).symm.trans ed).trans (up c2).symm).symm)
end Mine.Pl

end PP1
section PP2
namespace Mine.Pl
noncomputable def cutsR (f : Nat → Nat) (q : Nat) (r : R) : Bool := (f r.o == q) != (f r.t == q)
theorem cut_told {all : R → Prop} {f : Nat → Nat} {q : Nat} {e : R} (he : all e) (hc : cutsR f q e = true) (hm : ∀ r, all r → cutsR f q r = true → e.rank ≤ r.rank) : Told all e := by
  refine ⟨he, fun c => ?_⟩
  have key : ∀ {x y}, Conn (fun r => all r ∧ r.rank < e.rank) x y → (f x == q) = (f y == q) := by
    intro x y c
    have no : ∀ r, (all r ∧ r.rank < e.rank) → (f r.o == q) = (f r.t == q) := fun r hr => by
      cases h : cutsR f q r with
      | false => simpa [cutsR] using h
      | true => have := hm r hr.1 h; have := hr.2; lia
    induction c with
    | refl => rfl
    | fwd _ hs ih => exact ih.trans (no _ hs)
    | bwd _ hs ih => exact ih.trans (no _ hs).symm
  have := key c
  unfold cutsR at hc
  rw [this] at hc
  simp at hc
/-- one road is taken, if it is not yet -/
noncomputable def takeR (st : (Nat → Nat) × List R) (e : R) : (Nat → Nat) × List R := if e ∈ st.2 then st else (joinF st.1 (st.1 e.o) (st.1 e.t), st.2 ++ [e])
structure Good (all : R → Prop) (st : (Nat → Nat) × List R) : Prop where
  lab : Labels st.1 (fun r => r ∈ st.2)
  told : ∀ r ∈ st.2, Told all r
  nodup : st.2.Nodup
  lt : ∀ x, x < 5 → st.1 x < 5
section
variable {all : R → Prop} (inj : ∀ a b, all a → all b → a.rank = b.rank → a = b) (h5 : ∀ r, all r → r.o < 5 ∧ r.t < 5)
include inj h5
theorem Good.apart {st : (Nat → Nat) × List R} (G : Good all st) {e : R} (he : Told all e) (hn : e ∉ st.2) : st.1 e.o ≠ st.1 e.t := fun q =>
  told_forest all inj st.2 G.told e he hn ((G.lab e.o e.t (h5 e he.1).1 (h5 e he.1).2).mp q)
theorem Good.take {st : (Nat → Nat) × List R} (G : Good all st) {e : R} (he : Told all e) : Good all (takeR st e) := by
  unfold takeR
  by_cases h : e ∈ st.2
  · rw [if_pos h]; exact G
  · rw [if_neg h]
    have hl := G.lab.join (e := e) (fun r hr => h5 r (G.told r hr).1) (h5 e he.1).1 (h5 e he.1).2
    refine ⟨?_, ?_, ?_, ?_⟩
    · have e1 : (fun r => r ∈ st.2 ++ [e]) = (fun r => r ∈ st.2 ∨ r = e) := by funext r; simp
      show Labels _ (fun r => r ∈ st.2 ++ [e])
      rw [e1]; exact hl
    · intro r hr
      rcases List.mem_append.mp hr with hr | hr
      · exact G.told r hr
      · rw [List.mem_singleton.mp hr]; exact he
    · exact List.nodup_append.mpr ⟨G.nodup, by simp, fun a ha b hb => by rw [List.mem_singleton.mp hb]; exact fun q => h (q ▸ ha)⟩
    · intro x hx
      show joinF st.1 _ _ x < 5
      unfold joinF
      split
      · exact G.lt _ (h5 e he.1).1
      · exact G.lt x hx
theorem Good.takes {st : (Nat → Nat) × List R} : ∀ (l : List R), (∀ e ∈ l, Told all e) → Good all st → Good all (l.foldl takeR st)
  | [], _, G => G
  | e :: l, h, G => Good.takes l (fun r hr => h r (.tail _ hr)) (G.take inj h5 (h e (.head _)))
end
theorem takes_sub {st : (Nat → Nat) × List R} : ∀ (l : List R), (∀ r ∈ st.2, r ∈ (l.foldl takeR st).2)
  | [], r, hr => hr
  | e :: l, r, hr => takes_sub (st := takeR st e) l r (by unfold takeR; split; exact hr; exact List.mem_append_left _ hr)
theorem takes_mem {st : (Nat → Nat) × List R} : ∀ (l : List R), (∀ r ∈ l, r ∈ (l.foldl takeR st).2)
  | e :: l, r, hr => by
    rcases List.mem_cons.mp hr with rfl | hr
    · exact takes_sub (st := takeR st r) l r (by unfold takeR; split; assumption; exact List.mem_append_right _ (.head _))
    · exact takes_mem (st := takeR st e) l r hr
/-- nothing is cut after two rounds -/
theorem two_rounds {all : R → Prop} {f1 f2 : Nat → Nat} (h5 : ∀ r, all r → r.o < 5 ∧ r.t < 5)
    (hA : ∀ x, x < 5 → (∃ r, all r ∧ (r.o = x ∨ r.t = x)) → ∃ x', x' < 5 ∧ x' ≠ x ∧ f1 x' = f1 x)
    (hB : ∀ x y, x < 5 → y < 5 → f1 x = f1 y → f2 x = f2 y)
    (hC : ∀ x, x < 5 → (∃ r, all r ∧ cutsR f1 (f1 x) r = true) → ∃ v, v < 5 ∧ f1 v ≠ f1 x ∧ f2 v = f2 x) :
    ∀ r, all r → f2 r.o = f2 r.t := by
  intro r hr
  apply Classical.byContradiction
  intro hne
  obtain ⟨ho, ht⟩ := h5 r hr
  have hne1 : f1 r.o ≠ f1 r.t := fun q => hne (hB _ _ ho ht q)
  obtain ⟨x', hx', nx, ex⟩ := hA r.o ho ⟨r, hr, .inl rfl⟩
  obtain ⟨y', hy', ny, ey⟩ := hA r.t ht ⟨r, hr, .inr rfl⟩
  obtain ⟨v, hv, nv, ev⟩ := hC r.o ho ⟨r, hr, by unfold cutsR; rw [beq_self_eq_true, beq_eq_false_iff_ne.mpr (Ne.symm hne1)]; rfl⟩
  obtain ⟨u, hu, nu, eu⟩ := hC r.t ht ⟨r, hr, by unfold cutsR; rw [beq_self_eq_true, beq_eq_false_iff_ne.mpr hne1]; rfl⟩
  have ex2 := hB _ _ hx' ho ex
  have ey2 := hB _ _ hy' ht ey
  have nd : [r.o, x', r.t, y', v, u].Nodup := by
    simp only [List.nodup_cons, List.mem_cons, List.not_mem_nil, or_false, not_or, List.nodup_nil, and_true, not_false_eq_true]
    refine ⟨⟨fun q => nx q.symm, fun q => hne (by rw [q]), fun q => hne1 (by rw [q, ey]), fun q => nv (by rw [← q]), fun q => hne (by rw [q, eu])⟩, ⟨fun q => hne1 (by rw [← ex, q]), fun q => hne1 (by rw [← ex, q, ey]), fun q => nv (by rw [← q, ex]), fun q => hne (by rw [← ex2, q, eu])⟩, ⟨fun q => ny q.symm, fun q => hne (by rw [q, ev]), fun q => nu (by rw [← q])⟩, ⟨fun q => hne (by rw [← ey2, q, ev]), fun q => nu (by rw [← q, ey])⟩, fun q => hne (by rw [← ev, q, eu])⟩
  have hs : [r.o, x', r.t, y', v, u] ⊆ List.range 5 := by
    intro z hz
    simp only [List.mem_cons, List.not_mem_nil, or_false] at hz
    rw [List.mem_range]
    rcases hz with rfl | rfl | rfl | rfl | rfl | rfl <;> assumption
  have := List.Nodup.length_le_of_subset nd hs
  simp at this
end Mine.Pl

end PP2
section PP5
namespace Mine.Pl
theorem snocInd {α : Type} {P : List α → Prop} (h0 : P []) (h1 : ∀ l e, P l → P (l ++ [e])) (l : List α) : P l := by
  have : ∀ l : List α, P l.reverse := by
    intro l
    induction l with
    | nil => exact h0
    | cons a l ih => rw [List.reverse_cons]; exact h1 _ _ ih
  have := this l.reverse
  rwa [List.reverse_reverse] at this
/-- one road of the heap: kept if its places do not hang together yet -/
noncomputable def keepR (st : (Nat → Nat) × List R) (e : R) : (Nat → Nat) × List R := if st.1 e.o = st.1 e.t then st else (joinF st.1 (st.1 e.o) (st.1 e.t), st.2 ++ [e])
noncomputable def krus (l : List R) : (Nat → Nat) × List R := l.foldl keepR (id, [])
theorem krus_snoc (l : List R) (e : R) : krus (l ++ [e]) = keepR (krus l) e := by unfold krus; rw [List.foldl_append]; rfl
theorem labels_id : Labels id (fun r => r ∈ ([] : List R)) := fun x y _ _ => by
  constructor
  · intro h
    have h : x = y := h
    subst h; exact .refl _
  · intro c
    exact Conn.none (c.mono fun r hr => nomatch hr)
theorem labels_more {f : Nat → Nat} {S : R → Prop} {e : R} (h : Labels f S) (c : Conn S e.o e.t) : Labels f (fun r => S r ∨ r = e) := fun x y hx hy => by
  constructor
  · exact fun q => ((h x y hx hy).mp q).mono fun r hr => .inl hr
  · intro d
    refine (h x y hx hy).mpr ?_
    rcases d.split with d | ⟨d1, d2⟩ | ⟨d1, d2⟩
    · exact d
    · exact (d1.trans c).trans d2
    · exact (d1.trans c.symm).trans d2
theorem mem_snoc (l : List R) (e : R) : (fun r => r ∈ l ++ [e]) = (fun r => r ∈ l ∨ r = e) := by funext r; simp
theorem krus_labels {l : List R} : (h5 : ∀ r ∈ l, r.o < 5 ∧ r.t < 5) → Labels (krus l).1 (fun r => r ∈ l) := by
  refine snocInd (P := fun l => (h5 : ∀ r ∈ l, r.o < 5 ∧ r.t < 5) → Labels (krus l).1 (fun r => r ∈ l)) ?_ ?_ l
  · exact fun _ => labels_id
  · intro l e ih h5
    have h5' : ∀ r ∈ l, r.o < 5 ∧ r.t < 5 := fun r hr => h5 r (List.mem_append_left _ hr)
    have he := h5 e (by simp)
    have L := ih h5'
    rw [krus_snoc, mem_snoc]
    unfold keepR
    split
    · rename_i h
      exact labels_more L ((L e.o e.t he.1 he.2).mp h)
    · exact L.join (fun r hr => h5' r hr) he.1 he.2
/-- the kept are those whose places do not hang together by the ones before -/
theorem krus_kept {l : List R} {e : R} (h5 : ∀ r ∈ l ++ [e], r.o < 5 ∧ r.t < 5) : (Conn (fun r => r ∈ l) e.o e.t → (krus (l ++ [e])).2 = (krus l).2) ∧ (¬ Conn (fun r => r ∈ l) e.o e.t → (krus (l ++ [e])).2 = (krus l).2 ++ [e]) := by
  have he := h5 e (by simp)
  have L := krus_labels (l := l) fun r hr => h5 r (List.mem_append_left _ hr)
  rw [krus_snoc]
  unfold keepR
  constructor
  · intro c
    rw [if_pos ((L e.o e.t he.1 he.2).mpr c)]
  · intro c
    rw [if_neg fun q => c ((L e.o e.t he.1 he.2).mp q)]
/-- over roads in the order of their ranks the kept ones are the told ones -/
theorem krus_told {l : List R} (h5 : ∀ r ∈ l, r.o < 5 ∧ r.t < 5) (hs : l.Pairwise fun a b => a.rank < b.rank) : ∀ r, r ∈ (krus l).2 ↔ r ∈ l ∧ Told (fun r => r ∈ l) r := by
  suffices H : ∀ (pre : List R), (∃ suf, l = pre ++ suf) → ∀ r, r ∈ (krus pre).2 ↔ r ∈ pre ∧ Told (fun r => r ∈ l) r from H l ⟨[], by simp⟩
  refine snocInd (P := fun pre => (∃ suf, l = pre ++ suf) → ∀ r, r ∈ (krus pre).2 ↔ r ∈ pre ∧ Told (fun r => r ∈ l) r) ?_ ?_
  · intro _ r; simp [krus]
  · intro pre e ih
    rintro ⟨suf, hl⟩ r
    have ihr := ih ⟨e :: suf, by rw [hl]; simp⟩ r
    have h5' : ∀ r ∈ pre ++ [e], r.o < 5 ∧ r.t < 5 := fun r hr => h5 r (by rw [hl]; exact List.mem_append_left _ hr)
    obtain ⟨k1, k2⟩ := krus_kept h5'
    have hp := hs
    rw [hl, List.append_assoc, List.pairwise_append] at hp
    obtain ⟨_, hp2, hp3⟩ := hp
    have cheap : (fun x => x ∈ l ∧ x.rank < e.rank) = fun x => x ∈ pre := by
      funext x
      apply propext
      constructor
      · rintro ⟨hx, hr⟩
        rw [hl, List.append_assoc] at hx
        rcases List.mem_append.mp hx with hx | hx
        · exact hx
        · simp only [List.cons_append, List.nil_append] at hx hp2
          rcases List.mem_cons.mp hx with rfl | hx
          · exact absurd hr (Int.lt_irrefl _)
          · have := (List.pairwise_cons.mp hp2).1 x hx
            lia
      · exact fun hx => ⟨by rw [hl, List.append_assoc]; exact List.mem_append_left _ hx, hp3 x hx e (by simp)⟩
    have te : Told (fun r => r ∈ l) e ↔ ¬ Conn (fun x => x ∈ pre) e.o e.t := by
      unfold Told
      rw [cheap]
      exact ⟨fun h => h.2, fun h => ⟨by rw [hl]; simp, h⟩⟩
    by_cases c : Conn (fun x => x ∈ pre) e.o e.t
    · rw [k1 c, ihr]
      constructor
      · exact fun h => ⟨List.mem_append_left _ h.1, h.2⟩
      · rintro ⟨h1, h2⟩
        refine ⟨?_, h2⟩
        rcases List.mem_append.mp h1 with h1 | h1
        · exact h1
        · rw [List.mem_singleton.mp h1] at h2
          exact absurd c (te.mp h2)
    · rw [k2 c, List.mem_append, ihr, List.mem_append]
      constructor
      · rintro (h | h)
        · exact ⟨.inl h.1, h.2⟩
        · rw [List.mem_singleton.mp h]; exact ⟨.inr (by simp), te.mpr c⟩
      · rintro ⟨h1 | h1, h2⟩
        · exact .inl ⟨h1, h2⟩
        · exact .inr h1
end Mine.Pl

end PP5
section PP6
namespace Mine.Pl
/-- what a round's choice is: for each folder that is cut its cheapest cutting road, and nothing else -/
structure Chosen (l : List R) (f : Nat → Nat) (ch : List R) : Prop where
  ok : ∀ e ∈ ch, ∃ q, e ∈ l ∧ cutsR f q e = true ∧ ∀ r ∈ l, cutsR f q r = true → e.rank ≤ r.rank
  all : ∀ x, x < 5 → (∃ r ∈ l, cutsR f (f x) r = true) → ∃ e ∈ ch, cutsR f (f x) e = true
theorem Chosen.told {l ch : List R} {f : Nat → Nat} (c : Chosen l f ch) : ∀ e ∈ ch, Told (fun r => r ∈ l) e := fun e he => by
  obtain ⟨q, h1, h2, h3⟩ := c.ok e he
  exact cut_told h1 h2 h3
theorem cutsR_iff {f : Nat → Nat} {q : Nat} {e : R} : cutsR f q e = true ↔ (f e.o = q ∧ f e.t ≠ q) ∨ (f e.o ≠ q ∧ f e.t = q) := by
  unfold cutsR
  by_cases h1 : f e.o = q <;> by_cases h2 : f e.t = q
  · simp [h1, h2]
  · simp [h1, h2]
  · simp [h1, h2]
  · rw [beq_eq_false_iff_ne.mpr h1, beq_eq_false_iff_ne.mpr h2]
    simp [h1, h2]
theorem good0 {all : R → Prop} : Good all (id, []) := ⟨labels_id, (fun r hr => nomatch hr), List.nodup_nil, fun x hx => hx⟩
section
variable {l ch1 ch2 : List R} (inj : ∀ a ∈ l, ∀ b ∈ l, a.rank = b.rank → a = b) (h5 : ∀ r ∈ l, r.o < 5 ∧ r.t < 5) (hne : ∀ r ∈ l, r.o ≠ r.t)
  (c1 : Chosen l id ch1) (c2 : Chosen l (ch1.foldl takeR (id, [])).1 ch2)
include inj h5 hne c1 c2
theorem boruvka : Good (fun r => r ∈ l) (ch1.foldl takeR (id, [])) ∧ Good (fun r => r ∈ l) (ch2.foldl takeR (ch1.foldl takeR (id, []))) ∧
    (∀ r ∈ l, (ch2.foldl takeR (ch1.foldl takeR (id, []))).1 r.o = (ch2.foldl takeR (ch1.foldl takeR (id, []))).1 r.t) ∧
    (∀ r, r ∈ (ch2.foldl takeR (ch1.foldl takeR (id, []))).2 ↔ r ∈ l ∧ Told (fun r => r ∈ l) r) := by
  have G1 : Good (fun r => r ∈ l) (ch1.foldl takeR (id, [])) := Good.takes (all := fun r => r ∈ l) (fun a b ha hb => inj a ha b hb) h5 ch1 c1.told good0
  have M1 : ∀ r ∈ ch1, r ∈ (ch1.foldl takeR (id, [])).2 := takes_mem ch1
  generalize hs1 : ch1.foldl takeR (id, []) = st1 at *
  have G2 : Good (fun r => r ∈ l) (ch2.foldl takeR st1) := Good.takes (all := fun r => r ∈ l) (fun a b ha hb => inj a ha b hb) h5 ch2 c2.told G1
  have M2 : ∀ r ∈ ch2, r ∈ (ch2.foldl takeR st1).2 := takes_mem ch2
  have S2 : ∀ r ∈ st1.2, r ∈ (ch2.foldl takeR st1).2 := takes_sub ch2
  generalize hs2 : ch2.foldl takeR st1 = st2 at *
  have mem5 : ∀ {e}, e ∈ ch1 → e ∈ l := fun he => (c1.told _ he).1
  have no : ∀ r ∈ l, st2.1 r.o = st2.1 r.t := by
    refine two_rounds (all := fun r => r ∈ l) (f1 := st1.1) h5 ?_ ?_ ?_
    · rintro x hx ⟨r, hr, htx⟩
      have hcut : cutsR id (id x) r = true := by
        rw [cutsR_iff]
        rcases htx with h | h
        · exact .inl ⟨h, fun q => hne r hr (h.trans q.symm)⟩
        · exact .inr ⟨fun q => hne r hr (q.trans h.symm), h⟩
      obtain ⟨e, he, hce⟩ := c1.all x hx ⟨r, hr, hcut⟩
      have hl := mem5 he
      have same : st1.1 e.o = st1.1 e.t := (G1.lab e.o e.t (h5 e hl).1 (h5 e hl).2).mpr (.edge (S := fun r => r ∈ st1.2) (M1 e he))
      rcases cutsR_iff.mp hce with ⟨h1, h2⟩ | ⟨h1, h2⟩
      · exact ⟨e.t, (h5 e hl).2, h2, by rw [← same]; exact congrArg st1.1 h1⟩
      · exact ⟨e.o, (h5 e hl).1, h1, by rw [same]; exact congrArg st1.1 h2⟩
    · intro x y hx hy h
      exact (G2.lab x y hx hy).mpr (((G1.lab x y hx hy).mp h).mono S2)
    · rintro x hx ⟨r, hr, hc⟩
      obtain ⟨e, he, hce⟩ := c2.all x hx ⟨r, hr, hc⟩
      have hl := (c2.told e he).1
      have same : st2.1 e.o = st2.1 e.t := (G2.lab e.o e.t (h5 e hl).1 (h5 e hl).2).mpr (.edge (S := fun r => r ∈ st2.2) (M2 e he))
      have coarse : ∀ u, u < 5 → st1.1 u = st1.1 x → st2.1 u = st2.1 x := fun u hu h => (G2.lab u x hu hx).mpr (((G1.lab u x hu hx).mp h).mono S2)
      rcases cutsR_iff.mp hce with ⟨h1, h2⟩ | ⟨h1, h2⟩
      · exact ⟨e.t, (h5 e hl).2, h2, by rw [← same]; exact coarse _ (h5 e hl).1 h1⟩
      · exact ⟨e.o, (h5 e hl).1, h1, by rw [same]; exact coarse _ (h5 e hl).2 h2⟩
  refine ⟨G1, G2, no, fun r => ⟨fun hr => ⟨(G2.told r hr).1, G2.told r hr⟩, fun ⟨hr, ht⟩ => ?_⟩⟩
  by_cases h : r ∈ st2.2
  · exact h
  · exact absurd (no r hr) (Good.apart (all := fun r => r ∈ l) (fun a b ha hb => inj a ha b hb) h5 G2 ht h)
end
end Mine.Pl

end PP6
section PP7
namespace Mine.Pl
noncomputable def absorb (S : Nat → Bool) (e : R) : Nat → Bool := if S e.o || S e.t then fun x => S x || x == e.o || x == e.t else S
noncomputable def pass (l : List R) (S : Nat → Bool) : Nat → Bool := l.foldl absorb S
noncomputable def clos (l : List R) (one : Nat) : Nat → Bool := pass l (pass l (pass l (pass l fun x => x == one)))
theorem absorb_mono {S : Nat → Bool} {e : R} {x : Nat} (h : S x = true) : absorb S e x = true := by
  unfold absorb; split <;> simp [h]
theorem pass_mono {x : Nat} : ∀ (l : List R) {S : Nat → Bool}, S x = true → pass l S x = true
  | [], _, h => h
  | _ :: l, _, h => pass_mono l (absorb_mono h)
theorem pass_hit {e : R} : ∀ (l : List R) {S : Nat → Bool}, e ∈ l → (S e.o = true ∨ S e.t = true) → pass l S e.o = true ∧ pass l S e.t = true
  | a :: l, S, he, h => by
    rcases List.mem_cons.mp he with rfl | he
    · have : absorb S e e.o = true ∧ absorb S e e.t = true := by
        unfold absorb
        rw [if_pos (by simpa using h)]
        simp
      exact ⟨pass_mono l this.1, pass_mono l this.2⟩
    · exact pass_hit l he (h.imp absorb_mono absorb_mono)
theorem pass_sound {P : R → Prop} {one : Nat} : ∀ (l : List R) {S : Nat → Bool}, (∀ e ∈ l, P e) → (∀ x, S x = true → Conn P one x) → ∀ x, pass l S x = true → Conn P one x
  | [], _, _, h => h
  | e :: l, S, hl, h => by
    refine pass_sound l (fun r hr => hl r (.tail _ hr)) fun x hx => ?_
    unfold absorb at hx
    split at hx
    · rename_i hc
      have he : P e := hl e (.head _)
      simp only [Bool.or_eq_true, beq_iff_eq] at hc hx
      rcases hx with (hx | rfl) | rfl
      · exact h x hx
      · rcases hc with hc | hc
        · exact h _ hc
        · exact .bwd (h _ hc) he
      · rcases hc with hc | hc
        · exact .fwd (h _ hc) he
        · exact h _ hc
    · exact h x hx
noncomputable def cnt (S : Nat → Bool) : Nat := (S 0).toNat + (S 1).toNat + (S 2).toNat + (S 3).toNat + (S 4).toNat
theorem toNat_mono {a b : Bool} (h : a = true → b = true) : a.toNat ≤ b.toNat := by cases a <;> cases b <;> simp_all
theorem cnt_lt {S T : Nat → Bool} (h : ∀ x, S x = true → T x = true) {x : Nat} (hx : x < 5) (h1 : S x = false) (h2 : T x = true) : cnt S < cnt T := by
  have m := fun x => toNat_mono (h x)
  have m0 := m 0
  have m1 := m 1
  have m2 := m 2
  have m3 := m 3
  have m4 := m 4
  have e1 : (S x).toNat = 0 := by rw [h1]; rfl
  have e2 : (T x).toNat = 1 := by rw [h2]; rfl
  unfold cnt
  have : x = 0 ∨ x = 1 ∨ x = 2 ∨ x = 3 ∨ x = 4 := by lia
  rcases this with rfl | rfl | rfl | rfl | rfl <;> lia
theorem cnt_full {S : Nat → Bool} (h : 5 ≤ cnt S) : ∀ x, x < 5 → S x = true := by
  have b : ∀ c : Bool, c.toNat ≤ 1 := fun c => by cases c <;> simp
  have b0 := b (S 0)
  have b1 := b (S 1)
  have b2 := b (S 2)
  have b3 := b (S 3)
  have b4 := b (S 4)
  unfold cnt at h
  intro x hx
  have e : (S x).toNat = 1 := by
    have : x = 0 ∨ x = 1 ∨ x = 2 ∨ x = 3 ∨ x = 4 := by lia
    rcases this with rfl | rfl | rfl | rfl | rfl <;> lia
  cases hc : S x with
  | true => rfl
  | false => rw [hc] at e; cases e
/-- a pass that adds nothing has all -/
theorem pass_closed {l : List R} {S : Nat → Bool} {one : Nat} (h5 : ∀ r ∈ l, r.o < 5 ∧ r.t < 5) (h1 : S one = true) (hf : ∀ x, x < 5 → pass l S x = true → S x = true) : ∀ x, Conn (fun r => r ∈ l) one x → S x = true := by
  intro x c
  induction c with
  | refl => exact h1
  | fwd _ hs ih => exact hf _ (h5 _ hs).2 (pass_hit l hs (.inl ih)).2
  | bwd _ hs ih => exact hf _ (h5 _ hs).1 (pass_hit l hs (.inr ih)).1
/-- either a pass adds one place, or all are there -/
theorem pass_or {l : List R} {S : Nat → Bool} {one : Nat} (h5 : ∀ r ∈ l, r.o < 5 ∧ r.t < 5) (h1 : S one = true) : cnt S < cnt (pass l S) ∨ ∀ x, Conn (fun r => r ∈ l) one x → S x = true := by
  by_cases h : ∃ x, x < 5 ∧ pass l S x = true ∧ S x = false
  · obtain ⟨x, hx, h2, h3⟩ := h
    exact .inl (cnt_lt (fun y hy => pass_mono l hy) hx h3 h2)
  · refine .inr (pass_closed h5 h1 fun x hx hp => ?_)
    cases hs : S x with
    | true => rfl
    | false => exact absurd ⟨x, hx, hp, hs⟩ h
theorem clos_conn {l : List R} {one two : Nat} (h5 : ∀ r ∈ l, r.o < 5 ∧ r.t < 5) (h1 : one < 5) (h2 : two < 5) : clos l one two = true ↔ Conn (fun r => r ∈ l) one two := by
  have s0 : ∀ x, (x == one) = true → Conn (fun r => r ∈ l) one x := fun x hx => by rw [beq_iff_eq.mp hx]; exact .refl _
  have sound := fun S hS => pass_sound (P := fun r => r ∈ l) (one := one) l (S := S) (fun e he => he) hS
  constructor
  · exact sound _ (sound _ (sound _ (sound _ s0))) two
  · intro c
    unfold clos
    generalize hS0 : (fun x => x == one : Nat → Bool) = S0
    have o0 : S0 one = true := by rw [← hS0]; simp
    have c0 : 1 ≤ cnt S0 := by
      have hx : one = 0 ∨ one = 1 ∨ one = 2 ∨ one = 3 ∨ one = 4 := by lia
      rw [← hS0]
      rcases hx with rfl | rfl | rfl | rfl | rfl <;> decide
    have o1 := pass_mono l o0
    have o2 := pass_mono l o1
    have o3 := pass_mono l o2
    rcases pass_or h5 o0 with a | a
    · rcases pass_or h5 o1 with b | b
      · rcases pass_or h5 o2 with d | d
        · rcases pass_or h5 o3 with e | e
          · exact cnt_full (by lia) two h2
          · exact pass_mono l (e two c)
        · exact pass_mono l (pass_mono l (d two c))
      · exact pass_mono l (pass_mono l (pass_mono l (b two c)))
    · exact pass_mono l (pass_mono l (pass_mono l (pass_mono l (a two c))))
end Mine.Pl

end PP7
set_option genInjectivity false
section PT0
open PySem PySem.W PyProof.Rows
set_option Elab.async false
set_option maxRecDepth 100000
namespace Mine
noncomputable abbrev pgm : Program := PySem.Challenge.pw_il0068_01
noncomputable def nthS : List Stmt → Nat → Stmt
  | [], _ => .Pass ⟨0, 0, 0, 0⟩
  | a :: _, 0 => a
  | _ :: l, n + 1 => nthS l n
noncomputable def tA (i : Nat) : Stmt := nthS PySem.Challenge.pw_il0068_01.main.body i
noncomputable def cBody : Stmt → List Stmt
  | .ClassDef _ _ _ b .. => b
  | _ => []
noncomputable def cA (i j : Nat) : Stmt := nthS (cBody (tA i)) j
noncomputable def fnB : Stmt → List Stmt
  | .FunctionDef _ _ b .. => b
  | _ => []
noncomputable def fnA : Stmt → Arguments
  | .FunctionDef _ a .. => a
  | _ => ⟨[], [], none, [], [], none, []⟩
noncomputable def fnS : Stmt → Scope
  | .FunctionDef _ _ _ _ _ _ s .. => s
  | _ => { kind := .function, names := [], isGenerator := false, isCoroutine := false }
@[reducible] noncomputable def lit3 {β : Type} (st : Stmt) (f : List Stmt → Arguments → Scope → β) (b : List Stmt) (a : Arguments) (s : Scope) (_ : fnB st = b) (_ : fnA st = a) (_ : fnS st = s) : β := f b a s
noncomputable def pickS : List Nat → List Stmt
  | [] => []
  | i :: l => tA i :: pickS l
noncomputable def hd.view_39 : Program := { PySem.Challenge.pw_il0068_01 with main := { PySem.Challenge.pw_il0068_01.main with body := pickS [0, 2, 3, 5, 6, 7, 8, 10, 12, 14, 15, 17, 19, 21, 22, 23, 24, 25, 27, 28, 29, 30, 31, 32, 33, 34] } }
noncomputable def ob3 (P : Params) : Obj := { cls := Value.type "dict", data := Data.dict #[{ hash := PyData.keyHash P (Str.ofString "__name__"), key := Value.str (Str.ofString "__name__") 165, val := Value.str (Str.ofString "law_il0068_01") 474 }, { hash := PyData.keyHash P (Str.ofString "__doc__"), key := Value.str (Str.ofString "__doc__") 166, val := Value.none }, { hash := PyData.keyHash P (Str.ofString "__package__"), key := Value.str (Str.ofString "__package__") 167, val := Value.none }, { hash := PyData.keyHash P (Str.ofString "__loader__"), key := Value.str (Str.ofString "__loader__") 168, val := Value.builtin "__main__.__loader__#opaque" }, { hash := PyData.keyHash P (Str.ofString "__spec__"), key := Value.str (Str.ofString "__spec__") 169, val := Value.none }, { hash := PyData.keyHash P (Str.ofString "__annotations__"), key := Value.str (Str.ofString "__annotations__") 170, val := Value.ref 6 }, { hash := PyData.keyHash P (Str.ofString "__builtins__"), key := Value.str (Str.ofString "__builtins__") 171, val := Value.ref 4 }, { hash := PyData.keyHash P (Str.ofString "__file__"), key := Value.str (Str.ofString "__file__") 173, val := Value.str (Str.ofString "/claim/cut.py") 172 }, { hash := PyData.keyHash P (Str.ofString "__cached__"), key := Value.str (Str.ofString "__cached__") 174, val := Value.none }, { hash := PyData.keyHash P (Str.ofString "_wall"), key := Value.str (Str.ofString "_wall") 193, val := Value.ref 21 }, { hash := PyData.keyHash P (Str.ofString "Entry"), key := Value.str (Str.ofString "Entry") 257, val := Value.ref 59 }, { hash := PyData.keyHash P (Str.ofString "merge_entries"), key := Value.str (Str.ofString "merge_entries") 266, val := Value.ref 70 }, { hash := PyData.keyHash P (Str.ofString "heappop"), key := Value.str (Str.ofString "heappop") 277, val := Value.ref 77 }, { hash := PyData.keyHash P (Str.ofString "heapify"), key := Value.str (Str.ofString "heapify") 286, val := Value.ref 84 }, { hash := PyData.keyHash P (Str.ofString "_siftdown"), key := Value.str (Str.ofString "_siftdown") 298, val := Value.ref 91 }, { hash := PyData.keyHash P (Str.ofString "_siftup"), key := Value.str (Str.ofString "_siftup") 311, val := Value.ref 98 }, { hash := PyData.keyHash P (Str.ofString "_plain_name"), key := Value.str (Str.ofString "_plain_name") 322, val := Value.ref 105 }, { hash := PyData.keyHash P (Str.ofString "ABCMeta"), key := Value.str (Str.ofString "ABCMeta") 348, val := Value.ref 122 }, { hash := PyData.keyHash P (Str.ofString "_ABCLike"), key := Value.str (Str.ofString "_ABCLike") 391, val := Value.ref 155 }, { hash := PyData.keyHash P (Str.ofString "_abc_plain_meta"), key := Value.str (Str.ofString "_abc_plain_meta") 398, val := Value.ref 164 }, { hash := PyData.keyHash P (Str.ofString "fspath"), key := Value.str (Str.ofString "fspath") 410, val := Value.ref 171 }, { hash := PyData.keyHash P (Str.ofString "_check_arg_types"), key := Value.str (Str.ofString "_check_arg_types") 423, val := Value.ref 178 }, { hash := PyData.keyHash P (Str.ofString "_get_sep"), key := Value.str (Str.ofString "_get_sep") 432, val := Value.ref 185 }, { hash := PyData.keyHash P (Str.ofString "join"), key := Value.str (Str.ofString "join") 443, val := Value.ref 192 }, { hash := PyData.keyHash P (Str.ofString "split"), key := Value.str (Str.ofString "split") 454, val := Value.ref 199 }, { hash := PyData.keyHash P (Str.ofString "basename"), key := Value.str (Str.ofString "basename") 463, val := Value.ref 206 }, { hash := PyData.keyHash P (Str.ofString "dirname"), key := Value.str (Str.ofString "dirname") 473, val := Value.ref 213 }, { hash := PyData.keyHash P (Str.ofString "_law_roads"), key := Value.str (Str.ofString "_law_roads") 487, val := Value.ref 220 }, { hash := PyData.keyHash P (Str.ofString "_law_ends"), key := Value.str (Str.ofString "_law_ends") 496, val := Value.ref 227 }, { hash := PyData.keyHash P (Str.ofString "_law_rule"), key := Value.str (Str.ofString "_law_rule") 510, val := Value.ref 234 }, { hash := PyData.keyHash P (Str.ofString "_law_books"), key := Value.str (Str.ofString "_law_books") 523, val := Value.ref 241 }, { hash := PyData.keyHash P (Str.ofString "_law_joined"), key := Value.str (Str.ofString "_law_joined") 529, val := Value.ref 246 }, { hash := PyData.keyHash P (Str.ofString "_law_kept"), key := Value.str (Str.ofString "_law_kept") 535, val := Value.ref 251 }, { hash := PyData.keyHash P (Str.ofString "_law_told"), key := Value.str (Str.ofString "_law_told") 541, val := Value.ref 256 }, { hash := PyData.keyHash P (Str.ofString "law"), key := Value.str (Str.ofString "law") 547, val := Value.ref 261 }] 35 }
noncomputable def ob11 (_ : Params) : Obj := { cls := Value.type "tuple", data := Data.seq #[] }
noncomputable def ob12 (_ : Params) : Obj := { cls := Value.none, data := Data.fields #[Value.int 1 0, Value.int 0 0, Value.ref 20, Value.int 5 0, Value.int 0 0, Value.ref 27, Value.int 53 0, Value.int 0 0, Value.ref 69, Value.int 61 0, Value.int 0 0, Value.ref 76, Value.int 69 0, Value.int 0 0, Value.ref 83, Value.int 73 0, Value.int 0 0, Value.ref 90, Value.int 84 0, Value.int 0 0, Value.ref 97, Value.int 99 0, Value.int 0 0, Value.ref 104, Value.int 105 0, Value.int 0 0, Value.ref 111, Value.int 110 0, Value.int 0 0, Value.ref 130, Value.int 125 0, Value.int 0 0, Value.ref 163, Value.int 129 0, Value.int 0 0, Value.ref 170, Value.int 146 0, Value.int 0 0, Value.ref 177, Value.int 158 0, Value.int 0 0, Value.ref 184, Value.int 163 0, Value.int 0 0, Value.ref 191, Value.int 180 0, Value.int 0 0, Value.ref 198, Value.int 188 0, Value.int 0 0, Value.ref 205, Value.int 193 0, Value.int 0 0, Value.ref 212, Value.int 202 0, Value.int 0 0, Value.ref 219, Value.int 208 0, Value.int 0 0, Value.ref 226, Value.int 211 0, Value.int 0 0, Value.ref 233, Value.int 217 0, Value.int 0 0, Value.ref 240, Value.int 228 0, Value.int 0 0, Value.ref 245, Value.int 241 0, Value.int 0 0, Value.ref 250, Value.int 251 0, Value.int 0 0, Value.ref 255, Value.int 265 0, Value.int 0 0, Value.ref 260] }
noncomputable def ob13 (_ : Params) : Obj := { cls := Value.type "code", data := Data.fields #[Value.str (Str.ofString "<module>") 182, Value.str (Str.ofString "<module>") 183, Value.str (Str.ofString "/claim/cut.py") 184, Value.int 1 0, Value.int 0 0, Value.int 0 0, Value.int 0 0, Value.int 0 0, Value.ref 11, Value.bool false, Value.int 181 0, Value.ref 12, Value.none, Value.none, Value.none, Value.none, Value.int 185 0, Value.int 1 0, Value.str (Str.ofString "/claim/cut.py") 186] }
noncomputable def ob14 (_ : Params) : Obj := { cls := Value.type "frame", slots := #[some (Value.ref 13), some (Value.ref 3), some (Value.ref 3), none, some (Value.str (Str.ofString "__main__") 164), none, some (Value.ref 0)] }
noncomputable def ob15 (_ : Params) : Obj := { cls := Value.type "tuple", data := Data.seq #[] }
noncomputable def ob16 (_ : Params) : Obj := { cls := Value.none, data := Data.fields #[] }
noncomputable def ob17 (_ : Params) : Obj := { cls := Value.type "tuple", data := Data.seq #[Value.str (Str.ofString "k") 190] }
noncomputable def ob18 (_ : Params) : Obj := { cls := Value.type "tuple", data := Data.seq #[] }
noncomputable def ob19 (_ : Params) : Obj := lit3 (tA 0) (fun b a s => { cls := Value.none, data := Data.func { name := Str.ofString "_wall", qualname := Str.ofString "_wall", params := a, body := FuncBody.stmts b, scope := s, globals := 0, closure := [], defaults := Value.none, kwdefaults := Value.none } }) _ _ _ (by conv => lhs; whnf) (by conv => lhs; whnf) (by conv => lhs; whnf)
noncomputable def ob20 (_ : Params) : Obj := { cls := Value.type "code", data := Data.fields #[Value.str (Str.ofString "_wall") 187, Value.str (Str.ofString "_wall") 188, Value.str (Str.ofString "/claim/cut.py") 189, Value.int 1 0, Value.int 1 0, Value.int 0 0, Value.int 0 0, Value.int 3 0, Value.ref 15, Value.bool true, Value.int 181 0, Value.ref 16, Value.none, Value.ref 17, Value.ref 18, Value.ref 19, Value.int 191 0, Value.int 1 0, Value.str (Str.ofString "/claim/cut.py") 192] }
noncomputable def ob21 (_ : Params) : Obj := lit3 (tA 0) (fun b a s => { cls := Value.type "function", data := Data.func { name := Str.ofString "_wall", qualname := Str.ofString "_wall", params := a, body := FuncBody.stmts b, scope := s, globals := 3, closure := [], defaults := Value.none, kwdefaults := Value.none, pyModule := Value.str (Str.ofString "__main__") 164, code := Value.ref 20 } }) _ _ _ (by conv => lhs; whnf) (by conv => lhs; whnf) (by conv => lhs; whnf)
noncomputable def ob22 (_ : Params) : Obj := { cls := Value.type "tuple", data := Data.seq #[] }
noncomputable def ob23 (_ : Params) : Obj := { cls := Value.type "builtin_function_or_method", data := Data.fields #[Value.builtin "type.__prepare__", Value.type "type"] }
noncomputable def ob24 (P : Params) : Obj := { cls := Value.type "dict", data := Data.dict #[{ hash := PyData.keyHash P (Str.ofString "__module__"), key := Value.str (Str.ofString "__module__") 203, val := Value.str (Str.ofString "cpy313.urllib.robotparser") 194 }, { hash := PyData.keyHash P (Str.ofString "__qualname__"), key := Value.str (Str.ofString "__qualname__") 205, val := Value.str (Str.ofString "Entry") 204 }, { hash := PyData.keyHash P (Str.ofString "__firstlineno__"), key := Value.str (Str.ofString "__firstlineno__") 207, val := Value.int 5 206 }, { hash := PyData.keyHash P (Str.ofString "__init__"), key := Value.str (Str.ofString "__init__") 214, val := Value.ref 35 }, { hash := PyData.keyHash P (Str.ofString "__str__"), key := Value.str (Str.ofString "__str__") 224, val := Value.ref 42 }, { hash := PyData.keyHash P (Str.ofString "applies_to"), key := Value.str (Str.ofString "applies_to") 233, val := Value.ref 49 }, { hash := PyData.keyHash P (Str.ofString "allowance"), key := Value.str (Str.ofString "allowance") 245, val := Value.ref 56 }, { hash := PyData.keyHash P (Str.ofString "__static_attributes__"), key := Value.str (Str.ofString "__static_attributes__") 250, val := Value.ref 57 }] 8 }
noncomputable def ob25 (_ : Params) : Obj := { cls := Value.type "tuple", data := Data.seq #[] }
noncomputable def ob26 (_ : Params) : Obj := { cls := Value.none, data := Data.fields #[Value.int 7 0, Value.int 4 0, Value.ref 34, Value.int 13 0, Value.int 4 0, Value.ref 41, Value.int 30 0, Value.int 4 0, Value.ref 48, Value.int 41 0, Value.int 4 0, Value.ref 55] }
noncomputable def ob27 (_ : Params) : Obj := { cls := Value.type "code", data := Data.fields #[Value.str (Str.ofString "Entry") 198, Value.str (Str.ofString "Entry") 199, Value.str (Str.ofString "/claim/cut.py") 200, Value.int 5 0, Value.int 0 0, Value.int 0 0, Value.int 0 0, Value.int 0 0, Value.ref 25, Value.bool false, Value.int 181 0, Value.ref 26, Value.none, Value.none, Value.none, Value.none, Value.int 201 0, Value.int 5 0, Value.str (Str.ofString "/claim/cut.py") 202] }
noncomputable def ob28 (_ : Params) : Obj := { cls := Value.type "frame", slots := #[some (Value.ref 27), some (Value.ref 3), some (Value.ref 24), none, some (Value.str (Str.ofString "cpy313.urllib.robotparser") 194), none, some (Value.ref 0)] }
noncomputable def ob29 (_ : Params) : Obj := { cls := Value.type "tuple", data := Data.seq #[] }
noncomputable def ob30 (_ : Params) : Obj := { cls := Value.none, data := Data.fields #[] }
noncomputable def ob31 (_ : Params) : Obj := { cls := Value.type "tuple", data := Data.seq #[Value.str (Str.ofString "self") 211] }
noncomputable def ob32 (_ : Params) : Obj := { cls := Value.type "tuple", data := Data.seq #[] }
noncomputable def ob33 (_ : Params) : Obj := lit3 (cA 2 0) (fun b a s => { cls := Value.none, data := Data.func { name := Str.ofString "__init__", qualname := Str.ofString "Entry.__init__", params := a, body := FuncBody.stmts b, scope := s, globals := 0, closure := [], defaults := Value.none, kwdefaults := Value.none } }) _ _ _ (by conv => lhs; whnf) (by conv => lhs; whnf) (by conv => lhs; whnf)
noncomputable def ob34 (_ : Params) : Obj := { cls := Value.type "code", data := Data.fields #[Value.str (Str.ofString "__init__") 208, Value.str (Str.ofString "Entry.__init__") 209, Value.str (Str.ofString "/claim/cut.py") 210, Value.int 7 0, Value.int 1 0, Value.int 0 0, Value.int 0 0, Value.int 3 0, Value.ref 29, Value.bool true, Value.int 181 0, Value.ref 30, Value.none, Value.ref 31, Value.ref 32, Value.ref 33, Value.int 212 0, Value.int 7 0, Value.str (Str.ofString "/claim/cut.py") 213] }
noncomputable def ob35 (_ : Params) : Obj := lit3 (cA 2 0) (fun b a s => { cls := Value.type "function", data := Data.func { name := Str.ofString "__init__", qualname := Str.ofString "Entry.__init__", params := a, body := FuncBody.stmts b, scope := s, globals := 3, closure := [], defaults := Value.none, kwdefaults := Value.none, pyModule := Value.str (Str.ofString "cpy313.urllib.robotparser") 194, code := Value.ref 34 } }) _ _ _ (by conv => lhs; whnf) (by conv => lhs; whnf) (by conv => lhs; whnf)
noncomputable def ob36 (_ : Params) : Obj := { cls := Value.type "tuple", data := Data.seq #[] }
noncomputable def ob37 (_ : Params) : Obj := { cls := Value.none, data := Data.fields #[] }
noncomputable def ob38 (_ : Params) : Obj := { cls := Value.type "tuple", data := Data.seq #[Value.str (Str.ofString "self") 218, Value.str (Str.ofString "ret") 219, Value.str (Str.ofString "agent") 220, Value.str (Str.ofString "rate") 221] }
noncomputable def ob39 (_ : Params) : Obj := { cls := Value.type "tuple", data := Data.seq #[] }
noncomputable def ob40 (_ : Params) : Obj := lit3 (cA 2 1) (fun b a s => { cls := Value.none, data := Data.func { name := Str.ofString "__str__", qualname := Str.ofString "Entry.__str__", params := a, body := FuncBody.stmts b, scope := s, globals := 0, closure := [], defaults := Value.none, kwdefaults := Value.none } }) _ _ _ (by conv => lhs; whnf) (by conv => lhs; whnf) (by conv => lhs; whnf)
noncomputable def ob41 (_ : Params) : Obj := { cls := Value.type "code", data := Data.fields #[Value.str (Str.ofString "__str__") 215, Value.str (Str.ofString "Entry.__str__") 216, Value.str (Str.ofString "/claim/cut.py") 217, Value.int 13 0, Value.int 1 0, Value.int 0 0, Value.int 0 0, Value.int 3 0, Value.ref 36, Value.bool true, Value.int 181 0, Value.ref 37, Value.none, Value.ref 38, Value.ref 39, Value.ref 40, Value.int 222 0, Value.int 13 0, Value.str (Str.ofString "/claim/cut.py") 223] }
noncomputable def ob42 (_ : Params) : Obj := lit3 (cA 2 1) (fun b a s => { cls := Value.type "function", data := Data.func { name := Str.ofString "__str__", qualname := Str.ofString "Entry.__str__", params := a, body := FuncBody.stmts b, scope := s, globals := 3, closure := [], defaults := Value.none, kwdefaults := Value.none, pyModule := Value.str (Str.ofString "cpy313.urllib.robotparser") 194, code := Value.ref 41 } }) _ _ _ (by conv => lhs; whnf) (by conv => lhs; whnf) (by conv => lhs; whnf)
noncomputable def ob43 (_ : Params) : Obj := { cls := Value.type "tuple", data := Data.seq #[] }
noncomputable def ob44 (_ : Params) : Obj := { cls := Value.none, data := Data.fields #[] }
noncomputable def ob45 (_ : Params) : Obj := { cls := Value.type "tuple", data := Data.seq #[Value.str (Str.ofString "self") 228, Value.str (Str.ofString "useragent") 229, Value.str (Str.ofString "agent") 230] }
noncomputable def ob46 (_ : Params) : Obj := { cls := Value.type "tuple", data := Data.seq #[] }
noncomputable def ob47 (_ : Params) : Obj := lit3 (cA 2 2) (fun b a s => { cls := Value.none, data := Data.func { name := Str.ofString "applies_to", qualname := Str.ofString "Entry.applies_to", params := a, body := FuncBody.stmts b, scope := s, globals := 0, closure := [], defaults := Value.none, kwdefaults := Value.none } }) _ _ _ (by conv => lhs; whnf) (by conv => lhs; whnf) (by conv => lhs; whnf)
noncomputable def ob48 (_ : Params) : Obj := { cls := Value.type "code", data := Data.fields #[Value.str (Str.ofString "applies_to") 225, Value.str (Str.ofString "Entry.applies_to") 226, Value.str (Str.ofString "/claim/cut.py") 227, Value.int 30 0, Value.int 2 0, Value.int 0 0, Value.int 0 0, Value.int 3 0, Value.ref 43, Value.bool true, Value.int 181 0, Value.ref 44, Value.none, Value.ref 45, Value.ref 46, Value.ref 47, Value.int 231 0, Value.int 30 0, Value.str (Str.ofString "/claim/cut.py") 232] }
noncomputable def ob49 (_ : Params) : Obj := lit3 (cA 2 2) (fun b a s => { cls := Value.type "function", data := Data.func { name := Str.ofString "applies_to", qualname := Str.ofString "Entry.applies_to", params := a, body := FuncBody.stmts b, scope := s, globals := 3, closure := [], defaults := Value.none, kwdefaults := Value.none, pyModule := Value.str (Str.ofString "cpy313.urllib.robotparser") 194, code := Value.ref 48 } }) _ _ _ (by conv => lhs; whnf) (by conv => lhs; whnf) (by conv => lhs; whnf)
noncomputable def ob50 (_ : Params) : Obj := { cls := Value.type "tuple", data := Data.seq #[] }
noncomputable def ob51 (_ : Params) : Obj := { cls := Value.none, data := Data.fields #[] }
noncomputable def ob52 (_ : Params) : Obj := { cls := Value.type "tuple", data := Data.seq #[Value.str (Str.ofString "self") 237, Value.str (Str.ofString "filename") 238, Value.str (Str.ofString "best_match") 239, Value.str (Str.ofString "allowance") 240, Value.str (Str.ofString "line") 241, Value.str (Str.ofString "m") 242] }
noncomputable def ob53 (_ : Params) : Obj := { cls := Value.type "tuple", data := Data.seq #[] }
noncomputable def ob54 (_ : Params) : Obj := lit3 (cA 2 3) (fun b a s => { cls := Value.none, data := Data.func { name := Str.ofString "allowance", qualname := Str.ofString "Entry.allowance", params := a, body := FuncBody.stmts b, scope := s, globals := 0, closure := [], defaults := Value.none, kwdefaults := Value.none } }) _ _ _ (by conv => lhs; whnf) (by conv => lhs; whnf) (by conv => lhs; whnf)
noncomputable def ob55 (_ : Params) : Obj := { cls := Value.type "code", data := Data.fields #[Value.str (Str.ofString "allowance") 234, Value.str (Str.ofString "Entry.allowance") 235, Value.str (Str.ofString "/claim/cut.py") 236, Value.int 41 0, Value.int 2 0, Value.int 0 0, Value.int 0 0, Value.int 3 0, Value.ref 50, Value.bool true, Value.int 181 0, Value.ref 51, Value.none, Value.ref 52, Value.ref 53, Value.ref 54, Value.int 243 0, Value.int 41 0, Value.str (Str.ofString "/claim/cut.py") 244] }
noncomputable def ob56 (_ : Params) : Obj := lit3 (cA 2 3) (fun b a s => { cls := Value.type "function", data := Data.func { name := Str.ofString "allowance", qualname := Str.ofString "Entry.allowance", params := a, body := FuncBody.stmts b, scope := s, globals := 3, closure := [], defaults := Value.none, kwdefaults := Value.none, pyModule := Value.str (Str.ofString "cpy313.urllib.robotparser") 194, code := Value.ref 55 } }) _ _ _ (by conv => lhs; whnf) (by conv => lhs; whnf) (by conv => lhs; whnf)
noncomputable def ob57 (_ : Params) : Obj := { cls := Value.type "tuple", data := Data.seq #[Value.str (Str.ofString "delay") 246, Value.str (Str.ofString "req_rate") 247, Value.str (Str.ofString "rulelines") 248, Value.str (Str.ofString "useragents") 249] }
noncomputable def ob58 (P : Params) : Obj := { cls := Value.type "dict", data := Data.dict #[{ hash := PyData.keyHash P (Str.ofString "__module__"), key := Value.str (Str.ofString "__module__") 203, val := Value.str (Str.ofString "cpy313.urllib.robotparser") 194 }, { hash := PyData.keyHash P (Str.ofString "__firstlineno__"), key := Value.str (Str.ofString "__firstlineno__") 207, val := Value.int 5 206 }, { hash := PyData.keyHash P (Str.ofString "__init__"), key := Value.str (Str.ofString "__init__") 214, val := Value.ref 35 }, { hash := PyData.keyHash P (Str.ofString "__str__"), key := Value.str (Str.ofString "__str__") 224, val := Value.ref 42 }, { hash := PyData.keyHash P (Str.ofString "applies_to"), key := Value.str (Str.ofString "applies_to") 233, val := Value.ref 49 }, { hash := PyData.keyHash P (Str.ofString "allowance"), key := Value.str (Str.ofString "allowance") 245, val := Value.ref 56 }, { hash := PyData.keyHash P (Str.ofString "__static_attributes__"), key := Value.str (Str.ofString "__static_attributes__") 250, val := Value.ref 57 }, { hash := PyData.keyHash P (Str.ofString "__dict__"), key := Value.str (Str.ofString "__dict__") 252, val := Value.ref 60 }, { hash := PyData.keyHash P (Str.ofString "__weakref__"), key := Value.str (Str.ofString "__weakref__") 254, val := Value.ref 61 }, { hash := PyData.keyHash P (Str.ofString "__doc__"), key := Value.str (Str.ofString "__doc__") 255, val := Value.none }] 4 }
noncomputable def ob59 (_ : Params) : Obj := { cls := Value.type "type", data := Data.cls { name := Str.ofString "Entry", bases := [Value.type "object"], mro := [Value.ref 59, Value.type "object"], ns := 58, qualname := Str.ofString "Entry" }, slots := #[none, none, some (Value.str (Str.ofString "Entry") 196), some (Value.str (Str.ofString "Entry") 204), some (Value.builtin "object.__new__"), some (Value.bool true)] }
noncomputable def ob60 (_ : Params) : Obj := { cls := Value.type "getset_descriptor", data := Data.fields #[Value.str (Str.ofString "__dict__") 251, Value.ref 59, Value.builtin "function.__dict__", Value.builtin "function.__dict__#set"] }
noncomputable def ob61 (_ : Params) : Obj := { cls := Value.type "getset_descriptor", data := Data.fields #[Value.str (Str.ofString "__weakref__") 253, Value.ref 59, Value.builtin "ExceptionGroup.__weakref__", Value.none] }
noncomputable def ob62 (_ : Params) : Obj := { cls := Value.type "super", data := Data.fields #[Value.ref 59, Value.ref 59, Value.ref 59] }
noncomputable def ob63 (_ : Params) : Obj := { cls := Value.type "builtin_function_or_method", data := Data.fields #[Value.builtin "object.__init_subclass__", Value.ref 59] }
noncomputable def ob64 (_ : Params) : Obj := { cls := Value.type "tuple", data := Data.seq #[] }
noncomputable def ob65 (_ : Params) : Obj := { cls := Value.none, data := Data.fields #[] }
noncomputable def ob66 (_ : Params) : Obj := { cls := Value.type "tuple", data := Data.seq #[Value.str (Str.ofString "e1") 261, Value.str (Str.ofString "e2") 262, Value.str (Str.ofString "entry") 263] }
noncomputable def ob67 (_ : Params) : Obj := { cls := Value.type "tuple", data := Data.seq #[] }
noncomputable def ob68 (_ : Params) : Obj := lit3 (tA 3) (fun b a s => { cls := Value.none, data := Data.func { name := Str.ofString "merge_entries", qualname := Str.ofString "merge_entries", params := a, body := FuncBody.stmts b, scope := s, globals := 0, closure := [], defaults := Value.none, kwdefaults := Value.none } }) _ _ _ (by conv => lhs; whnf) (by conv => lhs; whnf) (by conv => lhs; whnf)
noncomputable def ob69 (_ : Params) : Obj := { cls := Value.type "code", data := Data.fields #[Value.str (Str.ofString "merge_entries") 258, Value.str (Str.ofString "merge_entries") 259, Value.str (Str.ofString "/claim/cut.py") 260, Value.int 53 0, Value.int 2 0, Value.int 0 0, Value.int 0 0, Value.int 3 0, Value.ref 64, Value.bool true, Value.int 181 0, Value.ref 65, Value.none, Value.ref 66, Value.ref 67, Value.ref 68, Value.int 264 0, Value.int 53 0, Value.str (Str.ofString "/claim/cut.py") 265] }
noncomputable def ob70 (_ : Params) : Obj := lit3 (tA 3) (fun b a s => { cls := Value.type "function", data := Data.func { name := Str.ofString "merge_entries", qualname := Str.ofString "merge_entries", params := a, body := FuncBody.stmts b, scope := s, globals := 3, closure := [], defaults := Value.none, kwdefaults := Value.none, pyModule := Value.str (Str.ofString "cpy313.urllib.robotparser") 194, code := Value.ref 69 } }) _ _ _ (by conv => lhs; whnf) (by conv => lhs; whnf) (by conv => lhs; whnf)
noncomputable def ob71 (_ : Params) : Obj := { cls := Value.type "tuple", data := Data.seq #[] }
noncomputable def ob72 (_ : Params) : Obj := { cls := Value.none, data := Data.fields #[] }
noncomputable def ob73 (_ : Params) : Obj := { cls := Value.type "tuple", data := Data.seq #[Value.str (Str.ofString "heap") 272, Value.str (Str.ofString "lastelt") 273, Value.str (Str.ofString "returnitem") 274] }
noncomputable def ob74 (_ : Params) : Obj := { cls := Value.type "tuple", data := Data.seq #[] }
noncomputable def ob75 (_ : Params) : Obj := lit3 (tA 5) (fun b a s => { cls := Value.none, data := Data.func { name := Str.ofString "heappop", qualname := Str.ofString "heappop", params := a, body := FuncBody.stmts b, scope := s, globals := 0, closure := [], defaults := Value.none, kwdefaults := Value.none } }) _ _ _ (by conv => lhs; whnf) (by conv => lhs; whnf) (by conv => lhs; whnf)
noncomputable def ob76 (_ : Params) : Obj := { cls := Value.type "code", data := Data.fields #[Value.str (Str.ofString "heappop") 269, Value.str (Str.ofString "heappop") 270, Value.str (Str.ofString "/claim/cut.py") 271, Value.int 61 0, Value.int 1 0, Value.int 0 0, Value.int 0 0, Value.int 3 0, Value.ref 71, Value.bool true, Value.int 181 0, Value.ref 72, Value.none, Value.ref 73, Value.ref 74, Value.ref 75, Value.int 275 0, Value.int 61 0, Value.str (Str.ofString "/claim/cut.py") 276] }
noncomputable def ob77 (_ : Params) : Obj := lit3 (tA 5) (fun b a s => { cls := Value.type "function", data := Data.func { name := Str.ofString "heappop", qualname := Str.ofString "heappop", params := a, body := FuncBody.stmts b, scope := s, globals := 3, closure := [], defaults := Value.none, kwdefaults := Value.none, pyModule := Value.str (Str.ofString "cpy313.heapq") 267, code := Value.ref 76 } }) _ _ _ (by conv => lhs; whnf) (by conv => lhs; whnf) (by conv => lhs; whnf)
noncomputable def ob78 (_ : Params) : Obj := { cls := Value.type "tuple", data := Data.seq #[] }
noncomputable def ob79 (_ : Params) : Obj := { cls := Value.none, data := Data.fields #[] }
noncomputable def ob80 (_ : Params) : Obj := { cls := Value.type "tuple", data := Data.seq #[Value.str (Str.ofString "x") 281, Value.str (Str.ofString "n") 282, Value.str (Str.ofString "i") 283] }
noncomputable def ob81 (_ : Params) : Obj := { cls := Value.type "tuple", data := Data.seq #[] }
noncomputable def ob82 (_ : Params) : Obj := lit3 (tA 6) (fun b a s => { cls := Value.none, data := Data.func { name := Str.ofString "heapify", qualname := Str.ofString "heapify", params := a, body := FuncBody.stmts b, scope := s, globals := 0, closure := [], defaults := Value.none, kwdefaults := Value.none } }) _ _ _ (by conv => lhs; whnf) (by conv => lhs; whnf) (by conv => lhs; whnf)
noncomputable def ob83 (_ : Params) : Obj := { cls := Value.type "code", data := Data.fields #[Value.str (Str.ofString "heapify") 278, Value.str (Str.ofString "heapify") 279, Value.str (Str.ofString "/claim/cut.py") 280, Value.int 69 0, Value.int 1 0, Value.int 0 0, Value.int 0 0, Value.int 3 0, Value.ref 78, Value.bool true, Value.int 181 0, Value.ref 79, Value.none, Value.ref 80, Value.ref 81, Value.ref 82, Value.int 284 0, Value.int 69 0, Value.str (Str.ofString "/claim/cut.py") 285] }
noncomputable def ob84 (_ : Params) : Obj := lit3 (tA 6) (fun b a s => { cls := Value.type "function", data := Data.func { name := Str.ofString "heapify", qualname := Str.ofString "heapify", params := a, body := FuncBody.stmts b, scope := s, globals := 3, closure := [], defaults := Value.none, kwdefaults := Value.none, pyModule := Value.str (Str.ofString "cpy313.heapq") 267, code := Value.ref 83 } }) _ _ _ (by conv => lhs; whnf) (by conv => lhs; whnf) (by conv => lhs; whnf)
noncomputable def ob85 (_ : Params) : Obj := { cls := Value.type "tuple", data := Data.seq #[] }
noncomputable def ob86 (_ : Params) : Obj := { cls := Value.none, data := Data.fields #[] }
noncomputable def ob87 (_ : Params) : Obj := { cls := Value.type "tuple", data := Data.seq #[Value.str (Str.ofString "heap") 290, Value.str (Str.ofString "startpos") 291, Value.str (Str.ofString "pos") 292, Value.str (Str.ofString "newitem") 293, Value.str (Str.ofString "parentpos") 294, Value.str (Str.ofString "parent") 295] }
noncomputable def ob88 (_ : Params) : Obj := { cls := Value.type "tuple", data := Data.seq #[] }
noncomputable def ob89 (_ : Params) : Obj := lit3 (tA 7) (fun b a s => { cls := Value.none, data := Data.func { name := Str.ofString "_siftdown", qualname := Str.ofString "_siftdown", params := a, body := FuncBody.stmts b, scope := s, globals := 0, closure := [], defaults := Value.none, kwdefaults := Value.none } }) _ _ _ (by conv => lhs; whnf) (by conv => lhs; whnf) (by conv => lhs; whnf)
noncomputable def ob90 (_ : Params) : Obj := { cls := Value.type "code", data := Data.fields #[Value.str (Str.ofString "_siftdown") 287, Value.str (Str.ofString "_siftdown") 288, Value.str (Str.ofString "/claim/cut.py") 289, Value.int 73 0, Value.int 3 0, Value.int 0 0, Value.int 0 0, Value.int 3 0, Value.ref 85, Value.bool true, Value.int 181 0, Value.ref 86, Value.none, Value.ref 87, Value.ref 88, Value.ref 89, Value.int 296 0, Value.int 73 0, Value.str (Str.ofString "/claim/cut.py") 297] }
noncomputable def ob91 (_ : Params) : Obj := lit3 (tA 7) (fun b a s => { cls := Value.type "function", data := Data.func { name := Str.ofString "_siftdown", qualname := Str.ofString "_siftdown", params := a, body := FuncBody.stmts b, scope := s, globals := 3, closure := [], defaults := Value.none, kwdefaults := Value.none, pyModule := Value.str (Str.ofString "cpy313.heapq") 267, code := Value.ref 90 } }) _ _ _ (by conv => lhs; whnf) (by conv => lhs; whnf) (by conv => lhs; whnf)
noncomputable def ob92 (_ : Params) : Obj := { cls := Value.type "tuple", data := Data.seq #[] }
noncomputable def ob93 (_ : Params) : Obj := { cls := Value.none, data := Data.fields #[] }
noncomputable def ob94 (_ : Params) : Obj := { cls := Value.type "tuple", data := Data.seq #[Value.str (Str.ofString "heap") 302, Value.str (Str.ofString "pos") 303, Value.str (Str.ofString "endpos") 304, Value.str (Str.ofString "startpos") 305, Value.str (Str.ofString "newitem") 306, Value.str (Str.ofString "childpos") 307, Value.str (Str.ofString "rightpos") 308] }
noncomputable def ob95 (_ : Params) : Obj := { cls := Value.type "tuple", data := Data.seq #[] }
noncomputable def ob96 (_ : Params) : Obj := lit3 (tA 8) (fun b a s => { cls := Value.none, data := Data.func { name := Str.ofString "_siftup", qualname := Str.ofString "_siftup", params := a, body := FuncBody.stmts b, scope := s, globals := 0, closure := [], defaults := Value.none, kwdefaults := Value.none } }) _ _ _ (by conv => lhs; whnf) (by conv => lhs; whnf) (by conv => lhs; whnf)
noncomputable def ob97 (_ : Params) : Obj := { cls := Value.type "code", data := Data.fields #[Value.str (Str.ofString "_siftup") 299, Value.str (Str.ofString "_siftup") 300, Value.str (Str.ofString "/claim/cut.py") 301, Value.int 84 0, Value.int 2 0, Value.int 0 0, Value.int 0 0, Value.int 3 0, Value.ref 92, Value.bool true, Value.int 181 0, Value.ref 93, Value.none, Value.ref 94, Value.ref 95, Value.ref 96, Value.int 309 0, Value.int 84 0, Value.str (Str.ofString "/claim/cut.py") 310] }
noncomputable def ob98 (_ : Params) : Obj := lit3 (tA 8) (fun b a s => { cls := Value.type "function", data := Data.func { name := Str.ofString "_siftup", qualname := Str.ofString "_siftup", params := a, body := FuncBody.stmts b, scope := s, globals := 3, closure := [], defaults := Value.none, kwdefaults := Value.none, pyModule := Value.str (Str.ofString "cpy313.heapq") 267, code := Value.ref 97 } }) _ _ _ (by conv => lhs; whnf) (by conv => lhs; whnf) (by conv => lhs; whnf)
noncomputable def ob99 (_ : Params) : Obj := { cls := Value.type "tuple", data := Data.seq #[] }
noncomputable def ob100 (_ : Params) : Obj := { cls := Value.none, data := Data.fields #[] }
noncomputable def ob101 (_ : Params) : Obj := { cls := Value.type "tuple", data := Data.seq #[Value.str (Str.ofString "x") 317, Value.str (Str.ofString "what") 318, Value.str (Str.ofString "kind") 319] }
noncomputable def ob102 (_ : Params) : Obj := { cls := Value.type "tuple", data := Data.seq #[] }
noncomputable def ob103 (_ : Params) : Obj := lit3 (tA 10) (fun b a s => { cls := Value.none, data := Data.func { name := Str.ofString "_plain_name", qualname := Str.ofString "_plain_name", params := a, body := FuncBody.stmts b, scope := s, globals := 0, closure := [], defaults := Value.none, kwdefaults := Value.none } }) _ _ _ (by conv => lhs; whnf) (by conv => lhs; whnf) (by conv => lhs; whnf)
noncomputable def ob104 (_ : Params) : Obj := { cls := Value.type "code", data := Data.fields #[Value.str (Str.ofString "_plain_name") 314, Value.str (Str.ofString "_plain_name") 315, Value.str (Str.ofString "/claim/cut.py") 316, Value.int 99 0, Value.int 2 0, Value.int 0 0, Value.int 0 0, Value.int 3 0, Value.ref 99, Value.bool true, Value.int 181 0, Value.ref 100, Value.none, Value.ref 101, Value.ref 102, Value.ref 103, Value.int 320 0, Value.int 99 0, Value.str (Str.ofString "/claim/cut.py") 321] }
noncomputable def ob105 (_ : Params) : Obj := lit3 (tA 10) (fun b a s => { cls := Value.type "function", data := Data.func { name := Str.ofString "_plain_name", qualname := Str.ofString "_plain_name", params := a, body := FuncBody.stmts b, scope := s, globals := 3, closure := [], defaults := Value.none, kwdefaults := Value.none, pyModule := Value.str (Str.ofString "os") 312, code := Value.ref 104 } }) _ _ _ (by conv => lhs; whnf) (by conv => lhs; whnf) (by conv => lhs; whnf)
noncomputable def ob106 (_ : Params) : Obj := { cls := Value.type "tuple", data := Data.seq #[Value.type "type"] }
noncomputable def ob107 (_ : Params) : Obj := { cls := Value.type "builtin_function_or_method", data := Data.fields #[Value.builtin "type.__prepare__", Value.type "type"] }
noncomputable def ob108 (P : Params) : Obj := { cls := Value.type "dict", data := Data.dict #[{ hash := PyData.keyHash P (Str.ofString "__module__"), key := Value.str (Str.ofString "__module__") 332, val := Value.str (Str.ofString "abc") 323 }, { hash := PyData.keyHash P (Str.ofString "__qualname__"), key := Value.str (Str.ofString "__qualname__") 334, val := Value.str (Str.ofString "ABCMeta") 333 }, { hash := PyData.keyHash P (Str.ofString "__firstlineno__"), key := Value.str (Str.ofString "__firstlineno__") 336, val := Value.int 105 335 }, { hash := PyData.keyHash P (Str.ofString "register"), key := Value.str (Str.ofString "register") 344, val := Value.ref 119 }, { hash := PyData.keyHash P (Str.ofString "__static_attributes__"), key := Value.str (Str.ofString "__static_attributes__") 345, val := Value.ref 120 }] 5 }
noncomputable def ob109 (_ : Params) : Obj := { cls := Value.type "tuple", data := Data.seq #[] }
noncomputable def ob110 (_ : Params) : Obj := { cls := Value.none, data := Data.fields #[Value.int 107 0, Value.int 4 0, Value.ref 118] }
noncomputable def ob111 (_ : Params) : Obj := { cls := Value.type "code", data := Data.fields #[Value.str (Str.ofString "ABCMeta") 327, Value.str (Str.ofString "ABCMeta") 328, Value.str (Str.ofString "/claim/cut.py") 329, Value.int 105 0, Value.int 0 0, Value.int 0 0, Value.int 0 0, Value.int 0 0, Value.ref 109, Value.bool false, Value.int 181 0, Value.ref 110, Value.none, Value.none, Value.none, Value.none, Value.int 330 0, Value.int 105 0, Value.str (Str.ofString "/claim/cut.py") 331] }
noncomputable def ob112 (_ : Params) : Obj := { cls := Value.type "frame", slots := #[some (Value.ref 111), some (Value.ref 3), some (Value.ref 108), none, some (Value.str (Str.ofString "abc") 323), none, some (Value.ref 0)] }
noncomputable def ob113 (_ : Params) : Obj := { cls := Value.type "tuple", data := Data.seq #[] }
noncomputable def ob114 (_ : Params) : Obj := { cls := Value.none, data := Data.fields #[] }
noncomputable def ob115 (_ : Params) : Obj := { cls := Value.type "tuple", data := Data.seq #[Value.str (Str.ofString "cls") 340, Value.str (Str.ofString "subclass") 341] }
noncomputable def ob116 (_ : Params) : Obj := { cls := Value.type "tuple", data := Data.seq #[] }
noncomputable def ob117 (_ : Params) : Obj := lit3 (cA 12 0) (fun b a s => { cls := Value.none, data := Data.func { name := Str.ofString "register", qualname := Str.ofString "ABCMeta.register", params := a, body := FuncBody.stmts b, scope := s, globals := 0, closure := [], defaults := Value.none, kwdefaults := Value.none } }) _ _ _ (by conv => lhs; whnf) (by conv => lhs; whnf) (by conv => lhs; whnf)
noncomputable def ob118 (_ : Params) : Obj := { cls := Value.type "code", data := Data.fields #[Value.str (Str.ofString "register") 337, Value.str (Str.ofString "ABCMeta.register") 338, Value.str (Str.ofString "/claim/cut.py") 339, Value.int 107 0, Value.int 2 0, Value.int 0 0, Value.int 0 0, Value.int 3 0, Value.ref 113, Value.bool true, Value.int 181 0, Value.ref 114, Value.none, Value.ref 115, Value.ref 116, Value.ref 117, Value.int 342 0, Value.int 107 0, Value.str (Str.ofString "/claim/cut.py") 343] }
noncomputable def ob119 (_ : Params) : Obj := lit3 (cA 12 0) (fun b a s => { cls := Value.type "function", data := Data.func { name := Str.ofString "register", qualname := Str.ofString "ABCMeta.register", params := a, body := FuncBody.stmts b, scope := s, globals := 3, closure := [], defaults := Value.none, kwdefaults := Value.none, pyModule := Value.str (Str.ofString "abc") 323, code := Value.ref 118 } }) _ _ _ (by conv => lhs; whnf) (by conv => lhs; whnf) (by conv => lhs; whnf)
noncomputable def ob120 (_ : Params) : Obj := { cls := Value.type "tuple", data := Data.seq #[] }
noncomputable def ob121 (P : Params) : Obj := { cls := Value.type "dict", data := Data.dict #[{ hash := PyData.keyHash P (Str.ofString "__module__"), key := Value.str (Str.ofString "__module__") 332, val := Value.str (Str.ofString "abc") 323 }, { hash := PyData.keyHash P (Str.ofString "__firstlineno__"), key := Value.str (Str.ofString "__firstlineno__") 336, val := Value.int 105 335 }, { hash := PyData.keyHash P (Str.ofString "register"), key := Value.str (Str.ofString "register") 344, val := Value.ref 119 }, { hash := PyData.keyHash P (Str.ofString "__static_attributes__"), key := Value.str (Str.ofString "__static_attributes__") 345, val := Value.ref 120 }, { hash := PyData.keyHash P (Str.ofString "__doc__"), key := Value.str (Str.ofString "__doc__") 346, val := Value.none }] 2 }
noncomputable def ob122 (_ : Params) : Obj := { cls := Value.type "type", data := Data.cls { name := Str.ofString "ABCMeta", bases := [Value.type "type"], mro := [Value.ref 122, Value.type "type", Value.type "object"], ns := 121, qualname := Str.ofString "ABCMeta", subclasses := [Value.ref 155] }, slots := #[some (Value.ref 106), none, some (Value.str (Str.ofString "ABCMeta") 325), some (Value.str (Str.ofString "ABCMeta") 333), some (Value.builtin "type.__new__"), some (Value.bool true)] }
noncomputable def ob123 (_ : Params) : Obj := { cls := Value.type "super", data := Data.fields #[Value.ref 122, Value.ref 122, Value.ref 122] }
noncomputable def ob124 (_ : Params) : Obj := { cls := Value.type "builtin_function_or_method", data := Data.fields #[Value.builtin "object.__init_subclass__", Value.ref 122] }
noncomputable def ob125 (_ : Params) : Obj := { cls := Value.type "tuple", data := Data.seq #[Value.ref 122] }
noncomputable def ob126 (_ : Params) : Obj := { cls := Value.type "builtin_function_or_method", data := Data.fields #[Value.builtin "type.__prepare__", Value.type "type"] }
noncomputable def ob127 (P : Params) : Obj := { cls := Value.type "dict", data := Data.dict #[{ hash := PyData.keyHash P (Str.ofString "__module__"), key := Value.str (Str.ofString "__module__") 358, val := Value.str (Str.ofString "collections.abc") 349 }, { hash := PyData.keyHash P (Str.ofString "__qualname__"), key := Value.str (Str.ofString "__qualname__") 360, val := Value.str (Str.ofString "_ABCLike") 359 }, { hash := PyData.keyHash P (Str.ofString "__firstlineno__"), key := Value.str (Str.ofString "__firstlineno__") 362, val := Value.int 110 361 }, { hash := PyData.keyHash P (Str.ofString "__instancecheck__"), key := Value.str (Str.ofString "__instancecheck__") 371, val := Value.ref 138 }, { hash := PyData.keyHash P (Str.ofString "__subclasscheck__"), key := Value.str (Str.ofString "__subclasscheck__") 379, val := Value.ref 145 }, { hash := PyData.keyHash P (Str.ofString "register"), key := Value.str (Str.ofString "register") 387, val := Value.ref 152 }, { hash := PyData.keyHash P (Str.ofString "__static_attributes__"), key := Value.str (Str.ofString "__static_attributes__") 388, val := Value.ref 153 }] 7 }
noncomputable def ob128 (_ : Params) : Obj := { cls := Value.type "tuple", data := Data.seq #[] }
noncomputable def ob129 (_ : Params) : Obj := { cls := Value.none, data := Data.fields #[Value.int 112 0, Value.int 4 0, Value.ref 137, Value.int 118 0, Value.int 4 0, Value.ref 144, Value.int 123 0, Value.int 4 0, Value.ref 151] }
noncomputable def ob130 (_ : Params) : Obj := { cls := Value.type "code", data := Data.fields #[Value.str (Str.ofString "_ABCLike") 353, Value.str (Str.ofString "_ABCLike") 354, Value.str (Str.ofString "/claim/cut.py") 355, Value.int 110 0, Value.int 0 0, Value.int 0 0, Value.int 0 0, Value.int 0 0, Value.ref 128, Value.bool false, Value.int 181 0, Value.ref 129, Value.none, Value.none, Value.none, Value.none, Value.int 356 0, Value.int 110 0, Value.str (Str.ofString "/claim/cut.py") 357] }
noncomputable def ob131 (_ : Params) : Obj := { cls := Value.type "frame", slots := #[some (Value.ref 130), some (Value.ref 3), some (Value.ref 127), none, some (Value.str (Str.ofString "collections.abc") 349), none, some (Value.ref 0)] }
noncomputable def ob132 (_ : Params) : Obj := { cls := Value.type "tuple", data := Data.seq #[] }
noncomputable def ob133 (_ : Params) : Obj := { cls := Value.none, data := Data.fields #[] }
noncomputable def ob134 (_ : Params) : Obj := { cls := Value.type "tuple", data := Data.seq #[Value.str (Str.ofString "cls") 366, Value.str ((⟨#[105, 110, 115, 116, 97, 110, 99, 101]⟩ : Str)) 367, Value.str (Str.ofString "C") 368] }
noncomputable def ob135 (_ : Params) : Obj := { cls := Value.type "tuple", data := Data.seq #[] }
noncomputable def ob136 (_ : Params) : Obj := lit3 (cA 14 0) (fun b a s => { cls := Value.none, data := Data.func { name := Str.ofString "__instancecheck__", qualname := Str.ofString "_ABCLike.__instancecheck__", params := a, body := FuncBody.stmts b, scope := s, globals := 0, closure := [], defaults := Value.none, kwdefaults := Value.none } }) _ _ _ (by conv => lhs; whnf) (by conv => lhs; whnf) (by conv => lhs; whnf)
noncomputable def ob137 (_ : Params) : Obj := { cls := Value.type "code", data := Data.fields #[Value.str (Str.ofString "__instancecheck__") 363, Value.str (Str.ofString "_ABCLike.__instancecheck__") 364, Value.str (Str.ofString "/claim/cut.py") 365, Value.int 112 0, Value.int 2 0, Value.int 0 0, Value.int 0 0, Value.int 3 0, Value.ref 132, Value.bool true, Value.int 181 0, Value.ref 133, Value.none, Value.ref 134, Value.ref 135, Value.ref 136, Value.int 369 0, Value.int 112 0, Value.str (Str.ofString "/claim/cut.py") 370] }
noncomputable def ob138 (_ : Params) : Obj := lit3 (cA 14 0) (fun b a s => { cls := Value.type "function", data := Data.func { name := Str.ofString "__instancecheck__", qualname := Str.ofString "_ABCLike.__instancecheck__", params := a, body := FuncBody.stmts b, scope := s, globals := 3, closure := [], defaults := Value.none, kwdefaults := Value.none, pyModule := Value.str (Str.ofString "collections.abc") 349, code := Value.ref 137 } }) _ _ _ (by conv => lhs; whnf) (by conv => lhs; whnf) (by conv => lhs; whnf)
noncomputable def ob139 (_ : Params) : Obj := { cls := Value.type "tuple", data := Data.seq #[] }
noncomputable def ob140 (_ : Params) : Obj := { cls := Value.none, data := Data.fields #[] }
noncomputable def ob141 (_ : Params) : Obj := { cls := Value.type "tuple", data := Data.seq #[Value.str (Str.ofString "cls") 375, Value.str (Str.ofString "C") 376] }
noncomputable def ob142 (_ : Params) : Obj := { cls := Value.type "tuple", data := Data.seq #[] }
noncomputable def ob143 (_ : Params) : Obj := lit3 (cA 14 1) (fun b a s => { cls := Value.none, data := Data.func { name := Str.ofString "__subclasscheck__", qualname := Str.ofString "_ABCLike.__subclasscheck__", params := a, body := FuncBody.stmts b, scope := s, globals := 0, closure := [], defaults := Value.none, kwdefaults := Value.none } }) _ _ _ (by conv => lhs; whnf) (by conv => lhs; whnf) (by conv => lhs; whnf)
noncomputable def ob144 (_ : Params) : Obj := { cls := Value.type "code", data := Data.fields #[Value.str (Str.ofString "__subclasscheck__") 372, Value.str (Str.ofString "_ABCLike.__subclasscheck__") 373, Value.str (Str.ofString "/claim/cut.py") 374, Value.int 118 0, Value.int 2 0, Value.int 0 0, Value.int 0 0, Value.int 3 0, Value.ref 139, Value.bool true, Value.int 181 0, Value.ref 140, Value.none, Value.ref 141, Value.ref 142, Value.ref 143, Value.int 377 0, Value.int 118 0, Value.str (Str.ofString "/claim/cut.py") 378] }
noncomputable def ob145 (_ : Params) : Obj := lit3 (cA 14 1) (fun b a s => { cls := Value.type "function", data := Data.func { name := Str.ofString "__subclasscheck__", qualname := Str.ofString "_ABCLike.__subclasscheck__", params := a, body := FuncBody.stmts b, scope := s, globals := 3, closure := [], defaults := Value.none, kwdefaults := Value.none, pyModule := Value.str (Str.ofString "collections.abc") 349, code := Value.ref 144 } }) _ _ _ (by conv => lhs; whnf) (by conv => lhs; whnf) (by conv => lhs; whnf)
noncomputable def ob146 (_ : Params) : Obj := { cls := Value.type "tuple", data := Data.seq #[] }
noncomputable def ob147 (_ : Params) : Obj := { cls := Value.none, data := Data.fields #[] }
noncomputable def ob148 (_ : Params) : Obj := { cls := Value.type "tuple", data := Data.seq #[Value.str (Str.ofString "cls") 383, Value.str (Str.ofString "subclass") 384] }
noncomputable def ob149 (_ : Params) : Obj := { cls := Value.type "tuple", data := Data.seq #[] }
noncomputable def ob150 (_ : Params) : Obj := lit3 (cA 14 2) (fun b a s => { cls := Value.none, data := Data.func { name := Str.ofString "register", qualname := Str.ofString "_ABCLike.register", params := a, body := FuncBody.stmts b, scope := s, globals := 0, closure := [], defaults := Value.none, kwdefaults := Value.none } }) _ _ _ (by conv => lhs; whnf) (by conv => lhs; whnf) (by conv => lhs; whnf)
noncomputable def ob151 (_ : Params) : Obj := { cls := Value.type "code", data := Data.fields #[Value.str (Str.ofString "register") 380, Value.str (Str.ofString "_ABCLike.register") 381, Value.str (Str.ofString "/claim/cut.py") 382, Value.int 123 0, Value.int 2 0, Value.int 0 0, Value.int 0 0, Value.int 3 0, Value.ref 146, Value.bool true, Value.int 181 0, Value.ref 147, Value.none, Value.ref 148, Value.ref 149, Value.ref 150, Value.int 385 0, Value.int 123 0, Value.str (Str.ofString "/claim/cut.py") 386] }
noncomputable def ob152 (_ : Params) : Obj := lit3 (cA 14 2) (fun b a s => { cls := Value.type "function", data := Data.func { name := Str.ofString "register", qualname := Str.ofString "_ABCLike.register", params := a, body := FuncBody.stmts b, scope := s, globals := 3, closure := [], defaults := Value.none, kwdefaults := Value.none, pyModule := Value.str (Str.ofString "collections.abc") 349, code := Value.ref 151 } }) _ _ _ (by conv => lhs; whnf) (by conv => lhs; whnf) (by conv => lhs; whnf)
noncomputable def ob153 (_ : Params) : Obj := { cls := Value.type "tuple", data := Data.seq #[] }
noncomputable def ob154 (P : Params) : Obj := { cls := Value.type "dict", data := Data.dict #[{ hash := PyData.keyHash P (Str.ofString "__module__"), key := Value.str (Str.ofString "__module__") 358, val := Value.str (Str.ofString "collections.abc") 349 }, { hash := PyData.keyHash P (Str.ofString "__firstlineno__"), key := Value.str (Str.ofString "__firstlineno__") 362, val := Value.int 110 361 }, { hash := PyData.keyHash P (Str.ofString "__instancecheck__"), key := Value.str (Str.ofString "__instancecheck__") 371, val := Value.ref 138 }, { hash := PyData.keyHash P (Str.ofString "__subclasscheck__"), key := Value.str (Str.ofString "__subclasscheck__") 379, val := Value.ref 145 }, { hash := PyData.keyHash P (Str.ofString "register"), key := Value.str (Str.ofString "register") 387, val := Value.ref 152 }, { hash := PyData.keyHash P (Str.ofString "__static_attributes__"), key := Value.str (Str.ofString "__static_attributes__") 388, val := Value.ref 153 }, { hash := PyData.keyHash P (Str.ofString "__doc__"), key := Value.str (Str.ofString "__doc__") 389, val := Value.none }] 2 }
noncomputable def ob155 (_ : Params) : Obj := { cls := Value.type "type", data := Data.cls { name := Str.ofString "_ABCLike", bases := [Value.ref 122], mro := [Value.ref 155, Value.ref 122, Value.type "type", Value.type "object"], ns := 154, qualname := Str.ofString "_ABCLike" }, slots := #[some (Value.ref 125), none, some (Value.str (Str.ofString "_ABCLike") 351), some (Value.str (Str.ofString "_ABCLike") 359), some (Value.builtin "type.__new__"), some (Value.bool true)] }
noncomputable def ob156 (_ : Params) : Obj := { cls := Value.type "super", data := Data.fields #[Value.ref 155, Value.ref 155, Value.ref 155] }
noncomputable def ob157 (_ : Params) : Obj := { cls := Value.type "builtin_function_or_method", data := Data.fields #[Value.builtin "object.__init_subclass__", Value.ref 155] }
noncomputable def ob158 (_ : Params) : Obj := { cls := Value.type "tuple", data := Data.seq #[] }
noncomputable def ob159 (_ : Params) : Obj := { cls := Value.none, data := Data.fields #[] }
noncomputable def ob160 (_ : Params) : Obj := { cls := Value.type "tuple", data := Data.seq #[Value.str (Str.ofString "C") 395] }
noncomputable def ob161 (_ : Params) : Obj := { cls := Value.type "tuple", data := Data.seq #[] }
noncomputable def ob162 (_ : Params) : Obj := lit3 (tA 15) (fun b a s => { cls := Value.none, data := Data.func { name := Str.ofString "_abc_plain_meta", qualname := Str.ofString "_abc_plain_meta", params := a, body := FuncBody.stmts b, scope := s, globals := 0, closure := [], defaults := Value.none, kwdefaults := Value.none } }) _ _ _ (by conv => lhs; whnf) (by conv => lhs; whnf) (by conv => lhs; whnf)
noncomputable def ob163 (_ : Params) : Obj := { cls := Value.type "code", data := Data.fields #[Value.str (Str.ofString "_abc_plain_meta") 392, Value.str (Str.ofString "_abc_plain_meta") 393, Value.str (Str.ofString "/claim/cut.py") 394, Value.int 125 0, Value.int 1 0, Value.int 0 0, Value.int 0 0, Value.int 3 0, Value.ref 158, Value.bool true, Value.int 181 0, Value.ref 159, Value.none, Value.ref 160, Value.ref 161, Value.ref 162, Value.int 396 0, Value.int 125 0, Value.str (Str.ofString "/claim/cut.py") 397] }
noncomputable def ob164 (_ : Params) : Obj := lit3 (tA 15) (fun b a s => { cls := Value.type "function", data := Data.func { name := Str.ofString "_abc_plain_meta", qualname := Str.ofString "_abc_plain_meta", params := a, body := FuncBody.stmts b, scope := s, globals := 3, closure := [], defaults := Value.none, kwdefaults := Value.none, pyModule := Value.str (Str.ofString "collections.abc") 349, code := Value.ref 163 } }) _ _ _ (by conv => lhs; whnf) (by conv => lhs; whnf) (by conv => lhs; whnf)
noncomputable def ob165 (_ : Params) : Obj := { cls := Value.type "tuple", data := Data.seq #[] }
noncomputable def ob166 (_ : Params) : Obj := { cls := Value.none, data := Data.fields #[] }
noncomputable def ob167 (_ : Params) : Obj := { cls := Value.type "tuple", data := Data.seq #[Value.str (Str.ofString "path") 404, Value.str (Str.ofString "kind") 405, Value.str (Str.ofString "hook") 406, Value.str (Str.ofString "given") 407] }
noncomputable def ob168 (_ : Params) : Obj := { cls := Value.type "tuple", data := Data.seq #[] }
noncomputable def ob169 (_ : Params) : Obj := lit3 (tA 17) (fun b a s => { cls := Value.none, data := Data.func { name := Str.ofString "fspath", qualname := Str.ofString "fspath", params := a, body := FuncBody.stmts b, scope := s, globals := 0, closure := [], defaults := Value.none, kwdefaults := Value.none } }) _ _ _ (by conv => lhs; whnf) (by conv => lhs; whnf) (by conv => lhs; whnf)
noncomputable def ob170 (_ : Params) : Obj := { cls := Value.type "code", data := Data.fields #[Value.str (Str.ofString "fspath") 401, Value.str (Str.ofString "fspath") 402, Value.str (Str.ofString "/claim/cut.py") 403, Value.int 129 0, Value.int 1 0, Value.int 0 0, Value.int 0 0, Value.int 3 0, Value.ref 165, Value.bool true, Value.int 181 0, Value.ref 166, Value.none, Value.ref 167, Value.ref 168, Value.ref 169, Value.int 408 0, Value.int 129 0, Value.str (Str.ofString "/claim/cut.py") 409] }
noncomputable def ob171 (_ : Params) : Obj := lit3 (tA 17) (fun b a s => { cls := Value.type "function", data := Data.func { name := Str.ofString "fspath", qualname := Str.ofString "fspath", params := a, body := FuncBody.stmts b, scope := s, globals := 3, closure := [], defaults := Value.none, kwdefaults := Value.none, pyModule := Value.str (Str.ofString "os") 399, code := Value.ref 170 } }) _ _ _ (by conv => lhs; whnf) (by conv => lhs; whnf) (by conv => lhs; whnf)
noncomputable def ob172 (_ : Params) : Obj := { cls := Value.type "tuple", data := Data.seq #[] }
noncomputable def ob173 (_ : Params) : Obj := { cls := Value.none, data := Data.fields #[] }
noncomputable def ob174 (_ : Params) : Obj := { cls := Value.type "tuple", data := Data.seq #[Value.str (Str.ofString "funcname") 416, Value.str (Str.ofString "args") 417, Value.str (Str.ofString "hasstr") 418, Value.str (Str.ofString "hasbytes") 419, Value.str (Str.ofString "s") 420] }
noncomputable def ob175 (_ : Params) : Obj := { cls := Value.type "tuple", data := Data.seq #[] }
noncomputable def ob176 (_ : Params) : Obj := lit3 (tA 19) (fun b a s => { cls := Value.none, data := Data.func { name := Str.ofString "_check_arg_types", qualname := Str.ofString "_check_arg_types", params := a, body := FuncBody.stmts b, scope := s, globals := 0, closure := [], defaults := Value.none, kwdefaults := Value.none } }) _ _ _ (by conv => lhs; whnf) (by conv => lhs; whnf) (by conv => lhs; whnf)
noncomputable def ob177 (_ : Params) : Obj := { cls := Value.type "code", data := Data.fields #[Value.str (Str.ofString "_check_arg_types") 413, Value.str (Str.ofString "_check_arg_types") 414, Value.str (Str.ofString "/claim/cut.py") 415, Value.int 146 0, Value.int 1 0, Value.int 0 0, Value.int 0 0, Value.int 7 0, Value.ref 172, Value.bool true, Value.int 181 0, Value.ref 173, Value.none, Value.ref 174, Value.ref 175, Value.ref 176, Value.int 421 0, Value.int 146 0, Value.str (Str.ofString "/claim/cut.py") 422] }
noncomputable def ob178 (_ : Params) : Obj := lit3 (tA 19) (fun b a s => { cls := Value.type "function", data := Data.func { name := Str.ofString "_check_arg_types", qualname := Str.ofString "_check_arg_types", params := a, body := FuncBody.stmts b, scope := s, globals := 3, closure := [], defaults := Value.none, kwdefaults := Value.none, pyModule := Value.str (Str.ofString "cpy313.genericpath") 411, code := Value.ref 177 } }) _ _ _ (by conv => lhs; whnf) (by conv => lhs; whnf) (by conv => lhs; whnf)
noncomputable def ob179 (_ : Params) : Obj := { cls := Value.type "tuple", data := Data.seq #[] }
noncomputable def ob180 (_ : Params) : Obj := { cls := Value.none, data := Data.fields #[] }
noncomputable def ob181 (_ : Params) : Obj := { cls := Value.type "tuple", data := Data.seq #[Value.str (Str.ofString "path") 429] }
noncomputable def ob182 (_ : Params) : Obj := { cls := Value.type "tuple", data := Data.seq #[] }
noncomputable def ob183 (_ : Params) : Obj := lit3 (tA 21) (fun b a s => { cls := Value.none, data := Data.func { name := Str.ofString "_get_sep", qualname := Str.ofString "_get_sep", params := a, body := FuncBody.stmts b, scope := s, globals := 0, closure := [], defaults := Value.none, kwdefaults := Value.none } }) _ _ _ (by conv => lhs; whnf) (by conv => lhs; whnf) (by conv => lhs; whnf)
noncomputable def ob184 (_ : Params) : Obj := { cls := Value.type "code", data := Data.fields #[Value.str (Str.ofString "_get_sep") 426, Value.str (Str.ofString "_get_sep") 427, Value.str (Str.ofString "/claim/cut.py") 428, Value.int 158 0, Value.int 1 0, Value.int 0 0, Value.int 0 0, Value.int 3 0, Value.ref 179, Value.bool true, Value.int 181 0, Value.ref 180, Value.none, Value.ref 181, Value.ref 182, Value.ref 183, Value.int 430 0, Value.int 158 0, Value.str (Str.ofString "/claim/cut.py") 431] }
noncomputable def ob185 (_ : Params) : Obj := lit3 (tA 21) (fun b a s => { cls := Value.type "function", data := Data.func { name := Str.ofString "_get_sep", qualname := Str.ofString "_get_sep", params := a, body := FuncBody.stmts b, scope := s, globals := 3, closure := [], defaults := Value.none, kwdefaults := Value.none, pyModule := Value.str (Str.ofString "cpy313.posixpath") 424, code := Value.ref 184 } }) _ _ _ (by conv => lhs; whnf) (by conv => lhs; whnf) (by conv => lhs; whnf)
noncomputable def ob186 (_ : Params) : Obj := { cls := Value.type "tuple", data := Data.seq #[] }
noncomputable def ob187 (_ : Params) : Obj := { cls := Value.none, data := Data.fields #[] }
noncomputable def ob188 (_ : Params) : Obj := { cls := Value.type "tuple", data := Data.seq #[Value.str (Str.ofString "a") 436, Value.str (Str.ofString "p") 437, Value.str (Str.ofString "sep") 438, Value.str (Str.ofString "path") 439, Value.str (Str.ofString "b") 440] }
noncomputable def ob189 (_ : Params) : Obj := { cls := Value.type "tuple", data := Data.seq #[] }
noncomputable def ob190 (_ : Params) : Obj := lit3 (tA 22) (fun b a s => { cls := Value.none, data := Data.func { name := Str.ofString "join", qualname := Str.ofString "join", params := a, body := FuncBody.stmts b, scope := s, globals := 0, closure := [], defaults := Value.none, kwdefaults := Value.none } }) _ _ _ (by conv => lhs; whnf) (by conv => lhs; whnf) (by conv => lhs; whnf)
noncomputable def ob191 (_ : Params) : Obj := { cls := Value.type "code", data := Data.fields #[Value.str (Str.ofString "join") 433, Value.str (Str.ofString "join") 434, Value.str (Str.ofString "/claim/cut.py") 435, Value.int 163 0, Value.int 1 0, Value.int 0 0, Value.int 0 0, Value.int 7 0, Value.ref 186, Value.bool true, Value.int 181 0, Value.ref 187, Value.none, Value.ref 188, Value.ref 189, Value.ref 190, Value.int 441 0, Value.int 163 0, Value.str (Str.ofString "/claim/cut.py") 442] }
noncomputable def ob192 (_ : Params) : Obj := lit3 (tA 22) (fun b a s => { cls := Value.type "function", data := Data.func { name := Str.ofString "join", qualname := Str.ofString "join", params := a, body := FuncBody.stmts b, scope := s, globals := 3, closure := [], defaults := Value.none, kwdefaults := Value.none, pyModule := Value.str (Str.ofString "cpy313.posixpath") 424, code := Value.ref 191 } }) _ _ _ (by conv => lhs; whnf) (by conv => lhs; whnf) (by conv => lhs; whnf)
noncomputable def ob193 (_ : Params) : Obj := { cls := Value.type "tuple", data := Data.seq #[] }
noncomputable def ob194 (_ : Params) : Obj := { cls := Value.none, data := Data.fields #[] }
noncomputable def ob195 (_ : Params) : Obj := { cls := Value.type "tuple", data := Data.seq #[Value.str (Str.ofString "p") 447, Value.str (Str.ofString "sep") 448, Value.str (Str.ofString "i") 449, Value.str (Str.ofString "head") 450, Value.str (Str.ofString "tail") 451] }
noncomputable def ob196 (_ : Params) : Obj := { cls := Value.type "tuple", data := Data.seq #[] }
noncomputable def ob197 (_ : Params) : Obj := lit3 (tA 23) (fun b a s => { cls := Value.none, data := Data.func { name := Str.ofString "split", qualname := Str.ofString "split", params := a, body := FuncBody.stmts b, scope := s, globals := 0, closure := [], defaults := Value.none, kwdefaults := Value.none } }) _ _ _ (by conv => lhs; whnf) (by conv => lhs; whnf) (by conv => lhs; whnf)
noncomputable def ob198 (_ : Params) : Obj := { cls := Value.type "code", data := Data.fields #[Value.str (Str.ofString "split") 444, Value.str (Str.ofString "split") 445, Value.str (Str.ofString "/claim/cut.py") 446, Value.int 180 0, Value.int 1 0, Value.int 0 0, Value.int 0 0, Value.int 3 0, Value.ref 193, Value.bool true, Value.int 181 0, Value.ref 194, Value.none, Value.ref 195, Value.ref 196, Value.ref 197, Value.int 452 0, Value.int 180 0, Value.str (Str.ofString "/claim/cut.py") 453] }
noncomputable def ob199 (_ : Params) : Obj := lit3 (tA 23) (fun b a s => { cls := Value.type "function", data := Data.func { name := Str.ofString "split", qualname := Str.ofString "split", params := a, body := FuncBody.stmts b, scope := s, globals := 3, closure := [], defaults := Value.none, kwdefaults := Value.none, pyModule := Value.str (Str.ofString "cpy313.posixpath") 424, code := Value.ref 198 } }) _ _ _ (by conv => lhs; whnf) (by conv => lhs; whnf) (by conv => lhs; whnf)
noncomputable def ob200 (_ : Params) : Obj := { cls := Value.type "tuple", data := Data.seq #[] }
noncomputable def ob201 (_ : Params) : Obj := { cls := Value.none, data := Data.fields #[] }
noncomputable def ob202 (_ : Params) : Obj := { cls := Value.type "tuple", data := Data.seq #[Value.str (Str.ofString "p") 458, Value.str (Str.ofString "sep") 459, Value.str (Str.ofString "i") 460] }
noncomputable def ob203 (_ : Params) : Obj := { cls := Value.type "tuple", data := Data.seq #[] }
noncomputable def ob204 (_ : Params) : Obj := lit3 (tA 24) (fun b a s => { cls := Value.none, data := Data.func { name := Str.ofString "basename", qualname := Str.ofString "basename", params := a, body := FuncBody.stmts b, scope := s, globals := 0, closure := [], defaults := Value.none, kwdefaults := Value.none } }) _ _ _ (by conv => lhs; whnf) (by conv => lhs; whnf) (by conv => lhs; whnf)
noncomputable def ob205 (_ : Params) : Obj := { cls := Value.type "code", data := Data.fields #[Value.str (Str.ofString "basename") 455, Value.str (Str.ofString "basename") 456, Value.str (Str.ofString "/claim/cut.py") 457, Value.int 188 0, Value.int 1 0, Value.int 0 0, Value.int 0 0, Value.int 3 0, Value.ref 200, Value.bool true, Value.int 181 0, Value.ref 201, Value.none, Value.ref 202, Value.ref 203, Value.ref 204, Value.int 461 0, Value.int 188 0, Value.str (Str.ofString "/claim/cut.py") 462] }
noncomputable def ob206 (_ : Params) : Obj := lit3 (tA 24) (fun b a s => { cls := Value.type "function", data := Data.func { name := Str.ofString "basename", qualname := Str.ofString "basename", params := a, body := FuncBody.stmts b, scope := s, globals := 3, closure := [], defaults := Value.none, kwdefaults := Value.none, pyModule := Value.str (Str.ofString "cpy313.posixpath") 424, code := Value.ref 205 } }) _ _ _ (by conv => lhs; whnf) (by conv => lhs; whnf) (by conv => lhs; whnf)
noncomputable def ob207 (_ : Params) : Obj := { cls := Value.type "tuple", data := Data.seq #[] }
noncomputable def ob208 (_ : Params) : Obj := { cls := Value.none, data := Data.fields #[] }
noncomputable def ob209 (_ : Params) : Obj := { cls := Value.type "tuple", data := Data.seq #[Value.str (Str.ofString "p") 467, Value.str (Str.ofString "sep") 468, Value.str (Str.ofString "i") 469, Value.str (Str.ofString "head") 470] }
noncomputable def ob210 (_ : Params) : Obj := { cls := Value.type "tuple", data := Data.seq #[] }
noncomputable def ob211 (_ : Params) : Obj := lit3 (tA 25) (fun b a s => { cls := Value.none, data := Data.func { name := Str.ofString "dirname", qualname := Str.ofString "dirname", params := a, body := FuncBody.stmts b, scope := s, globals := 0, closure := [], defaults := Value.none, kwdefaults := Value.none } }) _ _ _ (by conv => lhs; whnf) (by conv => lhs; whnf) (by conv => lhs; whnf)
noncomputable def ob212 (_ : Params) : Obj := { cls := Value.type "code", data := Data.fields #[Value.str (Str.ofString "dirname") 464, Value.str (Str.ofString "dirname") 465, Value.str (Str.ofString "/claim/cut.py") 466, Value.int 193 0, Value.int 1 0, Value.int 0 0, Value.int 0 0, Value.int 3 0, Value.ref 207, Value.bool true, Value.int 181 0, Value.ref 208, Value.none, Value.ref 209, Value.ref 210, Value.ref 211, Value.int 471 0, Value.int 193 0, Value.str (Str.ofString "/claim/cut.py") 472] }
noncomputable def ob213 (_ : Params) : Obj := lit3 (tA 25) (fun b a s => { cls := Value.type "function", data := Data.func { name := Str.ofString "dirname", qualname := Str.ofString "dirname", params := a, body := FuncBody.stmts b, scope := s, globals := 3, closure := [], defaults := Value.none, kwdefaults := Value.none, pyModule := Value.str (Str.ofString "cpy313.posixpath") 424, code := Value.ref 212 } }) _ _ _ (by conv => lhs; whnf) (by conv => lhs; whnf) (by conv => lhs; whnf)
noncomputable def ob214 (_ : Params) : Obj := { cls := Value.type "tuple", data := Data.seq #[] }
noncomputable def ob215 (_ : Params) : Obj := { cls := Value.none, data := Data.fields #[] }
noncomputable def ob216 (_ : Params) : Obj := { cls := Value.type "tuple", data := Data.seq #[Value.str (Str.ofString "cells") 479, Value.str (Str.ofString "roads") 480, Value.str (Str.ofString "turn") 481, Value.str (Str.ofString "cell") 482, Value.str (Str.ofString "one") 483, Value.str (Str.ofString "two") 484] }
noncomputable def ob217 (_ : Params) : Obj := { cls := Value.type "tuple", data := Data.seq #[] }
noncomputable def ob218 (_ : Params) : Obj := lit3 (tA 27) (fun b a s => { cls := Value.none, data := Data.func { name := Str.ofString "_law_roads", qualname := Str.ofString "_law_roads", params := a, body := FuncBody.stmts b, scope := s, globals := 0, closure := [], defaults := Value.none, kwdefaults := Value.none } }) _ _ _ (by conv => lhs; whnf) (by conv => lhs; whnf) (by conv => lhs; whnf)
noncomputable def ob219 (_ : Params) : Obj := { cls := Value.type "code", data := Data.fields #[Value.str (Str.ofString "_law_roads") 476, Value.str (Str.ofString "_law_roads") 477, Value.str (Str.ofString "/claim/cut.py") 478, Value.int 202 0, Value.int 1 0, Value.int 0 0, Value.int 0 0, Value.int 3 0, Value.ref 214, Value.bool true, Value.int 181 0, Value.ref 215, Value.none, Value.ref 216, Value.ref 217, Value.ref 218, Value.int 485 0, Value.int 202 0, Value.str (Str.ofString "/claim/cut.py") 486] }
noncomputable def ob220 (_ : Params) : Obj := lit3 (tA 27) (fun b a s => { cls := Value.type "function", data := Data.func { name := Str.ofString "_law_roads", qualname := Str.ofString "_law_roads", params := a, body := FuncBody.stmts b, scope := s, globals := 3, closure := [], defaults := Value.none, kwdefaults := Value.none, pyModule := Value.str (Str.ofString "law_il0068_01") 474, code := Value.ref 219 } }) _ _ _ (by conv => lhs; whnf) (by conv => lhs; whnf) (by conv => lhs; whnf)
noncomputable def ob221 (_ : Params) : Obj := { cls := Value.type "tuple", data := Data.seq #[] }
noncomputable def ob222 (_ : Params) : Obj := { cls := Value.none, data := Data.fields #[] }
noncomputable def ob223 (_ : Params) : Obj := { cls := Value.type "tuple", data := Data.seq #[Value.str (Str.ofString "road") 491, Value.str (Str.ofString "ends") 492, Value.str (Str.ofString "turn") 493] }
noncomputable def ob224 (_ : Params) : Obj := { cls := Value.type "tuple", data := Data.seq #[] }
noncomputable def ob225 (_ : Params) : Obj := lit3 (tA 28) (fun b a s => { cls := Value.none, data := Data.func { name := Str.ofString "_law_ends", qualname := Str.ofString "_law_ends", params := a, body := FuncBody.stmts b, scope := s, globals := 0, closure := [], defaults := Value.none, kwdefaults := Value.none } }) _ _ _ (by conv => lhs; whnf) (by conv => lhs; whnf) (by conv => lhs; whnf)
noncomputable def ob226 (_ : Params) : Obj := { cls := Value.type "code", data := Data.fields #[Value.str (Str.ofString "_law_ends") 488, Value.str (Str.ofString "_law_ends") 489, Value.str (Str.ofString "/claim/cut.py") 490, Value.int 208 0, Value.int 1 0, Value.int 0 0, Value.int 0 0, Value.int 3 0, Value.ref 221, Value.bool true, Value.int 181 0, Value.ref 222, Value.none, Value.ref 223, Value.ref 224, Value.ref 225, Value.int 494 0, Value.int 208 0, Value.str (Str.ofString "/claim/cut.py") 495] }
noncomputable def ob227 (_ : Params) : Obj := lit3 (tA 28) (fun b a s => { cls := Value.type "function", data := Data.func { name := Str.ofString "_law_ends", qualname := Str.ofString "_law_ends", params := a, body := FuncBody.stmts b, scope := s, globals := 3, closure := [], defaults := Value.none, kwdefaults := Value.none, pyModule := Value.str (Str.ofString "law_il0068_01") 474, code := Value.ref 226 } }) _ _ _ (by conv => lhs; whnf) (by conv => lhs; whnf) (by conv => lhs; whnf)
noncomputable def ob228 (_ : Params) : Obj := { cls := Value.type "tuple", data := Data.seq #[] }
noncomputable def ob229 (_ : Params) : Obj := { cls := Value.none, data := Data.fields #[] }
noncomputable def ob230 (_ : Params) : Obj := { cls := Value.type "tuple", data := Data.seq #[Value.str (Str.ofString "road") 500, Value.str (Str.ofString "reach") 501, Value.str (Str.ofString "paths") 502, Value.str (Str.ofString "rule") 503] }
noncomputable def ob231 (_ : Params) : Obj := { cls := Value.type "tuple", data := Data.seq #[Value.str (Str.ofString "reach") 504, Value.str (Str.ofString "paths") 505, Value.str (Str.ofString "one") 506, Value.str (Str.ofString "two") 507] }
noncomputable def ob232 (_ : Params) : Obj := lit3 (tA 29) (fun b a s => { cls := Value.none, data := Data.func { name := Str.ofString "_law_rule", qualname := Str.ofString "_law_rule", params := a, body := FuncBody.stmts b, scope := s, globals := 0, closure := [], defaults := Value.none, kwdefaults := Value.none } }) _ _ _ (by conv => lhs; whnf) (by conv => lhs; whnf) (by conv => lhs; whnf)
noncomputable def ob233 (_ : Params) : Obj := { cls := Value.type "code", data := Data.fields #[Value.str (Str.ofString "_law_rule") 497, Value.str (Str.ofString "_law_rule") 498, Value.str (Str.ofString "/claim/cut.py") 499, Value.int 211 0, Value.int 3 0, Value.int 0 0, Value.int 0 0, Value.int 3 0, Value.ref 228, Value.bool true, Value.int 181 0, Value.ref 229, Value.none, Value.ref 230, Value.ref 231, Value.ref 232, Value.int 508 0, Value.int 211 0, Value.str (Str.ofString "/claim/cut.py") 509] }
noncomputable def ob234 (_ : Params) : Obj := lit3 (tA 29) (fun b a s => { cls := Value.type "function", data := Data.func { name := Str.ofString "_law_rule", qualname := Str.ofString "_law_rule", params := a, body := FuncBody.stmts b, scope := s, globals := 3, closure := [], defaults := Value.none, kwdefaults := Value.none, pyModule := Value.str (Str.ofString "law_il0068_01") 474, code := Value.ref 233 } }) _ _ _ (by conv => lhs; whnf) (by conv => lhs; whnf) (by conv => lhs; whnf)
noncomputable def ob235 (_ : Params) : Obj := { cls := Value.type "tuple", data := Data.seq #[] }
noncomputable def ob236 (_ : Params) : Obj := { cls := Value.none, data := Data.fields #[] }
noncomputable def ob237 (_ : Params) : Obj := { cls := Value.type "tuple", data := Data.seq #[Value.str (Str.ofString "roads") 514, Value.str (Str.ofString "paths") 515, Value.str (Str.ofString "books") 516, Value.str (Str.ofString "name") 517, Value.str (Str.ofString "rank") 518, Value.str (Str.ofString "road") 519, Value.str (Str.ofString "rule") 520] }
noncomputable def ob238 (_ : Params) : Obj := { cls := Value.type "tuple", data := Data.seq #[] }
noncomputable def ob239 (_ : Params) : Obj := lit3 (tA 30) (fun b a s => { cls := Value.none, data := Data.func { name := Str.ofString "_law_books", qualname := Str.ofString "_law_books", params := a, body := FuncBody.stmts b, scope := s, globals := 0, closure := [], defaults := Value.none, kwdefaults := Value.none } }) _ _ _ (by conv => lhs; whnf) (by conv => lhs; whnf) (by conv => lhs; whnf)
noncomputable def ob240 (_ : Params) : Obj := { cls := Value.type "code", data := Data.fields #[Value.str (Str.ofString "_law_books") 511, Value.str (Str.ofString "_law_books") 512, Value.str (Str.ofString "/claim/cut.py") 513, Value.int 217 0, Value.int 2 0, Value.int 0 0, Value.int 0 0, Value.int 3 0, Value.ref 235, Value.bool true, Value.int 181 0, Value.ref 236, Value.none, Value.ref 237, Value.ref 238, Value.ref 239, Value.int 521 0, Value.int 217 0, Value.str (Str.ofString "/claim/cut.py") 522] }
noncomputable def ob241 (_ : Params) : Obj := lit3 (tA 30) (fun b a s => { cls := Value.type "function", data := Data.func { name := Str.ofString "_law_books", qualname := Str.ofString "_law_books", params := a, body := FuncBody.stmts b, scope := s, globals := 3, closure := [], defaults := Value.none, kwdefaults := Value.none, pyModule := Value.str (Str.ofString "law_il0068_01") 474, code := Value.ref 240 } }) _ _ _ (by conv => lhs; whnf) (by conv => lhs; whnf) (by conv => lhs; whnf)
noncomputable def ob242 (_ : Params) : Obj := { cls := Value.type "tuple", data := Data.seq #[] }
noncomputable def ob243 (_ : Params) : Obj := { cls := Value.none, data := Data.fields #[] }
noncomputable def ob244 (_ : Params) : Obj := lit3 (tA 31) (fun b a s => { cls := Value.none, data := Data.func { name := Str.ofString "_law_joined", qualname := Str.ofString "_law_joined", params := a, body := FuncBody.stmts b, scope := s, globals := 0, closure := [], defaults := Value.none, kwdefaults := Value.none } }) _ _ _ (by conv => lhs; whnf) (by conv => lhs; whnf) (by conv => lhs; whnf)
noncomputable def ob245 (_ : Params) : Obj := { cls := Value.type "code", data := Data.fields #[Value.str (Str.ofString "_law_joined") 524, Value.str (Str.ofString "_law_joined") 525, Value.str (Str.ofString "/claim/cut.py") 526, Value.int 228 0, Value.int 2 0, Value.int 0 0, Value.int 0 0, Value.int 3 0, Value.ref 242, Value.bool true, Value.int 181 0, Value.ref 243, Value.none, Value.none, Value.none, Value.ref 244, Value.int 527 0, Value.int 228 0, Value.str (Str.ofString "/claim/cut.py") 528] }
noncomputable def ob246 (_ : Params) : Obj := lit3 (tA 31) (fun b a s => { cls := Value.type "function", data := Data.func { name := Str.ofString "_law_joined", qualname := Str.ofString "_law_joined", params := a, body := FuncBody.stmts b, scope := s, globals := 3, closure := [], defaults := Value.none, kwdefaults := Value.none, pyModule := Value.str (Str.ofString "law_il0068_01") 474, code := Value.ref 245 } }) _ _ _ (by conv => lhs; whnf) (by conv => lhs; whnf) (by conv => lhs; whnf)
noncomputable def ob247 (_ : Params) : Obj := { cls := Value.type "tuple", data := Data.seq #[] }
noncomputable def ob248 (_ : Params) : Obj := { cls := Value.none, data := Data.fields #[] }
noncomputable def ob249 (_ : Params) : Obj := lit3 (tA 32) (fun b a s => { cls := Value.none, data := Data.func { name := Str.ofString "_law_kept", qualname := Str.ofString "_law_kept", params := a, body := FuncBody.stmts b, scope := s, globals := 0, closure := [], defaults := Value.none, kwdefaults := Value.none } }) _ _ _ (by conv => lhs; whnf) (by conv => lhs; whnf) (by conv => lhs; whnf)
noncomputable def ob250 (_ : Params) : Obj := { cls := Value.type "code", data := Data.fields #[Value.str (Str.ofString "_law_kept") 530, Value.str (Str.ofString "_law_kept") 531, Value.str (Str.ofString "/claim/cut.py") 532, Value.int 241 0, Value.int 1 0, Value.int 0 0, Value.int 0 0, Value.int 3 0, Value.ref 247, Value.bool true, Value.int 181 0, Value.ref 248, Value.none, Value.none, Value.none, Value.ref 249, Value.int 533 0, Value.int 241 0, Value.str (Str.ofString "/claim/cut.py") 534] }
noncomputable def ob251 (_ : Params) : Obj := lit3 (tA 32) (fun b a s => { cls := Value.type "function", data := Data.func { name := Str.ofString "_law_kept", qualname := Str.ofString "_law_kept", params := a, body := FuncBody.stmts b, scope := s, globals := 3, closure := [], defaults := Value.none, kwdefaults := Value.none, pyModule := Value.str (Str.ofString "law_il0068_01") 474, code := Value.ref 250 } }) _ _ _ (by conv => lhs; whnf) (by conv => lhs; whnf) (by conv => lhs; whnf)
noncomputable def ob252 (_ : Params) : Obj := { cls := Value.type "tuple", data := Data.seq #[] }
noncomputable def ob253 (_ : Params) : Obj := { cls := Value.none, data := Data.fields #[] }
noncomputable def ob254 (_ : Params) : Obj := lit3 (tA 33) (fun b a s => { cls := Value.none, data := Data.func { name := Str.ofString "_law_told", qualname := Str.ofString "_law_told", params := a, body := FuncBody.stmts b, scope := s, globals := 0, closure := [], defaults := Value.none, kwdefaults := Value.none } }) _ _ _ (by conv => lhs; whnf) (by conv => lhs; whnf) (by conv => lhs; whnf)
noncomputable def ob255 (_ : Params) : Obj := { cls := Value.type "code", data := Data.fields #[Value.str (Str.ofString "_law_told") 536, Value.str (Str.ofString "_law_told") 537, Value.str (Str.ofString "/claim/cut.py") 538, Value.int 251 0, Value.int 1 0, Value.int 0 0, Value.int 0 0, Value.int 3 0, Value.ref 252, Value.bool true, Value.int 181 0, Value.ref 253, Value.none, Value.none, Value.none, Value.ref 254, Value.int 539 0, Value.int 251 0, Value.str (Str.ofString "/claim/cut.py") 540] }
noncomputable def ob256 (_ : Params) : Obj := lit3 (tA 33) (fun b a s => { cls := Value.type "function", data := Data.func { name := Str.ofString "_law_told", qualname := Str.ofString "_law_told", params := a, body := FuncBody.stmts b, scope := s, globals := 3, closure := [], defaults := Value.none, kwdefaults := Value.none, pyModule := Value.str (Str.ofString "law_il0068_01") 474, code := Value.ref 255 } }) _ _ _ (by conv => lhs; whnf) (by conv => lhs; whnf) (by conv => lhs; whnf)
noncomputable def ob257 (_ : Params) : Obj := { cls := Value.type "tuple", data := Data.seq #[] }
noncomputable def ob258 (_ : Params) : Obj := { cls := Value.none, data := Data.fields #[] }
noncomputable def ob259 (_ : Params) : Obj := lit3 (tA 34) (fun b a s => { cls := Value.none, data := Data.func { name := Str.ofString "law", qualname := Str.ofString "law", params := a, body := FuncBody.stmts b, scope := s, globals := 0, closure := [], defaults := Value.none, kwdefaults := Value.none } }) _ _ _ (by conv => lhs; whnf) (by conv => lhs; whnf) (by conv => lhs; whnf)
noncomputable def ob260 (_ : Params) : Obj := { cls := Value.type "code", data := Data.fields #[Value.str (Str.ofString "law") 542, Value.str (Str.ofString "law") 543, Value.str (Str.ofString "/claim/cut.py") 544, Value.int 265 0, Value.int 1 0, Value.int 0 0, Value.int 0 0, Value.int 3 0, Value.ref 257, Value.bool true, Value.int 181 0, Value.ref 258, Value.none, Value.none, Value.none, Value.ref 259, Value.int 545 0, Value.int 265 0, Value.str (Str.ofString "/claim/cut.py") 546] }
noncomputable def ob261 (_ : Params) : Obj := lit3 (tA 34) (fun b a s => { cls := Value.type "function", data := Data.func { name := Str.ofString "law", qualname := Str.ofString "law", params := a, body := FuncBody.stmts b, scope := s, globals := 3, closure := [], defaults := Value.none, kwdefaults := Value.none, pyModule := Value.str (Str.ofString "law_il0068_01") 474, code := Value.ref 260 } }) _ _ _ (by conv => lhs; whnf) (by conv => lhs; whnf) (by conv => lhs; whnf)
noncomputable def ox44 (_ : Params) : Obj := { cls := Value.none, data := Data.fields #[] }
noncomputable def ox49 (P : Params) : Obj := { cls := Value.type "dict", data := Data.dict #[{ hash := PyData.keyHash P (Str.ofString "__name__"), key := Value.str (Str.ofString "__name__") 165, val := Value.str (Str.ofString "cpy313.urllib.robotparser") 194 }, { hash := PyData.keyHash P (Str.ofString "__doc__"), key := Value.str (Str.ofString "__doc__") 166, val := Value.none }, { hash := PyData.keyHash P (Str.ofString "__package__"), key := Value.str (Str.ofString "__package__") 167, val := Value.none }, { hash := PyData.keyHash P (Str.ofString "__loader__"), key := Value.str (Str.ofString "__loader__") 168, val := Value.builtin "__main__.__loader__#opaque" }, { hash := PyData.keyHash P (Str.ofString "__spec__"), key := Value.str (Str.ofString "__spec__") 169, val := Value.none }, { hash := PyData.keyHash P (Str.ofString "__annotations__"), key := Value.str (Str.ofString "__annotations__") 170, val := Value.ref 6 }, { hash := PyData.keyHash P (Str.ofString "__builtins__"), key := Value.str (Str.ofString "__builtins__") 171, val := Value.ref 4 }, { hash := PyData.keyHash P (Str.ofString "__file__"), key := Value.str (Str.ofString "__file__") 173, val := Value.str (Str.ofString "/claim/cut.py") 172 }, { hash := PyData.keyHash P (Str.ofString "__cached__"), key := Value.str (Str.ofString "__cached__") 174, val := Value.none }, { hash := PyData.keyHash P (Str.ofString "_wall"), key := Value.str (Str.ofString "_wall") 193, val := Value.ref 21 }, { hash := PyData.keyHash P (Str.ofString "Entry"), key := Value.str (Str.ofString "Entry") 257, val := Value.ref 59 }, { hash := PyData.keyHash P (Str.ofString "merge_entries"), key := Value.str (Str.ofString "merge_entries") 266, val := Value.ref 70 }] 12 }
noncomputable def ox50 (_ : Params) : Obj := { cls := Value.none, data := Data.fields #[Value.int 1 0, Value.int 0 0, Value.ref 20, Value.int 5 0, Value.int 0 0, Value.ref 27, Value.int 53 0, Value.int 0 0, Value.ref 69] }
noncomputable def ox107 (P : Params) : Obj := { cls := Value.type "dict", data := Data.dict #[{ hash := PyData.keyHash P (Str.ofString "__name__"), key := Value.str (Str.ofString "__name__") 165, val := Value.str (Str.ofString "abc") 323 }, { hash := PyData.keyHash P (Str.ofString "__doc__"), key := Value.str (Str.ofString "__doc__") 166, val := Value.none }, { hash := PyData.keyHash P (Str.ofString "__package__"), key := Value.str (Str.ofString "__package__") 167, val := Value.none }, { hash := PyData.keyHash P (Str.ofString "__loader__"), key := Value.str (Str.ofString "__loader__") 168, val := Value.builtin "__main__.__loader__#opaque" }, { hash := PyData.keyHash P (Str.ofString "__spec__"), key := Value.str (Str.ofString "__spec__") 169, val := Value.none }, { hash := PyData.keyHash P (Str.ofString "__annotations__"), key := Value.str (Str.ofString "__annotations__") 170, val := Value.ref 6 }, { hash := PyData.keyHash P (Str.ofString "__builtins__"), key := Value.str (Str.ofString "__builtins__") 171, val := Value.ref 4 }, { hash := PyData.keyHash P (Str.ofString "__file__"), key := Value.str (Str.ofString "__file__") 173, val := Value.str (Str.ofString "/claim/cut.py") 172 }, { hash := PyData.keyHash P (Str.ofString "__cached__"), key := Value.str (Str.ofString "__cached__") 174, val := Value.none }, { hash := PyData.keyHash P (Str.ofString "_wall"), key := Value.str (Str.ofString "_wall") 193, val := Value.ref 21 }, { hash := PyData.keyHash P (Str.ofString "Entry"), key := Value.str (Str.ofString "Entry") 257, val := Value.ref 59 }, { hash := PyData.keyHash P (Str.ofString "merge_entries"), key := Value.str (Str.ofString "merge_entries") 266, val := Value.ref 70 }, { hash := PyData.keyHash P (Str.ofString "heappop"), key := Value.str (Str.ofString "heappop") 277, val := Value.ref 77 }, { hash := PyData.keyHash P (Str.ofString "heapify"), key := Value.str (Str.ofString "heapify") 286, val := Value.ref 84 }, { hash := PyData.keyHash P (Str.ofString "_siftdown"), key := Value.str (Str.ofString "_siftdown") 298, val := Value.ref 91 }, { hash := PyData.keyHash P (Str.ofString "_siftup"), key := Value.str (Str.ofString "_siftup") 311, val := Value.ref 98 }, { hash := PyData.keyHash P (Str.ofString "_plain_name"), key := Value.str (Str.ofString "_plain_name") 322, val := Value.ref 105 }, { hash := PyData.keyHash P (Str.ofString "ABCMeta"), key := Value.str (Str.ofString "ABCMeta") 348, val := Value.ref 122 }] 18 }
noncomputable def ox108 (_ : Params) : Obj := { cls := Value.none, data := Data.fields #[Value.int 1 0, Value.int 0 0, Value.ref 20, Value.int 5 0, Value.int 0 0, Value.ref 27, Value.int 53 0, Value.int 0 0, Value.ref 69, Value.int 61 0, Value.int 0 0, Value.ref 76, Value.int 69 0, Value.int 0 0, Value.ref 83, Value.int 73 0, Value.int 0 0, Value.ref 90, Value.int 84 0, Value.int 0 0, Value.ref 97, Value.int 99 0, Value.int 0 0, Value.ref 104, Value.int 105 0, Value.int 0 0, Value.ref 111] }
noncomputable def ox160 (_ : Params) : Obj := { cls := Value.type "type", data := Data.cls { name := Str.ofString "ABCMeta", bases := [Value.type "type"], mro := [Value.ref 122, Value.type "type", Value.type "object"], ns := 121, qualname := Str.ofString "ABCMeta" }, slots := #[some (Value.ref 106), none, some (Value.str (Str.ofString "ABCMeta") 325), some (Value.str (Str.ofString "ABCMeta") 333), some (Value.builtin "type.__new__"), some (Value.bool true)] }
noncomputable def ox163 (P : Params) : Obj := { cls := Value.type "dict", data := Data.dict #[{ hash := PyData.keyHash P (Str.ofString "__name__"), key := Value.str (Str.ofString "__name__") 165, val := Value.str (Str.ofString "cpy313.genericpath") 411 }, { hash := PyData.keyHash P (Str.ofString "__doc__"), key := Value.str (Str.ofString "__doc__") 166, val := Value.none }, { hash := PyData.keyHash P (Str.ofString "__package__"), key := Value.str (Str.ofString "__package__") 167, val := Value.none }, { hash := PyData.keyHash P (Str.ofString "__loader__"), key := Value.str (Str.ofString "__loader__") 168, val := Value.builtin "__main__.__loader__#opaque" }, { hash := PyData.keyHash P (Str.ofString "__spec__"), key := Value.str (Str.ofString "__spec__") 169, val := Value.none }, { hash := PyData.keyHash P (Str.ofString "__annotations__"), key := Value.str (Str.ofString "__annotations__") 170, val := Value.ref 6 }, { hash := PyData.keyHash P (Str.ofString "__builtins__"), key := Value.str (Str.ofString "__builtins__") 171, val := Value.ref 4 }, { hash := PyData.keyHash P (Str.ofString "__file__"), key := Value.str (Str.ofString "__file__") 173, val := Value.str (Str.ofString "/claim/cut.py") 172 }, { hash := PyData.keyHash P (Str.ofString "__cached__"), key := Value.str (Str.ofString "__cached__") 174, val := Value.none }, { hash := PyData.keyHash P (Str.ofString "_wall"), key := Value.str (Str.ofString "_wall") 193, val := Value.ref 21 }, { hash := PyData.keyHash P (Str.ofString "Entry"), key := Value.str (Str.ofString "Entry") 257, val := Value.ref 59 }, { hash := PyData.keyHash P (Str.ofString "merge_entries"), key := Value.str (Str.ofString "merge_entries") 266, val := Value.ref 70 }, { hash := PyData.keyHash P (Str.ofString "heappop"), key := Value.str (Str.ofString "heappop") 277, val := Value.ref 77 }, { hash := PyData.keyHash P (Str.ofString "heapify"), key := Value.str (Str.ofString "heapify") 286, val := Value.ref 84 }, { hash := PyData.keyHash P (Str.ofString "_siftdown"), key := Value.str (Str.ofString "_siftdown") 298, val := Value.ref 91 }, { hash := PyData.keyHash P (Str.ofString "_siftup"), key := Value.str (Str.ofString "_siftup") 311, val := Value.ref 98 }, { hash := PyData.keyHash P (Str.ofString "_plain_name"), key := Value.str (Str.ofString "_plain_name") 322, val := Value.ref 105 }, { hash := PyData.keyHash P (Str.ofString "ABCMeta"), key := Value.str (Str.ofString "ABCMeta") 348, val := Value.ref 122 }, { hash := PyData.keyHash P (Str.ofString "_ABCLike"), key := Value.str (Str.ofString "_ABCLike") 391, val := Value.ref 155 }, { hash := PyData.keyHash P (Str.ofString "_abc_plain_meta"), key := Value.str (Str.ofString "_abc_plain_meta") 398, val := Value.ref 164 }, { hash := PyData.keyHash P (Str.ofString "fspath"), key := Value.str (Str.ofString "fspath") 410, val := Value.ref 171 }] 21 }
noncomputable def ox164 (_ : Params) : Obj := { cls := Value.none, data := Data.fields #[Value.int 1 0, Value.int 0 0, Value.ref 20, Value.int 5 0, Value.int 0 0, Value.ref 27, Value.int 53 0, Value.int 0 0, Value.ref 69, Value.int 61 0, Value.int 0 0, Value.ref 76, Value.int 69 0, Value.int 0 0, Value.ref 83, Value.int 73 0, Value.int 0 0, Value.ref 90, Value.int 84 0, Value.int 0 0, Value.ref 97, Value.int 99 0, Value.int 0 0, Value.ref 104, Value.int 105 0, Value.int 0 0, Value.ref 111, Value.int 110 0, Value.int 0 0, Value.ref 130, Value.int 125 0, Value.int 0 0, Value.ref 163, Value.int 129 0, Value.int 0 0, Value.ref 170] }
noncomputable def ox213 (P : Params) : Obj := { cls := Value.type "dict", data := Data.dict #[{ hash := PyData.keyHash P (Str.ofString "__name__"), key := Value.str (Str.ofString "__name__") 165, val := Value.str (Str.ofString "law_il0068_01") 474 }, { hash := PyData.keyHash P (Str.ofString "__doc__"), key := Value.str (Str.ofString "__doc__") 166, val := Value.none }, { hash := PyData.keyHash P (Str.ofString "__package__"), key := Value.str (Str.ofString "__package__") 167, val := Value.none }, { hash := PyData.keyHash P (Str.ofString "__loader__"), key := Value.str (Str.ofString "__loader__") 168, val := Value.builtin "__main__.__loader__#opaque" }, { hash := PyData.keyHash P (Str.ofString "__spec__"), key := Value.str (Str.ofString "__spec__") 169, val := Value.none }, { hash := PyData.keyHash P (Str.ofString "__annotations__"), key := Value.str (Str.ofString "__annotations__") 170, val := Value.ref 6 }, { hash := PyData.keyHash P (Str.ofString "__builtins__"), key := Value.str (Str.ofString "__builtins__") 171, val := Value.ref 4 }, { hash := PyData.keyHash P (Str.ofString "__file__"), key := Value.str (Str.ofString "__file__") 173, val := Value.str (Str.ofString "/claim/cut.py") 172 }, { hash := PyData.keyHash P (Str.ofString "__cached__"), key := Value.str (Str.ofString "__cached__") 174, val := Value.none }, { hash := PyData.keyHash P (Str.ofString "_wall"), key := Value.str (Str.ofString "_wall") 193, val := Value.ref 21 }, { hash := PyData.keyHash P (Str.ofString "Entry"), key := Value.str (Str.ofString "Entry") 257, val := Value.ref 59 }, { hash := PyData.keyHash P (Str.ofString "merge_entries"), key := Value.str (Str.ofString "merge_entries") 266, val := Value.ref 70 }, { hash := PyData.keyHash P (Str.ofString "heappop"), key := Value.str (Str.ofString "heappop") 277, val := Value.ref 77 }, { hash := PyData.keyHash P (Str.ofString "heapify"), key := Value.str (Str.ofString "heapify") 286, val := Value.ref 84 }, { hash := PyData.keyHash P (Str.ofString "_siftdown"), key := Value.str (Str.ofString "_siftdown") 298, val := Value.ref 91 }, { hash := PyData.keyHash P (Str.ofString "_siftup"), key := Value.str (Str.ofString "_siftup") 311, val := Value.ref 98 }, { hash := PyData.keyHash P (Str.ofString "_plain_name"), key := Value.str (Str.ofString "_plain_name") 322, val := Value.ref 105 }, { hash := PyData.keyHash P (Str.ofString "ABCMeta"), key := Value.str (Str.ofString "ABCMeta") 348, val := Value.ref 122 }, { hash := PyData.keyHash P (Str.ofString "_ABCLike"), key := Value.str (Str.ofString "_ABCLike") 391, val := Value.ref 155 }, { hash := PyData.keyHash P (Str.ofString "_abc_plain_meta"), key := Value.str (Str.ofString "_abc_plain_meta") 398, val := Value.ref 164 }, { hash := PyData.keyHash P (Str.ofString "fspath"), key := Value.str (Str.ofString "fspath") 410, val := Value.ref 171 }, { hash := PyData.keyHash P (Str.ofString "_check_arg_types"), key := Value.str (Str.ofString "_check_arg_types") 423, val := Value.ref 178 }, { hash := PyData.keyHash P (Str.ofString "_get_sep"), key := Value.str (Str.ofString "_get_sep") 432, val := Value.ref 185 }, { hash := PyData.keyHash P (Str.ofString "join"), key := Value.str (Str.ofString "join") 443, val := Value.ref 192 }, { hash := PyData.keyHash P (Str.ofString "split"), key := Value.str (Str.ofString "split") 454, val := Value.ref 199 }, { hash := PyData.keyHash P (Str.ofString "basename"), key := Value.str (Str.ofString "basename") 463, val := Value.ref 206 }, { hash := PyData.keyHash P (Str.ofString "dirname"), key := Value.str (Str.ofString "dirname") 473, val := Value.ref 213 }, { hash := PyData.keyHash P (Str.ofString "_law_roads"), key := Value.str (Str.ofString "_law_roads") 487, val := Value.ref 220 }, { hash := PyData.keyHash P (Str.ofString "_law_ends"), key := Value.str (Str.ofString "_law_ends") 496, val := Value.ref 227 }, { hash := PyData.keyHash P (Str.ofString "_law_rule"), key := Value.str (Str.ofString "_law_rule") 510, val := Value.ref 234 }, { hash := PyData.keyHash P (Str.ofString "_law_books"), key := Value.str (Str.ofString "_law_books") 523, val := Value.ref 241 }, { hash := PyData.keyHash P (Str.ofString "_law_joined"), key := Value.str (Str.ofString "_law_joined") 529, val := Value.ref 246 }, { hash := PyData.keyHash P (Str.ofString "_law_kept"), key := Value.str (Str.ofString "_law_kept") 535, val := Value.ref 251 }] 33 }
noncomputable def ox214 (_ : Params) : Obj := { cls := Value.none, data := Data.fields #[Value.int 1 0, Value.int 0 0, Value.ref 20, Value.int 5 0, Value.int 0 0, Value.ref 27, Value.int 53 0, Value.int 0 0, Value.ref 69, Value.int 61 0, Value.int 0 0, Value.ref 76, Value.int 69 0, Value.int 0 0, Value.ref 83, Value.int 73 0, Value.int 0 0, Value.ref 90, Value.int 84 0, Value.int 0 0, Value.ref 97, Value.int 99 0, Value.int 0 0, Value.ref 104, Value.int 105 0, Value.int 0 0, Value.ref 111, Value.int 110 0, Value.int 0 0, Value.ref 130, Value.int 125 0, Value.int 0 0, Value.ref 163, Value.int 129 0, Value.int 0 0, Value.ref 170, Value.int 146 0, Value.int 0 0, Value.ref 177, Value.int 158 0, Value.int 0 0, Value.ref 184, Value.int 163 0, Value.int 0 0, Value.ref 191, Value.int 180 0, Value.int 0 0, Value.ref 198, Value.int 188 0, Value.int 0 0, Value.ref 205, Value.int 193 0, Value.int 0 0, Value.ref 212, Value.int 202 0, Value.int 0 0, Value.ref 219, Value.int 208 0, Value.int 0 0, Value.ref 226, Value.int 211 0, Value.int 0 0, Value.ref 233, Value.int 217 0, Value.int 0 0, Value.ref 240, Value.int 228 0, Value.int 0 0, Value.ref 245, Value.int 241 0, Value.int 0 0, Value.ref 250] }
noncomputable def hd.heap_39 (P : Params) : Frag :=
  (nat_lit 2, boot_o_2 P) :: (nat_lit 3, ob3 P) :: (nat_lit 15, ob15 P) :: (nat_lit 17, ob17 P) :: (nat_lit 18, ob18 P) :: (nat_lit 29, ob29 P) :: (nat_lit 31, ob31 P) :: (nat_lit 32, ob32 P) :: (nat_lit 34, ob34 P) :: (nat_lit 35, ob35 P) :: (nat_lit 36, ob36 P) :: (nat_lit 38, ob38 P) :: (nat_lit 39, ob39 P) :: (nat_lit 43, ob43 P) :: (nat_lit 45, ob45 P) :: (nat_lit 46, ob46 P) :: (nat_lit 48, ob48 P) :: (nat_lit 49, ob49 P) :: (nat_lit 50, ob50 P) :: (nat_lit 52, ob52 P) :: (nat_lit 53, ob53 P) :: (nat_lit 55, ob55 P) :: (nat_lit 56, ob56 P) :: (nat_lit 57, ob57 P) :: (nat_lit 58, ob58 P) :: (nat_lit 59, ob59 P) :: (nat_lit 60, ob60 P) :: (nat_lit 61, ob61 P) :: (nat_lit 64, ob64 P) :: (nat_lit 66, ob66 P) :: (nat_lit 67, ob67 P) :: (nat_lit 69, ob69 P) :: (nat_lit 70, ob70 P) :: (nat_lit 71, ob71 P) :: (nat_lit 73, ob73 P) :: (nat_lit 74, ob74 P) :: (nat_lit 76, ob76 P) :: (nat_lit 77, ob77 P) :: (nat_lit 78, ob78 P) :: (nat_lit 80, ob80 P) :: (nat_lit 81, ob81 P) :: (nat_lit 83, ob83 P) :: (nat_lit 84, ob84 P) :: (nat_lit 85, ob85 P) :: (nat_lit 87, ob87 P) :: (nat_lit 88, ob88 P) :: (nat_lit 90, ob90 P) :: (nat_lit 91, ob91 P) :: (nat_lit 92, ob92 P) :: (nat_lit 94, ob94 P) :: (nat_lit 95, ob95 P) :: (nat_lit 97, ob97 P) :: (nat_lit 98, ob98 P) :: (nat_lit 165, ob165 P) :: (nat_lit 167, ob167 P) :: (nat_lit 168, ob168 P) :: (nat_lit 170, ob170 P) :: (nat_lit 171, ob171 P) :: (nat_lit 179, ob179 P) :: (nat_lit 181, ob181 P) :: (nat_lit 182, ob182 P) :: (nat_lit 184, ob184 P) :: (nat_lit 185, ob185 P) :: (nat_lit 186, ob186 P) :: (nat_lit 188, ob188 P) :: (nat_lit 189, ob189 P) :: (nat_lit 191, ob191 P) :: (nat_lit 192, ob192 P) :: (nat_lit 193, ob193 P) :: (nat_lit 195, ob195 P) :: (nat_lit 196, ob196 P) :: (nat_lit 198, ob198 P) :: (nat_lit 199, ob199 P) :: (nat_lit 200, ob200 P) :: (nat_lit 202, ob202 P) :: (nat_lit 203, ob203 P) :: (nat_lit 205, ob205 P) :: (nat_lit 206, ob206 P) :: (nat_lit 207, ob207 P) :: (nat_lit 209, ob209 P) :: (nat_lit 210, ob210 P) :: (nat_lit 212, ob212 P) :: (nat_lit 213, ob213 P) :: (nat_lit 214, ob214 P) :: (nat_lit 216, ob216 P) :: (nat_lit 217, ob217 P) :: (nat_lit 219, ob219 P) :: (nat_lit 220, ob220 P) :: (nat_lit 221, ob221 P) :: (nat_lit 223, ob223 P) :: (nat_lit 224, ob224 P) :: (nat_lit 226, ob226 P) :: (nat_lit 227, ob227 P) :: (nat_lit 228, ob228 P) :: (nat_lit 230, ob230 P) :: (nat_lit 231, ob231 P) :: (nat_lit 233, ob233 P) :: (nat_lit 234, ob234 P) :: (nat_lit 235, ob235 P) :: (nat_lit 237, ob237 P) :: (nat_lit 238, ob238 P) :: (nat_lit 240, ob240 P) :: (nat_lit 241, ob241 P) :: (nat_lit 242, ob242 P) :: (nat_lit 245, ob245 P) :: (nat_lit 246, ob246 P) :: (nat_lit 247, ob247 P) :: (nat_lit 250, ob250 P) :: (nat_lit 251, ob251 P) :: (nat_lit 252, ob252 P) :: (nat_lit 255, ob255 P) :: (nat_lit 256, ob256 P) :: (nat_lit 257, ob257 P) :: (nat_lit 260, ob260 P) :: (nat_lit 261, ob261 P) :: []
noncomputable def as39 : List Addr := [2, 3, 15, 17, 18, 29, 31, 32, 34, 35, 36, 38, 39, 43, 45, 46, 48, 49, 50, 52, 53, 55, 56, 57, 58, 59, 60, 61, 64, 66, 67, 69, 70, 71, 73, 74, 76, 77, 78, 80, 81, 83, 84, 85, 87, 88, 90, 91, 92, 94, 95, 97, 98, 165, 167, 168, 170, 171, 179, 181, 182, 184, 185, 186, 188, 189, 191, 192, 193, 195, 196, 198, 199, 200, 202, 203, 205, 206, 207, 209, 210, 212, 213, 214, 216, 217, 219, 220, 221, 223, 224, 226, 227, 228, 230, 231, 233, 234, 235, 237, 238, 240, 241, 242, 245, 246, 247, 250, 251, 252, 255, 256, 257, 260, 261]
noncomputable def finH (P : Params) : Heap := Heap.mk (Array.mk (boot_o_0 P :: boot_o_1 P :: boot_o_2 P :: ob3 P :: boot_o_4 P :: boot_o_5 P :: boot_o_6 P :: boot_o_7 P :: boot_o_8 P :: boot_o_9 P :: boot_o_10 P :: ob11 P :: ob12 P :: ob13 P :: ob14 P :: ob15 P :: ob16 P :: ob17 P :: ob18 P :: ob19 P :: ob20 P :: ob21 P :: ob22 P :: ob23 P :: ob24 P :: ob25 P :: ob26 P :: ob27 P :: ob28 P :: ob29 P :: ob30 P :: ob31 P :: ob32 P :: ob33 P :: ob34 P :: ob35 P :: ob36 P :: ob37 P :: ob38 P :: ob39 P :: ob40 P :: ob41 P :: ob42 P :: ob43 P :: ob44 P :: ob45 P :: ob46 P :: ob47 P :: ob48 P :: ob49 P :: ob50 P :: ob51 P :: ob52 P :: ob53 P :: ob54 P :: ob55 P :: ob56 P :: ob57 P :: ob58 P :: ob59 P :: ob60 P :: ob61 P :: ob62 P :: ob63 P :: ob64 P :: ob65 P :: ob66 P :: ob67 P :: ob68 P :: ob69 P :: ob70 P :: ob71 P :: ob72 P :: ob73 P :: ob74 P :: ob75 P :: ob76 P :: ob77 P :: ob78 P :: ob79 P :: ob80 P :: ob81 P :: ob82 P :: ob83 P :: ob84 P :: ob85 P :: ob86 P :: ob87 P :: ob88 P :: ob89 P :: ob90 P :: ob91 P :: ob92 P :: ob93 P :: ob94 P :: ob95 P :: ob96 P :: ob97 P :: ob98 P :: ob99 P :: ob100 P :: ob101 P :: ob102 P :: ob103 P :: ob104 P :: ob105 P :: ob106 P :: ob107 P :: ob108 P :: ob109 P :: ob110 P :: ob111 P :: ob112 P :: ob113 P :: ob114 P :: ob115 P :: ob116 P :: ob117 P :: ob118 P :: ob119 P :: ob120 P :: ob121 P :: ob122 P :: ob123 P :: ob124 P :: ob125 P :: ob126 P :: ob127 P :: ob128 P :: ob129 P :: ob130 P :: ob131 P :: ob132 P :: ob133 P :: ob134 P :: ob135 P :: ob136 P :: ob137 P :: ob138 P :: ob139 P :: ob140 P :: ob141 P :: ob142 P :: ob143 P :: ob144 P :: ob145 P :: ob146 P :: ob147 P :: ob148 P :: ob149 P :: ob150 P :: ob151 P :: ob152 P :: ob153 P :: ob154 P :: ob155 P :: ob156 P :: ob157 P :: ob158 P :: ob159 P :: ob160 P :: ob161 P :: ob162 P :: ob163 P :: ob164 P :: ob165 P :: ob166 P :: ob167 P :: ob168 P :: ob169 P :: ob170 P :: ob171 P :: ob172 P :: ob173 P :: ob174 P :: ob175 P :: ob176 P :: ob177 P :: ob178 P :: ob179 P :: ob180 P :: ob181 P :: ob182 P :: ob183 P :: ob184 P :: ob185 P :: ob186 P :: ob187 P :: ob188 P :: ob189 P :: ob190 P :: ob191 P :: ob192 P :: ob193 P :: ob194 P :: ob195 P :: ob196 P :: ob197 P :: ob198 P :: ob199 P :: ob200 P :: ob201 P :: ob202 P :: ob203 P :: ob204 P :: ob205 P :: ob206 P :: ob207 P :: ob208 P :: ob209 P :: ob210 P :: ob211 P :: ob212 P :: ob213 P :: ob214 P :: ob215 P :: ob216 P :: ob217 P :: ob218 P :: ob219 P :: ob220 P :: ob221 P :: ob222 P :: ob223 P :: ob224 P :: ob225 P :: ob226 P :: ob227 P :: ob228 P :: ob229 P :: ob230 P :: ob231 P :: ob232 P :: ob233 P :: ob234 P :: ob235 P :: ob236 P :: ob237 P :: ob238 P :: ob239 P :: ob240 P :: ob241 P :: ob242 P :: ob243 P :: ob244 P :: ob245 P :: ob246 P :: ob247 P :: ob248 P :: ob249 P :: ob250 P :: ob251 P :: ob252 P :: ob253 P :: ob254 P :: ob255 P :: ob256 P :: ob257 P :: ob258 P :: ob259 P :: ob260 P :: ob261 P :: [])) {}
noncomputable def tr0 (P : Params) : BT := BT.node (boot_o_0 P) (BT.node (boot_o_1 P) (BT.node (boot_o_3 P) (BT.node (boot_o_7 P) (BT.nil) (BT.nil)) (BT.node (ob11 P) (BT.nil) (BT.nil))) (BT.node (boot_o_5 P) (BT.node (boot_o_9 P) (BT.nil) (BT.nil)) (BT.node (ob13 P) (BT.nil) (BT.nil)))) (BT.node (boot_o_2 P) (BT.node (boot_o_4 P) (BT.node (boot_o_8 P) (BT.nil) (BT.nil)) (BT.node (ox44 P) (BT.nil) (BT.nil))) (BT.node (boot_o_6 P) (BT.node (boot_o_10 P) (BT.nil) (BT.nil)) (BT.node (ob14 P) (BT.nil) (BT.nil))))
noncomputable def tr1 (P : Params) : BT := BT.node (boot_o_0 P) (BT.node (boot_o_1 P) (BT.node (ox49 P) (BT.node (boot_o_7 P) (BT.node (ob15 P) (BT.node (ob31 P) (BT.node (ob63 P) (BT.nil) (BT.nil)) (BT.nil)) (BT.node (ob47 P) (BT.nil) (BT.nil))) (BT.node (ob23 P) (BT.node (ob39 P) (BT.nil) (BT.nil)) (BT.node (ob55 P) (BT.nil) (BT.nil)))) (BT.node (ob11 P) (BT.node (ob19 P) (BT.node (ob35 P) (BT.node (ob67 P) (BT.nil) (BT.nil)) (BT.nil)) (BT.node (ob51 P) (BT.nil) (BT.nil))) (BT.node (ob27 P) (BT.node (ob43 P) (BT.nil) (BT.nil)) (BT.node (ob59 P) (BT.nil) (BT.nil))))) (BT.node (boot_o_5 P) (BT.node (boot_o_9 P) (BT.node (ob17 P) (BT.node (ob33 P) (BT.node (ob65 P) (BT.nil) (BT.nil)) (BT.nil)) (BT.node (ob49 P) (BT.nil) (BT.nil))) (BT.node (ob25 P) (BT.node (ob41 P) (BT.nil) (BT.nil)) (BT.node (ob57 P) (BT.nil) (BT.nil)))) (BT.node (ob13 P) (BT.node (ob21 P) (BT.node (ob37 P) (BT.node (ob69 P) (BT.nil) (BT.nil)) (BT.nil)) (BT.node (ob53 P) (BT.nil) (BT.nil))) (BT.node (ob29 P) (BT.node (ob45 P) (BT.nil) (BT.nil)) (BT.node (ob61 P) (BT.nil) (BT.nil)))))) (BT.node (boot_o_2 P) (BT.node (boot_o_4 P) (BT.node (boot_o_8 P) (BT.node (ob16 P) (BT.node (ob32 P) (BT.node (ob64 P) (BT.nil) (BT.nil)) (BT.nil)) (BT.node (ob48 P) (BT.nil) (BT.nil))) (BT.node (ob24 P) (BT.node (ob40 P) (BT.nil) (BT.nil)) (BT.node (ob56 P) (BT.nil) (BT.nil)))) (BT.node (ox50 P) (BT.node (ob20 P) (BT.node (ob36 P) (BT.node (ob68 P) (BT.nil) (BT.nil)) (BT.nil)) (BT.node (ob52 P) (BT.nil) (BT.nil))) (BT.node (ob28 P) (BT.node (ob44 P) (BT.nil) (BT.nil)) (BT.node (ob60 P) (BT.nil) (BT.nil))))) (BT.node (boot_o_6 P) (BT.node (boot_o_10 P) (BT.node (ob18 P) (BT.node (ob34 P) (BT.node (ob66 P) (BT.nil) (BT.nil)) (BT.nil)) (BT.node (ob50 P) (BT.nil) (BT.nil))) (BT.node (ob26 P) (BT.node (ob42 P) (BT.nil) (BT.nil)) (BT.node (ob58 P) (BT.nil) (BT.nil)))) (BT.node (ob14 P) (BT.node (ob22 P) (BT.node (ob38 P) (BT.node (ob70 P) (BT.nil) (BT.nil)) (BT.nil)) (BT.node (ob54 P) (BT.nil) (BT.nil))) (BT.node (ob30 P) (BT.node (ob46 P) (BT.nil) (BT.nil)) (BT.node (ob62 P) (BT.nil) (BT.nil))))))
noncomputable def tr2 (P : Params) : BT := BT.node (boot_o_0 P) (BT.node (boot_o_1 P) (BT.node (ox107 P) (BT.node (boot_o_7 P) (BT.node (ob15 P) (BT.node (ob31 P) (BT.node (ob63 P) (BT.nil) (BT.nil)) (BT.node (ob95 P) (BT.nil) (BT.nil))) (BT.node (ob47 P) (BT.node (ob79 P) (BT.nil) (BT.nil)) (BT.node (ob111 P) (BT.nil) (BT.nil)))) (BT.node (ob23 P) (BT.node (ob39 P) (BT.node (ob71 P) (BT.nil) (BT.nil)) (BT.node (ob103 P) (BT.nil) (BT.nil))) (BT.node (ob55 P) (BT.node (ob87 P) (BT.nil) (BT.nil)) (BT.node (ob119 P) (BT.nil) (BT.nil))))) (BT.node (ob11 P) (BT.node (ob19 P) (BT.node (ob35 P) (BT.node (ob67 P) (BT.nil) (BT.nil)) (BT.node (ob99 P) (BT.nil) (BT.nil))) (BT.node (ob51 P) (BT.node (ob83 P) (BT.nil) (BT.nil)) (BT.node (ob115 P) (BT.nil) (BT.nil)))) (BT.node (ob27 P) (BT.node (ob43 P) (BT.node (ob75 P) (BT.nil) (BT.nil)) (BT.node (ob107 P) (BT.nil) (BT.nil))) (BT.node (ob59 P) (BT.node (ob91 P) (BT.nil) (BT.nil)) (BT.node (ob123 P) (BT.nil) (BT.nil)))))) (BT.node (boot_o_5 P) (BT.node (boot_o_9 P) (BT.node (ob17 P) (BT.node (ob33 P) (BT.node (ob65 P) (BT.nil) (BT.nil)) (BT.node (ob97 P) (BT.nil) (BT.nil))) (BT.node (ob49 P) (BT.node (ob81 P) (BT.nil) (BT.nil)) (BT.node (ob113 P) (BT.nil) (BT.nil)))) (BT.node (ob25 P) (BT.node (ob41 P) (BT.node (ob73 P) (BT.nil) (BT.nil)) (BT.node (ob105 P) (BT.nil) (BT.nil))) (BT.node (ob57 P) (BT.node (ob89 P) (BT.nil) (BT.nil)) (BT.node (ob121 P) (BT.nil) (BT.nil))))) (BT.node (ob13 P) (BT.node (ob21 P) (BT.node (ob37 P) (BT.node (ob69 P) (BT.nil) (BT.nil)) (BT.node (ob101 P) (BT.nil) (BT.nil))) (BT.node (ob53 P) (BT.node (ob85 P) (BT.nil) (BT.nil)) (BT.node (ob117 P) (BT.nil) (BT.nil)))) (BT.node (ob29 P) (BT.node (ob45 P) (BT.node (ob77 P) (BT.nil) (BT.nil)) (BT.node (ob109 P) (BT.nil) (BT.nil))) (BT.node (ob61 P) (BT.node (ob93 P) (BT.nil) (BT.nil)) (BT.nil)))))) (BT.node (boot_o_2 P) (BT.node (boot_o_4 P) (BT.node (boot_o_8 P) (BT.node (ob16 P) (BT.node (ob32 P) (BT.node (ob64 P) (BT.nil) (BT.nil)) (BT.node (ob96 P) (BT.nil) (BT.nil))) (BT.node (ob48 P) (BT.node (ob80 P) (BT.nil) (BT.nil)) (BT.node (ob112 P) (BT.nil) (BT.nil)))) (BT.node (ob24 P) (BT.node (ob40 P) (BT.node (ob72 P) (BT.nil) (BT.nil)) (BT.node (ob104 P) (BT.nil) (BT.nil))) (BT.node (ob56 P) (BT.node (ob88 P) (BT.nil) (BT.nil)) (BT.node (ob120 P) (BT.nil) (BT.nil))))) (BT.node (ox108 P) (BT.node (ob20 P) (BT.node (ob36 P) (BT.node (ob68 P) (BT.nil) (BT.nil)) (BT.node (ob100 P) (BT.nil) (BT.nil))) (BT.node (ob52 P) (BT.node (ob84 P) (BT.nil) (BT.nil)) (BT.node (ob116 P) (BT.nil) (BT.nil)))) (BT.node (ob28 P) (BT.node (ob44 P) (BT.node (ob76 P) (BT.nil) (BT.nil)) (BT.node (ob108 P) (BT.nil) (BT.nil))) (BT.node (ob60 P) (BT.node (ob92 P) (BT.nil) (BT.nil)) (BT.node (ob124 P) (BT.nil) (BT.nil)))))) (BT.node (boot_o_6 P) (BT.node (boot_o_10 P) (BT.node (ob18 P) (BT.node (ob34 P) (BT.node (ob66 P) (BT.nil) (BT.nil)) (BT.node (ob98 P) (BT.nil) (BT.nil))) (BT.node (ob50 P) (BT.node (ob82 P) (BT.nil) (BT.nil)) (BT.node (ob114 P) (BT.nil) (BT.nil)))) (BT.node (ob26 P) (BT.node (ob42 P) (BT.node (ob74 P) (BT.nil) (BT.nil)) (BT.node (ob106 P) (BT.nil) (BT.nil))) (BT.node (ob58 P) (BT.node (ob90 P) (BT.nil) (BT.nil)) (BT.node (ox160 P) (BT.nil) (BT.nil))))) (BT.node (ob14 P) (BT.node (ob22 P) (BT.node (ob38 P) (BT.node (ob70 P) (BT.nil) (BT.nil)) (BT.node (ob102 P) (BT.nil) (BT.nil))) (BT.node (ob54 P) (BT.node (ob86 P) (BT.nil) (BT.nil)) (BT.node (ob118 P) (BT.nil) (BT.nil)))) (BT.node (ob30 P) (BT.node (ob46 P) (BT.node (ob78 P) (BT.nil) (BT.nil)) (BT.node (ob110 P) (BT.nil) (BT.nil))) (BT.node (ob62 P) (BT.node (ob94 P) (BT.nil) (BT.nil)) (BT.nil))))))
noncomputable def tr3 (P : Params) : BT := BT.node (boot_o_0 P) (BT.node (boot_o_1 P) (BT.node (ox163 P) (BT.node (boot_o_7 P) (BT.node (ob15 P) (BT.node (ob31 P) (BT.node (ob63 P) (BT.node (ob127 P) (BT.nil) (BT.nil)) (BT.nil)) (BT.node (ob95 P) (BT.node (ob159 P) (BT.nil) (BT.nil)) (BT.nil))) (BT.node (ob47 P) (BT.node (ob79 P) (BT.node (ob143 P) (BT.nil) (BT.nil)) (BT.nil)) (BT.node (ob111 P) (BT.nil) (BT.nil)))) (BT.node (ob23 P) (BT.node (ob39 P) (BT.node (ob71 P) (BT.node (ob135 P) (BT.nil) (BT.nil)) (BT.nil)) (BT.node (ob103 P) (BT.node (ob167 P) (BT.nil) (BT.nil)) (BT.nil))) (BT.node (ob55 P) (BT.node (ob87 P) (BT.node (ob151 P) (BT.nil) (BT.nil)) (BT.nil)) (BT.node (ob119 P) (BT.nil) (BT.nil))))) (BT.node (ob11 P) (BT.node (ob19 P) (BT.node (ob35 P) (BT.node (ob67 P) (BT.node (ob131 P) (BT.nil) (BT.nil)) (BT.nil)) (BT.node (ob99 P) (BT.node (ob163 P) (BT.nil) (BT.nil)) (BT.nil))) (BT.node (ob51 P) (BT.node (ob83 P) (BT.node (ob147 P) (BT.nil) (BT.nil)) (BT.nil)) (BT.node (ob115 P) (BT.nil) (BT.nil)))) (BT.node (ob27 P) (BT.node (ob43 P) (BT.node (ob75 P) (BT.node (ob139 P) (BT.nil) (BT.nil)) (BT.nil)) (BT.node (ob107 P) (BT.node (ob171 P) (BT.nil) (BT.nil)) (BT.nil))) (BT.node (ob59 P) (BT.node (ob91 P) (BT.node (ob155 P) (BT.nil) (BT.nil)) (BT.nil)) (BT.node (ob123 P) (BT.nil) (BT.nil)))))) (BT.node (boot_o_5 P) (BT.node (boot_o_9 P) (BT.node (ob17 P) (BT.node (ob33 P) (BT.node (ob65 P) (BT.node (ob129 P) (BT.nil) (BT.nil)) (BT.nil)) (BT.node (ob97 P) (BT.node (ob161 P) (BT.nil) (BT.nil)) (BT.nil))) (BT.node (ob49 P) (BT.node (ob81 P) (BT.node (ob145 P) (BT.nil) (BT.nil)) (BT.nil)) (BT.node (ob113 P) (BT.nil) (BT.nil)))) (BT.node (ob25 P) (BT.node (ob41 P) (BT.node (ob73 P) (BT.node (ob137 P) (BT.nil) (BT.nil)) (BT.nil)) (BT.node (ob105 P) (BT.node (ob169 P) (BT.nil) (BT.nil)) (BT.nil))) (BT.node (ob57 P) (BT.node (ob89 P) (BT.node (ob153 P) (BT.nil) (BT.nil)) (BT.nil)) (BT.node (ob121 P) (BT.nil) (BT.nil))))) (BT.node (ob13 P) (BT.node (ob21 P) (BT.node (ob37 P) (BT.node (ob69 P) (BT.node (ob133 P) (BT.nil) (BT.nil)) (BT.nil)) (BT.node (ob101 P) (BT.node (ob165 P) (BT.nil) (BT.nil)) (BT.nil))) (BT.node (ob53 P) (BT.node (ob85 P) (BT.node (ob149 P) (BT.nil) (BT.nil)) (BT.nil)) (BT.node (ob117 P) (BT.nil) (BT.nil)))) (BT.node (ob29 P) (BT.node (ob45 P) (BT.node (ob77 P) (BT.node (ob141 P) (BT.nil) (BT.nil)) (BT.nil)) (BT.node (ob109 P) (BT.nil) (BT.nil))) (BT.node (ob61 P) (BT.node (ob93 P) (BT.node (ob157 P) (BT.nil) (BT.nil)) (BT.nil)) (BT.node (ob125 P) (BT.nil) (BT.nil))))))) (BT.node (boot_o_2 P) (BT.node (boot_o_4 P) (BT.node (boot_o_8 P) (BT.node (ob16 P) (BT.node (ob32 P) (BT.node (ob64 P) (BT.node (ob128 P) (BT.nil) (BT.nil)) (BT.nil)) (BT.node (ob96 P) (BT.node (ob160 P) (BT.nil) (BT.nil)) (BT.nil))) (BT.node (ob48 P) (BT.node (ob80 P) (BT.node (ob144 P) (BT.nil) (BT.nil)) (BT.nil)) (BT.node (ob112 P) (BT.nil) (BT.nil)))) (BT.node (ob24 P) (BT.node (ob40 P) (BT.node (ob72 P) (BT.node (ob136 P) (BT.nil) (BT.nil)) (BT.nil)) (BT.node (ob104 P) (BT.node (ob168 P) (BT.nil) (BT.nil)) (BT.nil))) (BT.node (ob56 P) (BT.node (ob88 P) (BT.node (ob152 P) (BT.nil) (BT.nil)) (BT.nil)) (BT.node (ob120 P) (BT.nil) (BT.nil))))) (BT.node (ox164 P) (BT.node (ob20 P) (BT.node (ob36 P) (BT.node (ob68 P) (BT.node (ob132 P) (BT.nil) (BT.nil)) (BT.nil)) (BT.node (ob100 P) (BT.node (ob164 P) (BT.nil) (BT.nil)) (BT.nil))) (BT.node (ob52 P) (BT.node (ob84 P) (BT.node (ob148 P) (BT.nil) (BT.nil)) (BT.nil)) (BT.node (ob116 P) (BT.nil) (BT.nil)))) (BT.node (ob28 P) (BT.node (ob44 P) (BT.node (ob76 P) (BT.node (ob140 P) (BT.nil) (BT.nil)) (BT.nil)) (BT.node (ob108 P) (BT.nil) (BT.nil))) (BT.node (ob60 P) (BT.node (ob92 P) (BT.node (ob156 P) (BT.nil) (BT.nil)) (BT.nil)) (BT.node (ob124 P) (BT.nil) (BT.nil)))))) (BT.node (boot_o_6 P) (BT.node (boot_o_10 P) (BT.node (ob18 P) (BT.node (ob34 P) (BT.node (ob66 P) (BT.node (ob130 P) (BT.nil) (BT.nil)) (BT.nil)) (BT.node (ob98 P) (BT.node (ob162 P) (BT.nil) (BT.nil)) (BT.nil))) (BT.node (ob50 P) (BT.node (ob82 P) (BT.node (ob146 P) (BT.nil) (BT.nil)) (BT.nil)) (BT.node (ob114 P) (BT.nil) (BT.nil)))) (BT.node (ob26 P) (BT.node (ob42 P) (BT.node (ob74 P) (BT.node (ob138 P) (BT.nil) (BT.nil)) (BT.nil)) (BT.node (ob106 P) (BT.node (ob170 P) (BT.nil) (BT.nil)) (BT.nil))) (BT.node (ob58 P) (BT.node (ob90 P) (BT.node (ob154 P) (BT.nil) (BT.nil)) (BT.nil)) (BT.node (ob122 P) (BT.nil) (BT.nil))))) (BT.node (ob14 P) (BT.node (ob22 P) (BT.node (ob38 P) (BT.node (ob70 P) (BT.node (ob134 P) (BT.nil) (BT.nil)) (BT.nil)) (BT.node (ob102 P) (BT.node (ob166 P) (BT.nil) (BT.nil)) (BT.nil))) (BT.node (ob54 P) (BT.node (ob86 P) (BT.node (ob150 P) (BT.nil) (BT.nil)) (BT.nil)) (BT.node (ob118 P) (BT.nil) (BT.nil)))) (BT.node (ob30 P) (BT.node (ob46 P) (BT.node (ob78 P) (BT.node (ob142 P) (BT.nil) (BT.nil)) (BT.nil)) (BT.node (ob110 P) (BT.nil) (BT.nil))) (BT.node (ob62 P) (BT.node (ob94 P) (BT.node (ob158 P) (BT.nil) (BT.nil)) (BT.nil)) (BT.node (ob126 P) (BT.nil) (BT.nil)))))))
noncomputable def tr4 (P : Params) : BT := BT.node (boot_o_0 P) (BT.node (boot_o_1 P) (BT.node (ox213 P) (BT.node (boot_o_7 P) (BT.node (ob15 P) (BT.node (ob31 P) (BT.node (ob63 P) (BT.node (ob127 P) (BT.nil) (BT.nil)) (BT.node (ob191 P) (BT.nil) (BT.nil))) (BT.node (ob95 P) (BT.node (ob159 P) (BT.nil) (BT.nil)) (BT.node (ob223 P) (BT.nil) (BT.nil)))) (BT.node (ob47 P) (BT.node (ob79 P) (BT.node (ob143 P) (BT.nil) (BT.nil)) (BT.node (ob207 P) (BT.nil) (BT.nil))) (BT.node (ob111 P) (BT.node (ob175 P) (BT.nil) (BT.nil)) (BT.node (ob239 P) (BT.nil) (BT.nil))))) (BT.node (ob23 P) (BT.node (ob39 P) (BT.node (ob71 P) (BT.node (ob135 P) (BT.nil) (BT.nil)) (BT.node (ob199 P) (BT.nil) (BT.nil))) (BT.node (ob103 P) (BT.node (ob167 P) (BT.nil) (BT.nil)) (BT.node (ob231 P) (BT.nil) (BT.nil)))) (BT.node (ob55 P) (BT.node (ob87 P) (BT.node (ob151 P) (BT.nil) (BT.nil)) (BT.node (ob215 P) (BT.nil) (BT.nil))) (BT.node (ob119 P) (BT.node (ob183 P) (BT.nil) (BT.nil)) (BT.node (ob247 P) (BT.nil) (BT.nil)))))) (BT.node (ob11 P) (BT.node (ob19 P) (BT.node (ob35 P) (BT.node (ob67 P) (BT.node (ob131 P) (BT.nil) (BT.nil)) (BT.node (ob195 P) (BT.nil) (BT.nil))) (BT.node (ob99 P) (BT.node (ob163 P) (BT.nil) (BT.nil)) (BT.node (ob227 P) (BT.nil) (BT.nil)))) (BT.node (ob51 P) (BT.node (ob83 P) (BT.node (ob147 P) (BT.nil) (BT.nil)) (BT.node (ob211 P) (BT.nil) (BT.nil))) (BT.node (ob115 P) (BT.node (ob179 P) (BT.nil) (BT.nil)) (BT.node (ob243 P) (BT.nil) (BT.nil))))) (BT.node (ob27 P) (BT.node (ob43 P) (BT.node (ob75 P) (BT.node (ob139 P) (BT.nil) (BT.nil)) (BT.node (ob203 P) (BT.nil) (BT.nil))) (BT.node (ob107 P) (BT.node (ob171 P) (BT.nil) (BT.nil)) (BT.node (ob235 P) (BT.nil) (BT.nil)))) (BT.node (ob59 P) (BT.node (ob91 P) (BT.node (ob155 P) (BT.nil) (BT.nil)) (BT.node (ob219 P) (BT.nil) (BT.nil))) (BT.node (ob123 P) (BT.node (ob187 P) (BT.nil) (BT.nil)) (BT.node (ob251 P) (BT.nil) (BT.nil))))))) (BT.node (boot_o_5 P) (BT.node (boot_o_9 P) (BT.node (ob17 P) (BT.node (ob33 P) (BT.node (ob65 P) (BT.node (ob129 P) (BT.nil) (BT.nil)) (BT.node (ob193 P) (BT.nil) (BT.nil))) (BT.node (ob97 P) (BT.node (ob161 P) (BT.nil) (BT.nil)) (BT.node (ob225 P) (BT.nil) (BT.nil)))) (BT.node (ob49 P) (BT.node (ob81 P) (BT.node (ob145 P) (BT.nil) (BT.nil)) (BT.node (ob209 P) (BT.nil) (BT.nil))) (BT.node (ob113 P) (BT.node (ob177 P) (BT.nil) (BT.nil)) (BT.node (ob241 P) (BT.nil) (BT.nil))))) (BT.node (ob25 P) (BT.node (ob41 P) (BT.node (ob73 P) (BT.node (ob137 P) (BT.nil) (BT.nil)) (BT.node (ob201 P) (BT.nil) (BT.nil))) (BT.node (ob105 P) (BT.node (ob169 P) (BT.nil) (BT.nil)) (BT.node (ob233 P) (BT.nil) (BT.nil)))) (BT.node (ob57 P) (BT.node (ob89 P) (BT.node (ob153 P) (BT.nil) (BT.nil)) (BT.node (ob217 P) (BT.nil) (BT.nil))) (BT.node (ob121 P) (BT.node (ob185 P) (BT.nil) (BT.nil)) (BT.node (ob249 P) (BT.nil) (BT.nil)))))) (BT.node (ob13 P) (BT.node (ob21 P) (BT.node (ob37 P) (BT.node (ob69 P) (BT.node (ob133 P) (BT.nil) (BT.nil)) (BT.node (ob197 P) (BT.nil) (BT.nil))) (BT.node (ob101 P) (BT.node (ob165 P) (BT.nil) (BT.nil)) (BT.node (ob229 P) (BT.nil) (BT.nil)))) (BT.node (ob53 P) (BT.node (ob85 P) (BT.node (ob149 P) (BT.nil) (BT.nil)) (BT.node (ob213 P) (BT.nil) (BT.nil))) (BT.node (ob117 P) (BT.node (ob181 P) (BT.nil) (BT.nil)) (BT.node (ob245 P) (BT.nil) (BT.nil))))) (BT.node (ob29 P) (BT.node (ob45 P) (BT.node (ob77 P) (BT.node (ob141 P) (BT.nil) (BT.nil)) (BT.node (ob205 P) (BT.nil) (BT.nil))) (BT.node (ob109 P) (BT.node (ob173 P) (BT.nil) (BT.nil)) (BT.node (ob237 P) (BT.nil) (BT.nil)))) (BT.node (ob61 P) (BT.node (ob93 P) (BT.node (ob157 P) (BT.nil) (BT.nil)) (BT.node (ob221 P) (BT.nil) (BT.nil))) (BT.node (ob125 P) (BT.node (ob189 P) (BT.nil) (BT.nil)) (BT.nil))))))) (BT.node (boot_o_2 P) (BT.node (boot_o_4 P) (BT.node (boot_o_8 P) (BT.node (ob16 P) (BT.node (ob32 P) (BT.node (ob64 P) (BT.node (ob128 P) (BT.nil) (BT.nil)) (BT.node (ob192 P) (BT.nil) (BT.nil))) (BT.node (ob96 P) (BT.node (ob160 P) (BT.nil) (BT.nil)) (BT.node (ob224 P) (BT.nil) (BT.nil)))) (BT.node (ob48 P) (BT.node (ob80 P) (BT.node (ob144 P) (BT.nil) (BT.nil)) (BT.node (ob208 P) (BT.nil) (BT.nil))) (BT.node (ob112 P) (BT.node (ob176 P) (BT.nil) (BT.nil)) (BT.node (ob240 P) (BT.nil) (BT.nil))))) (BT.node (ob24 P) (BT.node (ob40 P) (BT.node (ob72 P) (BT.node (ob136 P) (BT.nil) (BT.nil)) (BT.node (ob200 P) (BT.nil) (BT.nil))) (BT.node (ob104 P) (BT.node (ob168 P) (BT.nil) (BT.nil)) (BT.node (ob232 P) (BT.nil) (BT.nil)))) (BT.node (ob56 P) (BT.node (ob88 P) (BT.node (ob152 P) (BT.nil) (BT.nil)) (BT.node (ob216 P) (BT.nil) (BT.nil))) (BT.node (ob120 P) (BT.node (ob184 P) (BT.nil) (BT.nil)) (BT.node (ob248 P) (BT.nil) (BT.nil)))))) (BT.node (ox214 P) (BT.node (ob20 P) (BT.node (ob36 P) (BT.node (ob68 P) (BT.node (ob132 P) (BT.nil) (BT.nil)) (BT.node (ob196 P) (BT.nil) (BT.nil))) (BT.node (ob100 P) (BT.node (ob164 P) (BT.nil) (BT.nil)) (BT.node (ob228 P) (BT.nil) (BT.nil)))) (BT.node (ob52 P) (BT.node (ob84 P) (BT.node (ob148 P) (BT.nil) (BT.nil)) (BT.node (ob212 P) (BT.nil) (BT.nil))) (BT.node (ob116 P) (BT.node (ob180 P) (BT.nil) (BT.nil)) (BT.node (ob244 P) (BT.nil) (BT.nil))))) (BT.node (ob28 P) (BT.node (ob44 P) (BT.node (ob76 P) (BT.node (ob140 P) (BT.nil) (BT.nil)) (BT.node (ob204 P) (BT.nil) (BT.nil))) (BT.node (ob108 P) (BT.node (ob172 P) (BT.nil) (BT.nil)) (BT.node (ob236 P) (BT.nil) (BT.nil)))) (BT.node (ob60 P) (BT.node (ob92 P) (BT.node (ob156 P) (BT.nil) (BT.nil)) (BT.node (ob220 P) (BT.nil) (BT.nil))) (BT.node (ob124 P) (BT.node (ob188 P) (BT.nil) (BT.nil)) (BT.nil)))))) (BT.node (boot_o_6 P) (BT.node (boot_o_10 P) (BT.node (ob18 P) (BT.node (ob34 P) (BT.node (ob66 P) (BT.node (ob130 P) (BT.nil) (BT.nil)) (BT.node (ob194 P) (BT.nil) (BT.nil))) (BT.node (ob98 P) (BT.node (ob162 P) (BT.nil) (BT.nil)) (BT.node (ob226 P) (BT.nil) (BT.nil)))) (BT.node (ob50 P) (BT.node (ob82 P) (BT.node (ob146 P) (BT.nil) (BT.nil)) (BT.node (ob210 P) (BT.nil) (BT.nil))) (BT.node (ob114 P) (BT.node (ob178 P) (BT.nil) (BT.nil)) (BT.node (ob242 P) (BT.nil) (BT.nil))))) (BT.node (ob26 P) (BT.node (ob42 P) (BT.node (ob74 P) (BT.node (ob138 P) (BT.nil) (BT.nil)) (BT.node (ob202 P) (BT.nil) (BT.nil))) (BT.node (ob106 P) (BT.node (ob170 P) (BT.nil) (BT.nil)) (BT.node (ob234 P) (BT.nil) (BT.nil)))) (BT.node (ob58 P) (BT.node (ob90 P) (BT.node (ob154 P) (BT.nil) (BT.nil)) (BT.node (ob218 P) (BT.nil) (BT.nil))) (BT.node (ob122 P) (BT.node (ob186 P) (BT.nil) (BT.nil)) (BT.node (ob250 P) (BT.nil) (BT.nil)))))) (BT.node (ob14 P) (BT.node (ob22 P) (BT.node (ob38 P) (BT.node (ob70 P) (BT.node (ob134 P) (BT.nil) (BT.nil)) (BT.node (ob198 P) (BT.nil) (BT.nil))) (BT.node (ob102 P) (BT.node (ob166 P) (BT.nil) (BT.nil)) (BT.node (ob230 P) (BT.nil) (BT.nil)))) (BT.node (ob54 P) (BT.node (ob86 P) (BT.node (ob150 P) (BT.nil) (BT.nil)) (BT.node (ob214 P) (BT.nil) (BT.nil))) (BT.node (ob118 P) (BT.node (ob182 P) (BT.nil) (BT.nil)) (BT.node (ob246 P) (BT.nil) (BT.nil))))) (BT.node (ob30 P) (BT.node (ob46 P) (BT.node (ob78 P) (BT.node (ob142 P) (BT.nil) (BT.nil)) (BT.node (ob206 P) (BT.nil) (BT.nil))) (BT.node (ob110 P) (BT.node (ob174 P) (BT.nil) (BT.nil)) (BT.node (ob238 P) (BT.nil) (BT.nil)))) (BT.node (ob62 P) (BT.node (ob94 P) (BT.node (ob158 P) (BT.nil) (BT.nil)) (BT.node (ob222 P) (BT.nil) (BT.nil))) (BT.node (ob126 P) (BT.node (ob190 P) (BT.nil) (BT.nil)) (BT.nil)))))))
noncomputable def tr5 (P : Params) : BT := BT.node (boot_o_0 P) (BT.node (boot_o_1 P) (BT.node (ob3 P) (BT.node (boot_o_7 P) (BT.node (ob15 P) (BT.node (ob31 P) (BT.node (ob63 P) (BT.node (ob127 P) (BT.node (ob255 P) (BT.nil) (BT.nil)) (BT.nil)) (BT.node (ob191 P) (BT.nil) (BT.nil))) (BT.node (ob95 P) (BT.node (ob159 P) (BT.nil) (BT.nil)) (BT.node (ob223 P) (BT.nil) (BT.nil)))) (BT.node (ob47 P) (BT.node (ob79 P) (BT.node (ob143 P) (BT.nil) (BT.nil)) (BT.node (ob207 P) (BT.nil) (BT.nil))) (BT.node (ob111 P) (BT.node (ob175 P) (BT.nil) (BT.nil)) (BT.node (ob239 P) (BT.nil) (BT.nil))))) (BT.node (ob23 P) (BT.node (ob39 P) (BT.node (ob71 P) (BT.node (ob135 P) (BT.nil) (BT.nil)) (BT.node (ob199 P) (BT.nil) (BT.nil))) (BT.node (ob103 P) (BT.node (ob167 P) (BT.nil) (BT.nil)) (BT.node (ob231 P) (BT.nil) (BT.nil)))) (BT.node (ob55 P) (BT.node (ob87 P) (BT.node (ob151 P) (BT.nil) (BT.nil)) (BT.node (ob215 P) (BT.nil) (BT.nil))) (BT.node (ob119 P) (BT.node (ob183 P) (BT.nil) (BT.nil)) (BT.node (ob247 P) (BT.nil) (BT.nil)))))) (BT.node (ob11 P) (BT.node (ob19 P) (BT.node (ob35 P) (BT.node (ob67 P) (BT.node (ob131 P) (BT.node (ob259 P) (BT.nil) (BT.nil)) (BT.nil)) (BT.node (ob195 P) (BT.nil) (BT.nil))) (BT.node (ob99 P) (BT.node (ob163 P) (BT.nil) (BT.nil)) (BT.node (ob227 P) (BT.nil) (BT.nil)))) (BT.node (ob51 P) (BT.node (ob83 P) (BT.node (ob147 P) (BT.nil) (BT.nil)) (BT.node (ob211 P) (BT.nil) (BT.nil))) (BT.node (ob115 P) (BT.node (ob179 P) (BT.nil) (BT.nil)) (BT.node (ob243 P) (BT.nil) (BT.nil))))) (BT.node (ob27 P) (BT.node (ob43 P) (BT.node (ob75 P) (BT.node (ob139 P) (BT.nil) (BT.nil)) (BT.node (ob203 P) (BT.nil) (BT.nil))) (BT.node (ob107 P) (BT.node (ob171 P) (BT.nil) (BT.nil)) (BT.node (ob235 P) (BT.nil) (BT.nil)))) (BT.node (ob59 P) (BT.node (ob91 P) (BT.node (ob155 P) (BT.nil) (BT.nil)) (BT.node (ob219 P) (BT.nil) (BT.nil))) (BT.node (ob123 P) (BT.node (ob187 P) (BT.nil) (BT.nil)) (BT.node (ob251 P) (BT.nil) (BT.nil))))))) (BT.node (boot_o_5 P) (BT.node (boot_o_9 P) (BT.node (ob17 P) (BT.node (ob33 P) (BT.node (ob65 P) (BT.node (ob129 P) (BT.node (ob257 P) (BT.nil) (BT.nil)) (BT.nil)) (BT.node (ob193 P) (BT.nil) (BT.nil))) (BT.node (ob97 P) (BT.node (ob161 P) (BT.nil) (BT.nil)) (BT.node (ob225 P) (BT.nil) (BT.nil)))) (BT.node (ob49 P) (BT.node (ob81 P) (BT.node (ob145 P) (BT.nil) (BT.nil)) (BT.node (ob209 P) (BT.nil) (BT.nil))) (BT.node (ob113 P) (BT.node (ob177 P) (BT.nil) (BT.nil)) (BT.node (ob241 P) (BT.nil) (BT.nil))))) (BT.node (ob25 P) (BT.node (ob41 P) (BT.node (ob73 P) (BT.node (ob137 P) (BT.nil) (BT.nil)) (BT.node (ob201 P) (BT.nil) (BT.nil))) (BT.node (ob105 P) (BT.node (ob169 P) (BT.nil) (BT.nil)) (BT.node (ob233 P) (BT.nil) (BT.nil)))) (BT.node (ob57 P) (BT.node (ob89 P) (BT.node (ob153 P) (BT.nil) (BT.nil)) (BT.node (ob217 P) (BT.nil) (BT.nil))) (BT.node (ob121 P) (BT.node (ob185 P) (BT.nil) (BT.nil)) (BT.node (ob249 P) (BT.nil) (BT.nil)))))) (BT.node (ob13 P) (BT.node (ob21 P) (BT.node (ob37 P) (BT.node (ob69 P) (BT.node (ob133 P) (BT.node (ob261 P) (BT.nil) (BT.nil)) (BT.nil)) (BT.node (ob197 P) (BT.nil) (BT.nil))) (BT.node (ob101 P) (BT.node (ob165 P) (BT.nil) (BT.nil)) (BT.node (ob229 P) (BT.nil) (BT.nil)))) (BT.node (ob53 P) (BT.node (ob85 P) (BT.node (ob149 P) (BT.nil) (BT.nil)) (BT.node (ob213 P) (BT.nil) (BT.nil))) (BT.node (ob117 P) (BT.node (ob181 P) (BT.nil) (BT.nil)) (BT.node (ob245 P) (BT.nil) (BT.nil))))) (BT.node (ob29 P) (BT.node (ob45 P) (BT.node (ob77 P) (BT.node (ob141 P) (BT.nil) (BT.nil)) (BT.node (ob205 P) (BT.nil) (BT.nil))) (BT.node (ob109 P) (BT.node (ob173 P) (BT.nil) (BT.nil)) (BT.node (ob237 P) (BT.nil) (BT.nil)))) (BT.node (ob61 P) (BT.node (ob93 P) (BT.node (ob157 P) (BT.nil) (BT.nil)) (BT.node (ob221 P) (BT.nil) (BT.nil))) (BT.node (ob125 P) (BT.node (ob189 P) (BT.nil) (BT.nil)) (BT.node (ob253 P) (BT.nil) (BT.nil)))))))) (BT.node (boot_o_2 P) (BT.node (boot_o_4 P) (BT.node (boot_o_8 P) (BT.node (ob16 P) (BT.node (ob32 P) (BT.node (ob64 P) (BT.node (ob128 P) (BT.node (ob256 P) (BT.nil) (BT.nil)) (BT.nil)) (BT.node (ob192 P) (BT.nil) (BT.nil))) (BT.node (ob96 P) (BT.node (ob160 P) (BT.nil) (BT.nil)) (BT.node (ob224 P) (BT.nil) (BT.nil)))) (BT.node (ob48 P) (BT.node (ob80 P) (BT.node (ob144 P) (BT.nil) (BT.nil)) (BT.node (ob208 P) (BT.nil) (BT.nil))) (BT.node (ob112 P) (BT.node (ob176 P) (BT.nil) (BT.nil)) (BT.node (ob240 P) (BT.nil) (BT.nil))))) (BT.node (ob24 P) (BT.node (ob40 P) (BT.node (ob72 P) (BT.node (ob136 P) (BT.nil) (BT.nil)) (BT.node (ob200 P) (BT.nil) (BT.nil))) (BT.node (ob104 P) (BT.node (ob168 P) (BT.nil) (BT.nil)) (BT.node (ob232 P) (BT.nil) (BT.nil)))) (BT.node (ob56 P) (BT.node (ob88 P) (BT.node (ob152 P) (BT.nil) (BT.nil)) (BT.node (ob216 P) (BT.nil) (BT.nil))) (BT.node (ob120 P) (BT.node (ob184 P) (BT.nil) (BT.nil)) (BT.node (ob248 P) (BT.nil) (BT.nil)))))) (BT.node (ob12 P) (BT.node (ob20 P) (BT.node (ob36 P) (BT.node (ob68 P) (BT.node (ob132 P) (BT.node (ob260 P) (BT.nil) (BT.nil)) (BT.nil)) (BT.node (ob196 P) (BT.nil) (BT.nil))) (BT.node (ob100 P) (BT.node (ob164 P) (BT.nil) (BT.nil)) (BT.node (ob228 P) (BT.nil) (BT.nil)))) (BT.node (ob52 P) (BT.node (ob84 P) (BT.node (ob148 P) (BT.nil) (BT.nil)) (BT.node (ob212 P) (BT.nil) (BT.nil))) (BT.node (ob116 P) (BT.node (ob180 P) (BT.nil) (BT.nil)) (BT.node (ob244 P) (BT.nil) (BT.nil))))) (BT.node (ob28 P) (BT.node (ob44 P) (BT.node (ob76 P) (BT.node (ob140 P) (BT.nil) (BT.nil)) (BT.node (ob204 P) (BT.nil) (BT.nil))) (BT.node (ob108 P) (BT.node (ob172 P) (BT.nil) (BT.nil)) (BT.node (ob236 P) (BT.nil) (BT.nil)))) (BT.node (ob60 P) (BT.node (ob92 P) (BT.node (ob156 P) (BT.nil) (BT.nil)) (BT.node (ob220 P) (BT.nil) (BT.nil))) (BT.node (ob124 P) (BT.node (ob188 P) (BT.nil) (BT.nil)) (BT.node (ob252 P) (BT.nil) (BT.nil))))))) (BT.node (boot_o_6 P) (BT.node (boot_o_10 P) (BT.node (ob18 P) (BT.node (ob34 P) (BT.node (ob66 P) (BT.node (ob130 P) (BT.node (ob258 P) (BT.nil) (BT.nil)) (BT.nil)) (BT.node (ob194 P) (BT.nil) (BT.nil))) (BT.node (ob98 P) (BT.node (ob162 P) (BT.nil) (BT.nil)) (BT.node (ob226 P) (BT.nil) (BT.nil)))) (BT.node (ob50 P) (BT.node (ob82 P) (BT.node (ob146 P) (BT.nil) (BT.nil)) (BT.node (ob210 P) (BT.nil) (BT.nil))) (BT.node (ob114 P) (BT.node (ob178 P) (BT.nil) (BT.nil)) (BT.node (ob242 P) (BT.nil) (BT.nil))))) (BT.node (ob26 P) (BT.node (ob42 P) (BT.node (ob74 P) (BT.node (ob138 P) (BT.nil) (BT.nil)) (BT.node (ob202 P) (BT.nil) (BT.nil))) (BT.node (ob106 P) (BT.node (ob170 P) (BT.nil) (BT.nil)) (BT.node (ob234 P) (BT.nil) (BT.nil)))) (BT.node (ob58 P) (BT.node (ob90 P) (BT.node (ob154 P) (BT.nil) (BT.nil)) (BT.node (ob218 P) (BT.nil) (BT.nil))) (BT.node (ob122 P) (BT.node (ob186 P) (BT.nil) (BT.nil)) (BT.node (ob250 P) (BT.nil) (BT.nil)))))) (BT.node (ob14 P) (BT.node (ob22 P) (BT.node (ob38 P) (BT.node (ob70 P) (BT.node (ob134 P) (BT.nil) (BT.nil)) (BT.node (ob198 P) (BT.nil) (BT.nil))) (BT.node (ob102 P) (BT.node (ob166 P) (BT.nil) (BT.nil)) (BT.node (ob230 P) (BT.nil) (BT.nil)))) (BT.node (ob54 P) (BT.node (ob86 P) (BT.node (ob150 P) (BT.nil) (BT.nil)) (BT.node (ob214 P) (BT.nil) (BT.nil))) (BT.node (ob118 P) (BT.node (ob182 P) (BT.nil) (BT.nil)) (BT.node (ob246 P) (BT.nil) (BT.nil))))) (BT.node (ob30 P) (BT.node (ob46 P) (BT.node (ob78 P) (BT.node (ob142 P) (BT.nil) (BT.nil)) (BT.node (ob206 P) (BT.nil) (BT.nil))) (BT.node (ob110 P) (BT.node (ob174 P) (BT.nil) (BT.nil)) (BT.node (ob238 P) (BT.nil) (BT.nil)))) (BT.node (ob62 P) (BT.node (ob94 P) (BT.node (ob158 P) (BT.nil) (BT.nil)) (BT.node (ob222 P) (BT.nil) (BT.nil))) (BT.node (ob126 P) (BT.node (ob190 P) (BT.nil) (BT.nil)) (BT.node (ob254 P) (BT.nil) (BT.nil))))))))
noncomputable def heapA (P : Params) : Heap := Heap.mk (Array.mk (boot_o_0 P :: boot_o_1 P :: boot_o_2 P :: boot_o_3 P :: boot_o_4 P :: boot_o_5 P :: boot_o_6 P :: boot_o_7 P :: boot_o_8 P :: boot_o_9 P :: boot_o_10 P :: ob11 P :: ox44 P :: ob13 P :: ob14 P :: [])) {}
noncomputable def envT : Env := { scope := pgm.main.scope, locals := mainNs, globals := mainNs, cells := [], code := .ref 13, frame := some 14 }
noncomputable def bodyT : List Stmt := behindTheImports pgm
noncomputable def codeT : Code := Code.body bodyT envT
noncomputable def frT : List Frame := [topFrame ⟨0, 0, 0, 0⟩]
noncomputable abbrev annT : Option Value := some (.ref 6)
noncomputable def stT (t : Params → BT) (n k : Nat) (w : World) (os : OsState) : SharedT := SharedT.mk (t w.params) n {} #[] {} k os
noncomputable def st0 (w : World) (os : OsState) : Shared := ⟨boot_heap w.params, #[], boot_drawn, boot_toks, os⟩
noncomputable def stA (w : World) (os : OsState) : Shared := ⟨heapA w.params, #[], {}, 187, os⟩
noncomputable def stZ (w : World) (os : OsState) : Shared := ⟨finH w.params, #[], {}, 548, os⟩
noncomputable def part0 : List Stmt := pickS [0, 1, 2, 3]
noncomputable def part1 : List Stmt := pickS [4, 5, 6, 7, 8, 9, 10, 11, 12]
noncomputable def part2 : List Stmt := pickS [13, 14, 15, 16, 17, 18]
noncomputable def part3 : List Stmt := pickS [19, 20, 21, 22, 23, 24, 25, 26, 27, 28, 29, 30, 31, 32]
noncomputable def part4 : List Stmt := pickS [33, 34]
theorem pre39 (w : World) (os : OsState) : topGo treeTable pgm w 11 annT 12 (st0 w os) (topStub pgm) = some (stA w os, ⟨denote treeTable codeT, codeT, ⟨0, 0, 0, 0⟩, frT⟩) := by kernel_rfl
theorem block39 (w : World) (os : OsState) : segRun treeTable pgm w 11 annT 1 1 (stA w os) (blockOf bodyT envT codeT ⟨0, 0, 0, 0⟩ frT) = some (.next, (stT tr0 15 187 w os).abs, codeT, ⟨0, 0, 0, 0⟩) := by kernel_rfl
theorem pieceT0 (w : World) (os : OsState) : segRunT treeTable pgm w 11 annT 1 397 (stT tr0 15 187 w os) (piecesOf part0 envT codeT ⟨0, 0, 0, 0⟩ frT) = some (.next, stT tr1 71 267 w os, codeT, ⟨53, 0, 59, 16⟩) := by kernel_rfl
theorem pieceT1 (w : World) (os : OsState) : segRunT treeTable pgm w 11 annT 1 399 (stT tr1 71 267 w os) (piecesOf part1 envT codeT ⟨53, 0, 59, 16⟩ frT) = some (.next, stT tr2 125 349 w os, codeT, ⟨105, 0, 108, 16⟩) := by kernel_rfl
theorem pieceT2 (w : World) (os : OsState) : segRunT treeTable pgm w 11 annT 1 398 (stT tr2 125 349 w os) (piecesOf part2 envT codeT ⟨105, 0, 108, 16⟩ frT) = some (.next, stT tr3 172 413 w os, codeT, ⟨145, 0, 145, 8⟩) := by kernel_rfl
theorem pieceT3 (w : World) (os : OsState) : segRunT treeTable pgm w 11 annT 1 398 (stT tr3 172 413 w os) (piecesOf part3 envT codeT ⟨145, 0, 145, 8⟩ frT) = some (.next, stT tr4 252 536 w os, codeT, ⟨241, 0, 250, 15⟩) := by kernel_rfl
theorem pieceT4 (w : World) (os : OsState) : segRunT treeTable pgm w 11 annT 1 53 (stT tr4 252 536 w os) (piecesOf part4 envT codeT ⟨241, 0, 250, 15⟩ frT) = some (.next, stT tr5 262 548 w os, codeT, ⟨265, 0, 279, 15⟩) := by kernel_rfl
theorem fin39 (w : World) (os : OsState) : topRun treeTable pgm w 11 annT 2 (stT tr5 262 548 w os).abs ⟨doneF .next, codeT, ⟨265, 0, 279, 15⟩, frT⟩ = some (stZ w os) := by kernel_rfl
theorem rest39 : restOf bodyT envT codeT ⟨0, 0, 0, 0⟩ frT = restOf (part0 ++ (part1 ++ (part2 ++ (part3 ++ (part4 ++ []))))) envT codeT ⟨0, 0, 0, 0⟩ frT :=
  congrArg (fun b => restOf b envT codeT ⟨0, 0, 0, 0⟩ frT) (show bodyT = part0 ++ (part1 ++ (part2 ++ (part3 ++ (part4 ++ [])))) by kernel_rfl)
theorem run39 (w : World) (os : OsState) : topRun treeTable pgm w 11 annT 1660 (st0 w os) (topStub pgm) = some (stZ w os) := by
  refine go_top (n := 12) (N := 1648) (pre39 w os) ?_
  refine piece_block (b := bodyT) (n := 1) (N := 1647) (block39 w os) ?_
  refine (congrArg (fun t => topRun treeTable pgm w 11 annT 1647 (stT tr0 15 187 w os).abs t) rest39).trans ?_
  refine piece_app (n := 397) (N := 1250) (segRun_of (pieceT0 w os)) ?_
  refine piece_app (n := 399) (N := 851) (segRun_of (pieceT1 w os)) ?_
  refine piece_app (n := 398) (N := 453) (segRun_of (pieceT2 w os)) ?_
  refine piece_app (n := 398) (N := 55) (segRun_of (pieceT3 w os)) ?_
  refine piece_app (n := 53) (N := 2) (segRun_of (pieceT4 w os)) ?_
  exact fin39 w os
theorem size39 (w : World) : ((boot_heap w.params).isNs mainGlobals && (#[] : Array GenState).size == 0, (boot_heap w.params).objs.size, (boot_heap w.params).nsMap mainGlobals "__annotations__") = (true, 11, annT) := by kernel_rfl
theorem as39_eq (P : Params) : as39 = (hd.heap_39 P).map (·.1) := by kernel_rfl
noncomputable abbrev hook39 : Hook := kmHook hd.heap_39 as39 as39_eq [229]
theorem left39 : LeftO pgm hd.view_39 [] (fun s => xlAt hd.view_39 [] s && recOk PySem.Challenge.rw_il0068_01.row.toRowW.records s) hook39.obs hook39.val 3406 :=
  LeftO.of_pieces (H₀ := boot_heap) (H₁ := finH) (gs₀ := #[]) (gs₁ := #[]) (d₀ := boot_drawn) (d₁ := {}) (k₀ := boot_toks) (k₁ := 548) (m₀ := 11) (ann := annT) (M := 1660)
    (boot_open (by kernel_rfl) (by decide) (fun s => by kernel_rfl)) size39 run39 (by decide) fun w => by kernel_rfl
theorem said39 : PySem.Challenge.rw_il0068_01.wellSaid = true := by
  unfold OpenLaw.wellSaid OpenRow.wellSaid OpenRow.partSaid looksOpen
  repeat' (with_reducible refine look_both ?_ ?_)
  all_goals decide +kernel
theorem hd {b : List Stmt} {a : Arguments} {s : Scope} (hb : fnB (tA 34) = b) (ha : fnA (tA 34) = a) (hs : fnS (tA 34) = s)
    (walk : WalkO hd.view_39 [] (XL hd.view_39 []) (kmHook hd.heap_39 as39 as39_eq [229]).says PySem.Challenge.rw_il0068_01.row.toRowW ⟨Str.ofString "law", a, b, s, ⟨265, 0, 279, 15⟩⟩ [] fun f vs => PySem.call f vs) :
    PySem.Challenge.rw_il0068_01.Holds := by
  subst hb ha hs
  refine holds_law said39 fun said => ?_
  exact holds_open (q := hd.view_39) (loose := []) (Xt := fun s => xlAt hd.view_39 [] s && recOk PySem.Challenge.rw_il0068_01.row.toRowW.records s) (XP := XL hd.view_39 []) (Yf := hook39.obs) (Ya := hook39.val) (YP := hook39.says) (N := 3406)
    left39 hook39.of hook39.keeps (fun s e => xl_of s (Bool.and_eq_true_iff.mp e).1) XL.keeps (by kernel_rfl) (by kernel_rfl) (by kernel_rfl) (fun s e => recFacts_of (Bool.and_eq_true_iff.mp e).2) (by rfl) said (by decide +kernel) ⟨rfl, rfl, rfl, rfl, rfl, by decide +kernel⟩
    ⟨[WData.list []], by decide +kernel, by decide +kernel⟩ walk
end Mine

end PT0
section PB0
open PySem PySem.W PySem.Calls PyProof.Rows
set_option Elab.async false
set_option maxRecDepth 100000
namespace Mine
noncomputable abbrev prg : Program := PySem.Challenge.pw_il0068_01
noncomputable abbrev TopM (mean : ExcName → Option Value) (mg mb : Str → Option Value) (h : Heap) : Prop := Top topProg (looseW hd.view_39 [] ++ (recsOf hd.view_39).map (·.name) ++ (litsOf hd.view_39).map (·.1) ++ (clssOf hd.view_39 (looseW hd.view_39 [])).map (·.name)) mean mg mb h
structure Gd (w : World) (mean : ExcName → Option Value) (mg mb : Str → Option Value) (as : List Addr) (h : Heap) : Prop where
  k : (hd.heap_39 w.params).In (hideAll h as)
  t : TopM mean mg mb (hideAll h as)
/-- all stands but mod -/
structure Stp (h h' : Heap) (mod : List Addr) : Prop where
  keep : ∀ b o, h.get? b = some o → b ∉ mod → h'.get? b = some o
  size : h.objs.size ≤ h'.objs.size
section
variable {w : World} {mean : ExcName → Option Value} {mg mb : Str → Option Value}
theorem hide_stays {h h' : Heap} {as as' : List Addr} (hk : ∀ b o, h.get? b = some o → b ∉ as → h'.get? b = some o) (hs : ∀ a ∈ as', a ∈ as) : ∀ b o, (hideAll h as).get? b = some o → (hideAll h' as').get? b = some o := fun b o e => by
  have hb : b ∉ as := fun q => by rw [hideAll_none _ q] at e; cases e
  exact hideAll_get as' (hk b o (of_hideAll _ e) hb) fun q => hb (hs _ q)
theorem Gd.mono {h h' : Heap} {as as' mod : List Addr} (G : Gd w mean mg mb as h) (S : Stp h h' mod) (hm : ∀ a ∈ mod, a ∈ as) (hs : ∀ a ∈ as', a ∈ as) : Gd w mean mg mb as' h' :=
  have q := hide_stays (h := h) (h' := h') (as := as) (as' := as') (fun b o e hb => S.keep b o e fun q => hb (hm b q)) hs
  ⟨G.k.keeps q, G.t.keeps q⟩
theorem enter {prog : Program} {A : Around} {s : Shared} {news : List (Addr × Obj)} {R : Result → Shared → Prop} {name qual : Str} {params : Arguments} {body : List Stmt} {scope : Scope} {dV kV doc pm cdv ct oc : Value} {an od : Option Addr} {osl : Array (Option Value)} {f : Addr} {args : Args} {binds : List (Str × Value)}
    (G : Gd w mean mg mb (news.map (·.1)) s.heap) (hn : ∀ p ∈ news, s.heap.get? p.1 = some p.2)
    (ho : (hd.heap_39 w.params).lookup f = some ⟨oc, od, .func (fnOf name qual params body scope dV kV doc pm an cdv ct), osl⟩) (hcd : codeIn (hd.heap_39 w.params) cdv qual = true) (hroom : A.depth < recursionLimit)
    (hbind : BindsTo s (fnOf name qual params body scope dV kV doc pm an cdv ct) args binds) (hloc : ∀ y ∈ binds, scope.names.lookup y.1 = some .local)
    (h : ∀ g L' h₁, Fr g L' h₁ (fun y => binds.reverse.lookup y) → News g L' h₁ news → (hd.heap_39 w.params).In g → TopM mean mg mb g → g = hideAll s.heap (news.map (·.1)) → L' = s.heap.objs.size →
      wpAny (model prog w) (A.deeper (envOf qual scope L' f cdv)) (execs body (envOf qual scope L' f cdv))
        (fun fl s' => R (.ok (.ret (match fl with | .ret v => v | _ => .none))) s')
        (fun _ _ => False)
        { s with heap := h₁, toks := s.toks + binds.length })
    (hco : scope.isCoroutine = false) (hgen : scope.isGenerator = false) (hk : scope.kind = .function)
    (hcell : ∀ x ∈ scope.names, x.2 ≠ .cell) : codeAny (model prog w) A (.call (.ref f) args) R s := by
  have X : (hd.heap_39 w.params).In s.heap := G.k.keeps fun b o e => of_hideAll _ e
  have T : TopM mean mg mb s.heap := G.t.keeps fun b o e => of_hideAll _ e
  refine codeAny_call_def (fd := fnOf name qual params body scope dV kV doc pm an cdv ct) (body := body) (binds := binds) hroom (X _ _ ho) rfl T.nolimit (codeRec_of X hcd) rfl hbind hcell hloc (fun h₁ hns hk₁ => ?_) hco hgen hk
  refine wpAny_mono (h _ s.heap.objs.size h₁ ⟨hns, fun b o e => hk₁ b o (of_hideAll _ e), Nat.le_of_eq (hideAll_size _ _)⟩ (fun p hp => ⟨hk₁ _ _ (hn p hp), Nat.ne_of_lt (Heap.lt_size (hn p hp)), hideAll_none _ (List.mem_map_of_mem hp)⟩) G.k G.t rfl rfl) (fun _ _ y => y) fun _ _ y => y.elim
theorem room (k : Nat) {a b c : Nat} (h : a < b) (e : Nat.ble (b + k) c = true) : a + k < c := Nat.lt_of_lt_of_le (Nat.add_lt_add_right h k) (Nat.le_of_ble_eq_true e)
theorem nlt (k : Nat) {a : Nat} : a ≠ a + k + 1 := Nat.ne_of_lt (Nat.lt_succ_of_le (Nat.le_add_right a k))
theorem ngt (k : Nat) {a : Nat} : a + k + 1 ≠ a := Nat.ne_of_gt (Nat.lt_succ_of_le (Nat.le_add_right a k))
theorem nla (k : Nat) {a b : Nat} (h : a < b) : a ≠ b + k := Nat.ne_of_lt (Nat.lt_add_right k h)
theorem nga (k : Nat) {a b : Nat} (h : a < b) : b + k ≠ a := Nat.ne_of_gt (Nat.lt_add_right k h)
theorem peek1_push {α : Type} {K : Frag} {M : Model} {A : Around} {E : Value → Shared → Prop} {Q : α → Shared → Prop} {s : Shared} {o : Obj} {r : Addr → α}
    (X : K.In s.heap) (q : Q (r s.heap.objs.size) { s with heap := s.heap.push o }) :
    ∀ (t : Sem α) (g : Addr → Option α), peek1 K ⟨M.prog, M.w.params⟩ t = some (o, g) → (∀ D, g D = some (r D)) → wpAny M A t Q E s := by
  intro t
  induction t with
  | rule _ k ih => intro g e hg Γ p hΓ; exact ih () g e hg Γ p hΓ
  | point _ k ih => intro g e hg Γ p hΓ; exact ih () g e hg Γ p hΓ
  | ask k ih => intro g e hg Γ p hΓ; exact ih _ g e hg Γ p hΓ
  | load a _ k ih =>
    intro g e hg Γ p hΓ
    simp only [peek1] at e
    split at e
    · rename_i ob ho; exact ⟨ob, X _ _ ho, ih ob g e hg Γ p hΓ⟩
    · cases e
  | alloc ob k _ =>
    intro g e hg
    have e : some (ob, fun D => peek K ⟨M.prog, M.w.params⟩ (k D)) = some (o, g) := e
    obtain ⟨e1, e2⟩ := Prod.mk.inj (Option.some.inj e)
    subst e1
    subst e2
    have X' : K.In (s.heap.push ob) := X.keeps fun b x hb => Heap.get?_push_of_some _ hb
    show wpAny M A (alloc ob >>= k) Q E s
    refine wpAny_bind (wpAny_alloc ?_)
    exact (Looks.of_peek (M := M) (h := s.heap.push ob) X' (hg s.heap.objs.size)).here (s := { s with heap := s.heap.push ob }) q
  | _ => intro g e; cases e
theorem enterStar {prog : Program} {A : Around} {s : Shared} {R : Result → Shared → Prop} {name qual : Str} {params : Arguments} {body : List Stmt} {scope : Scope} {dV kV doc pm cdv ct oc : Value} {an od : Option Addr} {osl : Array (Option Value)} {f : Addr} {args : Args} {vs : List Value} {g₁ : Addr → Option (List (Str × Value))} {binds : Addr → List (Str × Value)}
    (G : Gd w mean mg mb [] s.heap)
    (ho : (hd.heap_39 w.params).lookup f = some ⟨oc, od, .func (fnOf name qual params body scope dV kV doc pm an cdv ct), osl⟩) (hcd : codeIn (hd.heap_39 w.params) cdv qual = true) (hroom : A.depth < recursionLimit)
    (hp : peek1 (hd.heap_39 w.params) ⟨prog, w.params⟩ (bindArgs (fnOf name qual params body scope dV kV doc pm an cdv ct) args) = some (({ cls := .type "tuple", data := .seq vs.toArray } : Obj), g₁))
    (hg : ∀ D, g₁ D = some (binds D)) (hloc : ∀ D, ∀ y ∈ binds D, scope.names.lookup y.1 = some .local)
    (h : ∀ D g L' h₁, Fr g L' h₁ (fun y => (binds D).reverse.lookup y) → News g L' h₁ [(D, ({ cls := .type "tuple", data := .seq vs.toArray } : Obj))] → (hd.heap_39 w.params).In g → TopM mean mg mb g → g = hideAll s.heap [] → Stp s.heap h₁ [] →
      wpAny (model prog w) (A.deeper (envOf qual scope L' f cdv)) (execs body (envOf qual scope L' f cdv))
        (fun fl s' => R (.ok (.ret (match fl with | .ret v => v | _ => .none))) s')
        (fun _ _ => False)
        { s with heap := h₁, toks := s.toks + (binds D).length })
    (hco : scope.isCoroutine = false) (hgen : scope.isGenerator = false) (hk : scope.kind = .function)
    (hcell : ∀ x ∈ scope.names, x.2 ≠ .cell) : codeAny (model prog w) A (.call (.ref f) args) R s := by
  have X : (hd.heap_39 w.params).In s.heap := G.k
  have T : TopM mean mg mb s.heap := G.t
  refine codeAny_call_function (fd := fnOf name qual params body scope dV kV doc pm an cdv ct) (body := body) hroom (X _ _ ho) rfl hco hgen rfl (codeRec_of X hcd) ?_
  refine peek1_push (o := ({ cls := .type "tuple", data := .seq vs.toArray } : Obj)) X (r := binds) ?_ _ g₁ hp hg
  refine wpAny_newFunctionEnv hcell (hloc _) (fun h₁ hns hsb => ⟨(T.nolimit.keeps fun b o e => Heap.get?_push_of_some _ e).fresh _ hsb, codeAny_func ?_⟩) hk
  have hk₁ : ∀ b o, (s.heap.push ({ cls := .type "tuple", data := .seq vs.toArray } : Obj)).get? b = some o → h₁.get? b = some o := fun b o e => hsb.extBut b o (Nat.ne_of_lt (Heap.lt_size e)) (Heap.get?_push_of_some _ e)
  have hk₂ : ∀ b o, s.heap.get? b = some o → h₁.get? b = some o := fun b o e => hk₁ b o (Heap.get?_push_of_some _ e)
  have sz : s.heap.objs.size < (s.heap.push ({ cls := .type "tuple", data := .seq vs.toArray } : Obj)).objs.size := by rw [Heap.size_push]; lia
  refine wpAny_mono (h s.heap.objs.size s.heap _ h₁ ⟨hns, hk₂, Nat.le_of_lt sz⟩ (fun p hp => ?_) X T rfl ⟨fun b o e _ => hk₂ b o e, Nat.le_of_lt (Nat.lt_trans sz hns.lt)⟩) (fun _ _ y => y) fun _ _ y => y.elim
  rcases List.mem_singleton.mp hp with rfl
  exact ⟨hk₁ _ _ (Heap.get?_push_size _ rfl), Nat.ne_of_lt sz, Heap.get?_none_of_le (Nat.le_refl _)⟩
theorem enterC {prog : Program} {A : Around} {s : Shared} {news : List (Addr × Obj)} {R : Result → Shared → Prop} {name qual : Str} {params : Arguments} {body : List Stmt} {scope : Scope} {dV kV doc pm cdv ct oc : Value} {an od : Option Addr} {osl : Array (Option Value)} {f : Addr} {args : Args} {binds : List (Str × Value)}
    (G : Gd w mean mg mb (news.map (·.1)) s.heap) (hn : ∀ p ∈ news, s.heap.get? p.1 = some p.2)
    (ho : (hd.heap_39 w.params).lookup f = some ⟨oc, od, .func (fnOf name qual params body scope dV kV doc pm an cdv ct), osl⟩) (hcd : codeIn (hd.heap_39 w.params) cdv qual = true) (hroom : A.depth < recursionLimit)
    (hbind : BindsTo s (fnOf name qual params body scope dV kV doc pm an cdv ct) args binds) (hkind : (binds.all fun y => scope.names.lookup y.1 == some .local || scope.names.lookup y.1 == some .cell) = true)
    (hnd : ((cellsFrom 0 scope.names []).map (·.1)).Nodup)
    (h : ∀ g L' h₁ tk cells, Fr g L' h₁ (bindL (envOfC qual scope L' f cdv).kindOf binds fun _ => none) → News g L' h₁ (cells ++ news) →
      CellsAre (bindC (envOfC qual scope L' f cdv).kindOf binds fun _ => none) (cellsFrom (L' + 1) scope.names []) cells → (hd.heap_39 w.params).In g → TopM mean mg mb g → g = hideAll s.heap (news.map (·.1)) → (∀ p ∈ news, p.1 < L') →
      wpAny (model prog w) (A.deeper (envOfC qual scope L' f cdv)) (execs body (envOfC qual scope L' f cdv))
        (fun fl s' => R (.ok (.ret (match fl with | .ret v => v | _ => .none))) s')
        (fun _ _ => False)
        { s with heap := h₁, toks := tk })
    (hco : scope.isCoroutine = false) (hgen : scope.isGenerator = false) (hk : scope.kind = .function) : codeAny (model prog w) A (.call (.ref f) args) R s := by
  have X : (hd.heap_39 w.params).In s.heap := G.k.keeps fun b o e => of_hideAll _ e
  have T : TopM mean mg mb s.heap := G.t.keeps fun b o e => of_hideAll _ e
  refine codeAny_call_function (fd := fnOf name qual params body scope dV kV doc pm an cdv ct) (body := body) hroom (X _ _ ho) rfl hco hgen rfl (codeRec_of X hcd) (hbind _ _ _ _ ?_)
  refine wpAny_newFunctionEnv_cells hk (kindsX hkind _) fun env' he s' x => ?_
  subst he
  refine ⟨T.nolimit.keeps x.toInCall.keep, codeAny_func ?_⟩
  obtain ⟨h₁, tk, rfl, _⟩ := x.done
  have hk₁ := x.toInCall.keep
  obtain ⟨cells, NC, Y⟩ := Cl.news (h₀ := s.heap) (Nat.le_refl _) fun n c hm => ⟨x.cell n c (lookup_of_mem_nodup (cellsFrom_names scope.names 0 (s.heap.objs.size + 1) [] [] rfl ▸ hnd) hm), x.above n c hm⟩
  refine wpAny_mono (h _ s.heap.objs.size h₁ tk cells ⟨x.toInCall.ns, fun b o e => hk₁ b o (of_hideAll _ e), Nat.le_of_eq (hideAll_size _ _)⟩ (fun p hp => ?_) Y G.k G.t rfl (fun p hp => Heap.lt_size (hn p hp))) (fun _ _ y => y) fun _ _ y => y.elim
  rcases List.mem_append.mp hp with hp | hp
  · refine ⟨(NC p hp).1, (NC p hp).2.1, ?_⟩
    cases q : (hideAll s.heap (news.map (·.1))).get? p.1 with
    | none => rfl
    | some o => have := of_hideAll _ q; rw [(NC p hp).2.2] at this; cases this
  · exact ⟨hk₁ _ _ (hn p hp), Nat.ne_of_lt (Heap.lt_size (hn p hp)), hideAll_none _ (List.mem_map_of_mem hp)⟩
/-- what the frame's facts say of the heap behind -/
theorem Fr.stp {h h' g : Heap} {as : List Addr} {L : Addr} {m : Str → Option Value} (F : Fr g L h' m) (eg : g = hideAll h as) : Stp h h' as := by
  subst eg
  exact ⟨fun b o e hb => F.keep b o (hideAll_get as e hb), Nat.le_of_lt (Nat.lt_of_le_of_lt (hideAll_size as h ▸ F.above) F.ns.lt)⟩
theorem stpLess {h h' : Heap} {c : Addr} {as : List Addr} {o : Obj} (S : Stp h h' (c :: as)) (e : h.get? c = some o) (e' : h'.get? c = some o) : Stp h h' as :=
  ⟨fun b ob q hb => by
    by_cases hc : b = c
    · subst hc; rw [e] at q; cases q; exact e'
    · exact S.keep b ob q fun hm => (List.mem_cons.mp hm).elim hc hb, S.size⟩
theorem Stp.refl (h : Heap) (as : List Addr) : Stp h h as := ⟨fun _ _ e _ => e, Nat.le_refl _⟩
theorem Stp.trans {h h' h'' : Heap} {as : List Addr} (S : Stp h h' as) (S' : Stp h' h'' as) : Stp h h'' as := ⟨fun b o e hb => S'.keep b o (S.keep b o e hb) hb, Nat.le_trans S.size S'.size⟩
theorem Stp.mono {h h' : Heap} {as as' : List Addr} (S : Stp h h' as) (hs : ∀ a ∈ as, a ∈ as') : Stp h h' as' := ⟨fun b o e hb => S.keep b o e fun q => hb (hs b q), S.size⟩
section
variable {g h h' : Heap} {L : Addr} {m : Str → Option Value} {news : List (Addr × Obj)}
/-- a call that changes nothing: the caller's facts stand -/
theorem frKeep (F : Fr g L h m) (S : Stp h h' []) : Fr g L h' m := ⟨F.ns.keeps fun b o e => S.keep b o e (fun q => nomatch q), fun b o e => S.keep b o (F.keep b o e) (fun q => nomatch q), F.above⟩
theorem newsKeep (N : News g L h news) (S : Stp h h' []) : News g L h' news := fun p hp => ⟨S.keep _ _ (N p hp).1 (fun q => nomatch q), (N p hp).2⟩
theorem gdOf (F : Fr g L h m) (X : (hd.heap_39 w.params).In g) (T : TopM mean mg mb g) (N : News g L h news) : Gd w mean mg mb (news.map (·.1)) h :=
  have q : ∀ b o, g.get? b = some o → (hideAll h (news.map (·.1))).get? b = some o := fun b o e => hideAll_get _ (F.keep b o e) fun q => by
    obtain ⟨p, hp, rfl⟩ := List.mem_map.mp q
    rw [(N p hp).2.2] at e; cases e
  ⟨X.keeps q, T.keeps q⟩
theorem gdOf0 (F : Fr g L h m) (X : (hd.heap_39 w.params).In g) (T : TopM mean mg mb g) : Gd w mean mg mb [] h := ⟨X.keeps F.keep, T.keeps F.keep⟩
end
end
noncomputable abbrev At (dp un : Nat) (fr : Option (List Env)) (gd : Option (List Code)) : Around := { handled := none, depth := dp, frames := fr, guards := gd, units := un }
theorem toAt {A : Around} (hh : A.handled = none) : A = At A.depth A.units A.frames A.guards := by
  obtain ⟨a, b, c, d, e⟩ := A
  dsimp only at hh
  subst hh
  rfl
noncomputable def AllNe (d : Nat) : List (Addr × Obj) → Prop
  | [] => True
  | p :: r => @Ne Nat p.1 d ∧ AllNe d r
theorem allNe_of {d : Addr} : ∀ {l : List (Addr × Obj)}, (∀ p ∈ l, p.1 ≠ d) → AllNe d l
  | [], _ => trivial
  | p :: _, h => ⟨h p (.head _), allNe_of fun q hq => h q (.tail _ hq)⟩
section
variable {g h h' : Heap} {L a : Addr} {o : Obj} {m : Str → Option Value} {news : List (Addr × Obj)}
theorem newsMore (F : Fr g L h m) (N : News g L h news) (S : Stp h h' []) (ha : h'.get? a = some o) (hf : h.get? a = none) : News g L h' ((a, o) :: news) ∧ AllNe a news := by
  refine ⟨fun p hp => ?_, allNe_of fun p hp e => ?_⟩
  · rcases List.mem_cons.mp hp with rfl | hp
    · refine ⟨ha, fun e => ?_, ?_⟩
      · obtain ⟨oL, _, _, hL, _⟩ := F.ns
        dsimp only at e
        rw [e, hL] at hf; cases hf
      · cases q : g.get? a with
        | none => rfl
        | some o' => have := F.keep _ _ q; rw [hf] at this; cases this
    · exact newsKeep N S p hp
  · have := (N p hp).1
    rw [e, hf] at this; cases this
theorem frMod {mod : List Addr} (F : Fr g L h m) (N : News g L h news) (S : Stp h h' mod) (hm : ∀ a ∈ mod, a ∈ news.map (·.1)) : Fr g L h' m := by
  obtain ⟨oL, es, ep, hL, r⟩ := F.ns
  refine ⟨⟨oL, es, ep, S.keep L oL hL fun q => ?_, r⟩, fun b ob e => S.keep b ob (F.keep b ob e) fun q => ?_, F.above⟩
  · obtain ⟨p, hp, e⟩ := List.mem_map.mp (hm L q)
    exact (N p hp).2.1 e
  · obtain ⟨p, hp, e'⟩ := List.mem_map.mp (hm b q)
    have := (N p hp).2.2
    try dsimp only at e'
    rw [e', e] at this; cases this
theorem newsIn {mod : List Addr} {p : Addr × Obj} (N : News g L h news) (S : Stp h h' mod) (hp : p ∈ news) (hm : p.1 ∉ mod) : h'.get? p.1 = some p.2 ∧ p.1 ≠ L ∧ g.get? p.1 = none := ⟨S.keep _ _ (N p hp).1 hm, (N p hp).2⟩
theorem newsAt (N : News g L h news) (hp : (a, o) ∈ news) {o' : Obj} (e : h'.get? a = some o') : h'.get? a = some o' ∧ a ≠ L ∧ g.get? a = none := ⟨e, (N _ hp).2⟩
theorem newsNew (F : Fr g L h m) (ha : h'.get? a = some o) (hf : h.get? a = none) : h'.get? a = some o ∧ a ≠ L ∧ g.get? a = none := by
  refine ⟨ha, fun e => ?_, ?_⟩
  · obtain ⟨oL, _, _, hL, _⟩ := F.ns
    rw [e, hL] at hf; cases hf
  · cases q : g.get? a with
    | none => rfl
    | some o' => have := F.keep _ _ q; rw [hf] at this; cases this
theorem newsCons {p : Addr × Obj} (h1 : h.get? p.1 = some p.2 ∧ p.1 ≠ L ∧ g.get? p.1 = none) (N : News g L h news) : News g L h (p :: news) := fun q hq => by
  rcases List.mem_cons.mp hq with rfl | hq
  · exact h1
  · exact N q hq
theorem neNews (N : News g L h news) (hf : h.get? a = none) : ∀ p ∈ news, p.1 ≠ a := fun p hp e => by
  have := (N p hp).1
  rw [e, hf] at this; cases this
theorem freshOf0 (N : News g L h' news) (eg : g = hideAll h []) (hm : (a, o) ∈ news) : h.get? a = none := by
  subst eg; exact (N _ hm).2.2
theorem freshOf {as : List Addr} (N : News g L h' news) (eg : g = hideAll h as) (hm : (a, o) ∈ news) (ha : a ∉ as) : h.get? a = none := by
  subst eg
  cases q : h.get? a with
  | none => rfl
  | some o' => have := (N _ hm).2.2; rw [hideAll_get _ q ha] at this; cases this
end
end Mine

end PB0
section PC2
open PySem PySem.W PySem.Calls PyProof.Rows
set_option Elab.async false
set_option maxRecDepth 100000
namespace Mine
section
variable {prog : Program} {w : World} {A : Around} {E : Value → Shared → Prop} {s : Shared}
theorem sub_tup : isSubtype (.type "tuple") (.type "tuple") = pure true := by rw [isSubtype_type]; kernel_rfl
theorem sub_str : isSubtype (.type "str") (.type "str") = pure true := by rw [isSubtype_type]; kernel_rfl
theorem issub_inner {k : Value} {d : Int} {tk : Tok} {Q : Fin → Shared → Prop} (hk : k = .int d tk) (hq : Q (.done (.ret (.bool true))) s) :
    wpAny (model prog w) A (Builtin.«issubclass.nested» ⟨[.type "str", .type "str", k], []⟩) Q E s := by
  subst hk
  repeat (any_goals (first | assumption | (rw [if_pos (show _ = true from by decide)]) | (rw [sub_str]) | wp_step))
theorem plain_issub_n : plainId "issubclass.nested" = true := by decide +kernel
theorem kind_issub_n : builtinKind "issubclass.nested" = none := by decide +kernel
theorem args_issub_n (a b c : Value) : argsOk "issubclass.nested" ⟨[a, b, c], []⟩ := by unfold argsOk; kernel_rfl
theorem issub_nested {t : Addr} {n : Nat} {Q : Fin → Shared → Prop} (ht : s.heap.get? t = some { cls := .type "tuple", data := .seq #[.type "str", .type "bytes"] n }) (hq : Q (.done (.ret (.bool true))) s) :
    wpAny (model prog w) A (Builtin.«issubclass.nested» ⟨[.type "str", .ref t, rawInt 0], []⟩) Q E s := by
  have hT : s.TypeIs (.ref t) "tuple" := ⟨_, ht, rfl⟩
  repeat (any_goals (first | assumption | (rw [sub_tup]) | (with_reducible refine call_function_entry kind_issub_n plain_issub_n PySem.F.entry_issubclass_nested (args_issub_n _ _ _) (issub_inner rfl ⟨_, rfl, ?_⟩)) | wp_step))
theorem issub_call {t : Addr} {n : Nat} {Q : Value → Shared → Prop} (ht : s.heap.get? t = some { cls := .type "tuple", data := .seq #[.type "str", .type "bytes"] n }) (hq : Q (.bool true) s) :
    wpAny (model prog w) A (call (.builtin "issubclass") [.type "str", .ref t]) Q E s :=
  call_issubclass (S := fun A' R s' => s'.heap.get? t = some { cls := .type "tuple", data := .seq #[.type "str", .type "bytes"] n } ∧ R (.ok (.ret (.bool true))) s') (fun _ _ _ _ _ hs => issubclass_outer (issub_nested hs.1 hs.2)) ⟨ht, hq⟩
end
end Mine

end PC2
section PCommon
open PySem PySem.W PySem.Calls PyProof.Rows
local macro_rules | `(tactic| walk_at "call builtin:issubclass") => `(tactic| (k_here; k_dflt (refine' Mine.issub_call (News.get (by k_asm) (by k_mem)) ?_)))
local macro_rules | `(tactic| tb_start) => `(tactic| (simp only [depth_under_make, depth_under_kw, depth_in1, depth_deeper, Around.in1_depth, Around.in1_units, Around.deeper_units, Around.mark_units, units_in1, units_deeper, recursionLimit]; first | exact Mine.room 0 (by with_reducible assumption) (by rfl) | exact Mine.room 1 (by with_reducible assumption) (by rfl) | exact Mine.room 3 (by with_reducible assumption) (by rfl) | lia))
local macro_rules | `(tactic| k_ne) => `(tactic| with_reducible first | exact Nat.ne_of_lt (by assumption) | exact Nat.ne_of_gt (by assumption) | exact Mine.nlt 0 | exact Mine.ngt 0 | exact Mine.nlt 1 | exact Mine.ngt 1 | exact Mine.nlt 2 | exact Mine.ngt 2 | exact Mine.nla 1 (by assumption) | exact Mine.nga 1 (by assumption) | exact Mine.nla 2 (by assumption) | exact Mine.nga 2 (by assumption) | exact Mine.nla 3 (by assumption) | exact Mine.nga 3 (by assumption) | exact Mine.nla 4 (by assumption) | exact Mine.nga 4 (by assumption) | exact Nat.ne_of_lt (And.left (by assumption)) | exact Nat.ne_of_gt (And.left (by assumption)) | exact Nat.ne_of_lt (And.left (And.right (by assumption))) | exact Nat.ne_of_gt (And.left (And.right (by assumption))) | (refine neN ?_; (try dsimp only); lia))
local macro_rules | `(tactic| ktr_rel) => `(tactic| (
  refine wpAny_call ?_
  refine' Mine.enter (news := []) ?k0 ?k1 ?k2 ?k3 ?k4 ?k5 ?k6 ?_ ?c2 ?c3 ?c4 ?c5
  case k0 => assumption
  case k1 => exact fun _ h => nomatch h
  case k2 => k_is
  case k3 => k_is
  case k4 => tb_start
  case k5 => exact BindsTo.of_eq rfl
  case k6 => exact locs rfl
  case c2 => exact rfl
  case c3 => exact rfl
  case c4 => exact rfl
  case c5 => decide
  intro g' L' h' F' N' X' T' eg eL
  (try dsimp only); (try k_fold)))
local macro_rules | `(tactic| tb_rel) => `(tactic| (
  refine wpAny_call ?_
  refine' Mine.enterStar ?k0 ?k2 ?k3 ?k4 ?kP ?kG ?k6 ?_ ?c2 ?c3 ?c4 ?c5
  case k0 => assumption
  case k2 => k_is
  case k3 => k_is
  case k4 => tb_start
  case kP => exact rfl
  case kG => exact fun _ => rfl
  case k6 => exact fun _ => locs rfl
  case c2 => exact rfl
  case c3 => exact rfl
  case c4 => exact rfl
  case c5 => decide
  intro D' g' L' h' F' N' X' T' eg S0
  (try dsimp only); (try k_fold)))

section PD1
theorem Mine.rs_D1 : True := by
  w_top off
  first | walk1 | trivial
open PySem PySem.W PySem.Calls PyProof.Rows
set_option Elab.async false
set_option maxRecDepth 100000
set_option pp.deepTerms false
set_option pp.deepTerms.threshold 8
namespace Mine
theorem fillK1 : (PySem.Challenge.rw_il0068_01 = PySem.Challenge.rw_il0068_01 ∧ hd.heap_39 = hd.heap_39) := by k_fill; exact ⟨rfl, rfl⟩
section
variable {w : World} {mean : ExcName → Option Value} {mg mb : Str → Option Value} {A : Around} {s : Shared} {Q E : Value → Shared → Prop} {g : Heap} {L : Addr} {m : Str → Option Value} {news : List (Addr × Obj)} {dp un : Nat} {fr : Option (List Env)} {gd : Option (List Code)}
set_option maxHeartbeats 4000000 in
theorem fspath_ok {p : Str} {t : Tok}
   (G : Gd w mean mg mb [] s.heap) (hdp : dp < 500) (_hun : un < 500)
   (ret : ∀ h' tk, Stp s.heap h' [] → Q (.str p t) { s with heap := h', toks := tk }) :
   wpAny (model prg w) (At dp un fr gd) (call (.ref 171) [.str p t]) Q E s := by
  ktr_rel
  k_steps
  all_goals exact ret _ _ (Fr.stp (by assumption) (by assumption))
theorem fspath_use {p : Str} {t : Tok} (F : Fr g L s.heap m) (N : News g L s.heap news) (X : (hd.heap_39 w.params).In g) (T : TopM mean mg mb g) (hh : A.handled = none) (hdp : A.depth < 500) (hun : A.units < 500)
   (ret : ∀ h' tk, Fr g L h' m → News g L h' news → Q (.str p t) { s with heap := h', toks := tk }) :
   wpAny (model prg w) A (call (.ref 171) [.str p t]) Q E s := by
  rw [toAt hh]; exact fspath_ok (gdOf0 F X T) hdp hun fun h' tk S => ret h' tk (frKeep F S) (newsKeep N S)
set_option maxHeartbeats 4000000 in
theorem getsep_ok {p : Str} {t : Tok}
   (G : Gd w mean mg mb [] s.heap) (hdp : dp < 500) (_hun : un < 500)
   (ret : ∀ h' tk t', Stp s.heap h' [] → Q (.str (Str.ofString "/") t') { s with heap := h', toks := tk }) :
   wpAny (model prg w) (At dp un fr gd) (call (.ref 185) [.str p t]) Q E s := by
  ktr_rel
  k_steps
  all_goals exact ret _ _ _ (Fr.stp (by assumption) (by assumption))
theorem getsep_use {p : Str} {t : Tok} (F : Fr g L s.heap m) (N : News g L s.heap news) (X : (hd.heap_39 w.params).In g) (T : TopM mean mg mb g) (hh : A.handled = none) (hdp : A.depth < 500) (hun : A.units < 500)
   (ret : ∀ h' tk t', Fr g L h' m → News g L h' news → Q (.str (Str.ofString "/") t') { s with heap := h', toks := tk }) :
   wpAny (model prg w) A (call (.ref 185) [.str p t]) Q E s := by
  rw [toAt hh]; exact getsep_ok (gdOf0 F X T) hdp hun fun h' tk t' S => ret h' tk t' (frKeep F S) (newsKeep N S)
local macro_rules | `(tactic| walk_at "call ref") => `(tactic| (k_here; k_dflt (first
  | (refine' fspath_use (by k_asm) (by k_asm) (by k_asm) (by k_asm) (by exact rfl) (by tb_start) (by tb_start)  ?_; k_whole; intro h' tk' F' N'; (try k_sweep))
  | (refine' getsep_use (by k_asm) (by k_asm) (by k_asm) (by k_asm) (by exact rfl) (by tb_start) (by tb_start)  ?_; k_whole; intro h' tk' t' F' N'; (try k_sweep)))))
noncomputable def baseF (p : Str) : Str := Txt.slice p (some (Txt.rfind p (Str.ofString "/") + 1)) none
noncomputable def headF (p : Str) : Str := Txt.slice p none (some (Txt.rfind p (Str.ofString "/") + 1))
noncomputable def dirF (p : Str) : Str := Txt.rstripChars (headF p) (Str.ofString "/")
structure PathOk (p : Str) : Prop where
  len : p.length ≤ 1000
  ne : (headF p).length ≠ 0
  ns : (headF p != Txt.mul (Str.ofString "/") (headF p).length) = true
set_option maxHeartbeats 4000000 in
theorem basename_ok {p : Str} {t : Tok} (hp : p.length ≤ 1000)
   (G : Gd w mean mg mb [] s.heap) (hdp : dp < 450) (hun : un < 450)
   (ret : ∀ h' tk t', Stp s.heap h' [] → Q (.str (baseF p) t') { s with heap := h', toks := tk }) :
   wpAny (model prg w) (At dp un fr gd) (call (.ref 206) [.str p t]) Q E s := by
  ktr_rel
  k_steps
  all_goals exact ret _ _ _ (Fr.stp (by assumption) (by assumption))
set_option maxHeartbeats 4000000 in
theorem dirname_ok {p : Str} {t : Tok} (hp : PathOk p)
   (G : Gd w mean mg mb [] s.heap) (hdp : dp < 450) (hun : un < 450)
   (ret : ∀ h' tk t', Stp s.heap h' [] → Q (.str (dirF p) t') { s with heap := h', toks := tk }) :
   wpAny (model prg w) (At dp un fr gd) (call (.ref 213) [.str p t]) Q E s := by
  have hlen := hp.len
  have hn1 := hp.ne
  have hn2 := hp.ns
  unfold headF at hn1 hn2
  ktr_rel
  k_steps
  all_goals first | exact ret _ _ _ (Fr.stp (by assumption) (by assumption)) | (exfalso; lia) | (exfalso; simp_all)
set_option maxHeartbeats 4000000 in
theorem split_ok {p : Str} {t : Tok} (hp : PathOk p)
   (G : Gd w mean mg mb [] s.heap) (hdp : dp < 450) (hun : un < 450)
   (ret : ∀ h' tk a t' t'', Stp s.heap h' [] → h'.get? a = some { cls := .type "tuple", data := .seq #[.str (dirF p) t', .str (baseF p) t''] } → s.heap.get? a = none → Q (.ref a) { s with heap := h', toks := tk }) :
   wpAny (model prg w) (At dp un fr gd) (call (.ref 199) [.str p t]) Q E s := by
  have hlen := hp.len
  have hn1 := hp.ne
  have hn2 := hp.ns
  unfold headF at hn1 hn2
  ktr_rel
  k_steps
  all_goals first | exact ret _ _ _ _ _ (Fr.stp (by assumption) (by assumption)) (News.get (by assumption) (.head _)) (freshOf0 (by assumption) (by assumption) (.head _)) | (exfalso; lia) | (exfalso; simp_all)
structure JoinOk (a b : Str) : Prop where
  la : a.length ≤ 1000
  lb : b.length ≤ 1000
  ne : a.length ≠ 0
  sb : Txt.startswith b (Str.ofString "/") = false
  ea : Txt.endswith a (Str.ofString "/") = false
set_option maxHeartbeats 4000000 in
theorem join_ok {a b : Str} {t u : Tok} (hj : JoinOk a b)
   (G : Gd w mean mg mb [] s.heap) (hdp : dp < 450) (hun : un < 450)
   (ret : ∀ h' tk t', Stp s.heap h' [] → Q (.str (a ++ (Str.ofString "/" ++ b)) t') { s with heap := h', toks := tk }) :
   wpAny (model prg w) (At dp un fr gd) (call (.ref 192) [.str a t, .str b u]) Q E s := by
  obtain ⟨ha, hb, hn, hs, he⟩ := hj
  tb_rel
  k_steps
  all_goals first | exact ret _ _ _ (Fr.stp (by assumption) (by assumption)) | (exfalso; lia) | (exfalso; simp_all)
end
end Mine

end PD1
section PS1
open PySem PySem.W PySem.Calls PyProof.Rows
set_option Elab.async false
set_option maxRecDepth 100000
namespace Mine
noncomputable def nm (p : Nat) : Str := ⟨#[97 + p]⟩
noncomputable def fo (p : Nat) : Str := ⟨#[47, 97 + p]⟩
noncomputable def pa (k n : Nat) : Str := ⟨#[47, 97 + k, 47, 97 + n]⟩
noncomputable def dg (i : Nat) : Str := ⟨#[48 + i]⟩
noncomputable def en (o t : Nat) : Str := ⟨#[97 + o, 47, 97 + t]⟩
noncomputable def tl (t i : Nat) : Str := ⟨#[97 + t, 47, 48 + i]⟩
noncomputable def rd (o t i : Nat) : Str := ⟨#[97 + o, 47, 97 + t, 47, 48 + i]⟩
noncomputable def okPath (p : Str) : Bool := decide (p.length ≤ 1000) && decide ((headF p).length ≠ 0) && (headF p != Txt.mul (Str.ofString "/") (headF p).length)
theorem pathOk_of {p : Str} (h : okPath p = true) : PathOk p := by
  simp only [okPath, Bool.and_eq_true, decide_eq_true_eq] at h
  exact ⟨h.1.1, h.1.2, h.2⟩
theorem pa_facts : ∀ k, k < 5 → ∀ n, n < 5 → okPath (pa k n) = true ∧ dirF (pa k n) = fo k ∧ baseF (pa k n) = nm n := by decide +kernel
theorem rd_facts : ∀ k, k < 5 → ∀ n, n < 5 → ∀ i, i < 7 → okPath (rd k n i) = true ∧ dirF (rd k n i) = en k n := by decide +kernel
theorem en_facts : ∀ k, k < 5 → ∀ n, n < 5 → okPath (en k n) = true ∧ dirF (en k n) = nm k ∧ baseF (en k n) = nm n := by decide +kernel
noncomputable def okJoin (a b r : Str) : Bool := decide (a.length ≤ 1000) && decide (b.length ≤ 1000) && decide (a.length ≠ 0) && (Txt.startswith b (Str.ofString "/") == false) && (Txt.endswith a (Str.ofString "/") == false) && (a ++ (Str.ofString "/" ++ b) == r)
theorem joinOk_of {a b r : Str} (h : okJoin a b r = true) : JoinOk a b ∧ a ++ (Str.ofString "/" ++ b) = r := by
  simp only [okJoin, Bool.and_eq_true, decide_eq_true_eq, beq_iff_eq] at h
  exact ⟨⟨h.1.1.1.1.1, h.1.1.1.1.2, h.1.1.1.2, h.1.1.2, h.1.2⟩, h.2⟩
theorem join_tl : ∀ t, t < 5 → ∀ i, i < 7 → okJoin (nm t) (dg i) (tl t i) = true := by decide +kernel
theorem join_rd : ∀ o, o < 5 → ∀ t, t < 5 → ∀ i, i < 7 → okJoin (nm o) (tl t i) (rd o t i) = true := by decide +kernel
theorem join_pa : ∀ k, k < 5 → ∀ n, n < 5 → okJoin (fo k) (nm n) (pa k n) = true := by decide +kernel
theorem name_fo : ∀ k, k < 5 → Str.ofString "/" ++ nm k = fo k := by decide +kernel
theorem fmod5 (x : Int) : 0 ≤ x.fmod 5 ∧ x.fmod 5 < 5 := ⟨Int.fmod_nonneg_of_pos x (by decide), Int.fmod_lt_of_pos x (by decide)⟩
theorem item_nm : ∀ p, p < 5 → Txt.item (Str.ofString "abcde") ((p : Nat) : Int) = nm p := by decide +kernel
theorem text_dg : ∀ i, i < 7 → Str.ofString (toString ((i : Nat) : Int)) = dg i := by decide +kernel
theorem item_fmod (x : Int) : Txt.item (Str.ofString "abcde") (x.fmod 5) = nm (x.fmod 5).toNat := by
  have h := fmod5 x
  rw [← item_nm _ (by lia), Int.toNat_of_nonneg h.1]
theorem text_of {k : Int} (h0 : 0 ≤ k) (h7 : k < 7) : Str.ofString (toString k) = dg k.toNat := by
  rw [← text_dg _ (by lia), Int.toNat_of_nonneg h0]
theorem jA (x : Int) {k : Int} (h0 : 0 ≤ k) (h7 : k < 7) : okJoin (Txt.item (Str.ofString "abcde") (x.fmod 5)) (Str.ofString (toString k)) (tl (x.fmod 5).toNat k.toNat) = true := by
  have h := fmod5 x
  rw [item_fmod, text_of h0 h7]
  exact join_tl _ (by lia) _ (by lia)
theorem jB (x y : Int) {k : Int} (h0 : 0 ≤ k) (h7 : k < 7) : okJoin (Txt.item (Str.ofString "abcde") (x.fmod 5)) (tl (y.fmod 5).toNat k.toNat) (rd (x.fmod 5).toNat (y.fmod 5).toNat k.toNat) = true := by
  have h := fmod5 x
  have h' := fmod5 y
  rw [item_fmod]
  exact join_rd _ (by lia) _ (by lia) _ (by lia)
end Mine

end PS1
section PD2
theorem Mine.rs_D2 : True := by
  w_top off
  first | walk1 | trivial
open PySem PySem.W PySem.Calls PyProof.Rows
set_option Elab.async false
set_option maxRecDepth 100000
set_option pp.deepTerms false
set_option pp.deepTerms.threshold 8
namespace Mine
theorem fillK2 : (PySem.Challenge.rw_il0068_01 = PySem.Challenge.rw_il0068_01 ∧ hd.heap_39 = hd.heap_39) := by k_fill; exact ⟨rfl, rfl⟩
section
variable {w : World} {mean : ExcName → Option Value} {mg mb : Str → Option Value} {A : Around} {s : Shared} {Q E : Value → Shared → Prop} {g : Heap} {L : Addr} {m : Str → Option Value} {news : List (Addr × Obj)} {dp un : Nat} {fr : Option (List Env)} {gd : Option (List Code)}
theorem split_use {p : Str} {t : Tok} (F : Fr g L s.heap m) (N : News g L s.heap news) (X : (hd.heap_39 w.params).In g) (T : TopM mean mg mb g) (hh : A.handled = none) (hdp : A.depth < 450) (hun : A.units < 450) (hp : PathOk p)
   (ret : ∀ a t' t'' h' tk, Fr g L h' m → News g L h' ((a, { cls := .type "tuple", data := .seq #[.str (dirF p) t', .str (baseF p) t''] }) :: news) → AllNe a news → Q (.ref a) { s with heap := h', toks := tk }) :
   wpAny (model prg w) A (call (.ref 199) [.str p t]) Q E s := by
  rw [toAt hh]; exact split_ok hp (gdOf0 F X T) hdp hun fun h' tk a t' t'' S ha hf => ret a t' t'' h' tk (frKeep F S) (newsMore F N S ha hf).1 (newsMore F N S ha hf).2
local macro_rules | `(tactic| walk_at "call ref") => `(tactic| (k_here; k_dflt (first
  | (refine' split_use (by k_asm) (by k_asm) (by k_asm) (by k_asm) (by exact rfl) (by tb_start) (by tb_start) (by first | assumption | fail) ?_; k_whole; intro a' t' t'' h' tk' F' N' ne'; (try simp only [AllNe, and_true] at ne'); (try k_sweep)))))
set_option maxHeartbeats 4000000 in
theorem ends_ok {p : Str} {t : Tok} (hp : PathOk p) (hp2 : PathOk (dirF p))
   (G : Gd w mean mg mb [] s.heap) (hdp : dp < 440) (hun : un < 400)
   (ret : ∀ h' tk a t' t'', Stp s.heap h' [] → h'.get? a = some { cls := .type "tuple", data := .seq #[.str (dirF (dirF p)) t', .str (baseF (dirF p)) t''] } → s.heap.get? a = none → Q (.ref a) { s with heap := h', toks := tk }) :
   wpAny (model prg w) (At dp un fr gd) (call (.ref 227) [.str p t]) Q E s := by
  ktr_rel
  k_steps
  all_goals first | exact ret _ _ _ _ _ (Fr.stp (by assumption) (by assumption)) (News.get (by assumption) (.head _)) (freshOf0 (by assumption) (by assumption) (.head _)) | (exfalso; lia) | (exfalso; simp_all)
end
end Mine

end PD2
section PD3
theorem Mine.rs_D3 : True := by
  w_top off
  first | walk1 | trivial
open PySem PySem.W PySem.Calls PyProof.Rows
set_option Elab.async false
set_option maxRecDepth 100000
set_option pp.deepTerms false
set_option pp.deepTerms.threshold 20
namespace Mine
theorem fillK3 : (PySem.Challenge.rw_il0068_01 = PySem.Challenge.rw_il0068_01 ∧ hd.heap_39 = hd.heap_39) := by k_fill; exact ⟨rfl, rfl⟩
section
variable {w : World} {mean : ExcName → Option Value} {mg mb : Str → Option Value} {A : Around} {s : Shared} {Q E : Value → Shared → Prop} {g : Heap} {L : Addr} {m : Str → Option Value} {news : List (Addr × Obj)} {dp un : Nat} {fr : Option (List Env)} {gd : Option (List Code)}
noncomputable def oneF (c : Int) : Nat := (c.fmod 5).toNat
noncomputable def twoF (c : Int) : Nat := ((c.fmod 5 + 1 + (c.fdiv 5).fmod 4).fmod 5).toNat
noncomputable def rankF (i : Nat) (c : Int) : Int := c.fdiv 20 * 7 + i
noncomputable def roadF (i : Nat) (c : Int) : Str := rd (oneF c) (twoF c) i
theorem join_use {a b : Str} {t u : Tok} (F : Fr g L s.heap m) (N : News g L s.heap news) (X : (hd.heap_39 w.params).In g) (T : TopM mean mg mb g) (hh : A.handled = none) (hdp : A.depth < 450) (hun : A.units < 450) (hj : JoinOk a b)
   (ret : ∀ h' tk t', Fr g L h' m → News g L h' news → Q (.str (a ++ (Str.ofString "/" ++ b)) t') { s with heap := h', toks := tk }) :
   wpAny (model prg w) A (call (.ref 192) [.str a t, .str b u]) Q E s := by
  rw [toAt hh]; exact join_ok hj (gdOf0 F X T) hdp hun fun h' tk t' S => ret h' tk t' (frKeep F S) (newsKeep N S)
theorem joinR_use {a b r : Str} {t u : Tok} (F : Fr g L s.heap m) (N : News g L s.heap news) (X : (hd.heap_39 w.params).In g) (T : TopM mean mg mb g) (hh : A.handled = none) (hdp : A.depth < 450) (hun : A.units < 450) (hj : okJoin a b r = true)
   (ret : ∀ h' tk t', Fr g L h' m → News g L h' news → Q (.str r t') { s with heap := h', toks := tk }) :
   wpAny (model prg w) A (call (.ref 192) [.str a t, .str b u]) Q E s := by
  refine join_use F N X T hh hdp hun (joinOk_of hj).1 ?_
  rw [(joinOk_of hj).2]
  exact ret
end
end Mine

end PD3
section PD4
theorem Mine.rs_D4 : True := by
  w_top off
  first | walk1 | trivial
open PySem PySem.W PySem.Calls PyProof.Rows
set_option Elab.async false
set_option maxRecDepth 100000
set_option pp.deepTerms false
set_option pp.deepTerms.threshold 8
namespace Mine
theorem fillKD4 : (PySem.Challenge.rw_il0068_01 = PySem.Challenge.rw_il0068_01 ∧ hd.heap_39 = hd.heap_39) := by k_fill; exact ⟨rfl, rfl⟩
/-- the dict of an Entry as __init__ leaves it, with these values -/
noncomputable def entD (P : Params) (t1 t2 t3 t4 : Tok) (u l d r : Value) : List DictEntry :=
  [⟨PyData.keyHash P (Str.ofString "useragents"), .str (Str.ofString "useragents") t1, u⟩, ⟨PyData.keyHash P (Str.ofString "rulelines"), .str (Str.ofString "rulelines") t2, l⟩,
   ⟨PyData.keyHash P (Str.ofString "delay"), .str (Str.ofString "delay") t3, d⟩, ⟨PyData.keyHash P (Str.ofString "req_rate"), .str (Str.ofString "req_rate") t4, r⟩]
section
variable {w : World} {mean : ExcName → Option Value} {mg mb : Str → Option Value} {A : Around} {s : Shared} {Q E : Value → Shared → Prop} {g : Heap} {L : Addr} {m : Str → Option Value} {news : List (Addr × Obj)} {dp un : Nat} {fr : Option (List Env)} {gd : Option (List Code)}
set_option maxHeartbeats 40000000 in
theorem init_ok {x dx : Addr} {R : Result → Shared → Prop} (hx : s.heap.get? x = some (instObj 59 dx)) (hdx : s.heap.get? dx = some (dictOf [] 0)) (hne : @LT.lt Nat _ dx x)
   (G : Gd w mean mg mb [x, dx] s.heap) (hdp : dp < 480) (hun : un < 480)
   (ret : ∀ h' tk u l t1 t2 t3 t4, Stp s.heap h' [dx] → h'.get? dx = some (dictOf (entD w.params t1 t2 t3 t4 (.ref u) (.ref l) .none .none) 4) → h'.get? u = some (W.listOf #[] 0) → h'.get? l = some (W.listOf #[] 0) →
      s.heap.get? u = none → s.heap.get? l = none → @LT.lt Nat _ u l → @LT.lt Nat _ x u → R (.ok (.ret .none)) { s with heap := h', toks := tk }) :
   codeAny (model prg w) (At dp un fr gd) (.call (.ref 35) ⟨[.ref x], []⟩) R s := by
  refine' enter (news := [(x, instObj 59 dx), (dx, dictOf [] 0)]) ?k0 ?k1 ?k2 ?k3 ?k4 ?k5 ?k6 ?_ ?c2 ?c3 ?c4 ?c5
  case k0 => assumption
  case k1 => exact fun p hp => by rcases List.mem_cons.mp hp with rfl | hp; exact hx; rcases List.mem_singleton.mp hp with rfl; exact hdx
  case k2 => k_is
  case k3 => k_is
  case k4 => tb_start
  case k5 => exact BindsTo.of_eq rfl
  case k6 => exact locs rfl
  case c2 => exact rfl
  case c3 => exact rfl
  case c4 => exact rfl
  case c5 => decide
  intro g' L' h' F' N' X' T' eg eL
  (try dsimp only); (try k_fold)
  k_steps
  all_goals (have hS := Fr.stp (by assumption) (by assumption))
  all_goals (have hxx := News.get (a := x) (by assumption) (by k_mem))
  all_goals refine ret _ _ ?u ?l _ _ _ _ (stpLess hS hx hxx) (News.get (by assumption) (by k_mem)) (News.get (by assumption) (.tail _ (.head _))) (News.get (by assumption) (.head _)) ?f1 ?f2 (by lia) (by have := Heap.lt_size hx; lia)
  all_goals refine freshOf (as := [x, dx]) (by assumption) (by assumption) (by k_mem) (fun hm => ?_)
  all_goals exact (List.mem_cons.mp hm).elim (fun e => absurd e (neN (by lia))) fun hm => absurd (List.mem_singleton.mp hm) (neN (by lia))
/-- Entry() -/
theorem entry_use (F : Fr g L s.heap m) (N : News g L s.heap news) (X : (hd.heap_39 w.params).In g) (T : TopM mean mg mb g) (hh : A.handled = none) (hdp : A.depth < 450) (hun : A.units < 450)
   (hm : makesIn (hd.heap_39 w.params) 59 = true) (hi : findIn (hd.heap_39 w.params) (.ref 59) (Str.ofString "__init__") = some (some (.ref 35))) (hf : isFn (hd.heap_39 w.params) (.ref 35) = true)
   (ret : ∀ x dx u l t1 t2 t3 t4 h' tk, Fr g L h' m → News g L h' ((x, instObj 59 dx) :: (dx, dictOf (entD w.params t1 t2 t3 t4 (.ref u) (.ref l) .none .none) 4) :: (u, W.listOf #[] 0) :: (l, W.listOf #[] 0) :: news) →
      AllLt dx news → @LT.lt Nat _ dx x → @LT.lt Nat _ x u → @LT.lt Nat _ u l → Q (.ref x) { s with heap := h', toks := tk }) :
   wpAny (model prg w) A (call (.ref 59) []) Q E s := by
  refine call_cls F X N hm hi hf fun x dx h' F' N' l1 l2 => ?_
  rw [toAt (A := A.under (.builtin "type.__call__" ⟨[.ref 59], []⟩)) hh]
  have e1 : (Code.builtin "type.__call__" ⟨[.ref 59], []⟩).weight = 1 := by decide +kernel
  have e2 : (Code.builtin "type.__call__" ⟨[.ref 59], []⟩).cUnits ≤ 10 := by decide +kernel
  have G := gdOf F' X T N'
  refine init_ok (N'.get (.head _)) (N'.get (.tail _ (.head _))) l2 (G.mono (Stp.refl _ []) (fun _ h => nomatch h) ?_) ?_ ?_ ?_
  · intro a ha
    rcases List.mem_cons.mp ha with rfl | ha
    · exact .head _
    · rcases List.mem_singleton.mp ha with rfl; exact .tail _ (.head _)
  · show A.depth + _ < 480; rw [e1]; lia
  · show A.units + _ < 480; lia
  · intro h2 tk u l t1 t2 t3 t4 S hd1 hu hl fu fl ul xu
    have hdxx : ∀ p ∈ news, p.1 ∉ [dx] := fun p hp q => absurd (l1 p hp) (by rw [List.mem_singleton.mp q]; exact Nat.lt_irrefl _)
    refine ⟨rfl, ret x dx u l t1 t2 t3 t4 h2 tk (frMod F' N' S fun a ha => by rw [List.mem_singleton.mp ha]; exact .tail _ (.head _)) ?_ (allLt_of l1) l2 xu ul⟩
    refine newsCons (newsIn N' S (.head _) (fun q => absurd (List.mem_singleton.mp q) (Nat.ne_of_gt l2))) (newsCons (newsAt N' (.tail _ (.head _)) hd1) (newsCons (newsNew F' hu fu) (newsCons (newsNew F' hl fl) fun p hp => newsIn N' S (.tail _ (.tail _ hp)) (hdxx p hp))))
end
end Mine

end PD4
section PB1
theorem Mine.rs_B1 : True := by
  w_top off
  first | walk1 | trivial
open PySem PySem.W PySem.Calls PyProof.Rows
set_option Elab.async false
set_option maxRecDepth 100000
set_option pp.deepTerms false
set_option pp.deepTerms.threshold 8
namespace Mine
structure EndsOk (p a b : Str) : Prop where
  h1 : PathOk p
  h2 : PathOk (dirF p)
  ha : dirF (dirF p) = a
  hb : baseF (dirF p) = b
theorem ends_rd {o t i : Nat} (ho : o < 5) (ht : t < 5) (hi : i < 7) : EndsOk (rd o t i) (nm o) (nm t) := by
  have r := rd_facts o ho t ht i hi
  have e := en_facts o ho t ht
  refine ⟨pathOk_of r.1, ?_, ?_, ?_⟩ <;> rw [r.2]
  · exact pathOk_of e.1
  · exact e.2.1
  · exact e.2.2
theorem fillKB1 : (PySem.Challenge.rw_il0068_01 = PySem.Challenge.rw_il0068_01 ∧ hd.heap_39 = hd.heap_39) := by k_fill; exact ⟨rfl, rfl⟩
theorem codeHd_of {w : World} {h : Heap} (X : (hd.heap_39 w.params).In h) : CodeHd h 233 229 :=
  ⟨_, _, _, _, _, _, _, _, _, X 233 _ (by k_is), rfl, rfl, rfl, rfl, rfl, rfl, rfl, rfl, by decide⟩
section
variable {w : World} {mean : ExcName → Option Value} {mg mb : Str → Option Value} {A : Around} {s : Shared} {Q E : Value → Shared → Prop} {g : Heap} {L : Addr} {m : Str → Option Value} {news : List (Addr × Obj)} {dp un : Nat} {fr : Option (List Env)} {gd : Option (List Code)}
theorem nameX_FB {M : Model} {cn x : Str} {cs : Scope} {a : Addr} {ccd : Value} {cl : List (Str × Addr)} {c : Addr} {o : Obj} {v : Value} {pos : Pos} (F : Fr g L s.heap m) (hc : cl.lookup x = some c) (ho : g.get? c = some o) (hd : o.data = .cell (some v)) (h : Q v s)
    (hk : cs.kind = .function := by rfl) (hx : (envX cn cs L a ccd cl).kindOf x = some .free := by rfl) (hb : (x == ("__debug__" : Str)) = false := by decide) (hn : (x == ("__classdict__" : Str)) = false := by decide) :
    wpAny M A (eval (.Name x pos) (envX cn cs L a ccd cl)) Q E s := wpAny_Name (wpAny_loadName_free hk hx hc ⟨o, F.keep _ _ ho, hd⟩ h hn) hb
theorem dictItem {value slice : Expr} {d : Addr} {o : Obj} {kvs : List (Str × Value)} {k : Str} {t : Tok} {v : Value} (N : News g L s.heap news) (hp : (d, o) ∈ news) (hd : o.IsDictOf (strKind prg w) kvs) (hv : valueAt kvs k = some v) (h : Q v { s with toks := s.toks + 1 })
    (hs : subscripted slice false (.ref d) (.str k t) = operate [.ref d, .str k t] (getItem (.ref d) (.str k t)) := by with_unfolding_all rfl) :
    wpAny (model prg w) A (subscriptTail value slice (.ref d) (.str k t)) Q E s :=
  have hD : s.heap.DictOf (strKind prg w) d kvs := Heap.dictOf_iff.mpr ⟨o, N.get hp, hd⟩
  tail_any hD.typeIs slot_dict_getitem.lookup (wpAny_getItem_of (strKind_is prg w k t) hD.mapOf hv h) hs
theorem enterLam {prog : Program} {R : Result → Shared → Prop} {name qual : Str} {params : Arguments} {body : Expr} {scope : Scope} {cl : List (Str × Addr)} {pm ctv : Value} {c' : Addr} {f : Addr} {args : Args} {binds : List (Str × Value)}
    (G : Gd w mean mg mb (news.map (·.1)) s.heap) (hn : ∀ p ∈ news, s.heap.get? p.1 = some p.2) (ho : s.heap.get? f = some (kla_obj name qual params body scope cl pm c' ctv)) (hcd : s.heap.CodeRec (.ref c') qual) (hroom : A.depth < recursionLimit)
    (hbind : bindArgs (kla_fn name qual params body scope cl pm (.ref c') ctv) args = pure binds) (hloc : ∀ y ∈ binds, scope.names.lookup y.1 = some .local)
    (h : ∀ g L' h₁, Fr g L' h₁ (fun y => binds.reverse.lookup y) → News g L' h₁ news → (hd.heap_39 w.params).In g → TopM mean mg mb g → g = hideAll s.heap (news.map (·.1)) →
      wpAny (model prog w) (A.deeper (envX qual scope L' f (.ref c') cl)) (eval body (envX qual scope L' f (.ref c') cl))
        (fun v s' => R (.ok (.ret v)) s') (fun _ _ => False)
        { s with heap := h₁, toks := s.toks + binds.length })
    (hco : scope.isCoroutine = false) (hgen : scope.isGenerator = false) (hk : scope.kind = .function)
    (hcell : ∀ x ∈ scope.names, x.2 ≠ .cell) : codeAny (model prog w) A (.call (.ref f) args) R s := by
  have T : TopM mean mg mb s.heap := G.t.keeps fun b o e => of_hideAll _ e
  refine kla_callFunE hroom ho rfl hco hgen rfl hcd ?_
  rw [hbind]
  refine wpAny_pure (wpAny_newFunctionEnv hcell hloc (fun h₁ hns hsb => ⟨T.nolimit.fresh _ hsb, ?_⟩) hk)
  show codeAny _ _ (.expr body (envX qual scope s.heap.objs.size f (.ref c') cl)) _ _
  have hk₁ : ∀ b o, s.heap.get? b = some o → h₁.get? b = some o := fun b o e => hsb.extBut b o (Nat.ne_of_lt (Heap.lt_size e)) (Heap.get?_push_of_some _ e)
  exact kla_codeExpr (wpAny_mono (h _ s.heap.objs.size h₁ ⟨hns, fun b o e => hk₁ b o (of_hideAll _ e), Nat.le_of_eq (hideAll_size _ _)⟩
    (fun p hp => ⟨hk₁ _ _ (hn p hp), Nat.ne_of_lt (Heap.lt_size (hn p hp)), hideAll_none _ (List.mem_map_of_mem hp)⟩) G.k G.t rfl) (fun _ _ hl => hl) fun _ _ y => y.elim)
end
/-- what a rule's lambda answers, at any later heap that keeps g -/
noncomputable def LamOk (w : World) (mean : ExcName → Option Value) (mg mb : Str → Option Value) (g : Heap) (f : Addr) (reach : Int) (p : Addr) (one two : Str) : Prop :=
  ∀ (s : Shared) (dp un : Nat) (fr : Option (List Env)) (gd : Option (List Code)) (folder : Str) (tf : Tok) (pk : List (Str × Value)) (p1 p2 : Str) (u1 u2 : Tok) (R : Result → Shared → Prop),
   (∀ b o, g.get? b = some o → s.heap.get? b = some o) → Gd w mean mg mb [p] s.heap → s.heap.DictOf (strKind prg w) p pk → valueAt pk one = some (.str p1 u1) → valueAt pk two = some (.str p2 u2) → PathOk p1 → PathOk p2 → dp < 430 → un < 380 →
   (∀ h' tk t, Stp s.heap h' [] → R (.ok (.ret (.int (if (dirF p1 == folder) != (dirF p2 == folder) then reach else 0) t))) { s with heap := h', toks := tk }) →
   codeAny (model prg w) (At dp un fr gd) (.call (.ref f) ⟨[.str folder tf], []⟩) R s
noncomputable def RuleAt (w : World) (mean : ExcName → Option Value) (mg mb : Str → Option Value) (g : Heap) (x : Addr) (reach : Int) (p : Addr) (one two road : Str) : Prop :=
  ∃ dx es n f t, g.get? x = some (instObj 59 dx) ∧ g.get? dx = some (dictOf es n) ∧ getL (Str.ofString "allowance") es = some (some (.str road t)) ∧ getL (Str.ofString "applies_to") es = some (some (.ref f)) ∧ LamOk w mean mg mb g f reach p one two ∧ ∃ fo fd, g.get? f = some fo ∧ fo.data = .func fd
noncomputable def lamQual : Str := Str.ofString "_law_rule" ++ ".<locals>." ++ Str.ofString "<lambda>"
noncomputable def IsLamCode (oc : Obj) : Prop := ∃ vs t, oc.data = .fields vs ∧ vs[1]? = some (.str lamQual t)
theorem cellNe {w : World} {h : Heap} {c p : Addr} {oc : Obj} {v : Option Value} {pk : List (Str × Value)} (e : h.get? c = some oc) (hd : oc.data = .cell v) (D : h.DictOf (strKind prg w) p pk) : c ∉ [p] := fun hm => by
  rw [List.mem_singleton.mp hm] at e
  obtain ⟨o, ho, hk⟩ := Heap.dictOf_iff.mp D
  rw [e] at ho; cases ho
  obtain ⟨es, n, hp, hdd, _⟩ := hk
  rw [hd] at hdd; cases hdd
section
variable {w : World} {mean : ExcName → Option Value} {mg mb : Str → Option Value}
theorem rule_close {h h' : Heap} {x dx f c' c1 c2 c3 c4 p : Addr} {es : List DictEntry} {n : Nat} {road one two : Str} {t t2 u3 u4 : Tok} {reach : Int} {o1 o2 o3 o4 oc' : Obj} {name : Str} {params : Arguments} {body : Expr} {scope : Scope} {pm ctv : Value} {cl : List (Str × Addr)}
   (hx : h'.get? x = some (instObj 59 dx)) (fx : h.get? x = none) (hdx : h'.get? dx = some (dictOf es n)) (fd : h.get? dx = none)
   (ha : getL (Str.ofString "allowance") es = some (some (.str road t))) (hap : getL (Str.ofString "applies_to") es = some (some (.ref f)))
   (hf : h'.get? f = some (kla_obj name lamQual params body scope cl pm c' ctv)) (ff : h.get? f = none)
   (h1 : h'.get? c1 = some o1) (f1 : h.get? c1 = none) (d1 : o1.data = .cell (some (.int reach t2)))
   (h2 : h'.get? c2 = some o2) (f2 : h.get? c2 = none) (d2 : o2.data = .cell (some (.ref p)))
   (h3 : h'.get? c3 = some o3) (f3 : h.get? c3 = none) (d3 : o3.data = .cell (some (.str one u3)))
   (h4 : h'.get? c4 = some o4) (f4 : h.get? c4 = none) (d4 : o4.data = .cell (some (.str two u4)))
   (hlc : IsLamCode oc')
   (hbind : ∀ folder tf, bindArgs (kla_fn name lamQual params body scope cl pm (.ref c') ctv) ⟨[.str folder tf], []⟩ = pure [(Str.ofString "folder", .str folder tf)])
   (hloc : scope.names.lookup (Str.ofString "folder") = some .local)
   (hco : scope.isCoroutine = false) (hgen : scope.isGenerator = false) (hk : scope.kind = .function) (hcell : ∀ x ∈ scope.names, x.2 ≠ .cell)
   (hbody : ∀ (s : Shared) (dp un : Nat) (fr : Option (List Env)) (gd : Option (List Code)) (folder : Str) (tf : Tok) (pk : List (Str × Value)) (op : Obj) (p1 p2 : Str) (u1 u2 : Tok) (Q : Value → Shared → Prop) (g' : Heap) (L' : Addr),
     dp < 430 → un < 380 → op.IsDictOf (strKind prg w) pk → valueAt pk one = some (.str p1 u1) → valueAt pk two = some (.str p2 u2) → PathOk p1 → PathOk p2 →
     Fr g' L' s.heap (fun y => [(Str.ofString "folder", Value.str folder tf)].reverse.lookup y) → News g' L' s.heap [(p, op)] → (hd.heap_39 w.params).In g' → TopM mean mg mb g' →
     g'.get? c1 = some o1 → g'.get? c2 = some o2 → g'.get? c3 = some o3 → g'.get? c4 = some o4 →
     (∀ h'' tk t m r, r = (if (dirF p1 == folder) != (dirF p2 == folder) then reach else 0) → Fr g' L' h'' m → News g' L' h'' [(p, op)] → Q (.int r t) { s with heap := h'', toks := tk }) →
     wpAny (model prg w) ((At dp un fr gd).deeper (envX lamQual scope L' f (.ref c') cl)) (eval body (envX lamQual scope L' f (.ref c') cl)) Q (fun _ _ => False) s) :
   ∀ g2 : Heap, (∀ b o, h'.get? b = some o → h.get? b = none → g2.get? b = some o) → g2.get? c' = some oc' → RuleAt w mean mg mb g2 x reach p one two road := by
  intro g2 hk2 hc2
  refine ⟨dx, es, n, f, t, hk2 _ _ hx fx, hk2 _ _ hdx fd, ha, hap, ?_, _, _, hk2 _ _ hf ff, rfl⟩
  intro s dp un fr gd folder tf pk p1 p2 u1 u2 R hs G D v1 v2 ok1 ok2 hdp hun ret
  obtain ⟨op, hop, hD⟩ := Heap.dictOf_iff.mp D
  obtain ⟨vs, tq, e1, e2⟩ := hlc
  have k2 : ∀ b o, h'.get? b = some o → h.get? b = none → s.heap.get? b = some o := fun b o e q => hs b o (hk2 b o e q)
  refine enterLam (news := [(p, op)]) G (fun q hq => by rcases List.mem_singleton.mp hq with rfl; exact hop) (k2 _ _ hf ff) ⟨c', oc', vs, tq, rfl, hs _ _ hc2, e1, e2⟩ (by simp only [recursionLimit]; lia) (hbind folder tf) (fun y hy => by rcases List.mem_singleton.mp hy with rfl; exact hloc) ?_ hco hgen hk hcell
  intro g' L' h₁ F N X T eg
  have cc : ∀ c o v, h'.get? c = some o → h.get? c = none → o.data = .cell v → g'.get? c = some o := fun c o v e q dd => by
    rw [eg]; exact hideAll_get _ (k2 _ _ e q) (cellNe (k2 _ _ e q) dd D)
  refine hbody _ dp un fr gd folder tf pk op p1 p2 u1 u2 _ g' L' hdp hun hD v1 v2 ok1 ok2 F N X T (cc _ _ _ h1 f1 d1) (cc _ _ _ h2 f2 d2) (cc _ _ _ h3 f3 d3) (cc _ _ _ h4 f4 d4) ?_
  rintro h'' tk t m r rfl F'' N''
  have S := Fr.stp F'' eg
  exact ret h'' tk t (stpLess S hop (N''.get (.head _)))
end
end Mine

end PB1
section PL0
open PySem PySem.W PySem.Calls PyProof.Rows
set_option Elab.async false
set_option maxRecDepth 100000
namespace Mine
theorem loopT {prog : Program} {w : World} {A : Around} {s : Shared} {R : Result → Shared → Prop} {target : Expr} {it : Value} {body orelse : List Stmt} {env : Env} (I : Nat → Shared → Prop)
    (turn : ∀ n s, I n s → wpAny (model prog w) A (pyNext it) (fun r s₁ => match r with
      | none => wpAny (model prog w) A (execs orelse env) (fun f s₃ => R (.ok f) s₃) (fun _ _ => False) s₁
      | some v => wpAny (model prog w) A (letOwnedTupleGo target it v) (fun _ s₁' => wpAny (model prog w) A (assign target env v) (fun _ s₂ => wpAny (model prog w) A (execs body env) (fun f s₃ => match f with
          | .next | .cont => ∃ m, m < n ∧ I m s₃
          | .brk => R (.ok .next) s₃
          | .ret v => R (.ok (.ret v)) s₃) (fun _ _ => False) s₂) (fun _ _ => False) s₁') (fun _ _ => False) s₁) (fun _ _ => False) s)
    (n : Nat) (h : I n s) : codeAny (model prog w) A (.forLoop target it body orelse env) R s := by
  refine codeAny_loop' rfl I (fun n s hI => ?_) n h
  show wpAny _ _ ((forTurn target it body orelse env).onRaise (fun x => do noteFrame x env; theTreesLotGoes x)) _ _ s
  refine wpAny_noted ?_
  simp only [forTurn]
  refine wpAny_bind (wpAny_standAt (wpAny_bind (wpAny_onRaise (wpAny_mono (turn n s hI) (fun r s₁ h₁ => ?_) fun _ _ h' => h'.elim))))
  cases r with
  | none => exact wpAny_pure (.inr ⟨rfl, codeAny_block (wpAny_mono h₁ (fun _ _ x => x) fun _ _ h' => h'.elim)⟩)
  | some v =>
    refine wpAny_bind (wpAny_mono h₁ (fun _ s₁' h₁' => ?_) fun _ _ h' => h'.elim)
    refine wpAny_bind (wpAny_mono h₁' (fun _ s₂ h₂ => wpAny_bind (wpAny_mono h₂ (fun f s₃ h₃ => ?_) fun _ _ h' => h'.elim)) fun _ _ h' => h'.elim)
    cases f with
    | next => exact wpAny_pure (.inl ⟨rfl, h₃⟩)
    | cont => exact wpAny_pure (.inl ⟨rfl, h₃⟩)
    | brk => exact wpAny_pure h₃
    | ret v => exact wpAny_pure h₃
theorem goName {M : Model} {A : Around} {s : Shared} {x : Str} {p : Pos} {it v : Value} {Q : Unit → Shared → Prop} {E : Value → Shared → Prop} (h : Q () s) : wpAny M A (letOwnedTupleGo (.Name x p) it v) Q E s := wpAny_pure h
/-- a target that may stand over a list -/
noncomputable def TgtOk (target : Expr) (vs : List Value) : Prop := (∃ x p, target = .Name x p) ∨ ((∃ elts k p, target = .Tuple elts k p) ∧ ∀ v ∈ vs, ∃ a, v = .ref a)
/-- what stands between two turns of a for -/
noncomputable def ForI (h₀ : Heap) (L : Addr) (s : Shared) (n : Nat) (St : Nat → Heap → Prop) (J : Nat → (Str → Option Value) → List (Addr × Obj) → Prop) (op : List Addr) (I : Addr) (k : Nat) (s' : Shared) : Prop :=
  ∃ h tk m₁ news₁ i, s' = { s with heap := h, toks := tk } ∧ i ≤ n ∧ k = n + 1 - i ∧ St i h ∧ Fr h₀ L h m₁ ∧ News h₀ L h news₁ ∧ J i m₁ news₁ ∧ (∀ p ∈ news₁, p.1 ∉ op) ∧ ∀ b ∈ op, b ≠ I → ∀ o, s.heap.get? b = some o → h.get? b = some o
/-- a for over anything that the kit walks (Walks), by an invariant over the turn's number, the frame's names and the ledger -/
theorem for_gen {prog : Program} {w : World} {A : Around} {s : Shared} {E : Value → Shared → Prop} {Q : Flow → Shared → Prop} {target : Expr} {body : List Stmt} {env : Env} {h₀ : Heap} {I : Addr} {fp op : List Addr} {n : Nat} {P : Nat → Value → Prop} {St : Nat → Heap → Prop} {m₀ : Str → Option Value} {news : List (Addr × Obj)}
    (cn : String) (J : Nat → (Str → Option Value) → List (Addr × Obj) → Prop) (W : Walks prog w A I fp [I] n P St)
    (hgo : ∀ (i : Nat) (v : Value) (s' : Shared) (Q' : Unit → Shared → Prop), P i v → St (i + 1) s'.heap → Q' () s' → wpAny (model prog w) A (letOwnedTupleGo target (.ref I) v) Q' (fun _ _ => False) s')
    (hIo : I ∈ op) (hLo : env.locals ∉ op) (hI0 : h₀.get? I = none)
    (hex : ∀ i h, St i h → (∀ b ∈ op, ∃ o, h.get? b = some o) ∧ ∃ oi, h.get? I = some oi ∧ oi.cls = .type cn)
    (hst : St 0 s.heap) (F : Fr h₀ env.locals s.heap m₀) (N : News h₀ env.locals s.heap news) (hj : J 0 m₀ news) (hc : ∀ p ∈ news, p.1 ∉ op)
    (back : ∀ i m₁ nw₁ h₁ m' nw' h', J i m₁ nw₁ → J (i + 1) m' nw' → News h₀ env.locals h₁ nw₁ → News h₀ env.locals h' nw' → ∀ b ∈ fp, b ∉ op → ∀ o, h₁.get? b = some o → h'.get? b = some o)
    (turn : ∀ i v m₁ news₁ h tk own (P' : Flow → Shared → Prop), i < n → P i v → J i m₁ news₁ → OwnOff own (news₁.map (·.1)) → Fr h₀ env.locals h m₁ → News h₀ env.locals h (news₁ ++ own) →
      (∀ f h' tk' m' news', (f = .next ∨ f = .cont) → Fr h₀ env.locals h' m' → News h₀ env.locals h' (news' ++ own) → J (i + 1) m' news' → (∀ p ∈ news', p ∈ news₁ ∨ ((∀ b ∈ op, b ≠ I → p.1 ≠ b) ∧ p.2.cls ≠ .type cn) ∨ ∀ q ∈ own, q.1 ≠ p.1) → P' f { s with heap := h', toks := tk' }) →
      (∀ s', Q .next s' → P' .brk s') → (∀ v s', Q (.ret v) s' → P' (.ret v) s') →
      wpAny (model prog w) A (assign target env v) (fun _ s₂ => wpAny (model prog w) A (execs body env) P' (fun _ _ => False) s₂) (fun _ _ => False) { s with heap := h, toks := tk })
    (done : ∀ m₁ news₁ h tk, J n m₁ news₁ → Fr h₀ env.locals h m₁ → News h₀ env.locals h news₁ → (∀ b ∈ op, b ≠ I → ∀ o, s.heap.get? b = some o → h.get? b = some o) → Q .next { s with heap := h, toks := tk }) :
    codeAny (model prog w) A (.forLoop target (.ref I) body [] env) (fun r s' => match r with | .ok f => Q f s' | .error e => cameBackBy (model prog w) A env E e s') s := by
  have hLI : env.locals ∉ [I] := fun q => hLo (List.mem_singleton.mp q ▸ hIo)
  refine loopT (ForI h₀ env.locals s n St J op I) ?_ (n + 1) ⟨s.heap, s.toks, m₀, news, 0, rfl, Nat.zero_le _, rfl, hst, F, N, hj, hc, fun _ _ _ _ e => e⟩
  rintro k s' ⟨h, tk, m₁, news₁, i, rfl, hi, rfl, hst, F₁, N₁, hJ, hn₁, hkp⟩
  have up : ∀ {h' : Heap}, (∀ b o, b ∉ [I] → h.get? b = some o → h'.get? b = some o) → Fr h₀ env.locals h' m₁ ∧ News h₀ env.locals h' news₁ ∧ ∀ b ∈ op, b ≠ I → ∀ o, s.heap.get? b = some o → h'.get? b = some o := fun hk =>
    ⟨⟨F₁.ns.at' fun o e => hk _ o hLI e, fun b o e => hk b o (fun q => by rw [List.mem_singleton.mp q, hI0] at e; cases e) (F₁.keep b o e), F₁.above⟩,
      fun p hp => ⟨hk _ _ (fun q => hn₁ p hp (List.mem_singleton.mp q ▸ hIo)) (N₁ p hp).1, (N₁ p hp).2⟩,
      fun b hb hbI o e => hk b o (fun q => hbI (List.mem_singleton.mp q)) (hkp b hb hbI o e)⟩
  by_cases hlt : i < n
  · refine W.item i _ _ _ hlt hst fun v h₁ tk₁ hP hst₁ hk₁ => ?_
    obtain ⟨F₂, N₂, kp₁⟩ := up hk₁
    refine hgo i v _ _ hP hst₁ (turn i v m₁ news₁ h₁ tk₁ (ownOf h₀ op h₁) _ hlt hP hJ (fun p hp b hb e => ?_) F₂ (fun p hp => (List.mem_append.mp hp).elim (N₂ p) (news_ownOf hLo p)) (fun f h' tk' m' news' hf F' N' hJ' hc' => ?_) (fun s' q => q) fun v s' q => q)
    · obtain ⟨q, hq, rfl⟩ := List.mem_map.mp hb
      exact hn₁ q hq (e ▸ ownOf_sub p hp)
    · have N'' : News h₀ env.locals h' news' := fun p hp => N' p (List.mem_append_left _ hp)
      have bk : ∀ b ∈ op, ∀ o, h₁.get? b = some o → h'.get? b = some o := fun b hb o e => by
        cases hn : h₀.get? b with
        | some o₀ =>
          have := F₂.keep b o₀ hn
          rw [e] at this; cases this
          exact F'.keep b _ hn
        | none => exact (N' _ (List.mem_append_right _ (mem_ownOf hb hn e))).1
      have hst' : St (i + 1) h' := W.frame _ _ _ hst₁ fun b hb o e => by
        by_cases hbo : b ∈ op
        · exact bk b hbo o e
        · exact back i m₁ news₁ h₁ m' news' h' hJ hJ' N₂ N'' b hb hbo o e
      have fin : ∃ m, m < n + 1 - i ∧ ForI h₀ env.locals s n St J op I m { s with heap := h', toks := tk' } := by
        refine ⟨n + 1 - (i + 1), by lia, h', tk', m', news', i + 1, rfl, hlt, rfl, hst', F', N'', hJ', fun p hp hpo => ?_, fun b hb hbI o e => bk b hb o (kp₁ b hb hbI o e)⟩
        rcases hc' p hp with h1 | ⟨h1, h2⟩ | h1
        · exact hn₁ p h1 hpo
        · by_cases e : p.1 = I
          · obtain ⟨_, oi, ho, hcl⟩ := hex _ _ hst'
            have := (N'' p hp).1
            rw [e, ho] at this; cases this
            exact h2 hcl
          · exact h1 _ hpo e rfl
        · obtain ⟨o, ho⟩ := (hex _ _ hst₁).1 _ hpo
          exact h1 _ (mem_ownOf hpo (N'' p hp).2.2 ho) rfl
      rcases hf with rfl | rfl <;> exact fin
  · obtain rfl : i = n := Nat.le_antisymm hi (Nat.not_lt.mp hlt)
    refine W.done _ _ _ hst fun h₁ tk₁ hk₁ => wpAny_execs_nil ?_
    obtain ⟨F₂, N₂, kp₁⟩ := up hk₁
    exact done m₁ news₁ h₁ tk₁ hJ F₂ N₂ kp₁
theorem push_news {h₀ h : Heap} {L : Addr} {news : List (Addr × Obj)} (N : News h₀ L h news) (o : Obj) : News h₀ L (h.push o) news := fun p hp => ⟨Heap.get?_push_of_some _ (N p hp).1, (N p hp).2⟩
theorem mem_two {I l b : Addr} {R : Prop} (h : b ∈ [I, l]) (h1 : b = I → R) (h2 : b = l → R) : R := (List.mem_cons.mp h).elim h1 fun q => h2 (List.mem_singleton.mp q)
theorem for_valsX {prog : Program} {w : World} {A : Around} {s : Shared} {E : Value → Shared → Prop} {Q : Flow → Shared → Prop} {target : Expr} {body : List Stmt} {env : Env} {h₀ : Heap} {l : Addr} {vs : List Value} {m₀ : Str → Option Value} {news : List (Addr × Obj)}
    (J : Nat → (Str → Option Value) → List (Addr × Obj) → Prop)
    (hh : A.handled = none) (hl : s.heap.IsList l vs.toArray) (hlL : l ≠ env.locals) (htg : TgtOk target vs)
    (F : Fr h₀ env.locals s.heap m₀) (N : News h₀ env.locals s.heap news) (hj : J 0 m₀ news) (hc : ∀ p ∈ news, p.1 ≠ l)
    (turn : ∀ i v m₁ news₁ h tk own (P : Flow → Shared → Prop), vs[i]? = some v → J i m₁ news₁ → OwnOff own (news₁.map (·.1)) → Fr h₀ env.locals h m₁ → News h₀ env.locals h (news₁ ++ own) →
      (∀ f h' tk' m' news', (f = .next ∨ f = .cont) → Fr h₀ env.locals h' m' → News h₀ env.locals h' (news' ++ own) → J (i + 1) m' news' → (∀ p ∈ news', p ∈ news₁ ∨ (p.1 ≠ l ∧ p.2.cls ≠ .type "list_iterator") ∨ ∀ q ∈ own, q.1 ≠ p.1) → P f { s with heap := h', toks := tk' }) →
      (∀ s', Q .next s' → P .brk s') → (∀ v s', Q (.ret v) s' → P (.ret v) s') →
      wpAny (model prog w) A (assign target env v) (fun _ s₂ => wpAny (model prog w) A (execs body env) P (fun _ _ => False) s₂) (fun _ _ => False) { s with heap := h, toks := tk })
    (done : ∀ m₁ news₁ h tk, J vs.length m₁ news₁ → Fr h₀ env.locals h m₁ → News h₀ env.locals h news₁ → (∀ o, s.heap.get? l = some o → h.get? l = some o) → Q .next { s with heap := h, toks := tk }) :
    wpAny (model prog w) A (pyIter (.ref l)) (fun it s₂ => codeAny (model prog w) A (.forLoop target it body [] env) (fun r s' => match r with | .ok f => Q f s' | .error e => cameBackBy (model prog w) A env E e s') s₂) E s := by
  have hne : l ≠ s.heap.objs.size := by obtain ⟨ol, hol, _⟩ := hl; exact Nat.ne_of_lt (Heap.lt_size hol)
  refine wpAny_pyIter_list hl ?_
  have W := Walks.list (prog := prog) (w := w) hh s.heap.objs.size l hne vs.toArray
  rw [List.size_toArray] at W
  refine for_gen (op := [s.heap.objs.size, l]) "list_iterator" J W (fun i v s' Q' hP hst q => ?_) (.head _) (fun q => mem_two q (Nat.ne_of_lt F.ns.lt) fun e => hlL e.symm) (next_is_new F) (fun i h st => ?_)
    ⟨⟨_, Heap.get?_push_size _ rfl, rfl, rfl⟩, hl.at fun o e => Heap.get?_push_of_some _ e⟩ (F.push _) (push_news N _) hj (fun p hp q => mem_two q (Nat.ne_of_lt (Heap.lt_size (N p hp).1)) (hc p hp)) (fun _ _ _ _ _ _ _ _ _ _ _ b hb hbo => absurd hb hbo)
    (fun i v m₁ nw h tk own P' _ hP hJ ho F₁ N₁ next => turn i v m₁ nw h tk own P' (by simpa using hP) hJ ho F₁ N₁ fun f h' tk' m' nw' hf F' N' hJ' hc' => next f h' tk' m' nw' hf F' N' hJ' fun p hp => (hc' p hp).imp id fun q => q.imp (fun r => ⟨fun b hb hbI => mem_two hb (fun e => absurd e hbI) fun e => e ▸ r.1, r.2⟩) id)
    fun m₁ nw h tk a b c kp => done m₁ nw h tk a b c fun o e => kp l (.tail _ (.head _)) hne o (Heap.get?_push_of_some _ e)
  · rcases htg with ⟨x, p, rfl⟩ | ⟨⟨elts, k, p, rfl⟩, hr⟩
    · exact goName q
    · obtain ⟨a, rfl⟩ := hr v (by have := List.mem_of_getElem? (show vs[i]? = some v by simpa using hP); exact this)
      exact wpAny_letOwnedTupleGo_listiter hst.1 q
  · obtain ⟨⟨oi, ho, hcl, _⟩, ol, hol, _⟩ := st
    exact ⟨fun b hb => mem_two hb (fun e => ⟨oi, e ▸ ho⟩) fun e => ⟨ol, e ▸ hol⟩, oi, ho, hcl⟩
theorem for_vals {prog : Program} {w : World} {A : Around} {s : Shared} {E : Value → Shared → Prop} {Q : Flow → Shared → Prop} {target : Expr} {body : List Stmt} {env : Env} {h₀ : Heap} {l : Addr} {vs : List Value} {m₀ : Str → Option Value} {news : List (Addr × Obj)}
    (J : Nat → (Str → Option Value) → List (Addr × Obj) → Prop)
    (hh : A.handled = none) (hl : s.heap.IsList l vs.toArray) (hlL : l ≠ env.locals) (htg : TgtOk target vs)
    (F : Fr h₀ env.locals s.heap m₀) (N : News h₀ env.locals s.heap news) (hj : J 0 m₀ news) (hc : ∀ p ∈ news, p.1 ≠ l)
    (turn : ∀ i v m₁ news₁ h tk own (P : Flow → Shared → Prop), vs[i]? = some v → J i m₁ news₁ → OwnOff own (news₁.map (·.1)) → Fr h₀ env.locals h m₁ → News h₀ env.locals h (news₁ ++ own) →
      (∀ f h' tk' m' news', (f = .next ∨ f = .cont) → Fr h₀ env.locals h' m' → News h₀ env.locals h' (news' ++ own) → J (i + 1) m' news' → (∀ p ∈ news', p ∈ news₁ ∨ (p.1 ≠ l ∧ p.2.cls ≠ .type "list_iterator") ∨ ∀ q ∈ own, q.1 ≠ p.1) → P f { s with heap := h', toks := tk' }) →
      (∀ s', Q .next s' → P .brk s') → (∀ v s', Q (.ret v) s' → P (.ret v) s') →
      wpAny (model prog w) A (assign target env v) (fun _ s₂ => wpAny (model prog w) A (execs body env) P (fun _ _ => False) s₂) (fun _ _ => False) { s with heap := h, toks := tk })
    (done : ∀ m₁ news₁ h tk, J vs.length m₁ news₁ → Fr h₀ env.locals h m₁ → News h₀ env.locals h news₁ → Q .next { s with heap := h, toks := tk }) :
    wpAny (model prog w) A (pyIter (.ref l)) (fun it s₂ => codeAny (model prog w) A (.forLoop target it body [] env) (fun r s' => match r with | .ok f => Q f s' | .error e => cameBackBy (model prog w) A env E e s') s₂) E s := for_valsX J hh hl hlL htg F N hj hc turn fun m₁ news₁ h tk a b c _ => done m₁ news₁ h tk a b c
end Mine

end PL0
section PB2
theorem Mine.rs_B2 : True := by
  w_top off
  first | walk1 | trivial
open PySem PySem.W PySem.Calls PyProof.Rows
set_option Elab.async false
set_option maxRecDepth 100000
set_option pp.deepTerms false
set_option pp.deepTerms.threshold 8
namespace Mine
theorem fillKB2 : (PySem.Challenge.rw_il0068_01 = PySem.Challenge.rw_il0068_01 ∧ hd.heap_39 = hd.heap_39) := by k_fill; exact ⟨rfl, rfl⟩
section
variable {w : World} {mean : ExcName → Option Value} {mg mb : Str → Option Value} {A : Around} {s : Shared} {Q E : Value → Shared → Prop} {g : Heap} {L : Addr} {m : Str → Option Value} {news : List (Addr × Obj)} {dp un : Nat} {fr : Option (List Env)} {gd : Option (List Code)}
theorem findObj_val0 {K : Frag} {C : Addr} {od : Obj} {name : Str} {v : Value} (hh : hasDictIn K C = true) (ha : findIn K (.ref C) name = some none) (hl : lookIn name od = some (some v)) : findObj K C (some od) name = some (.value v) := by
  obtain ⟨cd, hc, hcd⟩ := any_some hh
  unfold findObj
  have ho : W.ownOf cd (some od) name = some (some v) := by unfold W.ownOf; rw [if_pos hcd]; exact hl
  rw [hc, Option.bind_some, ha, Option.bind_some]
  simp [ho]
theorem findObj_val1 {K : Frag} {C : Addr} {od : Obj} {name : Str} {v a gt : Value} (hh : hasDictIn K C = true) (ha : findIn K (.ref C) name = some (some a)) (hg : specialIn K a "__get__" = some (some gt)) (ht : takesIn K a = some false) (hl : lookIn name od = some (some v)) : findObj K C (some od) name = some (.value v) := by
  obtain ⟨cd, hc, hcd⟩ := any_some hh
  unfold findObj
  have ho : W.ownOf cd (some od) name = some (some v) := by unfold W.ownOf; rw [if_pos hcd]; exact hl
  rw [hc, Option.bind_some, ha, Option.bind_some]
  simp [ho, hg, ht]
theorem instBase {x dx : Addr} {od : Obj} {h : Heap} (hx : h.get? x = some (instObj 59 dx)) (hdx : h.get? dx = some od) : InstAt h x (instObj 59 dx) 59 (some od) := ⟨hx, rfl, rfl, hdx⟩
theorem entGet0 {x dx : Addr} {od : Obj} {name : Str} {v : Value} {expr : Bool} (hx : s.heap.get? x = some (instObj 59 dx)) (hdx : s.heap.get? dx = some od) (X : (hd.heap_39 w.params).In s.heap) (hl : lookIn name od = some (some v)) (hv : handedIn v = true) (ha : findIn (hd.heap_39 w.params) (.ref 59) name = some none) (hh : hasDictIn (hd.heap_39 w.params) 59 = true) (hg : findIn (hd.heap_39 w.params) (.ref 59) "__getattribute__" = some (some (.builtin "object.__getattribute__"))) (q : Q v { s with toks := s.toks + 1 }) : wpAny (model prg w) A (getAttr (.ref x) name expr) Q E s := get_value X (instBase hx hdx) hg (findObj_val0 hh ha hl) hv q
theorem entGet1 {x dx : Addr} {od : Obj} {name : Str} {v a gt : Value} {expr : Bool} (hx : s.heap.get? x = some (instObj 59 dx)) (hdx : s.heap.get? dx = some od) (X : (hd.heap_39 w.params).In s.heap) (hl : lookIn name od = some (some v)) (hv : handedIn v = true) (ha : findIn (hd.heap_39 w.params) (.ref 59) name = some (some a)) (hg1 : specialIn (hd.heap_39 w.params) a "__get__" = some (some gt)) (ht : takesIn (hd.heap_39 w.params) a = some false) (hh : hasDictIn (hd.heap_39 w.params) 59 = true) (hg : findIn (hd.heap_39 w.params) (.ref 59) "__getattribute__" = some (some (.builtin "object.__getattribute__"))) (q : Q v { s with toks := s.toks + 1 }) : wpAny (model prg w) A (getAttr (.ref x) name expr) Q E s := get_value X (instBase hx hdx) hg (findObj_val1 hh ha hg1 ht hl) hv q
theorem entMethod {x dx : Addr} {od : Obj} {name : Str} {a : Addr} {gt v : Value} {pl : Sem Bool} {Q : Value × List Value → Shared → Prop} (hx : s.heap.get? x = some (instObj 59 dx)) (hdx : s.heap.get? dx = some od) (X : (hd.heap_39 w.params).In s.heap) (hl : lookIn name od = some (some v)) (hv : handedIn v = true) (ha : findIn (hd.heap_39 w.params) (.ref 59) name = some (some (.ref a))) (hg1 : specialIn (hd.heap_39 w.params) (.ref a) "__get__" = some (some gt)) (ht : takesIn (hd.heap_39 w.params) (.ref a) = some false) (hty : typeIn (hd.heap_39 w.params) (.ref a) = some (.type "function")) (hh : hasDictIn (hd.heap_39 w.params) 59 = true) (hg : findIn (hd.heap_39 w.params) (.ref 59) "__getattribute__" = some (some (.builtin "object.__getattribute__"))) (hk : findIn (hd.heap_39 w.params) (.ref 59) "__getattr__" = some none) (q : Q (v, []) { s with toks := s.toks + 1 }) : wpAny (model prg w) A (getMethod (.ref x) name pl) Q E s := by
  have I := instBase hx hdx
  have hcan := PySem.F.canon_object_ga
  unfold getMethod specialOf
  refine wpAny_bind (wpAny_bind (I.type.here ((looks_findIn X hg).here ?_)))
  dsimp only
  rw [hcan, if_neg (by decide)]
  refine wpAny_bind (wpAny_bind (I.type.here ((looks_findIn X hk).here ?_)))
  refine wpAny_bind (wpAny_bind (I.type.here ((looks_findIn X ha).here (wpAny_bind ((looks_typeIn X hty).here ?_)))))
  rw [if_neg (by decide +kernel)]
  refine wpAny_bind (wpAny_loadPart I.at_ ?_)
  refine wpAny_bind (wpAny_bind (wpAny_loadPart hdx ?_))
  rw [nsLook_of hl]
  refine wpAny_pure ?_
  dsimp only [Option.isSome_some]
  rw [if_pos rfl]
  exact wpAny_bind (entGet1 hx hdx X hl hv ha hg1 ht hh hg (wpAny_pure q))
theorem entGetB0 {x dx : Addr} {od : Obj} {name : Str} {v : Value} {expr : Bool} (F : Fr g L s.heap m) (X : (hd.heap_39 w.params).In g) (hx : g.get? x = some (instObj 59 dx)) (hdx : g.get? dx = some od) (hl : lookIn name od = some (some v)) (hv : handedIn v = true) (ha : findIn (hd.heap_39 w.params) (.ref 59) name = some none) (hh : hasDictIn (hd.heap_39 w.params) 59 = true) (hg : findIn (hd.heap_39 w.params) (.ref 59) "__getattribute__" = some (some (.builtin "object.__getattribute__"))) (q : Q v { s with toks := s.toks + 1 }) : wpAny (model prg w) A (getAttr (.ref x) name expr) Q E s := entGet0 (F.keep _ _ hx) (F.keep _ _ hdx) (X.keeps F.keep) hl hv ha hh hg q
theorem entGetB1 {x dx : Addr} {od : Obj} {name : Str} {v a gt : Value} {expr : Bool} (F : Fr g L s.heap m) (X : (hd.heap_39 w.params).In g) (hx : g.get? x = some (instObj 59 dx)) (hdx : g.get? dx = some od) (hl : lookIn name od = some (some v)) (hv : handedIn v = true) (ha : findIn (hd.heap_39 w.params) (.ref 59) name = some (some a)) (hg1 : specialIn (hd.heap_39 w.params) a "__get__" = some (some gt)) (ht : takesIn (hd.heap_39 w.params) a = some false) (hh : hasDictIn (hd.heap_39 w.params) 59 = true) (hg : findIn (hd.heap_39 w.params) (.ref 59) "__getattribute__" = some (some (.builtin "object.__getattribute__"))) (q : Q v { s with toks := s.toks + 1 }) : wpAny (model prg w) A (getAttr (.ref x) name expr) Q E s := entGet1 (F.keep _ _ hx) (F.keep _ _ hdx) (X.keeps F.keep) hl hv ha hg1 ht hh hg q
theorem entMethodB {x dx : Addr} {od : Obj} {name : Str} {a : Addr} {gt v : Value} {pl : Sem Bool} {Q : Value × List Value → Shared → Prop} (F : Fr g L s.heap m) (X : (hd.heap_39 w.params).In g) (hx : g.get? x = some (instObj 59 dx)) (hdx : g.get? dx = some od) (hl : lookIn name od = some (some v)) (hv : handedIn v = true) (ha : findIn (hd.heap_39 w.params) (.ref 59) name = some (some (.ref a))) (hg1 : specialIn (hd.heap_39 w.params) (.ref a) "__get__" = some (some gt)) (ht : takesIn (hd.heap_39 w.params) (.ref a) = some false) (hty : typeIn (hd.heap_39 w.params) (.ref a) = some (.type "function")) (hh : hasDictIn (hd.heap_39 w.params) 59 = true) (hg : findIn (hd.heap_39 w.params) (.ref 59) "__getattribute__" = some (some (.builtin "object.__getattribute__"))) (hk : findIn (hd.heap_39 w.params) (.ref 59) "__getattr__" = some none) (q : Q (v, []) { s with toks := s.toks + 1 }) : wpAny (model prg w) A (getMethod (.ref x) name pl) Q E s := entMethod (F.keep _ _ hx) (F.keep _ _ hdx) (X.keeps F.keep) hl hv ha hg1 ht hty hh hg hk q
theorem lamCallWith {pos : Pos} {f : Addr} {fo : Obj} {fd : FuncData} {first : List Value} {env : Env} {e : Expr} {rest : List Expr} (ho : g.get? f = some fo) (hfd : fo.data = .func fd)
    (h : wpAny (model prg w) A (spliced (backTo pos (starEach (e :: rest) env))) (fun vs s₁ => (s₁.heap.get? f = some fo ∧ fo.data = .func fd) ∧ wpAny (model prg w) A (call (.ref f) (first ++ vs)) Q E s₁) E s)
    (he : starEach (e :: rest) env = (false, eval e env) :: starEach rest env := by rfl) : wpAny (model prg w) A (callWith pos (.ref f) first (backTo pos (starEach (e :: rest) env)) []) Q E s := by
  have _ := ho
  have _ := hfd
  rw [he] at h ⊢
  exact callWith_function (evalArgs_plain h)
theorem lam_use {f p : Addr} {reach : Int} {one two folder p1 p2 : Str} {tf u1 u2 : Tok} {op : Obj} {pk : List (Str × Value)} (hlam : LamOk w mean mg mb g f reach p one two) (F : Fr g L s.heap m) (N : News g L s.heap news) (X : (hd.heap_39 w.params).In g) (T : TopM mean mg mb g) (hh : A.handled = none) (hdp : A.depth < 430) (hun : A.units < 380) (hp : (p, op) ∈ news) (hD : op.IsDictOf (strKind prg w) pk) (v1 : valueAt pk one = some (.str p1 u1)) (v2 : valueAt pk two = some (.str p2 u2)) (ok1 : PathOk p1) (ok2 : PathOk p2)
   (yes : ((dirF p1 == folder) != (dirF p2 == folder)) = true → ∀ h' tk t, Fr g L h' m → News g L h' news → Q (.int reach t) { s with heap := h', toks := tk })
   (no : ((dirF p1 == folder) != (dirF p2 == folder)) = false → ∀ h' tk t, Fr g L h' m → News g L h' news → Q (.int 0 t) { s with heap := h', toks := tk }) : wpAny (model prg w) A (call (.ref f) [.str folder tf]) Q E s := by
  rw [toAt hh]
  refine wpAny_call (hlam s _ _ _ _ folder tf pk p1 p2 u1 u2 _ F.keep ((gdOf F X T N).mono (Stp.refl _ []) (fun _ h => nomatch h) fun a ha => by rw [List.mem_singleton.mp ha]; exact List.mem_map_of_mem hp) (Heap.dictOf_iff.mpr ⟨op, N.get hp, hD⟩) v1 v2 ok1 ok2 hdp hun ?_)
  intro h' tk t S
  cases hc : (dirF p1 == folder) != (dirF p2 == folder) with
  | true => exact yes hc h' tk t (frKeep F S) (newsKeep N S)
  | false => exact no hc h' tk t (frKeep F S) (newsKeep N S)
end
end Mine

end PB2
section PD5
theorem Mine.rs_D5 : True := by
  w_top off
  first | walk1 | trivial
open PySem PySem.W PySem.Calls PyProof.Rows
set_option Elab.async false
set_option maxRecDepth 100000
set_option pp.deepTerms false
set_option pp.deepTerms.threshold 8
namespace Mine
theorem fillKD5 : (PySem.Challenge.rw_il0068_01 = PySem.Challenge.rw_il0068_01 ∧ hd.heap_39 = hd.heap_39) := by k_fill; exact ⟨rfl, rfl⟩
section
variable {w : World} {mean : ExcName → Option Value} {mg mb : Str → Option Value} {A : Around} {s : Shared} {Q E : Value → Shared → Prop} {g : Heap} {L : Addr} {m : Str → Option Value} {news : List (Addr × Obj)} {dp un : Nat} {fr : Option (List Env)} {gd : Option (List Code)}
local macro_rules | `(tactic| walk_at "call ref") => `(tactic| (k_here; k_dflt (first
  | (refine' entry_use (by k_asm) (by k_asm) (by k_asm) (by k_asm) (by exact rfl) (by tb_start) (by tb_start) (by k_is) (by k_is) (by k_is) ?_; k_whole; intro x' dx' u' l' t1' t2' t3' t4' h' tk' F' N' l1 l2 l3 l4; (try simp only [AllLt, and_true] at l1); (try k_sweep)))))
theorem ends_use {p a b : Str} {t : Tok} (F : Fr g L s.heap m) (N : News g L s.heap news) (X : (hd.heap_39 w.params).In g) (T : TopM mean mg mb g) (hh : A.handled = none) (hdp : A.depth < 440) (hun : A.units < 400) (he : EndsOk p a b)
   (ret : ∀ x t' t'' h' tk, Fr g L h' m → News g L h' ((x, { cls := .type "tuple", data := .seq #[.str a t', .str b t''] }) :: news) → AllNe x news → Q (.ref x) { s with heap := h', toks := tk }) :
   wpAny (model prg w) A (call (.ref 227) [.str p t]) Q E s := by
  obtain ⟨h1, h2, rfl, rfl⟩ := he
  rw [toAt hh]; exact ends_ok h1 h2 (gdOf0 F X T) hdp hun fun h' tk a t' t'' S ha hf => ret a t' t'' h' tk (frKeep F S) (newsMore F N S ha hf).1 (newsMore F N S ha hf).2
local macro_rules | `(tactic| walk_at "call ref") => `(tactic| (k_here; k_dflt (first
  | (refine' ends_use (by k_asm) (by k_asm) (by k_asm) (by k_asm) (by exact rfl) (by tb_start) (by tb_start) (by assumption) ?_; k_whole; intro a' t' t'' h' tk' F' N' ne'; (try simp only [AllNe, and_true] at ne'); (try k_sweep)))))
theorem dirname_use {p : Str} {t : Tok} (F : Fr g L s.heap m) (N : News g L s.heap news) (X : (hd.heap_39 w.params).In g) (T : TopM mean mg mb g) (hh : A.handled = none) (hdp : A.depth < 450) (hun : A.units < 450) (hp : PathOk p)
   (ret : ∀ h' tk t', Fr g L h' m → News g L h' news → Q (.str (dirF p) t') { s with heap := h', toks := tk }) :
   wpAny (model prg w) A (call (.ref 213) [.str p t]) Q E s := by
  rw [toAt hh]; exact dirname_ok hp (gdOf0 F X T) hdp hun fun h' tk t' S => ret h' tk t' (frKeep F S) (newsKeep N S)
local macro_rules | `(tactic| walk_at "call ref") => `(tactic| (k_here; k_dflt (first
  | (refine' dirname_use (by k_asm) (by k_asm) (by k_asm) (by k_asm) (by exact rfl) (by tb_start) (by tb_start) (by first | assumption | fail) ?_; k_whole; intro h' tk' t' F' N'; (try k_sweep)))))
local macro_rules | `(tactic| walk_at "subscriptTail") => `(tactic| (k_here; (with_reducible show wpAny _ _ (subscriptTail _ _ (Value.ref _) (Value.str _ _)) _ _ _); k_dflt (refine' dictItem (by k_asm) (by k_mem) (by assumption) (by assumption) ?_; k_whole)))
local macro_rules | `(tactic| walk_at "eval Name") => `(tactic| (k_here; k_dflt (refine' nameX_FB ?F ?c ?o ?d ?_ ?a ?b; (case a => rfl); (case b => rfl); (case F => k_asm); (case c => rfl); (case o => assumption); (case d => first | assumption | exact rfl); k_whole)))
theorem lamNe {h : Heap} {c0 : Addr} {oc0 : Obj} {c : Value} (hc0 : h.get? c0 = some oc0) (hl0 : IsLamCode oc0) (h229 : h.get? 229 = some (tabObj #[rawInt 215, rawInt 22, c])) : c0 ∉ [229] := fun hm => by
  rw [List.mem_singleton.mp hm, h229] at hc0
  obtain ⟨vs, t, e1, e2⟩ := hl0
  cases hc0
  cases e1
  cases e2
set_option maxHeartbeats 40000000 in
theorem rule1_ok {p : Addr} {rd a b : Str} {t : Tok} {reach : Int} {t2 : Tok}  (h229 : s.heap.get? 229 = some (tabObj #[]))  (he : EndsOk rd a b)
   (G : Gd w mean mg mb [229] s.heap) (hdp : dp < 420) (hun : un < 300)
   (ret : ∀ h' tk x c' oc', Stp s.heap h' [229] → h'.get? 229 = some (tabObj #[rawInt 215, rawInt 22, .ref c']) → h'.get? c' = some oc' → IsLamCode oc' → s.heap.get? x = none → s.heap.get? c' = none →
      (∀ g2 : Heap, (∀ b o, h'.get? b = some o → s.heap.get? b = none → g2.get? b = some o) → g2.get? c' = some oc' → RuleAt w mean mg mb g2 x reach p a b rd) → Q (.ref x) { s with heap := h', toks := tk }) :
   wpAny (model prg w) (At dp un fr gd) (call (.ref 234) [.str rd t, .int reach t2, .ref p]) Q E s := by
  refine wpAny_call ?_
  refine' enterC (news := [(229, tabObj #[])]) ?k0 ?k1 ?k2 ?k3 ?k4 ?k5 ?k6 ?kD ?_ ?c2 ?c3 ?c4
  case k0 => assumption
  case k1 => exact fun p hp => by rcases List.mem_singleton.mp hp with rfl; exact h229
  case k2 => k_is
  case k3 => k_is
  case k4 => tb_start
  case k5 => exact BindsTo.of_eq rfl
  case k6 => exact rfl
  case kD => decide +kernel
  case c2 => exact rfl
  case c3 => exact rfl
  case c4 => exact rfl
  intro g' L' h' tk' cells' F' N' Y' X' T' eg l1
  (try k_lt l1); k_cells Y'; (try simp only [List.cons_append, List.nil_append] at N'); (try dsimp only); (try k_fold)
  have C0 := codeHd_of X'
  k_steps
  all_goals (have hS := Fr.stp (by assumption) (by assumption))
  all_goals rename News _ _ _ _ => NN
  all_goals refine' ret _ _ _ _ _ hS (News.get NN (by k_mem)) ?hcc ?hlc ?fx ?fc ?_
  case hcc => exact News.get NN (by k_mem)
  case hlc => exact ⟨_, _, by assumption, by assumption⟩
  case fc => exact freshOf (as := [229]) NN (by assumption) (by k_mem) (fun hm => absurd (List.mem_singleton.mp hm) (neN (by lia)))
  case fx => exact freshOf (as := [229]) NN (by assumption) (by k_mem) (fun hm => absurd (List.mem_singleton.mp hm) (neN (by lia)))
  all_goals refine' rule_close (h := s.heap) ?hx ?fx ?hdx ?fd ?ha ?hap ?hf ?ff ?h1 ?f1 ?d1 ?h2 ?f2 ?d2 ?h3 ?f3 ?d3 ?h4 ?f4 ?d4 ?hlc ?hbind ?hloc ?hco ?hgen ?hk ?hcell ?hbody
  case d1 => assumption
  case d2 => assumption
  case d3 => assumption
  case d4 => assumption
  case h1 => exact News.get NN (by k_mem)
  case h2 => exact News.get NN (by k_mem)
  case h3 => exact News.get NN (by k_mem)
  case h4 => exact News.get NN (by k_mem)
  case hx => exact News.get NN (by k_mem)
  case hdx => exact News.get NN (by k_mem)
  case ha => k_get
  case hap => k_get
  case hf => exact News.get NN (by k_mem)
  case fx => exact freshOf (as := [229]) NN (by assumption) (by k_mem) (fun hm => absurd (List.mem_singleton.mp hm) (neN (by lia)))
  case fd => exact freshOf (as := [229]) NN (by assumption) (by k_mem) (fun hm => absurd (List.mem_singleton.mp hm) (neN (by lia)))
  case ff => exact freshOf (as := [229]) NN (by assumption) (by k_mem) (fun hm => absurd (List.mem_singleton.mp hm) (neN (by lia)))
  case f1 => exact freshOf (as := [229]) NN (by assumption) (by k_mem) (fun hm => absurd (List.mem_singleton.mp hm) (neN (by lia)))
  case f2 => exact freshOf (as := [229]) NN (by assumption) (by k_mem) (fun hm => absurd (List.mem_singleton.mp hm) (neN (by lia)))
  case f3 => exact freshOf (as := [229]) NN (by assumption) (by k_mem) (fun hm => absurd (List.mem_singleton.mp hm) (neN (by lia)))
  case f4 => exact freshOf (as := [229]) NN (by assumption) (by k_mem) (fun hm => absurd (List.mem_singleton.mp hm) (neN (by lia)))
  case hlc => first | assumption | exact ⟨_, _, by assumption, by assumption⟩
  case hbind => exact fun _ _ => rfl
  case hloc => rfl
  case hco => rfl
  case hgen => rfl
  case hk => rfl
  case hcell => decide
  clear ret he hS NN
  intro s dp un fr gd folder tf pk op p1 p2 u1 u2 Q g' L' hdp hun hD v1 v2 ok1 ok2 F N X T q1 q2 q3 q4 ret
  clear C0
  try k_fold
  k_steps
  all_goals exact ret _ _ _ _ _ (by simp only [*, if_true, if_false, Bool.false_eq_true]) (by assumption) (by assumption)
set_option maxHeartbeats 40000000 in
theorem rule2_ok {p : Addr} {rd a b : Str} {t : Tok} {reach : Int} {t2 : Tok}  {c0 : Addr} {oc0 : Obj} (hc0 : s.heap.get? c0 = some oc0) (hl0 : IsLamCode oc0) (h229 : s.heap.get? 229 = some (tabObj #[rawInt 215, rawInt 22, .ref c0]))  (he : EndsOk rd a b)
   (G : Gd w mean mg mb [229] s.heap) (hdp : dp < 420) (hun : un < 300)
   (ret : ∀ h' tk x, Stp s.heap h' [229] → h'.get? 229 = some (tabObj #[rawInt 215, rawInt 22, .ref c0]) → h'.get? c0 = some oc0 → IsLamCode oc0 → s.heap.get? x = none →
      (∀ g2 : Heap, (∀ b o, h'.get? b = some o → s.heap.get? b = none → g2.get? b = some o) → g2.get? c0 = some oc0 → RuleAt w mean mg mb g2 x reach p a b rd) → Q (.ref x) { s with heap := h', toks := tk }) :
   wpAny (model prg w) (At dp un fr gd) (call (.ref 234) [.str rd t, .int reach t2, .ref p]) Q E s := by
  refine wpAny_call ?_
  refine' enterC (news := [(229, tabObj #[rawInt 215, rawInt 22, .ref c0])]) ?k0 ?k1 ?k2 ?k3 ?k4 ?k5 ?k6 ?kD ?_ ?c2 ?c3 ?c4
  case k0 => assumption
  case k1 => exact fun p hp => by rcases List.mem_singleton.mp hp with rfl; exact h229
  case k2 => k_is
  case k3 => k_is
  case k4 => tb_start
  case k5 => exact BindsTo.of_eq rfl
  case k6 => exact rfl
  case kD => decide +kernel
  case c2 => exact rfl
  case c3 => exact rfl
  case c4 => exact rfl
  intro g' L' h' tk' cells' F' N' Y' X' T' eg l1
  (try k_lt l1); k_cells Y'; (try simp only [List.cons_append, List.nil_append] at N'); (try dsimp only); (try k_fold)
  have C0 := codeHd_of X'
  k_steps
  all_goals (have hS := Fr.stp (by assumption) (by assumption))
  all_goals rename News _ _ _ _ => NN
  all_goals refine' ret _ _ _ hS (News.get NN (by k_mem)) ?hcc ?hlc ?fx ?_
  case hcc => exact hS.keep _ _ hc0 (lamNe hc0 hl0 h229)
  case hlc => exact hl0
  case fx => exact freshOf (as := [229]) NN (by assumption) (by k_mem) (fun hm => absurd (List.mem_singleton.mp hm) (neN (by lia)))
  all_goals refine' rule_close (h := s.heap) ?hx ?fx ?hdx ?fd ?ha ?hap ?hf ?ff ?h1 ?f1 ?d1 ?h2 ?f2 ?d2 ?h3 ?f3 ?d3 ?h4 ?f4 ?d4 ?hlc ?hbind ?hloc ?hco ?hgen ?hk ?hcell ?hbody
  case d1 => assumption
  case d2 => assumption
  case d3 => assumption
  case d4 => assumption
  case h1 => exact News.get NN (by k_mem)
  case h2 => exact News.get NN (by k_mem)
  case h3 => exact News.get NN (by k_mem)
  case h4 => exact News.get NN (by k_mem)
  case hx => exact News.get NN (by k_mem)
  case hdx => exact News.get NN (by k_mem)
  case ha => k_get
  case hap => k_get
  case hf => exact News.get NN (by k_mem)
  case fx => exact freshOf (as := [229]) NN (by assumption) (by k_mem) (fun hm => absurd (List.mem_singleton.mp hm) (neN (by lia)))
  case fd => exact freshOf (as := [229]) NN (by assumption) (by k_mem) (fun hm => absurd (List.mem_singleton.mp hm) (neN (by lia)))
  case ff => exact freshOf (as := [229]) NN (by assumption) (by k_mem) (fun hm => absurd (List.mem_singleton.mp hm) (neN (by lia)))
  case f1 => exact freshOf (as := [229]) NN (by assumption) (by k_mem) (fun hm => absurd (List.mem_singleton.mp hm) (neN (by lia)))
  case f2 => exact freshOf (as := [229]) NN (by assumption) (by k_mem) (fun hm => absurd (List.mem_singleton.mp hm) (neN (by lia)))
  case f3 => exact freshOf (as := [229]) NN (by assumption) (by k_mem) (fun hm => absurd (List.mem_singleton.mp hm) (neN (by lia)))
  case f4 => exact freshOf (as := [229]) NN (by assumption) (by k_mem) (fun hm => absurd (List.mem_singleton.mp hm) (neN (by lia)))
  case hlc => first | assumption | exact ⟨_, _, by assumption, by assumption⟩
  case hbind => exact fun _ _ => rfl
  case hloc => rfl
  case hco => rfl
  case hgen => rfl
  case hk => rfl
  case hcell => decide
  clear ret he hS NN
  intro s dp un fr gd folder tf pk op p1 p2 u1 u2 Q g' L' hdp hun hD v1 v2 ok1 ok2 F N X T q1 q2 q3 q4 ret
  clear C0 hl0 hc0 h229
  try k_fold
  k_steps
  all_goals exact ret _ _ _ _ _ (by simp only [*, if_true, if_false, Bool.false_eq_true]) (by assumption) (by assumption)
end
end Mine

end PD5
section PB3
open PySem PySem.W PySem.Calls PyProof.Rows
set_option Elab.async false
set_option maxRecDepth 100000
set_option pp.deepTerms false
set_option pp.deepTerms.threshold 8
namespace Mine
structure Rule where
  reach : Int
  o : Nat
  t : Nat
  i : Nat
  deriving DecidableEq
structure Rule.Ok (r : Rule) : Prop where
  ho : r.o < 5
  ht : r.t < 5
  hi : r.i < 7
  pos : 0 < r.reach
noncomputable def Rule.road (r : Rule) : Str := rd r.o r.t r.i
noncomputable def cuts (f : Nat → Nat) (q : Nat) (r : Rule) : Bool := (f r.o == q) != (f r.t == q)
noncomputable def bestStep (f : Nat → Nat) (q : Nat) (st : Option Rule) (r : Rule) : Option Rule := if cuts f q r && st.all (fun b => decide (b.reach < r.reach)) then some r else st
noncomputable def best (f : Nat → Nat) (q : Nat) (rs : List Rule) : Option Rule := rs.foldl (bestStep f q) none
noncomputable def AllowV (st : Option Rule) (v : Value) : Prop := match st with
  | none => v = .bool true
  | some r => ∃ t, v = .str r.road t
noncomputable def bestInt (st : Option Rule) : Int := match st with
  | none => -1
  | some r => r.reach
noncomputable def PathsAt (w : World) (o : Obj) (f : Nat → Nat) : Prop := ∃ pk, o.IsDictOf (strKind prg w) pk ∧ (∀ k, k < 5 → f k < 5 ∧ ∃ u, valueAt pk (nm k) = some (.str (pa (f k) k) u)) ∧ pk.map (·.1) = [nm 0, nm 1, nm 2, nm 3, nm 4]
noncomputable def Rels (w : World) (mean : ExcName → Option Value) (mg mb : Str → Option Value) (g : Heap) (p : Addr) : List Value → List Rule → Prop
  | [], [] => True
  | v :: vs, r :: rs => (∃ x, v = .ref x ∧ RuleAt w mean mg mb g x r.reach p (nm r.o) (nm r.t) r.road) ∧ Rels w mean mg mb g p vs rs
  | _, _ => False
noncomputable def RulesAt (w : World) (mean : ExcName → Option Value) (mg mb : Str → Option Value) (g : Heap) (e p : Addr) (rs : List Rule) : Prop :=
  ∃ de od l nl vs, g.get? e = some (instObj 59 de) ∧ g.get? de = some od ∧ lookIn "rulelines" od = some (some (.ref l)) ∧ g.get? l = some (W.listOf (List.toArray vs) nl) ∧ Rels w mean mg mb g p vs rs
section
variable {w : World} {mean : ExcName → Option Value} {mg mb : Str → Option Value} {g : Heap} {p : Addr}
theorem Rels.length : ∀ {vs : List Value} {rs : List Rule}, Rels w mean mg mb g p vs rs → vs.length = rs.length
  | [], [], _ => rfl
  | _ :: _, _ :: _, h => by simp [Rels.length h.2]
  | [], _ :: _, h => h.elim
  | _ :: _, [], h => h.elim
theorem Rels.get : ∀ {vs : List Value} {rs : List Rule} {i : Nat} {v : Value}, Rels w mean mg mb g p vs rs → vs[i]? = some v → ∃ r x, rs[i]? = some r ∧ v = .ref x ∧ RuleAt w mean mg mb g x r.reach p (nm r.o) (nm r.t) r.road
  | [], [], _, _, _, h => by simp at h
  | v :: vs, r :: rs, 0, _, h, e => by
    simp at e; subst e
    obtain ⟨⟨x, rfl, hx⟩, _⟩ := h
    exact ⟨r, x, rfl, rfl, hx⟩
  | v :: vs, r :: rs, i + 1, _, h, e => by
    simp only [List.getElem?_cons_succ] at e ⊢
    exact Rels.get h.2 e
  | [], _ :: _, _, _, h, _ => h.elim
  | _ :: _, [], _, _, h, _ => h.elim
end
theorem best_take {f : Nat → Nat} {q : Nat} {rs : List Rule} {i : Nat} {r : Rule} (h : rs[i]? = some r) : best f q (rs.take (i + 1)) = bestStep f q (best f q (rs.take i)) r := by
  have : rs.take (i + 1) = rs.take i ++ [r] := by rw [List.take_succ, h]; rfl
  rw [this, best, best, List.foldl_append]; rfl
theorem best_fold_mem {f : Nat → Nat} {q : Nat} : ∀ (rs : List Rule) (st : Option Rule) {b : Rule}, rs.foldl (bestStep f q) st = some b → b ∈ rs ∨ st = some b
  | [], _, _, h => .inr h
  | r :: rs, st, b, h => by
    rcases best_fold_mem rs _ h with h | h
    · exact .inl (.tail _ h)
    · unfold bestStep at h
      split at h
      · cases h; exact .inl (.head _)
      · exact .inr h
theorem best_mem {f : Nat → Nat} {q : Nat} {rs : List Rule} {b : Rule} (h : best f q rs = some b) : b ∈ rs := (best_fold_mem rs none h).elim id fun h => by cases h
theorem chain3 {m : Str → Option Value} {a b c : Str} {va vb vc : Value} (ha : m a = some va) (hb : m b = some vb) (hc : m c = some vc) : m = fun y => if y = a then some va else if y = b then some vb else if y = c then some vc else m y := by
  funext y
  by_cases h1 : y = a
  · rw [if_pos h1, h1, ha]
  · rw [if_neg h1]
    by_cases h2 : y = b
    · rw [if_pos h2, h2, hb]
    · rw [if_neg h2]
      by_cases h3 : y = c
      · rw [if_pos h3, h3, hc]
      · rw [if_neg h3]
theorem fo_dir {k n : Nat} (hk : k < 5) (hn : n < 5) : PathOk (pa k n) ∧ dirF (pa k n) = fo k ∧ baseF (pa k n) = nm n := ⟨pathOk_of (pa_facts k hk n hn).1, (pa_facts k hk n hn).2⟩
theorem fo_inj : ∀ a, a < 5 → ∀ b, b < 5 → (fo a = fo b ↔ a = b) := by decide +kernel
theorem fo_beq {a b : Nat} (ha : a < 5) (hb : b < 5) : (fo a == fo b) = (a == b) := by
  by_cases h : a = b
  · subst h; rw [beq_self_eq_true, beq_self_eq_true]
  · have := mt (fo_inj a ha b hb).mp h
    rw [beq_eq_false_iff_ne.mpr h, beq_eq_false_iff_ne.mpr this]
section
variable {w : World} {h : Heap} {p l : Addr} {op : Obj} {pk : List (Str × Value)}
theorem dictCls (hD : op.IsDictOf (strKind prg w) pk) : op.cls ≠ .type "list_iterator" := by
  obtain ⟨es, n, hp, hdd, _⟩ := hD
  intro e
  have := hp.1
  rw [e] at this
  exact absurd this (by decide)
theorem dictNe {g : Heap} {L : Addr} {news : List (Addr × Obj)} {vs : Array Value} (N : News g L h news) (hp : (p, op) ∈ news) (hD : op.IsDictOf (strKind prg w) pk) (hl : h.IsList l vs) : p ≠ l := fun e => by
  obtain ⟨ol, hol, _, nl, hld⟩ := hl
  obtain ⟨es, n, hp', hdd, _⟩ := hD
  have := N.get hp
  rw [e, hol] at this
  cases this
  rw [hld] at hdd; cases hdd
theorem lstNe {g : Heap} {L : Addr} {m : Str → Option Value} {vs : Array Value} {n : Nat} (F : Fr g L h m) (hl : h.get? l = some (W.listOf vs n)) : l ≠ L := fun e => by
  obtain ⟨oL, es, ep, hL, r⟩ := F.ns
  rw [e, hL] at hl
  cases hl
  cases r.1
end
end Mine

end PB3
section PD6
theorem Mine.rs_D6 : True := by
  w_top off
  first | walk1 | trivial
open PySem PySem.W PySem.Calls PyProof.Rows
set_option Elab.async false
set_option maxRecDepth 100000
set_option pp.deepTerms false
set_option pp.deepTerms.threshold 8
namespace Mine
theorem fillKD6 : (PySem.Challenge.rw_il0068_01 = PySem.Challenge.rw_il0068_01 ∧ hd.heap_39 = hd.heap_39) := by k_fill; exact ⟨rfl, rfl⟩
local macro_rules | `(tactic| walk_at "exec For Name Attribute cons nil") => `(tactic| (k_here; k_dflt (refine wpAny_For ?_)))
local macro_rules | `(tactic| walk_at "getAttr ref") => `(tactic| (k_here; k_dflt (first
  | (refine' entGetB0 (by k_asm) (by k_asm) (by with_reducible assumption) (by with_reducible assumption) (by with_reducible assumption) (by k_handed) (by k_is) (by k_is) (by k_is) ?_; k_whole)
  | (refine' entGetB1 (by k_asm) (by k_asm) (by with_reducible assumption) (by with_reducible assumption) (by with_reducible assumption) (by k_handed) (by k_is) (by k_is) (by k_is) (by k_is) (by k_is) ?_; k_whole))))
local macro_rules | `(tactic| walk_at "getMethod ref") => `(tactic| (k_here; k_dflt (refine' entMethodB (by k_asm) (by k_asm) (by with_reducible assumption) (by with_reducible assumption) (by with_reducible assumption) (by k_handed) (by k_is) (by k_is) (by k_is) (by k_is) (by k_is) (by k_is) (by k_is) ?_; k_whole)))
local macro_rules | `(tactic| walk_at "callWith ref") => `(tactic| (k_here; k_dflt (refine' lamCallWith (by with_reducible assumption) (by with_reducible assumption) ?_; k_whole)))
local macro_rules | `(tactic| walk_at "And") => `(tactic| ((with_reducible show (Heap.get? _ _ = some _ ∧ _) ∧ _); refine ⟨⟨Fr.keep (by k_asm) _ _ (by with_reducible assumption), by with_reducible assumption⟩, ?_⟩; try dsimp only [List.nil_append, List.cons_append]))
local macro_rules | `(tactic| walk_at "call ref") => `(tactic| (k_here; k_dflt (refine' lam_use (by with_reducible assumption) (by k_asm) (by k_asm) (by k_asm) (by k_asm) (by exact rfl) (by tb_start) (by tb_start) (by k_mem) (by with_reducible assumption) (by with_reducible assumption) (by with_reducible assumption) (by with_reducible assumption) (by with_reducible assumption) ?yes ?no; all_goals (k_whole; intro yn h' tk' t' F' N'; (try k_sweep)))))
structure Nx (C : Prop) (R : Prop) : Prop where
  go : C → R
section
variable {w : World} {mean : ExcName → Option Value} {mg mb : Str → Option Value} {A : Around} {s : Shared} {Q E : Value → Shared → Prop} {g : Heap} {L : Addr} {m : Str → Option Value} {news : List (Addr × Obj)} {dp un : Nat} {fr : Option (List Env)} {gd : Option (List Code)}
theorem best_beats {f : Nat → Nat} {q : Nat} {st : Option Rule} {r : Rule} (hc : cuts f q r = true) (hb : bestInt st < r.reach) : bestStep f q st r = some r := by
  unfold bestStep
  rw [if_pos]
  rw [hc, Bool.true_and]
  cases st with
  | none => rfl
  | some b => simpa [bestInt] using hb
theorem best_stays {f : Nat → Nat} {q : Nat} {st : Option Rule} {r : Rule} (hb : cuts f q r = false ∨ (st ≠ none ∧ ¬ bestInt st < r.reach)) : bestStep f q st r = st := by
  unfold bestStep
  rw [if_neg]
  rcases hb with h | ⟨h1, h2⟩
  · rw [h]; simp
  · cases st with
    | none => exact absurd rfl h1
    | some b => simp only [Option.all_some, Bool.and_eq_true, decide_eq_true_eq, not_and]; exact fun _ => h2
theorem cuts_eq {f : Nat → Nat} {q : Nat} {r : Rule} {d1 d2 : Str} (h1 : f r.o < 5) (h2 : f r.t < 5) (hq : q < 5) (e1 : d1 = fo (f r.o)) (e2 : d2 = fo (f r.t)) : cuts f q r = ((d1 == fo q) != (d2 == fo q)) := by
  rw [e1, e2, fo_beq h1 hq, fo_beq h2 hq]; rfl
set_option maxHeartbeats 40000000 in
theorem allow_ok {e p : Addr} {op : Obj} {q : Nat} {tq : Tok} {rs : List Rule} {f : Nat → Nat} (hq : q < 5) (hp : s.heap.get? p = some op) (hP : PathsAt w op f) (hE : RulesAt w mean mg mb (hideAll s.heap [p]) e p rs) (hrs : ∀ r ∈ rs, r.Ok)
   (G : Gd w mean mg mb [p] s.heap) (hdp : dp < 410) (hun : un < 300)
   (ret : ∀ h' tk v, Stp s.heap h' [] → AllowV (best f q rs) v → Q v { s with heap := h', toks := tk }) :
   wpAny (model prg w) (At dp un fr gd) (call (.ref 56) [.ref e, .str (fo q) tq]) Q E s := by
  refine wpAny_call ?_
  refine' enter (news := [(p, op)]) ?k0 ?k1 ?k2 ?k3 ?k4 ?k5 ?k6 ?_ ?c2 ?c3 ?c4 ?c5
  case k0 => assumption
  case k1 => exact fun y hy => by rcases List.mem_singleton.mp hy with rfl; exact hp
  case k2 => k_is
  case k3 => k_is
  case k4 => tb_start
  case k5 => exact BindsTo.of_eq rfl
  case k6 => exact locs rfl
  case c2 => exact rfl
  case c3 => exact rfl
  case c4 => exact rfl
  case c5 => decide
  intro g' L' h' F' N' X' T' eg eL
  (try dsimp only); (try k_fold)
  have eg2 : g' = hideAll s.heap [p] := eg
  rw [← eg2] at hE
  obtain ⟨de, od, l, nl, vs, hx, hdx, hlk, hll, hR⟩ := hE
  have hP' := hP
  obtain ⟨pk, hD, hpk, _⟩ := hP'
  clear hP eg2
  k_steps
  rename Fr _ _ _ _ => F1
  rename News _ _ _ _ => N1
  have hcc : ∀ y ∈ [(p, op)], y.1 ≠ l ∧ y.2.cls ≠ .type "list_iterator" := by
    intro y hy
    rcases List.mem_singleton.mp hy with rfl
    exact ⟨dictNe N1 (.head _) hD ⟨_, F1.keep _ _ hll, rfl, _, rfl⟩, dictCls hD⟩
  refine' for_vals (vs := vs) (fun i m₁ nw => nw = [(p, op)] ∧ (∃ tb, m₁ "best_match" = some (.int (bestInt (best f q (rs.take i))) tb)) ∧ (∃ av, m₁ "allowance" = some av ∧ AllowV (best f q (rs.take i)) av) ∧ m₁ "filename" = some (.str (fo q) tq)) ?hh ?hl ?hlL ?htg ?F ?N ?hj ?hc ?turn ?done
  case hh => exact rfl
  case hl => exact ⟨_, F1.keep _ _ hll, rfl, _, rfl⟩
  case hlL => exact lstNe F1 (F1.keep _ _ hll)
  case htg => exact .inl ⟨_, _, rfl⟩
  case F => exact F1
  case N => exact N1
  case hj => exact ⟨rfl, ⟨_, rfl⟩, ⟨_, rfl, rfl⟩, rfl⟩
  case hc => exact fun y hy => (hcc y hy).1
  case done =>
    rintro m₂ nw h₂ tk₂ ⟨rfl, ⟨tb, hb⟩, ⟨av, ha, hA⟩, hf⟩ F2 N2
    rw [hR.length, List.take_length] at hA hb
    rw [chain3 hb ha hf] at F2
    clear F1 N1
    k_steps
    exact ret _ _ _ (stpLess (Fr.stp F2 (by assumption)) hp (N2.get (.head _))) hA
  case turn =>
    rintro i v m₂ nw h₂ tk₂ own P hv ⟨rfl, ⟨tb, hb⟩, ⟨av, ha, hA⟩, hf⟩ hown F2 N2 next hbrk hrt
    obtain ⟨r, x, hr, rfl, dx, es, n, fa, t, hx1, hdx1, ga, gp, hlam, fo1, fd1, hfo, hfd⟩ := hR.get hv
    have ok := hrs r (List.mem_of_getElem? hr)
    obtain ⟨fo5, u1, v1⟩ := hpk r.o ok.ho
    obtain ⟨ft5, u2, v2⟩ := hpk r.t ok.ht
    obtain ⟨o1, e1, _⟩ := fo_dir fo5 ok.ho
    obtain ⟨o2, e2, _⟩ := fo_dir ft5 ok.ht
    have hcut := cuts_eq (r := r) fo5 ft5 hq e1 e2
    have hpos := ok.pos
    rw [chain3 hb ha hf] at F2
    rw [best_take hr] at next
    have la : lookIn "allowance" (dictOf es n) = some (some (.str r.road t)) := ga
    have lp : lookIn "applies_to" (dictOf es n) = some (some (.ref fa)) := gp
    simp only [List.cons_append, List.nil_append] at N2
    clear F1 N1 hbrk hrt hR hll hlk hx hdx hpk ret hv hr
    have hbpos : ∀ b, best f q (rs.take i) = some b → 0 < b.reach := fun b hb => (hrs b (List.mem_of_mem_take (best_mem hb))).pos
    generalize hst : best f q (rs.take i) = st at *
    clear hst hb ha hf
    dsimp only
    have rl : r.road.length = 5 := rfl
    generalize hrr : r.road = rr at rl la ga
    cases st with
    | none =>
      cases hA
      replace F2 : Fr g' _ h₂ (fun y => if y = Str.ofString "best_match" then some (.int (-1) tb) else if y = Str.ofString "allowance" then some (.bool true) else if y = Str.ofString "filename" then some (.str (fo q) tq) else m₂ y) := F2
      have beats : Nx (((dirF (pa (f r.o) r.o) == fo q) != (dirF (pa (f r.t) r.t) == fo q)) = true) (bestStep f q none r = some r) := ⟨fun h => best_beats (hcut.trans h) (by simp only [bestInt]; lia)⟩
      have stays0 : Nx (((dirF (pa (f r.o) r.o) == fo q) != (dirF (pa (f r.t) r.t) == fo q)) = false) (bestStep f q none r = none) := ⟨fun h => best_stays (.inl (hcut.trans h))⟩
      clear hrs fo5 ft5 ok
      k_steps
      all_goals (rename Fr _ _ _ _ => F9)
      all_goals (rename News _ _ _ _ => N9)
      all_goals first
        | (exfalso; lia)
        | (refine next .next _ _ _ [(p, op)] (.inl rfl) F9 N9 ?_ (fun y hy => .inl hy); rw [beats.go (by with_reducible assumption)]; exact ⟨rfl, ⟨_, rfl⟩, ⟨_, rfl, ⟨_, by rw [hrr]⟩⟩, rfl⟩)
        | (refine next .next _ _ _ [(p, op)] (.inl rfl) F9 N9 ?_ (fun y hy => .inl hy); rw [stays0.go (by with_reducible assumption)]; exact ⟨rfl, ⟨_, rfl⟩, ⟨_, rfl, rfl⟩, rfl⟩)
    | some b =>
      obtain ⟨ta, rfl⟩ := hA
      have bl : b.road.length = 5 := rfl
      have hbp := hbpos b rfl
      replace F2 : Fr g' _ h₂ (fun y => if y = Str.ofString "best_match" then some (.int b.reach tb) else if y = Str.ofString "allowance" then some (.str b.road ta) else if y = Str.ofString "filename" then some (.str (fo q) tq) else m₂ y) := F2
      have beats : Nx (((dirF (pa (f r.o) r.o) == fo q) != (dirF (pa (f r.t) r.t) == fo q)) = true ∧ b.reach < r.reach) (bestStep f q (some b) r = some r) := ⟨fun h => best_beats (hcut.trans h.1) h.2⟩
      have stays0 : Nx (((dirF (pa (f r.o) r.o) == fo q) != (dirF (pa (f r.t) r.t) == fo q)) = false) (bestStep f q (some b) r = some b) := ⟨fun h => best_stays (.inl (hcut.trans h))⟩
      have stays2 : Nx (¬ b.reach < r.reach) (bestStep f q (some b) r = some b) := ⟨fun h => best_stays (.inr ⟨Option.some_ne_none b, h⟩)⟩
      clear hrs fo5 ft5 ok hbpos
      generalize hbr : b.road = br at bl F2
      k_steps
      refine' lam_use ?hl ?k1 ?k2 ?k3 ?k4 ?k5 ?k6 ?k7 ?hp ?hD ?v1 ?v2 ?o1 ?o2 ?yes ?no
      (case hl => with_reducible assumption); (case k1 => k_asm); (case k2 => k_asm); (case k3 => k_asm); (case k4 => k_asm); (case k5 => exact rfl); (case k6 => tb_start); (case k7 => tb_start)
      (case hp => k_mem); (case hD => with_reducible assumption); (case v1 => with_reducible assumption); (case v2 => with_reducible assumption); (case o1 => with_reducible assumption); (case o2 => with_reducible assumption)
      all_goals (k_whole; intro yn h' tk' t' F' N'; (try k_sweep))
      all_goals k_steps
      all_goals (rename Fr _ _ _ _ => F9)
      all_goals (rename News _ _ _ _ => N9)
      all_goals first
        | (exfalso; lia)
        | (refine next .next _ _ _ [(p, op)] (.inl rfl) F9 N9 ?_ (fun y hy => .inl hy); rw [beats.go ⟨by with_reducible assumption, by lia⟩]; exact ⟨rfl, ⟨_, rfl⟩, ⟨_, rfl, ⟨_, by rw [hrr]⟩⟩, rfl⟩)
        | (refine next .next _ _ _ [(p, op)] (.inl rfl) F9 N9 ?_ (fun y hy => .inl hy); rw [stays0.go (by with_reducible assumption)]; exact ⟨rfl, ⟨_, rfl⟩, ⟨_, rfl, ⟨_, by rw [hbr]⟩⟩, rfl⟩)
        | (refine next .next _ _ _ [(p, op)] (.inl rfl) F9 N9 ?_ (fun y hy => .inl hy); rw [stays2.go (by lia)]; exact ⟨rfl, ⟨_, rfl⟩, ⟨_, rfl, ⟨_, by rw [hbr]⟩⟩, rfl⟩)
        | trace_state
theorem allow_use {e p : Addr} {op : Obj} {q : Nat} {tq : Tok} {rs : List Rule} {f : Nat → Nat} (F : Fr g L s.heap m) (N : News g L s.heap news) (X : (hd.heap_39 w.params).In g) (T : TopM mean mg mb g) (hh : A.handled = none) (hdp : A.depth < 410) (hun : A.units < 300)
   (hq : q < 5) (hp : (p, op) ∈ news) (hP : PathsAt w op f) (hE : RulesAt w mean mg mb (hideAll s.heap [p]) e p rs) (hrs : ∀ r ∈ rs, r.Ok)
   (ret : ∀ h' tk v, Fr g L h' m → News g L h' news → Stp s.heap h' [] → AllowV (best f q rs) v → Q v { s with heap := h', toks := tk }) :
   wpAny (model prg w) A (call (.ref 56) [.ref e, .str (fo q) tq]) Q E s := by
  rw [toAt hh]
  exact allow_ok hq (N.get hp) hP hE hrs ((gdOf F X T N).mono (Stp.refl _ []) (fun _ h => nomatch h) fun a ha => by rw [List.mem_singleton.mp ha]; exact List.mem_map_of_mem hp) hdp hun fun h' tk v S hA => ret h' tk v (frKeep F S) (newsKeep N S) S hA
end
end Mine

end PD6
section PB4
open PySem PySem.W PySem.Calls PyProof.Rows
set_option Elab.async false
set_option maxRecDepth 100000
set_option pp.deepTerms false
set_option pp.deepTerms.threshold 8
namespace Mine
section
variable {prog : Program} {w : World} {A : Around} {E : Value → Shared → Prop} {s : Shared}
noncomputable def IsStrs : List Value → List Str → Prop
  | [], [] => True
  | v :: vs, x :: xs => (∃ t, v = .str x t) ∧ IsStrs vs xs
  | _, _ => False
theorem IsStrs.length : ∀ {vs : List Value} {xs : List Str}, IsStrs vs xs → vs.length = xs.length
  | [], [], _ => rfl
  | _ :: _, _ :: _, h => by simp [IsStrs.length h.2]
  | [], _ :: _, h => h.elim
  | _ :: _, [], h => h.elim
theorem IsStrs.at : ∀ {vs : List Value} {xs : List Str} {i : Nat} {v : Value}, IsStrs vs xs → vs[i]? = some v → ∃ x t, xs[i]? = some x ∧ v = .str x t
  | v :: vs, x :: xs, 0, _, h, e => by
    simp only [List.getElem?_cons_zero, Option.some.injEq] at e
    obtain ⟨⟨t, rfl⟩, _⟩ := h
    exact ⟨x, t, rfl, e.symm⟩
  | v :: vs, x :: xs, i + 1, _, h, e => by
    simp only [List.getElem?_cons_succ] at e ⊢
    exact IsStrs.at h.2 e
  | [], _, _, _, _, e => by simp at e
  | _ :: _, [], _, _, h, _ => h.elim
theorem setAs {h h' : Heap} {S : Addr} {p : Str → Bool} {n : Nat} (x : h.SetOf (strKind prog w) S p n) (hk : ∀ o, h.get? S = some o → h'.get? S = some o) : h'.SetOf (strKind prog w) S p n := by
  obtain ⟨o, es, ep, t, ho, r⟩ := x
  exact ⟨o, es, ep, t, hk o ho, r⟩
theorem strsLoop {R : Result → Shared → Prop} {I l S : Addr} {vs : List Value} {xs : List Str} (hh : A.handled = none) (hx : IsStrs vs xs) (hne : l ≠ I) (hSI : S ≠ I) (hSl : S ≠ l) (hb : xs.length + 1 < scanBound) :
    ∀ (k i n : Nat) (s : Shared), i + k = xs.length → n ≤ i → (s.heap.IsListIter I l i ∧ s.heap.IsList l vs.toArray) → s.heap.SetOf (strKind prog w) S (fun y => decide (y ∈ xs.take i)) n →
      (∀ h' tk n', (∀ b o, b ≠ S → b ≠ I → s.heap.get? b = some o → h'.get? b = some o) → n' ≤ xs.length → h'.SetOf (strKind prog w) S (fun y => decide (y ∈ xs)) n' → R (.ok (.ret .none)) { s with heap := h', toks := tk }) →
      codeAny (model prog w) A (.builtin "set.update.loop" ⟨[.ref S, .ref I], []⟩) R s := by
  have W := Walks.list (prog := prog) (w := w) (A := A.in1) (by simp [hh]) I l hne vs.toArray
  have hsz : vs.toArray.size = xs.length := by simp [hx.length]
  rw [hsz] at W
  intro k
  induction k with
  | zero =>
    intro i n s hi hn hst hS hR
    have hi' : i = xs.length := by lia
    subst hi'
    refine codeAny_builtin F.entry_set_update_loop ?_
    rw [Around.under_plainId F.plain_set_update_loop _]
    show wpAny _ A.in1 (pyNext (.ref I) >>= _) _ _ s
    refine wpAny_bind (W.done s _ _ hst fun h' tk hk => ?_)
    show wpAny _ A.in1 (ret Value.none) _ _ _
    refine wpAny_pure (hR h' tk n (fun b o _ hbI e => hk b o (by simpa using hbI) e) (by lia) ?_)
    have := setAs hS fun o e => hk S o (by simpa using hSI) e
    simpa using this
  | succ k ih =>
    intro i n s hi hn hst hS hR
    refine codeAny_builtin F.entry_set_update_loop ?_
    rw [Around.under_plainId F.plain_set_update_loop _]
    show wpAny _ A.in1 (pyNext (.ref I) >>= _) _ _ s
    refine wpAny_bind (W.item i s _ _ (by lia) hst fun v h₁ tk₁ hv hst₁ hk₁ => ?_)
    obtain ⟨x, t, hxi, rfl⟩ := hx.at (by simpa using hv)
    have hS₁ := setAs hS fun o e => hk₁ S o (by simpa using hSI) e
    show wpAny _ A.in1 (holding [Value.str x t] (setAdd S (.str x t)) >>= _) _ _ _
    refine wpAny_bind (wpAny_holding ?_)
    unfold setAdd
    refine wpAny_holding (wpAny_bind ((strKind prog w).pyHash (k := x) (strKind_is _ _ _ _) ?_))
    refine wpAny_setAddHashed_of (knd := strKind prog w) (strKind_is _ _ _ _) rfl hS₁ (by lia) fun h₂ sb hS₂ => ?_
    have hS₃ : h₂.SetOf (strKind prog w) S (fun y => decide (y ∈ xs.take (i + 1))) (if decide (x ∈ xs.take i) then n else n + 1) := by
      have e : (fun y => decide (y ∈ xs.take i) || decide (y = x)) = fun y => decide (y ∈ xs.take (i + 1)) := by
        funext y
        rw [List.take_add_one, hxi]
        simp [List.mem_append]
      rw [← e]; exact hS₂
    have back : ∀ b o, b ≠ S → h₁.get? b = some o → h₂.get? b = some o := fun b o hbS e => by rw [sb.2 b hbS]; exact e
    refine wpAny_pure ⟨plainId_quiet F.plain_set_update_loop _, ih (i + 1) _ _ (by lia) ?_ (W.frame _ _ _ hst₁ fun b hb o e => back b o ?_ e) hS₃ fun h' tk n' hk hn' hS' => ?_⟩
    · split <;> lia
    · rcases List.mem_cons.mp hb with rfl | hb
      · exact hSI.symm
      · rw [List.mem_singleton.mp hb]; exact hSl.symm
    · exact hR h' tk n' (fun b o hbS hbI e => hk b o hbS hbI (back b o hbS (hk₁ b o (by simpa using hbI) e))) hn' hS'
set_option maxHeartbeats 4000000 in
theorem setCall {l : Addr} {vs : List Value} {xs : List Str} {Q : Value → Shared → Prop} (hh : A.handled = none) (hl : s.heap.IsList l vs.toArray) (hx : IsStrs vs xs) (hb : xs.length + 1 < scanBound)
    (h : ∀ h' tk n', h'.SetOf (strKind prog w) s.heap.objs.size (fun y => decide (y ∈ xs)) n' → n' ≤ xs.length → (∀ b o, b < s.heap.objs.size → s.heap.get? b = some o → h'.get? b = some o) → Q (.ref s.heap.objs.size) { s with heap := h', toks := tk }) :
    wpAny (model prog w) A (call (.type "set") [.ref l]) Q E s := by
  obtain ⟨c, tl, hmro⟩ := F.called_set.mro
  have hmade := F.called_set.made
  have hsub := F.called_set.sub
  refine wpAny_call (codeAny_of_tree ?_)
  show wpAny _ _ (callAny (.type "set") _) _ _ _
  refine wpAny_pure ⟨Code.quiet_builtin _ (by decide +kernel), codeAny_builtin F.entry_type_call ?_⟩
  rw [Around.under_plain (weight_type_call_type "set" [.ref l] []) rfl]
  have h1 := F.called_set.notType
  have h2 := F.called_set.canCreate
  have hct := F.typeCall_set_1 (.ref l)
  repeat (any_goals (first | with_reducible assumption | wp_step))
  refine codeAny_mono (code_set_new_1 (.ref l) (E := E) (Q₁ := fun obj s₁ => ∃ led : Bool, obj = .ref s.heap.objs.size ∧ s₁ = { s with heap := s.heap.push { cls := .type "set", dict := none, data := .set #[] 0 (.fresh 0 0 led) } }) fun led => ⟨led, rfl, rfl⟩) fun r s₁ hr => ?_
  cases r with
  | error e => exact hr
  | ok fl =>
  cases fl with
  | next => exact hr.elim
  | brk => exact hr.elim
  | cont => exact hr.elim
  | ret obj =>
    obtain ⟨led, rfl, hs1⟩ := hr
    generalize hSd : s.heap.objs.size = S at *
    have hS : s₁.heap.get? S = some { cls := .type "set", dict := none, data := .set #[] 0 (.fresh 0 0 led) } := by rw [hs1, ← hSd]; exact Heap.get?_push_size _ rfl
    have hT : s₁.TypeIs (.ref S) "set" := ⟨_, hS, rfl⟩
    have hli := F.called_set.init.lookup
    have hbi := F.called_set.init.bind (.ref S)
    have hlt : l < S := by obtain ⟨o, ho, _⟩ := hl; rw [← hSd]; exact Heap.lt_size ho
    have hl1 : s₁.heap.IsList l vs.toArray := by rw [hs1]; exact hl.push _
    have hsz : s₁.heap.objs.size = S + 1 := by rw [hs1, ← hSd]; exact Heap.size_push _ _
    have hk1 : ∀ b o, s.heap.get? b = some o → s₁.heap.get? b = some o := fun b o e => by rw [hs1]; exact Heap.get?_push_of_some _ e
    repeat (any_goals (first | with_reducible assumption | wp_step))
    refine codeAny_mono (codeAny_call_builtin (R := wants (fun r s₂ => r = .none ∧ Q (.ref S) s₂) E) F.called_set.init.plain F.entry_set_init (check_set_init_1 hT ?_)) fun r₂ s₂ hr₂ => ?_
    · obtain ⟨⟨ocls, od, odata, osl⟩, hol, hcl, nl, hdl⟩ := id hl1
      simp only at hcl hdl
      subst hcl
      subst hdl
      have hsls := F.sub_list_set
      have hslf := F.sub_list_frozenset
      have hne : (Value.type "list" == Value.type "dict") = false := by decide
      have hlI : l ≠ s₁.heap.objs.size := by rw [hsz]; exact Nat.ne_of_lt (Nat.lt_succ_of_lt hlt)
      have hSI : S ≠ s₁.heap.objs.size := by rw [hsz]; exact Nat.ne_of_lt (Nat.lt_succ_self _)
      unfold Builtin.«set.__init__» noKeywords Builtin.Frozenset.updateFrom
      generalize hPI : pyIter = PI
      wp_walk
      subst hPI
      refine wpAny_pyIter_list hl1 (wpAny_bind (wpAny_runValue ?_))
      have hg : (s₁.heap.push { cls := .type "list_iterator", data := .fields #[.ref l, .int 0 0] }).get? S = some { cls := .type "set", dict := none, data := .set #[] 0 (.fresh 0 0 led) } := Heap.get?_push_of_some _ hS
      have hS0 : (s₁.heap.push { cls := .type "list_iterator", data := .fields #[.ref l, .int 0 0] }).SetOf (strKind prog w) S (fun y => decide (y ∈ xs.take 0)) 0 := PyProof.Rows.SetOf_congr ((PyProof.Rows.setObjOf_fresh (knd := strKind prog w) led).setOf hg (by unfold scanBound; lia)) (fun _ => by simp) rfl
      refine strsLoop (by simp [hh]) hx hlI hSI (Nat.ne_of_gt hlt) hb xs.length 0 0 _ (by lia) (Nat.le_refl _) ⟨⟨_, Heap.get?_push_size _ rfl, rfl, rfl⟩, hl1.push _⟩ hS0 fun h' tk n' hk hn hS' => ?_
      show wpAny _ _ _ _ _ _
      refine wpAny_pure ?_
      show wpAny _ _ (ret Value.none) _ _ _
      refine wpAny_pure ⟨rfl, ?_⟩
      subst hs1
      refine h _ _ n' hS' hn fun b o hlb e => hk b o (Nat.ne_of_lt hlb) ?_ (Heap.get?_push_of_some _ (hk1 b o e))
      rw [hsz]; exact Nat.ne_of_lt (Nat.lt_succ_of_lt hlb)
    · cases r₂ with
      | error e => exact hr₂
      | ok fl₂ =>
        cases fl₂ with
        | next => exact hr₂.elim
        | brk => exact hr₂.elim
        | cont => exact hr₂.elim
        | ret r =>
          obtain ⟨rfl, hq⟩ := hr₂
          clear hs1 h hl hl1 hx
          repeat (any_goals (first | with_reducible assumption | wp_step))
end
end Mine

end PB4
section PB5
open PySem PySem.W PySem.Calls PyProof.Rows
set_option Elab.async false
set_option maxRecDepth 100000
set_option pp.deepTerms false
set_option pp.deepTerms.threshold 8
namespace Mine
noncomputable def bnd (S : Addr) : Obj := { cls := .type "builtin_function_or_method", data := .fields #[.builtin "set.__contains__", .ref S] }
theorem slot_mdget : Slot "method_descriptor" "__get__" "method_descriptor.__get__" :=
  .of (owner := "method_descriptor") (n := "__get__") (by rw [typeLookup_type, builtinLookup_eq_fast]; kernel_rfl) (by decide +kernel) (by decide +kernel) (by decide +kernel)
    (by first | exact .inl (by decide +kernel) | exact .inr (by decide +kernel)) (by rw [isSubtype_type]; kernel_rfl)
theorem entry_mdget : entryFor table "method_descriptor.__get__" = some Builtin.«method_descriptor.__get__» := entryFor_of_tree (by kernel_rfl)
theorem args_mdget (a b c : Value) : argsOk "method_descriptor.__get__" ⟨[a, b, c], []⟩ := by unfold argsOk; kernel_rfl
theorem type_sc : typeOf (.builtin "set.__contains__") = pure (.type "method_descriptor") := by show builtinType _ = _; rw [builtinType_eq_fast]; kernel_rfl
theorem no_mdset : typeLookup (.type "method_descriptor") "__set__" = pure none := by rw [typeLookup_type, builtinLookup_eq_fast]; kernel_rfl
theorem no_mddel : typeLookup (.type "method_descriptor") "__delete__" = pure none := by rw [typeLookup_type, builtinLookup_eq_fast]; kernel_rfl
section
variable {prog : Program} {w : World} {A : Around} {E : Value → Shared → Prop} {h : Heap} {g : Array GenState} {d : Drawn} {t : Nat} {os : OsState} {a : Addr} {o : Obj}
theorem own_sc : ".".intercalate ("set.__contains__".cutAt '.').dropLast = "set" := by decide +kernel
theorem sc_get {Q : Fin → Shared → Prop} (hx : h.get? a = some o) (hc : o.cls = .type "set") (hq : Q (.done (.ret (.ref h.objs.size))) ⟨h.push (bnd a), g, d, t, os⟩) :
    wpAny (model prog w) A (Builtin.«method_descriptor.__get__» ⟨[.builtin "set.__contains__", .ref a, .type "set"], []⟩) Q E ⟨h, g, d, t, os⟩ := by
  have hT : (⟨h, g, d, t, os⟩ : Shared).TypeIs (.ref a) "set" := ⟨_, hx, hc⟩
  have hsub : isSubtype (.type "set") (.type (".".intercalate ("set.__contains__".cutAt '.').dropLast)) = pure true := by rw [own_sc]; exact sub_set_self
  repeat (any_goals (first | with_reducible assumption | wp_step))
  exact hq
theorem sc_call {R : Result → Shared → Prop} (hx : h.get? a = some o) (hc : o.cls = .type "set") (hq : R (.ok (.ret (.ref h.objs.size))) ⟨h.push (bnd a), g, d, t, os⟩) :
    codeAny (model prog w) A (.call (.builtin "method_descriptor.__get__") ⟨[.builtin "set.__contains__", .ref a, .type "set"], []⟩) R ⟨h, g, d, t, os⟩ :=
  codeAny_call_builtin slot_mdget.plain entry_mdget (slot_mdget.check _ _ _ _ _ _ _ _ type_sc (args_mdget _ _ _) (sc_get hx hc hq))
theorem sc_entry {tk : Tok} {Q : Fin → Shared → Prop} (hx : h.get? a = some o) (hc : o.cls = .type "set") {es : Array (Int × Value)} {ep : Nat} {tb : SetTable} (hdi : o.dict = none) (hda : o.data = .set es ep tb) (hq : Q (.done (.ret (.ref h.objs.size))) ⟨h.push (bnd a), g, d, t, os⟩) :
    wpAny (model prog w) A (Builtin.«object.__getattribute__» ⟨[.ref a, .str "__contains__" tk], []⟩) Q E ⟨h, g, d, t, os⟩ := by
  have hT : (⟨h, g, d, t, os⟩ : Shared).TypeIs (.ref a) "set" := ⟨_, hx, hc⟩
  have hT5 : (⟨h, g, d, t, os⟩ : Shared).TypeIs (.builtin "set.__contains__") "method_descriptor" := type_sc
  have f4 := F.slot_set_contains.lookup
  have f5 := type_sc
  have f6 := slot_mdget.lookup
  have f7 := no_mdset
  have f8 := no_mddel
  obtain ⟨oc, od, odt, osl⟩ := o
  simp only at hc hdi hda
  subst hc
  subst hdi
  subst hda
  repeat (any_goals (first | with_reducible assumption | (with_reducible refine sc_call hx rfl ?_) | wp_step))
theorem sc_gac {tk : Tok} {R : Result → Shared → Prop} (hx : h.get? a = some o) (hc : o.cls = .type "set") {es : Array (Int × Value)} {ep : Nat} {tb : SetTable} (hdi : o.dict = none) (hda : o.data = .set es ep tb) (hq : R (.ok (.ret (.ref h.objs.size))) ⟨h.push (bnd a), g, d, t, os⟩) :
    codeAny (model prog w) A (.call (.builtin "set.__getattribute__") ⟨[.ref a, .str "__contains__" tk], []⟩) R ⟨h, g, d, t, os⟩ :=
  codeAny_call_builtin F.slot_set_getattribute.plain F.entry_set_ga (F.slot_set_getattribute.check _ _ _ _ _ _ _ _ (show (⟨h, g, d, t, os⟩ : Shared).TypeIs (.ref a) "set" from ⟨_, hx, hc⟩) (F.args_set_getattribute_2 _ _) (sc_entry hx hc hdi hda hq))
theorem sc_attr {Q : Value → Shared → Prop} (hx : h.get? a = some o) (hc : o.cls = .type "set") {es : Array (Int × Value)} {ep : Nat} {tb : SetTable} (hdi : o.dict = none) (hda : o.data = .set es ep tb) (hq : Q (.ref h.objs.size) ⟨h.push (bnd a), g, d, t + 1, os⟩) :
    wpAny (model prog w) A (getAttr (.ref a) "__contains__" true) Q E ⟨h, g, d, t, os⟩ := by
  have hT : (⟨h, g, d, t, os⟩ : Shared).TypeIs (.ref a) "set" := ⟨_, hx, hc⟩
  have hT' : (⟨h, g, d, t + 1, os⟩ : Shared).TypeIs (.ref a) "set" := ⟨_, hx, hc⟩
  have f2 := F.slot_set_getattribute.lookup
  have f3 := F.slot_set_getattribute.bind (.ref a)
  repeat (any_goals (first | with_reducible assumption | wp_step))
  refine sc_gac hx hc hdi hda ?_
  repeat (any_goals (first | with_reducible assumption | wp_step))
end
end Mine

end PB5
section PB6
open PySem PySem.W PySem.Calls PyProof.Rows
set_option Elab.async false
set_option maxRecDepth 100000
set_option pp.deepTerms false
set_option pp.deepTerms.threshold 8
namespace Mine
theorem sub_set_module : isSubtype (.type "set") (.type "module") = pure false := by rw [isSubtype_type]; kernel_rfl
theorem sig_sc : Manifest.signature? "set.__contains__" = some ⟨.oneArg, "set.__contains__", "__contains__", .self, [⟨"object", .posOnly, true⟩]⟩ := by
  rw [signature?_of (id := "set.__contains__") (n := ['_', '_', 's', 'n', 'i', 'a', 't', 'n', 'o', 'c', '_', '_']) (o := ['t', 'e', 's']) (by kernel_rfl) F.owner_set]; kernel_rfl
theorem kind_sc : builtinKind "set.__contains__" = some .method := by first | rfl | kernel_rfl
theorem full_sc : s!"{Bind.lastOf "set"}.{Bind.lastOf "set.__contains__"}" = "set.__contains__" := by decide +kernel
theorem args_sc (a b : Value) : Bind.checkArgs "set.__contains__" ⟨.oneArg, "set.__contains__", "__contains__", .self, [⟨"object", .posOnly, true⟩]⟩ ⟨[a, b], []⟩ = pure () := by
  have h := F.args_set_contains_2 a b
  unfold argsOk at h
  rw [sig_sc] at h
  exact h
section
variable {prog : Program} {w : World} {A : Around} {E : Value → Shared → Prop} {s : Shared}
theorem sc_check {a : Addr} {x : Value} {o : Obj} {es : Array (Int × Value)} {ep : Nat} {tb : SetTable} {Q : Unit → Shared → Prop} (hx : s.heap.get? a = some o) (hc : o.cls = .type "set") (hda : o.data = .set es ep tb) (hq : Q () s) : wpAny (model prog w) A (checkBoundCall "set.__contains__" ⟨[.ref a, x], []⟩) Q E s := by
  have hT : s.TypeIs (.ref a) "set" := ⟨_, hx, hc⟩
  unfold checkBoundCall
  rw [sig_sc, kind_sc]
  dsimp only
  rw [if_neg (by decide)]
  refine wpAny_bind (wpAny_isInstance hT sub_set_module ?_)
  rw [if_neg (by decide +kernel)]
  refine wpAny_bind ?_
  unfold isType loadHead
  refine wpAny_bind (wpAny_loadPart hx ?_)
  refine wpAny_pure ?_
  rw [hda]
  dsimp only
  rw [if_neg (by decide)]
  refine wpAny_bind (wpAny_typeOf hT ?_)
  dsimp only
  rw [full_sc, args_sc]
  exact wpAny_pure hq
theorem sc_tree {a : Addr} {k : Str} {t : Tok} {S : Str → Bool} {n : Nat} {P : Fin → Shared → Prop} (hS : s.heap.SetOf (strKind prog w) a S n) (hq : P (.done (.ret (.bool (S k)))) { s with toks := s.toks + 1 }) : wpAny (model prog w) A (Builtin.«frozenset.__contains__» ⟨[.ref a, .str k t], []⟩) P E s := by
  unfold Builtin.«frozenset.__contains__» Builtin.Frozenset.oneOther
  simp only [List.isEmpty_nil, bind_assoc]
  unfold Builtin.Frozenset.addrOf Builtin.Frozenset.withSetAsKey setContains
  refine wpAny_bind (wpAny_pure ?_)
  try dsimp only
  refine wpAny_bind (wpAny_pure ?_)
  try dsimp only
  refine wpAny_bind (wpAny_tryCatch ?_)
  refine wpAny_holding (wpAny_bind ((strKind prog w).pyHash (k := k) (strKind_is _ _ _ _) ?_))
  refine wpAny_bind (wpAny_setFind_of (s := { s with toks := s.toks + 1 }) (strKind_is _ _ _ _) rfl hS fun r hr => wpAny_pure ?_)
  show wpAny _ _ (ret (Value.bool r.isSome)) _ _ _
  rw [hr]
  exact wpAny_pure hq
theorem bnd_call {a x : Addr} {k : Str} {t : Tok} {S : Str → Bool} {n : Nat} {Q : Value → Shared → Prop} (hx : s.heap.get? x = some (bnd a)) (hS : s.heap.SetOf (strKind prog w) a S n) (hq : Q (.bool (S k)) { s with toks := s.toks + 1 }) : wpAny (model prog w) A (call (.ref x) [.str k t]) Q E s := by
  have hS' := hS
  obtain ⟨o, es, ep, tb, ho, hex, hd, _⟩ := hS'
  refine wpAny_call (codeAny_of_tree ?_)
  show wpAny _ A.in1 (callAny (.ref x) ⟨[.str k t], []⟩) _ _ s
  simp only [callAny]
  refine wpAny_bind (wpAny_load hx ?_)
  simp only [bnd]
  refine KFB.if_so (by decide) ?_
  refine KFB.if_so (by decide) ?_
  refine wpAny_bind (sc_check ho hex.1 hd ?_)
  refine wpAny_bind (wpAny_pure (wpAny_pure ⟨Code.quiet_builtin _ (by decide +kernel), codeAny_builtin entry_set_contains ?_⟩))
  exact sc_tree hS hq
end
end Mine

end PB6
section PB7
open PySem PySem.W PySem.Calls PyProof.Rows
set_option Elab.async false
set_option maxRecDepth 100000
set_option pp.deepTerms false
set_option pp.deepTerms.threshold 8
namespace Mine
noncomputable def fil (x it : Addr) : Obj := { cls := .type "filter", data := .fields #[.ref x, .ref it] }
theorem slot_fnext : Slot "filter" "__next__" "filter.__next__" :=
  .of (owner := "filter") (n := "__next__") (by rw [typeLookup_type, builtinLookup_eq_fast]; kernel_rfl) (by decide +kernel) (by decide +kernel) (by decide +kernel)
    (by first | exact .inl (by decide +kernel) | exact .inr (by decide +kernel)) (by rw [isSubtype_type]; kernel_rfl)
theorem entry_fnext : entryFor table "filter.__next__" = some Builtin.«filter.__next__» := entryFor_of_tree (by kernel_rfl)
theorem args_fnext (a : Value) : argsOk "filter.__next__" ⟨[a], []⟩ := by unfold argsOk; kernel_rfl
theorem plain_fnext : plainId "filter.__next__" = true := by decide +kernel
theorem slot_fiter : Slot "filter" "__iter__" "filter.__iter__" :=
  .of (owner := "filter") (n := "__iter__") (by rw [typeLookup_type, builtinLookup_eq_fast]; kernel_rfl) (by decide +kernel) (by decide +kernel) (by decide +kernel)
    (by first | exact .inl (by decide +kernel) | exact .inr (by decide +kernel)) (by rw [isSubtype_type]; kernel_rfl)
theorem entry_fiter : entryFor table "filter.__iter__" = some Builtin.«dict_keyiterator.__iter__» :=
  entryFor_alias (id' := "dict_keyiterator.__iter__") (by kernel_rfl) (by first | rfl | decide +kernel | (unfold String.splitOn; simp +decide [String.splitOnAux])) (by decide +kernel) (by kernel_rfl)
theorem args_fiter (a : Value) : argsOk "filter.__iter__" ⟨[a], []⟩ := by unfold argsOk; kernel_rfl
theorem f_no_len : typeLookup (.type "filter") "__len__" = pure none := by rw [typeLookup_type, builtinLookup_eq_fast]; kernel_rfl
theorem f_no_hint : typeLookup (.type "filter") "__length_hint__" = pure none := by rw [typeLookup_type, builtinLookup_eq_fast]; kernel_rfl
section
variable {prog : Program} {w : World} {A : Around} {E : Value → Shared → Prop} {s : Shared}
theorem cs_item {it l : Addr} {i : Nat} {items : Array Value} {x : Value} {Q : Option Value → Shared → Prop} (hit : s.heap.IsListIter it l i) (hl : s.heap.IsList l items) (hx : items[i]? = some x)
    (hQ : ∀ h', h'.IsListIter it l (i + 1) → Heap.SameBut it s.heap h' → Q (some x) { s with heap := h' }) : wpAny (model prog w) A (callSpecial? (.ref it) "__next__") Q E s := by
  obtain ⟨o, ho, hc, hd⟩ := id hit
  obtain ⟨ol, hol, _, nl, hdl⟩ := hl
  refine wpAny_callSpecial?_slot (name := Str.ofString "__next__") hit.typeIs slot_listiter_next (wpAny_call_entry slot_listiter_next hit.typeIs entry_listiter_next ?_ (args_listiter_next _))
  show wpAny _ _ (field (.ref it) 0 >>= _) _ _ s
  refine wpAny_bind (wpAny_field ho hd (x := .ref l) rfl ?_)
  show wpAny _ _ (if (Value.ref l == Value.none) = true then _ else _) _ _ s
  rw [if_neg (show ¬ ((Value.ref l == Value.none) = true) from Bool.false_ne_true)]
  refine wpAny_bind (wpAny_field ho hd (x := .int i 0) rfl ?_)
  show wpAny _ _ (seqItems? (.ref l) >>= _) _ _ s
  refine wpAny_bind (wpAny_seqItems hol hdl ?_)
  simp only [Int.toNat_natCast, hx]
  refine wpAny_bind (wpAny_setField ho hd (by simp) (wpAny_pure ⟨x, rfl, hQ _ ?_ (Heap.SameBut.update ..)⟩))
  exact ⟨_, Heap.get?_update_self _ ho (Obj.isFreed_of_fields (Obj.data_mapFields hd _)), (Obj.cls_mapFields ..).trans hc, by rw [Obj.data_mapFields hd]; simp [rawInt]⟩
theorem cs_end {it l : Addr} {i : Nat} {items : Array Value} {Q : Option Value → Shared → Prop} (hh : A.handled = none) (hit : s.heap.IsListIter it l i) (hl : s.heap.IsList l items) (hx : items[i]? = none)
    (hE : ∀ h' e, Heap.ExtBut it s.heap h' → (∃ o, h'.get? e = some o ∧ o.cls = .type "StopIteration") → E (.ref e) { s with heap := h' }) : wpAny (model prog w) A (callSpecial? (.ref it) "__next__") Q E s := by
  obtain ⟨o, ho, hc, hd⟩ := id hit
  obtain ⟨ol, hol, _, nl, hdl⟩ := hl
  refine wpAny_callSpecial?_slot (name := Str.ofString "__next__") hit.typeIs slot_listiter_next (wpAny_call_entry slot_listiter_next hit.typeIs entry_listiter_next ?_ (args_listiter_next _))
  show wpAny _ _ (field (.ref it) 0 >>= _) _ _ s
  refine wpAny_bind (wpAny_field ho hd (x := .ref l) rfl ?_)
  show wpAny _ _ (if (Value.ref l == Value.none) = true then _ else _) _ _ s
  rw [if_neg (show ¬ ((Value.ref l == Value.none) = true) from Bool.false_ne_true)]
  refine wpAny_bind (wpAny_field ho hd (x := .int i 0) rfl ?_)
  show wpAny _ _ (seqItems? (.ref l) >>= _) _ _ s
  refine wpAny_bind (wpAny_seqItems hol hdl ?_)
  simp only [Int.toNat_natCast, hx]
  refine wpAny_bind (wpAny_rule (wpAny_bind (wpAny_setField ho hd (by simp) ?_)))
  show wpAny _ _ (newExc (.type "StopIteration") [] >>= _) _ _ _
  refine wpAny_bind ?_
  simp only [newExc, newTuple]
  refine wpAny_bind (wpAny_newObj_type ?_ (by size_fits))
  refine wpAny_bind (m := firstArgMember _ _) (wpAny_of_eq (a := Value.none) (by first | rfl | (simp only [firstArgMember]; rfl)) ?_)
  refine wpAny_newObj_type ?_ (by size_fits)
  simp only [raiseNew]
  refine wpAny_bind (wpAny_handled ?_)
  rw [show A.in1.handled = none from hh]
  refine wpAny_bind (wpAny_pure (wpAny_throw ?_))
  exact hE _ _ (((Heap.SameBut.update ..).extBut.push _).push _) ⟨_, Heap.get?_push_size _ rfl, rfl⟩
/-- a filter over a list of strs by a bound set.__contains__, standing at item i -/
structure FilAt (w : World) (prog : Program) (z x a it l : Addr) (items : Array Value) (S : Str → Bool) (n i : Nat) (h : Heap) : Prop where
  hz : h.get? z = some (fil x it)
  hx : h.get? x = some (bnd a)
  hs : h.SetOf (strKind prog w) a S n
  hi : h.IsListIter it l i
  hl : h.IsList l items
theorem FilAt.move {z x a it l : Addr} {items : Array Value} {S : Str → Bool} {n i j : Nat} {h h' : Heap} (F : FilAt w prog z x a it l items S n i h) (hi : h'.IsListIter it l j) (hk : ∀ b o, b ≠ it → h.get? b = some o → h'.get? b = some o)
    (hne : z ≠ it ∧ x ≠ it ∧ a ≠ it ∧ l ≠ it) : FilAt w prog z x a it l items S n j h' where
  hz := hk _ _ hne.1 F.hz
  hx := hk _ _ hne.2.1 F.hx
  hs := setAs F.hs fun o e => hk _ o hne.2.2.1 e
  hi := hi
  hl := F.hl.at fun o e => hk _ o hne.2.2.2 e
theorem fil_next {R : Result → Shared → Prop} {z x a it l : Addr} {vs : List Value} {xs : List Str} {S : Str → Bool} {n : Nat} (hh : A.handled = none) (hxs : IsStrs vs xs) (hne : z ≠ it ∧ x ≠ it ∧ a ≠ it ∧ l ≠ it) :
    ∀ (k i : Nat) (s : Shared), i + k = xs.length → FilAt w prog z x a it l vs.toArray S n i s.heap →
      (∀ j y t h' tk, i ≤ j → xs[j]? = some y → S y = true → (xs.take j).filter S = (xs.take i).filter S → FilAt w prog z x a it l vs.toArray S n (j + 1) h' → (∀ b o, b ≠ it → s.heap.get? b = some o → h'.get? b = some o) → s.toks ≤ tk → R (.ok (.ret (.str y t))) { s with heap := h', toks := tk }) →
      (∀ h' tk e, xs.filter S = (xs.take i).filter S → (∀ b o, b ≠ it → s.heap.get? b = some o → h'.get? b = some o) → s.toks ≤ tk → (∃ o, h'.get? e = some o ∧ o.cls = .type "StopIteration") → R (.error (.ref e)) { s with heap := h', toks := tk }) →
      codeAny (model prog w) A (.builtin "filter.__next__" ⟨[.ref z], []⟩) R s := by
  intro k
  induction k with
  | zero =>
    intro i s hi F _ hE
    have hi' : i = xs.length := by lia
    refine codeAny_builtin entry_fnext ?_
    rw [Around.under_plainId plain_fnext _]
    show wpAny _ _ (field (.ref z) 0 >>= _) _ _ _
    refine wpAny_bind (wpAny_field F.hz rfl (x := .ref x) rfl ?_)
    show wpAny _ _ (field (.ref z) 1 >>= _) _ _ _
    refine wpAny_bind (wpAny_field F.hz rfl (x := .ref it) rfl ?_)
    refine wpAny_bind (cs_end (by simp [hh]) F.hi F.hl (by simp [hxs.length, hi']) fun h' e he ho => ?_)
    exact hE h' s.toks e (by rw [hi', List.take_length]) (fun b o hb e => he b o hb e) (Nat.le_refl _) ho
  | succ k ih =>
    intro i s hi F hI hE
    refine codeAny_builtin entry_fnext ?_
    rw [Around.under_plainId plain_fnext _]
    show wpAny _ _ (field (.ref z) 0 >>= _) _ _ _
    refine wpAny_bind (wpAny_field F.hz rfl (x := .ref x) rfl ?_)
    show wpAny _ _ (field (.ref z) 1 >>= _) _ _ _
    refine wpAny_bind (wpAny_field F.hz rfl (x := .ref it) rfl ?_)
    have hlt : i < vs.length := by rw [hxs.length]; lia
    obtain ⟨y, t, hy, hv⟩ := hxs.at (List.getElem?_eq_getElem hlt)
    refine wpAny_bind (cs_item F.hi F.hl (x := .str y t) (by simp [← hv, hlt]) fun h' hit' hs' => ?_)
    have hk' : ∀ b o, b ≠ it → s.heap.get? b = some o → h'.get? b = some o := fun b o hb e => by rw [hs'.2 b hb]; exact e
    have F' := F.move hit' hk' hne
    have ht : xs.take (i + 1) = xs.take i ++ [y] := by rw [List.take_add_one, hy]; rfl
    show wpAny _ _ (holding [Value.str y t] _ >>= _) _ _ _
    refine wpAny_bind (wpAny_holding ?_)
    show wpAny _ _ (call (.ref x) [.str y t] >>= _) _ _ _
    refine wpAny_bind (bnd_call F'.hx F'.hs (wpAny_holding (wpAny_truthy_bool ?_)))
    cases hb : S y with
    | true =>
      show wpAny _ _ (ret (Value.str y t)) _ _ _
      exact wpAny_pure (hI i y t h' _ (Nat.le_refl _) hy hb rfl F' hk' (Nat.le_succ _))
    | false =>
      show wpAny _ _ (again (.builtin "filter.__next__" ⟨[.ref z], []⟩)) _ _ _
      have ef : (xs.take (i + 1)).filter S = (xs.take i).filter S := by rw [ht, List.filter_append]; simp [hb]
      refine wpAny_pure ⟨plainId_quiet plain_fnext _, ih (i + 1) _ (by lia) F' (fun j y' t' h₂ tk hij hy' hS hf F₂ hk₂ htk => ?_) fun h₂ tk e hf hk₂ htk ho => ?_⟩
      · exact hI j y' t' h₂ tk (by lia) hy' hS (hf.trans ef) F₂ (fun b o hb e => hk₂ b o hb (hk' b o hb e)) (Nat.le_trans (Nat.le_succ _) htk)
      · exact hE h₂ tk e (hf.trans ef) (fun b o hb e => hk₂ b o hb (hk' b o hb e)) (Nat.le_trans (Nat.le_succ _) htk) ho
end
end Mine

end PB7
section PB8
open PySem PySem.W PySem.Calls PyProof.Rows
set_option Elab.async false
set_option maxRecDepth 100000
set_option pp.deepTerms false
set_option pp.deepTerms.threshold 8
namespace Mine
theorem slot_finit : Slot "filter" "__init__" "object.__init__" :=
  .of (owner := "object") (n := "__init__") (by rw [typeLookup_type, builtinLookup_eq_fast]; kernel_rfl) (by decide +kernel) (by decide +kernel) (by decide +kernel)
    (by first | exact .inl (by decide +kernel) | exact .inr (by decide +kernel)) (by rw [isSubtype_type]; kernel_rfl)
theorem mro_fil : mroOf (.type "filter") = pure [.type "filter", .type "object"] := by rw [mroOf_type]; kernel_rfl
theorem look_fnew : typeLookup (.type "filter") "__new__" = pure (some (.builtin "filter.__new__")) := by rw [typeLookup_type, builtinLookup_eq_fast]; kernel_rfl
theorem sub_fil : isSubtype (.type "filter") (.type "filter") = pure true := by rw [isSubtype_type]; kernel_rfl
theorem called_fil : TypeCalled "filter" "filter.__new__" "object.__init__" :=
  ⟨by decide +kernel, by decide +kernel, ⟨_, _, mro_fil⟩, madeBy_type mro_fil look_fnew (by decide +kernel), by decide +kernel, sub_fil, slot_finit⟩
theorem typeCall_fil (a b : Value) : checkTypeCall "filter" ⟨[a, b], []⟩ = pure () := by kernel_rfl
theorem newCall_fil (a b : Value) : checkBuiltinCall "filter.__new__" ⟨[.type "filter", a, b], []⟩ = pure () := by kernel_rfl
theorem entry_fnew : entryFor table "filter.__new__" = some Builtin.«filter.__new__» := entryFor_of_tree (by kernel_rfl)
theorem plain_fnew : plainId "filter.__new__" = true := by decide +kernel
section
variable {prog : Program} {w : World} {A : Around} {E : Value → Shared → Prop} {s : Shared}
noncomputable abbrev FilSt (w : World) (prog : Program) (z x a it l : Addr) (vs : List Value) (xs : List Str) (S : Str → Bool) (n i : Nat) (s : Shared) : Prop := ∃ p, p ≤ xs.length ∧ ((xs.take p).filter S).length = i ∧ FilAt w prog z x a it l vs.toArray S n p s.heap
noncomputable abbrev FilP (xs : List Str) (S : Str → Bool) (i : Nat) (v : Value) : Prop := ∃ y t, (xs.filter S)[i]? = some y ∧ v = .str y t
theorem filter_split (xs : List Str) (S : Str → Bool) (p : Nat) : xs.filter S = (xs.take p).filter S ++ (xs.drop p).filter S := by rw [← List.filter_append, List.take_append_drop]
theorem filter_at {xs : List Str} {S : Str → Bool} {j : Nat} {y : Str} (hy : xs[j]? = some y) (hS : S y = true) : (xs.take (j + 1)).filter S = (xs.take j).filter S ++ [y] := by
  rw [List.take_add_one, hy]; simp [hS]
theorem walks_fil {z x a it l : Addr} {vs : List Value} {xs : List Str} {S : Str → Bool} {n : Nat} (hh : A.handled = none) (hxs : IsStrs vs xs) (hne : z ≠ it ∧ x ≠ it ∧ a ≠ it ∧ l ≠ it) :
    WalksS prog w A z [it, z, x, a, l] [it] Eq (xs.filter S).length (FilP xs S) (FilSt w prog z x a it l vs xs S n) where
  sub := fun b hb => by rw [List.mem_singleton.mp hb]; exact .head _
  grefl := fun _ => rfl
  gtrans := fun _ _ _ => Eq.trans
  frame := fun i s h' tk ⟨p, hp, hf, F⟩ _ hk => ⟨p, hp, hf, ⟨hk z (by simp) _ F.hz, hk x (by simp) _ F.hx, setAs F.hs (hk a (by simp)), F.hi.at (hk it (by simp)), F.hl.at (hk l (by simp))⟩⟩
  item := fun i s Q E hi ⟨p, hp, hf, F⟩ hQ => by
    have hT : s.TypeIs (.ref z) "filter" := ⟨_, F.hz, rfl⟩
    unfold pyNext
    refine wpAny_bind (wpAny_attempt (wpAny_callSpecial?_slot (name := Str.ofString "__next__") hT slot_fnext (wpAny_call (codeAny_of_tree ?_))))
    show wpAny _ A.in1 (do checkBuiltinCall "filter.__next__" ⟨[.ref z], []⟩; again (.builtin "filter.__next__" ⟨[.ref z], []⟩)) _ _ s
    refine wpAny_bind (slot_fnext.check _ _ _ _ _ _ _ _ hT (args_fnext _) (wpAny_pure ⟨plainId_quiet plain_fnext _, ?_⟩))
    refine fil_next hh hxs hne (xs.length - p) p s (by lia) F (fun j y t h' tk hij hy hS hfe F' hk htk => ?_) (fun h' tk e hfe _ _ _ => ?_)
    · have hl := filter_at hy hS
      refine wpAny_pure (hQ _ { s with heap := h', toks := tk } ⟨y, t, ?_, rfl⟩ ⟨j + 1, ?_, ?_, F'⟩ ⟨fun b o hb e => hk b o (by simpa using hb) e, rfl, rfl, rfl, htk⟩)
      · rw [filter_split xs S (j + 1), hl, List.append_assoc, hfe, List.getElem?_append_right (by lia), hf]; simp
      · have : j < xs.length := by
          rcases Nat.lt_or_ge j xs.length with h | h
          · exact h
          · rw [List.getElem?_eq_none h] at hy; cases hy
        lia
      · rw [hl, hfe, List.length_append, hf]; rfl
    · rw [hfe, hf] at hi; exact absurd hi (Nat.lt_irrefl _)
  done := fun s Q E ⟨p, hp, hf, F⟩ hQ => by
    have hT : s.TypeIs (.ref z) "filter" := ⟨_, F.hz, rfl⟩
    unfold pyNext
    refine wpAny_bind (wpAny_attempt (wpAny_callSpecial?_slot (name := Str.ofString "__next__") hT slot_fnext (wpAny_call (codeAny_of_tree ?_))))
    show wpAny _ A.in1 (do checkBuiltinCall "filter.__next__" ⟨[.ref z], []⟩; again (.builtin "filter.__next__" ⟨[.ref z], []⟩)) _ _ s
    refine wpAny_bind (slot_fnext.check _ _ _ _ _ _ _ _ hT (args_fnext _) (wpAny_pure ⟨plainId_quiet plain_fnext _, ?_⟩))
    refine fil_next hh hxs hne (xs.length - p) p s (by lia) F (fun j y t h' tk hij hy hS hfe F' hk htk => ?_) (fun h' tk e hfe hk htk ⟨o, ho, hc⟩ => ?_)
    · have hl := filter_at hy hS
      have := filter_split xs S (j + 1)
      rw [hl, hfe] at this
      have h2 := congrArg List.length this
      simp only [List.length_append, List.length_singleton, hf] at h2
      lia
    · refine wpAny_bind (wpAny_isInstance (T := "StopIteration") (b := true) ⟨o, ho, hc⟩ isSubtype_stop ?_)
      exact wpAny_pure (hQ _ ⟨fun b o hb e => hk b o (by simpa using hb) e, rfl, rfl, rfl, htk⟩)
  self := fun i s Q E ⟨p, hp, hf, F⟩ hQ => by
    have hT : s.TypeIs (.ref z) "filter" := ⟨_, F.hz, rfl⟩
    refine wpAny_pyIter_slot hT slot_fiter (wpAny_call_entry slot_fiter hT entry_fiter ?_ (args_fiter _))
    show wpAny _ _ (ret (.ref z)) _ _ s
    exact wpAny_pure ⟨_, rfl, "filter", _, hT, slot_fnext.lookup, hQ⟩
theorem code_fnew {x l : Addr} {vs : Array Value} {Q₁ : Value → Shared → Prop} (hl : s.heap.IsList l vs)
    (h : Q₁ (.ref (s.heap.objs.size + 1)) { s with heap := (s.heap.push { cls := .type "list_iterator", data := .fields #[.ref l, .int 0 0] }).push (fil x s.heap.objs.size) }) :
    codeAny (model prog w) A (.call (.builtin "filter.__new__") ⟨[.type "filter", .ref x, .ref l], []⟩) (wants Q₁ E) s := by
  refine codeAny_call_builtin plain_fnew entry_fnew (wpAny_of_eq (newCall_fil _ _) ?_)
  have hsub := sub_fil
  have hown : ("filter.__new__".splitOn ".__new__").headD "" = "filter" := by simp +decide [String.splitOn, String.splitOnAux]
  unfold Builtin.«filter.__new__»
  generalize hPI : pyIter = PI
  wp_walk
  subst hPI
  refine wpAny_pyIter_list hl ?_
  refine wpAny_bind ?_
  unfold Builtin.SmallTypes.newRecord
  dsimp only
  simp only [newObj]
  refine wpAny_bind (wpAny_alloc (wpAny_pure (wpAny_pure ?_)))
  have e : (s.heap.push { cls := .type "list_iterator", data := .fields #[.ref l, .int 0 0] }).objs.size = s.heap.objs.size + 1 := Heap.size_push _ _
  rw [← e] at h
  exact h
theorem fil_new {x l : Addr} {vs : Array Value} {Q : Value → Shared → Prop} (hl : s.heap.IsList l vs)
    (h : Q (.ref (s.heap.objs.size + 1)) { s with heap := (s.heap.push { cls := .type "list_iterator", data := .fields #[.ref l, .int 0 0] }).push (fil x s.heap.objs.size) }) :
    wpAny (model prog w) A (call (.type "filter") [.ref x, .ref l]) Q E s := by
  refine callType_codes (Q₁ := fun obj s₁ => obj = .ref (s.heap.objs.size + 1) ∧ s₁ = { s with heap := (s.heap.push { cls := .type "list_iterator", data := .fields #[.ref l, .int 0 0] }).push (fil x s.heap.objs.size) }) called_fil (typeCall_fil _ _) F.entry_object_init (code_fnew hl ⟨rfl, rfl⟩) ?_
  rintro obj s₁ ⟨rfl, rfl⟩
  have e : (s.heap.push { cls := .type "list_iterator", data := .fields #[.ref l, .int 0 0] }).objs.size = s.heap.objs.size + 1 := Heap.size_push _ _
  have hT : Shared.TypeIs { s with heap := (s.heap.push { cls := .type "list_iterator", data := .fields #[.ref l, .int 0 0] }).push (fil x s.heap.objs.size) } (.ref (s.heap.objs.size + 1)) "filter" := ⟨_, e ▸ Heap.get?_push_size _ rfl, rfl⟩
  refine ⟨hT, F.args_object_init_3 _ _ _, ?_⟩
  have g := object_init_meets (self := .ref (s.heap.objs.size + 1)) (rest := [.ref x, .ref l]) called_fil.init.lookup called_fil.made (by decide)
  exact g prog w A.in1 _ _ ⟨hT, rfl, h⟩
theorem strs_of : ∀ {vs : List Value} {ys : List Str}, vs.length = ys.length → (∀ (j : Nat) v, vs[j]? = some v → ∃ y t, ys[j]? = some y ∧ v = .str y t) → IsStrs vs ys
  | [], [], _, _ => trivial
  | v :: vs, y :: ys, hl, h => by
    obtain ⟨y', t, e, rfl⟩ := h 0 v rfl
    simp only [List.getElem?_cons_zero, Option.some.injEq] at e
    subst e
    exact ⟨⟨t, rfl⟩, strs_of (by simpa using hl) fun j v hv => h (j + 1) v hv⟩
  | [], _ :: _, hl, _ => by simp at hl
  | _ :: _, [], hl, _ => by simp at hl
theorem lf_init {R : Result → Shared → Prop} {z x a it l D : Addr} {vs : List Value} {xs : List Str} {S : Str → Bool} {n : Nat} (hh : A.handled = none) (hxs : IsStrs vs xs) (hne : z ≠ it ∧ x ≠ it ∧ a ≠ it ∧ l ≠ it) (hsz : xs.length ≤ sizeLine) (hDf : D ∉ [it, z, x, a, l])
    (hst : FilSt w prog z x a it l vs xs S n 0 s) (hD : s.heap.get? D = some { cls := .type "list", data := .seq #[] })
    (hR : ∀ h' tk acc c', (∀ b o, b ≠ D → b ≠ it → s.heap.get? b = some o → h'.get? b = some o) → h'.get? D = some (W.listOf acc c') → IsStrs acc.toList (xs.filter S) → R (.ok (.ret .none)) { s with heap := h', toks := tk }) :
    wpAny (model prog w) A.in1 (Builtin.«list.__init__» ⟨[.ref D, .ref z], []⟩)
      (fun fin s' => match fin with | .done f => R (.ok f) s' | .again c' => c'.quiet = true ∧ codeAny (model prog w) A c' R s') (fun e s' => R (.error e) s') s := by
  have W := walks_fil (prog := prog) (w := w) (A := A.in1) (n := n) (S := S) (by simp [hh]) hxs hne
  have hT : ∀ i s, FilSt w prog z x a it l vs xs S n i s → s.TypeIs (.ref z) "filter" := fun i s ⟨p, _, _, F⟩ => ⟨_, F.hz, rfl⟩
  have hn : (xs.filter S).length ≤ sizeLine := Nat.le_trans (List.length_filter_le _ _) hsz
  show wpAny _ A.in1 (do let old ← Builtin.List.listItems (.ref D); Builtin.List.listUpdate (.ref D) (fun _ => #[]); letGo old.toList.reverse; Builtin.List.listExtendWith (.ref D) (.ref z) .none) _ _ s
  refine wpAny_bind ?_
  unfold Builtin.List.listItems
  refine wpAny_bind (wpAny_seqItems hD rfl (wpAny_pure ?_))
  refine wpAny_bind ?_
  unfold Builtin.List.listUpdate
  refine wpAny_updateSeq hD rfl ?_
  have hD₂ := Heap.get?_update_self (Obj.mapSeq (fun _ => (#[] : Array Value))) hD rfl
  have oth : ∀ b o, b ≠ D → s.heap.get? b = some o → (s.heap.update D (Obj.mapSeq (fun _ => (#[] : Array Value)))).get? b = some o := fun b o hb e => (Heap.get?_update_other _ _ (Ne.symm hb)).trans e
  refine wpAny_bind (wpAny_letGo ?_)
  have hst₂ := W.frame 0 s (s.heap.update D (Obj.mapSeq (fun _ => (#[] : Array Value)))) s.toks hst (Nat.le_refl _) fun b hb o e => oth b o (fun h => hDf (h ▸ hb)) e
  have hT₂ := hT 0 _ hst₂
  have hDz : D ≠ z := fun e => hDf (by rw [e]; simp)
  unfold Builtin.List.listExtendWith
  refine wpAny_bind (wpAny_typeOf hT₂ ?_)
  have h1 : Builtin.List.listSameRef (.ref D) (.ref z) = false := by simp [Builtin.List.listSameRef, hDz]
  have h2 : (Value.type "filter" == Value.type "list") = false := by decide
  have h3 : (Value.type "filter" == Value.type "tuple") = false := by decide
  simp only [h1, h2, h3, Bool.or_false, Bool.false_eq_true, if_false]
  refine wpAny_bind (W.self 0 _ _ _ hst₂ ?_)
  refine wpAny_bind (wpAny_holding ?_)
  unfold Builtin.List.listLengthHint
  refine wpAny_bind (wpAny_specialOf hT₂ f_no_len ?_)
  refine wpAny_bind (wpAny_specialOf hT₂ f_no_hint ?_)
  refine wpAny_pure ?_
  refine KFB.if_so (by rfl) (wpAny_bind (wpAny_rule (wpAny_bind ?_)))
  unfold Builtin.List.listTouch
  refine wpAny_bind ?_
  unfold Builtin.List.listUpdate
  refine wpAny_updateSeq hD₂ rfl ?_
  have hD₃ := Heap.get?_update_self (Obj.mapSeq (·.push Value.none)) hD₂ rfl
  refine wpAny_updateSeq (hz := by seq_fits) hD₃ rfl ?_
  have hD₄ := Heap.get?_update_self (Obj.mapSeq (·.pop)) hD₃ rfl
  have oth₂ : ∀ b o, b ≠ D → s.heap.get? b = some o → (((s.heap.update D (Obj.mapSeq (fun _ => (#[] : Array Value)))).update D (Obj.mapSeq (·.push Value.none))).update D (Obj.mapSeq (·.pop))).get? b = some o :=
    fun b o hb e => (Heap.get?_update_other _ _ (Ne.symm hb)).trans ((Heap.get?_update_other _ _ (Ne.symm hb)).trans (oth b o hb e))
  have hst₄ := W.frame 0 s _ s.toks hst (Nat.le_refl _) fun b hb o e => oth₂ b o (fun h => hDf (h ▸ hb)) e
  refine wpAny_pure ⟨plainId_quiet F.plain_extend_loop _, codeAny_extend_loopS W hn D hDf _ _ 0 _ _ _ rfl (Nat.zero_le _) hst₄ hD₄ (ItemsOf.nil _) fun s' acc' c' hm hS' hacc => ?_⟩
  obtain ⟨h', g', d', tk', os'⟩ := s'
  have e1 : s.gens = g' := hm.gens
  have e2 : d' = s.drawn := hm.drawn
  have e3 : os' = s.os := hm.os
  subst e1
  subst e2
  subst e3
  refine hR h' tk' acc' c' (fun b o hb hb2 e => hm.heap b o (by simp [hb, hb2]) (oth₂ b o hb e)) hS' ?_
  obtain ⟨hz, hp⟩ := hacc
  exact strs_of (by simpa using hz) fun j v hv => hp j v (by simpa using hv)
theorem list_fil {Q : Value → Shared → Prop} {z x a it l : Addr} {vs : List Value} {xs : List Str} {S : Str → Bool} {n : Nat} (hh : A.handled = none) (hxs : IsStrs vs xs) (hne : z ≠ it ∧ x ≠ it ∧ a ≠ it ∧ l ≠ it) (hsz : xs.length ≤ sizeLine)
    (F₀ : FilAt w prog z x a it l vs.toArray S n 0 s.heap)
    (hQ : ∀ h' tk acc c', (∀ b o, b < s.heap.objs.size → b ≠ it → s.heap.get? b = some o → h'.get? b = some o) → h'.get? s.heap.objs.size = some (W.listOf acc c') → IsStrs acc.toList (xs.filter S) → Q (.ref s.heap.objs.size) { s with heap := h', toks := tk }) :
    wpAny (model prog w) A (call (.type "list") [.ref z]) Q E s := by
  refine callType_codes (Q₁ := fun obj s₁ => obj = .ref s.heap.objs.size ∧ s₁ = { s with heap := s.heap.push { cls := .type "list", data := .seq #[] } }) F.called_list (F.typeCall_list_1 _) F.entry_list_init (code_list_new _ ⟨rfl, rfl⟩) fun obj s₁ h₁ => ?_
  obtain ⟨rfl, rfl⟩ := h₁
  have hS : (s.heap.push { cls := .type "list", data := .seq #[] }).get? s.heap.objs.size = some { cls := .type "list", data := .seq #[] } := Heap.get?_push_size _ rfl
  have lt : ∀ b o, s.heap.get? b = some o → b ≠ s.heap.objs.size := fun b o e => Nat.ne_of_lt (Heap.lt_size e)
  have hD : s.heap.objs.size ∉ [it, z, x, a, l] := by
    obtain ⟨oa, ea, ta, aa, ha, _⟩ := F₀.hs
    obtain ⟨oi, hi, _⟩ := F₀.hi
    obtain ⟨ol, hl, _⟩ := F₀.hl
    intro h
    simp only [List.mem_cons, List.not_mem_nil, or_false] at h
    rcases h with h | h | h | h | h
    · exact lt _ _ hi h.symm
    · exact lt _ _ F₀.hz h.symm
    · exact lt _ _ F₀.hx h.symm
    · exact lt _ _ ha h.symm
    · exact lt _ _ hl h.symm
  have W := walks_fil (prog := prog) (w := w) (A := A) (n := n) (S := S) hh hxs hne
  have hst : FilSt w prog z x a it l vs xs S n 0 s := ⟨0, Nat.zero_le _, by simp, F₀⟩
  refine ⟨⟨_, hS, rfl⟩, F.args_list_init_2 _ _, lf_init (A := A.in1) (by simp [hh]) hxs hne hsz hD (W.frame 0 s _ s.toks hst (Nat.le_refl _) fun b _ o e => Heap.get?_push_of_some _ e) hS fun h' tk acc c' hk hS' hi => ?_⟩
  exact ⟨rfl, hQ h' tk acc c' (fun b o hb hb2 e => hk b o (Nat.ne_of_lt hb) hb2 (Heap.get?_push_of_some _ e)) hS' hi⟩
end
end Mine

end PB8
section PE0
theorem Mine.rs_E0 : True := by
  w_top off
  first | walk1 | trivial
open PySem PySem.W PySem.Calls PyProof.Rows
set_option Elab.async false
set_option maxRecDepth 100000
set_option pp.deepTerms false
set_option pp.deepTerms.threshold 8
namespace Mine
theorem fillKE0 : (PySem.Challenge.rw_il0068_01 = PySem.Challenge.rw_il0068_01 ∧ hd.heap_39 = hd.heap_39) := by k_fill; exact ⟨rfl, rfl⟩
section
variable {w : World} {mean : ExcName → Option Value} {mg mb : Str → Option Value} {A : Around} {s : Shared} {Q E : Value → Shared → Prop} {g : Heap} {L : Addr} {m : Str → Option Value} {news : List (Addr × Obj)} {dp un : Nat} {fr : Option (List Env)} {gd : Option (List Code)}
theorem entD_ua {P : Params} {t1 t2 t3 t4 : Tok} {u l d r : Value} {n : Nat} : lookIn (Str.ofString "useragents") (dictOf (entD P t1 t2 t3 t4 u l d r) n) = some (some u) := by
  have ga : getL (Str.ofString "useragents") (entD P t1 t2 t3 t4 u l d r) = some (some u) := by unfold entD; k_get
  exact ga
theorem entD_rl {P : Params} {t1 t2 t3 t4 : Tok} {u l d r : Value} {n : Nat} : lookIn (Str.ofString "rulelines") (dictOf (entD P t1 t2 t3 t4 u l d r) n) = some (some l) := by
  have ga : getL (Str.ofString "rulelines") (entD P t1 t2 t3 t4 u l d r) = some (some l) := by unfold entD; k_get
  exact ga
theorem entD_de {P : Params} {t1 t2 t3 t4 : Tok} {u l d r : Value} {n : Nat} : lookIn (Str.ofString "delay") (dictOf (entD P t1 t2 t3 t4 u l d r) n) = some (some d) := by
  have ga : getL (Str.ofString "delay") (entD P t1 t2 t3 t4 u l d r) = some (some d) := by unfold entD; k_get
  exact ga
theorem entD_rr {P : Params} {t1 t2 t3 t4 : Tok} {u l d r : Value} {n : Nat} : lookIn (Str.ofString "req_rate") (dictOf (entD P t1 t2 t3 t4 u l d r) n) = some (some r) := by
  have ga : getL (Str.ofString "req_rate") (entD P t1 t2 t3 t4 u l d r) = some (some r) := by unfold entD; k_get
  exact ga
theorem ltSize {h : Heap} (N : News g L h news) : AllLt h.objs.size news := allLt_of fun p hp => Heap.lt_size (N p hp).1
theorem allLt_mem {d : Addr} {l : List (Addr × Obj)} (h : AllLt d l) : ∀ p ∈ l, p.1 ≠ d := by
  induction l with
  | nil => exact fun p hp => nomatch hp
  | cons q r ih =>
    intro p hp
    obtain ⟨h1, h2⟩ := h
    rcases List.mem_cons.mp hp with rfl | hp
    · exact fun e => absurd h1 (by rw [e]; exact Nat.lt_irrefl _)
    · exact ih h2 p hp
theorem set_use {l : Addr} {vs : List Value} {n : Nat} {xs : List Str} (hl : g.get? l = some (W.listOf vs.toArray n)) (hx : IsStrs vs xs) (hb : xs.length + 1 < scanBound) (F : Fr g L s.heap m) (N : News g L s.heap news) (hh : A.handled = none)
   (ret : ∀ S o h' tk n', Fr g L h' m → News g L h' ((S, o) :: news) → o.SetObjOf (strKind prg w) (fun y => decide (y ∈ xs)) n' → n' < scanBound → AllLt S news → Q (.ref S) { s with heap := h', toks := tk }) :
   wpAny (model prg w) A (call (.type "set") [.ref l]) Q E s := by
  refine setCall hh ⟨_, F.keep _ _ hl, rfl, _, rfl⟩ hx hb fun h' tk n' hS hn hk => ?_
  obtain ⟨o, ho, hso⟩ := hS.objOf
  have S : Stp s.heap h' [] := ⟨fun b o e _ => hk b o (Heap.lt_size e) e, Nat.le_of_lt (Heap.lt_size ho)⟩
  have nn : s.heap.get? s.heap.objs.size = none := Heap.get?_none_of_le (Nat.le_refl _)
  exact ret _ o h' tk n' (frKeep F S) (newsMore F N S ho nn).1 hso (by lia) (ltSize N)
theorem stpPush (h : Heap) (o : Obj) : Stp h (h.push o) [] := ⟨fun b o e _ => Heap.get?_push_of_some _ e, by rw [Heap.size_push]; exact Nat.le_succ _⟩
theorem attr_use {a : Addr} {o : Obj} {P : Str → Bool} {n : Nat} (hso : o.SetObjOf (strKind prg w) P n) (hb : n < scanBound) (hm : (a, o) ∈ news) (F : Fr g L s.heap m) (N : News g L s.heap news)
   (ret : ∀ x h' tk, Fr g L h' m → News g L h' ((x, bnd a) :: news) → AllLt x news → Q (.ref x) { s with heap := h', toks := tk }) :
   wpAny (model prg w) A (getAttr (.ref a) "__contains__" true) Q E s := by
  obtain ⟨o', es, ep, tb, ho', hex, hd, _⟩ := (hso.setOf (N.get hm) hb)
  rw [N.get hm] at ho'
  cases ho'
  have nn : s.heap.get? s.heap.objs.size = none := Heap.get?_none_of_le (Nat.le_refl _)
  have hn := newsMore F N (stpPush s.heap (bnd a)) (Heap.get?_push_size _ rfl) nn
  exact sc_attr (N.get hm) hex.1 hex.2.1 hd (ret _ _ _ (frKeep F (stpPush _ _)) hn.1 (ltSize N))
noncomputable def itO (l : Addr) : Obj := { cls := .type "list_iterator", data := .fields #[.ref l, .int 0 0] }
theorem fil_use {x a l : Addr} {vs : List Value} {n : Nat} (hl : g.get? l = some (W.listOf vs.toArray n)) (_hm : (x, bnd a) ∈ news) (F : Fr g L s.heap m) (N : News g L s.heap news)
   (ret : ∀ z it h' tk, Fr g L h' m → News g L h' ((z, fil x it) :: (it, itO l) :: news) → @LT.lt Nat _ it z → AllLt it news → Q (.ref z) { s with heap := h', toks := tk }) :
   wpAny (model prg w) A (call (.type "filter") [.ref x, .ref l]) Q E s := by
  have nn : s.heap.get? s.heap.objs.size = none := Heap.get?_none_of_le (Nat.le_refl _)
  have n1 := newsMore F N (stpPush s.heap (itO l)) (Heap.get?_push_size _ rfl) nn
  have F1 := frKeep F (stpPush s.heap (itO l))
  have e : (s.heap.push (itO l)).objs.size = s.heap.objs.size + 1 := Heap.size_push _ _
  have nn2 : (s.heap.push (itO l)).get? (s.heap.push (itO l)).objs.size = none := Heap.get?_none_of_le (Nat.le_refl _)
  have n2 := newsMore F1 n1.1 (stpPush _ (fil x s.heap.objs.size)) (Heap.get?_push_size _ rfl) nn2
  refine fil_new (vs := vs.toArray) ⟨_, F.keep _ _ hl, rfl, _, rfl⟩ ?_
  rw [← e]
  exact ret _ _ _ _ (frKeep F1 (stpPush _ _)) n2.1 (by rw [e]; exact Nat.lt_succ_self _) (ltSize N)
theorem lfil_use {z it x a l : Addr} {o : Obj} {vs : List Value} {n n' : Nat} {xs : List Str} {P : Str → Bool} (hl : g.get? l = some (W.listOf vs.toArray n)) (hx : IsStrs vs xs) (hsz : xs.length ≤ sizeLine) (F : Fr g L s.heap m) (N : News g L s.heap ((z, fil x it) :: (it, itO l) :: news)) (hm : (x, bnd a) ∈ news) (ha : (a, o) ∈ news) (hso : o.SetObjOf (strKind prg w) P n')
   (hb : n' < scanBound) (hzi : @LT.lt Nat _ it z) (hin : AllLt it news) (hh : A.handled = none)
   (ret : ∀ D acc c' h' tk, Fr g L h' m → News g L h' ((D, W.listOf acc c') :: news) → IsStrs acc.toList (xs.filter P) → AllLt D news → Q (.ref D) { s with heap := h', toks := tk }) :
   wpAny (model prg w) A (call (.type "list") [.ref z]) Q E s := by
  have hl' := F.keep _ _ hl
  have hli : l ≠ it := fun e => by
    have := (N _ (.tail _ (.head _))).2.2
    dsimp only at this
    rw [← e, hl] at this; cases this
  have hiL : it ≠ L := (N _ (.tail _ (.head _))).2.1
  have hig : g.get? it = none := (N _ (.tail _ (.head _))).2.2
  refine list_fil (z := z) (x := x) (a := a) (it := it) (l := l) (vs := vs) (xs := xs) (S := P) (n := n') hh hx ⟨Nat.ne_of_gt hzi, allLt_mem hin _ hm, allLt_mem hin _ ha, hli⟩ hsz
    ⟨N.get (.head _), N.get (.tail _ (.tail _ hm)), hso.setOf (N.get (.tail _ (.tail _ ha))) hb, ⟨_, N.get (.tail _ (.head _)), rfl, rfl⟩, ⟨_, hl', rfl, _, rfl⟩⟩ fun h' tk acc c' hk hD hi => ?_
  have nn : s.heap.get? s.heap.objs.size = none := Heap.get?_none_of_le (Nat.le_refl _)
  have S : Stp s.heap h' [it] := ⟨fun b o e hb => hk b o (Heap.lt_size e) (fun q => hb (by rw [q]; exact .head _)) e, Nat.le_of_lt (Heap.lt_size hD)⟩
  have F' := frMod F N S fun b hb => by rw [List.mem_singleton.mp hb]; exact .tail _ (.head _)
  have N' : News g L h' news := fun p hp => newsIn N S (.tail _ (.tail _ hp)) fun hb => allLt_mem hin p hp (List.mem_singleton.mp hb)
  refine ret _ acc c' h' tk F' (newsCons (newsNew F hD nn) N') hi (allLt_of fun p hp => Heap.lt_size (N p (.tail _ (.tail _ hp))).1)
theorem add_use {a b : Addr} {vs ws : List Value} {n k : Nat} (ha : g.get? a = some (W.listOf vs.toArray n)) (hb : g.get? b = some (W.listOf ws.toArray k)) (hz : vs.length + ws.length ≤ sizeLine) (F : Fr g L s.heap m) (N : News g L s.heap news)
   (ret : ∀ D h' tk, Fr g L h' m → News g L h' ((D, W.listOf (vs ++ ws).toArray 0) :: news) → AllLt D news → Q (.ref D) { s with heap := h', toks := tk }) :
   wpAny (model prg w) A (binaryOp .Add (.ref a) (.ref b)) Q E s := by
  have nn : s.heap.get? s.heap.objs.size = none := Heap.get?_none_of_le (Nat.le_refl _)
  have e : vs.toArray ++ ws.toArray = (vs ++ ws).toArray := by simp
  refine PySem.P.add_list (items := vs.toArray) (items2 := ws.toArray) (F.keep _ _ ha) (F.keep _ _ hb) ?_ (by simpa using hz)
  rw [e]
  exact ret _ _ _ (frKeep F (stpPush _ _)) (newsMore F N (stpPush s.heap _) (Heap.get?_push_size _ rfl) nn).1 (ltSize N)
end
end Mine

end PE0
section PE1
theorem Mine.rs_E1 : True := by
  w_top off
  first | walk1 | trivial
open PySem PySem.W PySem.Calls PyProof.Rows
set_option Elab.async false
set_option maxRecDepth 100000
set_option pp.deepTerms false
set_option pp.deepTerms.threshold 8
namespace Mine
theorem fillKE1 : (PySem.Challenge.rw_il0068_01 = PySem.Challenge.rw_il0068_01 ∧ hd.heap_39 = hd.heap_39) := by k_fill; exact ⟨rfl, rfl⟩
local macro_rules | `(tactic| walk_at "exec For Name Attribute cons nil") => `(tactic| (k_here; k_dflt (refine wpAny_For ?_)))
local macro_rules | `(tactic| walk_at "getAttr ref") => `(tactic| (k_here; k_dflt (first
  | (refine' entGetB0 (by k_asm) (by k_asm) (by with_reducible assumption) (by with_reducible assumption) (by with_reducible assumption) (by k_handed) (by k_is) (by k_is) (by k_is) ?_; k_whole)
  | (refine' entGetB1 (by k_asm) (by k_asm) (by with_reducible assumption) (by with_reducible assumption) (by with_reducible assumption) (by k_handed) (by k_is) (by k_is) (by k_is) (by k_is) (by k_is) ?_; k_whole))))
local macro_rules | `(tactic| walk_at "getMethod ref") => `(tactic| (k_here; k_dflt (refine' entMethodB (by k_asm) (by k_asm) (by with_reducible assumption) (by with_reducible assumption) (by with_reducible assumption) (by k_handed) (by k_is) (by k_is) (by k_is) (by k_is) (by k_is) (by k_is) (by k_is) ?_; k_whole)))
local macro_rules | `(tactic| walk_at "callWith ref") => `(tactic| (k_here; k_dflt (refine' lamCallWith (by with_reducible assumption) (by with_reducible assumption) ?_; k_whole)))
local macro_rules | `(tactic| walk_at "And") => `(tactic| ((with_reducible show (Heap.get? _ _ = some _ ∧ _) ∧ _); refine ⟨⟨Fr.keep (by k_asm) _ _ (by with_reducible assumption), by with_reducible assumption⟩, ?_⟩; try dsimp only [List.nil_append, List.cons_append]))
local macro_rules | `(tactic| walk_at "call ref") => `(tactic| (k_here; k_dflt (refine' lam_use (by with_reducible assumption) (by k_asm) (by k_asm) (by k_asm) (by k_asm) (by exact rfl) (by tb_start) (by tb_start) (by k_mem) (by with_reducible assumption) (by with_reducible assumption) (by with_reducible assumption) (by with_reducible assumption) (by with_reducible assumption) ?yes ?no; all_goals (k_whole; intro yn h' tk' t' F' N'; (try k_sweep)))))
local macro_rules | `(tactic| walk_at "call type:set cons nil") => `(tactic| (k_here; k_dflt (refine' set_use (by with_reducible assumption) (by with_reducible assumption) (by with_reducible assumption) (by k_asm) (by k_asm) (by exact rfl) ?_; k_whole; intro S' o' h' tk' n' F' N' hso' hn' ne'; (try simp only [AllLt, and_true] at ne'); (try k_sweep))))
local macro_rules | `(tactic| walk_at "binaryOp Add ref ref") => `(tactic| (k_here; k_dflt (refine' add_use ?ha ?hb ?hz ?F ?N ?_; (case F => k_asm); (case N => k_asm); (case ha => with_reducible assumption); (case hb => with_reducible assumption); (case hz => with_reducible assumption); k_whole; intro D' h' tk' F' N' ne'; (try simp only [AllLt, and_true] at ne'); (try k_sweep))))
section
variable {w : World} {mean : ExcName → Option Value} {mg mb : Str → Option Value} {A : Around} {s : Shared} {Q E : Value → Shared → Prop} {g : Heap} {L : Addr} {m : Str → Option Value} {news : List (Addr × Obj)} {dp un : Nat} {fr : Option (List Env)} {gd : Option (List Code)}
local macro_rules | `(tactic| walk_at "call ref") => `(tactic| (k_here; k_dflt (first
  | (refine' entry_use (by k_asm) (by k_asm) (by k_asm) (by k_asm) (by exact rfl) (by tb_start) (by tb_start) (by k_is) (by k_is) (by k_is) ?_; k_whole; intro x' dx' u' l' t1' t2' t3' t4' h' tk' F' N' l1 l2 l3 l4; (try simp only [AllLt, and_true] at l1); (try k_sweep)))))
set_option maxHeartbeats 40000000 in
theorem merge_ok {e1 e2 d1 d2 u1 u2 l1 l2 : Addr} {a1 a2 a3 a4 b1 b2 b3 b4 : Tok} {n1 n2 m1 m2 : Nat} {us1 us2 rs1 rs2 : List Value}
   (he1 : s.heap.get? e1 = some (instObj 59 d1)) (hd1 : s.heap.get? d1 = some (dictOf (entD w.params a1 a2 a3 a4 (.ref u1) (.ref l1) .none .none) 4))
   (he2 : s.heap.get? e2 = some (instObj 59 d2)) (hd2 : s.heap.get? d2 = some (dictOf (entD w.params b1 b2 b3 b4 (.ref u2) (.ref l2) .none .none) 4))
   (hu1 : s.heap.get? u1 = some (W.listOf us1.toArray n1)) (hu2 : s.heap.get? u2 = some (W.listOf us2.toArray n2))
   (hl1 : s.heap.get? l1 = some (W.listOf rs1.toArray m1)) (hl2 : s.heap.get? l2 = some (W.listOf rs2.toArray m2))
   {xs1 xs2 : List Str} (hx1 : IsStrs us1 xs1) (hx2 : IsStrs us2 xs2) (hb2 : xs2.length + 1 < scanBound) (hz1 : xs1.length ≤ sizeLine) (hzz : rs1.length + rs2.length ≤ sizeLine)
   (G : Gd w mean mg mb [] s.heap) (hdp : dp < 400) (hun : un < 300)
   (ret : ∀ h' tk x d u l t1 t2 t3 t4 acc c', Stp s.heap h' [] → h'.get? x = some (instObj 59 d) → h'.get? d = some (dictOf (entD w.params t1 t2 t3 t4 (.ref u) (.ref l) .none .none) 4) → h'.get? u = some (W.listOf acc c') → IsStrs acc.toList (xs1.filter fun y => decide (y ∈ xs2)) → h'.get? l = some (W.listOf (rs1 ++ rs2).toArray 0) →
      s.heap.get? x = none → s.heap.get? d = none → s.heap.get? u = none → s.heap.get? l = none → Q (.ref x) { s with heap := h', toks := tk }) :
   wpAny (model prg w) (At dp un fr gd) (call (.ref 70) [.ref e1, .ref e2]) Q E s := by
  refine wpAny_call ?_
  refine' enter (news := []) ?k0 ?k1 ?k2 ?k3 ?k4 ?k5 ?k6 ?_ ?c2 ?c3 ?c4 ?c5
  case k0 => assumption
  case k1 => exact fun _ h => nomatch h
  case k2 => k_is
  case k3 => k_is
  case k4 => tb_start
  case k5 => exact BindsTo.of_eq rfl
  case k6 => exact locs rfl
  case c2 => exact rfl
  case c3 => exact rfl
  case c4 => exact rfl
  case c5 => decide
  intro g' L' h' F' N' X' T' eg eL
  (try dsimp only); (try k_fold)
  have eg2 : g' = s.heap := eg
  rw [← eg2] at he1 hd1 he2 hd2 hu1 hu2 hl1 hl2
  clear eg2
  have q1 : lookIn (Str.ofString "useragents") _ = _ := @entD_ua w.params a1 a2 a3 a4 (.ref u1) (.ref l1) .none .none 4
  have q2 : lookIn (Str.ofString "rulelines") _ = _ := @entD_rl w.params a1 a2 a3 a4 (.ref u1) (.ref l1) .none .none 4
  have q3 : lookIn (Str.ofString "delay") _ = _ := @entD_de w.params a1 a2 a3 a4 (.ref u1) (.ref l1) .none .none 4
  have q4 : lookIn (Str.ofString "req_rate") _ = _ := @entD_rr w.params a1 a2 a3 a4 (.ref u1) (.ref l1) .none .none 4
  have p1 : lookIn (Str.ofString "useragents") _ = _ := @entD_ua w.params b1 b2 b3 b4 (.ref u2) (.ref l2) .none .none 4
  have p2 : lookIn (Str.ofString "rulelines") _ = _ := @entD_rl w.params b1 b2 b3 b4 (.ref u2) (.ref l2) .none .none 4
  have p3 : lookIn (Str.ofString "delay") _ = _ := @entD_de w.params b1 b2 b3 b4 (.ref u2) (.ref l2) .none .none 4
  have p4 : lookIn (Str.ofString "req_rate") _ = _ := @entD_rr w.params b1 b2 b3 b4 (.ref u2) (.ref l2) .none .none 4
  k_steps
  refine' attr_use ?hs ?hb ?hm ?F ?N ?_
  (case F => k_asm); (case N => k_asm); (case hs => with_reducible assumption); (case hm => k_mem); (case hb => with_reducible assumption)
  k_whole; intro x' h' tk' F' N' ne'; (try simp only [AllLt, and_true] at ne')
  k_steps
  refine' fil_use ?hl ?hm ?F ?N ?_
  (case F => k_asm); (case N => k_asm); (case hl => with_reducible assumption); (case hm => k_mem)
  k_whole; intro z' it' h' tk' F' N' nz' ni'; (try simp only [AllLt, and_true] at ni')
  walk1
  refine' lfil_use ?hl ?hx ?hz ?F ?N ?hm ?ha ?hs ?hb ?zi ?hi ?hh ?_
  (case N => k_asm); (case F => k_asm); (case hl => with_reducible assumption); (case hx => with_reducible assumption); (case hz => with_reducible assumption); (case hm => k_mem); (case hs => with_reducible assumption); (case ha => k_mem); (case hb => with_reducible assumption); (case zi => with_reducible assumption); (case hi => (simp only [AllLt, and_true]; with_reducible assumption)); (case hh => exact rfl)
  k_whole; intro D' acc' c' h' tk' F' N' hi' ne'; (try simp only [AllLt, and_true] at ne')
  unfold entD at N'
  k_steps
  rename Fr _ _ _ _ => F9
  rename News _ _ _ _ => N9
  have hS := Fr.stp F9 eg
  refine' ret _ _ _ _ _ _ _ _ _ _ acc' c' hS (News.get N9 (by k_mem)) (News.get N9 (by k_mem)) (News.get N9 (by k_mem)) hi' (News.get N9 (by k_mem)) ?f1 ?f2 ?f3 ?f4
  case f1 => exact freshOf0 N9 eg (by k_mem)
  case f2 => exact freshOf0 N9 eg (by k_mem)
  case f3 => exact freshOf0 N9 eg (by k_mem)
  case f4 => exact freshOf0 N9 eg (by k_mem)
theorem merge_use {e1 e2 d1 d2 u1 u2 l1 l2 : Addr} {a1 a2 a3 a4 b1 b2 b3 b4 : Tok} {n1 n2 m1 m2 : Nat} {us1 us2 rs1 rs2 : List Value} (F : Fr g L s.heap m) (N : News g L s.heap news) (X : (hd.heap_39 w.params).In g) (T : TopM mean mg mb g) (hh : A.handled = none) (hdp : A.depth < 400) (hun : A.units < 300)
   (he1 : s.heap.get? e1 = some (instObj 59 d1)) (hd1 : s.heap.get? d1 = some (dictOf (entD w.params a1 a2 a3 a4 (.ref u1) (.ref l1) .none .none) 4))
   (he2 : s.heap.get? e2 = some (instObj 59 d2)) (hd2 : s.heap.get? d2 = some (dictOf (entD w.params b1 b2 b3 b4 (.ref u2) (.ref l2) .none .none) 4))
   (hu1 : s.heap.get? u1 = some (W.listOf us1.toArray n1)) (hu2 : s.heap.get? u2 = some (W.listOf us2.toArray n2))
   (hl1 : s.heap.get? l1 = some (W.listOf rs1.toArray m1)) (hl2 : s.heap.get? l2 = some (W.listOf rs2.toArray m2))
   {xs1 xs2 : List Str} (hx1 : IsStrs us1 xs1) (hx2 : IsStrs us2 xs2) (hb2 : xs2.length + 1 < scanBound) (hz1 : xs1.length ≤ sizeLine) (hzz : rs1.length + rs2.length ≤ sizeLine)
   (ret : ∀ h' tk x d u l t1 t2 t3 t4 acc c', Fr g L h' m → News g L h' ((x, instObj 59 d) :: (d, dictOf (entD w.params t1 t2 t3 t4 (.ref u) (.ref l) .none .none) 4) :: (u, W.listOf acc c') :: (l, W.listOf (rs1 ++ rs2).toArray 0) :: news) → IsStrs acc.toList (xs1.filter fun y => decide (y ∈ xs2)) → Q (.ref x) { s with heap := h', toks := tk }) :
   wpAny (model prg w) A (call (.ref 70) [.ref e1, .ref e2]) Q E s := by
  rw [toAt hh]
  refine merge_ok he1 hd1 he2 hd2 hu1 hu2 hl1 hl2 hx1 hx2 hb2 hz1 hzz (gdOf0 F X T) hdp hun fun h' tk x d u l t1 t2 t3 t4 acc c' S gx gd gu hi gl fx fd fu fl => ?_
  exact ret h' tk x d u l t1 t2 t3 t4 acc c' (frKeep F S) (newsCons (newsNew F gx fx) (newsCons (newsNew F gd fd) (newsCons (newsNew F gu fu) (newsCons (newsNew F gl fl) (newsKeep N S))))) hi
end
end Mine

end PE1
section PL1
open PySem PySem.W PySem.Calls PyProof.Rows
set_option Elab.async false
set_option maxRecDepth 100000
namespace Mine
theorem for_str {prog : Program} {w : World} {A : Around} {s : Shared} {E : Value → Shared → Prop} {Q : Flow → Shared → Prop} {y : Str} {yp : Pos} {body : List Stmt} {env : Env} {h₀ : Heap} {x : Str} {t : Tok} {m₀ : Str → Option Value} {news : List (Addr × Obj)}
    (J : Nat → (Str → Option Value) → List (Addr × Obj) → Prop)
    (hh : A.handled = none) (hx : x.cps.all (· < 128) = true)
    (F : Fr h₀ env.locals s.heap m₀) (N : News h₀ env.locals s.heap news) (hj : J 0 m₀ news)
    (turn : ∀ i c u m₁ news₁ h tk own (P : Flow → Shared → Prop), x.cps[i]? = some c → J i m₁ news₁ → OwnOff own (news₁.map (·.1)) → Fr h₀ env.locals h m₁ → News h₀ env.locals h (news₁ ++ own) →
      (∀ f h' tk' m' news', (f = .next ∨ f = .cont) → Fr h₀ env.locals h' m' → News h₀ env.locals h' (news' ++ own) → J (i + 1) m' news' → (∀ p ∈ news', p ∈ news₁ ∨ p.2.cls ≠ .type "str_ascii_iterator" ∨ ∀ q ∈ own, q.1 ≠ p.1) → P f { s with heap := h', toks := tk' }) →
      (∀ s', Q .next s' → P .brk s') → (∀ v s', Q (.ret v) s' → P (.ret v) s') →
      wpAny (model prog w) A (assign (.Name y yp) env (.str ⟨#[c]⟩ u)) (fun _ s₂ => wpAny (model prog w) A (execs body env) P (fun _ _ => False) s₂) (fun _ _ => False) { s with heap := h, toks := tk })
    (done : ∀ m₁ news₁ h tk, J x.cps.size m₁ news₁ → Fr h₀ env.locals h m₁ → News h₀ env.locals h news₁ → Q .next { s with heap := h, toks := tk }) :
    wpAny (model prog w) A (pyIter (.str x t)) (fun it s₂ => codeAny (model prog w) A (.forLoop (.Name y yp) it body [] env) (fun r s' => match r with | .ok f => Q f s' | .error e => cameBackBy (model prog w) A env E e s') s₂) E s := by
  refine wpAny_pyIter_ascii hx ?_
  refine for_gen (op := [s.heap.objs.size]) "str_ascii_iterator" J (Walks.strAscii (prog := prog) (w := w) hh s.heap.objs.size x t) (fun _ _ _ _ _ _ q => goName q) (.head _) (fun q => Nat.ne_of_lt F.ns.lt (List.mem_singleton.mp q)) (next_is_new F)
    (fun i h st => ?_) ⟨_, Heap.get?_push_size _ rfl, rfl, rfl⟩ (F.push _) (push_news N _) hj (fun p hp q => Nat.ne_of_lt (Heap.lt_size (N p hp).1) (List.mem_singleton.mp q)) (fun _ _ _ _ _ _ _ _ _ _ _ b hb hbo => absurd hb hbo)
    (fun i v m₁ nw h tk own P' _ hP hJ ho F₁ N₁ next => ?_) fun m₁ nw h tk a b c _ => done m₁ nw h tk a b c
  · obtain ⟨oi, ho, hcl, _⟩ := st
    exact ⟨fun b hb => ⟨oi, List.mem_singleton.mp hb ▸ ho⟩, oi, ho, hcl⟩
  · obtain ⟨c, u, hc, rfl⟩ := hP
    exact turn i c u m₁ nw h tk own P' hc hJ ho F₁ N₁ fun f h' tk' m' nw' hf F' N' hJ' hc' => next f h' tk' m' nw' hf F' N' hJ' fun p hp => (hc' p hp).imp id fun q => q.imp (fun r => ⟨fun b hb hbI => absurd (List.mem_singleton.mp hb) hbI, r⟩) id
end Mine

end PL1
section PM1
open PySem PySem.W PySem.Calls PyProof.Rows
set_option Elab.async false
set_option maxRecDepth 100000
set_option pp.deepTerms false
set_option pp.deepTerms.threshold 8
namespace Mine
theorem two_lst {i : Nat} {v a b : Value} (h : [a, b][i]? = some v) : (i = 0 ∧ v = a) ∨ (i = 1 ∧ v = b) :=
  match i, h with
  | 0, h => .inl ⟨rfl, (Option.some.inj h).symm⟩
  | 1, h => .inr ⟨rfl, (Option.some.inj h).symm⟩
  | _ + 2, h => nomatch h
theorem two_arr {i : Nat} {v a b : Value} (h : (#[a, b] : Array Value)[i]? = some v) : (i = 0 ∧ v = a) ∨ (i = 1 ∧ v = b) := two_lst (by rw [← Array.getElem?_toList] at h; exact h)
theorem two_len2 {ys : List Value} (h : ys.length = 2) : ∃ a b, ys = [a, b] :=
  match ys, h with
  | [a, b], _ => ⟨a, b, rfl⟩
/-- the ledger tl with d's object put anew -/
structure Mod (d : Addr) (o' : Obj) (tl tl' : List (Addr × Obj)) : Prop where
  new : (d, o') ∈ tl'
  old : ∀ p ∈ tl, p.1 ≠ d → p ∈ tl'
  back : ∀ p ∈ tl', p = (d, o') ∨ (p ∈ tl ∧ p.1 ≠ d)
section
variable {w : World} {mean : ExcName → Option Value} {mg mb : Str → Option Value} {A : Around} {s : Shared} {Q E : Value → Shared → Prop} {g : Heap} {L : Addr} {m : Str → Option Value} {news tl : List (Addr × Obj)} {h h' : Heap}
theorem modIs (d : Addr) (o' : Obj) (tl : List (Addr × Obj)) : ∃ tl', Mod d o' tl tl' := by
  refine ⟨(d, o') :: tl.filter (fun p => decide (p.1 ≠ d)), .head _, fun p hp hd => .tail _ (List.mem_filter.mpr ⟨hp, by simpa using hd⟩), fun p hp => ?_⟩
  rcases List.mem_cons.mp hp with rfl | hp
  · exact .inl rfl
  · have := List.mem_filter.mp hp
    exact .inr ⟨this.1, by simpa using this.2⟩
theorem frOne {d : Addr} {o : Obj} (F : Fr g L h m) (N : News g L h tl) (hm : (d, o) ∈ tl) (hs : Heap.SameBut d h h') : Fr g L h' m := F.change hs (N _ hm).2.1 (N _ hm).2.2
theorem newsOne {d : Addr} {o o' : Obj} {tl' : List (Addr × Obj)} (N : News g L h tl) (hm : (d, o) ∈ tl) (hs : Heap.SameBut d h h') (ho : h'.get? d = some o') (M : Mod d o' tl tl') : News g L h' tl' := fun p hp => by
  rcases M.back p hp with rfl | ⟨h1, h2⟩
  · exact ⟨ho, (N _ hm).2⟩
  · exact ⟨by rw [hs.2 _ h2]; exact (N p h1).1, (N p h1).2⟩
/-- news may be turned and cut -/
theorem newsSub (N : News g L h tl) (hs : ∀ p ∈ news, p ∈ tl) : News g L h news := fun p hp => N p (hs p hp)
/-- one address, one object -/
theorem newsOneObj {a : Addr} {o o' : Obj} (N : News g L h tl) (h1 : (a, o) ∈ tl) (h2 : (a, o') ∈ tl) : o = o' := by
  have e := (N _ h1).1
  rw [(N _ h2).1] at e
  exact (Option.some.inj e).symm
theorem setT {d : Addr} {od : Obj} {kvs : List (Str × Value)} {k : Str} {t : Tok} {v : Value} {Q : Unit → Shared → Prop} (F : Fr g L s.heap m) (N : News g L s.heap tl) (hm : (d, od) ∈ tl) (hD : od.IsDictOf (strKind prg w) kvs) (hz : kvs.length ≤ 1000)
   (ret : ∀ h' tk od' tl', Fr g L h' m → News g L h' tl' → Mod d od' tl tl' → od'.IsDictOf (strKind prg w) (stored kvs k v) → Q () { s with heap := h', toks := tk }) : wpAny (model prg w) A (setItem (.ref d) (.str k t) v) Q E s := by
  refine wpAny_setItem_pairs (hsz := Nat.le_trans hz (by decide +kernel)) (strKind_is prg w k t) (Heap.dictOf_iff.mpr ⟨od, N.get hm, hD⟩) fun h' hmm hs => ?_
  obtain ⟨od', ho', hd'⟩ := Heap.dictOf_iff.mp hmm
  obtain ⟨tl', M⟩ := modIs d od' tl
  exact ret h' _ od' tl' (frOne F N hm hs) (newsOne N hm hs ho' M) M hd'
theorem getT {d : Addr} {od : Obj} {kvs : List (Str × Value)} {k : Str} {t : Tok} {v : Value} (N : News g L s.heap tl) (hm : (d, od) ∈ tl) (hD : od.IsDictOf (strKind prg w) kvs) (hv : valueAt kvs k = some v) (q : Q v { s with toks := s.toks + 1 }) : wpAny (model prg w) A (getItem (.ref d) (.str k t)) Q E s :=
  have hDD : s.heap.DictOf (strKind prg w) d kvs := Heap.dictOf_iff.mpr ⟨od, N.get hm, hD⟩
  wpAny_getItem_of (strKind_is prg w k t) hDD.mapOf hv q
theorem popT {d : Addr} {od : Obj} {kvs : List (Str × Value)} {k : Str} {t : Tok} {v : Value} (F : Fr g L s.heap m) (N : News g L s.heap tl) (hm : (d, od) ∈ tl) (hD : od.IsDictOf (strKind prg w) kvs) (hz : kvs.length ≤ 1000) (hv : valueAt kvs k = some v)
   (ret : ∀ h' tk od' tl', Fr g L h' m → News g L h' tl' → Mod d od' tl tl' → od'.IsDictOf (strKind prg w) (without kvs k) → Q v { s with heap := h', toks := tk }) : wpAny (model prg w) A (call (.builtin "dict.pop") [.ref d, .str k t]) Q E s := by
  have hDD : s.heap.DictOf (strKind prg w) d kvs := Heap.dictOf_iff.mpr ⟨od, N.get hm, hD⟩
  refine call_meetsIn PySem.F.slot_dict_pop hDD.typeIs PySem.F.entry_dict_pop (PySem.F.args_dict_pop_2 _ _) (meets_dict_pop_there (strKind prg w) d (strKind_is prg w k t) [] (.inl rfl) (by rfl)) ⟨kvs, v, hDD, Nat.le_trans hz (by decide +kernel), hv, fun h' hmm hs => ?_⟩
  obtain ⟨od', ho', hd'⟩ := Heap.dictOf_iff.mp hmm
  obtain ⟨tl', M⟩ := modIs d od' tl
  exact ret h' _ od' tl' (frOne F N hm hs) (newsOne N hm hs ho' M) M hd'
theorem appT {l : Addr} {xs : Array Value} {n : Nat} {x : Value} (F : Fr g L s.heap m) (N : News g L s.heap tl) (hm : (l, W.listOf xs n) ∈ tl) (hz : xs.size ≤ 1000)
   (ret : ∀ h' tk tl', Fr g L h' m → News g L h' tl' → Mod l (W.listOf (xs.push x) (n + 1)) tl tl' → Q .none { s with heap := h', toks := tk }) : wpAny (model prg w) A (call (.builtin "list.append") [.ref l, x]) Q E s := by
  refine append_at (N.get hm) (hsz := Nat.le_trans hz (by decide +kernel)) fun h' hs ho' => ?_
  obtain ⟨tl', M⟩ := modIs l (W.listOf (xs.push x) (n + 1)) tl
  exact ret h' _ tl' (frOne F N hm hs) (newsOne N hm hs ho' M) M
end
end Mine

end PM1
section PM2
open PySem PySem.W PySem.Calls PyProof.Rows
set_option Elab.async false
set_option maxRecDepth 100000
set_option pp.deepTerms false
set_option pp.deepTerms.threshold 8
namespace Mine
/-- all that is new in h' since h -/
noncomputable def freshL (h h' : Heap) : List (Addr × Obj) := (List.range h'.objs.size).filterMap fun b => match h.get? b, h'.get? b with
  | none, some o => some (b, o)
  | _, _ => none
theorem mem_freshL {h h' : Heap} {b : Addr} {o : Obj} : (b, o) ∈ freshL h h' ↔ h.get? b = none ∧ h'.get? b = some o := by
  unfold freshL
  rw [List.mem_filterMap]
  constructor
  · rintro ⟨c, _, e⟩
    split at e
    · rename_i h1 h2
      cases e
      exact ⟨h1, h2⟩
    · cases e
  · rintro ⟨h1, h2⟩
    refine ⟨b, List.mem_range.mpr (Heap.lt_size h2), ?_⟩
    rw [h1, h2]
/-- the state of _law_rule's table of code -/
noncomputable def TabSt (im : List (Addr × Obj)) (o9 : Obj) : Prop := o9 = tabObj #[] ∨ ∃ c0 oc0, o9 = tabObj #[rawInt 215, rawInt 22, .ref c0] ∧ (c0, oc0) ∈ im ∧ IsLamCode oc0
section
variable {w : World} {mean : ExcName → Option Value} {mg mb : Str → Option Value} {A : Around} {s : Shared} {Q E : Value → Shared → Prop} {g : Heap} {L : Addr} {m : Str → Option Value} {news tl im : List (Addr × Obj)} {h h' : Heap}
/-- a rule, told by the unchanging objects im -/
noncomputable def RuleIm (w : World) (mean : ExcName → Option Value) (mg mb : Str → Option Value) (im : List (Addr × Obj)) (x : Addr) (reach : Int) (p : Addr) (a b rd : Str) : Prop := ∀ g2 : Heap, (∀ y ∈ im, g2.get? y.1 = some y.2) → RuleAt w mean mg mb g2 x reach p a b rd
theorem RuleIm.more {im im' : List (Addr × Obj)} {x : Addr} {reach : Int} {p : Addr} {a b rd : Str} (r : RuleIm w mean mg mb im x reach p a b rd) (h : ∀ y ∈ im, y ∈ im') : RuleIm w mean mg mb im' x reach p a b rd := fun g2 hg => r g2 fun y hy => hg y (h y hy)
theorem rule_use {p : Addr} {rd a b : Str} {t t2 : Tok} {reach : Int} {o9 : Obj} (F : Fr g L s.heap m) (N : News g L s.heap tl) (X : (hd.heap_39 w.params).In g) (T : TopM mean mg mb g) (hh : A.handled = none) (hdp : A.depth < 420) (hun : A.units < 300)
   (he : EndsOk rd a b) (h9 : (229, o9) ∈ tl) (him : ∀ y ∈ im, y ∈ tl) (hoff : ∀ y ∈ im, y.1 ≠ 229) (hT : TabSt im o9)
   (ret : ∀ x h' tk tl' o9' im', Fr g L h' m → News g L h' tl' → (∀ y ∈ tl, y.1 ≠ 229 → y ∈ tl') → (229, o9') ∈ tl' → (∀ y ∈ im', y ∈ tl') → (∀ y ∈ im, y ∈ im') → (∀ y ∈ im', y ∈ im ∨ s.heap.get? y.1 = none) → TabSt im' o9' → RuleIm w mean mg mb im' x reach p a b rd → Q (.ref x) { s with heap := h', toks := tk }) :
   wpAny (model prg w) A (call (.ref 234) [.str rd t, .int reach t2, .ref p]) Q E s := by
  have G : Gd w mean mg mb [229] s.heap := (gdOf F X T N).mono (Stp.refl _ []) (fun _ h => nomatch h) fun a ha => by rw [List.mem_singleton.mp ha]; exact List.mem_map_of_mem h9
  have fin : ∀ h' tk x c' oc', Stp s.heap h' [229] → h'.get? 229 = some (tabObj #[rawInt 215, rawInt 22, .ref c']) → h'.get? c' = some oc' → IsLamCode oc' → ((c', oc') ∈ im ∨ s.heap.get? c' = none) →
      (∀ g2 : Heap, (∀ b o, h'.get? b = some o → s.heap.get? b = none → g2.get? b = some o) → g2.get? c' = some oc' → RuleAt w mean mg mb g2 x reach p a b rd) → Q (.ref x) { s with heap := h', toks := tk } := by
    intro h' tk x c' oc' S h9' hc hl hci hR
    have F' : Fr g L h' m := frMod F N S fun a ha => by rw [List.mem_singleton.mp ha]; exact List.mem_map_of_mem h9
    have N0 : News g L h' ((229, tabObj #[rawInt 215, rawInt 22, .ref c']) :: (freshL s.heap h' ++ tl.filter (fun y => decide (y.1 ≠ 229)))) := by
      refine newsCons (newsAt N h9 h9') fun y hy => ?_
      rcases List.mem_append.mp hy with hy | hy
      · obtain ⟨h1, h2⟩ := mem_freshL.mp (show (y.1, y.2) ∈ _ from hy)
        exact newsNew F h2 h1
      · obtain ⟨h1, h2⟩ := List.mem_filter.mp hy
        exact newsIn N S h1 fun q => by
          have h2 : y.1 ≠ 229 := by simpa using h2
          exact h2 (List.mem_singleton.mp q)
    refine ret x h' tk _ (tabObj #[rawInt 215, rawInt 22, .ref c']) (freshL s.heap h' ++ im) F' N0 (fun y hy hd => .tail _ (List.mem_append_right _ (List.mem_filter.mpr ⟨hy, by simpa using hd⟩))) (.head _) ?_ (fun y hy => List.mem_append_right _ hy) ?_ ?_ ?_
    · intro y hy
      rcases List.mem_append.mp hy with hy | hy
      · exact .tail _ (List.mem_append_left _ hy)
      · exact .tail _ (List.mem_append_right _ (List.mem_filter.mpr ⟨him y hy, by simpa using hoff y hy⟩))
    · intro y hy
      rcases List.mem_append.mp hy with hy | hy
      · exact .inr (mem_freshL.mp (show (y.1, y.2) ∈ _ from hy)).1
      · exact .inl hy
    · refine .inr ⟨c', oc', rfl, ?_, hl⟩
      rcases hci with h1 | h1
      · exact List.mem_append_right _ h1
      · exact List.mem_append_left _ (mem_freshL.mpr ⟨h1, hc⟩)
    · intro g2 hg
      refine hR g2 (fun b o h1 h2 => hg (b, o) (List.mem_append_left _ (mem_freshL.mpr ⟨h2, h1⟩))) ?_
      rcases hci with h1 | h1
      · exact hg (c', oc') (List.mem_append_right _ h1)
      · exact hg (c', oc') (List.mem_append_left _ (mem_freshL.mpr ⟨h1, hc⟩))
  rw [toAt hh]
  rcases hT with rfl | ⟨c0, oc0, rfl, hc0, hl0⟩
  · exact rule1_ok (N.get h9) he G hdp hun fun h' tk x c' oc' S h9' hc hl hx hcn hR => fin h' tk x c' oc' S h9' hc hl (.inr hcn) hR
  · exact rule2_ok (N.get (him _ hc0)) hl0 (N.get h9) he G hdp hun fun h' tk x S h9' hc hl hx hR => fin h' tk x c0 oc0 S h9' hc hl (.inl hc0) hR
end
end Mine

end PM2
section PM3
open PySem PySem.W PySem.Calls PyProof.Rows
set_option Elab.async false
set_option maxRecDepth 100000
set_option pp.deepTerms false
set_option pp.deepTerms.threshold 8
namespace Mine
section
variable {w : World} {mean : ExcName → Option Value} {mg mb : Str → Option Value} {A : Around} {s : Shared} {Q E : Value → Shared → Prop} {g : Heap} {L : Addr} {m : Str → Option Value} {news tl im : List (Addr × Obj)} {h h' : Heap}
theorem extT {D b : Addr} {its its2 : Array Value} {n n2 : Nat} (F : Fr g L s.heap m) (N : News g L s.heap tl) (hm : (D, W.listOf its n) ∈ tl) (hb : (b, W.listOf its2 n2) ∈ tl) (hne : its2 ≠ #[]) (hd : ¬(!its.isEmpty && Builtin.List.listTooLong (its.size + its2.size)) = true) (hz : its.toList.length ≤ sizeLine) (hz2 : its.size + its2.size ≤ sizeLine + 1)
   (ret : ∀ h' tk tl', Fr g L h' m → News g L h' tl' → Mod D (W.listOf (its ++ its2) (n + 1)) tl tl' → Q .none { s with heap := h', toks := tk }) : wpAny (model prg w) A (call (.builtin "list.extend") [.ref D, .ref b]) Q E s := by
  have z := N _ hm
  refine call_meets PySem.F.slot_list_extend ⟨_, z.1, rfl⟩ PySem.F.entry_list_extend (PySem.F.args_list_extend_2 _ _) (PySem.AutoSeq1.list_extend_list_list_0 D its n b its2 n2 hd (by simpa using hz) hz2) ⟨z.1, (N _ hb).1, ?_⟩
  obtain ⟨tl', M⟩ := modIs D (W.listOf (its ++ its2) (n + 1)) tl
  refine ret _ _ tl' (frOne F N hm (Heap.SameBut.update ..)) (newsOne N hm (Heap.SameBut.update ..) ?_ M) M
  rw [Heap.get?_update_self _ z.1 (by first | rfl | (simp [Obj.mapSeq, W.listOf, Obj.isFreed]; done))]
  simp [Obj.mapSeq, W.listOf, hne]
theorem entGetT {x dx : Addr} {od : Obj} {name : Str} {v : Value} {expr : Bool} (F : Fr g L s.heap m) (N : News g L s.heap tl) (X : (hd.heap_39 w.params).In g) (hx : (x, instObj 59 dx) ∈ tl) (hdx : (dx, od) ∈ tl) (hl : lookIn name od = some (some v)) (hv : handedIn v = true) (ha : findIn (hd.heap_39 w.params) (.ref 59) name = some none) (hh : hasDictIn (hd.heap_39 w.params) 59 = true) (hg : findIn (hd.heap_39 w.params) (.ref 59) "__getattribute__" = some (some (.builtin "object.__getattribute__"))) (q : Q v { s with toks := s.toks + 1 }) : wpAny (model prg w) A (getAttr (.ref x) name expr) Q E s := entGet0 (N.get hx) (N.get hdx) (X.keeps F.keep) hl hv ha hh hg q
end
/-- the addresses of the five records' parts -/
structure Ads where
  e : Nat → Addr
  d : Nat → Addr
  u : Nat → Addr
  l : Nat → Addr
noncomputable def RelsIm (w : World) (mean : ExcName → Option Value) (mg mb : Str → Option Value) (im : List (Addr × Obj)) (p : Addr) : List Value → List Rule → Prop
  | [], [] => True
  | v :: vs, r :: rs => (∃ x, v = .ref x ∧ RuleIm w mean mg mb im x r.reach p (nm r.o) (nm r.t) r.road) ∧ RelsIm w mean mg mb im p vs rs
  | _, _ => False
/-- the books and paths while they are made: the first k places have theirs -/
structure Bk (w : World) (mean : ExcName → Option Value) (mg mb : Str → Option Value) (p b : Addr) (a : Ads) (k : Nat) (vs : Nat → List Value) (rs : Nat → List Rule) (tl im : List (Addr × Obj)) : Prop where
  hp : ∃ op pk, (p, op) ∈ tl ∧ op.IsDictOf (strKind prg w) pk ∧ pk.map (·.1) = (List.range k).map nm ∧ ∀ q, q < k → ∃ u, valueAt pk (nm q) = some (.str (pa q q) u)
  hb : ∃ ob kvs, (b, ob) ∈ tl ∧ ob.IsDictOf (strKind prg w) kvs ∧ kvs.map (·.1) = (List.range k).map fo ∧ ∀ q, q < k → valueAt kvs (fo q) = some (.ref (a.e q))
  h9 : ∃ o9, (229, o9) ∈ tl ∧ TabSt im o9
  him : ∀ y ∈ im, y ∈ tl
  off : ∀ y ∈ im, y.1 ≠ p ∧ y.1 ≠ b ∧ y.1 ≠ 229 ∧ ∀ q, q < k → y.1 ≠ a.l q
  he : ∀ q, q < k → (a.e q, instObj 59 (a.d q)) ∈ im ∧ (∃ t1 t2 t3 t4, (a.d q, dictOf (entD w.params t1 t2 t3 t4 (.ref (a.u q)) (.ref (a.l q)) .none .none) 4) ∈ im) ∧ (∃ us n, (a.u q, W.listOf us n) ∈ im ∧ IsStrs us.toList [Str.ofString "net", nm q])
  hl : ∀ q, q < k → ∃ n, (a.l q, W.listOf (vs q).toArray n) ∈ tl
  rel : ∀ q, q < k → RelsIm w mean mg mb im p (vs q) (rs q)
  dist : p ≠ b ∧ p ≠ 229 ∧ b ≠ 229 ∧ (∀ q, q < k → a.l q ≠ p ∧ a.l q ≠ b ∧ a.l q ≠ 229) ∧ ∀ q q', q < k → q' < k → a.l q = a.l q' → q = q'
section
variable {w : World} {mean : ExcName → Option Value} {mg mb : Str → Option Value} {p b : Addr} {a : Ads} {k : Nat} {vs : Nat → List Value} {rs : Nat → List Rule} {tl tl' im im' : List (Addr × Obj)}
theorem RelsIm.more {vs : List Value} {rs : List Rule} (r : RelsIm w mean mg mb im p vs rs) (h : ∀ y ∈ im, y ∈ im') : RelsIm w mean mg mb im' p vs rs := by
  induction vs generalizing rs with
  | nil => cases rs with
    | nil => exact r
    | cons _ _ => exact r.elim
  | cons v vs ih => cases rs with
    | nil => exact r.elim
    | cons x rs =>
      obtain ⟨⟨y, e, hr⟩, r2⟩ := r
      exact ⟨⟨y, e, hr.more h⟩, ih r2⟩
theorem RelsIm.snoc {vs : List Value} {rs : List Rule} {x : Addr} {r : Rule} (h : RelsIm w mean mg mb im p vs rs) (hx : RuleIm w mean mg mb im x r.reach p (nm r.o) (nm r.t) r.road) : RelsIm w mean mg mb im p (vs ++ [.ref x]) (rs ++ [r]) := by
  induction vs generalizing rs with
  | nil => cases rs with
    | nil => exact ⟨⟨x, rfl, hx⟩, trivial⟩
    | cons _ _ => exact h.elim
  | cons v vs ih => cases rs with
    | nil => exact h.elim
    | cons y rs => exact ⟨h.1, ih h.2⟩
noncomputable def updA {α : Type} (f : Nat → α) (q : Nat) (v : α) : Nat → α := fun j => if j = q then v else f j
/-- a rule is put to place q's list -/
theorem Bk.put (B : Bk w mean mg mb p b a k vs rs tl im) {q : Nat} (hq : q < k) {x : Addr} {r : Rule} {n : Nat} (M : Mod (a.l q) (W.listOf ((vs q).toArray.push (.ref x)) n) tl tl') (hx : RuleIm w mean mg mb im x r.reach p (nm r.o) (nm r.t) r.road) :
    Bk w mean mg mb p b a k (updA vs q (vs q ++ [.ref x])) (updA rs q (rs q ++ [r])) tl' im := by
  obtain ⟨op, pk, hp, hpD, hpk, hpv⟩ := B.hp
  obtain ⟨ob, kvs, hb, hbD, hbk, hbv⟩ := B.hb
  obtain ⟨o9, h9, hT⟩ := B.h9
  obtain ⟨d1, d2, d3, d4, d5⟩ := B.dist
  refine ⟨⟨op, pk, M.old _ hp (d4 q hq).1.symm, hpD, hpk, hpv⟩, ⟨ob, kvs, M.old _ hb (d4 q hq).2.1.symm, hbD, hbk, hbv⟩, ⟨o9, M.old _ h9 (d4 q hq).2.2.symm, hT⟩, fun y hy => M.old _ (B.him y hy) ((B.off y hy).2.2.2 q hq), B.off, B.he, fun j hj => ?_, fun j hj => ?_, B.dist⟩
  · by_cases e : j = q
    · subst e
      refine ⟨n, ?_⟩
      have := M.new
      simpa [updA] using this
    · obtain ⟨n', hn⟩ := B.hl j hj
      exact ⟨n', by simpa [updA, e] using M.old _ hn fun e' => e (d5 j q hj hq e')⟩
  · by_cases e : j = q
    · subst e
      simpa [updA] using (B.rel j hj).snoc hx
    · simpa [updA, e] using B.rel j hj
/-- a rule is made -/
theorem Bk.ruled {h : Heap} {g : Heap} {L : Addr} (B : Bk w mean mg mb p b a k vs rs tl im) (N : News g L h tl) {o9' : Obj} (ho : ∀ y ∈ tl, y.1 ≠ 229 → y ∈ tl') (h9' : (229, o9') ∈ tl') (him : ∀ y ∈ im', y ∈ tl') (hsub : ∀ y ∈ im, y ∈ im') (hnew : ∀ y ∈ im', y ∈ im ∨ h.get? y.1 = none) (hT : TabSt im' o9') :
    Bk w mean mg mb p b a k vs rs tl' im' := by
  obtain ⟨op, pk, hp, hpD, hpk, hpv⟩ := B.hp
  obtain ⟨ob, kvs, hb, hbD, hbk, hbv⟩ := B.hb
  obtain ⟨o9, h9, _⟩ := B.h9
  obtain ⟨d1, d2, d3, d4, d5⟩ := B.dist
  refine ⟨⟨op, pk, ho _ hp d2, hpD, hpk, hpv⟩, ⟨ob, kvs, ho _ hb d3, hbD, hbk, hbv⟩, ⟨o9', h9', hT⟩, him, fun y hy => ?_, fun j hj => ?_, fun j hj => ?_, fun j hj => (B.rel j hj).more hsub, B.dist⟩
  · rcases hnew y hy with hy | hy
    · exact B.off y hy
    · refine ⟨fun e => ?_, fun e => ?_, fun e => ?_, fun j hj e => ?_⟩
      · rw [e, (N _ hp).1] at hy; cases hy
      · rw [e, (N _ hb).1] at hy; cases hy
      · rw [e, (N _ h9).1] at hy; cases hy
      · obtain ⟨n, hn⟩ := B.hl j hj
        rw [e, (N _ hn).1] at hy; cases hy
  · obtain ⟨h1, ⟨t1, t2, t3, t4, h2⟩, us, n, h3, h4⟩ := B.he j hj
    exact ⟨hsub _ h1, ⟨t1, t2, t3, t4, hsub _ h2⟩, us, n, hsub _ h3, h4⟩
  · obtain ⟨n, hn⟩ := B.hl j hj
    exact ⟨n, ho _ hn (d4 j hj).2.2⟩
end
end Mine

end PM3
section PM4
open PySem PySem.W PySem.Calls PyProof.Rows
set_option Elab.async false
set_option maxRecDepth 100000
namespace Mine
section
variable {kvs : List (Str × Value)} {k : Str} {v : Value}
theorem any_keys : (kvs.any (fun kv => decide (kv.1 = k))) = decide (k ∈ kvs.map (·.1)) := by
  induction kvs with
  | nil => rfl
  | cons x xs ih =>
              simp only [List.any_cons, ih, List.map_cons, List.mem_cons]
              by_cases h : x.1 = k
              · simp [h]
              · have h' : ¬ k = x.1 := fun e => h e.symm
                simp [h, h']
theorem stored_keys_new (h : k ∉ kvs.map (·.1)) : (stored kvs k v).map (·.1) = kvs.map (·.1) ++ [k] := by
  unfold stored
  rw [any_keys, decide_eq_false h]
  simp
theorem stored_keys_old (h : k ∈ kvs.map (·.1)) : (stored kvs k v).map (·.1) = kvs.map (·.1) := by
  unfold stored
  rw [any_keys, decide_eq_true h, if_pos rfl, List.map_map]
  refine List.map_congr_left fun x _ => ?_
  by_cases h : x.1 = k <;> simp [h]
theorem stored_at : valueAt (stored kvs k v) k = some v := by
  unfold stored
  rw [any_keys]
  by_cases h : k ∈ kvs.map (·.1)
  · rw [decide_eq_true h, if_pos rfl]
    induction kvs with
    | nil => cases h
    | cons x xs ih =>
      by_cases e : x.1 = k
      · simp [valueAt, e]
      · have : k ∈ xs.map (·.1) := (List.mem_cons.mp h).resolve_left fun q => e q.symm
        have := ih this
        simp only [valueAt, List.map_cons, e, if_false, List.find?_cons, decide_false] at this ⊢
        exact this
  · rw [decide_eq_false h, if_neg Bool.false_ne_true]
    have hn : kvs.find? (fun kv => decide (kv.1 = k)) = none := List.find?_eq_none.mpr fun x hx => by simpa using fun e => h (List.mem_map.mpr ⟨x, hx, e⟩)
    simp [valueAt, List.find?_append, hn]
theorem stored_other {j : Str} (hj : j ≠ k) : valueAt (stored kvs k v) j = valueAt kvs j := by
  unfold stored
  rw [any_keys]
  by_cases h : k ∈ kvs.map (·.1)
  · rw [decide_eq_true h, if_pos rfl]
    clear h
    induction kvs with
    | nil => rfl
    | cons x xs ih =>
      by_cases e : x.1 = k
      · have e2 : ¬ k = j := fun q => hj q.symm
        simp only [valueAt, List.map_cons, e, if_true, List.find?_cons, e2, decide_false] at ih ⊢
        exact ih
      · by_cases e3 : x.1 = j
        · simp [valueAt, e, e3, hj]
        · simp only [valueAt, List.map_cons, e, if_false, List.find?_cons, e3, decide_false] at ih ⊢
          exact ih
  · rw [decide_eq_false h, if_neg Bool.false_ne_true]
    have e2 : ¬ k = j := fun q => hj q.symm
    simp [valueAt, List.find?_append, e2]
end
theorem allLt_lt {d : Addr} {l : List (Addr × Obj)} (h : AllLt d l) : ∀ p ∈ l, @LT.lt Nat _ p.1 d := by
  induction l with
  | nil => exact fun p hp => nomatch hp
  | cons q r ih =>
    intro p hp
    obtain ⟨h1, h2⟩ := h
    rcases List.mem_cons.mp hp with rfl | hp
    · exact h1
    · exact ih h2 p hp
theorem nm_inj {a b : Nat} (h : nm a = nm b) : a = b := by
  have := congrArg Str.cps h
  simp only [nm, Array.mk.injEq, List.cons.injEq, and_true] at this
  lia
theorem fo_inj' {a b : Nat} (h : fo a = fo b) : a = b := by
  have := congrArg Str.cps h
  simp only [fo, Array.mk.injEq, List.cons.injEq, true_and, and_true] at this
  lia
theorem nm_notin {k : Nat} : nm k ∉ (List.range k).map nm := fun h => by
  obtain ⟨j, hj, e⟩ := List.mem_map.mp h
  have := List.mem_range.mp hj
  have := nm_inj e
  lia
theorem fo_notin {k : Nat} : fo k ∉ (List.range k).map fo := fun h => by
  obtain ⟨j, hj, e⟩ := List.mem_map.mp h
  have := List.mem_range.mp hj
  have := fo_inj' e
  lia
theorem jPa {q : Nat} (hq : q < 5) : okJoin (Str.ofString "/" ++ nm q) (nm q) (pa q q) = true := by
  rw [name_fo q hq]; exact join_pa q hq q hq
/-- the ledger without own -/
noncomputable def offOwn (own tl : List (Addr × Obj)) : List (Addr × Obj) := tl.filter fun y => own.all fun q => decide (q.1 ≠ y.1)
theorem mem_offOwn {own tl : List (Addr × Obj)} {y : Addr × Obj} : y ∈ offOwn own tl ↔ y ∈ tl ∧ ∀ q ∈ own, q.1 ≠ y.1 := by
  unfold offOwn
  rw [List.mem_filter, List.all_eq_true]
  simp
section
variable {w : World} {mean : ExcName → Option Value} {mg mb : Str → Option Value} {p b : Addr} {a : Ads} {k : Nat} {vs : Nat → List Value} {rs : Nat → List Rule} {tl tl' im im' own : List (Addr × Obj)}
theorem Bk.sub (B : Bk w mean mg mb p b a k vs rs tl im) (hs : ∀ y ∈ tl, y ∈ tl') : Bk w mean mg mb p b a k vs rs tl' im := by
  obtain ⟨op, pk, hp, r1⟩ := B.hp
  obtain ⟨ob, kvs, hb, r2⟩ := B.hb
  obtain ⟨o9, h9, r3⟩ := B.h9
  exact ⟨⟨op, pk, hs _ hp, r1⟩, ⟨ob, kvs, hs _ hb, r2⟩, ⟨o9, hs _ h9, r3⟩, fun y hy => hs _ (B.him y hy), B.off, B.he, fun q hq => (B.hl q hq).imp fun _ h => hs _ h, B.rel, B.dist⟩
/-- what stands apart from own: all that the books hold -/
noncomputable def BkOff (p b : Addr) (a : Ads) (k : Nat) (im own : List (Addr × Obj)) : Prop := ∀ q ∈ own, q.1 ≠ p ∧ q.1 ≠ b ∧ q.1 ≠ 229 ∧ (∀ j, j < k → q.1 ≠ a.l j) ∧ ∀ y ∈ im, q.1 ≠ y.1
theorem Bk.bkOff (B : Bk w mean mg mb p b a k vs rs tl im) (h : OwnOff own (tl.map (·.1))) : BkOff p b a k im own := fun q hq => by
  obtain ⟨op, pk, hp, r1⟩ := B.hp
  obtain ⟨ob, kvs, hb, r2⟩ := B.hb
  obtain ⟨o9, h9, r3⟩ := B.h9
  have f : ∀ y ∈ tl, q.1 ≠ y.1 := fun y hy => h q hq _ (List.mem_map_of_mem hy)
  refine ⟨f _ hp, f _ hb, f _ h9, fun j hj => ?_, fun y hy => f _ (B.him y hy)⟩
  obtain ⟨n, hn⟩ := B.hl j hj
  exact f _ hn
theorem Bk.drop (B : Bk w mean mg mb p b a k vs rs tl im) (h : BkOff p b a k im own) : Bk w mean mg mb p b a k vs rs (offOwn own tl) im := by
  obtain ⟨op, pk, hp, r1⟩ := B.hp
  obtain ⟨ob, kvs, hb, r2⟩ := B.hb
  obtain ⟨o9, h9, r3⟩ := B.h9
  exact ⟨⟨op, pk, mem_offOwn.mpr ⟨hp, fun q hq => (h q hq).1⟩, r1⟩, ⟨ob, kvs, mem_offOwn.mpr ⟨hb, fun q hq => (h q hq).2.1⟩, r2⟩, ⟨o9, mem_offOwn.mpr ⟨h9, fun q hq => (h q hq).2.2.1⟩, r3⟩, fun y hy => mem_offOwn.mpr ⟨B.him y hy, fun q hq => (h q hq).2.2.2.2 y hy⟩, B.off, B.he, fun j hj => (B.hl j hj).imp fun _ h' => mem_offOwn.mpr ⟨h', fun q hq => (h q hq).2.2.2.1 j hj⟩, B.rel, B.dist⟩
end
end Mine

end PM4
section PM5
open PySem PySem.W PySem.Calls PyProof.Rows
set_option Elab.async false
set_option maxRecDepth 100000
namespace Mine
noncomputable def cards : Nat → List Value := fun _ => []
noncomputable def norules : Nat → List Rule := fun _ => []
section
variable {w : World} {mean : ExcName → Option Value} {mg mb : Str → Option Value} {p b : Addr} {a : Ads} {k : Nat} {tl tl3 tl5 tl6 tlx im own : List (Addr × Obj)}
noncomputable def adsMore (a : Ads) (k : Nat) (x dx ua rl : Addr) : Ads := ⟨updA a.e k x, updA a.d k dx, updA a.u k ua, updA a.l k rl⟩
theorem updA_self {α : Type} {f : Nat → α} {q : Nat} {v : α} : updA f q v q = v := if_pos rfl
theorem updA_ne {α : Type} {f : Nat → α} {q j : Nat} {v : α} (h : j ≠ q) : updA f q v j = f j := if_neg h
theorem Bk.made (B : Bk w mean mg mb p b a k cards norules tl im) (hk5 : k < 5) {pk kvs : List (Str × Value)} {op2 ob2 : Obj} {x dx ua rl : Addr} {t1 t2 t3 t4 tt : Tok} {us : Array Value} {n : Nat}
   (hpk : pk.map (·.1) = (List.range k).map nm) (hpv : ∀ q, q < k → ∃ u, valueAt pk (nm q) = some (.str (pa q q) u)) (hbk : kvs.map (·.1) = (List.range k).map fo) (hbv : ∀ q, q < k → valueAt kvs (fo q) = some (.ref (a.e q)))
   (M3 : Mod p op2 tl tl3) (hpD2 : op2.IsDictOf (strKind prg w) (stored pk (nm k) (.str (pa k k) tt)))
   (M5 : Mod b ob2 ((x, instObj 59 dx) :: (dx, dictOf (entD w.params t1 t2 t3 t4 (.ref ua) (.ref rl) .none .none) 4) :: (ua, W.listOf #[] 0) :: (rl, W.listOf #[] 0) :: tl3) tl5) (hbD2 : ob2.IsDictOf (strKind prg w) (stored kvs (Str.ofString "/" ++ nm k) (.ref x)))
   (hsub : ∀ y ∈ tl5, y ∈ tlx) (M6 : Mod ua (W.listOf us n) tlx tl6) (hus : IsStrs us.toList [Str.ofString "net", nm k]) (l1 : AllLt dx tl3) (l2 : @LT.lt Nat _ dx x) (l3 : @LT.lt Nat _ x ua) (l4 : @LT.lt Nat _ ua rl) :
   Bk w mean mg mb p b (adsMore a k x dx ua rl) (k + 1) cards norules tl6 ((x, instObj 59 dx) :: (dx, dictOf (entD w.params t1 t2 t3 t4 (.ref ua) (.ref rl) .none .none) 4) :: (ua, W.listOf us n) :: im) := by
  obtain ⟨op1, _, hp1, _⟩ := B.hp
  obtain ⟨ob1, _, hb1, _⟩ := B.hb
  obtain ⟨o9, h9, hT⟩ := B.h9
  obtain ⟨d1, d2, d3, d4, d5⟩ := B.dist
  rw [name_fo k hk5] at hbD2
  have b3 := M3.old _ hb1 d1.symm
  have n3 := M3.old _ h9 d2.symm
  have lp := allLt_lt l1 _ M3.new
  have lb := allLt_lt l1 _ b3
  have l9 := allLt_lt l1 _ n3
  have i3 : ∀ y ∈ im, y ∈ tl3 := fun y hy => M3.old _ (B.him y hy) (B.off y hy).1
  have li : ∀ y ∈ im, @LT.lt Nat _ y.1 dx := fun y hy => allLt_lt l1 _ (i3 y hy)
  have ll : ∀ q, q < k → @LT.lt Nat _ (a.l q) dx := fun q hq => by
    obtain ⟨m, hm⟩ := B.hl q hq
    exact allLt_lt l1 _ (M3.old _ hm (d4 q hq).1)
  dsimp only at lp lb l9
  have up : ∀ y ∈ tl3, y.1 ≠ b → y ∈ tl6 := fun y hy hb => M6.old _ (hsub _ (M5.old _ (.tail _ (.tail _ (.tail _ (.tail _ hy)))) hb)) (by
    have := allLt_lt l1 _ hy
    exact neN (by lia))
  have ux : (x, instObj 59 dx) ∈ tl6 := M6.old _ (hsub _ (M5.old _ (.head _) (neN (by dsimp only; lia)))) (neN (by dsimp only; lia))
  have ud : (dx, dictOf (entD w.params t1 t2 t3 t4 (.ref ua) (.ref rl) .none .none) 4) ∈ tl6 := M6.old _ (hsub _ (M5.old _ (.tail _ (.head _)) (neN (by dsimp only; lia)))) (neN (by dsimp only; lia))
  have ur : (rl, W.listOf #[] 0) ∈ tl6 := M6.old _ (hsub _ (M5.old _ (.tail _ (.tail _ (.tail _ (.head _)))) (neN (by dsimp only; lia)))) (neN (by dsimp only; lia))
  have ub : (b, ob2) ∈ tl6 := M6.old _ (hsub _ M5.new) (neN (by dsimp only; lia))
  have le : ∀ {q}, q < k + 1 → q ≠ k → q < k := fun h h' => by lia
  have off1 : ∀ y : Addr × Obj, @LE.le Nat _ dx y.1 → @LT.lt Nat _ y.1 rl → y.1 ≠ p ∧ y.1 ≠ b ∧ y.1 ≠ 229 ∧ ∀ q, q < k + 1 → y.1 ≠ (adsMore a k x dx ua rl).l q := fun y h1 h2 => by
    refine ⟨neN (by lia), neN (by lia), neN (by lia), fun q hq => ?_⟩
    by_cases e : q = k
    · subst e; show y.1 ≠ updA a.l q rl q; rw [updA_self]; exact neN (by lia)
    · show y.1 ≠ updA a.l k rl q; rw [updA_ne e]; have := ll q (le hq e); exact neN (by lia)
  refine ⟨⟨op2, _, up _ M3.new d1, hpD2, ?_, ?_⟩, ⟨ob2, _, ub, hbD2, ?_, ?_⟩, ⟨o9, up _ n3 d3.symm, ?_⟩, ?_, ?_, ?_, ?_, ?_, ?_⟩
  · rw [stored_keys_new (by rw [hpk]; exact nm_notin), hpk, List.range_succ, List.map_append]; rfl
  · intro q hq
    by_cases e : q = k
    · subst e; exact ⟨tt, stored_at⟩
    · rw [stored_other fun h => e (nm_inj h)]; exact hpv q (le hq e)
  · rw [stored_keys_new (by rw [hbk]; exact fo_notin), hbk, List.range_succ, List.map_append]; rfl
  · intro q hq
    by_cases e : q = k
    · subst e; show _ = some (Value.ref (updA a.e q x q)); rw [updA_self]; exact stored_at
    · show _ = some (Value.ref (updA a.e k x q)); rw [updA_ne e, stored_other fun h => e (fo_inj' h)]; exact hbv q (le hq e)
  · rcases hT with h | ⟨c0, oc0, h1, h2, h3⟩
    · exact .inl h
    · exact .inr ⟨c0, oc0, h1, .tail _ (.tail _ (.tail _ h2)), h3⟩
  · intro y hy
    rcases List.mem_cons.mp hy with rfl | hy
    · exact ux
    rcases List.mem_cons.mp hy with rfl | hy
    · exact ud
    rcases List.mem_cons.mp hy with rfl | hy
    · exact M6.new
    · exact up _ (i3 y hy) (B.off y hy).2.1
  · intro y hy
    rcases List.mem_cons.mp hy with rfl | hy
    · exact off1 _ (by dsimp only; lia) (by dsimp only; lia)
    rcases List.mem_cons.mp hy with rfl | hy
    · exact off1 _ (by dsimp only; lia) (by dsimp only; lia)
    rcases List.mem_cons.mp hy with rfl | hy
    · exact off1 _ (by dsimp only; lia) (by dsimp only; lia)
    · obtain ⟨o1, o2, o3, o4⟩ := B.off y hy
      refine ⟨o1, o2, o3, fun q hq => ?_⟩
      by_cases e : q = k
      · subst e; show y.1 ≠ updA a.l q rl q; rw [updA_self]; have := li y hy; exact neN (by lia)
      · show y.1 ≠ updA a.l k rl q; rw [updA_ne e]; exact o4 q (le hq e)
  · intro q hq
    by_cases e : q = k
    · subst e
      simp only [adsMore, updA_self]
      exact ⟨.head _, ⟨t1, t2, t3, t4, .tail _ (.head _)⟩, us, n, .tail _ (.tail _ (.head _)), hus⟩
    · simp only [adsMore, updA_ne e]
      obtain ⟨h1, ⟨t1, t2, t3, t4, h2⟩, us', n', h3, h4⟩ := B.he q (le hq e)
      exact ⟨.tail _ (.tail _ (.tail _ h1)), ⟨t1, t2, t3, t4, .tail _ (.tail _ (.tail _ h2))⟩, us', n', .tail _ (.tail _ (.tail _ h3)), h4⟩
  · intro q hq
    by_cases e : q = k
    · subst e; simp only [adsMore, updA_self]; exact ⟨0, ur⟩
    · simp only [adsMore, updA_ne e]
      obtain ⟨m, hm⟩ := B.hl q (le hq e)
      exact ⟨m, up _ (M3.old _ hm (d4 q (le hq e)).1) (d4 q (le hq e)).2.1⟩
  · intro q _; exact trivial
  · refine ⟨d1, d2, d3, fun q hq => ?_, fun q q' hq hq' => ?_⟩
    · by_cases e : q = k
      · subst e; simp only [adsMore, updA_self]; exact ⟨neN (by lia), neN (by lia), neN (by lia)⟩
      · simp only [adsMore, updA_ne e]; exact d4 q (le hq e)
    · by_cases e : q = k <;> by_cases e' : q' = k
      · intro _; rw [e, e']
      · subst e; simp only [adsMore, updA_self, updA_ne e']; intro h; have := ll q' (le hq' e'); exact absurd h (neN (by lia))
      · subst e'; simp only [adsMore, updA_self, updA_ne e]; intro h; have := ll q (le hq e); exact absurd h (neN (by lia))
      · simp only [adsMore, updA_ne e, updA_ne e']; exact d5 q q' (le hq e) (le hq' e')
noncomputable def putRule (rs : Nat → List Rule) (r : Rule) : Nat → List Rule := updA (updA rs r.o (rs r.o ++ [r])) r.t (updA rs r.o (rs r.o ++ [r]) r.t ++ [r])
noncomputable def rulesAfter (all : List Rule) (i : Nat) : Nat → List Rule := (all.take i).foldl putRule norules
theorem rulesAfter_succ {all : List Rule} {i : Nat} {r : Rule} (h : all[i]? = some r) : rulesAfter all (i + 1) = putRule (rulesAfter all i) r := by
  unfold rulesAfter
  rw [List.take_add_one, h, List.foldl_append]; rfl
theorem chain2 {m : Str → Option Value} {a b : Str} {va vb : Value} (ha : m a = some va) (hb : m b = some vb) : m = fun y => if y = a then some va else if y = b then some vb else m y := by
  funext y
  by_cases h1 : y = a
  · rw [if_pos h1, h1, ha]
  · rw [if_neg h1]
    by_cases h2 : y = b
    · rw [if_pos h2, h2, hb]
    · rw [if_neg h2]
/-- the roads as they stand on the heap -/
noncomputable def RoadsAt (g : Heap) (as : List Value) (all : List Rule) : Prop := as.length = all.length ∧ ∀ (i : Nat) (v : Value), as[i]? = some v → ∃ (r : Rule) (x : Addr) (t t' : Tok), all[i]? = some r ∧ v = .ref x ∧ g.get? x = some { cls := .type "tuple", data := .seq #[.int (1000000 - r.reach) t, .str r.road t'] }
theorem BkOff.made {own : List (Addr × Obj)} {x dx ua rl : Addr} {o1 o2 o3 : Obj} (O : BkOff p b a k im own) (_hk : k < 5) (lown : ∀ q ∈ own, @LT.lt Nat _ q.1 dx) (l2 : @LT.lt Nat _ dx x) (l3 : @LT.lt Nat _ x ua) (l4 : @LT.lt Nat _ ua rl) : BkOff p b (adsMore a k x dx ua rl) (k + 1) ((x, o1) :: (dx, o2) :: (ua, o3) :: im) own := fun q hq => by
  obtain ⟨h1, h2, h3, h4, h5⟩ := O q hq
  have lq := lown q hq
  refine ⟨h1, h2, h3, fun j hj => ?_, fun y hy => ?_⟩
  · by_cases e : j = k
    · subst e; simp only [adsMore, updA_self]; exact neN (by lia)
    · simp only [adsMore, updA_ne e]; exact h4 j (by lia)
  · rcases List.mem_cons.mp hy with rfl | hy
    · exact neN (by dsimp only; lia)
    rcases List.mem_cons.mp hy with rfl | hy
    · exact neN (by dsimp only; lia)
    rcases List.mem_cons.mp hy with rfl | hy
    · exact neN (by dsimp only; lia)
    · exact h5 y hy
end
end Mine

end PM5
section PL2
open PySem PySem.W PySem.Calls PyProof.Rows
set_option Elab.async false
set_option maxRecDepth 100000
namespace Mine
theorem for_tup {prog : Program} {w : World} {A : Around} {s : Shared} {E : Value → Shared → Prop} {Q : Flow → Shared → Prop} {y : Str} {yp : Pos} {body : List Stmt} {env : Env} {h₀ : Heap} {l : Addr} {vs : List Value} {m₀ : Str → Option Value} {news : List (Addr × Obj)}
    (J : Nat → (Str → Option Value) → List (Addr × Obj) → Prop)
    (hh : A.handled = none) (hl : s.heap.IsTuple l vs.toArray) (hlL : l ≠ env.locals)
    (F : Fr h₀ env.locals s.heap m₀) (N : News h₀ env.locals s.heap news) (hj : J 0 m₀ news) (hc : ∀ p ∈ news, p.1 ≠ l)
    (turn : ∀ i v m₁ news₁ h tk own (P : Flow → Shared → Prop), vs[i]? = some v → J i m₁ news₁ → OwnOff own (news₁.map (·.1)) → Fr h₀ env.locals h m₁ → News h₀ env.locals h (news₁ ++ own) →
      (∀ f h' tk' m' news', (f = .next ∨ f = .cont) → Fr h₀ env.locals h' m' → News h₀ env.locals h' (news' ++ own) → J (i + 1) m' news' → (∀ p ∈ news', p ∈ news₁ ∨ (p.1 ≠ l ∧ p.2.cls ≠ .type "tuple_iterator") ∨ ∀ q ∈ own, q.1 ≠ p.1) → P f { s with heap := h', toks := tk' }) →
      (∀ s', Q .next s' → P .brk s') → (∀ v s', Q (.ret v) s' → P (.ret v) s') →
      wpAny (model prog w) A (assign (.Name y yp) env v) (fun _ s₂ => wpAny (model prog w) A (execs body env) P (fun _ _ => False) s₂) (fun _ _ => False) { s with heap := h, toks := tk })
    (done : ∀ m₁ news₁ h tk, J vs.length m₁ news₁ → Fr h₀ env.locals h m₁ → News h₀ env.locals h news₁ → Q .next { s with heap := h, toks := tk }) :
    wpAny (model prog w) A (pyIter (.ref l)) (fun it s₂ => codeAny (model prog w) A (.forLoop (.Name y yp) it body [] env) (fun r s' => match r with | .ok f => Q f s' | .error e => cameBackBy (model prog w) A env E e s') s₂) E s := by
  have hne : l ≠ s.heap.objs.size := by obtain ⟨ol, hol, _⟩ := hl; exact Nat.ne_of_lt (Heap.lt_size hol)
  refine wpAny_pyIter_tuple hl ?_
  have W := Walks.tuple (prog := prog) (w := w) hh s.heap.objs.size l hne vs.toArray
  rw [List.size_toArray] at W
  refine for_gen (op := [s.heap.objs.size, l]) "tuple_iterator" J W (fun i v s' Q' hP hst q => goName q) (.head _) (fun q => mem_two q (Nat.ne_of_lt F.ns.lt) fun e => hlL e.symm) (next_is_new F) (fun i h st => ?_)
    ⟨⟨_, Heap.get?_push_size _ rfl, rfl, rfl⟩, hl.at fun o e => Heap.get?_push_of_some _ e⟩ (F.push _) (push_news N _) hj (fun p hp q => mem_two q (Nat.ne_of_lt (Heap.lt_size (N p hp).1)) (hc p hp)) (fun _ _ _ _ _ _ _ _ _ _ _ b hb hbo => absurd hb hbo)
    (fun i v m₁ nw h tk own P' _ hP hJ ho F₁ N₁ next => turn i v m₁ nw h tk own P' (by simpa using hP) hJ ho F₁ N₁ fun f h' tk' m' nw' hf F' N' hJ' hc' => next f h' tk' m' nw' hf F' N' hJ' fun p hp => (hc' p hp).imp id fun q => q.imp (fun r => ⟨fun b hb hbI => mem_two hb (fun e => absurd e hbI) fun e => e ▸ r.1, r.2⟩) id)
    fun m₁ nw h tk a b c _ => done m₁ nw h tk a b c
  obtain ⟨⟨oi, ho, hcl, _⟩, ol, hol, _⟩ := st
  exact ⟨fun b hb => mem_two hb (fun e => ⟨oi, e ▸ ho⟩) fun e => ⟨ol, e ▸ hol⟩, oi, ho, hcl⟩
end Mine

end PL2
section PL3
open PySem PySem.W PySem.Calls PyProof.Rows
set_option Elab.async false
set_option maxRecDepth 100000
namespace Mine
/-- a while loop by a state that falls -/
theorem while_st {prog : Program} {w : World} {A : Around} {s : Shared} {E : Value → Shared → Prop} {Q : Flow → Shared → Prop} {test : Expr} {body : List Stmt} {pos : Pos} {env : Env} {h₀ : Heap} {m₀ : Str → Option Value} {news : List (Addr × Obj)}
    (J : Nat → (Str → Option Value) → List (Addr × Obj) → Prop) (n : Nat)
    (F : Fr h₀ env.locals s.heap m₀) (N : News h₀ env.locals s.heap news) (hj : J n m₀ news)
    (turn : ∀ k m₁ news₁ h tk (P : Flow → Shared → Prop), J k m₁ news₁ → Fr h₀ env.locals h m₁ → News h₀ env.locals h news₁ →
      (∀ f h' tk' m' news' k', (f = .next ∨ f = .cont) → k' < k → Fr h₀ env.locals h' m' → News h₀ env.locals h' news' → J k' m' news' → P f { s with heap := h', toks := tk' }) →
      (∀ s', Q .next s' → P .brk s') → (∀ v s', Q (.ret v) s' → P (.ret v) s') →
      wpAny (model prog w) A (isTrue test env (eval test env)) (fun b s₁ => if b = true then wpAny (model prog w) A (execs body env) P (fun _ _ => False) s₁ else Q .next s₁) (fun _ _ => False) { s with heap := h, toks := tk }) :
    wpAny (model prog w) A (exec (.While test body [] pos) env) Q E s := by
  refine wpAny_While (codeAny_whileLoop (fun k s' => ∃ h tk m₁ news₁, s' = { s with heap := h, toks := tk } ∧ Fr h₀ env.locals h m₁ ∧ News h₀ env.locals h news₁ ∧ J k m₁ news₁) ?_ n ?_)
  · rintro k s' ⟨h, tk, m₁, news₁, rfl, F₁, N₁, hJ⟩
    refine wpAny_mono (turn k m₁ news₁ h tk (fun f s₃ => match f with | .next | .cont => ∃ m, m < k ∧ ∃ h tk m₁ news₁, s₃ = { s with heap := h, toks := tk } ∧ Fr h₀ env.locals h m₁ ∧ News h₀ env.locals h news₁ ∧ J m m₁ news₁ | .brk => Q .next s₃ | .ret v => Q (.ret v) s₃) hJ F₁ N₁ ?_ (fun s' q => q) fun v s' q => q) (fun b s₁ h₁ => ?_) fun _ _ h' => h'.elim
    · intro f h' tk' m' news' k' hf hk F' N' hJ'
      have fin : ∃ m, m < k ∧ ∃ h tk m₁ news₁, ({ s with heap := h', toks := tk' } : Shared) = { s with heap := h, toks := tk } ∧ Fr h₀ env.locals h m₁ ∧ News h₀ env.locals h news₁ ∧ J m m₁ news₁ := ⟨k', hk, h', tk', m', news', rfl, F', N', hJ'⟩
      rcases hf with rfl | rfl <;> exact fin
    · cases b with
      | true =>
        rw [if_pos rfl] at h₁ ⊢
        exact wpAny_mono h₁ (fun f s₃ h₃ => h₃) fun _ _ h' => h'.elim
      | false =>
        rw [if_neg Bool.false_ne_true] at h₁ ⊢
        exact wpAny_execs_nil h₁
  · exact ⟨s.heap, s.toks, m₀, news, rfl, F, N, hj⟩
end Mine

end PL3
section PH0
open PySem PySem.W PySem.Calls PyProof.Rows
set_option Elab.async false
set_option maxRecDepth 100000
set_option pp.deepTerms false
set_option pp.deepTerms.threshold 8
namespace Mine
section
variable {prog : Program} {w : World} {A : Around} {E : Value → Shared → Prop} {s : Shared}
theorem rc_lt {k k' : Int} {t t' : Tok} {Q : Value → Shared → Prop} (h : Q (.bool (decide (k < k'))) s) : wpAny (model prog w) A (richCompare .Lt (.int k t) (.int k' t')) Q E s := PyProof.Rows.lt_int h
theorem tup_lt {a b : Addr} {k k' : Int} {t t' : Tok} {x x' : Value} {n n' : Nat} {Q : Value → Shared → Prop} (ha : s.heap.get? a = some { cls := .type "tuple", data := .seq #[.int k t, x] n }) (hb : s.heap.get? b = some { cls := .type "tuple", data := .seq #[.int k' t', x'] n' }) (hne : k ≠ k') (hu : A.units < cLine)
   (q : Q (.bool (decide (k < k'))) s) : wpAny (model prog w) A (compareOp .Lt (.ref a) (.ref b)) Q E s := by
  have hT : s.TypeIs (.ref a) "tuple" := ⟨_, ha, rfl⟩
  have hT' : s.TypeIs (.ref b) "tuple" := ⟨_, hb, rfl⟩
  have f2 := AutoSeq1.sub_tuple_tuple
  show wpAny _ _ (richCompare .Lt (.ref a) (.ref b)) _ _ _
  refine wpAny_richCompare_same_room hT hT' F.slot_tuple_lt (wpAny_call_entry F.slot_tuple_lt hT F.entry_tuple_lt ?_ (F.args_tuple_lt_2 _ _)) hu
  obtain ⟨hp, g, d, tk, os⟩ := s
  have hk : (k == k') = false := beq_eq_false_iff_ne.mpr hne
  wp_walk using wpAny_loadPart' ha, wpAny_loadPart' hb, wpAny_eqBool_int, rc_lt
  exact ⟨_, rfl, by simp, q⟩
end
end Mine

end PH0
section PM6
open PySem PySem.W PySem.Calls PyProof.Rows
set_option Elab.async false
set_option maxRecDepth 100000
set_option pp.deepTerms false
set_option pp.deepTerms.threshold 8
namespace Mine
section
variable {w : World} {mean : ExcName → Option Value} {mg mb : Str → Option Value} {A : Around} {s : Shared} {Q E : Value → Shared → Prop} {g : Heap} {L : Addr} {m : Str → Option Value} {news tl im : List (Addr × Obj)} {h h' : Heap}
theorem listItem {value slice : Expr} {D : Addr} {vs : List Value} {n j : Nat} {k : Int} {t : Tok} {v : Value} (N : News g L s.heap tl) (hm : (D, W.listOf vs.toArray n) ∈ tl) (hk : k = (j : Int)) (hv : vs[j]? = some v) (hj : j < 1000) (q : Q v s)
    (hs : subscripted slice false (.ref D) (.int k t) = operate [.ref D, .int k t] (getItem (.ref D) (.int k t)) := by with_unfolding_all rfl) :
    wpAny (model prg w) A (subscriptTail value slice (.ref D) (.int k t)) Q E s := by
  have hl : s.heap.IsList D vs.toArray := ⟨_, N.get hm, rfl, _, rfl⟩
  refine tail_any hl.typeIs slot_list_getitem.lookup ?_ hs
  subst hk
  refine wpAny_getItem_list hl (by omega) (by have : (1000 : Int) < 2 ^ 63 := by decide
                                              omega) (by simpa using hv) q
theorem listSet {D : Addr} {vs : List Value} {n j : Nat} {k : Int} {t : Tok} {v : Value} {Q : Unit → Shared → Prop} (F : Fr g L s.heap m) (N : News g L s.heap tl) (hm : (D, W.listOf vs.toArray n) ∈ tl) (hk : k = (j : Int)) (hv : j < vs.length) (hj : vs.length < 1000)
   (ret : ∀ h' tk tl', Fr g L h' m → News g L h' tl' → Mod D (W.listOf (vs.set j v).toArray n) tl tl' → Q () { s with heap := h', toks := tk }) : wpAny (model prg w) A (setItem (.ref D) (.int k t) v) Q E s := by
  subst hk
  have z := N.get hm
  obtain ⟨tl', M⟩ := modIs D (W.listOf (vs.set j v).toArray n) tl
  refine ki_setAt z (by omega) (by have : (1000 : Int) < 2 ^ 63 := by decide
                                   lia) (by simpa using hv) (ret _ _ tl' (frOne F N hm (Heap.SameBut.update ..)) (newsOne N hm (Heap.SameBut.update ..) ?_ M) M)
  have q := PySem.IsL.update (n := n) (items := vs.toArray) z (·.setIfInBounds (j : Int).toNat v)
  rw [if_pos (by simp)] at q
  have e : vs.toArray.setIfInBounds (j : Int).toNat v = (vs.set j v).toArray := by
    apply Array.toList_inj.mp
    simp
  rw [e] at q
  exact q
noncomputable def KeyAt (h : Heap) (key : Addr → Int) (a : Addr) : Prop := ∃ t x n, h.get? a = some { cls := .type "tuple", data := .seq #[.int (key a) t, x] n }
theorem tupLt_use {key : Addr → Int} {a b : Addr} (F : Fr g L s.heap m) (ha : KeyAt g key a) (hb : KeyAt g key b) (hne : key a ≠ key b) (hu : A.units < 300) (q : Q (.bool (decide (key a < key b))) s) : wpAny (model prg w) A (compareOp .Lt (.ref a) (.ref b)) Q E s := by
  obtain ⟨t, x, n, ha⟩ := ha
  obtain ⟨t', x', n', hb⟩ := hb
  exact tup_lt (F.keep _ _ ha) (F.keep _ _ hb) hne (Nat.lt_of_lt_of_le hu (by decide +kernel)) q
end
end Mine

end PM6
section PH2
theorem Mine.rs_H2 : True := by
  w_top off
  first | walk1 | trivial
open PySem PySem.W PySem.Calls PyProof.Rows
set_option Elab.async false
set_option maxRecDepth 100000
set_option pp.deepTerms false
set_option pp.deepTerms.threshold 8
namespace Mine
theorem fillKH2 : (PySem.Challenge.rw_il0068_01 = PySem.Challenge.rw_il0068_01 ∧ hd.heap_39 = hd.heap_39) := by k_fill; exact ⟨rfl, rfl⟩
structure Stop (P : Prop) : Prop where
  go : P
local macro_rules | `(tactic| walk_at "exec While Compare") => `(tactic| (k_here; k_dflt (refine Stop.go ?_)))
noncomputable def sdG (key : Addr → Int) (x : Addr) (start : Nat) : Nat → List Addr → Nat → List Addr
  | 0, L, pos => L.set pos x
  | f + 1, L, pos => if start < pos then if key x < key (L.getD ((pos - 1) / 2) 0) then sdG key x start f (L.set pos (L.getD ((pos - 1) / 2) 0)) ((pos - 1) / 2) else L.set pos x else L.set pos x
theorem half_le {p f : Nat} (h : p ≤ f + 1) (h0 : 0 < p) : (p - 1) / 2 ≤ f := Nat.le_trans (Nat.div_le_self _ _) (Nat.sub_le_of_le_add h)
theorem sdG_ge {key : Addr → Int} {x : Addr} {start : Nat} : ∀ (f f' : Nat) (L : List Addr) (pos : Nat), pos ≤ f → pos ≤ f' → sdG key x start f L pos = sdG key x start f' L pos
  | 0, 0, _, _, _, _ => rfl
  | 0, f' + 1, L, pos, h, _ => by
    obtain rfl : pos = 0 := Nat.le_zero.mp h
    unfold sdG
    rw [if_neg (Nat.not_lt_zero _)]
  | f + 1, 0, L, pos, _, h => by
    obtain rfl : pos = 0 := Nat.le_zero.mp h
    unfold sdG
    rw [if_neg (Nat.not_lt_zero _)]
  | f + 1, f' + 1, L, pos, h, h' => by
    unfold sdG
    by_cases q : start < pos
    · rw [if_pos q, if_pos q, sdG_ge f f' _ _ (half_le h (Nat.lt_of_le_of_lt (Nat.zero_le _) q)) (half_le h' (Nat.lt_of_le_of_lt (Nat.zero_le _) q))]
    · rw [if_neg q, if_neg q]
noncomputable def sdF (key : Addr → Int) (x : Addr) (L : List Addr) (start pos : Nat) : List Addr := sdG key x start pos L pos
theorem sdF_eq (key : Addr → Int) (x : Addr) (L : List Addr) (start pos : Nat) : sdF key x L start pos =
  if _h : start < pos then if key x < key (L.getD ((pos - 1) / 2) 0) then sdF key x (L.set pos (L.getD ((pos - 1) / 2) 0)) start ((pos - 1) / 2) else L.set pos x else L.set pos x := by
  unfold sdF
  cases pos with
  | zero => rw [dif_neg (Nat.not_lt_zero _)]; rfl
  | succ p =>
    by_cases q : start < p + 1
    · rw [dif_pos q, ← sdG_ge p _ _ ((p + 1 - 1) / 2) (half_le (Nat.le_refl _) (Nat.succ_pos _)) (Nat.le_refl _)]
      exact if_pos q
    · rw [dif_neg q]
      exact if_neg q
theorem refs_at {L : List Addr} {j : Nat} (h : j < L.length) : (L.map Value.ref)[j]? = some (.ref (L.getD j 0)) := by
  rw [List.getElem?_map, List.getElem?_eq_getElem h, List.getD_eq_getElem?_getD, List.getElem?_eq_getElem h]; rfl
theorem set_self {L : List Addr} {j : Nat} : L.set j (L.getD j 0) = L := by
  apply List.ext_getElem?
  intro i
  rw [List.getElem?_set]
  split
  · rename_i h
    subst h
    split
    · rename_i h; rw [List.getD_eq_getElem?_getD, List.getElem?_eq_getElem h]; rfl
    · rename_i h; rw [List.getElem?_eq_none (by lia)]
  · rfl
section
variable {w : World} {mean : ExcName → Option Value} {mg mb : Str → Option Value} {A : Around} {s : Shared} {Q E : Value → Shared → Prop} {g : Heap} {L : Addr} {m : Str → Option Value} {news : List (Addr × Obj)} {dp un : Nat} {fr : Option (List Env)} {gd : Option (List Code)}
inductive JD (hp : Addr) (key : Addr → Int) (x : Addr) (L : List Addr) (start : Nat) (n : Nat) (ts : Tok) (R : List Addr) (k : Nat) (m : Str → Option Value) (nw : List (Addr × Obj)) : Prop
  | mk (L' tp : _) (hz1 : k < L'.length) (hz2 : L'.length = L.length) (hz3 : nw = [(hp, W.listOf (L'.map Value.ref).toArray n)]) (hz4 : m "pos" = some (.int (k : Int) tp)) (hz5 : m "newitem" = some (.ref x)) (hz6 : m "heap" = some (.ref hp)) (hz7 : m "startpos" = some (.int (start : Int) ts)) (hz8 : (L'.set k x).Nodup) (hz9 : ∀ a ∈ L'.set k x, a ∈ L) (hz10 : sdF key x L' start k = R) : JD hp key x L start n ts R k m nw
theorem chain4 {m : Str → Option Value} {a b c d : Str} {va vb vc vd : Value} (ha : m a = some va) (hb : m b = some vb) (hc : m c = some vc) (hd : m d = some vd) : m = fun y => if y = a then some va else if y = b then some vb else if y = c then some vc else if y = d then some vd else m y := by
  funext y
  by_cases h1 : y = a
  · rw [if_pos h1, h1, ha]
  · rw [if_neg h1]
    by_cases h2 : y = b
    · rw [if_pos h2, h2, hb]
    · rw [if_neg h2]
      by_cases h3 : y = c
      · rw [if_pos h3, h3, hc]
      · rw [if_neg h3]
        by_cases h4 : y = d
        · rw [if_pos h4, h4, hd]
        · rw [if_neg h4]
set_option maxHeartbeats 40000000 in
theorem sd_ok {hp : Addr} {n start pos : Nat} {L : List Addr} {key : Addr → Int} {ts tp : Tok} (hh : s.heap.get? hp = some (W.listOf (L.map Value.ref).toArray n)) (hk : ∀ a ∈ L, KeyAt s.heap key a) (inj : ∀ a ∈ L, ∀ b ∈ L, key a = key b → a = b) (nd : L.Nodup) (hpos : pos < L.length) (hlen : L.length < 500)
   (G : Gd w mean mg mb [hp] s.heap) (hdp : dp < 500) (hun : un < 200)
   (ret : ∀ h' tk, Stp s.heap h' [hp] → h'.get? hp = some (W.listOf ((sdF key (L.getD pos 0) L start pos).map Value.ref).toArray n) → Q .none { s with heap := h', toks := tk }) :
   wpAny (model prg w) (At dp un fr gd) (call (.ref 91) [.ref hp, .int (start : Int) ts, .int (pos : Int) tp]) Q E s := by
  refine wpAny_call ?_
  refine' enter (news := [(hp, W.listOf (L.map Value.ref).toArray n)]) ?k0 ?k1 ?k2 ?k3 ?k4 ?k5 ?k6 ?_ ?c2 ?c3 ?c4 ?c5
  case k0 => assumption
  case k1 => exact fun y hy => by rcases List.mem_singleton.mp hy with rfl; exact hh
  case k2 => k_is
  case k3 => k_is
  case k4 => tb_start
  case k5 => exact BindsTo.of_eq rfl
  case k6 => exact locs rfl
  case c2 => exact rfl
  case c3 => exact rfl
  case c4 => exact rfl
  case c5 => decide
  intro g' L' h' F' N' X' T' eg eL
  (try dsimp only); (try k_fold)
  have eg2 : g' = hideAll s.heap [hp] := eg
  have hg : ∀ a ∈ L, KeyAt g' key a := fun a ha => by
    obtain ⟨t, x, k, e⟩ := hk a ha
    exact ⟨t, x, k, by rw [eg2]; exact hideAll_get _ e (fun hm => by rw [List.mem_singleton.mp hm, hh] at e; simp [W.listOf] at e)⟩
  clear hk eg2
  obtain ⟨x, hx⟩ : ∃ x, L.getD pos 0 = x := ⟨_, rfl⟩
  rw [hx] at ret
  k_steps
  rename Fr _ _ _ _ => F1
  rename News _ _ _ _ => N1
  refine' listItem N1 (.head _) rfl (refs_at hpos) (by lia) ?_
  k_whole
  rw [hx]
  k_steps
  refine Stop.mk ?_
  rename Fr _ _ _ _ => F2
  rename News _ _ _ _ => N2
  refine' while_st (JD hp key x L start n ts (sdF key x L start pos)) pos ?F ?N ?hj ?turn
  case F => exact F2
  case N => exact N2
  case hj => exact ⟨L, tp, hpos, rfl, rfl, rfl, rfl, rfl, rfl, by rw [← hx, set_self]; exact nd, by rw [← hx, set_self]; exact fun a h => h, rfl⟩
  case turn =>
    rintro k m₃ nw h₃ tk₃ P ⟨L', tp', hkl, hll, rfl, hm1, hm2, hm3, hm4, nd', sub', hR⟩ F3 N3 next hbrk hrt
    rw [chain4 hm1 hm2 hm3 hm4] at F3
    clear F2 N2 hm1 hm2 hm3 hm4
    have hnx := And.intro next (And.intro hbrk hR)
    clear next hbrk hrt hR
    have hNx := Nx.mk (C := True) fun _ => And.intro hnx (And.intro nd' sub')
    clear hnx nd' sub'
    dsimp only
    k_steps
    · rename Fr _ _ _ _ => F4
      rename News _ _ _ _ => N4
      obtain ⟨⟨next, hbrk, hR⟩, nd', sub'⟩ := hNx.go trivial
      have hsk : start < k := by lia
      have hpp : (k - 1) / 2 < k := by lia
      have hpl : (k - 1) / 2 < L'.length := by lia
      have hne := Pl.set_ne hpp hkl nd'
      have hpm : L'.getD ((k - 1) / 2) 0 ∈ L := sub' _ (by
        have e : (L'.set k x).getD ((k - 1) / 2) 0 = L'.getD ((k - 1) / 2) 0 := by simp [List.getD_eq_getElem?_getD, Nat.ne_of_gt hpp]
        rw [← e, List.getD_eq_getElem?_getD, List.getElem?_eq_getElem (by simpa using hpl)]
        exact List.getElem_mem _)
      have hxm : x ∈ L := sub' _ (List.mem_set hkl _)
      have kx := hg _ hxm
      have kp := hg _ hpm
      have kne : key x ≠ key (L'.getD ((k - 1) / 2) 0) := fun e => hne (inj _ hxm _ hpm e).symm
      have hKne := Nx.mk (C := True) fun _ => kne
      clear kne hne next hbrk hR nd' sub' hpm hxm
      refine' listItem N4 (.head _) (Pl.half k (by lia)) (refs_at hpl) (by lia) ?_
      k_whole
      generalize hpar : L'.getD ((k - 1) / 2) 0 = par at kp hKne
      k_steps
      rename Fr _ _ _ _ => F5
      rename News _ _ _ _ => N5
      refine' tupLt_use F5 kx kp (hKne.go trivial) (by tb_start) ?_
      k_whole
      k_steps
      · -- the parent sinks
        rename Fr _ _ _ _ => F6
        rename News _ _ _ _ => N6
        refine' listSet F6 N6 (.head _) rfl (by simpa using hkl) (by rw [List.length_map]; lia) ?_
        intro h7 tk7 tl7 F7 N7 M7
        k_steps
        rename Fr _ _ _ _ => F8
        rename News _ _ _ _ => N8
        rename key x < key par => hlt
        obtain ⟨⟨next, hbrk, hR⟩, nd', sub'⟩ := hNx.go trivial
        have hperm := Pl.swapL_perm (C := L'.set k x) (i := k) (j := (k - 1) / 2) (by simpa using hkl) (by simpa using hpl)
        have hsw := Pl.shift_swap (x := x) hpp hkl
        rw [hpar] at hsw
        simp only [Pl.half k (by lia)] at F8
        refine next .cont _ _ _ [(hp, W.listOf ((L'.set k par).map Value.ref).toArray n)] ((k - 1) / 2) (.inr rfl) hpp F8 (newsSub N8 fun y hy => ?_) ⟨L'.set k par, _, by simpa using hpl, by simpa using hll, rfl, rfl, rfl, rfl, rfl, ?_, ?_, ?_⟩
        · rw [List.mem_singleton.mp hy, List.map_set]; exact M7.new
        · rw [hsw]; exact hperm.nodup_iff.mpr nd'
        · rw [hsw]; exact fun a ha => sub' a (hperm.mem_iff.mp ha)
        · rw [← hR]
          conv => rhs; rw [sdF_eq]
          rw [dif_pos hsk, hpar, if_pos hlt]
      · rename Fr _ _ _ _ => F6
        rename News _ _ _ _ => N6
        have hge : ¬ key x < key par := by lia
        obtain ⟨⟨next, hbrk, hR⟩, nd', sub'⟩ := hNx.go trivial
        have hfin : L'.set k x = sdF key x L start pos := by
          rw [← hR]
          conv => rhs; rw [sdF_eq]
          rw [dif_pos hsk, hpar, if_neg hge]
        refine hbrk _ ?_
        clear next hbrk hR nd' sub' hNx hKne
        dsimp only
        k_steps
        rename Fr _ _ _ _ => F7
        rename News _ _ _ _ => N7
        refine' listSet F7 N7 (.head _) rfl (by simpa using hkl) (by rw [List.length_map]; lia) ?_
        intro h7 tk7 tl7 F8 N8 M8
        k_steps
        refine ret _ _ (Fr.stp F8 eg) ?_
        rw [← hfin, List.map_set]
        exact N8.get M8.new
    · rename Fr _ _ _ _ => F4
      rename News _ _ _ _ => N4
      refine' listSet F4 N4 (.head _) rfl (by simpa using hkl) (by rw [List.length_map]; lia) ?_
      intro h7 tk7 tl7 F7 N7 M7
      have hge : ¬ start < k := by lia
      obtain ⟨⟨next, hbrk, hR⟩, nd', sub'⟩ := hNx.go trivial
      have hfin : L'.set k x = sdF key x L start pos := by
        rw [← hR]
        conv => rhs; rw [sdF_eq]
        rw [dif_neg hge]
      clear next hbrk hR nd' sub' hNx
      k_steps
      refine ret _ _ (Fr.stp F7 eg) ?_
      rw [← hfin, List.map_set]
      exact N7.get M7.new
end
end Mine

end PH2
section PH3
theorem Mine.rs_H3 : True := by
  w_top off
  first | walk1 | trivial
open PySem PySem.W PySem.Calls PyProof.Rows
set_option Elab.async false
set_option maxRecDepth 100000
set_option pp.deepTerms false
set_option pp.deepTerms.threshold 8
namespace Mine
theorem fillKH3 : (PySem.Challenge.rw_il0068_01 = PySem.Challenge.rw_il0068_01 ∧ hd.heap_39 = hd.heap_39) := by k_fill; exact ⟨rfl, rfl⟩
local macro_rules | `(tactic| walk_at "subscriptTail") => `(tactic| (k_here; k_dflt (refine Stop.go ?_)))
local macro_rules | `(tactic| walk_at "setItem ref") => `(tactic| (k_here; k_dflt (refine Stop.go ?_)))
local macro_rules | `(tactic| walk_at "compareOp Lt ref ref") => `(tactic| (k_here; k_dflt (refine Stop.go ?_)))
local macro_rules | `(tactic| walk_at "exec While Compare") => `(tactic| (k_here; k_dflt (refine Stop.go ?_)))
theorem chain6 {m : Str → Option Value} {a b c d e f : Str} {va vb vc vd ve vf : Value} (ha : m a = some va) (hb : m b = some vb) (hc : m c = some vc) (hd : m d = some vd) (he : m e = some ve) (hf : m f = some vf) : m = fun y => if y = a then some va else if y = b then some vb else if y = c then some vc else if y = d then some vd else if y = e then some ve else if y = f then some vf else m y := by
  funext y
  by_cases h_a : y = a
  · rw [if_pos h_a, h_a, ha]
  · rw [if_neg h_a]
    by_cases h_b : y = b
    · rw [if_pos h_b, h_b, hb]
    · rw [if_neg h_b]
      by_cases h_c : y = c
      · rw [if_pos h_c, h_c, hc]
      · rw [if_neg h_c]
        by_cases h_d : y = d
        · rw [if_pos h_d, h_d, hd]
        · rw [if_neg h_d]
          by_cases h_e : y = e
          · rw [if_pos h_e, h_e, he]
          · rw [if_neg h_e]
            by_cases h_f : y = f
            · rw [if_pos h_f, h_f, hf]
            · rw [if_neg h_f]
noncomputable def kid (key : Addr → Int) (L : List Addr) (p : Nat) : Nat := if 2 * p + 2 < L.length ∧ ¬ key (L.getD (2 * p + 1) 0) < key (L.getD (2 * p + 2) 0) then 2 * p + 2 else 2 * p + 1
theorem kid_gt {key : Addr → Int} {L : List Addr} {p : Nat} : p < kid key L p := by unfold kid; split <;> lia
theorem kid_lt {key : Addr → Int} {L : List Addr} {p : Nat} (h : 2 * p + 1 < L.length) : kid key L p < L.length := by unfold kid; split <;> lia
noncomputable def suG (key : Addr → Int) : Nat → List Addr → Nat → List Addr × Nat
  | 0, L, p => (L, p)
  | f + 1, L, p => if 2 * p + 1 < L.length then suG key f (L.set p (L.getD (kid key L p) 0)) (kid key L p) else (L, p)
theorem kid_le {key : Addr → Int} {L : List Addr} {p f : Nat} {v : Addr} (h : L.length - p ≤ f + 1) (h0 : 2 * p + 1 < L.length) : (L.set p v).length - kid key L p ≤ f := by
  have := kid_gt (key := key) (L := L) (p := p)
  rw [List.length_set]
  lia
theorem suG_ge {key : Addr → Int} : ∀ (f f' : Nat) (L : List Addr) (p : Nat), L.length - p ≤ f → L.length - p ≤ f' → suG key f L p = suG key f' L p
  | 0, 0, _, _, _, _ => rfl
  | 0, f' + 1, L, p, h, _ => by
    unfold suG
    rw [if_neg (by lia)]
  | f + 1, 0, L, p, _, h => by
    unfold suG
    rw [if_neg (by lia)]
  | f + 1, f' + 1, L, p, h, h' => by
    unfold suG
    by_cases q : 2 * p + 1 < L.length
    · rw [if_pos q, if_pos q, suG_ge f f' _ _ (kid_le h q) (kid_le h' q)]
    · rw [if_neg q, if_neg q]
noncomputable def suF (key : Addr → Int) (L : List Addr) (p : Nat) : List Addr × Nat := suG key (L.length - p) L p
theorem suF_eq (key : Addr → Int) (L : List Addr) (p : Nat) : suF key L p = if _h : 2 * p + 1 < L.length then suF key (L.set p (L.getD (kid key L p) 0)) (kid key L p) else (L, p) := by
  unfold suF
  by_cases q : 2 * p + 1 < L.length
  · rw [dif_pos q]
    obtain ⟨f, e⟩ : ∃ f, L.length - p = f + 1 := ⟨L.length - p - 1, by lia⟩
    rw [e, suG_ge _ f _ _ (Nat.le_refl _) (kid_le (Nat.le_of_eq e) q)]
    exact if_pos q
  · rw [dif_neg q]
    cases L.length - p with
    | zero => rfl
    | succ f => exact if_neg q
section
variable {w : World} {mean : ExcName → Option Value} {mg mb : Str → Option Value} {A : Around} {s : Shared} {Q E : Value → Shared → Prop} {g : Heap} {L : Addr} {m : Str → Option Value} {news : List (Addr × Obj)} {dp un : Nat} {fr : Option (List Env)} {gd : Option (List Code)}
theorem lenT {D : Addr} {L0 : List Addr} {n : Nat} (N : News g L s.heap news) (hm : (D, W.listOf (L0.map Value.ref).toArray n) ∈ news) (hz : L0.length < 500) (q : ∀ t k, Q (.int (L0.length : Int) t) { s with toks := k }) : wpAny (model prg w) A (call (.builtin "len") [.ref D]) Q E s := by
  have hl : s.heap.IsList D (L0.map Value.ref).toArray := ⟨_, N.get hm, rfl, _, rfl⟩
  refine PyProof.Rows.len_list hl ?_ ?_
  · have : (500 : Int) < 2 ^ 63 := by decide
    simp only [List.size_toArray, List.length_map]
    lia
  · have e : (((L0.map Value.ref).toArray.size : Nat) : Int) = (L0.length : Int) := by simp
    rw [e]; exact q _ _
theorem sd_use {hp : Addr} {n start pos : Nat} {L0 : List Addr} {key : Addr → Int} {ts tp : Tok} (F : Fr g L s.heap m) (N : News g L s.heap news) (X : (hd.heap_39 w.params).In g) (T : TopM mean mg mb g) (hh : A.handled = none) (hdp : A.depth < 500) (hun : A.units < 200)
   (hm : (hp, W.listOf (L0.map Value.ref).toArray n) ∈ news) (hk : ∀ a ∈ L0, KeyAt g key a) (inj : ∀ a ∈ L0, ∀ b ∈ L0, key a = key b → a = b) (nd : L0.Nodup) (hpos : pos < L0.length) (hlen : L0.length < 500)
   (ret : ∀ h' tk tl', Fr g L h' m → News g L h' tl' → Mod hp (W.listOf ((sdF key (L0.getD pos 0) L0 start pos).map Value.ref).toArray n) news tl' → Q .none { s with heap := h', toks := tk }) :
   wpAny (model prg w) A (call (.ref 91) [.ref hp, .int (start : Int) ts, .int (pos : Int) tp]) Q E s := by
  rw [toAt hh]
  refine sd_ok (N.get hm) (fun a ha => by obtain ⟨t, x, k, e⟩ := hk a ha; exact ⟨t, x, k, F.keep _ _ e⟩) inj nd hpos hlen ((gdOf F X T N).mono (Stp.refl _ []) (fun _ h => nomatch h) fun a ha => by rw [List.mem_singleton.mp ha]; exact List.mem_map_of_mem hm) hdp hun fun h' tk S e => ?_
  obtain ⟨tl', M⟩ := modIs hp (W.listOf ((sdF key (L0.getD pos 0) L0 start pos).map Value.ref).toArray n) news
  refine ret h' tk tl' (frMod F N S fun a ha => by rw [List.mem_singleton.mp ha]; exact List.mem_map_of_mem hm) (fun y hy => ?_) M
  rcases M.back y hy with rfl | ⟨h1, h2⟩
  · exact newsAt N hm e
  · exact newsIn N S h1 fun q => h2 (List.mem_singleton.mp q)
inductive JU (hp : Addr) (key : Addr → Int) (x : Addr) (L : List Addr) (pos : Nat) (n : Nat) (R : List Addr × Nat) (k : Nat) (m : Str → Option Value) (nw : List (Addr × Obj)) : Prop
  | mk (L' p tp tc te ts : _) (hz1 : k = L.length - p) (hz2 : p < L'.length) (hz3 : L'.length = L.length) (hz4 : pos ≤ p) (hz5 : nw = [(hp, W.listOf (L'.map Value.ref).toArray n)]) (hz6 : m "pos" = some (.int (p : Int) tp)) (hz7 : m "newitem" = some (.ref x)) (hz8 : m "heap" = some (.ref hp)) (hz9 : m "startpos" = some (.int (pos : Int) ts)) (hz10 : m "childpos" = some (.int (2 * (p : Int) + 1) tc)) (hz11 : m "endpos" = some (.int (L.length : Int) te)) (hz12 : (L'.set p x).Nodup) (hz13 : ∀ a ∈ L'.set p x, a ∈ L) (hz14 : suF key L' p = R) : JU hp key x L pos n R k m nw
set_option maxHeartbeats 40000000 in
theorem su_ok {hp : Addr} {n pos : Nat} {L : List Addr} {key : Addr → Int} {tp : Tok} (hh : s.heap.get? hp = some (W.listOf (L.map Value.ref).toArray n)) (hk : ∀ a ∈ L, KeyAt s.heap key a) (inj : ∀ a ∈ L, ∀ b ∈ L, key a = key b → a = b) (nd : L.Nodup) (hpos : pos < L.length) (hlen : L.length < 500)
   (G : Gd w mean mg mb [hp] s.heap) (hdp : dp < 450) (hun : un < 150)
   (ret : ∀ h' tk, Stp s.heap h' [hp] → h'.get? hp = some (W.listOf ((sdF key (L.getD pos 0) ((suF key L pos).1.set (suF key L pos).2 (L.getD pos 0)) pos (suF key L pos).2).map Value.ref).toArray n) → Q .none { s with heap := h', toks := tk }) :
   wpAny (model prg w) (At dp un fr gd) (call (.ref 98) [.ref hp, .int (pos : Int) tp]) Q E s := by
  refine wpAny_call ?_
  refine' enter (news := [(hp, W.listOf (L.map Value.ref).toArray n)]) ?k0 ?k1 ?k2 ?k3 ?k4 ?k5 ?k6 ?_ ?c2 ?c3 ?c4 ?c5
  case k0 => assumption
  case k1 => exact fun y hy => by rcases List.mem_singleton.mp hy with rfl; exact hh
  case k2 => k_is
  case k3 => k_is
  case k4 => tb_start
  case k5 => exact BindsTo.of_eq rfl
  case k6 => exact locs rfl
  case c2 => exact rfl
  case c3 => exact rfl
  case c4 => exact rfl
  case c5 => decide
  intro g' L' h' F' N' X' T' eg eL
  (try dsimp only); (try k_fold)
  have eg2 : g' = hideAll s.heap [hp] := eg
  have hg : ∀ a ∈ L, KeyAt g' key a := fun a ha => by
    obtain ⟨t, x, k, e⟩ := hk a ha
    exact ⟨t, x, k, by rw [eg2]; exact hideAll_get _ e (fun hm => by rw [List.mem_singleton.mp hm, hh] at e; simp [W.listOf] at e)⟩
  clear hk eg2
  obtain ⟨x, hx⟩ : ∃ x, L.getD pos 0 = x := ⟨_, rfl⟩
  rw [hx] at ret
  have hlm : (L.map Value.ref).length = L.length := List.length_map ..
  k_steps
  all_goals (try refine Stop.mk ?_)
  rename News _ _ _ _ => N1
  refine' lenT N1 (.head _) hlen ?_
  intro tl1 tk1
  k_steps
  all_goals (try refine Stop.mk ?_)
  rename Fr _ _ _ _ => F1
  rename News _ _ _ _ => N1
  refine' listItem N1 (.head _) rfl (refs_at hpos) (by lia) ?_
  k_whole
  rw [hx]
  k_steps
  all_goals (try refine Stop.mk ?_)
  rename Fr _ _ _ _ => F2
  rename News _ _ _ _ => N2
  refine' while_st (JU hp key x L pos n (suF key L pos)) (L.length - pos) ?F ?N ?hj ?turn
  case F => exact F2
  case N => exact N2
  case hj => exact ⟨L, pos, _, _, _, _, rfl, hpos, rfl, Nat.le_refl _, rfl, rfl, rfl, rfl, rfl, rfl, rfl, by rw [← hx, set_self]; exact nd, by rw [← hx, set_self]; exact fun a h => h, rfl⟩
  case turn =>
    rintro k m₃ nw h₃ tk₃ P ⟨L', p, tp', tc', te', ts', rfl, hkl, hll, hpp, rfl, hm1, hm2, hm3, hm4, hm5, hm6, nd', sub', hR⟩ F3 N3 next hbrk hrt
    rw [chain6 hm1 hm2 hm3 hm4 hm5 hm6] at F3
    clear F2 N2 hm1 hm2 hm3 hm4 hm5 hm6
    have hNx := Nx.mk (C := True) fun _ => And.intro next (And.intro hR (And.intro nd' sub'))
    clear next hbrk hrt hR nd' sub'
    dsimp only
    k_steps
    all_goals (try refine Stop.mk ?_)
    · -- two children
      have hl1 : 2 * p + 1 < L'.length := by lia
      have hl2 : 2 * p + 2 < L'.length := by lia
      obtain ⟨_, _, nd', sub'⟩ := hNx.go trivial
      have g1 : L'.getD (2 * p + 1) 0 ∈ L := by rw [← Pl.getD_set_ne (L := L') (k := p) (x := x) (by lia)]; exact sub' _ (Pl.getD_mem (by simpa using hl1))
      have g2 : L'.getD (2 * p + 2) 0 ∈ L := by rw [← Pl.getD_set_ne (L := L') (k := p) (x := x) (by lia)]; exact sub' _ (Pl.getD_mem (by simpa using hl2))
      have gne : L'.getD (2 * p + 1) 0 ≠ L'.getD (2 * p + 2) 0 := by
        rw [← Pl.getD_set_ne (L := L') (k := p) (x := x) (show 2 * p + 1 ≠ p by lia), ← Pl.getD_set_ne (L := L') (k := p) (x := x) (show 2 * p + 2 ≠ p by lia)]
        exact Pl.getD_ne nd' (by simpa using hl1) (by simpa using hl2) (by lia)
      have k1 := hg _ g1
      have k2 := hg _ g2
      have hne := Nx.mk (C := True) fun _ => (fun e => gne (inj _ g1 _ g2 e) : key (L'.getD (2 * p + 1) 0) ≠ key (L'.getD (2 * p + 2) 0))
      clear gne nd' sub' g1 g2
      rename Fr _ _ _ _ => F4
      rename News _ _ _ _ => N4
      refine' listItem N4 (.head _) (j := 2 * p + 1) (by lia) (refs_at hl1) (by lia) ?_
      k_whole
      generalize hc1 : L'.getD (2 * p + 1) 0 = c1 at k1 hne
      k_steps
      all_goals (try refine Stop.mk ?_)
      rename News _ _ _ _ => N5
      refine' listItem N5 (.head _) (j := 2 * p + 2) (by lia) (refs_at hl2) (by lia) ?_
      k_whole
      generalize hc2 : L'.getD (2 * p + 2) 0 = c2 at k2 hne
      k_steps
      all_goals (try refine Stop.mk ?_)
      rename Fr _ _ _ _ => F6
      refine' tupLt_use F6 k1 k2 (hne.go trivial) (by tb_start) ?_
      k_whole
      clear hne
      k_steps
      all_goals (try refine Stop.mk ?_)
      · -- the left one
        have hcl : 2 * p + 1 < L'.length := by lia
        have hcp : 2 * p + 1 ≠ p := by lia
        rename Fr _ _ _ _ => F4
        rename News _ _ _ _ => N4
        refine' listItem N4 (.head _) (j := 2 * p + 1) (by lia) (refs_at hcl) (by lia) ?_
        k_whole
        generalize hpar : L'.getD (2 * p + 1) 0 = par
        k_steps
        all_goals (try refine Stop.mk ?_)
        rename Fr _ _ _ _ => F5
        rename News _ _ _ _ => N5
        refine' listSet F5 N5 (.head _) rfl (by simpa using hkl) (by rw [List.length_map]; lia) ?_
        intro h7 tk7 tl7 F7 N7 M7
        k_steps
        all_goals (try refine Stop.mk ?_)
        rename Fr _ _ _ _ => F8
        rename News _ _ _ _ => N8
        obtain ⟨next, hR, nd', sub'⟩ := hNx.go trivial
        have hkid : kid key L' p = 2 * p + 1 := by
          unfold kid
          rw [hc1, hc2, if_neg fun h => h.2 (by with_reducible assumption)]
        have hperm := Pl.swapL_perm (C := L'.set p x) (i := p) (j := 2 * p + 1) (by simpa using hkl) (by simpa using hcl)
        have hsw := Pl.shift_swap2 (x := x) hcp hkl
        rw [hpar] at hsw
        simp only [show (2 * (p : Int) + 1) = ((2 * p + 1 : Nat) : Int) by lia] at F8
        refine next .next _ _ _ [(hp, W.listOf ((L'.set p par).map Value.ref).toArray n)] (L.length - (2 * p + 1)) (.inl rfl) (by lia) F8 (newsSub N8 fun y hy => ?_) ⟨L'.set p par, 2 * p + 1, _, _, _, _, rfl, by simpa using hcl, by simpa using hll, by lia, rfl, rfl, rfl, rfl, rfl, rfl, rfl, ?_, ?_, ?_⟩
        · rw [List.mem_singleton.mp hy, List.map_set]; exact M7.new
        · rw [hsw]; exact hperm.nodup_iff.mpr nd'
        · rw [hsw]; exact fun a ha => sub' a (hperm.mem_iff.mp ha)
        · rw [← hR]
          conv => rhs; rw [suF_eq]
          rw [dif_pos (by lia), hkid, hpar]
      · -- the right one
        have hcl : 2 * p + 2 < L'.length := by lia
        have hcp : 2 * p + 2 ≠ p := by lia
        rename Fr _ _ _ _ => F4
        rename News _ _ _ _ => N4
        refine' listItem N4 (.head _) (j := 2 * p + 2) (by lia) (refs_at hcl) (by lia) ?_
        k_whole
        generalize hpar : L'.getD (2 * p + 2) 0 = par
        k_steps
        all_goals (try refine Stop.mk ?_)
        rename Fr _ _ _ _ => F5
        rename News _ _ _ _ => N5
        refine' listSet F5 N5 (.head _) rfl (by simpa using hkl) (by rw [List.length_map]; lia) ?_
        intro h7 tk7 tl7 F7 N7 M7
        k_steps
        all_goals (try refine Stop.mk ?_)
        rename Fr _ _ _ _ => F8
        rename News _ _ _ _ => N8
        obtain ⟨next, hR, nd', sub'⟩ := hNx.go trivial
        have hkid : kid key L' p = 2 * p + 2 := by
          unfold kid
          rw [hc1, hc2, if_pos ⟨hl2, by lia⟩]
        have hperm := Pl.swapL_perm (C := L'.set p x) (i := p) (j := 2 * p + 2) (by simpa using hkl) (by simpa using hcl)
        have hsw := Pl.shift_swap2 (x := x) hcp hkl
        rw [hpar] at hsw
        simp only [show (2 * (p : Int) + 1 + 1) = ((2 * p + 2 : Nat) : Int) by lia] at F8
        refine next .next _ _ _ [(hp, W.listOf ((L'.set p par).map Value.ref).toArray n)] (L.length - (2 * p + 2)) (.inl rfl) (by lia) F8 (newsSub N8 fun y hy => ?_) ⟨L'.set p par, 2 * p + 2, _, _, _, _, rfl, by simpa using hcl, by simpa using hll, by lia, rfl, rfl, rfl, rfl, rfl, rfl, rfl, ?_, ?_, ?_⟩
        · rw [List.mem_singleton.mp hy, List.map_set]; exact M7.new
        · rw [hsw]; exact hperm.nodup_iff.mpr nd'
        · rw [hsw]; exact fun a ha => sub' a (hperm.mem_iff.mp ha)
        · rw [← hR]
          conv => rhs; rw [suF_eq]
          rw [dif_pos (by lia), hkid, hpar]
    · -- one child
      have hcl : 2 * p + 1 < L'.length := by lia
      have hcp : 2 * p + 1 ≠ p := by lia
      rename Fr _ _ _ _ => F4
      rename News _ _ _ _ => N4
      refine' listItem N4 (.head _) (j := 2 * p + 1) (by lia) (refs_at hcl) (by lia) ?_
      k_whole
      generalize hpar : L'.getD (2 * p + 1) 0 = par
      k_steps
      all_goals (try refine Stop.mk ?_)
      rename Fr _ _ _ _ => F5
      rename News _ _ _ _ => N5
      refine' listSet F5 N5 (.head _) rfl (by simpa using hkl) (by rw [List.length_map]; lia) ?_
      intro h7 tk7 tl7 F7 N7 M7
      k_steps
      all_goals (try refine Stop.mk ?_)
      rename Fr _ _ _ _ => F8
      rename News _ _ _ _ => N8
      obtain ⟨next, hR, nd', sub'⟩ := hNx.go trivial
      have hkid : kid key L' p = 2 * p + 1 := by
        unfold kid
        rw [if_neg (by lia)]
      have hperm := Pl.swapL_perm (C := L'.set p x) (i := p) (j := 2 * p + 1) (by simpa using hkl) (by simpa using hcl)
      have hsw := Pl.shift_swap2 (x := x) hcp hkl
      rw [hpar] at hsw
      simp only [show (2 * (p : Int) + 1) = ((2 * p + 1 : Nat) : Int) by lia] at F8
      refine next .next _ _ _ [(hp, W.listOf ((L'.set p par).map Value.ref).toArray n)] (L.length - (2 * p + 1)) (.inl rfl) (by lia) F8 (newsSub N8 fun y hy => ?_) ⟨L'.set p par, 2 * p + 1, _, _, _, _, rfl, by simpa using hcl, by simpa using hll, by lia, rfl, rfl, rfl, rfl, rfl, rfl, rfl, ?_, ?_, ?_⟩
      · rw [List.mem_singleton.mp hy, List.map_set]; exact M7.new
      · rw [hsw]; exact hperm.nodup_iff.mpr nd'
      · rw [hsw]; exact fun a ha => sub' a (hperm.mem_iff.mp ha)
      · rw [← hR]
        conv => rhs; rw [suF_eq]
        rw [dif_pos (by lia), hkid, hpar]
    · rename Fr _ _ _ _ => F4
      rename News _ _ _ _ => N4
      refine' listSet F4 N4 (.head _) rfl (by simpa using hkl) (by rw [List.length_map]; lia) ?_
      intro h7 tk7 tl7 F7 N7 M7
      obtain ⟨next, hR, nd', sub'⟩ := hNx.go trivial
      have hfin : (L', p) = suF key L pos := by
        rw [← hR]
        conv => rhs; rw [suF_eq]
        rw [dif_neg (by lia)]
      rw [← hfin] at ret
      have hmm : (hp, W.listOf ((L'.set p x).map Value.ref).toArray n) ∈ tl7 := by rw [List.map_set]; exact M7.new
      have hgx : (L'.set p x).getD p 0 = x := by simp [List.getD_eq_getElem?_getD, hkl]
      have hSub := Nx.mk (C := True) fun _ => And.intro nd' sub'
      clear next hR nd' sub' hNx hfin
      k_steps
      all_goals (try refine Stop.mk ?_)
      rename Fr _ _ _ _ => F8
      rename News _ _ _ _ => N8
      refine' sd_use F8 N8 ?k3 ?k4 rfl ?k6 ?k7 hmm (fun a ha => hg _ ((hSub.go trivial).2 _ ha)) (fun a ha b hb => inj _ ((hSub.go trivial).2 _ ha) _ ((hSub.go trivial).2 _ hb)) (hSub.go trivial).1 (by simpa using hkl) (by simp only [List.length_set]; lia) ?_
      case k3 => k_asm
      case k4 => k_asm
      case k6 => tb_start
      case k7 => tb_start
      k_whole
      intro h9 tk9 tl9 F9 N9 M9
      rw [hgx] at M9
      k_steps
      all_goals (try refine Stop.mk ?_)
      exact ret _ _ (Fr.stp F9 eg) (N9.get M9.new)
end
end Mine

end PH3
section PH5
open PySem PySem.W PySem.Calls PyProof.Rows
set_option Elab.async false
set_option maxRecDepth 100000
set_option pp.deepTerms false
set_option pp.deepTerms.threshold 8
namespace Mine
theorem sub_ri_rev : isSubtype (.type "range_iterator") (.type "reversed") = pure false := by rw [isSubtype_type]; kernel_rfl
noncomputable def riO : Obj := { cls := .type "range_iterator", dict := none, data := .fields #[rawInt 2, rawInt 3, rawInt (-1)], slots := #[] }
section
variable {prog : Program} {w : World} {A : Around} {E : Value → Shared → Prop} {s : Shared}
theorem rr_call {r : Addr} {t u v : Tok} {Q : Value → Shared → Prop} (hr : IsRange s.heap r 0 3 1 t u v) (h : Q (.ref s.heap.objs.size) { s with heap := s.heap.push riO }) : wpAny (model prog w) A (call (.builtin "range.__reversed__") [.ref r]) Q E s := by
  have hT : s.TypeIs (.ref r) "range" := ⟨_, hr, rfl⟩
  refine wpAny_call_entry F.slot_range_reversed hT F.entry_range_reversed ?_ (F.args_range_reversed_1 _)
  unfold Builtin.«range.__reversed__»
  refine wpAny_bind (wpAny_of_eq (a := Value.ref r) rfl ?_)
  refine wpAny_bind (m := Builtin.Range.rangeFields (.ref r)) ?_
  unfold Builtin.Range.rangeFields
  refine wpAny_bind (wpAny_field hr rfl (x := .int 0 t) rfl ?_)
  refine wpAny_bind (wpAny_of_eq (a := some 0) rfl ?_)
  refine wpAny_bind (wpAny_field hr rfl (x := .int 3 u) rfl ?_)
  refine wpAny_bind (wpAny_of_eq (a := some 3) rfl ?_)
  refine wpAny_bind (wpAny_field hr rfl (x := .int 1 v) rfl ?_)
  refine wpAny_bind (wpAny_of_eq (a := some 1) rfl ?_)
  refine wpAny_pure ?_
  exact wpAny_bind (wpAny_newObj_type (wpAny_pure ⟨_, rfl, h⟩))
theorem rr_code {r : Addr} {t u v : Tok} {Q₁ : Value → Shared → Prop} (hr : IsRange s.heap r 0 3 1 t u v) (h : Q₁ (.ref s.heap.objs.size) { s with heap := s.heap.push riO }) :
    codeAny (model prog w) A (.call (.builtin "reversed.__new__") ⟨[.type "reversed", .ref r], []⟩) (wants Q₁ E) s := by
  have hT : s.TypeIs (.ref r) "range" := ⟨_, hr, rfl⟩
  refine codeAny_of_tree ?_
  show wpAny _ A.in1 (do checkBuiltinCall "reversed.__new__" ⟨[.type "reversed", .ref r], []⟩; again (.builtin "reversed.__new__" ⟨[.type "reversed", .ref r], []⟩)) _ _ s
  refine wpAny_bind (wpAny_of_eq (F.newCall_reversed_1 _) (wpAny_pure ⟨plainId_quiet F.plain_reversed_new _, codeAny_builtin F.entry_reversed_new ?_⟩))
  rw [Around.under_plainId F.plain_reversed_new _]
  unfold Builtin.«reversed.__new__»
  refine wpAny_bind (wpAny_of_eq (newClass_reversed _) ?_)
  try dsimp only
  refine wpAny_bind (wpAny_of_eq (a := ()) (by first | rfl | kernel_rfl) ?_)
  refine wpAny_bind (wpAny_of_eq (a := ()) (by first | rfl | kernel_rfl) ?_)
  try dsimp only
  refine wpAny_bind (wpAny_specialOf hT F.slot_range_reversed.lookup ?_)
  try dsimp only
  refine wpAny_bind (wpAny_of_eq (F.slot_range_reversed.bind _) ?_)
  try dsimp only
  show wpAny _ _ (if (Value.builtin "range.__reversed__" == Value.none) = true then _ else _) _ _ _
  rw [if_neg (show ¬ ((Value.builtin "range.__reversed__" == Value.none) = true) from Bool.false_ne_true)]
  refine wpAny_bind (wpAny_rule ?_)
  refine wpAny_bind (m := runValue (.call (.builtin "range.__reversed__") ⟨[.ref r], []⟩)) (show wpAny _ _ (call (.builtin "range.__reversed__") [.ref r]) _ _ _ from rr_call hr ?_)
  first
  | exact wpAny_pure h
  | exact wpAny_bind (wpAny_pure (wpAny_pure h))
theorem rr_new {r : Addr} {t u v : Tok} {Q : Value → Shared → Prop} (hr : IsRange s.heap r 0 3 1 t u v) (h : Q (.ref s.heap.objs.size) { s with heap := s.heap.push riO }) : wpAny (model prog w) A (call (.type "reversed") [.ref r]) Q E s := by
  refine callType_other (U := "range_iterator") (Q₁ := fun obj s₁ => obj = .ref s.heap.objs.size ∧ s₁ = { s with heap := s.heap.push riO }) (by decide +kernel) F.create_reversed ⟨_, _, F.mro_reversed⟩ F.made_reversed sub_ri_rev (F.typeCall_reversed_1 _) (rr_code hr ⟨rfl, rfl⟩) ?_
  rintro obj s₁ ⟨rfl, rfl⟩
  exact ⟨⟨_, Heap.get?_push_size _ rfl, rfl⟩, h⟩
end
end Mine

end PH5
section PL4
open PySem PySem.W PySem.Calls PyProof.Rows
set_option Elab.async false
set_option maxRecDepth 100000
namespace Mine
theorem for_rng0 {prog : Program} {w : World} {A : Around} {s : Shared} {E : Value → Shared → Prop} {Q : Flow → Shared → Prop} {y : Str} {yp : Pos} {body : List Stmt} {env : Env} {h₀ : Heap} {I : Addr} {a c : Int} {n : Nat} {m₀ : Str → Option Value} {news : List (Addr × Obj)}
    (J : Nat → (Str → Option Value) → List (Addr × Obj) → Prop)
    (hh : A.handled = none) (hit : IsRangeIter s.heap I a n c) (hIL : I ≠ env.locals) (hI0 : h₀.get? I = none)
    (F : Fr h₀ env.locals s.heap m₀) (N : News h₀ env.locals s.heap news) (hj : J 0 m₀ news) (hc : ∀ p ∈ news, p.1 ≠ I)
    (turn : ∀ i u m₁ news₁ h tk own (P : Flow → Shared → Prop), i < n → J i m₁ news₁ → OwnOff own (news₁.map (·.1)) → Fr h₀ env.locals h m₁ → News h₀ env.locals h (news₁ ++ own) →
      (∀ f h' tk' m' news', (f = .next ∨ f = .cont) → Fr h₀ env.locals h' m' → News h₀ env.locals h' (news' ++ own) → J (i + 1) m' news' → (∀ p ∈ news', p ∈ news₁ ∨ ∀ q ∈ own, q.1 ≠ p.1) → P f { s with heap := h', toks := tk' }) →
      (∀ s', Q .next s' → P .brk s') → (∀ v s', Q (.ret v) s' → P (.ret v) s') →
      wpAny (model prog w) A (assign (.Name y yp) env (.int (a + i * c) u)) (fun _ s₂ => wpAny (model prog w) A (execs body env) P (fun _ _ => False) s₂) (fun _ _ => False) { s with heap := h, toks := tk })
    (done : ∀ m₁ news₁ h tk, J n m₁ news₁ → Fr h₀ env.locals h m₁ → News h₀ env.locals h news₁ → Q .next { s with heap := h, toks := tk }) :
    codeAny (model prog w) A (.forLoop (.Name y yp) (.ref I) body [] env) (fun r s' => match r with | .ok f => Q f s' | .error e => cameBackBy (model prog w) A env E e s') s := by
  refine for_gen (op := [I]) "range_iterator" J (Walks.range (prog := prog) (w := w) hh I a c n) (fun _ _ _ _ _ _ q => goName q) (.head _) (fun q => hIL (List.mem_singleton.mp q).symm) hI0
    (fun i h st => ⟨fun b hb => ⟨_, List.mem_singleton.mp hb ▸ st⟩, _, st, rfl⟩) (by simpa using hit) F N hj (fun p hp q => hc p hp (List.mem_singleton.mp q)) (fun _ _ _ _ _ _ _ _ _ _ _ b hb hbo => absurd hb hbo)
    (fun i v m₁ nw h tk own P' hi hP hJ ho F₁ N₁ next => ?_) fun m₁ nw h tk a b c _ => done m₁ nw h tk a b c
  obtain ⟨u, rfl⟩ := hP
  exact turn i u m₁ nw h tk own P' hi hJ ho F₁ N₁ fun f h' tk' m' nw' hf F' N' hJ' hc' => next f h' tk' m' nw' hf F' N' hJ' fun p hp => (hc' p hp).imp id .inr
theorem for_rng {prog : Program} {w : World} {A : Around} {s : Shared} {E : Value → Shared → Prop} {Q : Flow → Shared → Prop} {y : Str} {yp : Pos} {body : List Stmt} {env : Env} {h₀ : Heap} {I : Addr} {a c : Int} {n : Nat} {m₀ : Str → Option Value} {news : List (Addr × Obj)}
    (J : Nat → (Str → Option Value) → List (Addr × Obj) → Prop)
    (hh : A.handled = none) (hit : IsRangeIter s.heap I a n c) (hIL : I ≠ env.locals) (hI0 : h₀.get? I = none)
    (F : Fr h₀ env.locals s.heap m₀) (N : News h₀ env.locals s.heap news) (hj : J 0 m₀ news) (hc : ∀ p ∈ news, p.1 ≠ I)
    (turn : ∀ i u m₁ news₁ h tk own (P : Flow → Shared → Prop), i < n → J i m₁ news₁ → OwnOff own (news₁.map (·.1)) → Fr h₀ env.locals h m₁ → News h₀ env.locals h (news₁ ++ own) →
      (∀ f h' tk' m' news', (f = .next ∨ f = .cont) → Fr h₀ env.locals h' m' → News h₀ env.locals h' (news' ++ own) → J (i + 1) m' news' → (∀ p ∈ news', p ∈ news₁ ∨ ∀ q ∈ own, q.1 ≠ p.1) → P f { s with heap := h', toks := tk' }) →
      (∀ s', Q .next s' → P .brk s') → (∀ v s', Q (.ret v) s' → P (.ret v) s') →
      wpAny (model prog w) A (assign (.Name y yp) env (.int (a + i * c) u)) (fun _ s₂ => wpAny (model prog w) A (execs body env) P (fun _ _ => False) s₂) (fun _ _ => False) { s with heap := h, toks := tk })
    (done : ∀ m₁ news₁ h tk, J n m₁ news₁ → Fr h₀ env.locals h m₁ → News h₀ env.locals h news₁ → Q .next { s with heap := h, toks := tk }) :
    wpAny (model prog w) A (pyIter (.ref I)) (fun it s₂ => codeAny (model prog w) A (.forLoop (.Name y yp) it body [] env) (fun r s' => match r with | .ok f => Q f s' | .error e => cameBackBy (model prog w) A env E e s') s₂) E s := by
  have W := Walks.range (prog := prog) (w := w) hh I a c n
  exact W.self 0 _ _ _ (by simpa using hit) (for_rng0 J hh hit hIL hI0 F N hj hc turn done)
theorem for_range {prog : Program} {w : World} {A : Around} {s : Shared} {E : Value → Shared → Prop} {Q : Flow → Shared → Prop} {y : Str} {yp : Pos} {body : List Stmt} {env : Env} {h₀ : Heap} {r : Addr} {a b c : Int} {t₁ t₂ t₃ : Tok} {n : Nat} {m₀ : Str → Option Value} {news : List (Addr × Obj)}
    (J : Nat → (Str → Option Value) → List (Addr × Obj) → Prop)
    (hh : A.handled = none) (hr : IsRange s.heap r a b c t₁ t₂ t₃) (hsm : Builtin.Range.small a b c = true) (hn : Builtin.Range.rangeSize a b c = ((n : Nat) : Int))
    (F : Fr h₀ env.locals s.heap m₀) (N : News h₀ env.locals s.heap news) (hj : J 0 m₀ news)
    (turn : ∀ i u m₁ news₁ h tk own (P : Flow → Shared → Prop), i < n → J i m₁ news₁ → OwnOff own (news₁.map (·.1)) → Fr h₀ env.locals h m₁ → News h₀ env.locals h (news₁ ++ own) →
      (∀ f h' tk' m' news', (f = .next ∨ f = .cont) → Fr h₀ env.locals h' m' → News h₀ env.locals h' (news' ++ own) → J (i + 1) m' news' → (∀ p ∈ news', p ∈ news₁ ∨ ∀ q ∈ own, q.1 ≠ p.1) → P f { s with heap := h', toks := tk' }) →
      (∀ s', Q .next s' → P .brk s') → (∀ v s', Q (.ret v) s' → P (.ret v) s') →
      wpAny (model prog w) A (assign (.Name y yp) env (.int (a + i * c) u)) (fun _ s₂ => wpAny (model prog w) A (execs body env) P (fun _ _ => False) s₂) (fun _ _ => False) { s with heap := h, toks := tk })
    (done : ∀ m₁ news₁ h tk, J n m₁ news₁ → Fr h₀ env.locals h m₁ → News h₀ env.locals h news₁ → Q .next { s with heap := h, toks := tk }) :
    wpAny (model prog w) A (pyIter (.ref r)) (fun it s₂ => codeAny (model prog w) A (.forLoop (.Name y yp) it body [] env) (fun r s' => match r with | .ok f => Q f s' | .error e => cameBackBy (model prog w) A env E e s') s₂) E s := by
  refine wpAny_pyIter_range hr hsm ?_
  have up : ∀ (ob : Obj) b o, s.heap.get? b = some o → (s.heap.push ob).get? b = some o := fun ob b o e => Heap.get?_push_of_some _ e
  refine for_rng0 (n := n) J hh (by show IsRangeIter _ _ _ _ _; rw [← hn]; exact Heap.get?_push_size _ rfl) (Nat.ne_of_gt F.ns.lt) (next_is_new F) (F.keeps (up _)) (N.grown (up _)) hj (fun p hp => Nat.ne_of_lt (Heap.lt_size (N p hp).1)) turn done
end Mine

end PL4
section PH4
theorem Mine.rs_H4 : True := by
  w_top off
  first | walk1 | trivial
open PySem PySem.W PySem.Calls PyProof.Rows
set_option Elab.async false
set_option maxRecDepth 100000
set_option pp.deepTerms false
set_option pp.deepTerms.threshold 8
namespace Mine
theorem fillKH4 : (PySem.Challenge.rw_il0068_01 = PySem.Challenge.rw_il0068_01 ∧ hd.heap_39 = hd.heap_39) := by k_fill; exact ⟨rfl, rfl⟩
local macro_rules | `(tactic| walk_at "exec For Name Call cons nil") => `(tactic| (k_here; k_dflt (refine wpAny_For ?_)))
local macro_rules | `(tactic| walk_at "call type:range") => `(tactic| (k_here; (with_reducible show wpAny _ _ (call (Value.type "range") [Value.int (Int.fdiv _ _) _]) _ _ _); k_dflt (refine Stop.go ?_)))
theorem sdF_perm {key : Addr → Int} {x : Addr} {start : Nat} : ∀ (pos : Nat) (L : List Addr), pos < L.length → (sdF key x L start pos).Perm (L.set pos x) := by
  intro pos
  induction pos using Nat.strongRecOn with
  | ind pos ih =>
    intro L hp
    rw [sdF_eq]
    split
    · rename_i h
      split
      · have hpp : (pos - 1) / 2 < pos := by lia
        have h1 := ih _ hpp (L.set pos (L.getD ((pos - 1) / 2) 0)) (by simp only [List.length_set]; lia)
        rw [Pl.shift_swap hpp hp] at h1
        exact h1.trans (Pl.swapL_perm (by simpa using hp) (by simp only [List.length_set]; lia))
      · exact List.Perm.refl _
    · exact List.Perm.refl _
theorem suF_perm {key : Addr → Int} {x : Addr} : ∀ (k : Nat) (p : Nat) (L : List Addr), L.length - p = k → p < L.length → (suF key L p).2 < L.length ∧ (suF key L p).1.length = L.length ∧ p ≤ (suF key L p).2 ∧ ((suF key L p).1.set (suF key L p).2 x).Perm (L.set p x) := by
  intro k
  induction k using Nat.strongRecOn with
  | ind k ih =>
    intro p L hk hp
    rw [suF_eq]
    split
    · rename_i h
      have hg := kid_gt (key := key) (L := L) (p := p)
      have hl := kid_lt (key := key) h
      obtain ⟨a, b, c, d⟩ := ih (L.length - kid key L p) (by lia) (kid key L p) (L.set p (L.getD (kid key L p) 0)) (by simp only [List.length_set]) (by simpa using hl)
      simp only [List.length_set] at a b
      refine ⟨a, b, by lia, d.trans ?_⟩
      rw [Pl.shift_swap2 (by lia) hp]
      exact Pl.swapL_perm (by simpa using hp) (by simpa using hl)
    · exact ⟨hp, rfl, Nat.le_refl _, List.Perm.refl _⟩
noncomputable def upF (key : Addr → Int) (L : List Addr) (pos : Nat) : List Addr := sdF key (L.getD pos 0) ((suF key L pos).1.set (suF key L pos).2 (L.getD pos 0)) pos (suF key L pos).2
theorem upF_perm {key : Addr → Int} {L : List Addr} {pos : Nat} (hp : pos < L.length) : (upF key L pos).Perm L := by
  unfold upF
  obtain ⟨a, b, c, d⟩ := suF_perm (key := key) (x := L.getD pos 0) _ pos L rfl hp
  refine (sdF_perm _ _ (by simp only [List.length_set]; lia)).trans ?_
  rw [List.set_set]
  refine d.trans ?_
  rw [set_self]
theorem upF_length {key : Addr → Int} {L : List Addr} {pos : Nat} (hp : pos < L.length) : (upF key L pos).length = L.length := (upF_perm hp).length_eq
section
variable {w : World} {mean : ExcName → Option Value} {mg mb : Str → Option Value} {A : Around} {s : Shared} {Q E : Value → Shared → Prop} {g : Heap} {L : Addr} {m : Str → Option Value} {news : List (Addr × Obj)} {dp un : Nat} {fr : Option (List Env)} {gd : Option (List Code)}
/-- the heap's list as the ledger has it, and its keys -/
structure Hp (g : Heap) (key : Addr → Int) (L0 : List Addr) : Prop where
  hk : ∀ a ∈ L0, KeyAt g key a
  inj : ∀ a ∈ L0, ∀ b ∈ L0, key a = key b → a = b
  nd : L0.Nodup
  len : L0.length < 500
theorem Hp.perm {g : Heap} {key : Addr → Int} {L0 L1 : List Addr} (H : Hp g key L0) (p : L1.Perm L0) : Hp g key L1 := ⟨fun a h => H.hk a (p.mem_iff.mp h), fun a ha b hb => H.inj a (p.mem_iff.mp ha) b (p.mem_iff.mp hb), p.nodup_iff.mpr H.nd, by rw [p.length_eq]; exact H.len⟩
theorem su_use {hp : Addr} {n pos : Nat} {L0 : List Addr} {key : Addr → Int} {tp : Tok} {kp : Int} (F : Fr g L s.heap m) (N : News g L s.heap news) (X : (hd.heap_39 w.params).In g) (T : TopM mean mg mb g) (hh : A.handled = none) (hdp : A.depth < 450) (hun : A.units < 150)
   (hm : (hp, W.listOf (L0.map Value.ref).toArray n) ∈ news) (H : Hp g key L0) (hpos : pos < L0.length) (ek : kp = (pos : Int))
   (ret : ∀ h' tk tl', Fr g L h' m → News g L h' tl' → Mod hp (W.listOf ((upF key L0 pos).map Value.ref).toArray n) news tl' → Q .none { s with heap := h', toks := tk }) :
   wpAny (model prg w) A (call (.ref 98) [.ref hp, .int kp tp]) Q E s := by
  subst ek
  rw [toAt hh]
  refine wpAny_mono (su_ok (Q := Q) (E := E) (N.get hm) (fun a ha => by obtain ⟨t, x, k, e⟩ := H.hk a ha; exact ⟨t, x, k, F.keep _ _ e⟩) H.inj H.nd hpos H.len ((gdOf F X T N).mono (Stp.refl _ []) (fun _ h => nomatch h) fun a ha => by rw [List.mem_singleton.mp ha]; exact List.mem_map_of_mem hm) hdp hun fun h' tk S e => ?_) (fun _ _ x => x) fun _ _ x => x
  obtain ⟨tl', M⟩ := modIs hp (W.listOf ((upF key L0 pos).map Value.ref).toArray n) news
  refine ret h' tk tl' (frMod F N S fun a ha => by rw [List.mem_singleton.mp ha]; exact List.mem_map_of_mem hm) (fun y hy => ?_) M
  rcases M.back y hy with rfl | ⟨h1, h2⟩
  · exact newsAt N hm e
  · exact newsIn N S h1 fun q => h2 (List.mem_singleton.mp q)
theorem chain1 {m : Str → Option Value} {a : Str} {va : Value} (ha : m a = some va) : m = fun y => if y = a then some va else m y := by
  funext y
  by_cases h1 : y = a
  · rw [if_pos h1, h1, ha]
  · rw [if_neg h1]
theorem rev_use {r : Addr} {t u v : Tok} (hr : IsRange s.heap r 0 3 1 t u v) (F : Fr g L s.heap m) (N : News g L s.heap news) (ret : ∀ I h' tk, Fr g L h' m → News g L h' ((I, riO) :: news) → AllLt I news → Q (.ref I) { s with heap := h', toks := tk }) : wpAny (model prg w) A (call (.type "reversed") [.ref r]) Q E s := by
  refine rr_new hr ?_
  have nn : s.heap.get? s.heap.objs.size = none := Heap.get?_none_of_le (Nat.le_refl _)
  exact ret _ _ _ (frKeep F (stpPush _ _)) (newsMore F N (stpPush s.heap riO) (Heap.get?_push_size _ rfl) nn).1 (ltSize N)
noncomputable def Lq (key : Addr → Int) (L : List Addr) : Nat → List Addr
  | 0 => L
  | i + 1 => upF key (Lq key L i) (2 - i)
theorem Lq_perm {key : Addr → Int} {L : List Addr} (h : L.length = 7) : ∀ i, (Lq key L i).Perm L
  | 0 => List.Perm.refl _
  | i + 1 => by
    have ih := Lq_perm (key := key) h i
    exact (upF_perm (by rw [ih.length_eq]; lia)).trans ih
set_option maxHeartbeats 40000000 in
theorem heapify_ok {hp : Addr} {n : Nat} {L : List Addr} {key : Addr → Int} (hh : s.heap.get? hp = some (W.listOf (L.map Value.ref).toArray n)) (H : Hp s.heap key L) (h7 : L.length = 7)
   (G : Gd w mean mg mb [hp] s.heap) (hdp : dp < 400) (hun : un < 100)
   (ret : ∀ h' tk, Stp s.heap h' [hp] → h'.get? hp = some (W.listOf ((upF key (upF key (upF key L 2) 1) 0).map Value.ref).toArray n) → Q .none { s with heap := h', toks := tk }) :
   wpAny (model prg w) (At dp un fr gd) (call (.ref 84) [.ref hp]) Q E s := by
  refine wpAny_call ?_
  refine' enter (news := [(hp, W.listOf (L.map Value.ref).toArray n)]) ?k0 ?k1 ?k2 ?k3 ?k4 ?k5 ?k6 ?_ ?c2 ?c3 ?c4 ?c5
  case k0 => assumption
  case k1 => exact fun y hy => by rcases List.mem_singleton.mp hy with rfl; exact hh
  case k2 => k_is
  case k3 => k_is
  case k4 => tb_start
  case k5 => exact BindsTo.of_eq rfl
  case k6 => exact locs rfl
  case c2 => exact rfl
  case c3 => exact rfl
  case c4 => exact rfl
  case c5 => decide
  intro g' L' h' F' N' X' T' eg eL
  (try dsimp only); (try k_fold)
  have eg2 : g' = hideAll s.heap [hp] := eg
  have Hg : Hp g' key L := ⟨fun a ha => by
    obtain ⟨t, x, k, e⟩ := H.hk a ha
    exact ⟨t, x, k, by rw [eg2]; exact hideAll_get _ e (fun hm => by rw [List.mem_singleton.mp hm, hh] at e; simp [W.listOf] at e)⟩, H.inj, H.nd, H.len⟩
  clear H eg2
  k_steps
  rename News _ _ _ _ => N1
  refine' lenT N1 (.head _) Hg.len ?_
  intro tl1 tk1
  have e7 : (L.length : Int) = 7 := by lia
  rw [e7]
  k_steps
  refine Stop.mk ?_
  rw [show (7 : Int).fdiv 2 = 3 by decide]
  k_steps
  rename IsRange _ _ _ _ _ _ _ _ => hRg
  rename Fr _ _ _ _ => F1
  rename News _ _ _ _ => N1
  refine' rev_use hRg F1 N1 ?_
  intro I h2 tk2 F2 N2 lI
  k_whole
  k_steps
  rename Fr _ _ _ _ => F3
  rename News _ _ _ _ => N3
  trace_state
  refine' for_rng (n := 3) (fun i m nw => nw = [(hp, W.listOf ((Lq key L i).map Value.ref).toArray n)] ∧ m "x" = some (.ref hp)) ?hh ?hi ?hL ?h0 ?F ?N ?hj ?hc ?turn ?done (a := 2) (c := -1) (news := [(hp, W.listOf (L.map Value.ref).toArray n)])
  case hh => exact rfl
  case hi => exact N3.get (.head _)
  case hL => exact (N3 _ (.head _)).2.1
  case h0 => exact (N3 _ (.head _)).2.2
  case F => exact F3
  case N => exact newsSub N3 fun y hy => .tail _ hy
  case hj => exact ⟨rfl, rfl⟩
  case hc => exact fun y hy => by rw [List.mem_singleton.mp hy]; exact allLt_mem lI _ (.head _)
  case turn =>
    rintro i u m₃ nw h₃ tk₃ own P hi3 ⟨rfl, hm⟩ hown F4 N4 next hbrk hrt
    have hq := Lq_perm (key := key) h7 i
    have Hi := Hg.perm hq
    have hli := hq.length_eq
    have hno := Nx.mk (C := True) fun _ => And.intro hown next
    clear F3 N3 hown next hbrk hrt hq
    rw [chain1 hm] at F4
    simp only [List.cons_append, List.nil_append] at N4
    clear hm
    dsimp only
    k_steps
    rename Fr _ _ _ _ => F5
    rename News _ _ _ _ => N5
    refine' su_use F5 N5 ?k3 ?k4 rfl ?k6 ?k7 (.head _) Hi (pos := 2 - i) (by lia) (by lia) ?_
    case k3 => k_asm
    case k4 => k_asm
    case k6 => tb_start
    case k7 => tb_start
    k_whole
    intro h7' tk7 tl7 F7 N7 M7
    k_steps
    obtain ⟨hown, next⟩ := hno.go trivial
    refine next .next _ _ _ [(hp, W.listOf ((Lq key L (i + 1)).map Value.ref).toArray n)] (.inl rfl) F7 (newsSub N7 fun y hy => ?_) ⟨rfl, rfl⟩ fun y hy => .inr fun q hq e => ?_
    · rcases List.mem_append.mp hy with hy | hy
      · rw [List.mem_singleton.mp hy]; exact M7.new
      · exact M7.old _ (.tail _ hy) (hown y hy _ (.head _))
    · rw [List.mem_singleton.mp hy] at e; exact hown q hq _ (.head _) e
  case done =>
    rintro m₃ nw h₃ tk₃ ⟨rfl, hm⟩ F4 N4
    clear F3 N3
    dsimp only
    k_steps
    exact ret _ _ (Fr.stp F4 eg) (N4.get (.head _))
end
end Mine

end PH4
section PH6
theorem Mine.rs_H6 : True := by
  w_top off
  first | walk1 | trivial
open PySem PySem.W PySem.Calls PyProof.Rows
set_option Elab.async false
set_option maxRecDepth 100000
set_option pp.deepTerms false
set_option pp.deepTerms.threshold 8
namespace Mine
theorem fillKH6 : (PySem.Challenge.rw_il0068_01 = PySem.Challenge.rw_il0068_01 ∧ hd.heap_39 = hd.heap_39) := by k_fill; exact ⟨rfl, rfl⟩
local macro_rules | `(tactic| walk_at "subscriptTail") => `(tactic| (k_here; k_dflt (refine Stop.go ?_)))
local macro_rules | `(tactic| walk_at "setItem ref") => `(tactic| (k_here; k_dflt (refine Stop.go ?_)))
local macro_rules | `(tactic| walk_at "call builtin:list.pop") => `(tactic| (k_here; k_dflt (refine Stop.go ?_)))
local macro_rules | `(tactic| walk_at "truthy ref") => `(tactic| (k_here; k_dflt (refine Stop.go ?_)))
section
variable {w : World} {mean : ExcName → Option Value} {mg mb : Str → Option Value} {A : Around} {s : Shared} {Q E : Value → Shared → Prop} {g : Heap} {L : Addr} {m : Str → Option Value} {news : List (Addr × Obj)} {dp un : Nat} {fr : Option (List Env)} {gd : Option (List Code)}
theorem popL {D : Addr} {init : List Addr} {z : Addr} {n : Nat} (F : Fr g L s.heap m) (N : News g L s.heap news) (hm : (D, W.listOf ((init ++ [z]).map Value.ref).toArray n) ∈ news) (hz : init.length < 500)
   (ret : ∀ h' tk tl', Fr g L h' m → News g L h' tl' → Mod D (W.listOf (init.map Value.ref).toArray (n + 1)) news tl' → Q (.ref z) { s with heap := h', toks := tk }) : wpAny (model prg w) A (call (.builtin "list.pop") [.ref D]) Q E s := by
  have e := N.get hm
  have hsz : ((init ++ [z]).map Value.ref).toArray.size = init.length + 1 := by simp
  have hy : ((init ++ [z]).map Value.ref).toArray[((init ++ [z]).map Value.ref).toArray.size - 1]? = some (.ref z) := by
    rw [hsz]; simp
  refine call_meets PySem.F.slot_list_pop ⟨_, e, rfl⟩ PySem.F.entry_list_pop (PySem.F.args_list_pop_1 _) (PySem.MeetsSeq.list_pop_last D _ n _ hy (by rw [hsz]; exact Nat.le_trans (Nat.succ_le_of_lt hz) (by decide +kernel))) ⟨e, ?_⟩
  obtain ⟨tl', M⟩ := modIs D (W.listOf (init.map Value.ref).toArray (n + 1)) news
  refine ret _ _ tl' (frOne F N hm (Heap.SameBut.update ..)) (newsOne N hm (Heap.SameBut.update ..) ?_ M) M
  have q := PySem.IsL.update (n := n) (items := ((init ++ [z]).map Value.ref).toArray) e (fun xs => xs.eraseIdxIfInBounds (((init ++ [z]).map Value.ref).toArray.size - 1))
  have e2 : ((init ++ [z]).map Value.ref).toArray.eraseIdxIfInBounds (((init ++ [z]).map Value.ref).toArray.size - 1) = (init.map Value.ref).toArray := by
    rw [hsz]
    apply Array.toList_inj.mp
    simp [Array.eraseIdxIfInBounds]
    rw [show init.length = (List.map Value.ref init).length by simp, List.eraseIdx_append_of_length_le (Nat.le_refl _)]
    simp
  rw [e2, if_neg (by simp)] at q
  exact q
theorem truthL {D : Addr} {L0 : List Addr} {n : Nat} {Q : Bool → Shared → Prop} (N : News g L s.heap news) (hm : (D, W.listOf (L0.map Value.ref).toArray n) ∈ news) (hz : L0.length < 500) (q : ∀ k, Q (!L0.isEmpty) { s with toks := k }) : wpAny (model prg w) A (truthy (.ref D)) Q E s := by
  have hl : s.heap.IsList D (L0.map Value.ref).toArray := ⟨_, N.get hm, rfl, _, rfl⟩
  refine wpAny_truthy_list hl ?_ ?_
  · have : (500 : Int) < 2 ^ 63 := by decide
    simp only [List.size_toArray, List.length_map]
    lia
  · have e : ((L0.map Value.ref).toArray.isEmpty) = L0.isEmpty := by cases L0 <;> simp
    rw [e]; exact q _
/-- what heappop gives and leaves -/
noncomputable def popF (key : Addr → Int) (init : List Addr) (z : Addr) : Addr × List Addr := if init = [] then (z, []) else (init.getD 0 0, upF key (init.set 0 z) 0)
set_option maxHeartbeats 40000000 in
theorem heappop_ok {hp : Addr} {n : Nat} {init : List Addr} {z : Addr} {key : Addr → Int} (hh : s.heap.get? hp = some (W.listOf ((init ++ [z]).map Value.ref).toArray n)) (H : Hp s.heap key (init ++ [z]))
   (G : Gd w mean mg mb [hp] s.heap) (hdp : dp < 400) (hun : un < 100)
   (ret : ∀ h' tk, Stp s.heap h' [hp] → h'.get? hp = some (W.listOf ((popF key init z).2.map Value.ref).toArray (n + 1)) → Q (.ref (popF key init z).1) { s with heap := h', toks := tk }) :
   wpAny (model prg w) (At dp un fr gd) (call (.ref 77) [.ref hp]) Q E s := by
  refine wpAny_call ?_
  refine' enter (news := [(hp, W.listOf ((init ++ [z]).map Value.ref).toArray n)]) ?k0 ?k1 ?k2 ?k3 ?k4 ?k5 ?k6 ?_ ?c2 ?c3 ?c4 ?c5
  case k0 => assumption
  case k1 => exact fun y hy => by rcases List.mem_singleton.mp hy with rfl; exact hh
  case k2 => k_is
  case k3 => k_is
  case k4 => tb_start
  case k5 => exact BindsTo.of_eq rfl
  case k6 => exact locs rfl
  case c2 => exact rfl
  case c3 => exact rfl
  case c4 => exact rfl
  case c5 => decide
  intro g' L' h' F' N' X' T' eg eL
  (try dsimp only); (try k_fold)
  have eg2 : g' = hideAll s.heap [hp] := eg
  have Hg : Hp g' key (init ++ [z]) := ⟨fun a ha => by
    obtain ⟨t, x, k, e⟩ := H.hk a ha
    exact ⟨t, x, k, by rw [eg2]; exact hideAll_get _ e (fun hm => by rw [List.mem_singleton.mp hm, hh] at e; simp [W.listOf] at e)⟩, H.inj, H.nd, H.len⟩
  have hz5 : init.length < 500 := by have := H.len; simp at this; lia
  clear H eg2
  have hHg := Nx.mk (C := True) fun _ => Hg
  clear Hg
  k_steps
  try refine Stop.mk ?_
  rename Fr _ _ _ _ => F1
  rename News _ _ _ _ => N1
  refine' popL F1 N1 (.head _) hz5 ?_
  intro h1 tk1 tl1 F2 N2 M1
  have m1 := M1.new
  k_steps
  try refine Stop.mk ?_
  rename News _ _ _ _ => N3
  refine' truthL N3 m1 hz5 ?_
  intro tk3
  cases init with
  | nil =>
    rw [show (!([] : List Addr).isEmpty) = false from rfl]
    k_steps
    rename Fr _ _ _ _ => F4
    rename News _ _ _ _ => N4
    exact ret _ _ (Fr.stp F4 eg) (N4.get m1)
  | cons a r =>
    rw [show (!(a :: r).isEmpty) = true from rfl]
    k_steps
    try refine Stop.mk ?_
    rename Fr _ _ _ _ => F4
    rename News _ _ _ _ => N4
    refine' listItem N4 m1 (j := 0) (k := 0) (by rfl) (refs_at (by simp)) (by lia) ?_
    k_whole
    k_steps
    try refine Stop.mk ?_
    rename Fr _ _ _ _ => F5
    rename News _ _ _ _ => N5
    refine' listSet F5 N5 m1 (j := 0) (k := 0) (by rfl) (by simp) (by rw [List.length_map]; lia) ?_
    intro h6 tk6 tl6 F6 N6 M6
    have m6 : (hp, W.listOf (((a :: r).set 0 z).map Value.ref).toArray (n + 1)) ∈ tl6 := by rw [List.map_set]; exact M6.new
    k_steps
    rename Fr _ _ _ _ => F7
    rename News _ _ _ _ => N7
    have hperm : ((a :: r).set 0 z).Perm (r ++ [z]) := by simp only [List.set_cons_zero]; exact (List.perm_append_comm (l₁ := r) (l₂ := [z])).symm
    have Hs : Hp g' key ((a :: r).set 0 z) := by
      have Hg := hHg.go trivial
      have hs : ∀ y, y ∈ (a :: r).set 0 z → y ∈ (a :: r) ++ [z] := fun y hy => by
        have := hperm.mem_iff.mp hy
        simp only [List.cons_append]
        exact .tail _ this
      refine ⟨fun y hy => Hg.hk y (hs y hy), fun y hy y' hy' => Hg.inj y (hs y hy) y' (hs y' hy'), hperm.nodup_iff.mpr ?_, by simpa using hz5⟩
      have := Hg.nd
      simp only [List.cons_append] at this
      exact (List.nodup_cons.mp this).2
    refine' su_use F7 N7 ?k3 ?k4 rfl ?k6 ?k7 m6 Hs (pos := 0) (by simp) rfl ?_
    case k3 => k_asm
    case k4 => k_asm
    case k6 => tb_start
    case k7 => tb_start
    k_whole
    intro h8 tk8 tl8 F8 N8 M8
    k_steps
    rename Fr _ _ _ _ => F9
    rename News _ _ _ _ => N9
    exact ret _ _ (Fr.stp F9 eg) (N9.get M8.new)
end
end Mine

end PH6
section PH7
open PySem PySem.W PySem.Calls PyProof.Rows
set_option Elab.async false
set_option maxRecDepth 100000
namespace Mine
open Pl (upd par HeapFrom Hole Up)
noncomputable def kf (key : Addr → Int) (L : List Addr) : Nat → Int := fun i => key (L.getD i 0)
theorem kf_set {key : Addr → Int} {L : List Addr} {p : Nat} {v : Addr} (hp : p < L.length) : kf key (L.set p v) = upd (kf key L) p (key v) := by
  funext i
  unfold kf upd
  by_cases e : i = p
  · subst e
    rw [if_pos rfl]
    simp [List.getD_eq_getElem?_getD, hp]
  · rw [if_neg e, Pl.getD_set_ne e]
theorem upd_upd {A : Nat → Int} {p : Nat} {u v : Int} : upd (upd A p u) p v = upd A p v := by
  funext i
  unfold upd
  by_cases e : i = p <;> simp [e]
inductive Desc (s : Nat) : Nat → Prop
  | refl : Desc s s
  | kid {c : Nat} : Desc s (par c) → 0 < c → Desc s c
theorem Desc.le {s p : Nat} (h : Desc s p) : s ≤ p := by
  induction h with
  | refl => exact Nat.le_refl _
  | kid _ _ ih => unfold par at ih; lia
theorem sdF_heap {key : Addr → Int} {x : Addr} {n start : Nat} : ∀ (pos : Nat) (L : List Addr), pos < L.length → L.length = n → Desc start pos → Up (kf key (L.set pos x)) n start pos → HeapFrom (kf key (sdF key x L start pos)) n start := by
  intro pos
  induction pos using Nat.strongRecOn with
  | ind pos ih =>
    intro L hp hn hd hU
    have eA : kf key (L.set pos x) pos = key x := by rw [kf_set hp]; unfold upd; rw [if_pos rfl]
    rw [sdF_eq]
    split
    · rename_i h
      have hpp : par pos < pos := by unfold par; lia
      have ePP : kf key (L.set pos x) (par pos) = key (L.getD ((pos - 1) / 2) 0) := by
        rw [kf_set hp]
        unfold upd
        rw [if_neg (by lia)]
        rfl
      have hd' : Desc start (par pos) := by
        cases hd with
        | refl => lia
        | kid h _ => exact h
      split
      · rename_i hlt
        have hU' := hU.up (by lia) (by lia) hd'.le (by rw [eA, ePP]; exact hlt)
        refine ih (par pos) hpp _ (by simp only [List.length_set]; lia) (by simpa using hn) hd' ?_
        have e : kf key ((L.set pos (L.getD ((pos - 1) / 2) 0)).set (par pos) x) = upd (upd (kf key (L.set pos x)) pos (kf key (L.set pos x) (par pos))) (par pos) (kf key (L.set pos x) pos) := by
          rw [eA, ePP, kf_set (by simp only [List.length_set]; lia), kf_set hp, kf_set hp, upd_upd]
        rw [e]
        exact hU'
      · rename_i hge
        exact hU.done fun _ _ => by rw [eA, ePP]; lia
    · rename_i h
      have := hd.le
      exact hU.done fun h0 hs => by unfold par at hs; lia
theorem suF_hole {key : Addr → Int} {n s : Nat} : ∀ (k p : Nat) (L : List Addr), L.length - p = k → p < L.length → L.length = n → Desc s p → Hole (kf key L) n s p → Hole (kf key (suF key L p).1) n s (suF key L p).2 ∧ Desc s (suF key L p).2 ∧ n ≤ 2 * (suF key L p).2 + 1 := by
  intro k
  induction k using Nat.strongRecOn with
  | ind k ih =>
    intro p L hk hp hn hd hH
    rw [suF_eq]
    split
    · rename_i h
      have hg := kid_gt (key := key) (L := L) (p := p)
      have hl := kid_lt (key := key) h
      have hc : kid key L p = 2 * p + 1 ∨ kid key L p = 2 * p + 2 := by unfold kid; split <;> simp
      have hpk : par (kid key L p) = p := by unfold par; lia
      have hd' : Desc s (kid key L p) := .kid (by rw [hpk]; exact hd) (by lia)
      refine ih (L.length - kid key L p) (by lia) (kid key L p) (L.set p (L.getD (kid key L p) 0)) (by rw [List.length_set]) (by simpa using hl) (by simpa using hn) hd' ?_
      rw [kf_set hp]
      refine hH.down hd.le hc (by lia) fun d hdd hdn => ?_
      show key (L.getD (kid key L p) 0) ≤ key (L.getD d 0)
      unfold kid
      split
      · rename_i hh
        rcases hdd with rfl | rfl
        · exact Int.not_lt.mp hh.2
        · exact Int.le_refl _
      · rename_i hh
        rcases hdd with rfl | rfl
        · exact Int.le_refl _
        · exact Int.le_of_lt (Classical.byContradiction fun q => hh ⟨by lia, q⟩)
    · exact ⟨hH, hd, by lia⟩
theorem upF_heap {key : Addr → Int} {L : List Addr} {n pos : Nat} (hn : L.length = n) (hp : pos < n) (h : HeapFrom (kf key L) n (pos + 1)) : HeapFrom (kf key (upF key L pos)) n pos := by
  obtain ⟨a, b, c, _⟩ := suF_perm (key := key) (x := L.getD pos 0) _ pos L rfl (by lia)
  obtain ⟨hH, hd, hl⟩ := suF_hole (key := key) _ pos L rfl (by lia) hn .refl (Hole.start h)
  unfold upF
  refine sdF_heap _ _ (by simp only [List.length_set]; lia) (by simp only [List.length_set]; lia) hd ?_
  rw [List.set_set, kf_set (by lia)]
  exact Up.of_leaf hH hl
/-- heapify puts all in order -/
theorem heapify_heap {key : Addr → Int} {L : List Addr} (h7 : L.length = 7) : HeapFrom (kf key (upF key (upF key (upF key L 2) 1) 0)) 7 0 := by
  have e2 := upF_length (key := key) (L := L) (pos := 2) (by lia)
  have e1 := upF_length (key := key) (L := upF key L 2) (pos := 1) (by lia)
  have h3 : HeapFrom (kf key L) 7 3 := fun i _ hn hs => by unfold par at hs; lia
  exact upF_heap (by lia) (by lia) (upF_heap (by lia) (by lia) (upF_heap h7 (by lia) h3))
/-- heappop gives the least and leaves a heap of the rest -/
theorem popF_heap {key : Addr → Int} {init : List Addr} {z : Addr} (h : HeapFrom (kf key (init ++ [z])) (init.length + 1) 0) :
    (∀ a ∈ init ++ [z], key (popF key init z).1 ≤ key a) ∧ HeapFrom (kf key (popF key init z).2) init.length 0 ∧ ((popF key init z).1 :: (popF key init z).2).Perm (init ++ [z]) := by
  have least : ∀ a ∈ init ++ [z], key ((init ++ [z]).getD 0 0) ≤ key a := fun a ha => by
    obtain ⟨i, hi, e⟩ := List.mem_iff_getElem.mp ha
    have := h.least i (by simpa using hi)
    unfold kf at this
    rw [List.getD_eq_getElem?_getD (l := init ++ [z]) (i := i), List.getElem?_eq_getElem hi] at this
    simpa [e] using this
  unfold popF
  cases init with
  | nil => exact ⟨by simpa using least, fun i _ hn => absurd hn (Nat.not_lt_zero _), List.Perm.refl _⟩
  | cons a r =>
    rw [if_neg (by simp)]
    have e0 : ((a :: r).set 0 z).length = r.length + 1 := by simp
    refine ⟨by simpa using least, upF_heap (by simp) (by simp) ?_, ?_⟩
    · intro i h0 hn hs
      have hi1 : i ≠ 0 := by lia
      have hp1 : par i ≠ 0 := by lia
      have := h i h0 (by simp at hn ⊢; lia) (Nat.zero_le _)
      have g : ∀ j, j ≠ 0 → j < (a :: r).length → kf key ((a :: r).set 0 z) j = kf key ((a :: r) ++ [z]) j := fun j hj hjl => by
        unfold kf
        rw [Pl.getD_set_ne hj]
        simp only [List.getD_eq_getElem?_getD]
        rw [List.getElem?_append_left hjl]
      rw [g i hi1 (by simpa using hn), g (par i) hp1 (by unfold par; simp at hn ⊢; lia)]
      exact this
    · refine (List.Perm.cons _ (upF_perm (by simp))).trans ?_
      simp only [List.getD_cons_zero, List.set_cons_zero, List.cons_append]
      exact List.Perm.cons _ (List.perm_append_comm (l₁ := r) (l₂ := [z])).symm
end Mine

end PH7
section PH8
theorem Mine.rs_H8 : True := by
  w_top off
  first | walk1 | trivial
open PySem PySem.W PySem.Calls PyProof.Rows
set_option Elab.async false
set_option maxRecDepth 100000
set_option pp.deepTerms false
set_option pp.deepTerms.threshold 8
namespace Mine
theorem fillKH8 : (PySem.Challenge.rw_il0068_01 = PySem.Challenge.rw_il0068_01 ∧ hd.heap_39 = hd.heap_39) := by k_fill; exact ⟨rfl, rfl⟩
section
variable {w : World} {mean : ExcName → Option Value} {mg mb : Str → Option Value} {A : Around} {s : Shared} {Q E : Value → Shared → Prop} {g : Heap} {L : Addr} {m : Str → Option Value} {news : List (Addr × Obj)} {dp un : Nat} {fr : Option (List Env)} {gd : Option (List Code)}
theorem heapify_use {hp : Addr} {n : Nat} {L0 : List Addr} {key : Addr → Int} (F : Fr g L s.heap m) (N : News g L s.heap news) (X : (hd.heap_39 w.params).In g) (T : TopM mean mg mb g) (hh : A.handled = none) (hdp : A.depth < 400) (hun : A.units < 100)
   (hm : (hp, W.listOf (L0.map Value.ref).toArray n) ∈ news) (H : Hp g key L0) (h7 : L0.length = 7)
   (ret : ∀ h' tk tl', Fr g L h' m → News g L h' tl' → Mod hp (W.listOf ((upF key (upF key (upF key L0 2) 1) 0).map Value.ref).toArray n) news tl' → Q .none { s with heap := h', toks := tk }) :
   wpAny (model prg w) A (call (.ref 84) [.ref hp]) Q E s := by
  rw [toAt hh]
  refine heapify_ok (key := key) (N.get hm) ⟨fun a ha => by obtain ⟨t, x, k, e⟩ := H.hk a ha; exact ⟨t, x, k, F.keep _ _ e⟩, H.inj, H.nd, H.len⟩ h7 ((gdOf F X T N).mono (Stp.refl _ []) (fun _ h => nomatch h) fun a ha => by rw [List.mem_singleton.mp ha]; exact List.mem_map_of_mem hm) hdp hun fun h' tk S e => ?_
  obtain ⟨tl', M⟩ := modIs hp (W.listOf ((upF key (upF key (upF key L0 2) 1) 0).map Value.ref).toArray n) news
  refine ret h' tk tl' (frMod F N S fun a ha => by rw [List.mem_singleton.mp ha]; exact List.mem_map_of_mem hm) (fun y hy => ?_) M
  rcases M.back y hy with rfl | ⟨h1, h2⟩
  · exact newsAt N hm e
  · exact newsIn N S h1 fun q => h2 (List.mem_singleton.mp q)
theorem heappop_use {hp : Addr} {n : Nat} {init : List Addr} {z : Addr} {key : Addr → Int} (F : Fr g L s.heap m) (N : News g L s.heap news) (X : (hd.heap_39 w.params).In g) (T : TopM mean mg mb g) (hh : A.handled = none) (hdp : A.depth < 400) (hun : A.units < 100)
   (hm : (hp, W.listOf ((init ++ [z]).map Value.ref).toArray n) ∈ news) (H : Hp g key (init ++ [z]))
   (ret : ∀ h' tk tl', Fr g L h' m → News g L h' tl' → Mod hp (W.listOf ((popF key init z).2.map Value.ref).toArray (n + 1)) news tl' → Q (.ref (popF key init z).1) { s with heap := h', toks := tk }) :
   wpAny (model prg w) A (call (.ref 77) [.ref hp]) Q E s := by
  rw [toAt hh]
  refine heappop_ok (key := key) (N.get hm) ⟨fun a ha => by obtain ⟨t, x, k, e⟩ := H.hk a ha; exact ⟨t, x, k, F.keep _ _ e⟩, H.inj, H.nd, H.len⟩ ((gdOf F X T N).mono (Stp.refl _ []) (fun _ h => nomatch h) fun a ha => by rw [List.mem_singleton.mp ha]; exact List.mem_map_of_mem hm) hdp hun fun h' tk S e => ?_
  obtain ⟨tl', M⟩ := modIs hp (W.listOf ((popF key init z).2.map Value.ref).toArray (n + 1)) news
  refine ret h' tk tl' (frMod F N S fun a ha => by rw [List.mem_singleton.mp ha]; exact List.mem_map_of_mem hm) (fun y hy => ?_) M
  rcases M.back y hy with rfl | ⟨h1, h2⟩
  · exact newsAt N hm e
  · exact newsIn N S h1 fun q => h2 (List.mem_singleton.mp q)
end
end Mine

end PH8
section PC3
open PySem PySem.W PySem.Calls PyProof.Rows
set_option Elab.async false
set_option maxRecDepth 100000
namespace Mine
theorem key_str {prog : Program} {w : World} {k : Str} {v : Value} (h : (PySem.strKind prog w).is k v = true) : ∃ t, v = .str k t := by
  exact Value.isStrOf_shape h
open LCg
section
variable {prog : Program} {w : World} {A : Around} {E : Value → Shared → Prop} {s : Shared} {h₀ : Heap} {L : Addr} {m : Str → Option Value} {env : Env} {news : List (Addr × Obj)}
/-- an element is reckoned; the ledger stands -/
noncomputable def CEnd (h₀ : Heap) (L : Addr) (m : Str → Option Value) (s : Shared) (tl : List (Addr × Obj)) (R : Value → Prop) (y : Value) (s₂ : Shared) : Prop :=
  ∃ h' tk nw, s₂ = { s with heap := h', toks := tk } ∧ Fr h₀ L h' m ∧ News h₀ L h' nw ∧ (∀ p ∈ tl, p ∈ nw) ∧ R y
theorem CEnd.mk' {tl nw : List (Addr × Obj)} {R : Value → Prop} {y : Value} {h' : Heap} {tk : Nat} (F : Fr h₀ L h' m) (N : News h₀ L h' nw) (hs : ∀ p ∈ tl, p ∈ nw) (r : R y) : CEnd h₀ L m s tl R y { s with heap := h', toks := tk } := ⟨h', tk, nw, rfl, F, N, hs, r⟩
noncomputable def CTurn (prog : Program) (w : World) (A : Around) (h₀ : Heap) (L : Addr) (m : Str → Option Value) (env : Env) (elt : Expr) (x : Str) (scope : Scope) (cl : List (Str × Addr)) (n : Nat) (P : Nat → Value → Prop) (Y : Nat → Value → Prop) (news : List (Addr × Obj)) (s : Shared) : Prop :=
  ∀ i v C oC m₂ h tk tl (E' : Value → Shared → Prop), i < n → P i v → NsObj oC m₂ → m₂ x = some v → (C, oC) ∈ tl → (∀ p ∈ news, p ∈ tl) → Fr h₀ L h m → News h₀ L h tl →
    wpAny (model prog w) A (eval elt (compEnvC scope cl C env)) (CEnd h₀ L m { s with heap := h, toks := tk } tl (Y i)) E' { s with heap := h, toks := tk }
theorem rest_K {elt : Expr} {x : Str} {scope : Scope} {cl : List (Str × Addr)} {n : Nat} {P Y : Nat → Value → Prop} {Fin : List Value → List (Addr × Obj) → Prop}
    (T : CTurn prog w A h₀ L m env elt x scope cl n P Y news s) (fin : ∀ ys : List Value, ys.length = n → (∀ j y, ys[j]? = some y → Y j y) → Fin ys news) :
    CompRest prog w A h₀ L m env elt x scope cl s (fun nw => nw = news) P Fin n 0 [] news := by
  have key : ∀ (k i : Nat) (ys : List Value), i + k = n → ys.length = i → (∀ j y, ys[j]? = some y → Y j y) → CompRest prog w A h₀ L m env elt x scope cl s (fun nw => nw = news) P Fin k i ys news := by
    intro k
    induction k with
    | zero => intro i ys hi hl hY; exact CompRest.zero (fin ys (by lia) hY)
    | succ k ih =>
      intro i ys hi hl hY
      refine CompRest.succ ?_
      intro v I oI C oC D m₂ h tk E' hP hC hx F N off ne
      refine wpAny_mono (T i v C oC m₂ h tk _ E' (by lia) hP hC hx (.tail _ (.head _)) (fun p hp => .tail _ (.tail _ (.tail _ hp))) F N) (fun y s₂ hy => ?_) fun _ _ e => e
      obtain ⟨h', tk', nw, rfl, F', N', hs, r⟩ := hy
      refine CompEnd.intro F' N' news hs off rfl (ih (i + 1) (ys ++ [y]) (by lia) (by rw [List.length_append, List.length_singleton, hl]) fun j z hz => ?_)
      rcases Nat.lt_or_ge j ys.length with h1 | h1
      · rw [List.getElem?_append_left h1] at hz; exact hY j z hz
      · rw [List.getElem?_append_right h1] at hz
        have : j - ys.length = 0 := by
          rcases Nat.eq_zero_or_pos (j - ys.length) with e | e
          · exact e
          · rw [List.getElem?_eq_none (by simp; lia)] at hz; cases hz
        rw [this] at hz
        cases hz
        have e : j = i := by lia
        rw [e]; exact r
  exact key n 0 [] (by lia) rfl (fun j y h => by simp at h)
/-- a source of a comprehension, behind pyIter -/
inductive CSrc (prog : Program) (w : World) (A : Around) (h₀ : Heap) (L : Addr) (m : Str → Option Value) (env : Env) (elt : Expr) (x : Str) (scope : Scope) (cl : List (Str × Addr)) (Fin : Shared → Nat → (Nat → Value → Prop) → List (Addr × Obj) → Prop) : Value → Shared → Prop
  | mk {I : Addr} {fp : List Addr} {n : Nat} {P : Nat → Value → Prop} {St : Nat → Heap → Prop} (Y : Nat → Value → Prop) (news : List (Addr × Obj)) {s₂ : Shared} (W : Walks prog w A I fp [I] n P St) (hsz : n ≤ sizeLine) (hIo : ∀ i h, St i h → ∃ o, h.get? I = some o)
    (hSt : ∀ i h h' o, St i h → h.get? I = some o → h'.get? I = some o → (∀ b o, h₀.get? b = some o → h'.get? b = some o) → News h₀ L h' news → St i h') (hst : St 0 s₂.heap) (hfp : ∀ b ∈ fp, b < s₂.heap.objs.size) (F : Fr h₀ L s₂.heap m) (N : News h₀ L s₂.heap news) (hIL : L ≠ I) (hI₀ : h₀.get? I = none) (off : ∀ p ∈ news, p.1 ≠ I)
    (T : CTurn prog w A h₀ L m env elt x scope cl n P Y news s₂) (fin : Fin s₂ n Y news) : CSrc prog w A h₀ L m env elt x scope cl Fin (.ref I) s₂
noncomputable def FinK (h₀ : Heap) (L : Addr) (m : Str → Option Value) (Q : Value → Shared → Prop) (s : Shared) (n : Nat) (Y : Nat → Value → Prop) (news : List (Addr × Obj)) : Prop :=
  ∀ D h tk (ys : List Value), ys.length = n → (∀ j y, ys[j]? = some y → Y j y) → Fr h₀ L h m → News h₀ L h ((D, lst ys) :: news) → (∀ p ∈ news, p.1 ≠ D) → Q (.ref D) { s with heap := h, toks := tk }
noncomputable def FinB (h₀ : Heap) (L : Addr) (m : Str → Option Value) (z : Str) (Q : Flow → Shared → Prop) (s : Shared) (n : Nat) (Y : Nat → Value → Prop) (news : List (Addr × Obj)) : Prop :=
  ∀ D h tk (ys : List Value), ys.length = n → (∀ j y, ys[j]? = some y → Y j y) → Fr h₀ L h (fun u => if u = z then some (.ref D) else m u) → News h₀ L h ((D, lst ys) :: news) → (∀ p ∈ news, p.1 ≠ D) → Q .next { s with heap := h, toks := tk }
theorem off1_all {D : Addr} : ∀ {l : List (Addr × Obj)}, Off1 D l → ∀ p ∈ l, p.1 ≠ D
  | [], _, _, h => nomatch h
  | _ :: _, x, p, h => by
    rcases List.mem_cons.mp h with rfl | h
    · exact x.1
    · exact off1_all x.2 p h
theorem listComp_K {elt iter : Expr} {x : Str} {px : Pos} {scope : Scope} {cl : List (Str × Addr)} {pos : Pos} {Q : Value → Shared → Prop} (_F₀ : Fr h₀ L s.heap m)
    (hclos : closureFor scope env = pure cl) (hcell : ∀ y ∈ scope.names, y.2 ≠ .cell) (hkind : scope.kind = .function)
    (hnames : ∀ y ∈ scope.names, y.2 = .local → scope.names.lookup y.1 = some .local) (hx : scope.names.lookup x = some .local)
    (h : wpAny (model prog w) A (eval iter env) (fun xv s₁ => wpAny (model prog w) A (pyIter xv) (CSrc prog w A h₀ L m env elt x scope cl (FinK h₀ L m Q)) E s₁) E s)
    (hs : ∀ x, foldedSetIterable iter env x = pure x := by intro _; rfl) :
    wpAny (model prog w) A (eval (.ListComp elt [⟨.Name x px, iter, [], 0⟩] scope pos) env) Q E s := by
  rw [eval_ListComp]
  refine wpAny_comprehension_free (use := none) rfl hs hclos hkind hnames (wpAny_mono h (fun xv s₁ h₁ => wpAny_mono h₁ (fun it s₂ h₂ => ?_) fun _ _ e => e) fun _ _ e => e)
  obtain @⟨I, fp, n, P, St, Y, news, s₂, W, hsz, hIo, hSt, hst, hfp, F, N, hIL, hI₀, off, T, fin⟩ := h₂
  refine block_U (S := fun nw => nw = news) W hsz hIo (fun i h h' o nw st e e' k N' hn => hSt i h h' o st e e' k (hn ▸ N')) hcell hkind hx hst hfp F N hIL hI₀ off rfl (rest_K (Fin := fun ys nw => nw = news ∧ ys.length = n ∧ ∀ j y, ys[j]? = some y → Y j y) T fun ys hl hY => ⟨rfl, hl, hY⟩) ?_
  rintro D C h' tk m' ys nw F' N' o1 hn hC₀ hD₀ hCL hDL hDC offC ⟨rfl, hl, hY⟩
  refine ⟨m', hn, fun h'' hs'' => fin D h'' tk ys hl hY (F'.change hs'' hCL hC₀) (fun p hp => ?_) (off1_all o1)⟩
  refine ⟨hs''.extBut _ _ ?_ (N' p hp).1, (N' p hp).2⟩
  rcases List.mem_cons.mp hp with rfl | hp
  · exact Ne.symm hDC
  · exact offC p hp
theorem assignComp_K {elt iter : Expr} {x z : Str} {px pz : Pos} {scope : Scope} {cl : List (Str × Addr)} {pos spos : Pos} {Q : Flow → Shared → Prop} (_F₀ : Fr h₀ L s.heap m) (hLe : env.locals = L)
    (hsw : swapsWith (.ListComp elt [⟨.Name x px, iter, [], 0⟩] scope pos) (some (.Name z pz)) spos.line env = pure true)
    (hclos : closureFor scope env = pure cl) (hcell : ∀ y ∈ scope.names, y.2 ≠ .cell) (hkind : scope.kind = .function)
    (hnames : ∀ y ∈ scope.names, y.2 = .local → scope.names.lookup y.1 = some .local) (hx : scope.names.lookup x = some .local)
    (hy : env.kindOf z = some .local) (hp : (env.scope.kind == .class || (env.scope.kind == .module && env.locals != env.globals)) = false)
    (h : wpAny (model prog w) A (eval iter env) (fun xv s₁ => wpAny (model prog w) A (pyIter xv) (CSrc prog w A h₀ L m env elt x scope cl (FinB h₀ L m z Q)) E s₁) E s)
    (hs : ∀ x, foldedSetIterable iter env x = pure x := by intro _; rfl) :
    wpAny (model prog w) A (exec (.Assign [.Name z pz] (.ListComp elt [⟨.Name x px, iter, [], 0⟩] scope pos) spos) env) Q E s := by
  subst hLe
  rw [exec_Assign_Name_used _ _ _ _ hsw]
  refine wpAny_bind (wpAny_standAt (wpAny_bind ?_))
  show wpAny _ A (do let _ ← comprehension (.ListComp elt [⟨.Name x px, iter, [], 0⟩] scope pos) scope env _ (newList []) false (eval iter env) (some (assign (.Name z pz) env))) _ _ s
  refine wpAny_bind (wpAny_mono (wpAny_comprehension_free (use := some (assign (.Name z pz) env)) (Q := fun _ s' => Q .next s') rfl hs hclos hkind hnames
    (wpAny_mono h (fun xv s₁ h₁ => wpAny_mono h₁ (fun it s₂ h₂ => ?_) fun _ _ e => e) fun _ _ e => e)) (fun _ s' hq => wpAny_pure (wpAny_pure hq)) fun _ _ e => e)
  obtain @⟨I, fp, n, P, St, Y, news, s₂, W, hsz, hIo, hSt, hst, hfp, F, N, hIL, hI₀, off, T, fin⟩ := h₂
  refine block_U (S := fun nw => nw = news) W hsz hIo (fun i h h' o nw st e e' k N' hn => hSt i h h' o st e e' k (hn ▸ N')) hcell hkind hx hst hfp F N hIL hI₀ off rfl (rest_K (Fin := fun ys nw => nw = news ∧ ys.length = n ∧ ∀ j y, ys[j]? = some y → Y j y) T fun ys hl hY => ⟨rfl, hl, hY⟩) ?_
  rintro D C h' tk m' ys nw F' N' o1 hn hC₀ hD₀ hCL hDL hDC offC ⟨rfl, hl, hY⟩
  show wpAny _ A (assign (.Name z pz) env (.ref D)) _ _ _
  refine wpAny_assign_Name (wpAny_storeName_local hy F'.ns (fun h₂ hn₂ hs₂ => ?_) hp)
  have hL₀ : h₀.get? env.locals = none := Heap.get?_none_of_le F'.above
  have F₂ : Fr h₀ env.locals h₂ (fun u => if u = z then some (.ref D) else m u) := ⟨hn₂, fun b o e => hs₂.extBut b o (fun q => by rw [q, hL₀] at e; cases e) (F'.keep b o e), F'.above⟩
  refine ⟨m', hn.sameBut hs₂ hCL, fun h'' hs'' => fin D h'' _ ys hl hY (F₂.change hs'' hCL hC₀) (fun p hp => ?_) (off1_all o1)⟩
  have q : h₂.get? p.1 = some p.2 := hs₂.extBut _ _ (N' p hp).2.1 (N' p hp).1
  refine ⟨hs''.extBut _ _ ?_ q, (N' p hp).2⟩
  rcases List.mem_cons.mp hp with rfl | hp
  · exact Ne.symm hDC
  · exact offC p hp
section
variable {elt : Expr} {x : Str} {scope : Scope} {cl : List (Str × Addr)} {Fin : Shared → Nat → (Nat → Value → Prop) → List (Addr × Obj) → Prop}
theorem csrc_tuple {ax : Addr} {o : Obj} {its : Array Value} {k : Nat} (Y : Nat → Value → Prop) (hh : A.handled = none) (F : Fr h₀ L s.heap m) (N : News h₀ L s.heap news) (hm : (ax, o) ∈ news ∨ h₀.get? ax = some o) (ho : o = { cls := .type "tuple", data := .seq its k }) (hsz : its.size ≤ sizeLine)
    (T : ∀ g, CTurn prog w A h₀ L m env elt x scope cl its.size (fun i v => its[i]? = some v) Y news { s with heap := g }) (fin : ∀ g, Fin { s with heap := g } its.size Y news) :
    wpAny (model prog w) A (pyIter (.ref ax)) (CSrc prog w A h₀ L m env elt x scope cl Fin) E s := by
  subst ho
  have at' : ∀ h', (∀ b o, h₀.get? b = some o → h'.get? b = some o) → News h₀ L h' news → h'.IsTuple ax its := fun h' k N' => by
    rcases hm with hm | hm
    · exact ⟨_, N'.get hm, rfl, _, rfl⟩
    · exact ⟨_, k _ _ hm, rfl, _, rfl⟩
  have hl := at' _ F.keep N
  have hlt : ax < s.heap.objs.size := by obtain ⟨_, e, _⟩ := hl; exact Heap.lt_size e
  refine wpAny_pyIter_tuple hl ?_
  have up : ∀ (ob : Obj) b o, s.heap.get? b = some o → (s.heap.push ob).get? b = some o := fun ob b o e => Heap.get?_push_of_some _ e
  refine ⟨Y, news, Walks.tuple hh s.heap.objs.size ax (Nat.ne_of_lt hlt) its, hsz, fun i h st => by obtain ⟨o, e, _⟩ := st.1; exact ⟨o, e⟩, fun i h h' o st e e' k N' => ⟨by obtain ⟨o', q, r⟩ := st.1; rw [e] at q; cases q; exact ⟨o, e', r⟩, at' h' k N'⟩,
    ⟨⟨_, Heap.get?_push_size _ rfl, rfl, rfl⟩, hl.at (up _ ax)⟩, fun b hb => ?_, F.keeps (up _), N.grown (up _), Nat.ne_of_lt F.ns.lt, next_is_new F, fun p hp => Nat.ne_of_lt (Heap.lt_size (N p hp).1), T _, fin _⟩
  show b < (s.heap.push _).objs.size
  rw [Heap.size_push]
  rcases List.mem_cons.mp hb with rfl | hb
  · exact Nat.lt_succ_self _
  · rw [List.mem_singleton.mp hb]; exact Nat.lt_succ_of_lt hlt
theorem csrc_dict {d : Addr} {o : Obj} {kvs : List (Str × Value)} (Y : Nat → Value → Prop) (hh : A.handled = none) (F : Fr h₀ L s.heap m) (N : News h₀ L s.heap news) (hlow : (d == sysModules) = false) (hm : (d, o) ∈ news) (ho : o.IsDictOf (PySem.strKind prog w) kvs) (hsz : kvs.length ≤ sizeLine)
    (T : ∀ g, CTurn prog w A h₀ L m env elt x scope cl kvs.length (fun i v => ∃ k y t, kvs[i]? = some (k, y) ∧ v = .str k t) Y news { s with heap := g }) (fin : ∀ g, Fin { s with heap := g } kvs.length Y news) :
    wpAny (model prog w) A (pyIter (.ref d)) (CSrc prog w A h₀ L m env elt x scope cl Fin) E s := by
  obtain ⟨ep, hD⟩ := (Heap.dictOf_iff.mpr ⟨o, N.get hm, ho⟩ : s.heap.DictOf (PySem.strKind prog w) d kvs).dictAt
  have hlt : d < s.heap.objs.size := hD.lt_size
  have at' : ∀ h', News h₀ L h' news → h'.DictAt (PySem.strKind prog w) d kvs ep := fun h' N' => hD.at' fun o' e => by
    rw [N.get hm] at e; cases e; exact N'.get hm
  refine wpAny_pyIter_dict hlow hD ?_
  have up : ∀ (ob : Obj) b o, s.heap.get? b = some o → (s.heap.push ob).get? b = some o := fun ob b o e => Heap.get?_push_of_some _ e
  refine ⟨Y, news, (Walks.dictKeys (knd := PySem.strKind prog w) hh s.heap.objs.size d (Nat.ne_of_lt hlt) kvs ep).weaken fun i v hv => ?_, hsz, fun i h st => by obtain ⟨o, e, _⟩ := st.1; exact ⟨o, e⟩, fun i h h' o st e e' k N' => ⟨by obtain ⟨o', q, r⟩ := st.1; rw [e] at q; cases q; exact ⟨o, e', r⟩, at' h' N'⟩,
    ⟨⟨_, Heap.get?_push_size _ rfl, rfl, rfl⟩, hD.at' (up _ d)⟩, fun b hb => ?_, F.keeps (up _), N.grown (up _), Nat.ne_of_lt F.ns.lt, next_is_new F, fun p hp => Nat.ne_of_lt (Heap.lt_size (N p hp).1), T _, fin _⟩
  · obtain ⟨k, y, e, hk⟩ := hv
    obtain ⟨t, rfl⟩ := key_str hk
    exact ⟨k, y, t, e, rfl⟩
  · show b < (s.heap.push _).objs.size
    rw [Heap.size_push]
    rcases List.mem_cons.mp hb with rfl | hb
    · exact Nat.lt_succ_self _
    · rw [List.mem_singleton.mp hb]; exact Nat.lt_succ_of_lt hlt
end
end
end Mine

end PC3
section PC4
open PySem PySem.W PySem.Calls PyProof.Rows
set_option Elab.async false
set_option maxRecDepth 100000
namespace Mine
inductive Picked (p : Nat → Bool) (Y : Nat → Value → Prop) : Nat → List Value → Prop
  | nil : Picked p Y 0 []
  | yes {n ys y} : Picked p Y n ys → p n = true → Y n y → Picked p Y (n + 1) (ys ++ [y])
  | no {n ys} : Picked p Y n ys → p n = false → Picked p Y (n + 1) ys
open LCg LCt
section
variable {prog : Program} {w : World} {A : Around} {E : Value → Shared → Prop} {s : Shared} {h₀ : Heap} {L : Addr} {m : Str → Option Value} {env : Env} {news : List (Addr × Obj)}
noncomputable def CTurnT (prog : Program) (w : World) (A : Around) (h₀ : Heap) (L : Addr) (m : Str → Option Value) (env : Env) (ct elt : Expr) (x : Str) (scope : Scope) (cl : List (Str × Addr)) (n : Nat) (P : Nat → Value → Prop) (p : Nat → Bool) (Y : Nat → Value → Prop) (news : List (Addr × Obj)) (s : Shared) : Prop :=
  ∀ i v C oC m₂ h tk tl (E' : Value → Shared → Prop), i < n → P i v → NsObj oC m₂ → m₂ x = some v → (C, oC) ∈ tl → (∀ q ∈ news, q ∈ tl) → Fr h₀ L h m → News h₀ L h tl →
    wpAny (model prog w) A (isTrue ct (compEnvC scope cl C env) (eval ct (compEnvC scope cl C env))) (fun ok s' => ok = p i ∧ if ok = true then wpAny (model prog w) A (eval elt (compEnvC scope cl C env)) (CEnd h₀ L m { s with heap := h, toks := tk } tl (Y i)) E' s' else CEnd h₀ L m { s with heap := h, toks := tk } tl (fun _ => True) Value.none s') E' { s with heap := h, toks := tk }
theorem rest_T {ct elt : Expr} {x : Str} {scope : Scope} {cl : List (Str × Addr)} {n : Nat} {P Y : Nat → Value → Prop} {p : Nat → Bool} {Fin : List Value → List (Addr × Obj) → Prop}
    (T : CTurnT prog w A h₀ L m env ct elt x scope cl n P p Y news s) (fin : ∀ ys : List Value, Picked p Y n ys → Fin ys news) :
    CompRestT prog w A h₀ L m env ct elt x scope cl s (fun nw => nw = news) P Fin n 0 [] news := by
  have key : ∀ (k i : Nat) (ys : List Value), i + k = n → Picked p Y i ys → CompRestT prog w A h₀ L m env ct elt x scope cl s (fun nw => nw = news) P Fin k i ys news := by
    intro k
    induction k with
    | zero => intro i ys hi hY; obtain rfl : i = n := by lia
              exact CompRestT.zero (fin ys hY)
    | succ k ih =>
      intro i ys hi hY
      refine CompRestT.succ ?_
      intro v I oI C oC D m₂ h tk E' hP hC hx F N off ne
      refine wpAny_mono (T i v C oC m₂ h tk _ E' (by lia) hP hC hx (.tail _ (.head _)) (fun p hp => .tail _ (.tail _ (.tail _ hp))) F N) (fun ok s₂ hy => ?_) fun _ _ e => e
      obtain ⟨hok, hy⟩ := hy
      cases ok with
      | true =>
        rw [if_pos rfl] at hy ⊢
        refine wpAny_mono hy (fun y s₃ hz => ?_) fun _ _ e => e
        obtain ⟨h', tk', nw, rfl, F', N', hs, r⟩ := hz
        exact CompEnd.intro F' N' news hs off rfl (ih (i + 1) (ys ++ [y]) (by lia) (.yes hY hok.symm r))
      | false =>
        rw [if_neg Bool.false_ne_true] at hy ⊢
        obtain ⟨h', tk', nw, rfl, F', N', hs, r⟩ := hy
        exact CompEnd.intro F' N' news hs off rfl (ih (i + 1) ys (by lia) (.no hY hok.symm))
  exact key n 0 [] (by lia) .nil
inductive CSrcT (prog : Program) (w : World) (A : Around) (h₀ : Heap) (L : Addr) (m : Str → Option Value) (env : Env) (ct elt : Expr) (x : Str) (scope : Scope) (cl : List (Str × Addr)) (Fin : Shared → Nat → (Nat → Bool) → (Nat → Value → Prop) → List (Addr × Obj) → Prop) : Value → Shared → Prop
  | mk {I : Addr} {fp : List Addr} {n : Nat} {P : Nat → Value → Prop} {St : Nat → Heap → Prop} (p : Nat → Bool) (Y : Nat → Value → Prop) (news : List (Addr × Obj)) {s₂ : Shared} (W : Walks prog w A I fp [I] n P St) (hsz : n ≤ sizeLine) (hIo : ∀ i h, St i h → ∃ o, h.get? I = some o)
    (hSt : ∀ i h h' o, St i h → h.get? I = some o → h'.get? I = some o → (∀ b o, h₀.get? b = some o → h'.get? b = some o) → News h₀ L h' news → St i h') (hst : St 0 s₂.heap) (hfp : ∀ b ∈ fp, b < s₂.heap.objs.size) (F : Fr h₀ L s₂.heap m) (N : News h₀ L s₂.heap news) (hIL : L ≠ I) (hI₀ : h₀.get? I = none) (off : ∀ p ∈ news, p.1 ≠ I)
    (T : CTurnT prog w A h₀ L m env ct elt x scope cl n P p Y news s₂) (fin : Fin s₂ n p Y news) : CSrcT prog w A h₀ L m env ct elt x scope cl Fin (.ref I) s₂
noncomputable def FinTB (h₀ : Heap) (L : Addr) (m : Str → Option Value) (z : Str) (Q : Flow → Shared → Prop) (s : Shared) (n : Nat) (p : Nat → Bool) (Y : Nat → Value → Prop) (news : List (Addr × Obj)) : Prop :=
  ∀ D h tk (ys : List Value), Picked p Y n ys → Fr h₀ L h (fun u => if u = z then some (.ref D) else m u) → News h₀ L h ((D, lst ys) :: news) → (∀ p ∈ news, p.1 ≠ D) → Q .next { s with heap := h, toks := tk }
theorem assignTest_K {ct elt iter : Expr} {x z : Str} {px pz : Pos} {scope : Scope} {cl : List (Str × Addr)} {pos spos : Pos} {Q : Flow → Shared → Prop} (_F₀ : Fr h₀ L s.heap m) (hLe : env.locals = L)
    (hsw : swapsWith (.ListComp elt [⟨.Name x px, iter, [ct], 0⟩] scope pos) (some (.Name z pz)) spos.line env = pure true)
    (hclos : closureFor scope env = pure cl) (hcell : ∀ y ∈ scope.names, y.2 ≠ .cell) (hkind : scope.kind = .function)
    (hnames : ∀ y ∈ scope.names, y.2 = .local → scope.names.lookup y.1 = some .local) (hx : scope.names.lookup x = some .local)
    (hy : env.kindOf z = some .local) (hp : (env.scope.kind == .class || (env.scope.kind == .module && env.locals != env.globals)) = false)
    (h : wpAny (model prog w) A (eval iter env) (fun xv s₁ => wpAny (model prog w) A (pyIter xv) (CSrcT prog w A h₀ L m env ct elt x scope cl (FinTB h₀ L m z Q)) E s₁) E s)
    (hs : ∀ x, foldedSetIterable iter env x = pure x := by intro _; rfl) :
    wpAny (model prog w) A (exec (.Assign [.Name z pz] (.ListComp elt [⟨.Name x px, iter, [ct], 0⟩] scope pos) spos) env) Q E s := by
  subst hLe
  rw [exec_Assign_Name_used _ _ _ _ hsw]
  refine wpAny_bind (wpAny_standAt (wpAny_bind ?_))
  show wpAny _ A (do let _ ← comprehension (.ListComp elt [⟨.Name x px, iter, [ct], 0⟩] scope pos) scope env _ (newList []) false (eval iter env) (some (assign (.Name z pz) env))) _ _ s
  refine wpAny_bind (wpAny_mono (wpAny_comprehension_free (use := some (assign (.Name z pz) env)) (Q := fun _ s' => Q .next s') rfl hs hclos hkind hnames
    (wpAny_mono h (fun xv s₁ h₁ => wpAny_mono h₁ (fun it s₂ h₂ => ?_) fun _ _ e => e) fun _ _ e => e)) (fun _ s' hq => wpAny_pure (wpAny_pure hq)) fun _ _ e => e)
  obtain @⟨I, fp, n, P, St, p, Y, news, s₂, W, hsz, hIo, hSt, hst, hfp, F, N, hIL, hI₀, off, T, fin⟩ := h₂
  refine block_T (S := fun nw => nw = news) W hsz hIo (fun i h h' o nw st e e' k N' hn => hSt i h h' o st e e' k (hn ▸ N')) hcell hkind hx hst hfp F N hIL hI₀ off rfl (rest_T (Fin := fun ys nw => nw = news ∧ Picked p Y n ys) T fun ys hY => ⟨rfl, hY⟩) ?_
  rintro D C h' tk m' ys nw F' N' o1 hn hC₀ hD₀ hCL hDL hDC offC ⟨rfl, hY⟩
  show wpAny _ A (assign (.Name z pz) env (.ref D)) _ _ _
  refine wpAny_assign_Name (wpAny_storeName_local hy F'.ns (fun h₂ hn₂ hs₂ => ?_) hp)
  have hL₀ : h₀.get? env.locals = none := Heap.get?_none_of_le F'.above
  have F₂ : Fr h₀ env.locals h₂ (fun u => if u = z then some (.ref D) else m u) := ⟨hn₂, fun b o e => hs₂.extBut b o (fun q => by rw [q, hL₀] at e; cases e) (F'.keep b o e), F'.above⟩
  refine ⟨m', hn.sameBut hs₂ hCL, fun h'' hs'' => fin D h'' _ ys hY (F₂.change hs'' hCL hC₀) (fun p hp => ?_) (off1_all o1)⟩
  have q : h₂.get? p.1 = some p.2 := hs₂.extBut _ _ (N' p hp).2.1 (N' p hp).1
  refine ⟨hs''.extBut _ _ ?_ q, (N' p hp).2⟩
  rcases List.mem_cons.mp hp with rfl | hp
  · exact Ne.symm hDC
  · exact offC p hp
theorem csrcT_str {ct elt : Expr} {x : Str} {scope : Scope} {cl : List (Str × Addr)} {Fin : Shared → Nat → (Nat → Bool) → (Nat → Value → Prop) → List (Addr × Obj) → Prop} {y : Str} {t : Tok} (p : Nat → Bool) (Y : Nat → Value → Prop) (hh : A.handled = none) (ha : y.cps.all (· < 128) = true) (F : Fr h₀ L s.heap m) (N : News h₀ L s.heap news) (hsz : y.cps.size ≤ sizeLine)
    (T : ∀ g, CTurnT prog w A h₀ L m env ct elt x scope cl y.cps.size (SignAt y) p Y news { s with heap := g }) (fin : ∀ g, Fin { s with heap := g } y.cps.size p Y news) :
    wpAny (model prog w) A (pyIter (.str y t)) (CSrcT prog w A h₀ L m env ct elt x scope cl Fin) E s := by
  refine wpAny_pyIter_ascii ha ?_
  have up : ∀ (ob : Obj) b o, s.heap.get? b = some o → (s.heap.push ob).get? b = some o := fun ob b o e => Heap.get?_push_of_some _ e
  refine ⟨p, Y, news, Walks.strAscii hh s.heap.objs.size y t, hsz, fun i h st => by obtain ⟨o, e, _⟩ := st; exact ⟨o, e⟩, fun i h h' o st e e' k N' => by obtain ⟨o', q, r⟩ := st; rw [e] at q; cases q; exact ⟨o, e', r⟩,
    ⟨_, Heap.get?_push_size _ rfl, rfl, rfl⟩, fun b hb => ?_, F.keeps (up _), N.grown (up _), Nat.ne_of_lt F.ns.lt, next_is_new F, fun p hp => Nat.ne_of_lt (Heap.lt_size (N p hp).1), T _, fin _⟩
  show b < (s.heap.push _).objs.size
  rw [Heap.size_push, List.mem_singleton.mp hb]
  exact Nat.lt_succ_self _
end
end Mine

end PC4
section PC5
open PySem PySem.W PySem.Calls PyProof.Rows
set_option Elab.async false
set_option maxRecDepth 100000
namespace Mine
open LCg
section
variable {prog : Program} {w : World} {A : Around} {E : Value → Shared → Prop} {s : Shared} {h₀ : Heap} {L : Addr} {m : Str → Option Value} {env : Env} {news : List (Addr × Obj)}
/-- the variable of a block -/
theorem nsName {x : Str} {pos : Pos} {scope : Scope} {cl : List (Str × Addr)} {C : Addr} {m₂ : Str → Option Value} {v : Value} {Q : Value → Shared → Prop} (hn : s.heap.Ns C m₂) (hm : m₂ x = some v) (h : Q v s)
    (hk : (compEnvC scope cl C env).scope.kind = .function := by rfl) (hl : (compEnvC scope cl C env).kindOf x = some .local := by rfl) (hd : (x == ("__debug__" : Str)) = false := by decide) :
    wpAny (model prog w) A (eval (.Name x pos) (compEnvC scope cl C env)) Q E s := ldVarK hn hm h hk hl hd
theorem storedAll_at {V : Str → Value → Prop} {l : List Value} {kvs : List (Str × Value)} (h : StoredAll (fun v k => ∃ t, v = .str k t) (fun v y => ∃ k t, v = .str k t ∧ V k y) l kvs) :
    ∀ k t, Value.str k t ∈ l → ∃ y, valueAt kvs k = some y ∧ V k y := by
  induction h with
  | nil => intro k t hm; cases hm
  | @snoc l kvs v k y _ hk hv ih =>
    intro k' t' hm
    obtain ⟨t, rfl⟩ := hk
    obtain ⟨k2, t2, e, hV⟩ := hv
    cases e
    by_cases hkk : k' = k
    · subst hkk; exact ⟨y, stored_at, hV⟩
    · rcases List.mem_append.mp hm with hm | hm
      · rw [stored_other hkk]; exact ih k' t' hm
      · cases List.mem_singleton.mp hm; exact absurd rfl hkk
noncomputable def DEnd (V : Value → Prop) (s₃ : Shared) (y : Value) (s₄ : Shared) : Prop := V y ∧ ∃ tk, s₄ = { s₃ with toks := tk }
theorem DEnd.mk' {V : Value → Prop} {y : Value} {tk : Nat} (h : V y) : DEnd V s y { s with toks := tk } := ⟨h, _, rfl⟩
inductive DSrc (prog : Program) (w : World) (A : Around) (h₀ : Heap) (L : Addr) (m : Str → Option Value) (env : Env) (vx : Expr) (x : Str) (scope : Scope) (cl : List (Str × Addr)) (V : Str → Value → Prop) (Q : Value → Shared → Prop) : Value → Shared → Prop
  | str {src : Str} {t : Tok} {news : List (Addr × Obj)} {s : Shared} (hh : A.handled = none) (ha : src.cps.all (· < 128) = true) (hz : src.cps.size ≤ sizeLine) (F : Fr h₀ L s.heap m) (N : News h₀ L s.heap news)
    (turn : ∀ c C m₂ u s₃ E', src.cps.contains c = true → s₃.heap.Ns C m₂ → m₂ x = some (.str ⟨#[c]⟩ u) → Fr h₀ L s₃.heap m → News h₀ L s₃.heap news →
        wpAny (model prog w) A (eval vx (compEnvC scope cl C env)) (DEnd (V ⟨#[c]⟩) s₃) E' s₃)
    (done : ∀ D o kvs h' tk, Fr h₀ L h' m → News h₀ L h' ((D, o) :: news) → (∀ p ∈ news, p.1 ≠ D) → o.IsDictOf (PySem.strKind prog w) kvs → (∀ c, src.cps.contains c = true → ∃ y, valueAt kvs ⟨#[c]⟩ = some y ∧ V ⟨#[c]⟩ y) → Q (.ref D) { s with heap := h', toks := tk }) :
    DSrc prog w A h₀ L m env vx x scope cl V Q (.str src t) s
/-- {x: elt for x in 'letters'}, an element that changes nothing -/
theorem dictComp_K {x : Str} {px pk : Pos} {vx iter : Expr} {scope : Scope} {cl : List (Str × Addr)} {pos : Pos} {Q : Value → Shared → Prop} (V : Str → Value → Prop) (_F₀ : Fr h₀ L s.heap m)
    (hclos : closureFor scope env = pure cl) (hcell : ∀ y ∈ scope.names, y.2 ≠ .cell) (hkind : scope.kind = .function)
    (hnames : ∀ y ∈ scope.names, y.2 = .local → scope.names.lookup y.1 = some .local) (hx : scope.names.lookup x = some .local)
    (h : wpAny (model prog w) A (eval iter env) (DSrc prog w A h₀ L m env vx x scope cl V Q) E s)
    (hs : ∀ x, foldedSetIterable iter env x = pure x := by intro _; rfl) (hd : (x == ("__debug__" : Str)) = false := by decide) :
    wpAny (model prog w) A (eval (.DictComp (.Name x pk) vx [⟨.Name x px, iter, [], 0⟩] scope pos) env) Q E s := by
  refine wpAny_DictComp_free (PySem.strKind prog w) (fun _ => true) (fun v k => ∃ t, v = .str k t) (fun v y => ∃ k t, v = .str k t ∧ V k y) hclos hcell hkind hnames hx (wpAny_mono h (fun xv s₁ h₁ => ?_) fun _ _ e => e) hs
  obtain @⟨src, t, news, s₁, hh, ha, hsz, F, N, T, fin⟩ := h₁
  refine wpAny_pyIter_ascii ha ?_
  have up : ∀ (ob : Obj) b o, s₁.heap.get? b = some o → (s₁.heap.push ob).get? b = some o := fun ob b o e => Heap.get?_push_of_some _ e
  have up1 : ∀ (ob : Obj) (h' : Heap), (∀ b o, b ∉ [s₁.heap.objs.size] → (s₁.heap.push ob).get? b = some o → h'.get? b = some o) → ∀ b o, s₁.heap.get? b = some o → h'.get? b = some o := fun ob h' hk b o e =>
    hk b o (fun hm => by rw [List.mem_singleton.mp hm] at e; exact Nat.lt_irrefl _ (Heap.lt_size e)) (up _ b o e)
  have cont : ∀ {i c}, src.cps[i]? = some c → src.cps.contains c = true := fun {i c} e => by
    rw [Array.contains_iff_mem]; exact Array.mem_of_getElem? e
  refine ⟨s₁.heap.objs.size, _, _, src.cps.size, _, _, rfl, Walks.strAscii hh s₁.heap.objs.size src t, hsz, ⟨_, Heap.get?_push_size _ rfl, rfl, rfl⟩, fun b hb => ?_, ⟨?_, ?_, ?_⟩, ?_⟩
  · show b < (s₁.heap.push _).objs.size
    rw [Heap.size_push, List.mem_singleton.mp hb]
    exact Nat.lt_succ_self _
  · intro C i v s₃ m₃ E' hP hn hm hk
    exact wpAny_pure ⟨rfl, _, _, rfl, fun _ _ e => e⟩
  · intro C i v s₃ m₃ E' hP hp hn hm hk
    obtain ⟨c, u, hc, rfl⟩ := hP
    exact ldVarK hn hm ⟨⟨_, by exact strKind_is prog w _ _, u, rfl⟩, _, _, rfl, fun _ _ e => e⟩ (by simp [compEnvC, relabel, hkind]) (lookup_relabel_local hx) hd
  · intro C i v s₃ m₃ E' hP hp hn hm hk
    obtain ⟨c, u, hc, rfl⟩ := hP
    have k1 := up1 _ _ hk
    refine wpAny_mono (T c C m₃ u s₃ E' (cont hc) hn hm (F.keeps k1) (N.grown k1)) (fun y s₄ hy => ?_) fun _ _ e => e
    obtain ⟨hV, tk, rfl⟩ := hy
    exact ⟨⟨⟨#[c]⟩, u, rfl, hV⟩, _, _, rfl, fun _ _ e => e⟩
  · intro D h' tk kvs vs hD hl hlen hP hS hk
    have k1 := up1 _ _ hk
    obtain ⟨o, ho, hod⟩ := Heap.dictOf_iff.mp hl
    have hD1 : s₁.heap.get? D = none := by
      cases q : s₁.heap.get? D with
      | none => rfl
      | some o' => rw [up _ _ _ q] at hD; cases hD
    refine fin D o kvs h' tk (F.keeps k1) (fun p hp => ?_) (fun p hp e => by have := (N p hp).1; rw [e, hD1] at this; cases this) hod ?_
    · rcases List.mem_cons.mp hp with rfl | hp
      · refine ⟨ho, fun q => ?_, ?_⟩
        · obtain ⟨o, _, _, ho, _⟩ := F.ns
          dsimp only at q
          rw [q] at hD1
          rw [hD1] at ho; cases ho
        · cases q : h₀.get? D with
          | none => rfl
          | some o => rw [F.keep _ _ q] at hD1; cases hD1
      · exact N.grown k1 p hp
    · intro c hc
      have hf : vs.filter (fun _ => true) = vs := by simp
      rw [hf] at hS
      rw [Array.contains_iff_mem] at hc
      obtain ⟨i, hi, e⟩ := Array.mem_iff_getElem.mp hc
      have hlt : i < vs.length := by lia
      obtain ⟨c', u, hc', hv⟩ := hP i vs[i] (by simp [hlt])
      rw [Array.getElem?_eq_getElem hi, e] at hc'
      cases hc'
      exact storedAll_at hS _ u (by rw [← hv]; exact List.getElem_mem _)
end
end Mine

end PC5
section PK0
open PySem PySem.W PySem.Calls PyProof.Rows
set_option Elab.async false
set_option maxRecDepth 100000
set_option pp.deepTerms false
set_option pp.deepTerms.threshold 8
namespace Mine
open Pl (R krus krus_snoc keepR joinF HeapFrom)
section
variable {w : World} {mean : ExcName → Option Value} {mg mb : Str → Option Value} {A : Around} {s : Shared} {Q E : Value → Shared → Prop} {g : Heap} {L : Addr} {m : Str → Option Value} {news tl : List (Addr × Obj)} {h h' : Heap}
/-- a cell's name is stored: the ledger turned at one place -/
theorem storeCT {M : Model} {E : Value → Shared → Prop} {cn x : Str} {cs : Scope} {a c : Addr} {ccd : Value} {cl : List (Str × Addr)} {o : Obj} {v : Value} {v₀ : Option Value} {Q : Unit → Shared → Prop} (F : Fr g L s.heap m) (N : News g L s.heap tl) (hc : cl.lookup x = some c) (hm : (c, o) ∈ tl) (hd : o.data = .cell v₀)
    (ret : ∀ h' o' tl', Fr g L h' m → News g L h' tl' → Mod c o' tl tl' → o'.data = .cell (some v) → Q () { s with heap := h' })
    (hk : cs.kind = .function := by rfl) (hx : (envX cn cs L a ccd cl).kindOf x = some .cell := by rfl) : wpAny M A (storeName (envX cn cs L a ccd cl) x v) Q E s := by
  refine wpAny_storeName_cell hk hx hc ⟨o, N.get hm, hd⟩ fun h' hv hs => ?_
  obtain ⟨o', ho', hd'⟩ := hv
  obtain ⟨tl', M⟩ := modIs c o' tl
  exact ret h' o' tl' (frOne F N hm hs) (newsOne N hm hs ho' M) M hd'
/-- two addresses with two objects are two -/
theorem neObj {a b : Addr} {o o' : Obj} (N : News g L h tl) (h1 : (a, o) ∈ tl) (h2 : (b, o') ∈ tl) (ho : o ≠ o') : a ≠ b := fun e => by
  subst e; exact ho (newsOneObj N h1 h2)
end
theorem nilOrSnoc {α : Type} (l : List α) : l = [] ∨ ∃ i z, l = i ++ [z] := by
  rcases List.eq_nil_or_concat l with h | ⟨i, z, h⟩
  · exact .inl h
  · exact .inr ⟨i, z, by rw [h, List.concat_eq_append]⟩
theorem Hp.sub {g : Heap} {key : Addr → Int} {L0 : List Addr} (H : Hp g key L0) (L1 : List Addr) (hs : ∀ a ∈ L1, a ∈ L0) (hn : L1.Nodup) (hl : L1.length < 500) : Hp g key L1 := ⟨fun a h => H.hk a (hs a h), fun a ha b hb => H.inj a (hs a ha) b (hs b hb), hn, hl⟩
theorem modSet {g h : Heap} {L d : Addr} {o o' : Obj} {rest tl' : List (Addr × Obj)} (N : News g L h tl') (M : Mod d o' ((d, o) :: rest) tl') (hn : ∀ p ∈ rest, p.1 ≠ d) : News g L h ((d, o') :: rest) := newsSub N fun p hp => by
  rcases List.mem_cons.mp hp with rfl | hp
  · exact M.new
  · exact M.old _ (.tail _ hp) (hn p hp)
noncomputable def toR (r : Rule) : R := ⟨1000000 - r.reach, r.o, r.t, r.i⟩
noncomputable def roadR (r : R) : Str := rd r.o r.t r.i
/-- the roads in the order of their ranks -/
noncomputable def Srt (all : List Rule) (l : List R) : Prop := l.Perm (all.map toR) ∧ l.Pairwise fun a b => a.rank < b.rank
structure RD (g : Heap) (rl : Addr → Rule) (L0 : List Addr) : Prop where
  at' : ∀ a ∈ L0, ∃ t t', g.get? a = some { cls := .type "tuple", data := .seq #[.int (1000000 - (rl a).reach) t, .str (rl a).road t'] }
  ok : ∀ a ∈ L0, (rl a).Ok
  inj : ∀ a ∈ L0, ∀ b ∈ L0, (rl a).reach = (rl b).reach → a = b
  nd : L0.Nodup
noncomputable def addrOf : Value → Addr
  | .ref a => a
  | _ => 0
theorem nodup_get {α : Type} {l : List α} (h : l.Nodup) {i j : Nat} {a : α} (hi : l[i]? = some a) (hj : l[j]? = some a) : i = j := by
  obtain ⟨li, ei⟩ := List.getElem?_eq_some_iff.mp hi
  obtain ⟨lj, ej⟩ := List.getElem?_eq_some_iff.mp hj
  have P := List.pairwise_iff_getElem.mp h
  rcases Nat.lt_trichotomy i j with h1 | h1 | h1
  · exact absurd (ei.trans ej.symm) (P i j li lj h1)
  · exact h1
  · exact absurd (ej.trans ei.symm) (P j i lj li h1)
theorem nodup_of {α : Type} {l : List α} (h : ∀ (i j : Nat) (a : α), l[i]? = some a → l[j]? = some a → i = j) : l.Nodup := by
  refine List.pairwise_iff_getElem.mpr fun i j hi hj hij e => ?_
  have := h i j l[i] (List.getElem?_eq_getElem hi) (by rw [List.getElem?_eq_getElem hj, e])
  lia
theorem roadsFn {g : Heap} {as : List Value} {all : List Rule} (hra : RoadsAt g as all) (hok : ∀ r ∈ all, r.Ok) (hnd : (all.map Rule.reach).Nodup) :
    ∃ (L0 : List Addr) (rl : Addr → Rule), as = L0.map Value.ref ∧ L0.map rl = all ∧ RD g rl L0 := by
  have pick : ∀ a, ∃ r : Rule, (∃ r ∈ all, ∃ t t', g.get? a = some { cls := .type "tuple", data := .seq #[.int (1000000 - r.reach) t, .str r.road t'] }) → r ∈ all ∧ ∃ t t', g.get? a = some { cls := .type "tuple", data := .seq #[.int (1000000 - r.reach) t, .str r.road t'] } := fun a => by
    by_cases h : ∃ r ∈ all, ∃ t t', g.get? a = some { cls := .type "tuple", data := .seq #[.int (1000000 - r.reach) t, .str r.road t'] }
    · obtain ⟨r, h1, h2⟩ := h; exact ⟨r, fun _ => ⟨h1, h2⟩⟩
    · exact ⟨⟨0, 0, 0, 0⟩, fun h' => absurd h' h⟩
  obtain ⟨rl, hrl⟩ := Classical.axiomOfChoice pick
  have injI : ∀ i j (r q : Rule), all[i]? = some r → all[j]? = some q → r.reach = q.reach → i = j := fun i j r q hi hj e => by
    refine nodup_get hnd (a := r.reach) (by rw [List.getElem?_map, hi]; rfl) (by rw [List.getElem?_map, hj, e]; rfl)
  have key : ∀ i a, (as.map addrOf)[i]? = some a → as[i]? = some (Value.ref a) ∧ all[i]? = some (rl a) ∧ ∃ t t', g.get? a = some { cls := .type "tuple", data := .seq #[.int (1000000 - (rl a).reach) t, .str (rl a).road t'] } := fun i a hi => by
    rw [List.getElem?_map] at hi
    cases hv : as[i]? with
    | none => rw [hv] at hi; cases hi
    | some v =>
      rw [hv] at hi
      obtain ⟨r, x, t, t', hr, rfl, hx⟩ := hra.2 i v hv
      have : x = a := Option.some.inj hi
      subst this
      obtain ⟨h1, t1, t1', h2⟩ := hrl x ⟨r, List.mem_of_getElem? hr, t, t', hx⟩
      have h3 := h2
      rw [hx] at h3
      have e : (1000000 - r.reach : Int) = 1000000 - (rl x).reach := by
        have := congrArg (fun o : Option Obj => match o with | some ⟨_, _, .seq vs _, _⟩ => vs[0]? | _ => none) h3
        simp at this
        rw [this.1]
      obtain ⟨j, hj⟩ := List.mem_iff_getElem?.mp h1
      have hij := injI i j r (rl x) hr hj (by lia)
      subst hij
      rw [hr] at hj
      cases hj
      exact ⟨rfl, hr, t, t', hx⟩
  refine ⟨as.map addrOf, rl, ?_, ?_, fun a ha => ?_, fun a ha => ?_, fun a ha b hb e => ?_, ?_⟩
  · apply List.ext_getElem?
    intro i
    rw [List.getElem?_map]
    cases hv : (as.map addrOf)[i]? with
    | none => rw [List.getElem?_map] at hv; cases h2 : as[i]? with
      | none => rfl
      | some v => rw [h2] at hv; cases hv
    | some a => exact (key i a hv).1
  · apply List.ext_getElem?
    intro i
    rw [List.getElem?_map]
    cases hv : (as.map addrOf)[i]? with
    | none =>
      have : all.length ≤ i := by
        rw [← hra.1]
        have := List.getElem?_eq_none_iff.mp hv
        simpa using this
      rw [List.getElem?_eq_none this]; rfl
    | some a => exact (key i a hv).2.1.symm
  · obtain ⟨i, hi⟩ := List.mem_iff_getElem?.mp ha
    exact (key i a hi).2.2
  · obtain ⟨i, hi⟩ := List.mem_iff_getElem?.mp ha
    exact hok _ (List.mem_of_getElem? (key i a hi).2.1)
  · obtain ⟨i, hi⟩ := List.mem_iff_getElem?.mp ha
    obtain ⟨j, hj⟩ := List.mem_iff_getElem?.mp hb
    have := injI i j _ _ (key i a hi).2.1 (key j b hj).2.1 e
    subst this
    rw [hi] at hj
    exact Option.some.inj hj
  · exact nodup_of fun i j a hi hj => injI _ _ _ _ (key i a hi).2.1 (key j a hj).2.1 rfl
noncomputable def keyOf (rl : Addr → Rule) (a : Addr) : Int := 1000000 - (rl a).reach
theorem RD.hp {g : Heap} {rl : Addr → Rule} {L0 : List Addr} (D : RD g rl L0) (hl : L0.length < 500) : Hp g (keyOf rl) L0 :=
  ⟨fun a ha => by obtain ⟨t, t', e⟩ := D.at' a ha; exact ⟨t, _, _, e⟩, fun a ha b hb e => D.inj a ha b hb (by unfold keyOf at e; lia), D.nd, hl⟩
/-- what is popped and what is left -/
structure KI (rl : Addr → Rule) (L0 Lst dn : List Addr) : Prop where
  perm : (dn ++ Lst).Perm L0
  srt : (dn.map fun a => toR (rl a)).Pairwise fun a b => a.rank < b.rank
  low : ∀ a ∈ dn, ∀ b ∈ Lst, keyOf rl a < keyOf rl b
  heap : HeapFrom (kf (keyOf rl) Lst) Lst.length 0
theorem KI.pop {rl : Addr → Rule} {L0 init dn : List Addr} {z : Addr} {g : Heap} (K : KI rl L0 (init ++ [z]) dn) (D : RD g rl L0) : KI rl L0 (popF (keyOf rl) init z).2 (dn ++ [(popF (keyOf rl) init z).1]) ∧ (popF (keyOf rl) init z).1 ∈ L0 ∧ (popF (keyOf rl) init z).2.length = init.length := by
  have hh := K.heap
  rw [List.length_append, List.length_singleton] at hh
  obtain ⟨least, heap, perm⟩ := popF_heap hh
  generalize popF (keyOf rl) init z = p at *
  have hlen : p.2.length = init.length := by have := perm.length_eq; simp at this; exact this
  have sub : ∀ b ∈ init ++ [z], b ∈ L0 := fun b hb => K.perm.mem_iff.mp (List.mem_append_right _ hb)
  have p1 : p.1 ∈ init ++ [z] := perm.mem_iff.mp (.head _)
  have nd : (p.1 :: p.2).Nodup := perm.nodup_iff.mpr ((K.perm.nodup_iff.mpr D.nd).sublist (List.sublist_append_right _ _))
  refine ⟨⟨?_, ?_, ?_, by rw [hlen]; exact heap⟩, sub _ p1, hlen⟩
  · rw [List.append_assoc]
    exact (List.Perm.append_left dn perm).trans K.perm
  · rw [List.map_append, List.pairwise_append]
    refine ⟨K.srt, by simp, fun a ha b hb => ?_⟩
    obtain ⟨x, hx, rfl⟩ := List.mem_map.mp ha
    simp only [List.map_cons, List.map_nil, List.mem_singleton] at hb
    subst hb
    exact K.low x hx p.1 p1
  · intro a ha b hb
    have hb' : b ∈ init ++ [z] := perm.mem_iff.mp (.tail _ hb)
    rcases List.mem_append.mp ha with ha | ha
    · exact K.low a ha b hb'
    · rw [List.mem_singleton.mp ha]
      have h1 := least b hb'
      have h2 : keyOf rl p.1 ≠ keyOf rl b := fun e => by
        have := D.inj _ (sub _ p1) _ (sub _ hb') (by unfold keyOf at e; lia)
        exact (List.nodup_cons.mp nd).1 (this ▸ hb)
      lia
theorem keepR_pos {st : (Nat → Nat) × List R} {e : R} (h : st.1 e.o = st.1 e.t) : keepR st e = st := if_pos h
theorem keepR_neg {st : (Nat → Nat) × List R} {e : R} (h : ¬ st.1 e.o = st.1 e.t) : keepR st e = (joinF st.1 (st.1 e.o) (st.1 e.t), st.2 ++ [e]) := if_neg h
theorem joinF_pos {f : Nat → Nat} {k g x : Nat} (h : f x = g) : joinF f k g x = k := if_pos h
theorem joinF_neg {f : Nat → Nat} {k g x : Nat} (h : ¬ f x = g) : joinF f k g x = f x := if_neg h
theorem nm_ne_false {a b : Nat} (_ : a < 5) (_ : b < 5) (h : (nm a != nm b) = false) : a = b := by
  have : (nm a == nm b) = true := by simpa [bne] using h
  exact nm_inj (eq_of_beq this)
theorem nm_ne_true {a b : Nat} (h : (nm a != nm b) = true) : ¬ a = b := fun e => by
  subst e
  rw [bne_self_eq_false] at h
  cases h
theorem krus_len {l : List R} : (krus l).2.length ≤ l.length := by
  refine Pl.snocInd (P := fun l => (krus l).2.length ≤ l.length) (Nat.le_refl _) ?_ l
  intro l e ih
  rw [krus_snoc]
  unfold keepR
  split
  · simp; lia
  · simp; exact ih
theorem letters {c : Nat} (h : (Str.ofString "abcde").cps.contains c = true) : ∃ q, q < 5 ∧ (⟨#[c]⟩ : Str) = nm q := by
  have e : (Str.ofString "abcde").cps = #[97, 98, 99, 100, 101] := by decide +kernel
  rw [e, Array.contains_iff_mem] at h
  simp at h
  rcases h with rfl | rfl | rfl | rfl | rfl
  · exact ⟨0, by decide, rfl⟩
  · exact ⟨1, by decide, rfl⟩
  · exact ⟨2, by decide, rfl⟩
  · exact ⟨3, by decide, rfl⟩
  · exact ⟨4, by decide, rfl⟩
theorem lettersOf {q : Nat} (h : q < 5) : ∃ c, (Str.ofString "abcde").cps.contains c = true ∧ (⟨#[c]⟩ : Str) = nm q := by
  have e : (Str.ofString "abcde").cps = #[97, 98, 99, 100, 101] := by decide +kernel
  rw [e]
  have : q = 0 ∨ q = 1 ∨ q = 2 ∨ q = 3 ∨ q = 4 := by lia
  rcases this with rfl | rfl | rfl | rfl | rfl
  · exact ⟨97, by decide +kernel, rfl⟩
  · exact ⟨98, by decide +kernel, rfl⟩
  · exact ⟨99, by decide +kernel, rfl⟩
  · exact ⟨100, by decide +kernel, rfl⟩
  · exact ⟨101, by decide +kernel, rfl⟩
theorem isStrs_snoc {x : Str} {t : Tok} : ∀ {vs : List Value} {xs : List Str}, IsStrs vs xs → IsStrs (vs ++ [.str x t]) (xs ++ [x])
  | [], [], _ => ⟨⟨t, rfl⟩, trivial⟩
  | _ :: _, _ :: _, h => ⟨h.1, isStrs_snoc h.2⟩
  | [], _ :: _, h => h.elim
  | _ :: _, [], h => h.elim
theorem krus_lt {l : List R} : (∀ r ∈ l, r.o < 5 ∧ r.t < 5) → ∀ x, x < 5 → (krus l).1 x < 5 := by
  refine Pl.snocInd (P := fun l => (∀ r ∈ l, r.o < 5 ∧ r.t < 5) → ∀ x, x < 5 → (krus l).1 x < 5) (fun _ x hx => hx) ?_ l
  intro l e ih h5 x hx
  have ih := ih fun r hr => h5 r (List.mem_append_left _ hr)
  have he := h5 e (by simp)
  rw [krus_snoc]
  unfold keepR
  split
  · exact ih x hx
  · show joinF _ _ _ x < 5
    unfold joinF
    split
    · exact ih _ he.1
    · exact ih x hx
end Mine

end PK0
section PR1
open PySem PySem.W PySem.Calls PyProof.Rows
set_option Elab.async false
set_option maxRecDepth 100000
namespace Mine
open Pl (R krus krus_snoc keepR clos Conn)
structure CellsOk (cv : List Value) (cs : List Int) : Prop where
  isI : IntsAre cv cs
  seven : cs.length = 7
  low : ∀ c ∈ cs, 0 ≤ c
  high : ∀ c ∈ cs, c < 1000000
theorem CellsOk.get {cv : List Value} {cs : List Int} (C : CellsOk cv cs) {i : Nat} {v : Value} (h : cv[i]? = some v) : ∃ c t, cs[i]? = some c ∧ v = .int c t ∧ 0 ≤ c ∧ c < 1000000 ∧ i < 7 := by
  obtain ⟨k, t, e, hk⟩ := IntsAre.at C.isI i v h
  have hm := List.mem_of_getElem? hk
  have := (List.getElem?_eq_some_iff.mp hk).1
  exact ⟨k, t, hk, e, C.low k hm, C.high k hm, by rw [← C.seven]; exact this⟩
theorem CellsOk.len {cv : List Value} {cs : List Int} (C : CellsOk cv cs) : cv.length = 7 := C.isI.length.trans C.seven
noncomputable def ruleOf (i : Nat) (c : Int) : Rule := ⟨1000000 - rankF i c, oneF c, twoF c, i⟩
noncomputable def rulesOf (cs : List Int) : List Rule := cs.mapIdx ruleOf
theorem rulesOf_get {cs : List Int} {i : Nat} : (rulesOf cs)[i]? = (cs[i]?).map (ruleOf i) := List.getElem?_mapIdx
theorem rulesOf_len {cs : List Int} : (rulesOf cs).length = cs.length := List.length_mapIdx
theorem fmod_lt5 (c : Int) : 0 ≤ c.fmod 5 ∧ c.fmod 5 < 5 := ⟨Int.fmod_nonneg_of_pos c (by decide), Int.fmod_lt_of_pos c (by decide)⟩
theorem fmod_lt4 (c : Int) : 0 ≤ c.fmod 4 ∧ c.fmod 4 < 4 := ⟨Int.fmod_nonneg_of_pos c (by decide), Int.fmod_lt_of_pos c (by decide)⟩
theorem oneF_lt (c : Int) : oneF c < 5 := by have := fmod_lt5 c; unfold oneF; lia
theorem twoF_lt (c : Int) : twoF c < 5 := by have := fmod_lt5 (c.fmod 5 + 1 + (c.fdiv 5).fmod 4); unfold twoF; lia
theorem fmod5e (c : Int) : c.fmod 5 = c % 5 := Int.fmod_eq_emod_of_nonneg c (by decide)
theorem fmod4 (c : Int) : c.fmod 4 = c % 4 := Int.fmod_eq_emod_of_nonneg c (by decide)
theorem fdiv20 (c : Int) : c.fdiv 20 = c / 20 := Int.fdiv_eq_ediv_of_nonneg c (by decide)
theorem fdiv5 (c : Int) : c.fdiv 5 = c / 5 := Int.fdiv_eq_ediv_of_nonneg c (by decide)
theorem one_ne_two (c : Int) : oneF c ≠ twoF c := by
  unfold oneF twoF
  simp only [fmod5e, fmod4, fdiv5]
  lia
theorem rank_mod (i : Nat) (c : Int) (hi : i < 7) : rankF i c % 7 = i := by unfold rankF; lia
theorem rulesOf_mem {cs : List Int} {r : Rule} (h : r ∈ rulesOf cs) : ∃ i c, cs[i]? = some c ∧ r = ruleOf i c := by
  obtain ⟨i, hi⟩ := List.mem_iff_getElem?.mp h
  rw [rulesOf_get] at hi
  cases hc : cs[i]? with
  | none => rw [hc] at hi; cases hi
  | some c => rw [hc] at hi; exact ⟨i, c, hc, (Option.some.inj hi).symm⟩
theorem CellsOk.ok {cv : List Value} {cs : List Int} (C : CellsOk cv cs) : ∀ r ∈ rulesOf cs, r.Ok := fun r hr => by
  obtain ⟨i, c, hc, rfl⟩ := rulesOf_mem hr
  have hm := List.mem_of_getElem? hc
  have hi := (List.getElem?_eq_some_iff.mp hc).1
  have h7 := C.seven
  have h1 := C.low c hm
  have h2 := C.high c hm
  refine ⟨oneF_lt c, twoF_lt c, by show i < 7; lia, ?_⟩
  show 0 < 1000000 - rankF i c
  unfold rankF
  rw [fdiv20]
  lia
theorem CellsOk.reach {cv : List Value} {cs : List Int} (C : CellsOk cv cs) : ((rulesOf cs).map Rule.reach).Nodup := nodup_of fun i j a hi hj => by
  have key : ∀ {i : Nat} {a : Int}, ((rulesOf cs).map Rule.reach)[i]? = some a → i < 7 ∧ ∃ c, a = 1000000 - rankF i c := fun {i a} h => by
    rw [List.getElem?_map, rulesOf_get] at h
    cases hc : cs[i]? with
    | none => rw [hc] at h; cases h
    | some c =>
      rw [hc] at h
      have := (List.getElem?_eq_some_iff.mp hc).1
      exact ⟨by rw [← C.seven]; exact this, c, (Option.some.inj h).symm⟩
  obtain ⟨h1, c, e1⟩ := key hi
  obtain ⟨h2, c', e2⟩ := key hj
  have m1 := rank_mod i c h1
  have m2 := rank_mod j c' h2
  have : rankF i c = rankF j c' := by lia
  rw [this] at m1
  lia
theorem srt_unique {all : List Rule} {l l' : List R} (h : Srt all l) (h' : Srt all l') : l = l' := by
  have p : l.Perm l' := h.1.trans h'.1.symm
  refine List.Perm.eq_of_pairwise (le := fun a b => a.rank ≤ b.rank) (fun a b ha hb h1 h2 => ?_) (h.2.imp fun h => Int.le_of_lt h) (h'.2.imp fun h => Int.le_of_lt h) p
  have e : a.rank = b.rank := Int.le_antisymm h1 h2
  have hb' := p.symm.mem_iff.mp hb
  obtain ⟨i, hi⟩ := List.mem_iff_getElem?.mp ha
  obtain ⟨j, hj⟩ := List.mem_iff_getElem?.mp hb'
  obtain ⟨li, ei⟩ := List.getElem?_eq_some_iff.mp hi
  obtain ⟨lj, ej⟩ := List.getElem?_eq_some_iff.mp hj
  have P := List.pairwise_iff_getElem.mp h.2
  rcases Nat.lt_trichotomy i j with q | q | q
  · have := P i j li lj q; rw [ei, ej] at this; lia
  · subst q; exact ei.symm.trans ej
  · have := P j i lj li q; rw [ei, ej] at this; lia
/-- the told roads, road by road -/
noncomputable def tellR (st : List R × List R) (e : R) : List R × List R := (st.1 ++ [e], if clos st.1 e.o e.t then st.2 else st.2 ++ [e])
noncomputable def tells (l : List R) : List R × List R := l.foldl tellR ([], [])
theorem tells_snoc (l : List R) (e : R) : tells (l ++ [e]) = tellR (tells l) e := by unfold tells; rw [List.foldl_append]; rfl
theorem tells_fst (l : List R) : (tells l).1 = l := by
  refine Pl.snocInd (P := fun l => (tells l).1 = l) rfl ?_ l
  intro l e ih
  rw [tells_snoc]
  show (tells l).1 ++ [e] = l ++ [e]
  rw [ih]
theorem tells_yes {l : List R} {e : R} (h : clos l e.o e.t = true) : (tells (l ++ [e])).2 = (tells l).2 := by
  rw [tells_snoc]
  unfold tellR
  rw [tells_fst, if_pos h]
theorem tells_no {l : List R} {e : R} (h : clos l e.o e.t = false) : (tells (l ++ [e])).2 = (tells l).2 ++ [e] := by
  rw [tells_snoc]
  unfold tellR
  rw [tells_fst, if_neg (by rw [h]; exact Bool.false_ne_true)]
theorem tells_len (l : List R) : (tells l).2.length ≤ l.length := by
  refine Pl.snocInd (P := fun l => (tells l).2.length ≤ l.length) (Nat.le_refl _) ?_ l
  intro l e ih
  cases h : clos l e.o e.t with
  | true => rw [tells_yes h, List.length_append]; lia
  | false => rw [tells_no h, List.length_append, List.length_append]; simp; exact ih
theorem tells_krus {l : List R} : (∀ r ∈ l, r.o < 5 ∧ r.t < 5) → (tells l).2 = (krus l).2 := by
  refine Pl.snocInd (P := fun l => (∀ r ∈ l, r.o < 5 ∧ r.t < 5) → (tells l).2 = (krus l).2) (fun _ => rfl) ?_ l
  intro l e ih h5
  have h5' : ∀ r ∈ l, r.o < 5 ∧ r.t < 5 := fun r hr => h5 r (List.mem_append_left _ hr)
  have he := h5 e (by simp)
  obtain ⟨k1, k2⟩ := Pl.krus_kept h5
  rw [tells_snoc]
  unfold tellR
  rw [tells_fst, ih h5']
  show (if clos l e.o e.t = true then (krus l).2 else (krus l).2 ++ [e]) = _
  by_cases c : clos l e.o e.t = true
  · rw [if_pos c, k1 ((Pl.clos_conn h5' he.1 he.2).mp c)]
  · rw [if_neg c, k2 fun q => c ((Pl.clos_conn h5' he.1 he.2).mpr q)]
end Mine

end PR1
section PJ0
open PySem PySem.W PySem.Calls PyProof.Rows
set_option Elab.async false
set_option maxRecDepth 100000
namespace Mine
open Pl (R krus joinF takeR Good Told Chosen cutsR)
/-- what is asked of the rules -/
structure AllOk (all : List Rule) : Prop where
  ok : ∀ r ∈ all, r.Ok
  reach : (all.map Rule.reach).Nodup
  idx : ∀ a ∈ all, ∀ b ∈ all, a.i = b.i → a = b
  ne : ∀ r ∈ all, r.o ≠ r.t
  len : all.length ≤ 7
theorem best_fold_max {f : Nat → Nat} {q : Nat} : ∀ (rs : List Rule) (st : Option Rule), (∀ r, st = some r → cuts f q r = true) →
    (match rs.foldl (bestStep f q) st with
      | none => st = none ∧ ∀ r ∈ rs, cuts f q r = false
      | some b => cuts f q b = true ∧ (∀ r ∈ rs, cuts f q r = true → r.reach ≤ b.reach) ∧ ∀ r, st = some r → r.reach ≤ b.reach)
  | [], none, _ => ⟨rfl, fun r h => nomatch h⟩
  | [], some b, h => ⟨h b rfl, fun r h => (nomatch h), fun r e => by cases e; exact Int.le_refl _⟩
  | r :: rs, st, h => by
    have hst : ∀ x, bestStep f q st r = some x → cuts f q x = true := fun x hx => by
      unfold bestStep at hx
      split at hx
      · rename_i hc; cases hx; exact (Bool.and_eq_true _ _ ▸ hc).1
      · exact h x hx
    have ih := best_fold_max rs (bestStep f q st r) hst
    show (match rs.foldl (bestStep f q) (bestStep f q st r) with
      | none => st = none ∧ ∀ x ∈ r :: rs, cuts f q x = false
      | some b => cuts f q b = true ∧ (∀ x ∈ r :: rs, cuts f q x = true → x.reach ≤ b.reach) ∧ ∀ x, st = some x → x.reach ≤ b.reach)
    cases hb : rs.foldl (bestStep f q) (bestStep f q st r) with
    | none =>
      rw [hb] at ih
      obtain ⟨h1, h2⟩ := ih
      have hs : st = none := by
        unfold bestStep at h1
        split at h1
        · cases h1
        · exact h1
      subst hs
      refine ⟨rfl, fun x hx => ?_⟩
      rcases List.mem_cons.mp hx with rfl | hx
      · cases hc : cuts f q x with
        | false => rfl
        | true => unfold bestStep at h1; rw [hc] at h1; simp at h1
      · exact h2 x hx
    | some b =>
      rw [hb] at ih
      obtain ⟨h1, h2, h3⟩ := ih
      refine ⟨h1, fun x hx hc => ?_, fun x hx => ?_⟩
      · rcases List.mem_cons.mp hx with rfl | hx
        · cases hs : bestStep f q st x with
          | none =>
            exfalso
            unfold bestStep at hs
            rw [hc] at hs
            cases st with
            | none => simp at hs
            | some y => split at hs <;> cases hs
          | some y =>
            have := h3 y hs
            unfold bestStep at hs
            split at hs
            · cases hs; exact this
            · rename_i hn
              subst hs
              rw [hc] at hn
              simp at hn
              lia
        · exact h2 x hx hc
      · subst hx
        cases hs : bestStep f q (some x) r with
        | none => exfalso; unfold bestStep at hs; split at hs <;> cases hs
        | some y =>
          have h4 := h3 y hs
          unfold bestStep at hs
          split at hs
          · rename_i hc
            cases hs
            simp at hc
            lia
          · cases hs; exact h4
theorem best_none {f : Nat → Nat} {q : Nat} {rs : List Rule} (h : best f q rs = none) : ∀ r ∈ rs, cuts f q r = false := by
  have := best_fold_max (f := f) (q := q) rs none (fun r h => by cases h)
  unfold best at h
  rw [h] at this
  exact this.2
theorem best_some {f : Nat → Nat} {q : Nat} {rs : List Rule} {b : Rule} (h : best f q rs = some b) : b ∈ rs ∧ cuts f q b = true ∧ ∀ r ∈ rs, cuts f q r = true → r.reach ≤ b.reach := by
  have h0 := best_mem h
  have := best_fold_max (f := f) (q := q) rs none (fun r h => by cases h)
  unfold best at h
  rw [h] at this
  exact ⟨h0, this.1, this.2.1⟩
noncomputable def lying (f : Nat → Nat) (q : Nat) : List Nat := (List.range 5).filter fun k => f k == q
noncomputable def netS : Str := Str.ofString "net"
noncomputable def agentsOf (f : Nat → Nat) (q : Nat) : List Str := netS :: (if (lying f q).length = 1 then (lying f q).map nm else [])
theorem mem_lying {f : Nat → Nat} {q k : Nat} : k ∈ lying f q ↔ k < 5 ∧ f k = q := by
  unfold lying
  rw [List.mem_filter, List.mem_range, beq_iff_eq]
/-- the records' state -/
structure KI2 (all : List Rule) (st : (Nat → Nat) × List R) (K : List Nat) (xs : Nat → List Str) (rs : Nat → List Rule) : Prop where
  nodup : K.Nodup
  mem : ∀ q, q ∈ K ↔ ∃ k, k < 5 ∧ st.1 k = q
  lt : ∀ k, k < 5 → st.1 k < 5
  rsOk : ∀ q ∈ K, ∀ r, r ∈ rs q ↔ r ∈ all ∧ (st.1 r.o = q ∨ st.1 r.t = q)
  xsOk : ∀ q ∈ K, xs q = agentsOf st.1 q
  cnt : K.length + st.2.length = 5
  bnd : ∀ q ∈ K, (rs q).length ≤ 14 * 2 ^ st.2.length
theorem net_ne (k : Nat) : nm k ≠ netS := fun h => by
  have := congrArg (fun s : Str => s.cps.size) h
  have e : netS.cps.size = 3 := by decide +kernel
  rw [e] at this
  simp [nm] at this
theorem agents_meet {f : Nat → Nat} {a b : Nat} (h : a ≠ b) : (agentsOf f a).filter (fun y => decide (y ∈ agentsOf f b)) = [netS] := by
  unfold agentsOf
  rw [List.filter_cons, if_pos (by simp)]
  have : (if (lying f a).length = 1 then (lying f a).map nm else []).filter (fun y => decide (y ∈ netS :: (if (lying f b).length = 1 then (lying f b).map nm else []))) = [] := by
    rw [List.filter_eq_nil_iff]
    intro y hy hm
    have hm := of_decide_eq_true hm
    split at hy
    · obtain ⟨k, hk, rfl⟩ := List.mem_map.mp hy
      rcases List.mem_cons.mp hm with e | e
      · exact net_ne k e
      · split at e
        · obtain ⟨k', hk', e⟩ := List.mem_map.mp e
          have := nm_inj e
          subst this
          exact h ((mem_lying.mp hk).2.symm.trans (mem_lying.mp hk').2)
        · cases e
    · cases hy
  rw [this]
theorem two_len {l : List Nat} {a b : Nat} (ha : a ∈ l) (hb : b ∈ l) (h : a ≠ b) : l.length ≠ 1 := fun e => by
  match l, e with
  | [x], _ =>
    rw [List.mem_singleton.mp ha, List.mem_singleton.mp hb] at h
    exact h rfl
theorem KI2.take {all : List Rule} {st : (Nat → Nat) × List R} {K : List Nat} {xs : Nat → List Str} {rs : Nat → List Rule} (H : KI2 all st K xs rs) {e : Rule} (he : e.o < 5 ∧ e.t < 5) (hne : st.1 e.o ≠ st.1 e.t) :
    KI2 all (joinF st.1 (st.1 e.o) (st.1 e.t), st.2 ++ [toR e]) (K.filter fun q => decide (q ≠ st.1 e.t)) (updA xs (st.1 e.o) [netS]) (updA rs (st.1 e.o) (rs (st.1 e.o) ++ rs (st.1 e.t))) := by
  have k1 : st.1 e.o ∈ K := (H.mem _).mpr ⟨_, he.1, rfl⟩
  have k2 : st.1 e.t ∈ K := (H.mem _).mpr ⟨_, he.2, rfl⟩
  have jo : ∀ k, joinF st.1 (st.1 e.o) (st.1 e.t) k = if st.1 k = st.1 e.t then st.1 e.o else st.1 k := fun _ => rfl
  refine ⟨H.nodup.filter _, fun q => ?_, fun k hk => ?_, fun q hq r => ?_, fun q hq => ?_, ?_, fun q hq => ?_⟩
  · rw [List.mem_filter, H.mem, decide_eq_true_iff]
    constructor
    · rintro ⟨⟨k, hk, rfl⟩, h2⟩
      exact ⟨k, hk, by show joinF _ _ _ k = _; rw [jo, if_neg h2]⟩
    · rintro ⟨k, hk, h⟩
      have h : joinF st.1 (st.1 e.o) (st.1 e.t) k = q := h
      rw [jo] at h
      by_cases hc : st.1 k = st.1 e.t
      · rw [if_pos hc] at h; subst h; exact ⟨⟨_, he.1, rfl⟩, hne⟩
      · rw [if_neg hc] at h; subst h; exact ⟨⟨k, hk, rfl⟩, hc⟩
  · show joinF _ _ _ k < 5
    rw [jo]; split
    · exact H.lt _ he.1
    · exact H.lt _ hk
  · obtain ⟨hq1, hq2⟩ := List.mem_filter.mp hq
    have hq2 := of_decide_eq_true hq2
    show _ ↔ r ∈ all ∧ (joinF _ _ _ r.o = q ∨ joinF _ _ _ r.t = q)
    rw [jo, jo]
    by_cases e1 : q = st.1 e.o
    · subst e1
      rw [updA_self, List.mem_append, H.rsOk _ k1, H.rsOk _ k2]
      constructor
      · rintro (⟨h1, h2⟩ | ⟨h1, h2⟩)
        · refine ⟨h1, h2.imp (fun h => ?_) fun h => ?_⟩
          · rw [if_neg (by rw [h]; exact hne)]; exact h
          · rw [if_neg (by rw [h]; exact hne)]; exact h
        · refine ⟨h1, h2.imp (fun h => ?_) fun h => ?_⟩
          · rw [if_pos h]
          · rw [if_pos h]
      · rintro ⟨h1, h2⟩
        rcases h2 with h2 | h2
        · split at h2
          · rename_i hc; exact .inr ⟨h1, .inl hc⟩
          · exact .inl ⟨h1, .inl h2⟩
        · split at h2
          · rename_i hc; exact .inr ⟨h1, .inr hc⟩
          · exact .inl ⟨h1, .inr h2⟩
    · rw [updA_ne e1, H.rsOk q hq1]
      have s : ∀ x, (if st.1 x = st.1 e.t then st.1 e.o else st.1 x) = q ↔ st.1 x = q := fun x => by
        by_cases hc : st.1 x = st.1 e.t
        · rw [if_pos hc, hc]; exact ⟨fun h => absurd h.symm e1, fun h => absurd h.symm hq2⟩
        · rw [if_neg hc]
      rw [s, s]
  · obtain ⟨hq1, hq2⟩ := List.mem_filter.mp hq
    have hq2 := of_decide_eq_true hq2
    show updA _ _ _ q = agentsOf (joinF _ _ _) q
    by_cases e1 : q = st.1 e.o
    · subst e1
      rw [updA_self]
      unfold agentsOf
      rw [if_neg]
      refine two_len (a := e.o) (b := e.t) (mem_lying.mpr ⟨he.1, ?_⟩) (mem_lying.mpr ⟨he.2, ?_⟩) fun h => hne (by rw [h])
      · rw [jo, if_neg hne]
      · rw [jo, if_pos rfl]
    · rw [updA_ne e1, H.xsOk q hq1]
      have : lying (joinF st.1 (st.1 e.o) (st.1 e.t)) q = lying st.1 q := by
        unfold lying
        refine List.filter_congr fun k _ => ?_
        rw [jo]
        by_cases hc : st.1 k = st.1 e.t
        · rw [if_pos hc, hc, beq_eq_false_iff_ne.mpr (Ne.symm e1), beq_eq_false_iff_ne.mpr (Ne.symm hq2)]
        · rw [if_neg hc]
      unfold agentsOf
      rw [this]
  · have h1 : (K.filter fun q => decide (q ≠ st.1 e.t)).length + 1 = K.length := by
      have hn := H.nodup
      clear H k1 jo
      induction K with
      | nil => cases k2
      | cons a K ih =>
        rw [List.nodup_cons] at hn
        rw [List.filter_cons]
        by_cases ha : a = st.1 e.t
        · subst ha
          have hf : K.filter (fun q => decide (q ≠ st.1 e.t)) = K := List.filter_eq_self.mpr fun x hx => decide_eq_true (p := x ≠ st.1 e.t) fun hh => hn.1 (by rw [← hh]; exact hx)
          rw [if_neg (by simp), hf]
          rfl
        · rw [if_pos (decide_eq_true ha), List.length_cons, List.length_cons]
          rw [ih ((List.mem_cons.mp k2).resolve_left (Ne.symm ha)) hn.2]
    have := H.cnt
    show _ + (st.2 ++ [toR e]).length = 5
    rw [List.length_append, List.length_singleton]
    lia
  · obtain ⟨hq1, hq2⟩ := List.mem_filter.mp hq
    show _ ≤ 14 * 2 ^ (st.2 ++ [toR e]).length
    rw [List.length_append, List.length_singleton, Nat.pow_succ]
    by_cases e1 : q = st.1 e.o
    · subst e1
      rw [updA_self, List.length_append]
      have a1 := H.bnd _ k1
      have a2 := H.bnd _ k2
      lia
    · rw [updA_ne e1]
      have := H.bnd _ hq1
      lia
theorem toR_inj {a b : Rule} (h : toR a = toR b) : a = b := by
  obtain ⟨a1, a2, a3, a4⟩ := a
  obtain ⟨b1, b2, b3, b4⟩ := b
  simp only [toR, R.mk.injEq] at h
  obtain ⟨h1, h2, h3, h4⟩ := h
  have : a1 = b1 := by lia
  subst this h2 h3 h4
  rfl
theorem cuts_cutsR {f : Nat → Nat} {q : Nat} {r : Rule} : cutsR f q (toR r) = cuts f q r := rfl
/-- what a round chooses -/
noncomputable def chose (f : Nat → Nat) (K : List Nat) (rs : Nat → List Rule) : List R := (K.filterMap fun q => best f q (rs q)).map toR
theorem KI2.chosen {all : List Rule} {st : (Nat → Nat) × List R} {K : List Nat} {xs : Nat → List Str} {rs : Nat → List Rule} (H : KI2 all st K xs rs) : Chosen (all.map toR) st.1 (chose st.1 K rs) where
  ok := fun e he => by
    obtain ⟨b, hb, rfl⟩ := List.mem_map.mp he
    obtain ⟨q, hq, hbq⟩ := List.mem_filterMap.mp hb
    obtain ⟨h1, h2, h3⟩ := best_some hbq
    refine ⟨q, List.mem_map_of_mem ((H.rsOk q hq b).mp h1).1, h2, fun r hr hc => ?_⟩
    obtain ⟨r', hr', rfl⟩ := List.mem_map.mp hr
    have hc : cuts st.1 q r' = true := hc
    have := h3 r' ((H.rsOk q hq r').mpr ⟨hr', ?_⟩) hc
    · show 1000000 - b.reach ≤ 1000000 - r'.reach
      lia
    · unfold cuts at hc
      by_cases h : st.1 r'.o = q
      · exact .inl h
      · rw [beq_eq_false_iff_ne.mpr h] at hc
        exact .inr (by simpa using hc)
  all := fun x hx => by
    rintro ⟨r, hr, hc⟩
    obtain ⟨r', hr', rfl⟩ := List.mem_map.mp hr
    have hc : cuts st.1 (st.1 x) r' = true := hc
    have hq : st.1 x ∈ K := (H.mem _).mpr ⟨x, hx, rfl⟩
    have ht : r' ∈ rs (st.1 x) := (H.rsOk _ hq r').mpr ⟨hr', by
      unfold cuts at hc
      by_cases h : st.1 r'.o = st.1 x
      · exact .inl h
      · rw [beq_eq_false_iff_ne.mpr h] at hc
        exact .inr (by simpa using hc)⟩
    cases hb : best st.1 (st.1 x) (rs (st.1 x)) with
    | none => rw [best_none hb r' ht] at hc; cases hc
    | some b => exact ⟨toR b, List.mem_map_of_mem (List.mem_filterMap.mpr ⟨_, hq, hb⟩), (best_some hb).2.1⟩
theorem rd_inj {o t i o' t' i' : Nat} (h : rd o t i = rd o' t' i') : o = o' ∧ t = t' ∧ i = i' := by
  have := congrArg Str.cps h
  simp only [rd, Array.mk.injEq, List.cons.injEq, and_true, true_and] at this
  lia
theorem AllOk.road {all : List Rule} (A : AllOk all) {a b : R} (ha : a ∈ all.map toR) (hb : b ∈ all.map toR) (h : roadR a = roadR b) : a = b := by
  obtain ⟨a', ha', rfl⟩ := List.mem_map.mp ha
  obtain ⟨b', hb', rfl⟩ := List.mem_map.mp hb
  rw [A.idx a' ha' b' hb' (rd_inj h).2.2]
theorem AllOk.inj {all : List Rule} (A : AllOk all) : ∀ a ∈ all.map toR, ∀ b ∈ all.map toR, a.rank = b.rank → a = b := fun a ha b hb h => by
  obtain ⟨a', ha', rfl⟩ := List.mem_map.mp ha
  obtain ⟨b', hb', rfl⟩ := List.mem_map.mp hb
  have e : a'.reach = b'.reach := by
    have h : (1000000 - a'.reach : Int) = 1000000 - b'.reach := h
    lia
  obtain ⟨i, hi⟩ := List.mem_iff_getElem?.mp ha'
  obtain ⟨j, hj⟩ := List.mem_iff_getElem?.mp hb'
  have := nodup_get A.reach (i := i) (j := j) (a := a'.reach) (by rw [List.getElem?_map, hi]; rfl) (by rw [List.getElem?_map, hj, e]; rfl)
  subst this
  rw [hi] at hj
  cases hj; rfl
theorem AllOk.in5 {all : List Rule} (A : AllOk all) : ∀ r ∈ all.map toR, r.o < 5 ∧ r.t < 5 := fun r hr => by
  obtain ⟨r', hr', rfl⟩ := List.mem_map.mp hr
  exact ⟨(A.ok r' hr').ho, (A.ok r' hr').ht⟩
theorem AllOk.neR {all : List Rule} (A : AllOk all) : ∀ r ∈ all.map toR, r.o ≠ r.t := fun r hr => by
  obtain ⟨r', hr', rfl⟩ := List.mem_map.mp hr
  exact A.ne r' hr'
end Mine

end PJ0
section PQ1
open PySem PySem.W PySem.Calls PyProof.Rows
set_option Elab.async false
set_option maxRecDepth 100000
namespace Mine
section
variable {key : Nat → Int} {N : Nat} {cmp : Nat → Nat → (Bool → Shared → Prop) → Shared → Prop} {s : Shared}
/-- the questions are answered by the keys -/
noncomputable def Asks (key : Nat → Int) (N : Nat) (cmp : Nat → Nat → (Bool → Shared → Prop) → Shared → Prop) (s : Shared) : Prop := ∀ i j (C : Bool → Shared → Prop), i < N → j < N → i ≠ j → C (decide (key i < key j)) s → cmp i j C s
noncomputable def kk (key : Nat → Int) (p : Array Nat) (i : Nat) : Int := key (p.getD i 0)
structure Pm (N : Nat) (p : Array Nat) : Prop where
  perm : p.toList.Perm (List.range N)
theorem Pm.size {p : Array Nat} (P : Pm N p) : p.size = N := by have := P.perm.length_eq; simpa using this
theorem Pm.lt {p : Array Nat} (P : Pm N p) {i : Nat} (hi : i < N) : p.getD i 0 < N := by
  have hs := P.size
  have h : i < p.size := by lia
  have e : p.getD i 0 = p[i] := by simp [Array.getD, h]
  rw [e]
  have : p[i] ∈ p.toList := by simp
  simpa using P.perm.mem_iff.mp this
theorem Pm.inj {p : Array Nat} (P : Pm N p) {i j : Nat} (hi : i < N) (hj : j < N) (e : p.getD i 0 = p.getD j 0) : i = j := by
  have hs := P.size
  have h : i < p.size := by lia
  have h' : j < p.size := by lia
  have e1 : p.getD i 0 = p[i] := by simp [Array.getD, h]
  have e2 : p.getD j 0 = p[j] := by simp [Array.getD, h']
  rw [e1, e2] at e
  refine nodup_get (P.perm.nodup_iff.mpr List.nodup_range) (a := p[i]) (by simp [h]) (by simp [h', e])
theorem Pm.of {p q : Array Nat} (P : Pm N p) (h : q.Perm p) : Pm N q := ⟨(Array.perm_iff_toList_perm.mp h).trans P.perm⟩
noncomputable def SrtTo (key : Nat → Int) (p : Array Nat) (k : Nat) : Prop := ∀ i j, i < j → j < k → kk key p i < kk key p j
noncomputable def DecTo (key : Nat → Int) (p : Array Nat) (k : Nat) : Prop := ∀ i j, i < j → j < k → kk key p j < kk key p i
section
variable (hA : Asks key N cmp s) (hinj : ∀ i j, i < N → j < N → key i = key j → i = j)
include hinj in
theorem kk_ne {p : Array Nat} (P : Pm N p) {i j : Nat} (hi : i < N) (hj : j < N) (h : i ≠ j) : kk key p i ≠ kk key p j := fun e => h (P.inj hi hj (hinj _ _ (P.lt hi) (P.lt hj) e))
include hA in
theorem askAt {α : Type} {p : Array Nat} (P : Pm N p) {i j : Nat} {k : Bool → KasT α} {Q : α → Shared → Prop} (hi : i < N) (hj : j < N) (hij : i ≠ j) (h : (k (decide (kk key p i < kk key p j))).kasWp cmp Q s) : (KasT.ask (p.getD i 0) (p.getD j 0) k).kasWp cmp Q s :=
  hA _ _ _ (P.lt hi) (P.lt hj) (fun e => hij (P.inj hi hj e)) h
include hA hinj in
theorem asc_ok {p : Array Nat} (P : Pm N p) {Q : Nat → Shared → Prop} : ∀ (f n : Nat), 1 ≤ n → n + f ≤ N → SrtTo key p n → (∀ m, n ≤ m → m ≤ n + f → SrtTo key p m → (m = n + f ∨ kk key p m < kk key p (m - 1)) → Q m s) → (kas_asc p f n).kasWp cmp Q s
  | 0, n, _, _, hs, h => h n (Nat.le_refl _) (Nat.le_refl _) hs (.inl rfl)
  | f + 1, n, h1, hn, hs, h => by
    unfold kas_asc
    refine askAt hA P (by lia) (by lia) (by lia) ?_
    by_cases hc : kk key p n < kk key p (n - 1)
    · rw [decide_eq_true hc, if_pos rfl]
      exact h n (Nat.le_refl _) (by lia) hs (.inr hc)
    · rw [decide_eq_false hc, if_neg Bool.false_ne_true]
      have hne := kk_ne hinj P (i := n) (j := n - 1) (by lia) (by lia) (by lia)
      refine asc_ok P f (n + 1) (by lia) (by lia) (fun i j hij hj => ?_) fun m a b c d => h m (by lia) (by lia) c (d.imp (fun e => by lia) id)
      by_cases hjn : j < n
      · exact hs i j hij hjn
      · have : j = n := by lia
        subst this
        by_cases e : i = j - 1
        · subst e; lia
        · have := hs i (j - 1) (by lia) (by lia); lia
include hA hinj in
theorem desc_ok {p : Array Nat} (P : Pm N p) {Q : Array Nat × Nat × Nat → Shared → Prop} : ∀ (f n : Nat), 1 ≤ n → n + f ≤ N → DecTo key p n → (∀ m, n ≤ m → m ≤ n + f → DecTo key p m → Q (p, m, 0) s) → (kas_desc f p n 0).kasWp cmp Q s
  | 0, n, _, _, hs, h => h n (Nat.le_refl _) (Nat.le_refl _) hs
  | f + 1, n, h1, hn, hs, h => by
    unfold kas_desc
    refine askAt hA P (by lia) (by lia) (by lia) ?_
    by_cases hc : kk key p n < kk key p (n - 1)
    · rw [decide_eq_true hc, if_pos rfl, if_neg (Nat.lt_irrefl 0)]
      refine desc_ok P f (n + 1) (by lia) (by lia) (fun i j hij hj => ?_) fun m a b c => h m (by lia) (by lia) c
      by_cases hjn : j < n
      · exact hs i j hij hjn
      · have : j = n := by lia
        subst this
        by_cases e : i = j - 1
        · subst e; lia
        · have := hs i (j - 1) (by lia) (by lia); lia
    · rw [decide_eq_false hc, if_neg Bool.false_ne_true]
      have hne := kk_ne hinj P (i := n) (j := n - 1) (by lia) (by lia) (by lia)
      refine askAt hA P (by lia) (by lia) (by lia) ?_
      rw [decide_eq_true (by lia), if_pos rfl]
      exact h n (Nat.le_refl _) (by lia) hs
theorem kk_rev {p : Array Nat} {n : Nat} (hn : n ≤ p.size) (k : Nat) : kk key (kas_rev p 0 n) k = if k < n then kk key p (n - 1 - k) else kk key p k := by
  have e := getElem?_mirror_all (xs := p) (i := 0) hn k
  unfold kk kas_rev
  simp only [Array.getD_eq_getD_getElem?]
  rw [e]
  by_cases h : k < n
  · rw [if_pos ⟨Nat.zero_le _, h⟩, if_pos h, Nat.zero_add]
  · rw [if_neg (fun q => h q.2), if_neg h]
include hA hinj in
theorem tail3_ok {p : Array Nat} (P : Pm N p) {Q : Nat × Array Nat → Shared → Prop} {n : Nat} (h1 : 1 ≤ n) (hn : n ≤ N) (hs : DecTo key p n) (h : ∀ m q, Pm N q → 1 ≤ m → m ≤ N → SrtTo key q m → Q (m, q) s) : (kas_tail3 n N p).kasWp cmp Q s := by
  unfold kas_tail3
  rw [KasT.kasWp_bind]
  have P' : Pm N (kas_rev p 0 n) := P.of (mirror_perm _ _ _ _)
  refine asc_ok hA hinj P' (N - n) n h1 (by lia) (fun i j hij hj => ?_) fun m a b c _ => h m _ P' (by lia) (by lia) c
  rw [kk_rev (by rw [P.size]; exact hn), kk_rev (by rw [P.size]; exact hn), if_pos (by lia), if_pos hj]
  exact hs _ _ (by lia) (by lia)
include hA hinj in
theorem count_ok {p : Array Nat} (P : Pm N p) {Q : Nat × Array Nat → Shared → Prop} (hN : 2 ≤ N) (h : ∀ m q, Pm N q → 1 ≤ m → m ≤ N → SrtTo key q m → Q (m, q) s) : (kas_count N p).kasWp cmp Q s := by
  unfold kas_count
  rw [KasT.kasWp_bind]
  refine asc_ok hA hinj P (N - 1) 1 (Nat.le_refl _) (by lia) (fun i j hij hj => by lia) fun n a b c d => ?_
  by_cases hnN : n = N
  · rw [if_pos (by simpa using hnN)]
    exact h n p P (by lia) (by lia) c
  · rw [if_neg (by simpa using hnN)]
    by_cases hn1 : n > 1
    · rw [if_pos hn1]
      refine askAt hA P (by lia) (by lia) (by lia) ?_
      rw [decide_eq_true (c 0 (n - 1) (by lia) (by lia)), if_pos rfl]
      exact h n p P (by lia) (by lia) c
    · rw [if_neg hn1]
      have : n = 1 := by lia
      subst this
      have hlt := d.resolve_left (by lia)
      unfold kas_descPart
      rw [KasT.kasWp_bind]
      refine desc_ok hA hinj P (N - (1 + 1)) (1 + 1) (by lia) (by lia) (fun i j hij hj => ?_) fun m a b c => ?_
      · obtain rfl : i = 0 := by lia
        obtain rfl : j = 1 := by lia
        exact hlt
      · rw [if_neg (Nat.lt_irrefl 0)]
        show (kas_tail3 m N p).kasWp cmp Q s
        exact tail3_ok hA hinj P (by lia) (by lia) c h
include hA hinj in
theorem place_ok {p : Array Nat} (P : Pm N p) {Q : Nat → Shared → Prop} {k : Nat} (hk : k < N) (hs : SrtTo key p k) : ∀ (f l r : Nat), l ≤ r → r ≤ k → r - l ≤ f → (∀ i, i < l → kk key p i < kk key p k) → (∀ i, r ≤ i → i < k → kk key p k < kk key p i) →
    (∀ l, l ≤ k → (∀ i, i < l → kk key p i < kk key p k) → (∀ i, l ≤ i → i < k → kk key p k < kk key p i) → Q l s) → (kas_place p k f l r).kasWp cmp Q s
  | 0, l, r, hlr, hr, hf, hlo, hhi, h => by
    obtain rfl : l = r := by lia
    exact h l hr hlo hhi
  | f + 1, l, r, hlr, hr, hf, hlo, hhi, h => by
    unfold kas_place
    by_cases hge : l ≥ r
    · rw [if_pos hge]
      obtain rfl : l = r := by lia
      exact h l hr hlo hhi
    · rw [if_neg hge]
      refine askAt hA P (by lia) (by lia) (by lia) ?_
      by_cases hc : kk key p k < kk key p ((l + r) / 2)
      · rw [decide_eq_true hc, if_pos rfl]
        refine place_ok P hk hs f l ((l + r) / 2) (by lia) (by lia) (by lia) hlo (fun i h1 h2 => ?_) h
        by_cases e : i = (l + r) / 2
        · subst e; exact hc
        · have := hs ((l + r) / 2) i (by lia) h2; lia
      · rw [decide_eq_false hc, if_neg Bool.false_ne_true]
        have hne := kk_ne hinj P (i := k) (j := (l + r) / 2) hk (by lia) (by lia)
        refine place_ok P hk hs f ((l + r) / 2 + 1) r (by lia) hr (by lia) (fun i h1 => ?_) hhi h
        by_cases e : i = (l + r) / 2
        · subst e; lia
        · have := hs i ((l + r) / 2) (by lia) (by lia); lia
theorem kk_bubble {p : Array Nat} {k l : Nat} (hk : k < p.size) (hl : l ≤ k) (i : Nat) : kk key (bubble p k (k - l)) i = if i = l then kk key p k else if l < i ∧ i ≤ k then kk key p (i - 1) else kk key p i := by
  have e := getElem?_bubble hk (k - l) (by lia) i
  rw [show k - (k - l) = l by lia] at e
  unfold kk
  simp only [Array.getD_eq_getD_getElem?]
  rw [e]
  by_cases h1 : i = l
  · rw [if_pos h1, if_pos h1]
  · rw [if_neg h1, if_neg h1]
    by_cases h2 : l < i ∧ i ≤ k
    · rw [if_pos h2, if_pos h2]
    · rw [if_neg h2, if_neg h2]
include hA hinj in
theorem bin_ok {Q : Array Nat → Shared → Prop} : ∀ (f : Nat) (p : Array Nat) (k : Nat), Pm N p → k + f = N → SrtTo key p k → (∀ q, Pm N q → SrtTo key q N → Q q s) → (kas_bin f p k).kasWp cmp Q s
  | 0, p, k, P, hk, hs, h => by
    obtain rfl : k = N := by lia
    exact h p P hs
  | f + 1, p, k, P, hk, hs, h => by
    unfold kas_bin
    rw [KasT.kasWp_bind]
    refine place_ok hA hinj P (by lia) hs k 0 k (Nat.zero_le _) (Nat.le_refl _) (by lia) (fun i hi => by lia) (fun i h1 h2 => by lia) fun l hl hlo hhi => ?_
    refine bin_ok f _ (k + 1) (P.of (bubble_perm _ _ _)) (by lia) (fun i j hij hj => ?_) h
    have hks : k < p.size := by rw [P.size]; lia
    rw [kk_bubble hks hl, kk_bubble hks hl]
    repeat' split
    all_goals first
      | (exfalso; lia)
      | exact hlo _ (by lia)
      | exact hhi _ (by lia) (by lia)
      | exact hs _ _ (by lia) (by lia)
theorem range_pm : Pm N (List.toArray (List.range N)) := ⟨by simp⟩
include hA hinj in
/-- the sort sorts -/
theorem sort_ok {Q : Array Nat → Shared → Prop} (hN : 2 ≤ N) (h : ∀ q, Pm N q → SrtTo key q N → Q q s) : (kas_sort N).kasWp cmp Q s := by
  unfold kas_sort
  rw [KasT.kasWp_bind]
  refine count_ok hA hinj range_pm hN fun m q P h1 hm hs => ?_
  by_cases hlt : m < N
  · rw [if_pos hlt, show max m 1 = m by lia]
    exact bin_ok hA hinj (N - m) q m P (by lia) hs h
  · rw [if_neg hlt]
    obtain rfl : m = N := by lia
    exact h q P hs
end
end
end Mine

end PQ1
section PQ2
open PySem PySem.W PySem.Calls PyProof.Rows
set_option Elab.async false
set_option maxRecDepth 100000
namespace Mine
section
variable {prog : Program} {w : World} {A : Around} {E : Value → Shared → Prop} {s : Shared} {h₀ : Heap} {L : Addr} {m : Str → Option Value} {news : List (Addr × Obj)}
theorem katTups_of {key : Nat → Int} {h : Heap} : ∀ (vs : List Value) (b : Nat), (∀ i v, vs[i]? = some v → ∃ a t x k, v = .ref a ∧ h.get? a = some { cls := .type "tuple", data := .seq #[.int (key (b + i)) t, x] k }) →
    ∃ fs, KatTups h vs fs ∧ fs.length = vs.length ∧ ∀ v ∈ fs, ∃ k t, v = .int k t
  | [], _, _ => ⟨[], .nil, rfl, fun _ h => nomatch h⟩
  | v :: vs, b, T => by
    obtain ⟨a, t, x, k, rfl, e⟩ := T 0 v rfl
    obtain ⟨fs, h1, h2, h3⟩ := katTups_of (key := key) vs (b + 1) fun i v' hv => by
      have := T (i + 1) v' (by simpa using hv)
      rwa [show b + (i + 1) = b + 1 + i by lia] at this
    refine ⟨_ :: fs, .cons e rfl rfl rfl h1, by simp [h2], fun u hu => ?_⟩
    rcases List.mem_cons.mp hu with rfl | hu
    · exact ⟨_, _, rfl⟩
    · exact h3 u hu
theorem sorted_tups {l : Addr} {vs : List Value} {key : Nat → Int} {Q : Value → Shared → Prop} (F : Fr h₀ L s.heap m) (N : News h₀ L s.heap news) (hl : s.heap.IsList l vs.toArray) (h2 : 2 ≤ vs.length) (h64 : vs.length < 64)
    (tup : ∀ i v, vs[i]? = some v → ∃ a t x k, v = .ref a ∧ (a, ({ cls := .type "tuple", data := .seq #[.int (key i) t, x] k } : Obj)) ∈ news)
    (inj : ∀ i j, i < vs.length → j < vs.length → key i = key j → i = j)
    (ret : ∀ D c h' q, Pm vs.length q → SrtTo key q vs.length → Fr h₀ L h' m → News h₀ L h' ((D, listOf (List.toArray (q.toList.map fun i => vs.getD i Value.none)) c) :: news) → (∀ p ∈ news, p.1 < D) → Q (.ref D) { s with heap := h' }) :
    wpAny (model prog w) A (call (.builtin "sorted") [.ref l]) Q E s := by
  refine kat_sorted F N hl h2 h64 fun D e1 h' F' N' hD => ?_
  have at' : ∀ i v, vs[i]? = some v → ∃ a t x k, v = .ref a ∧ h'.get? a = some { cls := .type "tuple", data := .seq #[.int (key i) t, x] k } := fun i v hv => by
    obtain ⟨a, t, x, k, e, hm⟩ := tup i v hv
    exact ⟨a, t, x, k, e, N'.get (.tail _ hm)⟩
  obtain ⟨fs, hk, hf, hi⟩ := katTups_of (key := key) (h := h') vs 0 fun i v hv => by rw [Nat.zero_add]; exact at' i v hv
  refine kat_kind (T := .type "int") hk (by lia) (fun v hv => ?_) rfl ?_
  · obtain ⟨k, t, rfl⟩ := hi v hv
    exact Looks.of_pure rfl
  · refine sort_ok (key := key) (fun i j C hi hj hij hC => ?_) inj h2 fun q P hs => ?_
    · obtain ⟨a, t, x, k, e, ha⟩ := at' i _ (List.getElem?_eq_getElem hi)
      obtain ⟨b, u, y, k', e', hb⟩ := at' j _ (List.getElem?_eq_getElem hj)
      unfold kas_ask
      have g1 : vs.getD i Value.none = .ref a := by simp [List.getD_eq_getElem?_getD, hi, e]
      have g2 : vs.getD j Value.none = .ref b := by simp [List.getD_eq_getElem?_getD, hj, e']
      rw [g1, g2]
      refine kat_lt (s := { s with heap := h' }) ha rfl hb rfl ?_
      refine kat_cons (wpAny_eqBool_int ?_)
      have hne : (key i == key j) = false := beq_eq_false_iff_ne.mpr fun q => hij (inj i j hi hj q)
      rw [hne]
      exact kat_no (oneLt_int hC)
    · refine KasFin.intro (g := fun o => (D, o) :: news) F' N' ?_ fun h'' c F'' N'' => ?_
      · exact .head fun p hp => Nat.ne_of_lt (hD p hp)
      · exact ret D c h'' q P hs F'' N'' hD
end
end Mine

end PQ2
section PQ3
open PySem PySem.W PySem.Calls PyProof.Rows
set_option Elab.async false
set_option maxRecDepth 100000
namespace Mine
open LCg
section
variable {prog : Program} {w : World} {A : Around} {E : Value → Shared → Prop} {s : Shared} {h₀ : Heap} {L : Addr} {m : Str → Option Value} {env : Env} {news : List (Addr × Obj)}
noncomputable def tupO (vals : Array Value) (k : Nat) : Obj := { cls := .type "tuple", data := .seq vals k }
/-- an element, a new tuple, is made; the ledger stands -/
noncomputable def TEnd (h₀ : Heap) (L : Addr) (m : Str → Option Value) (s : Shared) (tl : List (Addr × Obj)) (Z : Array Value → Prop) (y : Value) (s₂ : Shared) : Prop :=
  ∃ h' tk nw a vals k, y = .ref a ∧ s₂ = { s with heap := h', toks := tk } ∧ Fr h₀ L h' m ∧ News h₀ L h' nw ∧ (∀ p ∈ tl, p ∈ nw) ∧ (a, tupO vals k) ∈ nw ∧ Z vals
theorem TEnd.mk' {tl nw : List (Addr × Obj)} {Z : Array Value → Prop} {a : Addr} {vals : Array Value} {k : Nat} {h' : Heap} {tk : Nat} (F : Fr h₀ L h' m) (N : News h₀ L h' nw) (hs : ∀ p ∈ tl, p ∈ nw) (ha : (a, tupO vals k) ∈ nw) (z : Z vals) : TEnd h₀ L m s tl Z (.ref a) { s with heap := h', toks := tk } := ⟨h', tk, nw, a, vals, k, rfl, rfl, F, N, hs, ha, z⟩
noncomputable def TTurn (prog : Program) (w : World) (A : Around) (h₀ : Heap) (L : Addr) (m : Str → Option Value) (env : Env) (elt : Expr) (x₁ x₂ : Str) (scope : Scope) (cl : List (Str × Addr)) (items : Array Value) (Z : Nat → Array Value → Prop) (news : List (Addr × Obj)) (s : Shared) : Prop :=
  ∀ (i : Nat) x t C oC m₂ h tk tl (E' : Value → Shared → Prop), items[i]? = some x → NsObj oC m₂ → m₂ x₁ = some (.int i t) → m₂ x₂ = some x → (C, oC) ∈ tl → (∀ p ∈ news, p ∈ tl) → Fr h₀ L h m → News h₀ L h tl →
    wpAny (model prog w) A (eval elt (compEnvC scope cl C env)) (TEnd h₀ L m { s with heap := h, toks := tk } tl (Z i)) E' { s with heap := h, toks := tk }
noncomputable def TupsIn (nw : List (Addr × Obj)) (Z : Nat → Array Value → Prop) (ys : List Value) : Prop := ∀ j y, ys[j]? = some y → ∃ a vals k, y = .ref a ∧ (a, tupO vals k) ∈ nw ∧ Z j vals
noncomputable def FinZ (h₀ : Heap) (L : Addr) (m : Str → Option Value) (Q : Value → Shared → Prop) (s : Shared) (n : Nat) (Z : Nat → Array Value → Prop) (news : List (Addr × Obj)) : Prop :=
  ∀ D h tk (ys : List Value) nw, ys.length = n → TupsIn nw Z ys → (∀ p ∈ news, p ∈ nw) → Fr h₀ L h m → News h₀ L h ((D, lst ys) :: nw) → (∀ p ∈ nw, p.1 ≠ D) → Q (.ref D) { s with heap := h, toks := tk }
inductive ESrc (prog : Program) (w : World) (A : Around) (h₀ : Heap) (L : Addr) (m : Str → Option Value) (env : Env) (elt : Expr) (x₁ x₂ : Str) (scope : Scope) (cl : List (Str × Addr)) (Q : Value → Shared → Prop) : Value → Shared → Prop
  | mk {e it l : Addr} {items : Array Value} {k : Nat} {news : List (Addr × Obj)} {Z : Nat → Array Value → Prop} {s₁ : Shared} (hh : A.handled = none) (hsz : items.size ≤ sizeLine) (he0 : IsEnum s₁.heap e it 0 .none) (hit0 : s₁.heap.IsListIter it l 0) (hl : h₀.get? l = some (listOf items k)) (hei : e ≠ it) (heL : e ≠ L) (hiL : it ≠ L) (he₀ : h₀.get? e = none) (hi₀ : h₀.get? it = none)
    (F : Fr h₀ L s₁.heap m) (N : News h₀ L s₁.heap news) (off : ∀ p ∈ news, p.1 ≠ e ∧ p.1 ≠ it) (T : TTurn prog w A h₀ L m env elt x₁ x₂ scope cl items Z news s₁) (fin : FinZ h₀ L m Q s₁ items.size Z news) : ESrc prog w A h₀ L m env elt x₁ x₂ scope cl Q (.ref e) s₁
theorem ESrc.mk' {elt : Expr} {x₁ x₂ : Str} {scope : Scope} {cl : List (Str × Addr)} {Q : Value → Shared → Prop} {l : Addr} {items : Array Value} {k : Nat} {h' : Heap} {tk' : Nat} (Z : Nat → Array Value → Prop) (hh : A.handled = none) (hz : items.size ≤ sizeLine) (F : Fr h₀ L s.heap m) (N : News h₀ L s.heap news) (hl : h₀.get? l = some (listOf items k))
    (he : IsEnum h' (s.heap.objs.size + 1) s.heap.objs.size 0 .none) (hi : h'.IsListIter s.heap.objs.size l 0) (hk : ∀ b o, s.heap.get? b = some o → h'.get? b = some o)
    (turn : TTurn prog w A h₀ L m env elt x₁ x₂ scope cl items Z news { s with heap := h', toks := tk' }) (fin : FinZ h₀ L m Q { s with heap := h', toks := tk' } items.size Z news) :
    ESrc prog w A h₀ L m env elt x₁ x₂ scope cl Q (.ref (s.heap.objs.size + 1)) { s with heap := h', toks := tk' } := by
  have hL : L < s.heap.objs.size := F.ns.lt
  have hL' : @LT.lt Nat _ L s.heap.objs.size := hL
  refine .mk hh hz he hi hl (Nat.succ_ne_self _) ?_ ?_ ?_ ?_ (F.keeps hk) (N.grown hk) (fun p hp => ⟨?_, ?_⟩) turn fin
  · exact Nat.ne_of_gt (Nat.lt_succ_of_lt hL)
  · exact Nat.ne_of_gt hL
  · exact Heap.get?_none_of_le (Nat.le_trans F.above (Nat.le_succ_of_le (Nat.le_of_lt hL)))
  · exact Heap.get?_none_of_le (Nat.le_trans F.above (Nat.le_of_lt hL))
  · exact Nat.ne_of_lt (Nat.lt_succ_of_lt (Heap.lt_size (N p hp).1))
  · exact Nat.ne_of_lt (Heap.lt_size (N p hp).1)
/-- what stands between two turns -/
inductive EnI (h₀ : Heap) (L : Addr) (m : Str → Option Value) (s₂ : Shared) (e it l D C : Addr) (items : Array Value) (Z : Nat → Array Value → Prop) (news : List (Addr × Obj)) : Nat → Shared → Prop
  | mk {h' : Heap} {tk i : Nat} {ys : List Value} {m' : Str → Option Value} {nw : List (Addr × Obj)} {old : Value} (hi : i ≤ items.size) (hyl : ys.length = i) (hen : IsEnum h' e it i old) (hit : h'.IsListIter it l i) (F : Fr h₀ L h' m) (hn : h'.Ns C m') (hD : h'.get? D = some (lst ys)) (N : News h₀ L h' nw)
    (off : ∀ p ∈ nw, p.1 ∉ [e, it, C, D]) (sub : ∀ p ∈ news, p ∈ nw) (hY : TupsIn nw Z ys) : EnI h₀ L m s₂ e it l D C items Z news (items.size + 1 - i) { s₂ with heap := h', toks := tk }
theorem off4 {a e it C D : Addr} (h : a ∉ [e, it, C, D]) : a ≠ e ∧ a ≠ it ∧ a ≠ C ∧ a ≠ D := by simpa only [List.mem_cons, List.not_mem_nil, or_false, not_or] using h
theorem on4 {a e it C D : Addr} (h1 : a ≠ e) (h2 : a ≠ it) (h3 : a ≠ C) (h4 : a ≠ D) : a ∉ [e, it, C, D] := by simp only [List.mem_cons, List.not_mem_nil, or_false, not_or]; exact ⟨h1, h2, h3, h4⟩
noncomputable def off4L (e it C D : Addr) (nw : List (Addr × Obj)) : List (Addr × Obj) := nw.filter fun p => decide (p.1 ∉ [e, it, C, D])
theorem mem_off4L {e it C D : Addr} {nw : List (Addr × Obj)} {p : Addr × Obj} : p ∈ off4L e it C D nw ↔ p ∈ nw ∧ p.1 ∉ [e, it, C, D] := by unfold off4L; rw [List.mem_filter, decide_eq_true_eq]
theorem enumComp_K {elt iter : Expr} {x₁ x₂ : Str} {p₁ p₂ tp : Pos} {kk : Nat} {scope : Scope} {cl : List (Str × Addr)} {pos : Pos} {Q : Value → Shared → Prop} (_F₀ : Fr h₀ L s.heap m)
    (hclos : closureFor scope env = pure cl) (hcell : ∀ y ∈ scope.names, y.2 ≠ .cell) (hkind : scope.kind = .function)
    (hnames : ∀ y ∈ scope.names, y.2 = .local → scope.names.lookup y.1 = some .local) (hx₁ : scope.names.lookup x₁ = some .local) (hx₂ : scope.names.lookup x₂ = some .local) (hxx : x₁ ≠ x₂)
    (h : wpAny (model prog w) A (eval iter env) (ESrc prog w A h₀ L m env elt x₁ x₂ scope cl Q) E s)
    (hs : ∀ x, foldedSetIterable iter env x = pure x := by intro _; rfl) :
    wpAny (model prog w) A (eval (.ListComp elt [⟨.Tuple [.Name x₁ p₁, .Name x₂ p₂] kk tp, iter, [], 0⟩] scope pos) env) Q E s := by
  rw [eval_ListComp]
  refine wpAny_comprehension_free (use := none) rfl hs hclos hkind hnames (wpAny_mono h (fun xv s₂ h₂ => ?_) fun _ _ e => e)
  obtain @⟨e, it, l, items, k0, news, Z, s₂, hh, hsz, he0, hit0, hl, hei, heL, hiL, he₀, hi₀, F, N, off, T, fin⟩ := h₂
  refine wpAny_pyIter_enum he0 ?_
  refine wpAny_newObj_type (wpAny_newFunctionEnv hcell (by intro y hy; simp at hy) (fun h₁ hns₁ hsb₁ => ?_) hkind)
  dsimp only at hns₁ hsb₁ ⊢
  generalize hH2 : s₂.heap.push { cls := .type "list", dict := none, data := .seq ([] : List Value).toArray } = H2 at hns₁ hsb₁ ⊢
  have hC : H2.objs.size = s₂.heap.objs.size + 1 := by rw [← hH2, Heap.size_push]
  have hDC : s₂.heap.objs.size ≠ H2.objs.size := by rw [hC]; exact Nat.ne_of_lt (Nat.lt_succ_self _)
  have below : ∀ b, b < s₂.heap.objs.size → b ≠ H2.objs.size ∧ b ≠ s₂.heap.objs.size := fun b hb => ⟨by rw [hC]; exact Nat.ne_of_lt (Nat.lt_succ_of_lt hb), Nat.ne_of_lt hb⟩
  have old : ∀ b o, s₂.heap.get? b = some o → h₁.get? b = some o := fun b o q => hsb₁.extBut b o (below b (Heap.lt_size q)).1 (Heap.get?_push_of_some _ (hH2 ▸ Heap.get?_push_of_some _ q))
  have hacc : h₁.get? s₂.heap.objs.size = some (lst []) := hsb₁.extBut _ _ hDC (Heap.get?_push_of_some _ (hH2 ▸ Heap.get?_push_size _ rfl))
  have fresh₀ : ∀ a, s₂.heap.objs.size ≤ a → h₀.get? a = none := fun a ha => by
    cases q : h₀.get? a with
    | none => rfl
    | some o' => exact absurd (Heap.lt_size (F.keep a o' q)) (Nat.not_lt.mpr ha)
  have hD₀ := fresh₀ _ (Nat.le_refl s₂.heap.objs.size)
  have hC₀ := fresh₀ H2.objs.size (by rw [hC]; exact Nat.le_succ _)
  have hDL : s₂.heap.objs.size ≠ L := Ne.symm (below L F.ns.lt).2
  have hCL : H2.objs.size ≠ L := Ne.symm (below L F.ns.lt).1
  have hilt : it < s₂.heap.objs.size := by obtain ⟨_, x, _⟩ := hit0; exact Heap.lt_size x
  have helt : e < s₂.heap.objs.size := Heap.lt_size he0
  obtain ⟨heC, heD⟩ := below e helt
  obtain ⟨hiC, hiD⟩ := below it hilt
  generalize hDe : s₂.heap.objs.size = D at *
  generalize hCe : H2.objs.size = C at *
  have hle : l ≠ e := fun q => by rw [q, he₀] at hl; cases hl
  have hli : l ≠ it := fun q => by rw [q, hi₀] at hl; cases hl
  have W := WalksT.enumerate (prog := prog) (w := w) hh e it l hei hle hli items
  have isL : ∀ h' : Heap, (∀ b o, h₀.get? b = some o → h'.get? b = some o) → h'.IsList l items := fun h' kp => ⟨_, kp _ _ hl, rfl, _, rfl⟩
  have n0 : ∀ {p : Addr × Obj}, p ∈ news → p.1 ≠ C ∧ p.1 ≠ D := fun {p} hp => below _ (by have := Heap.lt_size (N p hp).1; rw [hDe] at this; exact this)
  have loop : ∀ s₃ : Shared, s₃ = { s₂ with heap := h₁, toks := s₂.toks + ([] : List (Str × Value)).length } →
      codeAny (model prog w) A (.compLoop (.ListComp elt [⟨.Tuple [.Name x₁ p₁, .Name x₂ p₂] kk tp, iter, [], 0⟩] scope pos) 0 (.ref e) (.ref D) (compEnvC scope cl C env))
        (compPost (model prog w) A E none Q (.ref D) C) s₃ := by
    rintro s₃ rfl
    refine kcp_loop (EnI h₀ L m s₂ e it l D C items Z news) ?_ (items.size + 1)
      (.mk (i := 0) (ys := []) (Nat.zero_le _) rfl (old _ _ he0) (hit0.at fun o q => old _ _ q) (F.keeps old) hns₁ hacc (N.grown old) (fun p hp => on4 (off p hp).1 (off p hp).2 (n0 hp).1 (n0 hp).2) (fun _ h => h) fun j y q => by simp at q)
    rintro k s' @⟨h', tk, i, ys, m', nw, oldv, hi, hyl, hen, hit, F', hn', hD', N', off', sub', hY⟩
    by_cases hlt : i < items.size
    · refine W.item i _ _ _ hlt ⟨⟨_, hen⟩, hit, isL _ F'.keep⟩ fun T' vals h₂ tk₂ hP _ hT hm hk₂ => ?_
      obtain ⟨t, x, hx, rfl⟩ := hP
      have hTw := W.apart _ _ _ hm
      refine W.go _ _ _ _ _ _ _ _ hm fun h₃ hst₃ hk₃ => ?_
      obtain ⟨⟨old3, he₃⟩, hi₃, _⟩ := hst₃
      have up3 : ∀ b o, b ≠ e → b ≠ it → h'.get? b = some o → h₃.get? b = some o := fun b o h1 h2 q =>
        have w : b ∉ [e, it] := fun hm => by
          rcases List.mem_cons.mp hm with r | r
          · exact h1 r
          · exact h2 (List.mem_singleton.mp r)
        hk₃ b o w (hk₂ b o w q)
      have hT₃ : h₃.IsTuple T' #[.int i t, x] := by obtain ⟨o, q, r⟩ := hT; exact ⟨o, hk₃ _ _ hTw q, r⟩
      refine kcp_assign hh hT₃ (lookup_relabel_local hx₁) (lookup_relabel_local hx₂) (by simp [compEnvC, relabel, hkind]) (hn'.at' fun o q => up3 C o (Ne.symm heC) (Ne.symm hiC) q) fun h₄ tk₄ hn₄ hk₄ => ?_
      have up4 : ∀ b o, b ≠ e → b ≠ it → b ≠ C → h'.get? b = some o → h₄.get? b = some o := fun b o h1 h2 h3 q => hk₄ b o h3 (up3 b o h1 h2 q)
      obtain ⟨oC, heC4, hoC⟩ := ns_obj hn₄
      have e4 := hk₄ _ _ heC he₃
      obtain ⟨oi, ei4, ci4, di4⟩ := hi₃
      have ei4' := hk₄ _ _ hiC ei4
      have F4 : Fr h₀ L h₄ m := ⟨F'.ns.at' fun o q => up4 L o (Ne.symm heL) (Ne.symm hiL) (Ne.symm hCL) q, fun b o q => up4 b o (fun r => by rw [r, he₀] at q; cases q) (fun r => by rw [r, hi₀] at q; cases q) (fun r => by rw [r, hC₀] at q; cases q) (F'.keep b o q), F'.above⟩
      have N4 : News h₀ L h₄ ((C, oC) :: (e, _) :: (it, oi) :: (D, lst ys) :: nw) := fun p hp => by
        rcases List.mem_cons.mp hp with rfl | hp
        · exact ⟨heC4, hCL, hC₀⟩
        rcases List.mem_cons.mp hp with rfl | hp
        · exact ⟨e4, heL, he₀⟩
        rcases List.mem_cons.mp hp with rfl | hp
        · exact ⟨ei4', hiL, hi₀⟩
        rcases List.mem_cons.mp hp with rfl | hp
        · exact ⟨up4 _ _ (Ne.symm heD) (Ne.symm hiD) hDC hD', hDL, hD₀⟩
        · obtain ⟨o1, o2, o3, _⟩ := off4 (off' p hp)
          exact ⟨up4 _ _ o1 o2 o3 (N' p hp).1, (N' p hp).2⟩
      refine wpAny_mono (T i x t C oC _ h₄ tk₄ _ _ hx hoC (by simp [hxx]) (by simp) (.head _) (fun p hp => .tail _ (.tail _ (.tail _ (.tail _ (sub' p hp))))) F4 N4) (fun y s₅ h₅ => ?_) fun _ _ q => q
      obtain ⟨h₅, tk₅, nw₅, a, vals, k, rfl, rfl, F5, N5, sub5, ha, hz⟩ := h₅
      have mC := sub5 _ (.head _)
      have me := sub5 _ (.tail _ (.head _))
      have mi := sub5 _ (.tail _ (.tail _ (.head _)))
      have mD := sub5 _ (.tail _ (.tail _ (.tail _ (.head _))))
      have zD := (N5 _ mD).1
      refine append_at (hsz := by show ys.toArray.size ≤ sizeLine; rw [List.size_toArray, hyl]; exact Nat.le_trans hi hsz) zD fun h₆ hs₆ hD₆ => ?_
      have keep6 : ∀ p ∈ nw₅, p.1 ≠ D → h₆.get? p.1 = some p.2 := fun p hp hd => hs₆.extBut _ _ hd (N5 p hp).1
      refine ⟨items.size + 1 - (i + 1), by lia, .mk (i := i + 1) (ys := ys ++ [.ref a]) (nw := off4L e it C D nw₅) (old := old3) hlt (by rw [List.length_append, List.length_singleton, hyl]) (keep6 _ me heD) ⟨oi, keep6 _ mi hiD, ci4, di4⟩
        (F5.change hs₆ hDL hD₀) ((hoC.ns (N5 _ mC).1).sameBut hs₆ (Ne.symm hDC)) (hD₆.trans (congrArg some (lst_snoc ys _))) (fun p hp => ?_) (fun p hp => (mem_off4L.mp hp).2) (fun p hp => ?_) fun j y hj => ?_⟩
      · obtain ⟨h1, h2⟩ := mem_off4L.mp hp
        exact ⟨keep6 p h1 (off4 h2).2.2.2, (N5 p h1).2⟩
      · exact mem_off4L.mpr ⟨sub5 _ (.tail _ (.tail _ (.tail _ (.tail _ (sub' p hp))))), off' p (sub' p hp)⟩
      · have keepT : ∀ a' vals' k', (a', tupO vals' k') ∈ nw₅ → (a', tupO vals' k') ∈ off4L e it C D nw₅ := fun a' vals' k' hm => by
          refine mem_off4L.mpr ⟨hm, on4 (neObj N5 hm me ?_) (neObj N5 hm mi ?_) (neObj N5 hm mC ?_) (neObj N5 hm mD ?_)⟩
          · intro q; exact absurd (congrArg Obj.cls q) (by simp [tupO])
          · intro q; have := congrArg Obj.cls q; rw [ci4] at this; exact absurd this (by simp [tupO])
          · intro q; obtain ⟨es, ep, hd, _⟩ := hoC; have := congrArg Obj.data q; rw [hd] at this; cases this
          · intro q; exact absurd (congrArg Obj.cls q) (by simp [tupO])
        rcases Nat.lt_or_ge j ys.length with h1 | h1
        · rw [List.getElem?_append_left h1] at hj
          obtain ⟨a', vals', k', rfl, hm', hz'⟩ := hY j y hj
          exact ⟨a', vals', k', rfl, keepT _ _ _ (sub5 _ (.tail _ (.tail _ (.tail _ (.tail _ hm'))))), hz'⟩
        · rw [List.getElem?_append_right h1] at hj
          have : j - ys.length = 0 := by
            rcases Nat.eq_zero_or_pos (j - ys.length) with q | q
            · exact q
            · rw [List.getElem?_eq_none (by simp; lia)] at hj; cases hj
          rw [this] at hj
          cases hj
          obtain rfl : j = i := by lia
          exact ⟨a, vals, k, rfl, keepT _ _ _ ha, hz⟩
    · obtain rfl : i = items.size := Nat.le_antisymm hi (Nat.not_lt.mp hlt)
      refine W.done _ _ _ ⟨⟨_, hen⟩, hit, isL _ F'.keep⟩ fun h₂ tk₂ hk₂ => ?_
      have up2 : ∀ b o, b ≠ e → b ≠ it → h'.get? b = some o → h₂.get? b = some o := fun b o h1 h2 q => hk₂ b o (fun hm => by
          rcases List.mem_cons.mp hm with r | r
          · exact h1 r
          · exact h2 (List.mem_singleton.mp r)) q
      refine ⟨m', hn'.at' fun o q => up2 C o (Ne.symm heC) (Ne.symm hiC) q, fun h'' hs'' => fin D h'' tk₂ ys nw hyl hY sub' ?_ (fun p hp => ?_) fun p hp => (off4 (off' p hp)).2.2.2⟩
      · exact (⟨F'.ns.at' fun o q => up2 L o (Ne.symm heL) (Ne.symm hiL) q, fun b o q => up2 b o (fun r => by rw [r, he₀] at q; cases q) (fun r => by rw [r, hi₀] at q; cases q) (F'.keep b o q), F'.above⟩ : Fr h₀ L h₂ m).change hs'' hCL hC₀
      · rcases List.mem_cons.mp hp with rfl | hp
        · exact ⟨hs''.extBut _ _ hDC (up2 _ _ (Ne.symm heD) (Ne.symm hiD) hD'), hDL, hD₀⟩
        · obtain ⟨o1, o2, o3, _⟩ := off4 (off' p hp)
          exact ⟨hs''.extBut _ _ o3 (up2 _ _ o1 o2 (N' p hp).1), (N' p hp).2⟩
  exact codeAny_compStart_list (loop _ rfl) (wpAny_pyIter_enum (old _ _ he0) (loop _ rfl))
end
end Mine

end PQ3
section PR2
open PySem PySem.W PySem.Calls PyProof.Rows
set_option Elab.async false
set_option maxRecDepth 100000
namespace Mine
open Pl (R krus krus_snoc keepR clos Conn)
section
variable {w : World} {mean : ExcName → Option Value} {mg mb : Str → Option Value} {A : Around} {s : Shared} {Q E : Value → Shared → Prop} {g : Heap} {L : Addr} {m : Str → Option Value} {news tl im : List (Addr × Obj)} {h h' : Heap}
theorem listItemB {value slice : Expr} {D : Addr} {vs : List Value} {n j : Nat} {t : Tok} {v : Value} (F : Fr g L s.heap m) (hm : g.get? D = some (W.listOf vs.toArray n)) (hv : vs[j]? = some v) (hj : j < 7) (q : Q v s)
    (hs : subscripted slice false (.ref D) (.int (j : Int) t) = operate [.ref D, .int (j : Int) t] (getItem (.ref D) (.int (j : Int) t)) := by with_unfolding_all rfl) :
    wpAny (model prg w) A (subscriptTail value slice (.ref D) (.int (j : Int) t)) Q E s := by
  have hl : s.heap.IsList D vs.toArray := ⟨_, F.keep _ _ hm, rfl, _, rfl⟩
  refine tail_any hl.typeIs slot_list_getitem.lookup ?_ hs
  refine wpAny_getItem_list hl (by omega) (by have : (1000 : Int) < 2 ^ 63 := by decide
                                              lia) (by simpa using hv) q
end
/-- names that a frame holds, over the rest -/
noncomputable def chainF (l : List (Str × Value)) (m : Str → Option Value) : Str → Option Value := l.foldr (fun p f => fun y => if y = p.1 then some p.2 else f y) m
theorem chainL {m : Str → Option Value} : ∀ {l : List (Str × Value)}, (∀ p ∈ l, m p.1 = some p.2) → m = chainF l m
  | [], _ => rfl
  | p :: l, h => by
    have ih := chainL (m := m) (l := l) fun q hq => h q (.tail _ hq)
    funext y
    show m y = if y = p.1 then some p.2 else chainF l m y
    by_cases e : y = p.1
    · rw [if_pos e, e]; exact h p (.head _)
    · rw [if_neg e, ← ih]
theorem chain7 {m : Str → Option Value} {a b c d e f g : Str} {va vb vc vd ve vf vg : Value} (ha : m a = some va) (hb : m b = some vb) (hc : m c = some vc) (hd : m d = some vd) (he : m e = some ve) (hf : m f = some vf) (hg : m g = some vg) :
    m = chainF [(a, va), (b, vb), (c, vc), (d, vd), (e, ve), (f, vf), (g, vg)] m := chainL fun p hp => by
  simp only [List.mem_cons, List.not_mem_nil, or_false] at hp
  rcases hp with rfl | rfl | rfl | rfl | rfl | rfl | rfl <;> assumption
noncomputable def absM (r mk : Nat) : Nat := if mk &&& r ≠ 0 then r ||| mk else r
noncomputable def passM (ms : List Nat) (r : Nat) : Nat := ms.foldl absM r
noncomputable def passN (ms : List Nat) : Nat → Nat → Nat
  | 0, r => r
  | k + 1, r => passM ms (passN ms k r)
theorem bitAnd_nat (a b : Nat) : Builtin.bitAnd (a : Int) (b : Int) = ((a &&& b : Nat) : Int) := by
  unfold Builtin.bitAnd
  have ha : decide (0 ≤ (a : Int)) = true := decide_eq_true (Int.natCast_nonneg a)
  have hb : decide (0 ≤ (b : Int)) = true := decide_eq_true (Int.natCast_nonneg b)
  rw [ha, hb]; rfl
theorem bitNot_eq (x : Int) : Builtin.bitNot x = -x - 1 := by unfold Builtin.bitNot; lia
theorem bitOr_nat (a b : Nat) : Builtin.bitOr (a : Int) (b : Int) = ((a ||| b : Nat) : Int) := by
  unfold Builtin.bitOr Builtin.bitAnd
  have ha : decide (0 ≤ Builtin.bitNot (a : Int)) = false := decide_eq_false (by rw [bitNot_eq]; lia)
  have hb : decide (0 ≤ Builtin.bitNot (b : Int)) = false := decide_eq_false (by rw [bitNot_eq]; lia)
  rw [ha, hb]
  show Builtin.bitNot (Builtin.bitNot _) = _
  have e : ∀ x : Int, Builtin.bitNot (Builtin.bitNot x) = x := fun x => by rw [bitNot_eq, bitNot_eq]; lia
  rw [e, e, e]; rfl
theorem absM_yes {r mk : Nat} (h : ¬ Builtin.bitAnd (mk : Int) (r : Int) = 0) : Builtin.bitOr (r : Int) (mk : Int) = ((absM r mk : Nat) : Int) := by
  rw [bitAnd_nat] at h
  rw [bitOr_nat]
  unfold absM
  rw [if_pos fun e => h (by rw [e]; rfl)]
theorem absM_no {r mk : Nat} (h : Builtin.bitAnd (mk : Int) (r : Int) = 0) : absM r mk = r := by
  rw [bitAnd_nat] at h
  unfold absM
  rw [if_neg fun e => e (by lia)]
noncomputable def maskR (e : R) : Nat := 2 ^ e.o ||| 2 ^ e.t
theorem maskR_bit (e : R) (x : Nat) : (maskR e).testBit x = (decide (e.o = x) || decide (e.t = x)) := by
  unfold maskR
  rw [Nat.testBit_or, Nat.testBit_two_pow, Nat.testBit_two_pow]
theorem maskR_hit (e : R) (r : Nat) : (maskR e &&& r = 0) ↔ (r.testBit e.o || r.testBit e.t) = false := by
  constructor
  · intro h
    have b : ∀ x, (maskR e &&& r).testBit x = false := fun x => by rw [h]; exact Nat.zero_testBit x
    have b1 := b e.o
    have b2 := b e.t
    rw [Nat.testBit_and, maskR_bit] at b1 b2
    simp at b1 b2
    simp [b1, b2]
  · intro h
    simp only [Bool.or_eq_false_iff] at h
    apply Nat.eq_of_testBit_eq
    intro x
    rw [Nat.testBit_and, maskR_bit, Nat.zero_testBit]
    by_cases h1 : e.o = x
    · subst h1; rw [h.1, Bool.and_false]
    · by_cases h2 : e.t = x
      · subst h2; rw [h.2, Bool.and_false]
      · simp [h1, h2]
theorem absM_bit (r : Nat) (e : R) : (fun x => (absM r (maskR e)).testBit x) = Pl.absorb (fun x => r.testBit x) e := by
  funext x
  unfold absM Pl.absorb
  cases hc : (r.testBit e.o || r.testBit e.t) with
  | true =>
    have h1 : ¬ (maskR e &&& r = 0) := fun q => by
      rw [(maskR_hit e r).mp q] at hc
      cases hc
    rw [if_pos h1]
    have d : ∀ a : Nat, decide (a = x) = (x == a) := fun a => by
      rw [Bool.eq_iff_iff, decide_eq_true_iff, beq_iff_eq]; exact eq_comm
    show (r ||| maskR e).testBit x = (r.testBit x || x == e.o || x == e.t)
    rw [Nat.testBit_or, maskR_bit, Bool.or_assoc, d, d]
  | false => rw [if_neg (fun q => q ((maskR_hit e r).mpr hc)), if_neg Bool.false_ne_true]
theorem passM_bit : ∀ (l : List R) (r : Nat), (fun x => (passM (l.map maskR) r).testBit x) = Pl.pass l (fun x => r.testBit x)
  | [], _ => rfl
  | e :: l, r => by
    show (fun x => (passM (l.map maskR) (absM r (maskR e))).testBit x) = Pl.pass l (Pl.absorb (fun x => r.testBit x) e)
    rw [passM_bit l, absM_bit]
theorem clos_bit (l : List R) (o x : Nat) : (passN (l.map maskR) 4 (2 ^ o)).testBit x = clos l o x := by
  have h0 : (fun x => (2 ^ o).testBit x) = fun x => x == o := by
    funext y
    rw [Nat.testBit_two_pow, Bool.eq_iff_iff, decide_eq_true_iff, beq_iff_eq]; exact eq_comm
  have e : (fun x => (passN (l.map maskR) 4 (2 ^ o)).testBit x) = clos l o := by
    show (fun x => (passM (l.map maskR) (passM (l.map maskR) (passM (l.map maskR) (passM (l.map maskR) (2 ^ o))))).testBit x) = _
    rw [passM_bit, passM_bit, passM_bit, passM_bit, h0]; rfl
  exact congrFun e x
theorem bit_of (r k : Nat) : (Builtin.bitAnd ((r : Int).fdiv (2 ^ k)) 1 = 0) ↔ r.testBit k = false := by
  have e : (r : Int).fdiv (2 ^ k) = ((r / 2 ^ k : Nat) : Int) := by
    have e2 : (2 ^ k : Int) = ((2 ^ k : Nat) : Int) := by rw [Int.natCast_pow]; rfl
    rw [e2, Int.fdiv_eq_ediv_of_nonneg _ (Int.natCast_nonneg _)]; rfl
  rw [e]
  have := bitAnd_nat (r / 2 ^ k) 1
  have o : ((1 : Nat) : Int) = 1 := rfl
  rw [o] at this
  rw [this, Nat.and_one_is_mod, Nat.testBit_eq_decide_div_mod_eq]
  constructor
  · intro h; exact decide_eq_false (by lia)
  · intro h; have := of_decide_eq_false h; lia
theorem maskOf (cj : Int) (e : R) (ho : e.o = oneF cj) (ht : e.t = twoF cj) : Builtin.bitOr (1 * 2 ^ (cj.fmod 5).toNat) (1 * 2 ^ ((cj.fmod 5 + 1 + (cj.fdiv 5).fmod 4).fmod 5).toNat) = ((maskR e : Nat) : Int) := by
  have e1 : (1 * 2 ^ (cj.fmod 5).toNat : Int) = ((2 ^ oneF cj : Nat) : Int) := by rw [Int.one_mul, Int.natCast_pow]; rfl
  have e2 : (1 * 2 ^ ((cj.fmod 5 + 1 + (cj.fdiv 5).fmod 4).fmod 5).toNat : Int) = ((2 ^ twoF cj : Nat) : Int) := by rw [Int.one_mul, Int.natCast_pow]; rfl
  rw [e1, e2, bitOr_nat]
  unfold maskR
  rw [ho, ht]
theorem told_str : ∀ o, o < 5 → ∀ t, t < 5 → ∀ i, i < 7 → nm o ++ Str.ofString "/" ++ nm t ++ Str.ofString "/" ++ dg i = rd o t i := by decide +kernel
theorem toldText (cj : Int) {j : Nat} (h : j < 7) : Txt.item (Str.ofString "abcde") (cj.fmod 5) ++ Str.ofString "/" ++ Txt.item (Str.ofString "abcde") ((cj.fmod 5 + 1 + (cj.fdiv 5).fmod 4).fmod 5) ++ Str.ofString "/" ++ Str.ofString (toString (j : Int)) = rd (oneF cj) (twoF cj) j := by
  rw [item_fmod, item_fmod, text_dg j h]
  exact told_str _ (oneF_lt cj) _ (twoF_lt cj) _ h
noncomputable def roadOf (cs : List Int) (j : Nat) : R := toR (ruleOf j (cs.getD j 0))
noncomputable def lqOf (cs : List Int) (q : Array Nat) : List R := q.toList.map (roadOf cs)
theorem roadOf_rank (cs : List Int) (j : Nat) : (roadOf cs j).rank = rankF j (cs.getD j 0) := by
  show 1000000 - (1000000 - rankF j (cs.getD j 0)) = _
  lia
theorem srt_of {cs : List Int} {q : Array Nat} (h7 : cs.length = 7) (P : Pm 7 q) (hs : SrtTo (fun j => rankF j (cs.getD j 0)) q 7) : Srt (rulesOf cs) (lqOf cs q) := by
  have e : (List.range 7).map (roadOf cs) = (rulesOf cs).map toR := by
    apply List.ext_getElem?
    intro i
    rw [List.getElem?_map, List.getElem?_map, rulesOf_get]
    by_cases hi : i < 7
    · have h1 : cs[i]? = some cs[i] := List.getElem?_eq_getElem (by lia)
      rw [List.getElem?_range hi, h1]
      show some (roadOf cs i) = some (toR (ruleOf i cs[i]))
      unfold roadOf
      rw [List.getD_eq_getElem?_getD, h1]; rfl
    · rw [List.getElem?_eq_none (by simp; lia), List.getElem?_eq_none (by lia)]; rfl
  refine ⟨by rw [← e]; exact P.perm.map _, ?_⟩
  unfold lqOf
  rw [List.pairwise_map, List.pairwise_iff_getElem]
  intro i j hi hj hij
  have z : q.toList.length = 7 := by rw [Array.length_toList, P.size]
  have := hs i j hij (by lia)
  unfold kk at this
  have gi : q.getD i 0 = q.toList[i] := by
    have : i < q.size := by rw [P.size]; lia
    simp [Array.getD, this]
  have gj : q.getD j 0 = q.toList[j] := by
    have : j < q.size := by rw [P.size]; lia
    simp [Array.getD, this]
  rw [gi, gj] at this
  rw [roadOf_rank, roadOf_rank]
  exact this
theorem mask0 (ms : List Nat) (cj : Int) : (1 * 2 ^ (cj.fmod 5).toNat : Int) = ((passN ms 0 (2 ^ oneF cj) : Nat) : Int) := by
  show _ = ((2 ^ (cj.fmod 5).toNat : Nat) : Int)
  rw [Int.one_mul, Int.natCast_pow]; rfl
theorem passM_take {ms : List Nat} {i mk r : Nat} (h : ms[i]? = some mk) : passM (ms.take (i + 1)) r = absM (passM (ms.take i) r) mk := by
  unfold passM
  rw [List.take_add_one, h, List.foldl_append]; rfl
end Mine

end PR2
section PF1
theorem Mine.rs_F1 : True := by
  w_top off
  first | walk1 | trivial
open PySem PySem.W PySem.Calls PyProof.Rows
set_option Elab.async false
set_option maxRecDepth 100000
set_option pp.deepTerms false
set_option pp.deepTerms.threshold 8
namespace Mine
theorem fillKF1 : (PySem.Challenge.rw_il0068_01 = PySem.Challenge.rw_il0068_01 ∧ hd.heap_39 = hd.heap_39) := by k_fill; exact ⟨rfl, rfl⟩
local macro_rules | `(tactic| walk_at "exec For Name Constant cons nil") => `(tactic| (k_here; k_dflt (refine wpAny_For ?_)))
local macro_rules | `(tactic| walk_at "exec For Name Call cons nil") => `(tactic| (k_here; k_dflt (refine wpAny_For ?_)))
local macro_rules | `(tactic| walk_at "pyIter str") => `(tactic| (k_here; k_dflt (refine Stop.go ?_)))
section
variable {w : World} {mean : ExcName → Option Value} {mg mb : Str → Option Value} {A : Around} {s : Shared} {Q E : Value → Shared → Prop} {g : Heap} {L : Addr} {m : Str → Option Value} {news : List (Addr × Obj)} {dp un : Nat} {fr : Option (List Env)} {gd : Option (List Code)}
local macro_rules | `(tactic| walk_at "call ref") => `(tactic| (k_here; k_dflt (first
  | (refine' joinR_use (by k_asm) (by k_asm) (by k_asm) (by k_asm) (by exact rfl) (by tb_start) (by tb_start) (by exact jPa (by assumption)) ?_; k_whole; intro h' tk' t' F' N'; (try k_sweep)))))
inductive J2 (w : World) (mean : ExcName → Option Value) (mg mb : Str → Option Value) (p b : Addr) (a : Ads) (all : List Rule) (i : Nat) (m : Str → Option Value) (nw : List (Addr × Obj)) : Prop
  | mk (vs im : _) (hz1 : Bk w mean mg mb p b a 5 vs (rulesAfter all i) nw im) (hz2 : ∀ q, (vs q).length ≤ 2 * i) (hz3 : m "books" = some (.ref b)) (hz4 : m "paths" = some (.ref p)) : J2 w mean mg mb p b a all i m nw
theorem allLt_all {d : Addr} {l : List (Addr × Obj)} (h : ∀ p ∈ l, p.1 < d) : ∀ p ∈ l, p.1 ≠ d := fun p hp => Nat.ne_of_lt (h p hp)
local macro_rules | `(tactic| k_all) => `(tactic| exact allLt_all (by assumption))
noncomputable def rsJ (rs : Nat → List Rule) (r : Rule) (j : Nat) : Nat → List Rule := if j = 0 then rs else if j = 1 then updA rs r.o (rs r.o ++ [r]) else putRule rs r
inductive J3 (w : World) (mean : ExcName → Option Value) (mg mb : Str → Option Value) (p b : Addr) (a : Ads) (rs : Nat → List Rule) (r : Rule) (ru : Addr) (n : Nat) (im own : List (Addr × Obj)) (j : Nat) (m : Str → Option Value) (nw : List (Addr × Obj)) : Prop
  | mk (vs : _) (hz1 : Bk w mean mg mb p b a 5 vs (rsJ rs r j) nw im) (hz2 : ∀ q, (vs q).length ≤ n + j) (hz3 : ∀ y ∈ own, y ∈ nw) (hz4 : m "books" = some (.ref b)) (hz5 : m "paths" = some (.ref p)) (hz6 : m "rule" = some (.ref ru)) : J3 w mean mg mb p b a rs r ru n im own j m nw
theorem allNe_all {d : Addr} {l : List (Addr × Obj)} (h : AllNe d l) : ∀ p ∈ l, p.1 ≠ d := by
  induction l with
  | nil => exact fun p hp => nomatch hp
  | cons q r ih =>
    intro p hp
    obtain ⟨h1, h2⟩ := h
    rcases List.mem_cons.mp hp with rfl | hp
    · exact h1
    · exact ih h2 p hp
inductive J1 (w : World) (mean : ExcName → Option Value) (mg mb : Str → Option Value) (p b r : Addr) (i : Nat) (m : Str → Option Value) (nw : List (Addr × Obj)) : Prop
  | mk (a im : _) (hz1 : Bk w mean mg mb p b a i cards norules nw im) (hz2 : m "books" = some (.ref b)) (hz3 : m "paths" = some (.ref p)) (hz4 : m "roads" = some (.ref r)) : J1 w mean mg mb p b r i m nw
set_option maxHeartbeats 40000000 in
theorem books_ok {p r : Addr} {nr : Nat} {as : List Value} {all : List Rule} {op : Obj} (hp : s.heap.get? p = some op) (hop : op.IsDictOf (PySem.strKind prg w) []) (l9 : @LT.lt Nat _ 229 p) (hr : s.heap.get? r = some (W.listOf as.toArray nr)) (h229 : s.heap.get? 229 = some (tabObj #[])) (hra : RoadsAt s.heap as all) (hok : ∀ r ∈ all, r.Ok) (hl7 : all.length ≤ 7)
   (G : Gd w mean mg mb [p, 229] s.heap) (hdp : dp < 350) (hun : un < 250)
   (ret : ∀ h' tk b a vs tl im, Stp s.heap h' [p, 229] → (∀ y ∈ tl, h'.get? y.1 = some y.2) → (∀ y ∈ tl, y.1 ∈ [p, 229] ∨ s.heap.get? y.1 = none) → Bk w mean mg mb p b a 5 vs (rulesAfter all all.length) tl im → (∀ q, (vs q).length ≤ 2 * all.length) → @LT.lt Nat _ p b → Q (.ref b) { s with heap := h', toks := tk }) :
   wpAny (model prg w) (At dp un fr gd) (call (.ref 241) [.ref r, .ref p]) Q E s := by
  refine wpAny_call ?_
  refine' enter (news := [(p, op), (229, tabObj #[])]) ?k0 ?k1 ?k2 ?k3 ?k4 ?k5 ?k6 ?_ ?c2 ?c3 ?c4 ?c5
  case k0 => assumption
  case k1 => exact fun y hy => by rcases List.mem_cons.mp hy with rfl | hy; exact hp; rcases List.mem_singleton.mp hy with rfl; exact h229
  case k2 => k_is
  case k3 => k_is
  case k4 => tb_start
  case k5 => exact BindsTo.of_eq rfl
  case k6 => exact locs rfl
  case c2 => exact rfl
  case c3 => exact rfl
  case c4 => exact rfl
  case c5 => decide
  intro g' L' h' F' N' X' T' eg eL
  (try dsimp only); (try k_fold)
  have hrg : g'.get? r = some (W.listOf as.toArray nr) := by
    rw [eg]
    refine hideAll_get _ hr fun hm => ?_
    rcases List.mem_cons.mp hm with hm | hm
    · obtain ⟨_, _, hx, _⟩ := hop
      rw [hm, hp] at hr; cases hr
      have := hx.1
      simp at this
    · rw [List.mem_singleton.mp hm, h229] at hr; cases hr
  k_steps
  refine Stop.mk ?_
  rename Fr _ _ _ _ => F1
  rename News _ _ _ _ => N1
  rename Addr => b
  rename (Obj.IsDictOf (PySem.strKind prg w) _ []) => hob
  have hpb : @LT.lt Nat _ p b := by lia
  refine' for_str (J1 w mean mg mb p b r) ?hh ?hx ?F ?N ?hj ?turn ?done
  case hh => exact rfl
  case hx => decide +kernel
  case F => exact F1
  case N => exact N1
  case hj =>
    refine ⟨⟨fun _ => 0, fun _ => 0, fun _ => 0, fun _ => 0⟩, [], ⟨⟨op, [], by simp, hop, rfl, fun q h => absurd h (Nat.not_lt_zero _)⟩, ⟨_, [], .head _, hob, rfl, fun q h => absurd h (Nat.not_lt_zero _)⟩, ⟨_, .tail _ (.tail _ (.head _)), .inl rfl⟩, (fun y hy => nomatch hy), (fun y hy => nomatch hy), fun q h => absurd h (Nat.not_lt_zero _), fun q h => absurd h (Nat.not_lt_zero _), fun q h => absurd h (Nat.not_lt_zero _), ⟨neN (by lia), neN (by lia), neN (by lia), fun q h => absurd h (Nat.not_lt_zero _), fun q q' h => absurd h (Nat.not_lt_zero _)⟩⟩, rfl, rfl, rfl⟩
  case turn =>
    rintro i c u m₂ nw h₂ tk₂ own P hc ⟨a, im, B, hm1, hm2, hm3⟩ hown F2 N2 next hbrk hrt
    have hi : i < 5 := by
      rcases Nat.lt_or_ge i 5 with h | h
      · exact h
      · rw [Array.getElem?_eq_none (by exact h)] at hc; cases hc
    have hcc : (⟨#[c]⟩ : Str) = nm i := by
      have : ∀ i, i < 5 → (Str.ofString "abcde").cps[i]? = some (97 + i) := by decide
      rw [this i hi] at hc
      cases hc
      rfl
    rw [hcc]
    have O := B.bkOff hown
    replace B := B.sub (tl' := nw ++ own) fun y hy => List.mem_append_left _ hy
    have hO : ∀ y ∈ own, y ∈ nw ++ own := fun y hy => List.mem_append_right _ hy
    generalize nw ++ own = tl at B hO N2
    rw [chain3 hm1 hm2 hm3] at F2
    clear F1 N1 hbrk hrt hm1 hm2 hm3 hc hcc hrg
    dsimp only
    obtain ⟨op1, pk, hp1, hpD, hpk, hpv⟩ := B.hp
    obtain ⟨ob1, kvs, hb1, hbD, hbk, hbv⟩ := B.hb
    obtain ⟨o9, h9, hT9⟩ := B.h9
    obtain ⟨d1, d2, d3, d4, d5⟩ := B.dist
    have hB := Nx.mk (C := True) fun _ => And.intro B O
    clear B O
    k_steps
    rename Fr _ _ _ _ => F3
    rename News _ _ _ _ => N3
    refine' setT F3 N3 hp1 hpD (by have := congrArg List.length hpk; simp at this; lia) ?_
    intro h3 tk3 op2 tl3 F4 N4 M3 hpD2
    k_steps
    rename Fr _ _ _ _ => F5
    rename News _ _ _ _ => N5
    refine' entry_use F5 N5 ?k3 ?k4 rfl ?k6 ?k7 ?p0 ?p1 ?p2 ?_
    case k3 => k_asm
    case k4 => k_asm
    case k6 => tb_start
    case k7 => tb_start
    case p0 => k_is
    case p1 => k_is
    case p2 => k_is
    k_whole
    intro x dx ua rl t1 t2 t3 t4 h4 tk4 F6 N6 l1 l2 l3 l4
    k_steps
    rename Fr _ _ _ _ => F7
    rename News _ _ _ _ => N7
    have hb2 : (b, ob1) ∈ tl3 := M3.old _ hb1 d1.symm
    refine' setT F7 N7 (.tail _ (.tail _ (.tail _ (.tail _ hb2)))) hbD (by have := congrArg List.length hbk; simp at this; lia) ?_
    intro h5 tk5 ob2 tl5 F8 N8 M5 hbD2
    have hget : valueAt (stored kvs (Str.ofString "/" ++ nm i) (.ref x)) (Str.ofString "/" ++ nm i) = some (.ref x) := stored_at
    k_steps
    rename Fr _ _ _ _ => F9
    rename News _ _ _ _ => N9
    have lb : @LT.lt Nat _ b dx := allLt_lt l1 _ hb2
    have hx5 : (x, instObj 59 dx) ∈ tl5 := M5.old _ (.head _) (neN (by lia))
    have hdx5 : (dx, dictOf (entD w.params t1 t2 t3 t4 (.ref ua) (.ref rl) .none .none) 4) ∈ tl5 := M5.old _ (.tail _ (.head _)) (neN (by lia))
    have hu5 : (ua, W.listOf #[] 0) ∈ tl5 := M5.old _ (.tail _ (.tail _ (.head _))) (neN (by lia))
    have hl5 : (rl, W.listOf #[] 0) ∈ tl5 := M5.old _ (.tail _ (.tail _ (.tail _ (.head _)))) (neN (by lia))
    refine' dictItem N9 M5.new hbD2 hget ?_
    k_whole
    k_steps
    rename Fr _ _ _ _ => F10
    rename News _ _ _ _ => N10
    refine' extT F10 N10 (.tail _ hu5) (.head _) (by simp) (by first | exact Bool.false_ne_true | decide) (by decide +kernel) (show 0 + 2 ≤ sizeLine + 1 by decide +kernel) ?_
    intro h6 tk6 tl6 F11 N11 M6
    k_steps
    obtain ⟨B, O⟩ := hB.go trivial
    have B' := B.made hi hpk hpv hbk hbv M3 hpD2 M5 hbD2 (fun y hy => .tail _ hy) M6 ⟨⟨_, rfl⟩, ⟨_, rfl⟩, trivial⟩ l1 l2 l3 l4
    have lown : ∀ q ∈ own, @LT.lt Nat _ q.1 dx := fun q hq => allLt_lt l1 _ (M3.old _ (hO q hq) (O q hq).1)
    refine next .next h6 tk6 _ (offOwn own tl6) (.inl rfl) F11 (newsSub N11 ?_) ⟨_, _, B'.drop (O.made hi lown l2 l3 l4), rfl, rfl, rfl⟩ fun y hy => .inr (.inr (mem_offOwn.mp hy).2)
    intro y hy
    rcases List.mem_append.mp hy with hy | hy
    · exact (mem_offOwn.mp hy).1
    · have := lown y hy
      exact M6.old _ (.tail _ (M5.old _ (.tail _ (.tail _ (.tail _ (.tail _ (M3.old _ (hO y hy) (O y hy).1))))) (O y hy).2.1)) (neN (by lia))
  case done =>
    rintro m₂ nw h₂ tk₂ ⟨a, im, B, hm1, hm2, hm3⟩ F2 N2
    rw [chain3 hm1 hm2 hm3] at F2
    clear F1 N1 hm1 hm2 hm3
    dsimp only
    k_steps
    refine wpAny_For ?_
    k_steps
    rename Fr _ _ _ _ => F3
    rename News _ _ _ _ => N3
    refine' for_vals (vs := as) (J2 w mean mg mb p b a all) ?hh ?hl ?hlL ?htg ?F ?N ?hj ?hc ?turn ?done
    case hh => exact rfl
    case hl => exact ⟨_, F3.keep _ _ hrg, rfl, _, rfl⟩
    case hlL => exact lstNe F3 (F3.keep _ _ hrg)
    case htg => exact .inr ⟨⟨_, _, _, rfl⟩, fun v hv => by obtain ⟨i, hi⟩ := List.mem_iff_getElem?.mp hv; obtain ⟨_, x, _, _, _, e, _⟩ := hra.2 i v hi; exact ⟨x, e⟩⟩
    case F => exact F3
    case N => exact N3
    case hj => exact ⟨cards, im, B, fun q => Nat.zero_le _, rfl, rfl⟩
    case hc => exact fun y hy e => by have := (N3 y hy).2.2; rw [e, hrg] at this; cases this
    case turn =>
      rintro i v m₄ nw₄ h₄ tk₄ own P hv ⟨vs, im₄, B, hlen, hn1, hn2⟩ hown F4 N4 next hbrk hrt
      obtain ⟨rl, x, t, t', hrl, rfl, hx⟩ := hra.2 i v hv
      have hxg : g'.get? x = some { cls := .type "tuple", data := .seq #[.int (1000000 - rl.reach) t, .str rl.road t'] } := by
        rw [eg]
        refine hideAll_get _ hx fun hm => ?_
        rcases List.mem_cons.mp hm with hm | hm
        · obtain ⟨_, _, hxx, _⟩ := hop
          rw [hm, hp] at hx; cases hx
          have := hxx.1
          simp at this
        · rw [List.mem_singleton.mp hm, h229] at hx; cases hx
      have ok := hok rl (List.mem_of_getElem? hrl)
      have hE : EndsOk rl.road (nm rl.o) (nm rl.t) := ends_rd ok.ho ok.ht ok.hi
      have hi7 : i < 7 := by
        rcases Nat.lt_or_ge i all.length with h | h
        · lia
        · rw [List.getElem?_eq_none h] at hrl; cases hrl
      have O := B.bkOff hown
      replace B := B.sub (tl' := nw₄ ++ own) fun y hy => List.mem_append_left _ hy
      have hO : ∀ y ∈ own, y ∈ nw₄ ++ own := fun y hy => List.mem_append_right _ hy
      generalize nw₄ ++ own = tl at B hO N4
      rw [chain2 hn1 hn2] at F4
      have hB := Nx.mk (C := True) fun _ => And.intro B O
      have hnx := Nx.mk (C := True) fun _ => next
      obtain ⟨o9, h9, hT9⟩ := B.h9
      generalize hrk : 1000000 - rl.reach = rk at hxg
      clear F3 N3 hbrk hrt hn1 hn2 hv hx B O next
      have htup : IsTup h₄ x #[.int rk t, .str rl.road t'] := ⟨_, F4.keep _ _ hxg, rfl, _, rfl⟩
      dsimp only
      k_steps
      rename Fr _ _ _ _ => F5
      rename News _ _ _ _ => N5
      refine' rule_use (im := im₄) F5 N5 ?k3 ?k4 rfl ?k6 ?k7 hE h9 (hB.go trivial).1.him (fun y hy => ((hB.go trivial).1.off y hy).2.2.1) hT9 ?_
      case k3 => k_asm
      case k4 => k_asm
      case k6 => tb_start
      case k7 => tb_start
      k_whole
      intro ru h6 tk6 tl6 o9' im6 F6 N6 hU h9' him6 hsub6 hnew6 hT6 hR6
      have hru : (10 ^ Int.toNat 6 - rk : Int) = rl.reach := by
        rw [← hrk]
        have : (10 ^ Int.toNat 6 : Int) = 1000000 := by decide
        rw [this]; lia
      rw [hru] at hR6
      have B6 := (hB.go trivial).1.ruled N5 hU h9' him6 hsub6 hnew6 hT6
      have O4 := (hB.go trivial).2
      have hO6 : ∀ y ∈ own, y ∈ tl6 := fun y hy => hU y (hO y hy) (O4 y hy).2.2.1
      have O6 : BkOff p b a 5 im6 own := fun q hq => ⟨(O4 q hq).1, (O4 q hq).2.1, (O4 q hq).2.2.1, (O4 q hq).2.2.2.1, fun y hy => by
        rcases hnew6 y hy with h | h
        · exact (O4 q hq).2.2.2.2 y h
        · intro e
          have := (N5 q (hO q hq)).1
          rw [e, h] at this; cases this⟩
      have hB6 := Nx.mk (C := True) fun _ => And.intro B6 O6
      have hB6o := Nx.mk (C := True) fun _ => O6
      clear B6 O6 hnew6 hB N5 F5 O4
      k_steps
      rename Fr _ _ _ _ => F7
      rename News _ _ _ _ => N7
      refine' ends_use F7 N7 ?k3 ?k4 rfl ?k6 ?k7 hE ?_
      case k3 => k_asm
      case k4 => k_asm
      case k6 => tb_start
      case k7 => tb_start
      k_whole
      intro ax ta tb h7 tk7 F7' N7' nea
      k_steps
      rename Fr _ _ _ _ => F7
      rename News _ _ _ _ => N7
      refine' for_tup (vs := [.str (nm rl.o) ta, .str (nm rl.t) tb]) (J3 w mean mg mb p b a (rulesAfter all i) rl ru (2 * i) im6 own) ?hh2 ?hl2 ?hlL2 ?F2 ?N2 ?hj2 ?hc2 ?turn2 ?done2 (news := tl6)
      case hh2 => exact rfl
      case hl2 => exact ⟨_, N7.get (.head _), rfl, _, rfl⟩
      case hlL2 => exact (N7 _ (.head _)).2.1
      case F2 => exact F7
      case N2 => exact newsSub N7 fun y hy => .tail _ hy
      case hj2 => exact ⟨vs, (hB6.go trivial).1, hlen, hO6, rfl, rfl, rfl⟩
      case hc2 => exact allNe_all nea
      case turn2 =>
        rintro j v m₅ nw₅ h₅ tk₅ own₅ P₅ hv ⟨vs₅, B, hlen₅, hO₅, hn1, hn2, hn3⟩ hown₅ F8 N8 next hbrk hrt
        obtain ⟨q, hq, tq, rfl, hrs⟩ : ∃ q, q < 5 ∧ ∃ tq, v = .str (nm q) tq ∧ rsJ (rulesAfter all i) rl (j + 1) = updA (rsJ (rulesAfter all i) rl j) q (rsJ (rulesAfter all i) rl j q ++ [rl]) := by
          rcases two_lst hv with ⟨rfl, e⟩ | ⟨rfl, e⟩
          · exact ⟨rl.o, ok.ho, _, e, rfl⟩
          · exact ⟨rl.t, ok.ht, _, e, rfl⟩
        have hj2 : j < 2 := by
          rcases Nat.lt_or_ge j 2 with h | h
          · exact h
          · rw [List.getElem?_eq_none (by exact h)] at hv; cases hv
        have O := B.bkOff hown₅
        have hvl := hlen₅ q
        replace B := B.sub (tl' := nw₅ ++ own₅) fun y hy => List.mem_append_left _ hy
        have hOo : ∀ y ∈ own₅, y ∈ nw₅ ++ own₅ := fun y hy => List.mem_append_right _ hy
        have hOn : ∀ y ∈ own, y ∈ nw₅ ++ own₅ ∧ ∀ z ∈ own₅, z.1 ≠ y.1 := fun y hy => ⟨List.mem_append_left _ (hO₅ y hy), fun z hz => hown₅ z hz _ (List.mem_map_of_mem (hO₅ y hy))⟩
        generalize nw₅ ++ own₅ = tl₅ at B hOo hOn N8
        rw [chain3 hn1 hn2 hn3] at F8
        have hB5 := Nx.mk (C := True) fun _ => And.intro (And.intro B O) (And.intro hOo hOn)
        have hnx5 := Nx.mk (C := True) fun _ => next
        obtain ⟨ob5, kv5, hb5, hbD5, hbk5, hbv5⟩ := B.hb
        obtain ⟨n5, hl5⟩ := B.hl q hq
        obtain ⟨he5, ⟨t1, t2, t3, t4, hd5⟩, _⟩ := B.he q hq
        replace he5 := B.him _ he5
        replace hd5 := B.him _ hd5
        have hget : valueAt kv5 (Str.ofString "/" ++ nm q) = some (.ref (a.e q)) := by rw [name_fo q hq]; exact hbv5 q hq
        clear hnx hB6 F7 N7 nea hbrk hrt hn1 hn2 hn3 hv hown₅ B O next hOo hOn
        generalize hae : a.e q = eq at he5 hget
        generalize had : a.d q = dq at he5 hd5
        generalize hau : a.u q = uq at hd5
        generalize hal : a.l q = lq at hd5 hl5
        dsimp only
        k_steps
        rename Fr _ _ _ _ => F9
        rename News _ _ _ _ => N9
        refine' dictItem N9 hb5 hbD5 hget ?_
        k_whole
        k_steps
        rename Fr _ _ _ _ => F10
        rename News _ _ _ _ => N10
        refine' appT F10 N10 hl5 (by simp only [List.size_toArray]; lia) ?_
        intro h8 tk8 tl8 F11 N11 M8
        k_steps
        obtain ⟨⟨B, O⟩, hOo, hOn⟩ := hB5.go trivial
        subst hal
        have B' := B.put hq M8 hR6
        rw [← hrs] at B'
        have O' : BkOff p b a 5 im6 own₅ := O
        refine hnx5.go trivial .next h8 tk8 _ (offOwn own₅ tl8) (.inl rfl) F11 (newsSub N11 ?_) ⟨_, B'.drop O', fun q' => ?_, fun y hy => ?_, rfl, rfl, rfl⟩ fun y hy => .inr (.inr (mem_offOwn.mp hy).2)
        · intro y hy
          rcases List.mem_append.mp hy with hy | hy
          · exact (mem_offOwn.mp hy).1
          · exact M8.old _ (hOo y hy) ((O y hy).2.2.2.1 q hq)
        · have h0 := hlen₅ q'
          by_cases e : q' = q
          · subst e; rw [updA_self, List.length_append, List.length_singleton]; lia
          · rw [updA_ne e]; lia
        · exact mem_offOwn.mpr ⟨M8.old _ (hOn y hy).1 ((hB6o.go trivial y hy).2.2.2.1 q hq), (hOn y hy).2⟩
      case done2 =>
        rintro m₆ nw₆ h₆ tk₆ ⟨vs₆, B, hlen₆, hO₆, hn1, hn2, hn3⟩ F8 N8
        obtain ⟨_, O⟩ := hB6.go trivial
        have er : rsJ (rulesAfter all i) rl [Value.str (nm rl.o) ta, Value.str (nm rl.t) tb].length = rulesAfter all (i + 1) := by rw [rulesAfter_succ hrl]; rfl
        rw [er] at B
        clear F7 N7
        dsimp only
        k_steps
        refine hnx.go trivial .next h₆ tk₆ m₆ (offOwn own nw₆) (.inl rfl) F8 (newsSub N8 ?_) ⟨vs₆, im6, B.drop O, fun q => by have := hlen₆ q; simp only [List.length_cons, List.length_nil] at this; lia, hn1, hn2⟩ fun y hy => .inr (.inr (mem_offOwn.mp hy).2)
        intro y hy
        rcases List.mem_append.mp hy with hy | hy
        · exact (mem_offOwn.mp hy).1
        · exact hO₆ y hy
    case done =>
      rintro m₄ nw₄ h₄ tk₄ ⟨vs, im₄, B, hlen, hn1, hn2⟩ F4 N4
      rw [chain2 hn1 hn2] at F4
      clear F3 N3 hn1 hn2
      dsimp only
      k_steps
      rw [hra.1] at B hlen
      refine ret h₄ tk₄ b a vs nw₄ im₄ (Fr.stp F4 eg) (fun y hy => N4.get (a := y.1) (o := y.2) hy) (fun y hy => ?_) B hlen hpb
      have hn := (N4 y hy).2.2
      have eg3 : g' = hideAll s.heap [p, 229] := eg
      rw [eg3] at hn
      by_cases hm : y.1 ∈ [p, 229]
      · exact .inl hm
      · cases hs : s.heap.get? y.1 with
        | none => exact .inr rfl
        | some o => rw [hideAll_get _ hs hm] at hn; cases hn
end
end Mine

end PF1
section PJ1
theorem Mine.rs_J1 : True := by
  w_top off
  first | walk1 | trivial
open PySem PySem.W PySem.Calls PyProof.Rows
set_option Elab.async false
set_option maxRecDepth 100000
set_option pp.deepTerms false
set_option pp.deepTerms.threshold 8
namespace Mine
open Pl (R krus joinF takeR Good Told Chosen cutsR)
theorem fillKJ1 : (PySem.Challenge.rw_il0068_01 = PySem.Challenge.rw_il0068_01 ∧ hd.heap_39 = hd.heap_39) := by k_fill; exact ⟨rfl, rfl⟩
section
variable {w : World} {mean : ExcName → Option Value} {mg mb : Str → Option Value} {A : Around} {s : Shared} {Q E : Value → Shared → Prop} {g : Heap} {L : Addr} {m : Str → Option Value} {news tl im im' nw nw' : List (Addr × Obj)} {h h' : Heap} {p b tp e : Addr}
/-- a folder's record, its parts among im -/
inductive Fld (w : World) (mean : ExcName → Option Value) (mg mb : Str → Option Value) (im : List (Addr × Obj)) (p e : Addr) (xs : List Str) (rs : List Rule) : Prop
  | mk (d u l : Addr) (t1 t2 t3 t4 : Tok) (n1 n2 : Nat) (us vs : List Value) (hz1 : (e, instObj 59 d) ∈ im) (hz2 : (d, dictOf (entD w.params t1 t2 t3 t4 (.ref u) (.ref l) .none .none) 4) ∈ im) (hz3 : (u, W.listOf us.toArray n1) ∈ im) (hz4 : IsStrs us xs) (hz5 : (l, W.listOf vs.toArray n2) ∈ im) (hz6 : RelsIm w mean mg mb im p vs rs) : Fld w mean mg mb im p e xs rs
theorem Fld.more {xs : List Str} {rs : List Rule} (H : Fld w mean mg mb im p e xs rs) (hs : ∀ y ∈ im, y ∈ im') : Fld w mean mg mb im' p e xs rs := by
  obtain ⟨d, u, l, t1, t2, t3, t4, n1, n2, us, vs, a1, a2, a3, a4, a5, a6⟩ := H
  exact ⟨d, u, l, t1, t2, t3, t4, n1, n2, us, vs, hs _ a1, hs _ a2, hs _ a3, a4, hs _ a5, a6.more hs⟩
structure BJ (w : World) (mean : ExcName → Option Value) (mg mb : Str → Option Value) (g : Heap) (p b : Addr) (f : Nat → Nat) (K : List Nat) (xs : Nat → List Str) (rs : Nat → List Rule) (nw im : List (Addr × Obj)) : Prop where
  hp : ∃ op, (p, op) ∈ nw ∧ PathsAt w op f
  hb : ∃ ob kvs, (b, ob) ∈ nw ∧ ob.IsDictOf (strKind prg w) kvs ∧ kvs.map (·.1) = K.map fo ∧ ∀ q ∈ K, ∃ e, valueAt kvs (fo q) = some (.ref e) ∧ Fld w mean mg mb im p e (xs q) (rs q)
  him : ∀ y ∈ im, g.get? y.1 = some y.2 ∨ y ∈ nw
  off : ∀ y ∈ im, y.1 ≠ p ∧ y.1 ≠ b
  pb : p ≠ b
theorem BJ.at' {f : Nat → Nat} {K : List Nat} {xs : Nat → List Str} {rs : Nat → List Rule} (B : BJ w mean mg mb g p b f K xs rs nw im) (F : Fr g L h m) (N : News g L h tl) (hs : ∀ y ∈ nw, y ∈ tl) : ∀ y ∈ im, h.get? y.1 = some y.2 := fun y hy => by
  rcases B.him y hy with e | e
  · exact F.keep _ _ e
  · exact N.get (hs _ e)
/-- the ledger grown, or cut of what it does not need -/
theorem BJ.sub {f : Nat → Nat} {K : List Nat} {xs : Nat → List Str} {rs : Nat → List Rule} (B : BJ w mean mg mb g p b f K xs rs nw im) (hs : ∀ y ∈ nw, y ∈ nw') : BJ w mean mg mb g p b f K xs rs nw' im := by
  obtain ⟨op, h1, h2⟩ := B.hp
  obtain ⟨ob, kvs, h3, h4⟩ := B.hb
  exact ⟨⟨op, hs _ h1, h2⟩, ⟨ob, kvs, hs _ h3, h4⟩, fun y hy => (B.him y hy).imp id (hs _), B.off, B.pb⟩
theorem rels_of {g2 : Heap} {vs : List Value} {rs : List Rule} (H : RelsIm w mean mg mb im p vs rs) (hg : ∀ y ∈ im, g2.get? y.1 = some y.2) : Rels w mean mg mb g2 p vs rs := by
  induction vs generalizing rs with
  | nil => cases rs with
    | nil => exact trivial
    | cons _ _ => exact H.elim
  | cons v vs ih => cases rs with
    | nil => exact H.elim
    | cons r rs =>
      obtain ⟨⟨x, e, hr⟩, r2⟩ := H
      exact ⟨⟨x, e, hr g2 hg⟩, ih r2⟩
theorem rels_append {vs vs' : List Value} {rs rs' : List Rule} (H : RelsIm w mean mg mb im p vs rs) (H' : RelsIm w mean mg mb im p vs' rs') : RelsIm w mean mg mb im p (vs ++ vs') (rs ++ rs') := by
  induction vs generalizing rs with
  | nil => cases rs with
    | nil => exact H'
    | cons _ _ => exact H.elim
  | cons v vs ih => cases rs with
    | nil => exact H.elim
    | cons r rs => exact ⟨H.1, ih H.2⟩
theorem relsIm_len {vs : List Value} {rs : List Rule} (H : RelsIm w mean mg mb im p vs rs) : vs.length = rs.length := by
  induction vs generalizing rs with
  | nil => cases rs with
    | nil => rfl
    | cons _ _ => exact H.elim
  | cons v vs ih => cases rs with
    | nil => exact H.elim
    | cons r rs => simp [ih H.2]
/-- the rules that allowance asks for -/
theorem Fld.rules {xs : List Str} {rs : List Rule} (H : Fld w mean mg mb im p e xs rs) (hg : ∀ y ∈ im, h.get? y.1 = some y.2) (off : ∀ y ∈ im, y.1 ≠ p) : RulesAt w mean mg mb (hideAll h [p]) e p rs := by
  have hg' : ∀ y ∈ im, (hideAll h [p]).get? y.1 = some y.2 := fun y hy => hideAll_get _ (hg y hy) fun q => off y hy (List.mem_singleton.mp q)
  obtain ⟨d, u, l, t1, t2, t3, t4, n1, n2, us, vs, a1, a2, a3, a4, a5, a6⟩ := H
  exact ⟨d, _, l, n2, vs, hg' _ a1, hg' _ a2, entD_rl, hg' _ a5, rels_of a6 hg'⟩
theorem entAllow {d : Addr} {t1 t2 t3 t4 : Tok} {u l : Addr} {pl : Sem Bool} {Q : Value × List Value → Shared → Prop} (F : Fr g L s.heap m) (X : (hd.heap_39 w.params).In g) (hx : s.heap.get? e = some (instObj 59 d)) (hdx : s.heap.get? d = some (dictOf (entD w.params t1 t2 t3 t4 (.ref u) (.ref l) .none .none) 4))
   (q : Q (.ref 56, [.ref e]) s) : wpAny (model prg w) A (getMethod (.ref e) "allowance" pl) Q E s :=
  method_inst F X (instBase hx hdx) (by k_is) (by k_is) (by k_is) (by unfold entD; k_get) q
theorem merge_use2 {e1 e2 : Addr} {xs1 xs2 : List Str} {rs1 rs2 : List Rule} (F : Fr g L s.heap m) (N : News g L s.heap news) (X : (hd.heap_39 w.params).In g) (T : TopM mean mg mb g) (hh : A.handled = none) (hdp : A.depth < 400) (hun : A.units < 300)
   (h1 : Fld w mean mg mb im p e1 xs1 rs1) (h2 : Fld w mean mg mb im p e2 xs2 rs2) (hg : ∀ y ∈ im, s.heap.get? y.1 = some y.2) (hz1 : xs1.length ≤ 9) (hz2 : xs2.length ≤ 9) (hzz : rs1.length + rs2.length ≤ 100000)
   (ret : ∀ h' tk x new, Fr g L h' m → News g L h' (new ++ news) → (∀ y ∈ new, ∀ z ∈ news, z.1 ≠ y.1) → (∀ y ∈ new, ∀ z ∈ im, z.1 ≠ y.1) → Fld w mean mg mb (new ++ im) p x (xs1.filter fun y => decide (y ∈ xs2)) (rs1 ++ rs2) → Q (.ref x) { s with heap := h', toks := tk }) :
   wpAny (model prg w) A (call (.ref 70) [.ref e1, .ref e2]) Q E s := by
  rw [toAt hh]
  obtain ⟨d1, u1, l1, a1, a2, a3, a4, n1, m1, us1, vs1, b1, b2, b3, b4, b5, b6⟩ := h1
  obtain ⟨d2, u2, l2, a1', a2', a3', a4', n2, m2, us2, vs2, c1, c2, c3, c4, c5, c6⟩ := h2
  have z1 := relsIm_len b6
  have z2 := relsIm_len c6
  refine merge_ok (hg _ b1) (hg _ b2) (hg _ c1) (hg _ c2) (hg _ b3) (hg _ c3) (hg _ b5) (hg _ c5) b4 c4 (Nat.lt_of_le_of_lt (Nat.succ_le_succ hz2) (by decide)) (Nat.le_trans hz1 (Nat.le_of_ble_eq_true rfl)) (Nat.le_trans (by lia : vs1.length + vs2.length ≤ 100000) (Nat.le_of_ble_eq_true rfl)) (gdOf0 F X T) hdp hun fun h' tk x d u l t1 t2 t3 t4 acc c' S gx gd gu hi gl fx fd fu fl => ?_
  have imx : ∀ {a : Addr}, s.heap.get? a = none → ∀ z ∈ im, z.1 ≠ a := fun {a} fa z hz q => by have := hg z hz; rw [q, fa] at this; cases this
  have four : ∀ (P : Addr × Obj → Prop), P (x, instObj 59 d) → P (d, dictOf (entD w.params t1 t2 t3 t4 (.ref u) (.ref l) .none .none) 4) → P (u, W.listOf acc c') → P (l, W.listOf (vs1 ++ vs2).toArray 0) → ∀ y ∈ [(x, instObj 59 d), (d, dictOf (entD w.params t1 t2 t3 t4 (.ref u) (.ref l) .none .none) 4), (u, W.listOf acc c'), (l, W.listOf (vs1 ++ vs2).toArray 0)], P y := fun P p1 p2 p3 p4 y hy => by
    simp only [List.mem_cons, List.not_mem_nil, or_false] at hy
    rcases hy with rfl | rfl | rfl | rfl <;> assumption
  refine ret h' tk x [(x, instObj 59 d), (d, dictOf (entD w.params t1 t2 t3 t4 (.ref u) (.ref l) .none .none) 4), (u, W.listOf acc c'), (l, W.listOf (vs1 ++ vs2).toArray 0)] (frKeep F S) (newsCons (newsNew F gx fx) (newsCons (newsNew F gd fd) (newsCons (newsNew F gu fu) (newsCons (newsNew F gl fl) (newsKeep N S)))))
    (four _ (neNews N fx) (neNews N fd) (neNews N fu) (neNews N fl)) (four _ (imx fx) (imx fd) (imx fu) (imx fl)) ⟨d, u, l, t1, t2, t3, t4, c', 0, acc.toList, vs1 ++ vs2, .head _, .tail _ (.head _), ?_, hi, .tail _ (.tail _ (.tail _ (.head _))), ?_⟩
  · rw [Array.toArray_toList]; exact .tail _ (.tail _ (.head _))
  · exact rels_append (b6.more fun y hy => List.mem_append_right _ hy) (c6.more fun y hy => List.mem_append_right _ hy)
theorem popMeth {od : Obj} {kvs : List (Str × Value)} {pl : Sem Bool} {Q : Value × List Value → Shared → Prop} (N : News g L s.heap tl) (hm : (b, od) ∈ tl) (hD : od.IsDictOf (strKind prg w) kvs) (q : Q (.builtin "dict.pop", [.ref b]) s) : wpAny (model prg w) A (getMethod (.ref b) "pop" pl) Q E s :=
  kdl_method PySem.F.slot_dict_pop PySem.F.type_dict_pop N hm hD q
theorem basename_use {x : Str} {t : Tok} (F : Fr g L s.heap m) (N : News g L s.heap news) (X : (hd.heap_39 w.params).In g) (T : TopM mean mg mb g) (hh : A.handled = none) (hdp : A.depth < 450) (hun : A.units < 450) (hp : x.length ≤ 1000)
   (ret : ∀ h' tk t', Fr g L h' m → News g L h' news → Q (.str (baseF x) t') { s with heap := h', toks := tk }) :
   wpAny (model prg w) A (call (.ref 206) [.str x t]) Q E s := by
  rw [toAt hh]; exact basename_ok hp (gdOf0 F X T) hdp hun fun h' tk t' S => ret h' tk t' (frKeep F S) (newsKeep N S)
theorem notinT {x : Str} {t : Tok} {l : Addr} {vs : List Value} {n : Nat} {xs : List Str} (N : News g L s.heap tl) (hm : (l, W.listOf vs.toArray n) ∈ tl) (hx : StrsAre vs xs) (q : Q (.bool (!KTD.inWords x xs)) s) : wpAny (model prg w) A (compareOp .NotIn (.str x t) (.ref l)) Q E s :=
  KTD.notin_words (h₀ := s.heap) ⟨vs, ⟨_, N.get hm, rfl, _, rfl⟩, hx⟩ (fun _ _ e => e) q
structure JS0 (w : World) (mean : ExcName → Option Value) (mg mb : Str → Option Value) (g : Heap) (all : List Rule) (p b tp cb cq : Addr) (ocb ocq : Obj) (own0 : List (Addr × Obj)) (st : (Nat → Nat) × List R) (K : List Nat) (xs : Nat → List Str) (rs : Nat → List Rule) (im : List (Addr × Obj)) (tv : List Value) (n : Nat) (nw : List (Addr × Obj)) : Prop where
  ki : KI2 all st K xs rs
  bj : BJ w mean mg mb g p b st.1 K xs rs nw im
  nt : ∀ y ∈ im, y.1 ≠ tp
  tpp : tp ≠ p
  tpb : tp ≠ b
  ht : (tp, W.listOf tv.toArray n) ∈ nw
  hs : IsStrs tv (st.2.map roadR)
  hcb : (cb, ocb) ∈ nw
  hcq : (cq, ocq) ∈ nw
  own : ∀ z ∈ own0, z ∈ nw ∧ z.1 ≠ p ∧ z.1 ≠ b ∧ z.1 ≠ tp ∧ z.1 ≠ cb ∧ z.1 ≠ cq ∧ ∀ y ∈ im, z.1 ≠ y.1
section
variable {all : List Rule} {cb cq : Addr} {ocb ocq : Obj} {own0 own4 : List (Addr × Obj)} {st : (Nat → Nat) × List R} {K : List Nat} {xs : Nat → List Str} {rs : Nat → List Rule} {tv : List Value} {n : Nat}
theorem JS0.sub (H : JS0 w mean mg mb g all p b tp cb cq ocb ocq own0 st K xs rs im tv n nw) (hs : ∀ y ∈ nw, y ∈ nw') : JS0 w mean mg mb g all p b tp cb cq ocb ocq own0 st K xs rs im tv n nw' :=
  ⟨H.ki, H.bj.sub hs, H.nt, H.tpp, H.tpb, hs _ H.ht, H.hs, hs _ H.hcb, hs _ H.hcq, fun z hz => ⟨hs _ (H.own z hz).1, (H.own z hz).2⟩⟩
/-- a loop's turn is entered: what stands apart is known -/
theorem JS0.enter (H : JS0 w mean mg mb g all p b tp cb cq ocb ocq own0 st K xs rs im tv n nw) (ho : OwnOff own4 (nw.map (·.1))) (N : News g L h (nw ++ own4)) : JS0 w mean mg mb g all p b tp cb cq ocb ocq (own4 ++ own0) st K xs rs im tv n (nw ++ own4) ∧ ∀ z ∈ own4, ∀ y ∈ own0, z.1 ≠ y.1 := by
  have H' := H.sub (nw' := nw ++ own4) fun y hy => List.mem_append_left _ hy
  have o : ∀ z ∈ own4, ∀ {y : Addr × Obj}, y ∈ nw → z.1 ≠ y.1 := fun z hz {y} hy => ho z hz _ (List.mem_map_of_mem hy)
  obtain ⟨op, hp, _⟩ := H.bj.hp
  obtain ⟨ob, _, hb, _⟩ := H.bj.hb
  refine ⟨⟨H'.ki, H'.bj, H'.nt, H'.tpp, H'.tpb, H'.ht, H'.hs, H'.hcb, H'.hcq, fun z hz => ?_⟩, fun z hz y hy => o z hz (H.own y hy).1⟩
  rcases List.mem_append.mp hz with hz | hz
  · refine ⟨List.mem_append_right _ hz, o z hz hp, o z hz hb, o z hz H.ht, o z hz H.hcb, o z hz H.hcq, fun y hy => ?_⟩
    rcases H.bj.him y hy with e | e
    · intro q
      have := (N z (List.mem_append_right _ hz)).2.2
      rw [q, e] at this
      cases this
    · exact o z hz e
  · exact H'.own z hz
/-- and left -/
theorem JS0.leave (H : JS0 w mean mg mb g all p b tp cb cq ocb ocq (own4 ++ own0) st K xs rs im tv n nw) (hd : ∀ z ∈ own4, ∀ y ∈ own0, z.1 ≠ y.1) : JS0 w mean mg mb g all p b tp cb cq ocb ocq own0 st K xs rs im tv n (offOwn own4 nw) := by
  have o := fun z hz => (H.own z (List.mem_append_left own0 hz)).2
  obtain ⟨op, hp, h2⟩ := H.bj.hp
  obtain ⟨ob, kvs, hb, h3⟩ := H.bj.hb
  refine ⟨H.ki, ⟨⟨op, mem_offOwn.mpr ⟨hp, fun z hz => (o z hz).1⟩, h2⟩, ⟨ob, kvs, mem_offOwn.mpr ⟨hb, fun z hz => (o z hz).2.1⟩, h3⟩, fun y hy => (H.bj.him y hy).imp id fun e => mem_offOwn.mpr ⟨e, fun z hz => (o z hz).2.2.2.2.2 y hy⟩, H.bj.off, H.bj.pb⟩, H.nt, H.tpp, H.tpb, mem_offOwn.mpr ⟨H.ht, fun z hz => (o z hz).2.2.1⟩, H.hs, mem_offOwn.mpr ⟨H.hcb, fun z hz => (o z hz).2.2.2.1⟩, mem_offOwn.mpr ⟨H.hcq, fun z hz => (o z hz).2.2.2.2.1⟩, fun z hz => ?_⟩
  have := H.own z (List.mem_append_right _ hz)
  exact ⟨mem_offOwn.mpr ⟨this.1, fun y hy => hd y hy z hz⟩, this.2⟩
theorem JS0.newsOf (H : JS0 w mean mg mb g all p b tp cb cq ocb ocq (own4 ++ own0) st K xs rs im tv n nw) (N : News g L h nw) : News g L h (offOwn own4 nw ++ own4) := newsSub N fun y hy => by
  rcases List.mem_append.mp hy with hy | hy
  · exact (mem_offOwn.mp hy).1
  · exact (H.own y (List.mem_append_left _ hy)).1
end
end
theorem strsAre_of : ∀ {vs : List Value} {xs : List Str}, IsStrs vs xs → StrsAre vs xs
  | [], [], _ => .nil
  | v :: vs, x :: xs, h => by
    obtain ⟨⟨t, rfl⟩, h2⟩ := h
    exact .cons x t (strsAre_of h2)
  | [], _ :: _, h => h.elim
  | _ :: _, [], h => h.elim
theorem inWords_iff {x : Str} : ∀ {xs : List Str}, KTD.inWords x xs = true ↔ x ∈ xs
  | [] => by simp [KTD.inWords]
  | y :: ys => by simp [KTD.inWords, inWords_iff (xs := ys)]
theorem takeR_yes {st : (Nat → Nat) × List R} {e : R} (h : e ∈ st.2) : takeR st e = st := if_pos h
theorem takeR_no {st : (Nat → Nat) × List R} {e : R} (h : ¬ e ∈ st.2) : takeR st e = (joinF st.1 (st.1 e.o) (st.1 e.t), st.2 ++ [e]) := if_neg h
theorem good_len {all : List Rule} (hA : AllOk all) {st : (Nat → Nat) × List R} (G : Good (fun r => r ∈ all.map toR) st) : st.2.length ≤ 7 := by
  have := List.Nodup.length_le_of_subset G.nodup (l₂ := all.map toR) fun r hr => (G.told r hr).1
  rw [List.length_map] at this
  exact Nat.le_trans this hA.len
theorem AllOk.words {all : List Rule} (hA : AllOk all) {st : (Nat → Nat) × List R} (G : Good (fun r => r ∈ all.map toR) st) {r : Rule} (hr : r ∈ all) : KTD.inWords r.road (st.2.map roadR) = decide (toR r ∈ st.2) := by
  by_cases h : toR r ∈ st.2
  · rw [decide_eq_true h]
    exact inWords_iff.mpr (List.mem_map_of_mem (f := roadR) h)
  · rw [decide_eq_false h]
    cases hc : KTD.inWords r.road (st.2.map roadR) with
    | false => rfl
    | true =>
      obtain ⟨e, he, h2⟩ := List.mem_map.mp (inWords_iff.mp hc)
      exact absurd (hA.road (List.mem_map_of_mem hr) (G.told e he).1 h2.symm ▸ he) h
theorem agents_len {f : Nat → Nat} {q : Nat} : (agentsOf f q).length ≤ 9 := by
  unfold agentsOf
  split
  · rename_i h; simp [h]
  · simp
theorem without_keys {kv : List (Str × Value)} {K : List Nat} (h : kv.map (·.1) = K.map fo) (q : Nat) : (without kv (fo q)).map (·.1) = (K.filter fun x => decide (x ≠ q)).map fo := by
  unfold without
  induction kv generalizing K with
  | nil => cases K with
    | nil => rfl
    | cons _ _ => cases h
  | cons c kv ih => cases K with
    | nil => cases h
    | cons k K =>
      simp only [List.map_cons, List.cons.injEq] at h
      obtain ⟨h1, h2⟩ := h
      rw [List.filter_cons, List.filter_cons]
      by_cases e : k = q
      · subst e
        rw [if_neg (by rw [h1]; simp), if_neg (by simp)]
        exact ih h2
      · rw [if_pos (decide_eq_true (by rw [h1]; exact fun q => e (fo_inj' q))), if_pos (decide_eq_true e), List.map_cons, List.map_cons, ih h2, h1]
theorem valueAt_without {kv : List (Str × Value)} {k j : Str} (h : j ≠ k) : valueAt (without kv k) j = valueAt kv j := by
  unfold without valueAt
  congr 1
  induction kv with
  | nil => rfl
  | cons c kv ih =>
    rw [List.filter_cons]
    by_cases e : c.1 = k
    · rw [if_neg (by simp [e]), ih, List.find?_cons_of_neg]
      simp only [e]
      simp
      exact fun q => h q.symm
    · rw [if_pos (decide_eq_true e), List.find?_cons, List.find?_cons, ih]
theorem PathsAt.congr' {w : World} {o : Obj} {f f' : Nat → Nat} (H : PathsAt w o f) (h : ∀ k, k < 5 → f k = f' k) : PathsAt w o f' := by
  obtain ⟨pk, h1, h2, h3⟩ := H
  exact ⟨pk, h1, fun k hk => by rw [← h k hk]; exact h2 k hk, h3⟩
section
variable {w : World} {mean : ExcName → Option Value} {mg mb : Str → Option Value} {g : Heap} {im tl : List (Addr × Obj)} {p b tp : Addr} {all : List Rule} {cb cq : Addr} {ocb ocq : Obj} {own0 : List (Addr × Obj)} {st : (Nat → Nat) × List R} {K : List Nat} {xs : Nat → List Str} {rs : Nat → List Rule} {tv : List Value} {n : Nat}
theorem JS0.merged (H : JS0 w mean mg mb g all p b tp cb cq ocb ocq own0 st K xs rs im tv n tl) {r : Rule} (h5 : r.o < 5 ∧ r.t < 5) (hne : st.1 r.o ≠ st.1 r.t) {kv : List (Str × Value)} (hk : kv.map (·.1) = K.map fo) (hf : ∀ q ∈ K, ∃ e, valueAt kv (fo q) = some (.ref e) ∧ Fld w mean mg mb im p e (xs q) (rs q))
   {new nwf : List (Addr × Obj)} {ob' op' : Obj} {x : Addr} {t : Tok} {n' : Nat}
   (up : ∀ y ∈ tl, y.1 ≠ tp → y.1 ≠ b → y.1 ≠ p → y ∈ nwf) (upn : ∀ y ∈ new, y ∈ nwf) (fr : ∀ y ∈ new, ∀ z ∈ tl, z.1 ≠ y.1)
   (hfx : Fld w mean mg mb (new ++ im) p x ((xs (st.1 r.o)).filter fun y => decide (y ∈ xs (st.1 r.t))) (rs (st.1 r.o) ++ rs (st.1 r.t)))
   (hb' : (b, ob') ∈ nwf) (hD' : ob'.IsDictOf (strKind prg w) (stored (without kv (fo (st.1 r.t))) (fo (st.1 r.o)) (.ref x)))
   (hp' : (p, op') ∈ nwf) (hP' : PathsAt w op' (joinF st.1 (st.1 r.o) (st.1 r.t))) (ht' : (tp, W.listOf (tv ++ [Value.str r.road t]).toArray n') ∈ nwf) (hcb' : (cb, ocb) ∈ nwf) (hcq' : (cq, ocq) ∈ nwf) :
   JS0 w mean mg mb g all p b tp cb cq ocb ocq own0 (joinF st.1 (st.1 r.o) (st.1 r.t), st.2 ++ [toR r]) (K.filter fun q => decide (q ≠ st.1 r.t)) (updA xs (st.1 r.o) [netS]) (updA rs (st.1 r.o) (rs (st.1 r.o) ++ rs (st.1 r.t))) (new ++ im) (tv ++ [Value.str r.road t]) n' nwf := by
  obtain ⟨op, hp, _⟩ := H.bj.hp
  obtain ⟨ob, kv0, hb, _⟩ := H.bj.hb
  have k1 : st.1 r.o ∈ K := (H.ki.mem _).mpr ⟨_, h5.1, rfl⟩
  have k2 : st.1 r.t ∈ K := (H.ki.mem _).mpr ⟨_, h5.2, rfl⟩
  have keys := without_keys hk (st.1 r.t)
  have hmem : fo (st.1 r.o) ∈ (without kv (fo (st.1 r.t))).map (·.1) := by
    rw [keys]
    exact List.mem_map_of_mem (List.mem_filter.mpr ⟨k1, decide_eq_true hne⟩)
  refine ⟨H.ki.take h5 hne, ⟨⟨op', hp', hP'⟩, ⟨ob', _, hb', hD', by rw [stored_keys_old hmem]; exact keys, fun q hq => ?_⟩, fun y hy => ?_, fun y hy => ?_, H.bj.pb⟩, fun y hy => ?_, H.tpp, H.tpb, ht', ?_, hcb', hcq', fun z hz => ?_⟩
  · obtain ⟨hq1, hq2⟩ := List.mem_filter.mp hq
    have hq2 := of_decide_eq_true hq2
    by_cases e : q = st.1 r.o
    · subst e
      refine ⟨x, stored_at, ?_⟩
      rw [updA_self, updA_self]
      have e1 := H.ki.xsOk _ k1
      have e2 := H.ki.xsOk _ k2
      rw [e1, e2, agents_meet hne] at hfx
      exact hfx
    · obtain ⟨y, hy, hfl⟩ := hf q hq1
      refine ⟨y, ?_, ?_⟩
      · rw [stored_other (fun h => e (fo_inj' h)), valueAt_without (fun h => hq2 (fo_inj' h))]; exact hy
      · rw [updA_ne e, updA_ne e]
        exact hfl.more fun z hz => List.mem_append_right _ hz
  · rcases List.mem_append.mp hy with hy | hy
    · exact .inr (upn y hy)
    · exact (H.bj.him y hy).imp id fun e => up y e (H.nt y hy) (H.bj.off y hy).2 (H.bj.off y hy).1
  · rcases List.mem_append.mp hy with hy | hy
    · exact ⟨(fr y hy _ hp).symm, (fr y hy _ hb).symm⟩
    · exact H.bj.off y hy
  · rcases List.mem_append.mp hy with hy | hy
    · exact (fr y hy _ H.ht).symm
    · exact H.nt y hy
  · rw [List.map_append]
    exact isStrs_snoc H.hs
  · obtain ⟨a1, a2, a3, a4, a5, a6, a7⟩ := H.own z hz
    refine ⟨up z a1 a4 a3 a2, a2, a3, a4, a5, a6, fun y hy => ?_⟩
    rcases List.mem_append.mp hy with hy | hy
    · exact fr y hy z a1
    · exact a7 y hy
end
end Mine

end PJ1
section PJ2
theorem Mine.rs_J2 : True := by
  w_top off
  first | walk1 | trivial
open PySem PySem.W PySem.Calls PyProof.Rows
set_option Elab.async false
set_option maxRecDepth 100000
set_option pp.deepTerms false
set_option pp.deepTerms.threshold 8
namespace Mine
open Pl (R krus joinF takeR Good Told Chosen cutsR)
theorem fillKJ2 : (PySem.Challenge.rw_il0068_01 = PySem.Challenge.rw_il0068_01 ∧ hd.heap_39 = hd.heap_39) := by k_fill; exact ⟨rfl, rfl⟩
local macro_rules | `(tactic| walk_at "eval ListComp") => `(tactic| (k_here; k_dflt (refine Stop.go ?_)))
local macro_rules | `(tactic| walk_at "exec Assign cons ListComp") => `(tactic| (k_here; (with_reducible show wpAny _ _ (exec (Stmt.Assign [Expr.Name _ _] _ _) _) _ _ _); k_dflt (refine Stop.go ?_)))
local macro_rules | `(tactic| walk_at "exec For Name Call cons nil") => `(tactic| (k_here; k_dflt (refine wpAny_For ?_)))
local macro_rules | `(tactic| walk_at "exec For Name Name cons nil") => `(tactic| (k_here; k_dflt (refine wpAny_For ?_)))
local macro_rules | `(tactic| walk_at "exec For Name Constant cons nil") => `(tactic| (k_here; k_dflt (refine wpAny_For ?_)))
local macro_rules | `(tactic| walk_at "pyIter ref") => `(tactic| (k_here; k_dflt (refine Stop.go ?_)))
local macro_rules | `(tactic| walk_at "pyIter str") => `(tactic| (k_here; k_dflt (refine Stop.go ?_)))
local macro_rules | `(tactic| walk_at "call ref") => `(tactic| (k_here; k_dflt (refine Stop.go ?_)))
local macro_rules | `(tactic| walk_at "call builtin:list.append") => `(tactic| (k_here; k_dflt (refine Stop.go ?_)))
local macro_rules | `(tactic| walk_at "call builtin:dict.pop") => `(tactic| (k_here; k_dflt (refine Stop.go ?_)))
local macro_rules | `(tactic| walk_at "compareOp NotIn str ref") => `(tactic| (k_here; k_dflt (refine Stop.go ?_)))
local macro_rules | `(tactic| walk_at "subscriptTail") => `(tactic| (k_here; (with_reducible show wpAny _ _ (subscriptTail _ _ (Value.ref _) (Value.str _ _)) _ _ _); k_dflt (refine' dictItem (by k_asm) (by first | with_reducible assumption | exact List.Mem.tail _ (by with_reducible assumption) | exact List.Mem.tail _ (List.Mem.tail _ (by with_reducible assumption)) | k_mem) (by with_reducible assumption) (by with_reducible assumption) ?_; k_whole)))
local macro_rules | `(tactic| walk_at "eval Name") => `(tactic| (k_here; k_dflt (refine' nameX_C (c := (_ + 1 : Nat)) ?N ?c ?m ?d ?_ ?a ?b; (case a => rfl); (case b => rfl); (case N => k_asm); (case c => rfl); (case m => first | with_reducible assumption | exact List.Mem.tail _ (by with_reducible assumption) | exact List.Mem.tail _ (List.Mem.tail _ (by with_reducible assumption))); (case d => with_reducible assumption); k_whole)))
local macro_rules | `(tactic| walk_at "getMethod ref") => `(tactic| (k_here; k_dflt (first
  | ((with_reducible show wpAny _ _ (getMethod (Value.ref _) (PySem.Str.ofString "allowance") _) _ _ _); refine' entAllow (by k_asm) (by k_asm) (by with_reducible assumption) (by with_reducible assumption) ?_; k_whole)
  | ((with_reducible show wpAny _ _ (getMethod (Value.ref _) (PySem.Str.ofString "pop") _) _ _ _); refine' popMeth (by k_asm) (by first | with_reducible assumption | exact List.Mem.tail _ (by with_reducible assumption) | exact List.Mem.tail _ (List.Mem.tail _ (by with_reducible assumption)) | k_mem) (by with_reducible assumption) ?_; k_whole)
  | ((with_reducible show wpAny _ _ (getMethod (Value.ref _) (PySem.Str.ofString "append") _) _ _ _); refine' listMethod_K (by k_asm) (by k_mem) PySem.F.slot_list_append PySem.F.type_list_append ?_; ))))
section
variable {w : World} {mean : ExcName → Option Value} {mg mb : Str → Option Value} {A : Around} {s : Shared} {Q E : Value → Shared → Prop} {g : Heap} {L : Addr} {m : Str → Option Value} {news : List (Addr × Obj)} {dp un : Nat} {fr : Option (List Env)} {gd : Option (List Code)}
inductive Rounds (l : List R) : Nat → (Nat → Nat) × List R → Prop
  | zero : Rounds l 0 (id, [])
  | succ {k st ch} : Rounds l k st → Chosen l st.1 ch → Rounds l (k + 1) (ch.foldl takeR st)
theorem Rounds.good {l : List R} (inj : ∀ a ∈ l, ∀ b ∈ l, a.rank = b.rank → a = b) (h5 : ∀ r ∈ l, r.o < 5 ∧ r.t < 5) {k : Nat} {st : (Nat → Nat) × List R} (h : Rounds l k st) : Good (fun r => r ∈ l) st := by
  induction h with
  | zero => exact Pl.good0
  | succ _ c ih => exact Good.takes (all := fun r => r ∈ l) (fun a b ha hb => inj a ha b hb) h5 _ c.told ih
/-- the state between the rounds -/
noncomputable def Old (g : Heap) (im0 im : List (Addr × Obj)) : Prop := ∀ y ∈ im, y ∈ im0 ∨ g.get? y.1 = none
inductive JA (w : World) (mean : ExcName → Option Value) (mg mb : Str → Option Value) (g : Heap) (im0 : List (Addr × Obj)) (all : List Rule) (p b tp cb cq : Addr) (ocb ocq : Obj) (own0 : List (Addr × Obj)) (P : (Nat → Nat) × List R → Prop) (m : Str → Option Value) (nw : List (Addr × Obj)) : Prop
  | mk (hz1 : m "taken" = some (.ref tp)) (st K xs rs im tv n : _) (hz2 : P st) (hz3 : Old g im0 im) (hz4 : JS0 w mean mg mb g all p b tp cb cq ocb ocq own0 st K xs rs im tv n nw) : JA w mean mg mb g im0 all p b tp cb cq ocb ocq own0 P m nw
noncomputable def stAt (f : Nat → Nat) (K : List Nat) (rs : Nat → List Rule) (st : (Nat → Nat) × List R) (i : Nat) : (Nat → Nat) × List R := (((K.take i).filterMap fun q => best f q (rs q)).map toR).foldl takeR st
theorem stAt_succ {f : Nat → Nat} {K : List Nat} {rs : Nat → List Rule} {st : (Nat → Nat) × List R} {i q : Nat} (h : K[i]? = some q) : stAt f K rs st (i + 1) = match best f q (rs q) with | none => stAt f K rs st i | some r => takeR (stAt f K rs st i) (toR r) := by
  unfold stAt
  rw [List.take_add_one, h, List.filterMap_append]
  cases hb : best f q (rs q) with
  | none => simp [hb]
  | some r => simp [hb, List.foldl_append]
theorem stAt_good {all : List Rule} (hA : AllOk all) {st : (Nat → Nat) × List R} {K : List Nat} {xs : Nat → List Str} {rs : Nat → List Rule} (H : KI2 all st K xs rs) (G : Good (fun r => r ∈ all.map toR) st) (i : Nat) : Good (fun r => r ∈ all.map toR) (stAt st.1 K rs st i) := by
  refine Good.takes (all := fun r => r ∈ all.map toR) (fun a b ha hb => hA.inj a ha b hb) hA.in5 _ (fun e he => H.chosen.told e ?_) G
  obtain ⟨r, hr, rfl⟩ := List.mem_map.mp he
  obtain ⟨q, hq, hb⟩ := List.mem_filterMap.mp hr
  exact List.mem_map_of_mem (List.mem_filterMap.mpr ⟨q, List.mem_of_mem_take hq, hb⟩)
theorem stAt_all {f : Nat → Nat} {K : List Nat} {rs : Nat → List Rule} {st : (Nat → Nat) × List R} : stAt f K rs st K.length = (chose f K rs).foldl takeR st := by
  unfold stAt chose
  rw [List.take_length]
noncomputable def fAt (f : Nat → Nat) (q1 q2 i : Nat) : Nat → Nat := fun k => if k < i ∧ f k = q2 then q1 else f k
inductive JN (w : World) (p tp : Addr) (q1 q2 : Nat) (u0 u1 : Tok) (f : Nat → Nat) (TL : List (Addr × Obj)) (i : Nat) (m : Str → Option Value) (nw : List (Addr × Obj)) : Prop
  | mk (hz1 : m "taken" = some (.ref tp)) (hz2 : m "keep" = some (.str (fo q1) u0)) (hz3 : m "gone" = some (.str (fo q2) u1)) (hz4 : ∃ op, (p, op) ∈ nw ∧ PathsAt w op (fAt f q1 q2 i)) (hz5 : ∀ y ∈ TL, y.1 ≠ p → y ∈ nw) : JN w p tp q1 q2 u0 u1 f TL i m nw
theorem paths_stay {w : World} {o : Obj} {f : Nat → Nat} {q1 q2 i : Nat} (H : PathsAt w o (fAt f q1 q2 i)) (h : f i ≠ q2) : PathsAt w o (fAt f q1 q2 (i + 1)) := H.congr' fun k _ => by
  unfold fAt
  by_cases e : k = i
  · subst e; rw [if_neg (fun q => h q.2), if_neg (fun q => h q.2)]
  · by_cases l : k < i ∧ f k = q2
    · rw [if_pos l, if_pos ⟨by lia, l.2⟩]
    · rw [if_neg l, if_neg (fun q => l ⟨by lia, q.2⟩)]
theorem paths_set {w : World} {o o' : Obj} {pk : List (Str × Value)} {f : Nat → Nat} {q1 q2 i : Nat} {t : Tok} (hv : ∀ k, k < 5 → fAt f q1 q2 i k < 5 ∧ ∃ u, valueAt pk (nm k) = some (.str (pa (fAt f q1 q2 i k) k) u)) (hk : pk.map (·.1) = [nm 0, nm 1, nm 2, nm 3, nm 4]) (hD : o'.IsDictOf (strKind prg w) (stored pk (nm i) (.str (pa q1 i) t))) (h1 : q1 < 5) (hi : i < 5) (h : f i = q2) : PathsAt w o' (fAt f q1 q2 (i + 1)) := by
  have hm : nm i ∈ pk.map (·.1) := by
    rw [hk]
    have : i = 0 ∨ i = 1 ∨ i = 2 ∨ i = 3 ∨ i = 4 := by lia
    rcases this with rfl | rfl | rfl | rfl | rfl <;> simp
  refine ⟨_, hD, fun k hk5 => ?_, by rw [stored_keys_old hm]; exact hk⟩
  by_cases e : k = i
  · subst e
    have e1 : fAt f q1 q2 (k + 1) k = q1 := if_pos ⟨by lia, h⟩
    rw [e1]
    exact ⟨h1, t, stored_at⟩
  · have e1 : fAt f q1 q2 (i + 1) k = fAt f q1 q2 i k := by
      unfold fAt
      by_cases l : k < i ∧ f k = q2
      · rw [if_pos l, if_pos ⟨by lia, l.2⟩]
      · rw [if_neg l, if_neg (fun q => l ⟨by lia, q.2⟩)]
    rw [e1, stored_other fun q => e (nm_inj q)]
    exact hv k hk5
set_option maxHeartbeats 40000000 in
theorem joined_ok {p b : Addr} {all : List Rule} {op ob : Obj} {xs : Nat → List Str} {rs : Nat → List Rule} {im : List (Addr × Obj)} {kvs : List (Str × Value)} (hp : s.heap.get? p = some op) (hb : s.heap.get? b = some ob) (hP : PathsAt w op id) (hD : ob.IsDictOf (strKind prg w) kvs) (hk : kvs.map (·.1) = (List.range 5).map fo)
   (hF : ∀ q ∈ List.range 5, ∃ e, valueAt kvs (fo q) = some (.ref e) ∧ Fld w mean mg mb im p e (xs q) (rs q)) (him : ∀ y ∈ im, s.heap.get? y.1 = some y.2) (hoff : ∀ y ∈ im, y.1 ≠ p ∧ y.1 ≠ b) (hpb : p ≠ b) (hb1 : (b == sysModules) = false) (HK : KI2 all (id, []) (List.range 5) xs rs) (hA : AllOk all)
   (G : Gd w mean mg mb [p, b] s.heap) (hdp : dp < 350) (hun : un < 50)
   (ret : ∀ h' tk tp tv n nw' im' st K xs' rs', Stp s.heap h' [p, b] → (∀ y ∈ nw', h'.get? y.1 = some y.2 ∧ (hideAll s.heap [p, b]).get? y.1 = none) → BJ w mean mg mb (hideAll s.heap [p, b]) p b st.1 K xs' rs' nw' im' → KI2 all st K xs' rs' → (tp, W.listOf tv.toArray n) ∈ nw' → tp ≠ p → tp ≠ b → IsStrs tv (st.2.map roadR) → Rounds (all.map toR) 2 st → (∀ y ∈ im', y ∈ im ∨ (hideAll s.heap [p, b]).get? y.1 = none) → Q (.ref tp) { s with heap := h', toks := tk }) :
   wpAny (model prg w) (At dp un fr gd) (call (.ref 246) [.ref b, .ref p]) Q E s := by
  refine wpAny_call ?_
  refine' enterC (news := [(p, op), (b, ob)]) ?k0 ?k1 ?k2 ?k3 ?k4 ?k5 ?k6 ?kD ?_ ?c2 ?c3 ?c4
  case k0 => assumption
  case k1 => exact fun y hy => by rcases List.mem_cons.mp hy with rfl | hy; exact hp; rcases List.mem_singleton.mp hy with rfl; exact hb
  case k2 => k_is
  case k3 => k_is
  case k4 => tb_start
  case k5 => exact BindsTo.of_eq rfl
  case k6 => exact rfl
  case kD => decide +kernel
  case c2 => exact rfl
  case c3 => exact rfl
  case c4 => exact rfl
  intro g' L' h' tk' cells' F' N' Y' X' T' eg l1
  (try k_lt l1); k_cells Y'; (try simp only [List.cons_append, List.nil_append] at N'); (try dsimp only); (try k_fold)
  k_steps
  refine Stop.mk ?_
  rename_i oq obk dq db tp _ ltp _ _ _ _ _ _ _ _ hR F1 N1 _
  have dq' : oq.data = .cell (some (.ref p)) := dq
  have db' : obk.data = .cell (some (.ref b)) := db
  clear dq db
  have himg : ∀ y ∈ im, g'.get? y.1 = some y.2 := fun y hy => by
    rw [eg]
    refine hideAll_get _ (him y hy) fun hm => ?_
    simp only [List.map_cons, List.map_nil, List.mem_cons, List.not_mem_nil, or_false] at hm
    exact hm.elim (hoff y hy).1 (hoff y hy).2
  refine' for_range (n := 2) (news := [(tp, W.listOf #[] 0), (L' + 1 + 1, oq), (L' + 1, obk), (p, op), (b, ob)]) (fun k m nw => JA w mean mg mb g' im all p b tp (L' + 1) (L' + 1 + 1) obk oq [] (Rounds (all.map toR) k) m nw) ?hh ?hr ?hsm ?hn ?F ?N ?hj ?turn ?done
  case hh => exact rfl
  case hr => exact hR
  case hsm => decide
  case hn => rfl
  case F => exact F1
  case N => exact N1
  case hj =>
    refine ⟨rfl, (id, []), List.range 5, xs, rs, im, [], 0, .zero, fun y hy => .inl hy, HK, ⟨⟨op, by k_mem, hP⟩, ⟨ob, kvs, by k_mem, hD, hk, hF⟩, fun y hy => .inl (himg y hy), hoff, hpb⟩, fun y hy e => ?_, neN (by lia), neN (by lia), .head _, trivial, by k_mem, by k_mem, fun z hz => nomatch hz⟩
    have := (N1 _ (.head _)).2.2
    rw [← e, himg y hy] at this
    cases this
  case turn =>
    rintro i u m₁ nw h2 tk2 own PP hi ⟨hm1, st, K, xs1, rs1, im1, tv, n1, hRd, hOld, HJ⟩ hown F2 N2 next hbrk hrt
    rw [chainL (m := m₁) (l := [(Str.ofString "taken", Value.ref tp)]) (fun q hq => by rw [List.mem_singleton.mp hq]; exact hm1)] at F2
    simp only [chainF, List.foldr] at F2
    obtain ⟨HE, hdis⟩ := HJ.enter hown N2
    clear HJ
    generalize nw ++ own = tl at N2 HE
    have hKI := HE.ki
    have hBJ := HE.bj
    obtain ⟨op1, hp1, hP1⟩ := hBJ.hp
    obtain ⟨ob1, kv1, hb1', hD1, hk1, hF1⟩ := hBJ.hb
    have hpt := hp1
    have hbt := hb1'
    have e2t := HE.hcb
    have e3t := HE.hcq
    have e1t := HE.ht
    clear F1 N1 hm1 hbrk hrt
    dsimp only
    k_steps
    refine Stop.mk ?_
    rename Fr _ _ _ _ => F3
    rename News _ _ _ _ => N3
    refine' assignComp_K F3 rfl ?sw ?cl ?ce ?ki ?na ?lx ?hy ?hp ?_
    case sw => with_unfolding_all rfl
    case cl => with_unfolding_all rfl
    case ce => decide
    case ki => rfl
    case na => decide
    case lx => rfl
    case hy => rfl
    case hp => rfl
    k_steps
    refine Stop.mk ?_
    rename Fr _ _ _ _ => F4
    rename News _ _ _ _ => N4
    have hK5 : kv1.length ≤ 5 := by
      have e := congrArg List.length hk1
      rw [List.length_map, List.length_map] at e
      have := hKI.cnt
      lia
    refine' csrc_dict (kvs := kv1) (fun i y => ∀ q, K[i]? = some q → AllowV (best st.1 q (rs1 q)) y) rfl F4 N4 hb1 hbt hD1 (Nat.le_trans hK5 (Nat.le_of_ble_eq_true rfl)) ?ctu ?cfi
    case ctu =>
      intro g0 i v C oC mm h5 tk5 tl5 E' hi5 hP5 hC5 hx5 hm5 hsub F5 N5
      obtain ⟨kx, yx, tx, hkx, rfl⟩ := hP5
      have hq : ∃ q, K[i]? = some q ∧ kx = fo q := by
        have e : (kv1.map (·.1))[i]? = some kx := by rw [List.getElem?_map, hkx]; rfl
        rw [hk1, List.getElem?_map] at e
        cases hKi : K[i]? with
        | none => rw [hKi] at e; cases e
        | some q => rw [hKi] at e; exact ⟨q, rfl, (Option.some.inj e).symm⟩
      obtain ⟨q, hKi, rfl⟩ := hq
      have hqK := List.mem_of_getElem? hKi
      obtain ⟨e, hve, hfe⟩ := hF1 q hqK
      have hq5 : q < 5 := by obtain ⟨k, hk5, e⟩ := (hKI.mem q).mp hqK; rw [← e]; exact hKI.lt k hk5
      have hpt5 := hsub _ hpt
      have hbt5 := hsub _ hbt
      have e2t5 := hsub _ e2t
      have e3t5 := hsub _ e3t
      have him5 := hBJ.at' F5 N5 hsub
      obtain ⟨d5, u5, l5, t1, t2, t3, t4, n5, m5, us5, vs5, b1, b2, b3, b4, b5, b6⟩ := id hfe
      have hxe := him5 _ b1
      have hxd := him5 _ b2
      (try clear F4); (try clear N4); (try clear F2); (try clear N2)
      k_steps
      refine Stop.mk ?_
      rename Fr _ _ _ _ => F6
      rename News _ _ _ _ => N6
      refine' allow_use F6 N6 ?k3 ?k4 rfl ?k6 ?k7 hq5 hpt5 hP1 (hfe.rules him5 fun y hy => (hBJ.off y hy).1) (fun r hr => hA.ok r ((hKI.rsOk q hqK r).mp hr).1) ?_
      case k3 => k_asm
      case k4 => k_asm
      case k6 => tb_start
      case k7 => tb_start
      intro h7 tk7 v7 F7 N7 S7 hv7
      k_steps
      exact CEnd.mk' F7 N7 (fun p h => h) fun q' hq' => by rw [hKi] at hq'; cases hq'; exact hv7
    case cfi =>
      intro g0 D h5 tk5 ys hyl hY F5 N5 nD
      k_sweep
      k_steps
      refine Stop.mk ?_
      have hKl : kv1.length = K.length := by
        have e := congrArg List.length hk1
        rwa [List.length_map, List.length_map] at e
      have nDe : ∀ y ∈ tl, y.1 ≠ D := nD
      refine' for_valsX (vs := ys) (news := tl) (fun i2 m nw => JA w mean mg mb g' im all p b tp (L' + 1) (L' + 1 + 1) obk oq own (fun st' => st' = stAt st.1 K rs1 st i2) m nw) ?hh2 ?hl2 ?hlL2 ?htg2 ?F2 ?N2 ?hj2 ?hc2 ?turn2 ?done2
      case hh2 => exact rfl
      case hl2 => exact ⟨_, (N5 _ (.head _)).1, rfl, _, rfl⟩
      case hlL2 => exact (N5 _ (.head _)).2.1
      case htg2 => exact .inl ⟨_, _, rfl⟩
      case F2 => exact F5
      case N2 => exact newsSub N5 fun p h => .tail _ h
      case hj2 => exact ⟨rfl, st, K, xs1, rs1, im1, tv, n1, rfl, hOld, ⟨HE.ki, HE.bj, HE.nt, HE.tpp, HE.tpb, HE.ht, HE.hs, HE.hcb, HE.hcq, fun z hz => HE.own z (List.mem_append_left _ hz)⟩⟩
      case hc2 => exact nDe
      case turn2 =>
        rintro i2 v4 m4 nw4 h6 tk6 own4 P4 hv4 ⟨hm4, st4, K4, xs4, rs4, im4, tv4, n4, hst4, hOld4, H4⟩ hown4 F6 N6 next4 hbrk4 hrt4
        rw [chainL (m := m4) (l := [(Str.ofString "taken", Value.ref tp)]) (fun q hq => by rw [List.mem_singleton.mp hq]; exact hm4)] at F6
        simp only [chainF, List.foldr] at F6
        obtain ⟨H5, hdis4⟩ := H4.enter hown4 N6
        clear H4
        generalize nw4 ++ own4 = tl4 at N6 H5
        have hiK : i2 < K.length := by rw [← hKl, ← hyl]; exact (List.getElem?_eq_some_iff.mp hv4).1
        obtain ⟨q, hq⟩ : ∃ q, K[i2]? = some q := ⟨K[i2], List.getElem?_eq_getElem hiK⟩
        have hqK := List.mem_of_getElem? hq
        have hV : AllowV (best st.1 q (rs1 q)) v4 := hY i2 v4 hv4 q hq
        have hsu := stAt_succ (f := st.1) (rs := rs1) (st := st) hq
        clear F5 N5 hm4 hbrk4 hrt4 next
        dsimp only
        cases hbq : best st.1 q (rs1 q) with
        | none =>
          rw [hbq] at hV hsu
          have hV : v4 = .bool true := hV
          subst hV
          k_steps
          rename Fr _ _ _ _ => F7
          rename News _ _ _ _ => N7
          exact next4 .next _ _ _ (offOwn own4 tl4) (.inl rfl) F7 (H5.newsOf N7) ⟨rfl, st4, K4, xs4, rs4, im4, tv4, n4, hst4.trans hsu.symm, hOld4, H5.leave hdis4⟩ fun y hy => .inr (.inr (mem_offOwn.mp hy).2)
        | some r =>
          rw [hbq] at hV hsu
          obtain ⟨tr, rfl⟩ : ∃ t, v4 = .str r.road t := hV
          have e2u := H5.hcb
          have e3u := H5.hcq
          have e1u := H5.ht
          have hrs := best_some hbq
          have hra : r ∈ all := ((hKI.rsOk q hqK r).mp hrs.1).1
          have hGd : Good (fun r => r ∈ all.map toR) st4 := by
            rw [hst4]
            exact stAt_good hA hKI (hRd.good hA.inj hA.in5) i2
          have hTd : Told (fun r => r ∈ all.map toR) (toR r) := hKI.chosen.told _ (List.mem_map_of_mem (List.mem_filterMap.mpr ⟨q, hqK, hbq⟩))
          have hwd := hA.words hGd hra
          have hlen7 := good_len hA hGd
          have hsu2 : stAt st.1 K rs1 st (i2 + 1) = takeR st4 (toR r) := by rw [hsu, hst4]
          k_steps
          refine Stop.mk ?_
          rename Fr _ _ _ _ => F7
          rename News _ _ _ _ => N7
          refine' notinT N7 e1u (strsAre_of H5.hs) ?_
          rw [hwd]
          by_cases hin : toR r ∈ st4.2
          · rw [decide_eq_true hin]
            k_sweep
            k_steps
            exact next4 .next _ _ _ (offOwn own4 tl4) (.inl rfl) F7 (H5.newsOf N7) ⟨rfl, st4, K4, xs4, rs4, im4, tv4, n4, by rw [hsu2, takeR_yes hin], hOld4, H5.leave hdis4⟩ fun y hy => .inr (.inr (mem_offOwn.mp hy).2)
          · rw [decide_eq_false hin]
            have hne : st4.1 r.o ≠ st4.1 r.t := Good.apart (all := fun r => r ∈ all.map toR) (fun a b ha hb => hA.inj a ha b hb) hA.in5 hGd hTd hin
            have hok := hA.ok r hra
            obtain ⟨op4, hp4, pk4, hpD4, hpv4, hpk4⟩ := H5.bj.hp
            obtain ⟨ob4, kv4, hb4, hbD4, hbk4, hbf4⟩ := H5.bj.hb
            k_sweep
            k_steps
            refine Stop.mk ?_
            rename Fr _ _ _ _ => F8
            rename News _ _ _ _ => N8
            refine' appT F8 N8 e1u ?_ ?_
            · have := H5.hs.length
              rw [List.length_map] at this
              rw [List.size_toArray]
              lia
            intro h9 tk9 tl9 F9 N9 M9
            have hp9 := M9.old _ hp4 H5.tpp.symm
            have hb9 := M9.old _ hb4 H5.tpb.symm
            have ecb9 : (L' + 1, obk) ∈ tl9 := M9.old _ e2u (neObj N8 e2u e1u fun q => by rw [q] at db'; cases db')
            have ecq9 : (L' + 1 + 1, oq) ∈ tl9 := M9.old _ e3u (neObj N8 e3u e1u fun q => by rw [q] at dq'; cases dq')
            (try clear F7); (try clear N7); (try clear F6); (try clear N6); clear F8
            k_sweep
            have hE : EndsOk r.road (nm r.o) (nm r.t) := ends_rd hok.ho hok.ht hok.hi
            k_steps
            refine Stop.mk ?_
            rename Fr _ _ _ _ => F10
            rename News _ _ _ _ => N10
            refine' listComp_K F10 ?cl2 ?ce2 ?ki2 ?na2 ?lx2 ?_
            case cl2 => with_unfolding_all rfl
            case ce2 => decide
            case ki2 => rfl
            case na2 => decide
            case lx2 => rfl
            k_steps
            refine Stop.mk ?_
            rename Fr _ _ _ _ => F11
            rename News _ _ _ _ => N11
            refine' ends_use F11 N11 ?c1 ?c2 rfl ?c3 ?c4 hE ?_
            case c1 => k_asm
            case c2 => k_asm
            case c3 => tb_start
            case c4 => tb_start
            intro ax ta tb h12 tk12 F12 N12 nea
            k_sweep
            k_steps
            refine Stop.mk ?_
            refine' csrc_tuple (k := 0) (its := #[.str (nm r.o) ta, .str (nm r.t) tb]) (fun i y => ∃ u, y = .str (fo (st4.1 (if i = 0 then r.o else r.t))) u) rfl F12 N12 (.inl (.head _)) rfl (Nat.le_of_ble_eq_true rfl) ?ctu2 ?cfi2
            case ctu2 =>
              intro g1 i3 v3 C3 oC3 mm3 h13 tk13 tl13 E3' hi3 hP3 hC3 hx3 hm3 hsub3 F13 N13
              obtain ⟨k, hk5, tq, rfl, hke⟩ : ∃ k, k < 5 ∧ ∃ tq, v3 = .str (nm k) tq ∧ (if i3 = 0 then r.o else r.t) = k := by
                rcases two_arr hP3 with ⟨rfl, e⟩ | ⟨rfl, e⟩
                · exact ⟨r.o, hok.ho, _, e, rfl⟩
                · exact ⟨r.t, hok.ht, _, e, rfl⟩
              obtain ⟨hfk, tv3, hvv⟩ := hpv4 k hk5
              have p13 := hsub3 _ (.tail _ hp9)
              have c13 := hsub3 _ (.tail _ ecq9)
              obtain ⟨fd1, fd2, _⟩ := fo_dir hfk hk5
              (try clear F12); (try clear N12); clear hsub3
              dsimp only
              k_steps
              refine Stop.mk ?_
              rename Fr _ _ _ _ => F14
              rename News _ _ _ _ => N14
              refine' dirname_use F14 N14 ?d1 ?d2 rfl ?d3 ?d4 fd1 ?_
              case d1 => k_asm
              case d2 => k_asm
              case d3 => tb_start
              case d4 => tb_start
              intro h15 tk15 t15 F15 N15
              k_sweep
              k_steps
              exact CEnd.mk' F15 N15 (fun p h => h) ⟨t15, by rw [hke, fd2]⟩
            case cfi2 =>
              intro g1 D3 h13 tk13 ys3 hl3 hY3 F13 N13 nD3
              obtain ⟨y0, y1, rfl⟩ := two_len2 hl3
              obtain ⟨u0, rfl⟩ : ∃ u, y0 = .str (fo (st4.1 r.o)) u := hY3 0 _ rfl
              obtain ⟨u1, rfl⟩ : ∃ u, y1 = .str (fo (st4.1 r.t)) u := hY3 1 _ rfl
              have N14 := newsSub (news := (D3, W.listOf #[.str (fo (st4.1 r.o)) u0, .str (fo (st4.1 r.t)) u1] 2) :: tl9) N13 fun y hy => by
                rcases List.mem_cons.mp hy with rfl | hy
                · exact .head _
                · exact .tail _ (.tail _ hy)
              have k1 : st4.1 r.o ∈ K4 := (H5.ki.mem _).mpr ⟨_, hok.ho, rfl⟩
              have k2 : st4.1 r.t ∈ K4 := (H5.ki.mem _).mpr ⟨_, hok.ht, rfl⟩
              obtain ⟨e1, hv1, hf1⟩ := hbf4 _ k1
              obtain ⟨e2, hv2, hf2⟩ := hbf4 _ k2
              clear F12 N12 N13 hY3 hl3 nea nD3
              generalize hT14 : (_ :: tl9 : List (Addr × Obj)) = TL14 at N14
              have d14 : (D3, W.listOf #[.str (fo (st4.1 r.o)) u0, .str (fo (st4.1 r.t)) u1] 2) ∈ TL14 := hT14 ▸ .head _
              have up14 : ∀ y ∈ tl9, y ∈ TL14 := fun y hy => hT14 ▸ .tail _ hy
              have b14 := up14 _ hb9
              have p14 := up14 _ hp9
              have cb14 := up14 _ ecb9
              have cq14 := up14 _ ecq9
              k_sweep
              k_steps
              refine Stop.mk ?_
              rename Fr _ _ _ _ => F15
              rename News _ _ _ _ => N15
              have hkl4 : kv4.length ≤ 5 := by
                have e := congrArg List.length hbk4
                rw [List.length_map, List.length_map] at e
                have := H5.ki.cnt
                lia
              refine' popT F15 N15 b14 hbD4 (by lia) hv2 ?_
              intro h16 tk16 ob16 TL16 F16 N16 M16 hD16
              have notCell : ∀ {o : Obj} {v : Option Value}, o.data = .cell v → o ≠ ob4 := fun {o v} hd q => by
                obtain ⟨es, n, _, hdd, _⟩ := hbD4
                rw [q, hdd] at hd; cases hd
              have p16 := M16.old _ p14 H5.bj.pb
              have cb16 : (L' + 1, obk) ∈ TL16 := M16.old _ cb14 (neObj N15 cb14 b14 (notCell db'))
              have cq16 : (L' + 1 + 1, oq) ∈ TL16 := M16.old _ cq14 (neObj N15 cq14 b14 (notCell dq'))
              have up16 : ∀ y ∈ tl4, y.1 ≠ tp → y.1 ≠ b → y ∈ TL16 := fun y hy h1 h2 => M16.old _ (up14 _ (M9.old _ hy h1)) h2
              have tp16 := M16.old _ (up14 _ M9.new) H5.tpb
              clear F15 N15
              k_sweep
              k_steps
              refine Stop.mk ?_
              rename Fr _ _ _ _ => F17
              rename News _ _ _ _ => N17
              have imAt : ∀ y ∈ im4, g'.get? y.1 = some y.2 ∨ y ∈ TL16 := fun y hy => (H5.bj.him y hy).imp id fun e => up16 y e (H5.nt y hy) (H5.bj.off y hy).2
              refine' merge_use2 F17 N17 ?d1 ?d2 rfl ?d3 ?d4 hf1 hf2 (fun y hy => (imAt y hy).elim (fun e => F17.keep _ _ e) fun e => N17.get e) ?z1 ?z2 ?z3 ?_
              case d1 => k_asm
              case d2 => k_asm
              case d3 => tb_start
              case d4 => tb_start
              case z1 => rw [H5.ki.xsOk _ k1]; exact agents_len
              case z2 => rw [H5.ki.xsOk _ k2]; exact agents_len
              case z3 =>
                have a1 := H5.ki.bnd _ k1
                have a2 := H5.ki.bnd _ k2
                have a3 : 2 ^ st4.2.length ≤ 2 ^ 7 := Nat.pow_le_pow_right (by decide) hlen7
                have a4 : 2 ^ 7 = 128 := by decide
                lia
              intro h18 tk18 x new F18 N18 fr1 fr2 hfx
              have upn18 : ∀ y ∈ new, y ∈ new ++ TL16 := fun y hy => List.mem_append_left _ hy
              have up18 : ∀ y ∈ TL16, y ∈ new ++ TL16 := fun y hy => List.mem_append_right _ hy
              generalize new ++ TL16 = TL18 at N18 upn18 up18
              have b18 := up18 _ M16.new
              have p18 := up18 _ p16
              have cb18 := up18 _ cb16
              have cq18 := up18 _ cq16
              have tp18 := up18 _ tp16
              clear F17 N17 imAt
              k_sweep
              k_steps
              rename Fr _ _ _ _ => F19
              rename News _ _ _ _ => N19
              have hwl : (without kv4 (fo (st4.1 r.t))).length ≤ 5 := Nat.le_trans (List.length_filter_le _ _) hkl4
              refine' setT F19 N19 b18 hD16 (by lia) ?_
              intro h20 tk20 ob20 TL20 F20 N20 M20 hD20
              have p20 := M20.old _ p18 H5.bj.pb
              have cb20 : (L' + 1, obk) ∈ TL20 := M20.old _ cb18 (neObj N19 cb18 b18 fun q => by obtain ⟨es, n, _, hdd, _⟩ := hD16; rw [q, hdd] at db'; cases db')
              have cq20 : (L' + 1 + 1, oq) ∈ TL20 := M20.old _ cq18 (neObj N19 cq18 b18 fun q => by obtain ⟨es, n, _, hdd, _⟩ := hD16; rw [q, hdd] at dq'; cases dq')
              have tp20 := M20.old _ tp18 H5.tpb
              have b20 := M20.new
              have up20 : ∀ y ∈ tl4, y.1 ≠ tp → y.1 ≠ b → y ∈ TL20 := fun y hy h1 h2 => M20.old _ (up18 _ (up16 y hy h1 h2)) h2
              have upn20 : ∀ y ∈ new, y ∈ TL20 := fun y hy => M20.old _ (upn18 y hy) fun q => fr1 y hy _ M16.new q.symm
              have cqp : @Ne Nat (L' + 1 + 1) p := neObj N20 cq20 p20 fun q => by obtain ⟨es, n, _, hdd, _⟩ := hpD4; rw [q, hdd] at dq'; cases dq'
              have cbp : @Ne Nat (L' + 1) p := neObj N20 cb20 p20 fun q => by obtain ⟨es, n, _, hdd, _⟩ := hpD4; rw [q, hdd] at db'; cases db'
              have frl : ∀ y ∈ new, ∀ z ∈ tl4, z.1 ≠ y.1 := fun y hy z hz => by
                by_cases h1 : z.1 = tp
                · rw [h1]; exact fr1 y hy _ tp16
                · by_cases h2 : z.1 = b
                  · rw [h2]; exact fr1 y hy _ M16.new
                  · exact fr1 y hy _ (up16 z hz h1 h2)
              have hq1 := H5.ki.lt _ hok.ho
              clear F19 N19
              k_sweep
              k_steps
              refine Stop.mk ?_
              rename Fr _ _ _ _ => F21
              rename News _ _ _ _ => N21
              refine' for_str (JN w p tp (st4.1 r.o) (st4.1 r.t) u0 u1 st4.1 TL20) ?hh3 ?hx3 ?F3 ?N3 ?hj3 ?turn3 ?done3
              case hh3 => exact rfl
              case hx3 => decide +kernel
              case F3 => exact F21
              case N3 => exact N21
              case hj3 => exact ⟨rfl, rfl, rfl, ⟨op4, p20, PathsAt.congr' (f := st4.1) ⟨pk4, hpD4, hpv4, hpk4⟩ fun k _ => by unfold fAt; rw [if_neg (by lia)]⟩, fun y h _ => h⟩
              case turn3 =>
                rintro i5 c u5 m5 nw5 h21 tk21 own5 P5 hc5 ⟨ht5, hk5', hg5, ⟨op5, hp5, pk5, hpD5, hpv5, hpk5⟩, hTL5⟩ hown5 F22 N22 next5 hbrk5 hrt5
                have hi5 : i5 < 5 := by
                  rcases Nat.lt_or_ge i5 5 with h | h
                  · exact h
                  · rw [Array.getElem?_eq_none (by exact h)] at hc5; cases hc5
                have hcc : (⟨#[c]⟩ : Str) = nm i5 := by
                  have : ∀ i, i < 5 → (Str.ofString "abcde").cps[i]? = some (97 + i) := by decide
                  rw [this i5 hi5] at hc5
                  cases hc5
                  rfl
                rw [hcc]
                have hin5 : ∀ y ∈ nw5, y ∈ nw5 ++ own5 := fun y hy => List.mem_append_left _ hy
                have hO5 : ∀ y ∈ own5, y ∈ nw5 ++ own5 := fun y hy => List.mem_append_right _ hy
                have ho5 : ∀ z ∈ own5, ∀ y ∈ nw5, z.1 ≠ y.1 := fun z hz y hy => hown5 z hz _ (List.mem_map_of_mem hy)
                generalize nw5 ++ own5 = tl5 at N22 hin5 hO5
                rw [chain3 ht5 hk5' hg5] at F22
                have p22 := hin5 _ hp5
                have cq22 := hin5 _ (hTL5 _ cq20 cqp)
                obtain ⟨hfi, tv5, hvv5⟩ := hpv5 i5 hi5
                have efi : fAt st4.1 (st4.1 r.o) (st4.1 r.t) i5 i5 = st4.1 i5 := if_neg (fun q => Nat.lt_irrefl _ q.1)
                obtain ⟨fd1, fd2, fd3⟩ := fo_dir hfi hi5
                rw [efi] at hvv5 hfi fd1 fd2 fd3
                have hpkl : pk5.length ≤ 5 := by
                  have := congrArg List.length hpk5
                  simp only [List.length_map, List.length_cons, List.length_nil] at this
                  lia
                clear F21 N21 ht5 hk5' hg5 hbrk5 hrt5 hc5 hcc next4
                dsimp only
                k_steps
                refine Stop.mk ?_
                rename Fr _ _ _ _ => F23
                rename News _ _ _ _ => N23
                refine' dirname_use F23 N23 ?d1 ?d2 rfl ?d3 ?d4 fd1 ?_
                case d1 => k_asm
                case d2 => k_asm
                case d3 => tb_start
                case d4 => tb_start
                intro h24 tk24 t24 F24 N24
                rw [fd2]
                clear F22 N22 F23 N23
                k_sweep
                k_steps
                · rename _ = true => hqe
                  have hq : st4.1 i5 = st4.1 r.t := fo_inj' (eq_of_beq hqe)
                  refine Stop.mk ?_
                  rename Fr _ _ _ _ => F25
                  rename News _ _ _ _ => N25
                  refine' basename_use F25 N25 ?d1 ?d2 rfl ?d3 ?d4 fd1.len ?_
                  case d1 => k_asm
                  case d2 => k_asm
                  case d3 => tb_start
                  case d4 => tb_start
                  intro h26 tk26 t26 F26 N26
                  rw [fd3]
                  clear F25 N25
                  k_sweep
                  k_steps
                  refine Stop.mk ?_
                  rename Fr _ _ _ _ => F27
                  rename News _ _ _ _ => N27
                  refine' joinR_use F27 N27 ?d1 ?d2 rfl ?d3 ?d4 (join_pa _ hq1 _ hi5) ?_
                  case d1 => k_asm
                  case d2 => k_asm
                  case d3 => tb_start
                  case d4 => tb_start
                  intro h28 tk28 t28 F28 N28
                  clear F27 N27
                  k_sweep
                  k_steps
                  rename Fr _ _ _ _ => F29
                  rename News _ _ _ _ => N29
                  refine' setT F29 N29 p22 hpD5 (by lia) ?_
                  intro h30 tk30 op30 TL30 F30 N30 M30 hD30
                  clear F29 N29
                  k_sweep
                  k_steps
                  refine next5 .next _ _ _ (offOwn own5 TL30) (.inl rfl) (by k_asm) (newsSub (by k_asm) fun y hy => ?_) ⟨rfl, rfl, rfl, ⟨op30, mem_offOwn.mpr ⟨M30.new, fun z hz => ho5 z hz (p, op5) hp5⟩, paths_set (o := op5) hpv5 hpk5 hD30 hq1 hi5 hq⟩, fun y hy hyp => mem_offOwn.mpr ⟨M30.old _ (hin5 _ (hTL5 y hy hyp)) hyp, fun z hz => ho5 z hz _ (hTL5 y hy hyp)⟩⟩ fun y hy => .inr (.inr (mem_offOwn.mp hy).2)
                  rcases List.mem_append.mp hy with hy | hy
                  · exact (mem_offOwn.mp hy).1
                  · exact M30.old _ (hO5 _ hy) (ho5 y hy _ hp5)
                · rename _ = false => hqe
                  have hq : st4.1 i5 ≠ st4.1 r.t := fun q => by rw [q, beq_self_eq_true] at hqe; cases hqe
                  refine next5 .next _ _ _ (offOwn own5 tl5) (.inl rfl) (by k_asm) (newsSub (by k_asm) fun y hy => ?_) ⟨rfl, rfl, rfl, ⟨op5, mem_offOwn.mpr ⟨p22, fun z hz => ho5 z hz _ hp5⟩, paths_stay ⟨pk5, hpD5, hpv5, hpk5⟩ hq⟩, fun y hy hyp => mem_offOwn.mpr ⟨hin5 _ (hTL5 y hy hyp), fun z hz => ho5 z hz _ (hTL5 y hy hyp)⟩⟩ fun y hy => .inr (.inr (mem_offOwn.mp hy).2)
                  rcases List.mem_append.mp hy with hy | hy
                  · exact (mem_offOwn.mp hy).1
                  · exact hO5 _ hy
              case done3 =>
                rintro m5 nw5 h21 tk21 ⟨ht5, hk5', hg5, ⟨op5, hp5, hP5⟩, hTL5⟩ F22 N22
                have H6 := H5.merged (r := r) (nwf := nw5) ⟨hok.ho, hok.ht⟩ hne hbk4 hbf4 (fun y hy h1 h2 h3 => hTL5 y (up20 y hy h1 h2) h3) (fun y hy => hTL5 y (upn20 y hy) (frl y hy _ hp4).symm) frl hfx (hTL5 _ b20 H5.bj.pb.symm) hD20 hp5
                  (hP5.congr' fun k hk => by
                    unfold fAt joinF
                    have : (Str.ofString "abcde").cps.size = 5 := by decide
                    by_cases e : st4.1 k = st4.1 r.t
                    · rw [if_pos ⟨by lia, e⟩, if_pos e]
                    · rw [if_neg fun q => e q.2, if_neg e])
                  (by
                    have := hTL5 _ tp20 H5.tpp
                    rw [List.push_toArray] at this
                    exact this) (hTL5 _ cb20 cbp) (hTL5 _ cq20 cqp)
                k_steps
                exact next4 .next _ _ _ (offOwn own4 nw5) (.inl rfl) F22 (H6.newsOf N22) ⟨ht5, _, _, _, _, _, _, _, (hsu2.trans (takeR_no hin)).symm, fun y hy => (List.mem_append.mp hy).elim (fun h => .inr (N22 y (hTL5 y (upn20 y h) (frl y h _ hp4).symm)).2.2) (hOld4 y), H6.leave hdis4⟩ fun y hy => .inr (.inr (mem_offOwn.mp hy).2)
      case done2 =>
        rintro m4 nw4 h6 tk6 ⟨hm4, st4, K4, xs4, rs4, im4, tv4, n4, hst4, hOld4, H4⟩ F6 N6 _
        rw [hyl, hKl, stAt_all] at hst4
        have hR2 : Rounds (all.map toR) (i + 1) st4 := hst4 ▸ hRd.succ hKI.chosen
        have H7 : JS0 w mean mg mb g' all p b tp (L' + 1) (L' + 1 + 1) obk oq (own ++ []) st4 K4 xs4 rs4 im4 tv4 n4 nw4 := by rw [List.append_nil]; exact H4
        k_steps
        exact next .next _ _ _ (offOwn own nw4) (.inl rfl) F6 (H7.newsOf N6) ⟨hm4, st4, K4, xs4, rs4, im4, tv4, n4, hR2, hOld4, H7.leave fun z _ y hy => nomatch hy⟩ fun y hy => .inr (mem_offOwn.mp hy).2
  case done =>
    rintro m1 nw1 h2 tk2 ⟨hm1, st, K, xs1, rs1, im1, tv, n1, hRd, hOld, HJ⟩ F2 N2
    rw [chainL (m := m1) (l := [(Str.ofString "taken", Value.ref tp)]) (fun q hq => by rw [List.mem_singleton.mp hq]; exact hm1)] at F2
    simp only [chainF, List.foldr] at F2
    have S2 := Fr.stp F2 eg
    clear F1 N1
    k_steps
    exact ret _ _ tp tv n1 nw1 im1 st K xs1 rs1 (by k_asm) (fun y hy => ⟨(N2 y hy).1, eg ▸ (N2 y hy).2.2⟩) (eg ▸ HJ.bj) HJ.ki HJ.ht HJ.tpp HJ.tpb HJ.hs hRd (eg ▸ hOld)
end
end Mine

end PJ2
section PK1
theorem Mine.rs_K1 : True := by
  w_top off
  first | walk1 | trivial
open PySem PySem.W PySem.Calls PyProof.Rows
set_option Elab.async false
set_option maxRecDepth 100000
set_option pp.deepTerms false
set_option pp.deepTerms.threshold 8
namespace Mine
open Pl (R krus krus_snoc keepR joinF HeapFrom)
theorem fillKK1 : (PySem.Challenge.rw_il0068_01 = PySem.Challenge.rw_il0068_01 ∧ hd.heap_39 = hd.heap_39) := by k_fill; exact ⟨rfl, rfl⟩
local macro_rules | `(tactic| walk_at "eval DictComp") => `(tactic| (k_here; k_dflt (refine Stop.go ?_)))
local macro_rules | `(tactic| walk_at "eval ListComp") => `(tactic| (k_here; k_dflt (refine Stop.go ?_)))
local macro_rules | `(tactic| walk_at "exec While Name cons nil") => `(tactic| (k_here; k_dflt (refine Stop.go ?_)))
local macro_rules | `(tactic| walk_at "call ref") => `(tactic| (k_here; k_dflt (refine Stop.go ?_)))
local macro_rules | `(tactic| walk_at "truthy ref") => `(tactic| (k_here; k_dflt (refine Stop.go ?_)))
local macro_rules | `(tactic| walk_at "eval Name") => `(tactic| (k_here; k_dflt (refine' nsName ?n ?m ?_ ?a ?b; (case a => rfl); (case b => rfl); (case n => with_reducible assumption); (case m => with_reducible assumption); k_whole)))
local macro_rules | `(tactic| walk_at "subscriptTail") => `(tactic| (k_here; (with_reducible show wpAny _ _ (subscriptTail _ _ (Value.ref _) (Value.str _ _)) _ _ _); k_dflt (refine' dictItem (by k_asm) (by k_mem) (by with_reducible assumption) (by with_reducible assumption) ?_; k_whole)))
local macro_rules | `(tactic| k_ne) => `(tactic| first | with_reducible assumption | (refine Ne.symm ?_; with_reducible assumption))
section
variable {w : World} {mean : ExcName → Option Value} {mg mb : Str → Option Value} {A : Around} {s : Shared} {Q E : Value → Shared → Prop} {g : Heap} {L : Addr} {m : Str → Option Value} {news : List (Addr × Obj)} {dp un : Nat} {fr : Option (List Env)} {gd : Option (List Code)}
structure JK (w : World) (rl : Addr → Rule) (L0 : List Addr) (hp kp L' : Addr) (k : Nat) (m : Str → Option Value) (nw : List (Addr × Obj)) (Lst dn : List Addr) (n n2 : Nat) (kv : Array Value) (gr : Addr) (go og ok ox : Obj) (kvs : List (Str × Value)) (vk vx : Option Value) : Prop where
  hk : k = Lst.length
  hnw : nw = [(hp, W.listOf (Lst.map Value.ref).toArray n), (kp, W.listOf kv n2), (gr, go), (L' + 1 + 1 + 1, ox), (L' + 1 + 1, ok), (L' + 1, og)]
  ki : KI rl L0 Lst dn
  kv' : IsStrs kv.toList ((krus (dn.map fun a => toR (rl a))).2.map roadR)
  hgo : go.IsDictOf (strKind prg w) kvs
  hgv : ∀ q, q < 5 → ∃ t, valueAt kvs (nm q) = some (.str (nm ((krus (dn.map fun a => toR (rl a))).1 q)) t)
  dg : og.data = .cell (some (.ref gr))
  dk : ok.data = .cell vk
  dx : ox.data = .cell vx
  n1 : @Ne Nat hp gr
  n2' : @Ne Nat kp gr
  n3 : @Ne Nat (L' + 1) gr
  n4 : @Ne Nat (L' + 1 + 1) gr
  n5 : @Ne Nat (L' + 1 + 1 + 1) gr
  m1 : m "heap" = some (.ref hp)
  m2 : m "kept" = some (.ref kp)
inductive JKx (w : World) (rl : Addr → Rule) (L0 : List Addr) (hp kp L' : Addr) (k : Nat) (m : Str → Option Value) (nw : List (Addr × Obj)) : Prop
  | mk (Lst dn n n2 kv gr go og ok ox kvs vk vx : _) (hz1 : JK w rl L0 hp kp L' k m nw Lst dn n n2 kv gr go og ok ox kvs vk vx) : JKx w rl L0 hp kp L' k m nw
set_option maxHeartbeats 40000000 in
theorem kept_ok {r : Addr} {nr : Nat} {as : List Value} {all : List Rule} (hr : s.heap.get? r = some (W.listOf as.toArray nr)) (hra : RoadsAt s.heap as all) (hok : ∀ r ∈ all, r.Ok) (hnd : (all.map Rule.reach).Nodup) (h7 : as.length = 7)
   (G : Gd w mean mg mb [] s.heap) (hdp : dp < 350) (hun : un < 50)
   (ret : ∀ h' tk kp vs n l, Stp s.heap h' [] → h'.get? kp = some (W.listOf vs n) → s.heap.get? kp = none → IsStrs vs.toList ((krus l).2.map roadR) → Srt all l → Q (.ref kp) { s with heap := h', toks := tk }) :
   wpAny (model prg w) (At dp un fr gd) (call (.ref 251) [.ref r]) Q E s := by
  obtain ⟨L0, rl, rfl, rfl, hRD⟩ := roadsFn hra hok hnd
  refine wpAny_call ?_
  refine' enterC (news := []) ?k0 ?k1 ?k2 ?k3 ?k4 ?k5 ?k6 ?kD ?_ ?c2 ?c3 ?c4
  case k0 => assumption
  case k1 => exact fun _ h => nomatch h
  case k2 => k_is
  case k3 => k_is
  case k4 => tb_start
  case k5 => exact BindsTo.of_eq rfl
  case k6 => exact rfl
  case kD => decide +kernel
  case c2 => exact rfl
  case c3 => exact rfl
  case c4 => exact rfl
  intro g' L' h' tk' cells' F' N' Y' X' T' eg l1
  (try k_lt l1); k_cells Y'; (try simp only [List.cons_append, List.nil_append] at N'); (try dsimp only); (try k_fold)
  have eg2 : g' = s.heap := eg
  rw [← eg2] at hr hRD
  k_steps
  rename Fr _ _ _ _ => F1
  rename News _ _ _ _ => N1
  refine list_copyK F1 N1 ⟨_, F1.keep _ _ hr, rfl, _, rfl⟩ ?_ (by rw [List.size_toArray, h7]; exact Nat.le_of_ble_eq_true rfl)
  intro hp c1 h1 F2 N2 l2
  k_sweep
  k_lt l2
  k_steps
  refine Stop.mk ?_
  rename Fr _ _ _ _ => F3
  rename News _ _ _ _ => N3
  refine' dictComp_K (fun k y => ∃ t, y = .str k t) F3 ?cl ?ce ?ki ?na ?lx ?_
  case cl => with_unfolding_all rfl
  case ce => decide
  case ki => rfl
  case na => decide
  case lx => rfl
  k_steps
  rename Fr _ _ _ _ => F4
  rename News _ _ _ _ => N4
  refine' DSrc.str rfl (by decide +kernel) (by decide +kernel) F4 N4 ?_ ?_
  · intro c C m₂ u s₃ E' hc hn hm F N
    refine' nsName hn hm (DEnd.mk' ⟨u, rfl⟩)
  intro gr go kvs h5 tk5 F5 N5 ng hgo0 hgv0
  replace ng := allNe_of ng
  simp only [AllNe, and_true] at ng
  obtain ⟨ng1, ng2, ng3, ng4⟩ := ng
  k_sweep
  k_steps
  refine Stop.mk ?_
  rename_i kp _ lk1 _ _ lk2 _ _ _ og hog _ F6 N6
  refine' heapify_use (key := keyOf rl) F6 N6 ?a1 ?a2 rfl ?a3 ?a4 (by k_mem) (hRD.hp (by rw [List.length_map] at h7; lia)) (by rw [List.length_map] at h7; exact h7) ?_
  case a1 => k_asm
  case a2 => k_asm
  case a3 => tb_start
  case a4 => tb_start
  intro h7' tk7 tl7 F7 N7 M7
  have N8a := newsSub (news := [(hp, W.listOf ((upF (keyOf rl) (upF (keyOf rl) (upF (keyOf rl) L0 2) 1) 0).map Value.ref).toArray c1), (kp, W.listOf #[] 0), (gr, go), (L' + 1 + 1 + 1, _), (L' + 1 + 1, _), (L' + 1, og)]) N7 fun p hp' => by
    simp only [List.mem_cons, List.not_mem_nil, or_false] at hp'
    rcases hp' with rfl | rfl | rfl | rfl | rfl | rfl
    · exact M7.new
    · exact M7.old _ (by k_mem) (neN (by dsimp only; lia))
    · exact M7.old _ (by k_mem) (Ne.symm ng1)
    · exact M7.old _ (by k_mem) (neN (by dsimp only; lia))
    · exact M7.old _ (by k_mem) (neN (by dsimp only; lia))
    · exact M7.old _ (by k_mem) (neN (by dsimp only; lia))
  clear F6 N6
  k_steps
  refine Stop.mk ?_
  have hL7 : L0.length = 7 := by rw [List.length_map] at h7; exact h7
  have hpm7 : (upF (keyOf rl) (upF (keyOf rl) (upF (keyOf rl) L0 2) 1) 0).Perm L0 := by
    have e2 := upF_length (key := keyOf rl) (L := L0) (pos := 2) (by lia)
    have e1 := upF_length (key := keyOf rl) (L := upF (keyOf rl) L0 2) (pos := 1) (by lia)
    exact ((upF_perm (by lia)).trans (upF_perm (by lia))).trans (upF_perm (by lia))
  refine' while_st (JKx w rl L0 hp kp L') L0.length ?F ?N ?hj ?turn
  case F => exact F7
  case N => exact N8a
  case hj =>
    refine ⟨_, [], _, _, _, gr, go, og, _, _, kvs, _, _, ⟨?_, rfl, ⟨?_, .nil, (fun a ha => nomatch ha), ?_⟩, trivial, hgo0, ?_, hog, by assumption, by assumption, ng1, neN (by lia), ng4, ng3, ng2, rfl, rfl⟩⟩
    · exact hpm7.length_eq.symm
    · exact hpm7
    · rw [hpm7.length_eq, hL7]; exact heapify_heap hL7
    · intro q hq
      obtain ⟨c, hc, hcq⟩ := lettersOf hq
      obtain ⟨y, hy1, t, rfl⟩ := hgv0 c hc
      rw [hcq] at hy1
      exact ⟨t, hy1⟩
  case turn =>
    rintro k m₁ nw h8 tk8 P ⟨Lst, dn, n, n2, kv, gr, go, og, ok, ox, kvs, vk, vx, J⟩ F8 N8 next hbrk hrt
    obtain ⟨hk, rfl, ki, kv', hgo, hgv, dg, dk, dx, n1, n2', n3, n4, n5, m1, m2⟩ := J
    rw [chain2 m1 m2] at F8
    have lhk : @LT.lt Nat _ hp kp := by lia
    have lh3 : @LT.lt Nat _ (L' + 1 + 1 + 1) hp := by lia
    clear F7 N7 N8a M7 hbrk hrt ng1 ng2 ng3 ng4 lk1 lk2 l2 hog hgo0 hgv0
    dsimp only
    rcases nilOrSnoc Lst with rfl | ⟨init, z, rfl⟩
    · k_steps
      refine Stop.mk ?_
      rename Fr _ _ _ _ => F9
      rename News _ _ _ _ => N9
      refine' truthL (L0 := []) N9 (by k_mem) (by decide) ?_
      intro tk9
      k_steps
      dsimp only
      rename Fr _ _ _ _ => F9
      rename News _ _ _ _ => N9
      have hkp := N9 (kp, W.listOf kv n2) (by k_mem)
      have hdn : dn.Perm L0 := by have := ki.perm; rwa [List.append_nil] at this
      refine ret h8 tk9 kp kv n2 (dn.map fun a => toR (rl a)) (Fr.stp (as := []) F9 eg) hkp.1 ?_ kv' ⟨?_, ki.srt⟩
      · rw [← eg2]; exact hkp.2.2
      · rw [List.map_map]; exact hdn.map _
    · k_steps
      refine Stop.mk ?_
      rename Fr _ _ _ _ => F9
      rename News _ _ _ _ => N9
      have hz : (init ++ [z]).length < 500 := by have := ki.perm.length_eq; rw [List.length_append] at this; lia
      refine' truthL N9 (by k_mem) hz ?_
      intro tk9
      have hne : (!(init ++ [z]).isEmpty) = true := by simp
      rw [hne]
      k_sweep
      k_steps
      refine Stop.mk ?_
      rename Fr _ _ _ _ => F10
      rename News _ _ _ _ => N10
      refine' heappop_use (key := keyOf rl) F10 N10 ?b1 ?b2 rfl ?b3 ?b4 (by k_mem) ((hRD.hp (by lia)).sub (init ++ [z]) (fun a ha => ki.perm.mem_iff.mp (List.mem_append_right _ ha)) ((ki.perm.nodup_iff.mpr hRD.nd).sublist (List.sublist_append_right _ _)) hz) ?_
      case b1 => k_asm
      case b2 => k_asm
      case b3 => tb_start
      case b4 => tb_start
      intro h11 tk11 tl11 F11 N11 M11
      obtain ⟨ki2, hpm, hln⟩ := ki.pop hRD
      generalize popF (keyOf rl) init z = pp at *
      obtain ⟨pa, rest⟩ := pp
      dsimp only at ki2 hpm hln M11 ⊢
      have N12 := modSet N11 M11 (by k_all)
      obtain ⟨tr, tr', hra⟩ := hRD.at' pa hpm
      have htup : IsTup h11 pa #[.int (1000000 - (rl pa).reach) tr, .str (rl pa).road tr'] := ⟨_, F11.keep _ _ hra, rfl, _, rfl⟩
      clear F10 N10 N11 M11
      (try clear F9); (try clear N9); (try clear F8); (try clear N8)
      k_steps
      refine Stop.mk ?_
      have okr := hRD.ok pa hpm
      have hE : EndsOk (rl pa).road (nm (rl pa).o) (nm (rl pa).t) := ends_rd okr.ho okr.ht okr.hi
      rename Fr _ _ _ _ => F13
      rename News _ _ _ _ => N13
      refine' listComp_K F13 ?cl ?ce ?ki ?na ?lx ?_
      case cl => with_unfolding_all rfl
      case ce => decide
      case ki => rfl
      case na => decide
      case lx => rfl
      k_steps
      refine Stop.mk ?_
      rename Fr _ _ _ _ => F14
      rename News _ _ _ _ => N14
      refine' ends_use F14 N14 ?c1 ?c2 rfl ?c3 ?c4 hE ?_
      case c1 => k_asm
      case c2 => k_asm
      case c3 => tb_start
      case c4 => tb_start
      intro ax ta tb h15 tk15 F15 N15 nea
      k_steps
      generalize hf : krus (dn.map fun a => toR (rl a)) = kr at *
      refine' csrc_tuple (k := 0) (its := #[.str (nm (rl pa).o) ta, .str (nm (rl pa).t) tb]) (fun i y => ∃ u, y = .str (nm (kr.1 (if i = 0 then (rl pa).o else (rl pa).t))) u) rfl F15 N15 (.inl (.head _)) rfl (Nat.le_of_ble_eq_true rfl) ?ctu ?cfi
      case ctu =>
        intro g0 i v C oC mm h16 tk16 tl16 E' hi hP hC hx hm hsub F16 N16
        obtain ⟨q, hq, tq, rfl, hqe⟩ : ∃ q, q < 5 ∧ ∃ tq, v = .str (nm q) tq ∧ (if i = 0 then (rl pa).o else (rl pa).t) = q := by
          rcases two_arr hP with ⟨rfl, e⟩ | ⟨rfl, e⟩
          · exact ⟨(rl pa).o, okr.ho, _, e, rfl⟩
          · exact ⟨(rl pa).t, okr.ht, _, e, rfl⟩
        obtain ⟨tv, hvv⟩ := hgv q hq
        have e1 : (L' + 1, og) ∈ tl16 := hsub _ (by k_mem)
        have e2 : (gr, go) ∈ tl16 := hsub _ (by k_mem)
        clear F15 N15 hsub next hgv
        k_steps
        rename Fr _ _ _ _ => F17
        rename News _ _ _ _ => N17
        exact CEnd.mk' F17 N17 (fun p h => h) ⟨tv, by rw [hqe]⟩
      case cfi =>
        intro g0 D h17 tk17 ys hl hY F17 N17 nD
        obtain ⟨y0, y1, rfl⟩ := two_len2 hl
        obtain ⟨u0, rfl⟩ : ∃ u, y0 = .str (nm (kr.1 (rl pa).o)) u := hY 0 _ rfl
        obtain ⟨u1, rfl⟩ : ∃ u, y1 = .str (nm (kr.1 (rl pa).t)) u := hY 1 _ rfl
        replace nD := allNe_of nD
        simp only [AllNe, and_true] at nD
        obtain ⟨nD0, nD1, nD2, nD3, nD4, nD5, nD6⟩ := nD
        have N18 := newsSub (news := [(D, W.listOf #[.str (nm (kr.1 (rl pa).o)) u0, .str (nm (kr.1 (rl pa).t)) u1] 2), (hp, W.listOf (rest.map Value.ref).toArray (n + 1)), (kp, W.listOf kv n2), (gr, go), (L' + 1 + 1 + 1, ox), (L' + 1 + 1, ok), (L' + 1, og)]) N17 fun p hp' => by
          rcases List.mem_cons.mp hp' with rfl | hp'
          · exact .head _
          · exact .tail _ (.tail _ hp')
        clear F15 N15 N17 nD0 nea hY hl
        have hkq : (dn ++ [pa]).map (fun a => toR (rl a)) = dn.map (fun a => toR (rl a)) ++ [toR (rl pa)] := by simp
        have h5 : ∀ r ∈ dn.map (fun a => toR (rl a)), r.o < 5 ∧ r.t < 5 := fun r hr => by
          obtain ⟨a, ha, rfl⟩ := List.mem_map.mp hr
          have := hRD.ok a (ki.perm.mem_iff.mp (List.mem_append_left _ ha))
          exact ⟨this.ho, this.ht⟩
        have hlo : kr.1 (rl pa).o < 5 := hf ▸ krus_lt h5 _ okr.ho
        have hlt : kr.1 (rl pa).t < 5 := hf ▸ krus_lt h5 _ okr.ht
        have hlq : ∀ q, q < 5 → kr.1 q < 5 := fun q hq => hf ▸ krus_lt h5 q hq
        have hz7 : kr.2.length < 500 := by
          have e1 := krus_len (l := dn.map fun a => toR (rl a))
          rw [hf, List.length_map] at e1
          have := ki.perm.length_eq
          rw [List.length_append] at this
          lia
        k_sweep
        k_steps
        rotate_left
        · rename_i ok3 dok _ ox3 F19 N19 dox hc
          have he : kr.1 (rl pa).o = kr.1 (rl pa).t := by
            exact nm_ne_false hlo hlt hc
          refine next .next _ _ _ [(hp, W.listOf (rest.map Value.ref).toArray (n + 1)), (kp, W.listOf kv n2), (gr, go), (L' + 1 + 1 + 1, ox3), (L' + 1 + 1, ok3), (L' + 1, og)] rest.length (.inl rfl) ?_ F19 (newsSub N19 fun p h => .tail _ h) ⟨rest, dn ++ [pa], n + 1, n2, kv, gr, go, og, ok3, ox3, kvs, _, _, ⟨rfl, rfl, ki2, ?_, hgo, ?_, dg, dok, dox, n1, n2', n3, n4, n5, rfl, rfl⟩⟩
          · rw [hk, List.length_append, List.length_singleton]; lia
          · rw [hkq, krus_snoc, hf, keepR_pos (e := toR (rl pa)) he]; exact kv'
          · rw [hkq, krus_snoc, hf, keepR_pos (e := toR (rl pa)) he]; exact hgv
        · rename_i ok3 dok _ ox3 F19 N19 dox hc
          refine' appT F19 N19 (by k_mem) ?_ ?_
          · have e1 := kv'.length
            rw [List.length_map] at e1
            have e2 : kv.toList.length = kv.size := Array.length_toList
            lia
          intro h20 tk20 tl20 F20 N20 M20
          have N21 := newsSub (news := [(hp, W.listOf (rest.map Value.ref).toArray (n + 1)), (kp, W.listOf (kv.push (.str (rl pa).road tr')) (n2 + 1)), (gr, go), (L' + 1 + 1 + 1, ox3), (L' + 1 + 1, ok3), (L' + 1, og)]) N20 fun p hp' => by
            simp only [List.mem_cons, List.not_mem_nil, or_false] at hp'
            rcases hp' with rfl | rfl | rfl | rfl | rfl | rfl
            · exact M20.old _ (by k_mem) (neN (by dsimp only; lia))
            · exact M20.new
            · exact M20.old _ (by k_mem) (Ne.symm n2')
            · exact M20.old _ (by k_mem) (neN (by dsimp only; lia))
            · exact M20.old _ (by k_mem) (neN (by dsimp only; lia))
            · exact M20.old _ (by k_mem) (neN (by dsimp only; lia))
          clear F19 N19 M20 N20
          k_steps
          refine Stop.mk ?_
          rename Fr _ _ _ _ => F22
          rename News _ _ _ _ => N22
          refine' dictComp_K (fun k y => ∃ q t, q < 5 ∧ k = nm q ∧ y = .str (nm (joinF kr.1 (kr.1 (rl pa).o) (kr.1 (rl pa).t) q)) t) F22 ?cl2 ?ce2 ?ki2 ?na2 ?lx2 ?_
          case cl2 => with_unfolding_all rfl
          case ce2 => decide
          case ki2 => rfl
          case na2 => decide
          case lx2 => rfl
          k_steps
          rename Fr _ _ _ _ => F23
          rename News _ _ _ _ => N23
          refine' DSrc.str rfl (by decide +kernel) (by decide +kernel) F23 N23 ?_ ?_
          · intro c C mm u s₃ E' hc hn hm F N
            obtain ⟨q, hq, hcq⟩ := letters hc
            rw [hcq] at hm
            obtain ⟨tv, hvv⟩ := hgv q hq
            k_steps
            · rename (_ == _) = true => hc
              exact DEnd.mk' ⟨q, u0, hq, hcq, by rw [joinF_pos (nm_inj (eq_of_beq hc))]⟩
            · rename (_ == _) = false => hc
              exact DEnd.mk' ⟨q, tv, hq, hcq, by rw [joinF_neg fun e => by rw [e, beq_self_eq_true] at hc; cases hc]⟩
          intro gr2 go2 kvs2 h25 tk25 F25 N25 ng2 hgo2 hgv2
          replace ng2 := allNe_of ng2
          simp only [AllNe, and_true] at ng2
          obtain ⟨ng1, ng2, ng3, ng4, ng5, ng6⟩ := ng2
          clear F23 N23
          k_sweep
          k_steps
          rename_i og3 F26 N26 dog
          have he : ¬ kr.1 (rl pa).o = kr.1 (rl pa).t := nm_ne_true hc
          refine next .next _ _ _ [(hp, W.listOf (rest.map Value.ref).toArray (n + 1)), (kp, W.listOf (kv.push (.str (rl pa).road tr')) (n2 + 1)), (gr2, go2), (L' + 1 + 1 + 1, ox3), (L' + 1 + 1, ok3), (L' + 1, og3)] rest.length (.inl rfl) ?_ F26 (newsSub N26 fun p h => ?_) ⟨rest, dn ++ [pa], n + 1, n2 + 1, _, gr2, go2, og3, ok3, ox3, kvs2, _, _, ⟨rfl, rfl, ki2, ?_, hgo2, ?_, dog, dok, dox, ng1, ng2, ng6, ng5, ng4, rfl, rfl⟩⟩
          · rw [hk, List.length_append, List.length_singleton]; lia
          · simp only [List.mem_cons, List.not_mem_nil, or_false] at h ⊢
            rcases h with h | h | h | h | h | h
            · exact .inr (.inl h)
            · exact .inr (.inr (.inl h))
            · exact .inl h
            · exact .inr (.inr (.inr (.inr (.inl h))))
            · exact .inr (.inr (.inr (.inr (.inr (.inl h)))))
            · exact .inr (.inr (.inr (.inr (.inr (.inr h)))))
          · rw [hkq, krus_snoc, hf, keepR_neg (e := toR (rl pa)) he, Array.toList_push, List.map_append]
            exact isStrs_snoc kv'
          · rw [hkq, krus_snoc, hf, keepR_neg (e := toR (rl pa)) he]
            intro q hq
            obtain ⟨c, hc, hcq⟩ := lettersOf hq
            obtain ⟨y, hy1, q2, t2, hq2, e2, hy2⟩ := hgv2 c hc
            rw [hcq] at hy1 e2
            have := nm_inj e2
            subst this
            exact ⟨t2, by rw [hy1, hy2]; rfl⟩
end
end Mine

end PK1
section PT1
theorem Mine.rs_T1 : True := by
  w_top off
  first | walk1 | trivial
open PySem PySem.W PySem.Calls PyProof.Rows
set_option Elab.async false
set_option maxRecDepth 100000
set_option pp.deepTerms false
set_option pp.deepTerms.threshold 8
namespace Mine
open Pl (R clos krus)
theorem fillKT1 : (PySem.Challenge.rw_il0068_01 = PySem.Challenge.rw_il0068_01 ∧ hd.heap_39 = hd.heap_39) := by k_fill; exact ⟨rfl, rfl⟩
local macro_rules | `(tactic| walk_at "call builtin:sorted") => `(tactic| (k_here; k_dflt (refine Stop.go ?_)))
local macro_rules | `(tactic| walk_at "eval ListComp") => `(tactic| (k_here; k_dflt (refine Stop.go ?_)))
local macro_rules | `(tactic| walk_at "call type:enumerate") => `(tactic| (k_here; k_dflt (refine Stop.go ?_)))
local macro_rules | `(tactic| walk_at "exec For Tuple Call cons nil") => `(tactic| (k_here; k_dflt (refine wpAny_For ?_)))
local macro_rules | `(tactic| walk_at "exec For Name Call cons nil") => `(tactic| (k_here; k_dflt (refine wpAny_For ?_)))
local macro_rules | `(tactic| walk_at "exec For Name Name cons nil") => `(tactic| (k_here; k_dflt (refine wpAny_For ?_)))
local macro_rules | `(tactic| walk_at "call builtin:list.append") => `(tactic| (k_here; k_dflt (refine Stop.go ?_)))
local macro_rules | `(tactic| walk_at "pyIter ref") => `(tactic| (k_here; k_dflt (refine Stop.go ?_)))
local macro_rules | `(tactic| walk_at "subscriptTail") => `(tactic| (k_here; (with_reducible show wpAny _ _ (subscriptTail _ _ (Value.ref _) (Value.int _ _)) _ _ _); k_dflt (refine' listItemB (by k_asm) (by with_reducible assumption) (by with_reducible assumption) (by with_reducible assumption) ?_; k_whole)))
section
variable {w : World} {mean : ExcName → Option Value} {mg mb : Str → Option Value} {A : Around} {s : Shared} {Q E : Value → Shared → Prop} {g : Heap} {L : Addr} {m : Str → Option Value} {news : List (Addr × Obj)} {dp un : Nat} {fr : Option (List Env)} {gd : Option (List Code)}
noncomputable abbrev ZT (cs : List Int) (i : Nat) (vals : Array Value) : Prop := ∃ c t t', cs[i]? = some c ∧ vals = #[.int (rankF i c) t, .int i t']
inductive JT (cs : List Int) (ys : List Value) (q : Array Nat) (c tp cp : Addr) (i : Nat) (m : Str → Option Value) (nw : List (Addr × Obj)) : Prop
  | mk (hz1 : m "told" = some (.ref tp)) (hz2 : m "cheaper" = some (.ref cp)) (hz3 : m "cells" = some (.ref c)) (tv : List Value) (n1 : Nat) (mv : List Value) (n2 : Nat) (hz4 : (tp, W.listOf tv.toArray n1) ∈ nw) (hz5 : (cp, W.listOf mv.toArray n2) ∈ nw) (hz6 : TupsIn nw (ZT cs) ys) (hz7 : IsStrs tv ((tells ((lqOf cs q).take i)).2.map roadR)) (hz8 : IntsAre mv (((lqOf cs q).take i).map fun e => (maskR e : Int))) : JT cs ys q c tp cp i m nw
inductive JR (c tp cp : Addr) (j : Nat) (cj : Int) (ms : List Nat) (TL : List (Addr × Obj)) (k : Nat) (m : Str → Option Value) (nw : List (Addr × Obj)) : Prop
  | mk (hz1 : nw = TL) (t1 t2 t3 t4 : _) (hz2 : m "told" = some (.ref tp)) (hz3 : m "cheaper" = some (.ref cp)) (hz4 : m "cells" = some (.ref c)) (hz5 : m "turn" = some (.int j t1)) (hz6 : m "one" = some (.int (cj.fmod 5) t2)) (hz7 : m "two" = some (.int ((cj.fmod 5 + 1 + (cj.fdiv 5).fmod 4).fmod 5) t3)) (hz8 : m "reached" = some (.int (passN ms k (2 ^ oneF cj) : Nat) t4)) : JR c tp cp j cj ms TL k m nw
inductive JS (c tp cp : Addr) (j : Nat) (cj : Int) (ms : List Nat) (r0 : Nat) (TL : List (Addr × Obj)) (k : Nat) (m : Str → Option Value) (nw : List (Addr × Obj)) : Prop
  | mk (hz1 : nw = TL) (t1 t2 t3 t4 : _) (hz2 : m "told" = some (.ref tp)) (hz3 : m "cheaper" = some (.ref cp)) (hz4 : m "cells" = some (.ref c)) (hz5 : m "turn" = some (.int j t1)) (hz6 : m "one" = some (.int (cj.fmod 5) t2)) (hz7 : m "two" = some (.int ((cj.fmod 5 + 1 + (cj.fdiv 5).fmod 4).fmod 5) t3)) (hz8 : m "reached" = some (.int (passM (ms.take k) r0 : Nat) t4)) : JS c tp cp j cj ms r0 TL k m nw
set_option maxHeartbeats 40000000 in
theorem told_ok {c : Addr} {n : Nat} {cv : List Value} {cs : List Int} (hc : s.heap.get? c = some (W.listOf cv.toArray n)) (hC : CellsOk cv cs)
   (G : Gd w mean mg mb [] s.heap) (hdp : dp < 350) (hun : un < 50)
   (ret : ∀ h' tk tp vs n l, Stp s.heap h' [] → h'.get? tp = some (W.listOf vs n) → s.heap.get? tp = none → IsStrs vs.toList ((krus l).2.map roadR) → Srt (rulesOf cs) l → Q (.ref tp) { s with heap := h', toks := tk }) :
   wpAny (model prg w) (At dp un fr gd) (call (.ref 256) [.ref c]) Q E s := by
  refine wpAny_call ?_
  refine' enter (news := []) ?k0 ?k1 ?k2 ?k3 ?k4 ?k5 ?k6 ?_ ?c2 ?c3 ?c4 ?c5
  case k0 => assumption
  case k1 => exact fun _ h => nomatch h
  case k2 => k_is
  case k3 => k_is
  case k4 => tb_start
  case k5 => exact BindsTo.of_eq rfl
  case k6 => exact locs rfl
  case c2 => exact rfl
  case c3 => exact rfl
  case c4 => exact rfl
  case c5 => decide
  intro g' L' h' F' N' X' T' eg eL
  (try dsimp only); (try k_fold)
  have eg2 : g' = s.heap := eg
  rw [← eg2] at hc
  k_steps
  refine Stop.mk ?_
  rename Fr _ _ _ _ => F1
  rename News _ _ _ _ => N1
  refine' enumComp_K F1 ?cl ?ce ?ki ?na ?lx ?lx2 ?ne ?_
  case cl => with_unfolding_all rfl
  case ce => decide
  case ki => rfl
  case na => decide
  case lx => rfl
  case lx2 => rfl
  case ne => decide
  k_steps
  refine Stop.mk ?_
  rename Fr _ _ _ _ => F2
  rename News _ _ _ _ => N2
  refine call_enumerate_list ⟨_, F2.keep _ _ hc, rfl, _, rfl⟩ ?_
  intro h3 he3 hi3 hz3 hk3
  have hz7 : cv.toArray.size ≤ sizeLine := by rw [List.size_toArray, hC.len]; exact Nat.le_of_ble_eq_true rfl
  k_steps
  rename_i tp _ _ cp _ lc _ _ ld _ _ _
  refine ESrc.mk' (ZT cs) rfl hz7 F2 (newsSub (news := [(cp, W.listOf #[] 0), (tp, W.listOf #[] 0)]) N2 fun p h => .tail _ h) hc he3 hi3 hk3 ?_ ?_
  · intro i x t C oC mm h4 tk4 tl4 E' hx hoC h1 h2 hm hsub F4 N4
    rw [List.getElem?_toArray] at hx
    obtain ⟨ci, ti, hci, rfl, c0, c1, hi7⟩ := hC.get hx
    k_steps
    rename Fr _ _ _ _ => F4b
    rename News _ _ _ _ => N4b
    refine TEnd.mk' F4b N4b (fun p h => .tail _ h) (.head _) ⟨ci, _, t, hci, rfl⟩
  · intro D h5 tk5 ys nw hyl hY hsub F5 N5 nD
    k_sweep
    k_steps
    refine Stop.mk ?_
    rename Fr _ _ _ _ => F6
    rename News _ _ _ _ => N6
    have hy7 : ys.length = 7 := by rw [hyl, List.size_toArray, hC.len]
    have tup : ∀ i v, ys[i]? = some v → ∃ a t x k, v = .ref a ∧ (a, ({ cls := .type "tuple", data := .seq #[.int (rankF i (cs.getD i 0)) t, x] k } : Obj)) ∈ (D, LCg.lst ys) :: nw := fun i v hv => by
      obtain ⟨a, vals, k, rfl, hm, ci, t, t', hci, rfl⟩ := hY i v hv
      have e : cs.getD i 0 = ci := by rw [List.getD_eq_getElem?_getD, hci]; rfl
      rw [e]
      exact ⟨a, t, _, k, rfl, .tail _ hm⟩
    have inj : ∀ i j, i < ys.length → j < ys.length → rankF i (cs.getD i 0) = rankF j (cs.getD j 0) → i = j := fun i j hi hj e => by
      have m1 := rank_mod i (cs.getD i 0) (by lia)
      have m2 := rank_mod j (cs.getD j 0) (by lia)
      rw [e] at m1
      lia
    refine' sorted_tups (key := fun j => rankF j (cs.getD j 0)) F6 N6 ⟨_, (N6 _ (.head _)).1, rfl, _, rfl⟩ (by lia) (by lia) tup inj ?_
    intro D2 c2 h7 q P hs F7 N7 lD2
    rw [hy7] at P hs
    k_sweep
    k_steps
    refine Stop.mk ?_
    rename Fr _ _ _ _ => F8
    rename News _ _ _ _ => N8
    have mcp : (cp, W.listOf #[] 0) ∈ nw := hsub _ (.head _)
    have mtp : (tp, W.listOf #[] 0) ∈ nw := hsub _ (.tail _ (.head _))
    have lD3 : ∀ p ∈ nw, @LT.lt Nat _ p.1 D2 := fun p hp => lD2 p (.tail _ hp)
    have tupL : ∀ v ∈ q.toList.map (fun i => ys.getD i Value.none), ∃ a, v = .ref a := fun v hv => by
      obtain ⟨i, hi, rfl⟩ := List.mem_map.mp hv
      have hi7 : i < 7 := by simpa using P.perm.mem_iff.mp hi
      obtain ⟨a, _, _, _, e, _⟩ := tup i _ (List.getElem?_eq_getElem (by lia : i < ys.length))
      exact ⟨a, by rw [List.getD_eq_getElem?_getD, List.getElem?_eq_getElem (by lia : i < ys.length)]; exact e⟩
    refine' for_valsX (vs := q.toList.map (fun i => ys.getD i Value.none)) (news := nw) (JT cs ys q c tp cp) ?hh ?hl ?hlL ?htg ?F ?N ?hj ?hc ?turn ?done
    case hh => exact rfl
    case hl => exact ⟨_, (N8 _ (.head _)).1, rfl, _, rfl⟩
    case hlL => exact (N8 _ (.head _)).2.1
    case htg => exact .inr ⟨⟨_, _, _, rfl⟩, tupL⟩
    case F => exact F8
    case N => exact newsSub N8 fun p h => .tail _ (.tail _ h)
    case hj => exact ⟨rfl, rfl, rfl, [], 0, [], 0, mtp, mcp, hY, trivial, .nil⟩
    case hc => exact fun p hp => Nat.ne_of_lt (lD3 p hp)
    case turn =>
      rintro i v m₁ nw₁ h9 tk9 own PP hv ⟨hm1, hm2, hm3, tv, n1, mv, n2, e1, e2, hY1, hS, hI⟩ hown F9 N9 next hbrk hrt
      rw [chain3 hm1 hm2 hm3] at F9
      obtain ⟨j, hj, hj7, rfl⟩ : ∃ j, q.toList[i]? = some j ∧ j < 7 ∧ v = ys.getD j Value.none := by
        rw [List.getElem?_map] at hv
        cases hq : q.toList[i]? with
        | none => rw [hq] at hv; cases hv
        | some j => rw [hq] at hv; exact ⟨j, rfl, by simpa using P.perm.mem_iff.mp (List.mem_of_getElem? hq), (Option.some.inj hv).symm⟩
      obtain ⟨a, vals, k, hya, ham, cj, tr, tt, hcj, rfl⟩ := hY1 j (ys.getD j Value.none) (by rw [List.getD_eq_getElem?_getD, List.getElem?_eq_getElem (by lia : j < ys.length)]; rfl)
      rw [hya]
      generalize hnw : nw₁ ++ own = tl at N9
      have atl : (a, tupO #[.int (rankF j cj) tr, .int j tt] k) ∈ tl := hnw ▸ List.mem_append_left _ ham
      have e1t : (tp, W.listOf tv.toArray n1) ∈ tl := hnw ▸ List.mem_append_left _ e1
      have e2t : (cp, W.listOf mv.toArray n2) ∈ tl := hnw ▸ List.mem_append_left _ e2
      have htup : IsTup h9 a #[.int (rankF j cj) tr, .int j tt] := ⟨_, N9.get atl, rfl, _, rfl⟩
      obtain ⟨vc, hvc, hvc2⟩ : ∃ tc, cv[j]? = some (.int cj tc) ∧ 0 ≤ cj ∧ cj < 1000000 := by
        obtain ⟨c', t', e3, e4, e5, e6, _⟩ := hC.get (List.getElem?_eq_getElem (by rw [hC.len]; exact hj7 : j < cv.length))
        rw [hcj] at e3
        cases e3
        exact ⟨t', by rw [List.getElem?_eq_getElem (by rw [hC.len]; exact hj7 : j < cv.length), e4], e5, e6⟩
      clear F8 N8 hbrk hrt hsub tup inj hv hm1 hm2 hm3
      dsimp only
      k_steps
      refine Stop.mk ?_
      rename Fr _ _ _ _ => F10
      rename News _ _ _ _ => N10
      generalize hTL : (_ :: tl : List (Addr × Obj)) = TL at N10
      have hsubT : ∀ p ∈ tl, p ∈ TL := fun p h => hTL ▸ .tail _ h
      refine' for_range (n := 4) (news := TL) (JR c tp cp j cj (((lqOf cs q).take i).map maskR) TL) ?hh2 ?hr2 ?hsm2 ?hn2 ?F2 ?N2 ?hj2 ?turn2 ?done2
      case hh2 => exact rfl
      case hr2 => assumption
      case hsm2 => decide
      case hn2 => rfl
      case F2 => exact F10
      case N2 => exact N10
      case hj2 =>
        exact ⟨rfl, _, _, _, _, rfl, rfl, rfl, rfl, rfl, rfl, congrArg (fun z => some (Value.int z _)) (mask0 _ cj)⟩
      case turn2 =>
        rintro i2 u2 m2 nw2 h10 tk10 own2 P2 hi2 ⟨rfl, t1, t2, t3, t4, k1, k2, k3, k4, k5, k6, k7⟩ hown2 F11 N11 next2 hbrk2 hrt2
        rw [chain7 k1 k2 k3 k4 k5 k6 k7] at F11
        simp only [chainF, List.foldr] at F11
        clear k1 k2 k3 k4 k5 k6 k7
        dsimp only
        k_steps
        refine Stop.mk ?_
        rename Fr _ _ _ _ => F12
        rename News _ _ _ _ => N12
        have e2u : (cp, W.listOf mv.toArray n2) ∈ nw2 ++ own2 := List.mem_append_left _ (hsubT _ e2t)
        refine' for_valsX (vs := mv) (news := (nw2 ++ own2).filter (fun p => decide (p.1 ≠ cp))) (JS c tp cp j cj (((lqOf cs q).take i).map maskR) (passN (((lqOf cs q).take i).map maskR) i2 (2 ^ oneF cj)) ((nw2 ++ own2).filter (fun p => decide (p.1 ≠ cp)))) ?hh3 ?hl3 ?hlL3 ?htg3 ?F3 ?N3 ?hj3 ?hc3 ?turn3 ?done3
        case hh3 => exact rfl
        case hl3 => exact ⟨_, (N12 _ e2u).1, rfl, _, rfl⟩
        case hlL3 => exact (N12 _ e2u).2.1
        case htg3 => exact .inl ⟨_, _, rfl⟩
        case F3 => exact F12
        case N3 => exact newsSub N12 fun p h => (List.mem_filter.mp h).1
        case hj3 => exact ⟨rfl, _, _, _, _, rfl, rfl, rfl, rfl, rfl, rfl, rfl⟩
        case hc3 => exact fun p h => of_decide_eq_true (List.mem_filter.mp h).2
        case turn3 =>
          rintro i3 v3 m3 nw3 h13 tk13 own3 P3 hv3 ⟨rfl, t1, t2, t3, t4, k1, k2, k3, k4, k5, k6, k7⟩ hown3 F13 N13 next3 hbrk3 hrt3
          rw [chain7 k1 k2 k3 k4 k5 k6 k7] at F13
          simp only [chainF, List.foldr] at F13
          clear k1 k2 k3 k4 k5 k6 k7 F12 N12 next2
          dsimp only
          obtain ⟨mk, tmk, rfl, hmk⟩ := hI.at i3 v3 hv3
          rw [List.getElem?_map] at hmk
          obtain ⟨e, he, rfl⟩ := Option.map_eq_some_iff.mp hmk
          have hne : ∀ p ∈ List.filter (fun p => decide (p.1 ≠ cp)) (nw2 ++ own2) ++ own3, p ∈ List.filter (fun p => decide (p.1 ≠ cp)) (nw2 ++ own2) ++ own3 := fun _ h => h
          generalize List.filter (fun p => decide (p.1 ≠ cp)) (nw2 ++ own2) = TLs at *
          generalize hrr : passM ((((lqOf cs q).take i).map maskR).take i3) (passN (((lqOf cs q).take i).map maskR) i2 (2 ^ oneF cj)) = rr at *
          have hst : passM ((((lqOf cs q).take i).map maskR).take (i3 + 1)) (passN (((lqOf cs q).take i).map maskR) i2 (2 ^ oneF cj)) = absM rr (maskR e) := by
            rw [passM_take (mk := maskR e) (by rw [List.getElem?_map, he]; rfl), hrr]
          k_steps
          · rename Fr _ _ _ _ => F14
            rename News _ _ _ _ => N14
            refine next3 .next _ _ _ TLs (.inl rfl) F14 N14 ⟨rfl, _, _, _, _, rfl, rfl, rfl, rfl, rfl, rfl, (congrArg (fun z => some (Value.int z _)) ((absM_yes ?_).trans (congrArg (fun z : Nat => (z : Int)) hst.symm)))⟩ fun p h => .inl h
            assumption
          · rename Fr _ _ _ _ => F14
            rename News _ _ _ _ => N14
            refine next3 .next _ _ _ TLs (.inl rfl) F14 N14 ⟨rfl, _, _, _, _, rfl, rfl, rfl, rfl, rfl, rfl, (congrArg (fun z : Nat => some (Value.int z _)) ((absM_no ?_).symm.trans hst.symm))⟩ fun p h => .inl h
            assumption
        case done3 =>
          rintro m3 nw3 h13 tk13 ⟨rfl, t1, t2, t3, t4, k1, k2, k3, k4, k5, k6, k7⟩ F13 N13 hcpk
          have hln : mv.length = (((lqOf cs q).take i).map maskR).length := by rw [hI.length, List.length_map, List.length_map]
          rw [hln, List.take_length] at k7
          have N13b : News _ _ h13 (nw2 ++ own2) := fun p hp => by
            by_cases e : p.1 = cp
            · have : p = (cp, W.listOf mv.toArray n2) := by
                obtain ⟨a', o'⟩ := p
                dsimp only at e
                subst e
                rw [newsOneObj N12 hp e2u]
              subst this
              exact ⟨hcpk _ (N12 _ e2u).1, (N12 _ e2u).2⟩
            · exact N13 p (List.mem_filter.mpr ⟨hp, by simpa using e⟩)
          dsimp only
          k_steps
          exact next2 .next _ _ _ nw2 (.inl rfl) F13 N13b ⟨rfl, _, _, _, _, k1, k2, k3, k4, k5, k6, k7⟩ fun p h => .inl h
      case done2 =>
        rintro m2 nw2 h12 tk12 ⟨rfl, t1, t2, t3, t4, k1, k2, k3, k4, k5, k6, k7⟩ F12 N12
        rw [chain7 k1 k2 k3 k4 k5 k6 k7] at F12
        simp only [chainF, List.foldr] at F12
        clear k1 k2 k3 k4 k5 k6 k7 F10 N10
        have e1u := hsubT _ e1t
        have e2u := hsubT _ e2t
        dsimp only
        have e7 : (lqOf cs q).length = 7 := by unfold lqOf; rw [List.length_map, Array.length_toList, P.size]
        have hm7 : mv.length < 500 := by
          rw [hI.length, List.length_map, List.length_take]
          lia
        have ht7 : tv.length < 500 := by
          have := tells_len ((lqOf cs q).take i)
          rw [hS.length, List.length_map]
          rw [List.length_take] at this
          lia
        have hlq : (lqOf cs q)[i]? = some (roadOf cs j) := by unfold lqOf; rw [List.getElem?_map, hj]; rfl
        have hrd : roadOf cs j = toR (ruleOf j cj) := by unfold roadOf; rw [List.getD_eq_getElem?_getD, hcj]; rfl
        have htk : (lqOf cs q).take (i + 1) = (lqOf cs q).take i ++ [toR (ruleOf j cj)] := by rw [List.take_add_one, hlq, hrd]; rfl
        have hcl := clos_bit ((lqOf cs q).take i) (oneF cj) (twoF cj)
        have hnt : tp ≠ cp := neN (by lia)
        have upn : ∀ p ∈ nw₁, p ∈ nw2 := fun p hp => hsubT p (hnw ▸ List.mem_append_left _ hp)
        have upo : ∀ p ∈ own, p ∈ nw2 ∧ p.1 ≠ tp ∧ p.1 ≠ cp := fun p hp => ⟨hsubT p (hnw ▸ List.mem_append_right _ hp), hown p hp _ (List.mem_map_of_mem e1), hown p hp _ (List.mem_map_of_mem e2)⟩
        have hYn : ∀ {o1 o2 : Obj}, TupsIn ((tp, o1) :: (cp, o2) :: nw₁.filter (fun p => decide (p.1 ≠ tp ∧ p.1 ≠ cp))) (ZT cs) ys := fun {o1 o2} jj y hjj => by
          obtain ⟨a', vals', k', rfl, hm', hz'⟩ := hY1 jj y hjj
          refine ⟨a', vals', k', rfl, .tail _ (.tail _ (List.mem_filter.mpr ⟨hm', decide_eq_true ⟨neObj N12 (upn _ hm') e1u ?_, neObj N12 (upn _ hm') e2u ?_⟩⟩)), hz'⟩
          · intro q; exact absurd (congrArg Obj.cls q) (by simp [tupO, W.listOf])
          · intro q; exact absurd (congrArg Obj.cls q) (by simp [tupO, W.listOf])
        have ltp : @LT.lt Nat _ tp D2 := lD3 _ mtp
        have lcp : @LT.lt Nat _ cp D2 := lD3 _ mcp
        have hoff : ∀ {o1 o2 : Obj}, o1.cls = .type "list" → o2.cls = .type "list" → ∀ p ∈ (tp, o1) :: (cp, o2) :: nw₁.filter (fun p => decide (p.1 ≠ tp ∧ p.1 ≠ cp)), p ∈ nw₁ ∨ (p.1 ≠ D2 ∧ p.2.cls ≠ .type "list_iterator") ∨ ∀ q ∈ own, q.1 ≠ p.1 := fun {o1 o2} c1 c2 p hp => by
          rcases List.mem_cons.mp hp with rfl | hp
          · exact .inr (.inl ⟨Nat.ne_of_lt ltp, by rw [c1]; decide⟩)
          rcases List.mem_cons.mp hp with rfl | hp
          · exact .inr (.inl ⟨Nat.ne_of_lt lcp, by rw [c2]; decide⟩)
          · exact .inl (List.mem_filter.mp hp).1
        k_steps
        · refine Stop.mk ?_
          rename Fr _ _ _ _ => F14
          rename News _ _ _ _ => N14
          rename _ ≠ _ => hbit
          refine' appT F14 N14 e2u (by rw [List.size_toArray]; lia) ?_
          intro h15 tk15 tl15 F15 N15 M15
          rw [List.push_toArray, maskOf cj (toR (ruleOf j cj)) rfl rfl] at M15
          obtain ⟨tkm, M15⟩ : ∃ tkm, Mod cp (W.listOf (mv ++ [Value.int (maskR (toR (ruleOf j cj)) : Nat) tkm]).toArray (n2 + 1)) nw2 tl15 := ⟨_, M15⟩
          have hcy : clos ((lqOf cs q).take i) (oneF cj) (twoF cj) = true := by
            rw [← hcl]
            cases hb : (passN (((lqOf cs q).take i).map maskR) 4 (2 ^ oneF cj)).testBit (twoF cj) with
            | true => rfl
            | false => exact absurd ((bit_of _ _).mpr hb) hbit
          clear hbit
          k_steps
          refine next .next _ _ _ ((tp, W.listOf tv.toArray n1) :: (cp, W.listOf (mv ++ [Value.int (maskR (toR (ruleOf j cj)) : Nat) tkm]).toArray (n2 + 1)) :: nw₁.filter (fun p => decide (p.1 ≠ tp ∧ p.1 ≠ cp))) (.inl rfl) F15 (newsSub N15 fun p hp => ?_) ⟨rfl, rfl, rfl, tv, n1, _, n2 + 1, .head _, .tail _ (.head _), hYn, ?_, ?_⟩ (hoff rfl rfl)
          · rcases List.mem_append.mp hp with hp | hp
            · rcases List.mem_cons.mp hp with rfl | hp
              · exact M15.old _ e1u hnt
              rcases List.mem_cons.mp hp with rfl | hp
              · exact M15.new
              · have := List.mem_filter.mp hp
                exact M15.old _ (upn _ this.1) (of_decide_eq_true this.2).2
            · exact M15.old _ (upo p hp).1 (upo p hp).2.2
          · rw [htk, tells_yes (e := toR (ruleOf j cj)) hcy]; exact hS
          · rw [htk, List.map_append]; exact IntsAre.append hI (.cons _ _ .nil)
        · refine Stop.mk ?_
          rename Fr _ _ _ _ => F14
          rename News _ _ _ _ => N14
          rename Builtin.bitAnd _ _ = 0 => hbit
          have hcn : clos ((lqOf cs q).take i) (oneF cj) (twoF cj) = false := by rw [← hcl]; exact (bit_of _ _).mp hbit
          clear hbit
          rw [toldText cj hj7]
          refine' appT F14 N14 e1u (by rw [List.size_toArray]; lia) ?_
          intro h15 tk15 tl15 F15 N15 M15
          rw [List.push_toArray] at M15
          obtain ⟨tks, M15⟩ : ∃ tks, Mod tp (W.listOf (tv ++ [Value.str (rd (oneF cj) (twoF cj) j) tks]).toArray (n1 + 1)) nw2 tl15 := ⟨_, M15⟩
          have e2v := M15.old _ e2u hnt.symm
          k_steps
          refine Stop.mk ?_
          rename Fr _ _ _ _ => F16
          rename News _ _ _ _ => N16
          refine' appT F16 N16 e2v (by rw [List.size_toArray]; lia) ?_
          intro h17 tk17 tl17 F17 N17 M17
          rw [List.push_toArray, maskOf cj (toR (ruleOf j cj)) rfl rfl] at M17
          obtain ⟨tkm, M17⟩ : ∃ tkm, Mod cp (W.listOf (mv ++ [Value.int (maskR (toR (ruleOf j cj)) : Nat) tkm]).toArray (n2 + 1)) tl15 tl17 := ⟨_, M17⟩
          k_steps
          refine next .next _ _ _ ((tp, W.listOf (tv ++ [Value.str (rd (oneF cj) (twoF cj) j) tks]).toArray (n1 + 1)) :: (cp, W.listOf (mv ++ [Value.int (maskR (toR (ruleOf j cj)) : Nat) tkm]).toArray (n2 + 1)) :: nw₁.filter (fun p => decide (p.1 ≠ tp ∧ p.1 ≠ cp))) (.inl rfl) F17 (newsSub N17 fun p hp => ?_) ⟨rfl, rfl, rfl, _, n1 + 1, _, n2 + 1, .head _, .tail _ (.head _), hYn, ?_, ?_⟩ (hoff rfl rfl)
          · rcases List.mem_append.mp hp with hp | hp
            · rcases List.mem_cons.mp hp with rfl | hp
              · exact M17.old _ M15.new hnt
              rcases List.mem_cons.mp hp with rfl | hp
              · exact M17.new
              · have := List.mem_filter.mp hp
                exact M17.old _ (M15.old _ (upn _ this.1) (of_decide_eq_true this.2).1) (of_decide_eq_true this.2).2
            · exact M17.old _ (M15.old _ (upo p hp).1 (upo p hp).2.1) (upo p hp).2.2
          · rw [htk, tells_no (e := toR (ruleOf j cj)) hcn, List.map_append]; exact isStrs_snoc hS
          · rw [htk, List.map_append]; exact IntsAre.append hI (.cons _ _ .nil)
    case done =>
      rintro m₁ nw₁ h9 tk9 ⟨hm1, hm2, hm3, tv, n1, mv, n2, e1, e2, hY1, hS, hI⟩ F9 N9 _
      rw [chain3 hm1 hm2 hm3] at F9
      clear F8 N8 hm1 hm2 hm3
      dsimp only
      k_steps
      have hsr := srt_of (cs := cs) hC.seven P hs
      have eln : (q.toList.map (fun i => ys.getD i Value.none)).length = (lqOf cs q).length := by unfold lqOf; rw [List.length_map, List.length_map]
      rw [eln, List.take_length] at hS
      have h5 : ∀ r ∈ lqOf cs q, r.o < 5 ∧ r.t < 5 := fun r hr => by
        obtain ⟨jj, _, rfl⟩ := List.mem_map.mp hr
        exact ⟨oneF_lt _, twoF_lt _⟩
      rw [tells_krus h5] at hS
      have htp := N9 _ e1
      refine ret h9 tk9 tp tv.toArray n1 (lqOf cs q) (Fr.stp (as := []) F9 eg) htp.1 ?_ hS hsr
      rw [← eg2]; exact htp.2.2
end
end Mine

end PT1
section PL5
open PySem PySem.W PySem.Calls PyProof.Rows
set_option Elab.async false
set_option maxRecDepth 100000
namespace Mine
/-- a loop over a dict with str keys that the body leaves as it is -/
theorem for_dict {w : World} {A : Around} {s : Shared} {E : Value → Shared → Prop} {Q : Flow → Shared → Prop} {y : Str} {yp : Pos} {body : List Stmt} {env : Env} {h₀ : Heap} {d : Addr} {o : Obj} {kvs : List (Str × Value)} {m₀ : Str → Option Value} {news : List (Addr × Obj)}
    (J : Nat → (Str → Option Value) → List (Addr × Obj) → Prop)
    (hh : A.handled = none) (F : Fr h₀ env.locals s.heap m₀) (N : News h₀ env.locals s.heap news) (hlow : (d == sysModules) = false) (hm : (d, o) ∈ news) (ho : o.IsDictOf (strKind prg w) kvs) (hJd : ∀ i m₁ nw, J i m₁ nw → (d, o) ∈ nw) (hj : J 0 m₀ news)
    (turn : ∀ i k x u m₁ news₁ h tk own (P : Flow → Shared → Prop), kvs[i]? = some (k, x) → J i m₁ news₁ → OwnOff own (news₁.map (·.1)) → Fr h₀ env.locals h m₁ → News h₀ env.locals h (news₁ ++ own) →
      (∀ f h' tk' m' news', (f = .next ∨ f = .cont) → Fr h₀ env.locals h' m' → News h₀ env.locals h' (news' ++ own) → J (i + 1) m' news' → (∀ p ∈ news', p ∈ news₁ ∨ ∀ q ∈ own, q.1 ≠ p.1) → P f { s with heap := h', toks := tk' }) →
      (∀ s', Q .next s' → P .brk s') → (∀ v s', Q (.ret v) s' → P (.ret v) s') →
      wpAny (model prg w) A (assign (.Name y yp) env (.str k u)) (fun _ s₂ => wpAny (model prg w) A (execs body env) P (fun _ _ => False) s₂) (fun _ _ => False) { s with heap := h, toks := tk })
    (done : ∀ m₁ news₁ h tk, J kvs.length m₁ news₁ → Fr h₀ env.locals h m₁ → News h₀ env.locals h news₁ → Q .next { s with heap := h, toks := tk }) :
    wpAny (model prg w) A (pyIter (.ref d)) (fun it s₂ => codeAny (model prg w) A (.forLoop (.Name y yp) it body [] env) (fun r s' => match r with | .ok f => Q f s' | .error e => cameBackBy (model prg w) A env E e s') s₂) E s := by
  obtain ⟨ep, hD⟩ := (Heap.dictOf_iff.mpr ⟨o, N.get hm, ho⟩ : s.heap.DictOf (strKind prg w) d kvs).dictAt
  have hne : d ≠ s.heap.objs.size := Nat.ne_of_lt hD.lt_size
  refine wpAny_pyIter_dict hlow hD ?_
  refine for_gen (op := [s.heap.objs.size]) "dict_keyiterator" J (Walks.dictKeys (prog := prg) (w := w) (knd := strKind prg w) hh s.heap.objs.size d hne kvs ep) (fun _ _ _ _ _ _ q => goName q) (.head _) (fun q => Nat.ne_of_lt F.ns.lt (List.mem_singleton.mp q)) (next_is_new F)
    (fun i h st => ?_) ⟨⟨_, Heap.get?_push_size _ rfl, rfl, rfl⟩, hD.at' fun o e => Heap.get?_push_of_some _ e⟩ (F.push _) (push_news N _) hj (fun p hp q => Nat.ne_of_lt (Heap.lt_size (N p hp).1) (List.mem_singleton.mp q))
    (fun i m₁ nw₁ h₁ m' nw' h' hJ hJ' N₁ N' b hb hbo o' e => ?_) (fun i v m₁ nw h tk own P' _ hP hJ ho F₁ N₁ next => ?_) fun m₁ nw h tk a b c _ => done m₁ nw h tk a b c
  · obtain ⟨⟨oi, hoi, hcl, _⟩, _⟩ := st
    exact ⟨fun b hb => ⟨oi, List.mem_singleton.mp hb ▸ hoi⟩, oi, hoi, hcl⟩
  · obtain rfl : b = d := mem_two hb (fun q => absurd (List.mem_singleton.mpr q) hbo) id
    rw [(N₁ _ (hJd _ _ _ hJ)).1] at e
    cases e
    exact (N' _ (hJd _ _ _ hJ')).1
  · obtain ⟨kx, x, hkx, hk⟩ := hP
    obtain ⟨u, rfl⟩ := key_str hk
    exact turn i kx x u m₁ nw h tk own P' hkx hJ ho F₁ N₁ fun f h' tk' m' nw' hf F' N' hJ' hc' => next f h' tk' m' nw' hf F' N' hJ' fun p hp => (hc' p hp).imp id .inr
end Mine

end PL5
section PL6
open PySem PySem.W PySem.Calls PyProof.Rows
set_option Elab.async false
set_option maxRecDepth 100000
namespace Mine
open LCg
/-- what stands between two turns -/
inductive EnS (h₀ : Heap) (L : Addr) (s : Shared) (e it l : Addr) (z : Nat) (J : Nat → (Str → Option Value) → List (Addr × Obj) → Prop) : Nat → Shared → Prop
  | mk {h : Heap} {tk : Nat} {m₁ : Str → Option Value} {nw : List (Addr × Obj)} {i : Nat} {old : Value} (hi : i ≤ z) (he : IsEnum h e it i old) (hit : h.IsListIter it l i) (F : Fr h₀ L h m₁) (N : News h₀ L h nw) (hJ : J i m₁ nw) (off : ∀ p ∈ nw, p.1 ∉ [e, it]) : EnS h₀ L s e it l z J (z + 1 - i) { s with heap := h, toks := tk }
/-- for x, y in enumerate(a list of the heap before), by an invariant; what the turn gets: the pair as a new tuple in the ledger -/
theorem for_enum {prog : Program} {w : World} {A : Around} {s : Shared} {E : Value → Shared → Prop} {Q : Flow → Shared → Prop} {elts : List Expr} {kk : Nat} {tp : Pos} {body : List Stmt} {env : Env} {h₀ : Heap} {e it l : Addr} {items : Array Value} {k : Nat} {m₀ : Str → Option Value} {news : List (Addr × Obj)}
    (J : Nat → (Str → Option Value) → List (Addr × Obj) → Prop)
    (hh : A.handled = none) (hl : h₀.get? l = some (W.listOf items k)) (he : IsEnum s.heap e it 0 .none) (hit : s.heap.IsListIter it l 0)
    (hei : e ≠ it) (heL : e ≠ env.locals) (hiL : it ≠ env.locals) (he₀ : h₀.get? e = none) (hi₀ : h₀.get? it = none)
    (F : Fr h₀ env.locals s.heap m₀) (N : News h₀ env.locals s.heap news) (hj : J 0 m₀ news) (hc : ∀ p ∈ news, p.1 ≠ e ∧ p.1 ≠ it)
    (turn : ∀ i x t T m₁ news₁ h tk own (P : Flow → Shared → Prop), items[i]? = some x → J i m₁ news₁ → OwnOff own (news₁.map (·.1)) → Fr h₀ env.locals h m₁ → News h₀ env.locals h (news₁ ++ own) → IsTup h T #[.int (i : Nat) t, x] →
      (∀ f h' tk' m' news', (f = .next ∨ f = .cont) → Fr h₀ env.locals h' m' → News h₀ env.locals h' (news' ++ own) → J (i + 1) m' news' → (∀ p ∈ news', ∀ q ∈ own, q.1 ≠ p.1) → P f { s with heap := h', toks := tk' }) →
      wpAny (model prog w) A (assign (.Tuple elts kk tp) env (.ref T)) (fun _ s₂ => wpAny (model prog w) A (execs body env) P (fun _ _ => False) s₂) (fun _ _ => False) { s with heap := h, toks := tk })
    (done : ∀ m₁ news₁ h tk, J items.size m₁ news₁ → Fr h₀ env.locals h m₁ → News h₀ env.locals h news₁ → Q .next { s with heap := h, toks := tk }) :
    wpAny (model prog w) A (pyIter (.ref e)) (fun it s₂ => codeAny (model prog w) A (.forLoop (.Tuple elts kk tp) it body [] env) (fun r s' => match r with | .ok f => Q f s' | .error e => cameBackBy (model prog w) A env E e s') s₂) E s := by
  refine wpAny_pyIter_enum he ?_
  have hle : l ≠ e := fun q => by rw [q, he₀] at hl; cases hl
  have hli : l ≠ it := fun q => by rw [q, hi₀] at hl; cases hl
  have W := WalksT.enumerate (prog := prog) (w := w) hh e it l hei hle hli items
  have isL : ∀ h' : Heap, (∀ b o, h₀.get? b = some o → h'.get? b = some o) → h'.IsList l items := fun h' kp => ⟨_, kp _ _ hl, rfl, _, rfl⟩
  have new : ∀ b o, h₀.get? b = some o → b ∉ [e, it] := fun b o q hm => by
    rcases List.mem_cons.mp hm with r | r
    · rw [r, he₀] at q; cases q
    · rw [List.mem_singleton.mp r, hi₀] at q; cases q
  have hL : env.locals ∉ [e, it] := fun q => (List.mem_cons.mp q).elim (fun r => heL r.symm) fun r => hiL (List.mem_singleton.mp r).symm
  have upF : ∀ {h h' : Heap} {m}, Fr h₀ env.locals h m → (∀ b o, b ∉ [e, it] → h.get? b = some o → h'.get? b = some o) → Fr h₀ env.locals h' m := fun F hk => ⟨F.ns.at' fun o q => hk _ o hL q, fun b o q => hk b o (new b o q) (F.keep b o q), F.above⟩
  have upN : ∀ {h h' : Heap} {nw : List (Addr × Obj)}, News h₀ env.locals h nw → (∀ p ∈ nw, p.1 ∉ [e, it]) → (∀ b o, b ∉ [e, it] → h.get? b = some o → h'.get? b = some o) → News h₀ env.locals h' nw := fun N ho hk p hp => ⟨hk _ _ (ho p hp) (N p hp).1, (N p hp).2⟩
  refine loopT (EnS h₀ env.locals s e it l items.size J) ?_ (items.size + 1)
    (.mk (i := 0) (Nat.zero_le _) he hit F N hj fun p hp hm => (List.mem_cons.mp hm).elim (hc p hp).1 fun r => (hc p hp).2 (List.mem_singleton.mp r))
  rintro n s' @⟨h, tk, m₁, nw, i, old, hi, hen, hit', F₁, N₁, hJ, off⟩
  by_cases hlt : i < items.size
  · refine W.item i _ _ _ hlt ⟨⟨_, hen⟩, hit', isL _ F₁.keep⟩ fun T vals h₂ tk₂ hP hT0 hT hm hk₂ => ?_
    obtain ⟨t, x, hx, rfl⟩ := hP
    have hTw := W.apart _ _ _ hm
    refine W.go _ _ _ _ _ _ _ _ hm fun h₃ hst₃ hk₃ => ?_
    obtain ⟨⟨old3, he3⟩, ⟨oi, hoi, ci, di⟩, _⟩ := hst₃
    obtain ⟨oe, hoe, heo⟩ : ∃ oe, h₃.get? e = some oe ∧ ∀ h : Heap, h.get? e = some oe → IsEnum h e it ((i + 1 : Nat) : Int) old3 := ⟨_, he3, fun _ q => q⟩
    obtain ⟨oT, hoT, hcT, kT, hdT⟩ := hT
    have F3 := upF (upF F₁ hk₂) hk₃
    have N3 := upN (upN N₁ off hk₂) off hk₃
    refine turn i x t T m₁ nw h₃ tk₂ [(e, oe), (it, oi)] _ hx hJ (fun p hp b hb r => ?_) F3 (fun p hp => ?_) ⟨oT, hk₃ _ _ hTw hoT, hcT, kT, hdT⟩ fun f h' tk' m' nw' hf F' N' hJ' hc' => ?_
    · obtain ⟨q, hq, rfl⟩ := List.mem_map.mp hb
      refine off q hq (r ▸ ?_)
      rcases List.mem_cons.mp hp with rfl | hp
      · exact .head _
      · rw [List.mem_singleton.mp hp]; exact .tail _ (.head _)
    · rcases List.mem_append.mp hp with hp | hp
      · exact N3 p hp
      rcases List.mem_cons.mp hp with rfl | hp
      · exact ⟨hoe, heL, he₀⟩
      · rw [List.mem_singleton.mp hp]; exact ⟨hoi, hiL, hi₀⟩
    · have fin : ∃ m, m < items.size + 1 - i ∧ EnS h₀ env.locals s e it l items.size J m { s with heap := h', toks := tk' } :=
        ⟨items.size + 1 - (i + 1), by lia, .mk (i := i + 1) hlt (heo _ (N' _ (List.mem_append_right _ (.head _))).1) ⟨oi, (N' _ (List.mem_append_right _ (.tail _ (.head _)))).1, ci, di⟩ F' (fun p hp => N' p (List.mem_append_left _ hp)) hJ' fun p hp hm => by
          rcases List.mem_cons.mp hm with r | r
          · exact hc' p hp _ (.head _) r.symm
          · exact hc' p hp _ (.tail _ (.head _)) (List.mem_singleton.mp r).symm⟩
      rcases hf with rfl | rfl <;> exact fin
  · obtain rfl : i = items.size := Nat.le_antisymm hi (Nat.not_lt.mp hlt)
    refine W.done _ _ _ ⟨⟨_, hen⟩, hit', isL _ F₁.keep⟩ fun h₂ tk₂ hk₂ => wpAny_execs_nil ?_
    exact done m₁ nw h₂ tk₂ hJ (upF F₁ hk₂) (upN N₁ off hk₂)
end Mine

end PL6
section PD7
theorem Mine.rs_D7 : True := by
  w_top off
  first | walk1 | trivial
open PySem PySem.W PySem.Calls PyProof.Rows
set_option Elab.async false
set_option maxRecDepth 100000
set_option pp.deepTerms false
set_option pp.deepTerms.threshold 8
namespace Mine
theorem fillKD7 : (PySem.Challenge.rw_il0068_01 = PySem.Challenge.rw_il0068_01 ∧ hd.heap_39 = hd.heap_39) := by k_fill; exact ⟨rfl, rfl⟩
local macro_rules | `(tactic| walk_at "call type:enumerate") => `(tactic| (k_here; k_dflt (refine Stop.go ?_)))
local macro_rules | `(tactic| walk_at "exec For Tuple Call cons nil") => `(tactic| (k_here; k_dflt (refine wpAny_For ?_)))
local macro_rules | `(tactic| walk_at "call builtin:list.append") => `(tactic| (k_here; k_dflt (refine Stop.go ?_)))
local macro_rules | `(tactic| walk_at "pyIter ref") => `(tactic| (k_here; k_dflt (refine Stop.go ?_)))
local macro_rules | `(tactic| walk_at "call ref") => `(tactic| (k_here; k_dflt (first
  | (refine' joinR_use (by k_asm) (by k_asm) (by k_asm) (by k_asm) (by exact rfl) (by tb_start) (by tb_start) (by first | exact jA _ (by omega) (by omega) | exact jB _ _ (by omega) (by omega)) ?_; k_whole; intro h' tk' t' F' N'; (try k_sweep)))))
local macro_rules | `(tactic| walk_at "getMethod ref") => `(tactic| (k_here; k_dflt (((with_reducible show wpAny _ _ (getMethod (Value.ref _) (PySem.Str.ofString "append") _) _ _ _); refine' listMethod_K (by k_asm) (by first | with_reducible assumption | exact List.mem_cons_of_mem _ (by with_reducible assumption) | k_mem) PySem.F.slot_list_append PySem.F.type_list_append ?_; ))))
section
variable {w : World} {mean : ExcName → Option Value} {mg mb : Str → Option Value} {A : Around} {s : Shared} {Q E : Value → Shared → Prop} {g : Heap} {L : Addr} {m : Str → Option Value} {news : List (Addr × Obj)} {dp un : Nat} {fr : Option (List Env)} {gd : Option (List Code)}
noncomputable def roadT (j : Nat) (c : Int) (t t' : Tok) : Obj := { cls := .type "tuple", data := .seq #[.int (rankF j c) t, .str (roadF j c) t'] }
inductive JE (cs : List Int) (rp : Addr) (i : Nat) (m : Str → Option Value) (nw : List (Addr × Obj)) : Prop
  | mk (hz1 : m "roads" = some (.ref rp)) (as : List Value) (n1 : Nat) (hz2 : (rp, W.listOf as.toArray n1) ∈ nw) (hz3 : as.length = i) (hz4 : ∀ (j : Nat) (v : Value), as[j]? = some v → ∃ (x : Addr) (t t' : Tok) (cj : Int), cs[j]? = some cj ∧ v = .ref x ∧ (x, roadT j cj t t') ∈ nw) : JE cs rp i m nw
set_option maxHeartbeats 40000000 in
theorem roads_ok {c : Addr} {n : Nat} {cv : List Value} {cs : List Int} (hc : s.heap.get? c = some (W.listOf cv.toArray n)) (hC : CellsOk cv cs)
   (G : Gd w mean mg mb [] s.heap) (hdp : dp < 440) (hun : un < 400)
   (ret : ∀ h' tk r n' as, Stp s.heap h' [] → h'.get? r = some (W.listOf as.toArray n') → s.heap.get? r = none → RoadsAt h' as (rulesOf cs) → as.length = 7 → Q (.ref r) { s with heap := h', toks := tk }) :
   wpAny (model prg w) (At dp un fr gd) (call (.ref 220) [.ref c]) Q E s := by
  refine wpAny_call ?_
  refine' enter (news := []) ?k0 ?k1 ?k2 ?k3 ?k4 ?k5 ?k6 ?_ ?c2 ?c3 ?c4 ?c5
  case k0 => assumption
  case k1 => exact fun _ h => nomatch h
  case k2 => k_is
  case k3 => k_is
  case k4 => tb_start
  case k5 => exact BindsTo.of_eq rfl
  case k6 => exact locs rfl
  case c2 => exact rfl
  case c3 => exact rfl
  case c4 => exact rfl
  case c5 => decide
  intro g' L' h' F' N' X' T' eg eL
  (try dsimp only); (try k_fold)
  have eg2 : g' = s.heap := eg
  rw [← eg2] at hc
  k_steps
  refine Stop.mk ?_
  rename Fr _ _ _ _ => F2
  rename News _ _ _ _ => N2
  refine call_enumerate_list ⟨_, F2.keep _ _ hc, rfl, _, rfl⟩ ?_
  intro h3 he3 hi3 hz3 hk3
  k_steps
  refine Stop.mk ?_
  rename_i rp _ l1 h0
  have hL := F2.ns.lt
  refine' for_enum (h₀ := g') (items := cv.toArray) (news := [(rp, W.listOf #[] 0)]) (JE cs rp) ?hh hc he3 hi3 (Nat.succ_ne_self _) ?heL ?hiL ?he0 ?hi0 ?F ?N ?hj ?hc ?turn ?done
  case hh => exact rfl
  case heL => exact Nat.ne_of_gt (Nat.lt_succ_of_lt hL)
  case hiL => exact Nat.ne_of_gt hL
  case he0 => exact Heap.get?_none_of_le (Nat.le_trans F2.above (Nat.le_succ_of_le (Nat.le_of_lt hL)))
  case hi0 => exact Heap.get?_none_of_le (Nat.le_trans F2.above (Nat.le_of_lt hL))
  case F => exact F2.keeps hk3
  case N => exact N2.grown hk3
  case hj => exact ⟨rfl, [], 0, .head _, rfl, fun j v q => by simp at q⟩
  case hc => exact fun p hp => ⟨Nat.ne_of_lt (Nat.lt_succ_of_lt (Heap.lt_size (N2 p hp).1)), Nat.ne_of_lt (Heap.lt_size (N2 p hp).1)⟩
  case turn =>
    rintro i v t T m₁ nw₁ h9 tk9 own PP hv ⟨hm1, as, n1, e1, hl, hR⟩ hown F9 N9 htup next
    rw [chain1 hm1] at F9
    rw [List.getElem?_toArray] at hv
    obtain ⟨ci, ti, hci, rfl, c0, c1, hi7⟩ := hC.get hv
    generalize hnw : nw₁ ++ own = tl at N9
    have e1t : (rp, W.listOf as.toArray n1) ∈ tl := hnw ▸ List.mem_append_left _ e1
    clear F2 N2 he3 hi3 hk3 hm1
    dsimp only
    k_steps
    refine Stop.mk ?_
    rename Fr _ _ _ _ => F14
    rename News _ _ _ _ => N14
    rename _ ∧ AllLt _ _ => lx
    have up : ∀ p ∈ nw₁, p ∈ tl := fun p hp => hnw ▸ List.mem_append_left _ hp
    have oo : ∀ q ∈ own, ∀ p ∈ nw₁, q.1 ≠ p.1 := fun q hq p hp => hown q hq _ (List.mem_map_of_mem hp)
    have hro : ∀ q ∈ own, q.1 ≠ rp := fun q hq => oo q hq _ e1
    refine' appT F14 N14 (.tail _ (.tail _ e1t)) (by rw [List.size_toArray, hl]; exact Nat.le_of_lt (Nat.lt_trans hi7 (by decide))) ?_
    intro h15 tk15 tl15 F15 N15 M15
    rw [List.push_toArray] at M15
    k_steps
    refine next .next _ _ _ (offOwn own tl15) (.inl rfl) F15 (newsSub N15 fun p hp => ?_) ⟨rfl, _, n1 + 1, mem_offOwn.mpr ⟨M15.new, hro⟩, ?_, fun j v hv2 => ?_⟩ fun p hp q hq => (mem_offOwn.mp hp).2 q hq
    · rcases List.mem_append.mp hp with hp | hp
      · exact (mem_offOwn.mp hp).1
      · exact M15.old _ (.tail _ (.tail _ (hnw ▸ List.mem_append_right _ hp))) (hro p hp)
    · rw [List.length_append, hl]; rfl
    · rcases Nat.lt_or_ge j as.length with hj | hj
      · rw [List.getElem?_append_left hj] at hv2
        obtain ⟨x', t1, t2, cj, a1, rfl, a3⟩ := hR j v hv2
        refine ⟨x', t1, t2, cj, a1, rfl, mem_offOwn.mpr ⟨M15.old _ (.tail _ (.tail _ (up _ a3))) (neObj N14 (.tail _ (.tail _ (up _ a3))) (.tail _ (.tail _ e1t)) ?_), fun q hq => oo q hq _ a3⟩⟩
        intro q; exact absurd (congrArg Obj.cls q) (by simp [roadT, W.listOf])
      · rw [List.getElem?_append_right hj] at hv2
        obtain rfl : j = i := by
          rcases Nat.eq_zero_or_pos (j - as.length) with q | q
          · lia
          · rw [List.getElem?_eq_none (by simp; lia)] at hv2; cases hv2
        rw [hl, Nat.sub_self] at hv2
        cases hv2
        refine ⟨_, _, _, ci, hci, rfl, mem_offOwn.mpr ⟨M15.old _ (.head _) (Ne.symm (allLt_mem lx.2 _ e1t)), fun q hq => allLt_mem lx.2 _ (hnw ▸ List.mem_append_right _ hq)⟩⟩
  case done =>
    rintro m₁ nw₁ h9 tk9 ⟨hm1, as, n1, e1, hl, hR⟩ F9 N9
    rw [chain1 hm1] at F9
    rw [List.size_toArray, hC.len] at hl
    clear F2 N2 he3 hi3 hk3 hm1
    dsimp only
    k_steps
    have htp := N9 _ e1
    refine ret h9 tk9 rp n1 as (Fr.stp (as := []) F9 eg) htp.1 ?_ ⟨by rw [hl]; unfold rulesOf; rw [List.length_mapIdx, hC.seven], fun i v hv => ?_⟩ hl
    · rw [← eg2]; exact htp.2.2
    · obtain ⟨x, t, t', cj, a1, rfl, a3⟩ := hR i v hv
      refine ⟨ruleOf i cj, x, t, t', by unfold rulesOf; rw [List.getElem?_mapIdx, a1]; rfl, rfl, (N9 _ a3).1.trans ?_⟩
      rw [show (1000000 - (ruleOf i cj).reach) = rankF i cj by show 1000000 - (1000000 - rankF i cj) = _; lia]
      rfl
end
end Mine

end PD7
section PLU
open PySem PySem.W PySem.Calls PyProof.Rows
set_option Elab.async false
set_option maxRecDepth 100000
set_option pp.deepTerms false
set_option pp.deepTerms.threshold 8
namespace Mine
open Pl (R krus joinF takeR Good Told Chosen cutsR)
section
variable {w : World} {mean : ExcName → Option Value} {mg mb : Str → Option Value} {A : Around} {s : Shared} {Q E : Value → Shared → Prop} {g : Heap} {L : Addr} {m : Str → Option Value} {tl im : List (Addr × Obj)} {h h' : Heap} {p b r : Addr} {all : List Rule}
theorem absorb (F : Fr g L h m) (N : News g L h tl) (him : ∀ y ∈ im, h.get? y.1 = some y.2 ∧ y.1 ≠ L) : ∃ tl', News g L h tl' ∧ (∀ y ∈ tl, y ∈ tl') ∧ ∀ y ∈ im, g.get? y.1 = some y.2 ∨ y ∈ tl' := by
  refine ⟨tl ++ im.filter (fun y => (g.get? y.1).isNone), fun y hy => ?_, fun y hy => List.mem_append_left _ hy, fun y hy => ?_⟩
  · rcases List.mem_append.mp hy with hy | hy
    · exact N y hy
    · obtain ⟨h1, h2⟩ := List.mem_filter.mp hy
      exact ⟨(him y h1).1, (him y h1).2, Option.isNone_iff_eq_none.mp h2⟩
  · cases e : g.get? y.1 with
    | none => exact .inr (List.mem_append_right _ (List.mem_filter.mpr ⟨hy, by rw [e]; rfl⟩))
    | some o =>
      have := F.keep _ _ e
      rw [(him y hy).1] at this
      cases this
      exact .inl rfl
theorem frL (F : Fr g L h m) : ∃ o es ep, h.get? L = some o ∧ o.data = .dict es ep := by
  obtain ⟨o, es, ep, h1, h2, _⟩ := F.ns
  exact ⟨o, es, ep, h1, h2⟩
noncomputable def tupAt (r : Rule) (t t' : Tok) : Obj := { cls := .type "tuple", data := .seq #[.int (1000000 - r.reach) t, .str r.road t'] }
noncomputable def RoadsIm (im : List (Addr × Obj)) (as : List Value) (all : List Rule) : Prop := as.length = all.length ∧ ∀ (i : Nat) (v : Value), as[i]? = some v → ∃ (r : Rule) (x : Addr) (t t' : Tok), all[i]? = some r ∧ v = .ref x ∧ (x, tupAt r t t') ∈ im
theorem RoadsIm.at {as : List Value} (H : RoadsIm im as all) (hg : ∀ y ∈ im, h.get? y.1 = some y.2) : RoadsAt h as all := ⟨H.1, fun i v hv => by
  obtain ⟨r, x, t, t', h1, h2, h3⟩ := H.2 i v hv
  exact ⟨r, x, t, t', h1, h2, hg _ h3⟩⟩
/-- what stands of the tuples, in a ledger of the caller's -/
theorem RoadsIm.of {as : List Value} (H : RoadsAt h as all) : ∃ im, RoadsIm im as all ∧ ∀ y ∈ im, h.get? y.1 = some y.2 ∧ y.2.cls = .type "tuple" ∧ ∃ vs n, y.2.data = .seq vs n := by
  obtain ⟨hl, H⟩ := H
  suffices ∀ k, k ≤ as.length → ∃ im : List (Addr × Obj), (∀ (i : Nat) (v : Value), i < k → as[i]? = some v → ∃ (r : Rule) (x : Addr) (t t' : Tok), all[i]? = some r ∧ v = .ref x ∧ (x, tupAt r t t') ∈ im) ∧ ∀ y ∈ im, h.get? y.1 = some y.2 ∧ y.2.cls = .type "tuple" ∧ ∃ vs n, y.2.data = .seq vs n by
    obtain ⟨im, h1, h2⟩ := this as.length (Nat.le_refl _)
    exact ⟨im, ⟨hl, fun i v hv => h1 i v (List.getElem?_eq_some_iff.mp hv).1 hv⟩, h2⟩
  intro k
  induction k with
  | zero => exact fun _ => ⟨[], fun i v hi => absurd hi (Nat.not_lt_zero _), fun y hy => nomatch hy⟩
  | succ k ih =>
    intro hk
    obtain ⟨im, h1, h2⟩ := ih (by lia)
    obtain ⟨r, x, t, t', e1, e2, e3⟩ := H k as[k] (List.getElem?_eq_getElem (by lia))
    refine ⟨(x, tupAt r t t') :: im, fun i v hi hv => ?_, fun y hy => ?_⟩
    · by_cases e : i = k
      · subst e
        rw [List.getElem?_eq_getElem (by lia)] at hv
        cases hv
        exact ⟨r, x, t, t', e1, e2, .head _⟩
      · obtain ⟨r', x', u, u', a1, a2, a3⟩ := h1 i v (by lia) hv
        exact ⟨r', x', u, u', a1, a2, .tail _ a3⟩
    · rcases List.mem_cons.mp hy with rfl | hy
      · exact ⟨e3, rfl, _, _, rfl⟩
      · exact h2 y hy
theorem roads_use {c : Addr} {n : Nat} {cv : List Value} {cs : List Int} (F : Fr g L s.heap m) (N : News g L s.heap tl) (X : (hd.heap_39 w.params).In g) (T : TopM mean mg mb g) (hh : A.handled = none) (hdp : A.depth < 440) (hun : A.units < 400) (hm : (c, W.listOf cv.toArray n) ∈ tl) (hC : CellsOk cv cs)
   (ret : ∀ h' tk r n' as im tl', Fr g L h' m → News g L h' tl' → (∀ y ∈ tl, y ∈ tl') → (r, W.listOf as.toArray n') ∈ tl' → RoadsIm im as (rulesOf cs) → (∀ y ∈ im, (g.get? y.1 = some y.2 ∨ y ∈ tl') ∧ ∃ vs n, y.2.data = .seq vs n) → as.length = 7 → Q (.ref r) { s with heap := h', toks := tk }) :
   wpAny (model prg w) A (call (.ref 220) [.ref c]) Q E s := by
  rw [toAt hh]
  refine roads_ok (N.get hm) hC (gdOf0 F X T) hdp hun fun h' tk r n' as S hr hrf HR h7 => ?_
  have F' := frKeep F S
  have N' : News g L h' ((r, W.listOf as.toArray n') :: tl) := newsCons (newsNew F hr hrf) (newsKeep N S)
  obtain ⟨im, hi, him⟩ := RoadsIm.of HR
  obtain ⟨tl', N2, hs, hk⟩ := absorb F' N' (im := im) fun y hy => ⟨(him y hy).1, fun e => by
    obtain ⟨o, es, ep, h1, h2⟩ := frL F'
    obtain ⟨q1, q2, vs, k, q3⟩ := him y hy
    rw [e, h1] at q1
    cases q1
    rw [h2] at q3
    cases q3⟩
  exact ret h' tk r n' _ im tl' F' N2 (fun y hy => hs y (.tail _ hy)) (hs _ (.head _)) hi (fun y hy => ⟨hk y hy, (him y hy).2.2⟩) h7
theorem told_use {c : Addr} {n : Nat} {cv : List Value} {cs : List Int} (F : Fr g L s.heap m) (N : News g L s.heap tl) (X : (hd.heap_39 w.params).In g) (T : TopM mean mg mb g) (hh : A.handled = none) (hdp : A.depth < 350) (hun : A.units < 50) (hm : (c, W.listOf cv.toArray n) ∈ tl) (hC : CellsOk cv cs)
   (ret : ∀ h' tk tp vs n l, Fr g L h' m → News g L h' ((tp, W.listOf vs n) :: tl) → IsStrs vs.toList ((krus l).2.map roadR) → Srt (rulesOf cs) l → Q (.ref tp) { s with heap := h', toks := tk }) :
   wpAny (model prg w) A (call (.ref 256) [.ref c]) Q E s := by
  rw [toAt hh]
  exact told_ok (N.get hm) hC (gdOf0 F X T) hdp hun fun h' tk tp vs n l S ht hf hi hs => ret h' tk tp vs n l (frKeep F S) (newsCons (newsNew F ht hf) (newsKeep N S)) hi hs
theorem kept_use {nr : Nat} {as : List Value} (F : Fr g L s.heap m) (N : News g L s.heap tl) (X : (hd.heap_39 w.params).In g) (T : TopM mean mg mb g) (hh : A.handled = none) (hdp : A.depth < 350) (hun : A.units < 50) (hr : (r, W.listOf as.toArray nr) ∈ tl) (hra : RoadsAt s.heap as all) (hok : ∀ r ∈ all, r.Ok) (hnd : (all.map Rule.reach).Nodup) (h7 : as.length = 7)
   (ret : ∀ h' tk kp vs n l, Fr g L h' m → News g L h' ((kp, W.listOf vs n) :: tl) → IsStrs vs.toList ((krus l).2.map roadR) → Srt all l → Q (.ref kp) { s with heap := h', toks := tk }) :
   wpAny (model prg w) A (call (.ref 251) [.ref r]) Q E s := by
  rw [toAt hh]
  exact kept_ok (N.get hr) hra hok hnd h7 (gdOf0 F X T) hdp hun fun h' tk kp vs n l S ht hf hi hs => ret h' tk kp vs n l (frKeep F S) (newsCons (newsNew F ht hf) (newsKeep N S)) hi hs
noncomputable def off2 (a b : Addr) (tl : List (Addr × Obj)) : List (Addr × Obj) := tl.filter fun y => decide (y.1 ≠ a) && decide (y.1 ≠ b)
theorem mem_off2 {a b : Addr} {y : Addr × Obj} : y ∈ off2 a b tl ↔ y ∈ tl ∧ y.1 ≠ a ∧ y.1 ≠ b := by
  unfold off2
  rw [List.mem_filter, Bool.and_eq_true, decide_eq_true_eq, decide_eq_true_eq]
/-- the ledger behind a call that changed two of its objects -/
theorem news2 {a b : Addr} {oa ob : Obj} {nw : List (Addr × Obj)} (F : Fr g L h m) (N : News g L h tl) (S : Stp h h' [a, b]) (ha : (a, oa) ∈ tl) (hb : (b, ob) ∈ tl) (hn : ∀ y ∈ nw, h'.get? y.1 = some y.2) (hf : ∀ y ∈ nw, y.1 ∈ [a, b] ∨ h.get? y.1 = none) :
   Fr g L h' m ∧ News g L h' (nw ++ off2 a b tl) := by
  have hmod : ∀ x ∈ [a, b], x ∈ tl.map (·.1) := fun x hx => by
    rcases List.mem_cons.mp hx with rfl | hx
    · exact List.mem_map_of_mem (f := (·.1)) ha
    · rw [List.mem_singleton.mp hx]; exact List.mem_map_of_mem (f := (·.1)) hb
  refine ⟨frMod F N S hmod, fun y hy => ?_⟩
  rcases List.mem_append.mp hy with hy | hy
  · rcases hf y hy with e | e
    · obtain ⟨q, hq, e2⟩ := List.mem_map.mp (hmod _ e)
      exact ⟨hn y hy, e2 ▸ (N q hq).2.1, e2 ▸ (N q hq).2.2⟩
    · exact newsNew F (hn y hy) e
  · obtain ⟨h1, h2, h3⟩ := mem_off2.mp hy
    exact newsIn N S h1 fun q => by
      rcases List.mem_cons.mp q with q | q
      · exact h2 q
      · exact h3 (List.mem_singleton.mp q)
theorem books_use {nr : Nat} {as : List Value} {op : Obj} (F : Fr g L s.heap m) (N : News g L s.heap tl) (X : (hd.heap_39 w.params).In g) (T : TopM mean mg mb g) (hh : A.handled = none) (hdp : A.depth < 350) (hun : A.units < 250)
   (hp : (p, op) ∈ tl) (hop : op.IsDictOf (PySem.strKind prg w) []) (l9 : @LT.lt Nat _ 229 p) (hr : (r, W.listOf as.toArray nr) ∈ tl) (h229 : (229, tabObj #[]) ∈ tl) (hra : RoadsAt s.heap as all) (hok : ∀ r ∈ all, r.Ok) (hl7 : all.length ≤ 7)
   (ret : ∀ h' tk b a vs tl' im, Fr g L h' m → News g L h' tl' → (∀ y ∈ tl, y.1 ≠ p → y.1 ≠ 229 → y ∈ tl') → Bk w mean mg mb p b a 5 vs (rulesAfter all all.length) tl' im → (∀ q, (vs q).length ≤ 2 * all.length) → @LT.lt Nat _ p b → (∀ y ∈ im, ∀ z ∈ tl, z.1 ≠ y.1) → Q (.ref b) { s with heap := h', toks := tk }) :
   wpAny (model prg w) A (call (.ref 241) [.ref r, .ref p]) Q E s := by
  rw [toAt hh]
  refine books_ok (N.get hp) hop l9 (N.get hr) (N.get h229) hra hok hl7 ((gdOf F X T N).mono (Stp.refl _ []) (fun _ h => nomatch h) fun a ha => by
    rcases List.mem_cons.mp ha with rfl | ha
    · exact List.mem_map_of_mem (f := (·.1)) hp
    · rw [List.mem_singleton.mp ha]; exact List.mem_map_of_mem (f := (·.1)) h229) hdp hun fun h' tk b a vs tlB im S hn hf B hv hlt => ?_
  obtain ⟨F', N'⟩ := news2 F N S hp h229 hn hf
  exact ret h' tk b a vs (tlB ++ off2 p 229 tl) im F' N' (fun y hy h1 h2 => List.mem_append_right _ (mem_off2.mpr ⟨hy, h1, h2⟩)) (B.sub fun y hy => List.mem_append_left _ hy) hv hlt fun y hy z hz e => by
    obtain ⟨q1, _, q2, _⟩ := B.off y hy
    rcases hf y (B.him y hy) with q | q
    · rcases List.mem_cons.mp q with q | q
      · exact q1 q
      · exact q2 (List.mem_singleton.mp q)
    · have := N.get hz
      rw [e, q] at this
      cases this
theorem joined_use {op ob : Obj} {xs : Nat → List Str} {rs : Nat → List Rule} {kvs : List (Str × Value)} (F : Fr g L s.heap m) (N : News g L s.heap tl) (X : (hd.heap_39 w.params).In g) (T : TopM mean mg mb g) (hh : A.handled = none) (hdp : A.depth < 350) (hun : A.units < 50)
   (hp : (p, op) ∈ tl) (hb : (b, ob) ∈ tl) (hP : PathsAt w op id) (hD : ob.IsDictOf (strKind prg w) kvs) (hk : kvs.map (·.1) = (List.range 5).map fo)
   (hF : ∀ q ∈ List.range 5, ∃ e, valueAt kvs (fo q) = some (.ref e) ∧ Fld w mean mg mb im p e (xs q) (rs q)) (him : ∀ y ∈ im, y ∈ tl) (hoff : ∀ y ∈ im, y.1 ≠ p ∧ y.1 ≠ b) (hpb : p ≠ b) (hb1 : (b == sysModules) = false) (HK : KI2 all (id, []) (List.range 5) xs rs) (hA : AllOk all)
   (ret : ∀ h' tk tp tv n tl' im' st K xs' rs', Fr g L h' m → News g L h' tl' → (∀ y ∈ tl, y.1 ≠ p → y.1 ≠ b → y ∈ tl') → BJ w mean mg mb g p b st.1 K xs' rs' tl' im' → KI2 all st K xs' rs' → (tp, W.listOf tv.toArray n) ∈ tl' → IsStrs tv (st.2.map roadR) → Rounds (all.map toR) 2 st → (∀ (a : Addr) (o : Obj), (a, o) ∈ tl → a ≠ p → a ≠ b → (∀ y ∈ im, y.1 ≠ a) → ∀ y ∈ im', y.1 ≠ a) → Q (.ref tp) { s with heap := h', toks := tk }) :
   wpAny (model prg w) A (call (.ref 246) [.ref b, .ref p]) Q E s := by
  rw [toAt hh]
  have sub : ∀ a ∈ [p, b], a ∈ tl.map (·.1) := fun a ha => by
    rcases List.mem_cons.mp ha with rfl | ha
    · exact List.mem_map_of_mem (f := (·.1)) hp
    · rw [List.mem_singleton.mp ha]; exact List.mem_map_of_mem (f := (·.1)) hb
  refine joined_ok (N.get hp) (N.get hb) hP hD hk hF (fun y hy => N.get (him y hy)) hoff hpb hb1 HK hA ((gdOf F X T N).mono (Stp.refl _ []) (fun _ h => nomatch h) sub) hdp hun fun h' tk tp tv n nw im' st K xs' rs' S hn B HK' ht htp htb hs hR hO => ?_
  obtain ⟨F', N'⟩ := news2 F N S hp hb (fun y hy => (hn y hy).1) fun y hy => by
    by_cases e : y.1 ∈ [p, b]
    · exact .inl e
    · cases q : s.heap.get? y.1 with
      | none => exact .inr rfl
      | some o => have := (hn y hy).2; rw [hideAll_get _ q e] at this; cases this
  have hL : L ∉ [p, b] := fun q => by
    obtain ⟨z, hz, e⟩ := List.mem_map.mp (sub _ q)
    exact (N z hz).2.1 e
  obtain ⟨oL, _, _, hoL, _⟩ := F.ns
  obtain ⟨tl', N2, hs2, hk2⟩ := absorb F' N' (im := im') fun y hy => ⟨by
    rcases B.him y hy with e | e
    · refine S.keep _ _ (of_hideAll _ e) fun q => ?_
      rw [hideAll_none _ q] at e
      cases e
    · exact (hn y e).1, fun q => by
    rcases hO y hy with e | e
    · exact (N y (him y e)).2.1 q
    · rw [q, hideAll_get _ hoL hL] at e
      cases e⟩
  obtain ⟨op', hp', hP'⟩ := B.hp
  obtain ⟨ob', kv', hb', hB'⟩ := B.hb
  exact ret h' tk tp tv n tl' im' st K xs' rs' F' N2 (fun y hy h1 h2 => hs2 _ (List.mem_append_right _ (mem_off2.mpr ⟨hy, h1, h2⟩))) ⟨⟨op', hs2 _ (List.mem_append_left _ hp'), hP'⟩, ⟨ob', kv', hs2 _ (List.mem_append_left _ hb'), hB'⟩, hk2, B.off, B.pb⟩ HK' (hs2 _ (List.mem_append_left _ ht)) hs hR fun a o ha h1 h2 hi y hy e => by
    rcases hO y hy with q | q
    · exact hi y q e
    · rw [e, hideAll_get _ (N.get ha) fun z => by
        rcases List.mem_cons.mp z with z | z
        · exact h1 z
        · exact h2 (List.mem_singleton.mp z)] at q
      cases q
end
end Mine

end PLU
section PLP
open PySem PySem.W PySem.Calls PyProof.Rows
set_option Elab.async false
set_option maxRecDepth 100000
set_option pp.deepTerms false
set_option pp.deepTerms.threshold 8
namespace Mine
open Pl (R krus joinF takeR Good Told Chosen cutsR)
theorem le_str {a b : Str} : Spec.ltCps b.cps.toList a.cps.toList = false ↔ a.cps.toList ≤ b.cps.toList := by
  rw [ltCps_eq, decide_eq_false_iff_not]
  exact Iff.rfl
theorem rising_pw : ∀ (p : Str) (l : List Str), risingS p l = true → (p :: l).Pairwise (fun a b => a.cps.toList ≤ b.cps.toList)
  | p, [], _ => List.pairwise_singleton _ _
  | p, x :: r, h => by
    have h : (!Spec.ltCps x.cps.toList p.cps.toList && risingS x r) = true := h
    rw [Bool.and_eq_true, Bool.not_eq_true'] at h
    have ih := rising_pw x r h.2
    have h1 := le_str.mp h.1
    refine List.pairwise_cons.mpr ⟨fun y hy => ?_, ih⟩
    rcases List.mem_cons.mp hy with rfl | hy
    · exact h1
    · exact List.le_trans h1 ((List.pairwise_cons.mp ih).1 y hy)
theorem sorted_pw : ∀ (l : List Str), sortedS l = true → l.Pairwise (fun a b => a.cps.toList ≤ b.cps.toList)
  | [], _ => .nil
  | x :: r, h => rising_pw x r h
theorem str_ext {a b : Str} (h : a.cps.toList = b.cps.toList) : a = b := by
  cases a; cases b
  simp only [Str.mk.injEq]
  exact Array.toList_inj.mp h
theorem sorted_unique {a b : List Str} (ha : sortedS a = true) (hb : sortedS b = true) (p : a.Perm b) : a = b :=
  List.Perm.eq_of_pairwise (fun x y _ _ h1 h2 => str_ext (List.le_antisymm h1 h2)) (sorted_pw a ha) (sorted_pw b hb) p
/-- the roads, all facts -/
theorem CellsOk.all {cv : List Value} {cs : List Int} (C : CellsOk cv cs) : AllOk (rulesOf cs) where
  ok := C.ok
  reach := C.reach
  idx := fun a ha b hb h => by
    obtain ⟨i, c, hi, rfl⟩ := rulesOf_mem ha
    obtain ⟨j, d, hj, rfl⟩ := rulesOf_mem hb
    have h : i = j := h
    subst h
    rw [hi] at hj
    cases hj
    rfl
  ne := fun a ha => by
    obtain ⟨i, c, hi, rfl⟩ := rulesOf_mem ha
    exact one_ne_two c
  len := by rw [rulesOf_len, C.seven]; exact Nat.le_refl _
theorem putRule_mem {rs : Nat → List Rule} {r x : Rule} {q : Nat} (hne : r.o ≠ r.t) : x ∈ putRule rs r q ↔ x ∈ rs q ∨ (x = r ∧ (r.o = q ∨ r.t = q)) := by
  unfold putRule updA
  by_cases h1 : q = r.t
  · subst h1
    rw [if_pos rfl, if_neg (fun e => hne e.symm), List.mem_append, List.mem_singleton]
    constructor
    · rintro (h | h)
      · exact .inl h
      · exact .inr ⟨h, .inr rfl⟩
    · rintro (h | h)
      · exact .inl h
      · exact .inr h.1
  · rw [if_neg h1]
    by_cases h2 : q = r.o
    · subst h2
      rw [if_pos rfl, List.mem_append, List.mem_singleton]
      constructor
      · rintro (h | h)
        · exact .inl h
        · exact .inr ⟨h, .inl rfl⟩
      · rintro (h | h)
        · exact .inl h
        · exact .inr h.1
    · rw [if_neg h2]
      constructor
      · exact .inl
      · rintro (h | ⟨_, h | h⟩)
        · exact h
        · exact absurd h.symm h2
        · exact absurd h.symm h1
theorem foldPut_mem {q : Nat} {x : Rule} : ∀ (l : List Rule) (rs : Nat → List Rule), (∀ r ∈ l, r.o ≠ r.t) → (x ∈ l.foldl putRule rs q ↔ x ∈ rs q ∨ (x ∈ l ∧ (x.o = q ∨ x.t = q)))
  | [], rs, _ => by simp
  | r :: l, rs, h => by
    rw [List.foldl_cons, foldPut_mem l _ fun y hy => h y (.tail _ hy), putRule_mem (h r (.head _))]
    constructor
    · rintro ((h | ⟨rfl, h⟩) | ⟨h1, h2⟩)
      · exact .inl h
      · exact .inr ⟨.head _, h⟩
      · exact .inr ⟨.tail _ h1, h2⟩
    · rintro (h | ⟨h1, h2⟩)
      · exact .inl (.inl h)
      · rcases List.mem_cons.mp h1 with rfl | h1
        · exact .inl (.inr ⟨rfl, h2⟩)
        · exact .inr ⟨h1, h2⟩
theorem rulesAfter_mem {all : List Rule} (hA : AllOk all) {q : Nat} {x : Rule} : x ∈ rulesAfter all all.length q ↔ x ∈ all ∧ (x.o = q ∨ x.t = q) := by
  unfold rulesAfter
  rw [List.take_length, foldPut_mem all _ hA.ne]
  simp [norules]
theorem lying_id : ∀ q, q < 5 → lying id q = [q] := by decide
theorem agents_id {q : Nat} (h : q < 5) : agentsOf id q = [netS, nm q] := by
  unfold agentsOf
  rw [lying_id q h]
  rfl
theorem KI2.start {all : List Rule} (hA : AllOk all) (hl : ∀ q, q < 5 → (rulesAfter all all.length q).length ≤ 14) : KI2 all (id, []) (List.range 5) (agentsOf id) (rulesAfter all all.length) where
  nodup := List.nodup_range
  mem := fun q => ⟨fun h => ⟨q, List.mem_range.mp h, rfl⟩, fun ⟨k, hk, e⟩ => by rw [← e]; exact List.mem_range.mpr hk⟩
  lt := fun k hk => hk
  rsOk := fun q _ r => rulesAfter_mem hA
  xsOk := fun q _ => rfl
  cnt := rfl
  bnd := fun q hq => by simpa using hl q (List.mem_range.mp hq)
section
variable {all : List Rule} {st : (Nat → Nat) × List R} {K : List Nat} {xs : Nat → List Str} {rs : Nat → List Rule} {l : List R}
theorem Rounds.two (hA : AllOk all) (h : Rounds (all.map toR) 2 st) : Good (fun r => r ∈ all.map toR) st ∧ (∀ r ∈ all.map toR, st.1 r.o = st.1 r.t) ∧ ∀ r, r ∈ st.2 ↔ r ∈ all.map toR ∧ Told (fun r => r ∈ all.map toR) r := by
  cases h with
  | succ h1 c2 =>
    cases h1 with
    | succ h0 c1 =>
      cases h0 with
      | zero =>
        have := Pl.boruvka hA.inj hA.in5 hA.neR c1 c2
        exact ⟨this.2.1, this.2.2.1, this.2.2.2⟩
theorem srt_told (hA : AllOk all) (hs : Srt all l) : (∀ r, r ∈ (krus l).2 ↔ r ∈ all.map toR ∧ Told (fun r => r ∈ all.map toR) r) ∧ (krus l).2.Nodup := by
  have hm : ∀ r, r ∈ l ↔ r ∈ all.map toR := fun r => hs.1.mem_iff
  have h5 : ∀ r ∈ l, r.o < 5 ∧ r.t < 5 := fun r hr => hA.in5 r ((hm r).mp hr)
  have e : (fun r => r ∈ l) = (fun r => r ∈ all.map toR) := by funext r; exact propext (hm r)
  refine ⟨fun r => ?_, ?_⟩
  · have := Pl.krus_told h5 hs.2 r
    rw [e, hm] at this
    exact this
  · have hnd : l.Nodup := hs.2.imp fun h q => by rw [q] at h; lia
    refine List.Nodup.sublist (l₂ := l) ?_ hnd
    suffices ∀ (l : List R), ((krus l).2).Sublist l from this l
    intro l
    refine Pl.snocInd (P := fun l => ((krus l).2).Sublist l) .slnil ?_ l
    intro l e ih
    rw [Pl.krus_snoc]
    unfold Pl.keepR
    split
    · exact ih.trans (List.sublist_append_left _ _)
    · exact ih.append (List.Sublist.refl _)
theorem taken_perm (hA : AllOk all) (h : Rounds (all.map toR) 2 st) (hs : Srt all l) : st.2.Perm (krus l).2 := by
  obtain ⟨G, _, ht⟩ := h.two hA
  obtain ⟨h1, h2⟩ := srt_told hA hs
  exact (List.perm_ext_iff_of_nodup G.nodup h2).mpr fun r => (ht r).trans (h1 r).symm
theorem no_cut (hA : AllOk all) (h : Rounds (all.map toR) 2 st) (H : KI2 all st K xs rs) {q : Nat} (hq : q ∈ K) : best st.1 q (rs q) = none := by
  cases hb : best st.1 q (rs q) with
  | none => rfl
  | some r =>
    obtain ⟨h1, h2, _⟩ := best_some hb
    have hr := ((H.rsOk q hq r).mp h1).1
    have := (h.two hA).2.1 (toR r) (List.mem_map_of_mem hr)
    have e : st.1 r.o = st.1 r.t := this
    unfold cuts at h2
    rw [e] at h2
    simp at h2
end
end Mine

end PLP
section PLQ
open PySem PySem.W PySem.Calls PyProof.Rows PySem.SeqAt
set_option Elab.async false
set_option maxRecDepth 100000
set_option pp.deepTerms false
set_option pp.deepTerms.threshold 8
namespace Mine
section
variable {prog : Program} {w : World} {A : Around} {E : Value → Shared → Prop} {s : Shared} {h₀ : Heap} {L : Addr} {m : Str → Option Value} {news : List (Addr × Obj)}
/-- a slice of a list display: the slice first, what holds the display's list is let go behind it -/
theorem sliceT {value slice : Expr} {l : Addr} {items : Array Value} {vl vu : Value} {lo hi : Option Int} {Q : Value → Shared → Prop}
    (F : Fr h₀ L s.heap m) (N : News h₀ L s.heap news) (hl : s.heap.IsList l items) (pl : IsPart vl lo) (pu : IsPart vu hi) (hsz : items.size ≤ sizeLine)
    (h : ∀ h' D, Fr h₀ L h' m → News h₀ L h' ((D, { cls := .type "list", data := .seq (slicePick items lo hi none) }) :: news) → Q (.ref D) { s with heap := h' })
    (hs : subscripted slice false (.ref l) (.ref s.heap.objs.size) = operate [.ref s.heap.objs.size, .ref l] (getItem (.ref l) (.ref s.heap.objs.size)) := by with_unfolding_all rfl) :
    wpAny (model prog w) A (subscriptTail value slice (.ref l) (.ref s.heap.objs.size)) Q E { s with heap := s.heap.push { cls := .type "slice", data := .fields #[vl, vu, .none] } } := by
  have hL := hl.push { cls := .type "slice", data := .fields #[vl, vu, .none] }
  have F1 := F.push { cls := .type "slice", data := .fields #[vl, vu, .none] }
  have N1 := News.push F1 (N.grown fun _ _ e => Heap.get?_push_of_some _ e) { cls := .type "list", data := .seq (slicePick items lo hi none) }
  have got := wpAny_operating (vs := [.ref s.heap.objs.size, .ref l]) (wpAny_getItem_list_slice (prog := prog) (w := w) (A := A) (E := E) (s := { s with heap := s.heap.push { cls := .type "slice", data := .fields #[vl, vu, .none] } })
    (Q := fun r s' => wpAny (model prog w) A (letTemporaryGo value (.ref l) r >>= fun _ => pure r) Q E s') hL (Heap.IsSliceOf.new ..) pl pu .none (by simp) (wpAny_bind (wpAny_letTemporaryGo (wpAny_pure (h _ _ (F1.push _) N1)))) hsz)
  rw [← hs] at got
  have kind : Shared.TypeIs { s with heap := s.heap.push { cls := .type "slice", data := .fields #[vl, vu, .none] } } (.ref l) "list" := hL.typeIs
  delta subscriptTail
  rw [getitemInPython_of_ne kind.not_modules]
  exact wpAny_bind (wpAny_bind (wpAny_specialOf kind list_getitem_lookup (wpAny_pure (wpAny_bind got))))
end
section
variable {w : World} {mean : ExcName → Option Value} {mg mb : Str → Option Value} {A : Around} {s : Shared} {Q E : Value → Shared → Prop} {g : Heap} {L : Addr} {m : Str → Option Value} {tl im : List (Addr × Obj)} {a b : Addr}
/-- two lists whose items are equal, item by item -/
theorem neqT {vs ws : List Value} {oa ob : Obj} {prog : Program} (N : News g L s.heap tl) (ha : (a, oa) ∈ tl) (hb : (b, ob) ∈ tl) (ca : oa.cls = .type "list" ∧ ∃ n, oa.data = .seq vs.toArray n) (cb : ob.cls = .type "list" ∧ ∃ n, ob.data = .seq ws.toArray n) (hu : A.units < cLine) (hs : vs.length = ws.length)
    (he : ∀ (j : Nat) (x y : Value), vs[j]? = some x → ws[j]? = some y → ∀ A s, EqAt A s x y true) (q : Q (.bool false) s) : wpAny (model prog w) A (compareOp .NotEq (.ref a) (.ref b)) Q E s := by
  refine RcNeAt.lists (e := fun _ => true) ⟨oa, N.get ha, ca.1, ca.2⟩ ⟨ob, N.get hb, cb.1, cb.2⟩ (by simpa using hs) hu (fun j h1 h2 => ?_) prog w E Q ?_
  · refine he j _ _ (List.getElem?_eq_getElem (by simpa using h1)) (List.getElem?_eq_getElem (by simpa using h2)) _ _
  · have : (List.range vs.toArray.size).all (fun _ => true) = true := by simp
    rw [this]
    exact q
theorem neqH {vs ws : List Value} {oa ob : Obj} {prog : Program} (ha : s.heap.get? a = some oa) (hb : s.heap.get? b = some ob) (ca : oa.cls = .type "list" ∧ ∃ n, oa.data = .seq vs.toArray n) (cb : ob.cls = .type "list" ∧ ∃ n, ob.data = .seq ws.toArray n) (hu : A.units < cLine) (hs : vs.length = ws.length)
    (he : ∀ (j : Nat) (x y : Value), vs[j]? = some x → ws[j]? = some y → ∀ A s, EqAt A s x y true) (q : Q (.bool false) s) : wpAny (model prog w) A (compareOp .NotEq (.ref a) (.ref b)) Q E s := by
  refine RcNeAt.lists (e := fun _ => true) ⟨oa, ha, ca.1, ca.2⟩ ⟨ob, hb, cb.1, cb.2⟩ (by simpa using hs) hu (fun j h1 h2 => ?_) prog w E Q ?_
  · refine he j _ _ (List.getElem?_eq_getElem (by simpa using h1)) (List.getElem?_eq_getElem (by simpa using h2)) _ _
  · have : (List.range vs.toArray.size).all (fun _ => true) = true := by simp
    rw [this]
    exact q
theorem eqStrs {vs ws : List Value} {xs : List Str} (h1 : IsStrs vs xs) (h2 : IsStrs ws xs) : vs.length = ws.length ∧ ∀ (j : Nat) (x y : Value), vs[j]? = some x → ws[j]? = some y → ∀ A s, EqAt A s x y true := by
  induction vs generalizing ws xs with
  | nil => cases xs with
    | nil => cases ws with
      | nil => exact ⟨rfl, fun j x y h => by simp at h⟩
      | cons _ _ => exact h2.elim
    | cons _ _ => exact h1.elim
  | cons v vs ih => cases xs with
    | nil => exact h1.elim
    | cons z xs => cases ws with
      | nil => exact h2.elim
      | cons u ws =>
        obtain ⟨⟨t, rfl⟩, h1⟩ := h1
        obtain ⟨⟨t', rfl⟩, h2⟩ := h2
        obtain ⟨e, hi⟩ := ih h1 h2
        refine ⟨by simp [e], fun j x y hx hy => ?_⟩
        cases j with
        | zero =>
          cases hx; cases hy
          intro A s
          have := EqAt.str_str (A := A) (s := s) z t z t'
          rwa [beq_self_eq_true] at this
        | succ j => exact hi j x y hx hy
theorem isStrs_of : ∀ {vs : List Value} {xs : List Str}, StrsAre vs xs → IsStrs vs xs
  | [], [], _ => trivial
  | _ :: _, _ :: _, .cons _ t h => ⟨⟨t, rfl⟩, isStrs_of h⟩
theorem sortedT {vs : List Value} {ss : List Str} {o : Obj} (F : Fr g L s.heap m) (N : News g L s.heap tl) (ha : (a, o) ∈ tl) (ca : o.cls = .type "list" ∧ ∃ n, o.data = .seq vs.toArray n) (hS : IsStrs vs ss) (h64 : vs.length < 64)
    (ret : ∀ h' D vs' ss' e, Fr g L h' m → News g L h' ((D, seqObj "list" vs'.toArray e) :: tl) → IsStrs vs' ss' → ss'.Perm ss → sortedS ss' = true → Q (.ref D) { s with heap := h' }) :
    wpAny (model prg w) A (call (.builtin "sorted") [.ref a]) Q E s :=
  sorted_N_str F N ⟨o, N.get ha, ca.1, ca.2⟩ (strsAre_of hS) h64 fun h' vs' ss' e F' N' h1 h2 h3 => ret h' _ vs' ss' e F' N' (isStrs_of h1) h2 h3
theorem addT {vs ws : List Value} {oa ob : Obj} {prog : Program} (F : Fr g L s.heap m) (N : News g L s.heap tl) (ha : (a, oa) ∈ tl) (hb : (b, ob) ∈ tl) (ca : oa.cls = .type "list" ∧ ∃ n, oa.data = .seq vs.toArray n) (cb : ob.cls = .type "list" ∧ ∃ n, ob.data = .seq ws.toArray n) (hsz : vs.length + ws.length ≤ sizeLine)
    (h : ∀ h' D, Fr g L h' m → News g L h' ((D, W.listOf (vs ++ ws).toArray 0) :: tl) → (∀ y ∈ tl, @LT.lt Nat _ y.1 D) → Q (.ref D) { s with heap := h' }) :
    wpAny (model prog w) A (binaryOp .Add (.ref a) (.ref b)) Q E s :=
  add_lists (hsz := hsz) F N ⟨oa, N.get ha, ca.1, ca.2⟩ ⟨ob, N.get hb, cb.1, cb.2⟩ fun h' F' N' => h h' _ F' N' fun y hy => Heap.lt_size (N y hy).1
theorem mulT {x : Value} {k : Nat} {c : Int} {u : Tok} {prog : Program} (F : Fr g L s.heap m) (N : News g L s.heap tl) (ha : (a, W.listOf #[x] k) ∈ tl) (hlo : 0 ≤ c) (hhi : c ≤ 5)
    (h : ∀ h' D, Fr g L h' m → News g L h' ((D, W.listOf (List.replicate c.toNat x).toArray 0) :: tl) → Q (.ref D) { s with heap := h' }) :
    wpAny (model prog w) A (binaryOp .Mult (.ref a) (.int c u)) Q E s :=
  mul_list F N (N.get ha) (by lia) (by lia) (by simp only [List.size_toArray, List.length_cons, List.length_nil]; lia) fun h' F' N' => by
    have e : List.foldl (fun x1 x2 => x1 ++ x2) #[] (List.replicate (if (#[x] : Array Value).isEmpty = true then 0 else c.toNat) #[x]) = (List.replicate c.toNat x).toArray := by
      rw [if_neg (by simp), listMul_foldl]
      simp only [Array.toList_empty, List.nil_append]
      rw [lm_rep_flat_one]
    rw [e] at N'
    exact h h' _ F' N'
theorem lenL {vs : Array Value} {n : Nat} {prog : Program} (N : News g L s.heap tl) (ha : (a, W.listOf vs n) ∈ tl) (hz : vs.size ≤ 1000) (q : Q (.int ((vs.size : Nat) : Int) (s.toks + 1)) { s with toks := s.toks + 1 + 1 }) : wpAny (model prog w) A (call (.builtin "len") [.ref a]) Q E s :=
  PyProof.Rows.len_list ⟨_, N.get ha, rfl, _, rfl⟩ (by lia) q
inductive JF (g : Heap) (p b L : Addr) (op ob oB oP o9 : Obj) (im : List (Addr × Obj)) (nw : List (Addr × Obj)) : Prop
  | mk (hz1 : (p, op) ∈ nw) (hz2 : (b, ob) ∈ nw) (hz3 : (L + 1 + 1, oB) ∈ nw) (hz4 : (L + 1, oP) ∈ nw) (hz5 : (229, o9) ∈ nw) (hz6 : ∃ oF v, (L + 1 + 1 + 1, oF) ∈ nw ∧ oF.data = .cell v) (hz7 : ∀ y ∈ im, g.get? y.1 = some y.2 ∨ y ∈ nw) : JF g p b L op ob oB oP o9 im nw
theorem JF.hb {p b : Addr} {op ob oB oP o9 : Obj} {nw : List (Addr × Obj)} (H : JF g p b L op ob oB oP o9 im nw) : (b, ob) ∈ nw := by
  obtain ⟨_, h, _⟩ := H
  exact h
theorem JF.off {p b : Addr} {op ob oB oP o9 : Obj} {nw tl' own : List (Addr × Obj)} (H : JF g p b L op ob oB oP o9 im nw) (ho : ∀ z ∈ own, ∀ y ∈ nw, z.1 ≠ y.1) (hs : ∀ y ∈ nw, y.1 ≠ L + 1 + 1 + 1 → y ∈ tl') (hF : ∃ oF v, (L + 1 + 1 + 1, oF) ∈ tl' ∧ oF.data = .cell v) (hi : ∀ y ∈ im, y.1 ≠ L + 1 + 1 + 1) (hp : p ≠ L + 1 + 1 + 1) (hb : b ≠ L + 1 + 1 + 1) (h9 : @LT.lt Nat _ 229 L) : JF g p b L op ob oB oP o9 im (offOwn own tl') := by
  obtain ⟨a1, a2, a3, a4, a5, ⟨oF, v, a6, _⟩, a7⟩ := H
  obtain ⟨oF', v', b6, b7⟩ := hF
  have k : ∀ {y : Addr × Obj}, y ∈ nw → y.1 ≠ L + 1 + 1 + 1 → y ∈ offOwn own tl' := fun {y} hy hn => mem_offOwn.mpr ⟨hs y hy hn, fun z hz => ho z hz y hy⟩
  exact ⟨k a1 hp, k a2 hb, k a3 (neN (by lia)), k a4 (neN (by lia)), k a5 (neN (by lia)), ⟨oF', v', mem_offOwn.mpr ⟨b6, fun z hz => ho z hz (_, oF) a6⟩, b7⟩, fun y hy => (a7 y hy).imp id fun e => k e (hi y hy)⟩
theorem nm_sign {i : Nat} {v : Value} (hi : i < (Str.ofString "abcde").cps.size) (h : SignAt (Str.ofString "abcde") i v) : ∃ u, v = .str (nm i) u := by
  obtain ⟨c, u, hc, rfl⟩ := h
  have h5 : i < 5 := hi
  have : ∀ i, i < 5 → (Str.ofString "abcde").cps[i]? = some (97 + i) := by decide
  rw [this i h5] at hc
  cases hc
  exact ⟨u, rfl⟩
theorem picked_strs {p : Nat → Bool} {ys : List Value} {n : Nat} (H : Picked p (fun i y => ∃ u, y = .str (nm i) u) n ys) : IsStrs ys (((List.range n).filter p).map nm) := by
  induction H with
  | nil => exact trivial
  | yes _ hp hy ih =>
    obtain ⟨u, rfl⟩ := hy
    rw [List.range_succ, List.filter_append, List.map_append, List.filter_cons, if_pos hp]
    exact isStrs_snoc ih
  | no _ hp ih =>
    rw [List.range_succ, List.filter_append, List.filter_cons, if_neg (by rw [hp]; decide), List.filter_nil, List.append_nil]
    exact ih
theorem stopStore {M : Model} {env : Env} {x : Str} {v : Value} {Q : Unit → Shared → Prop} (_hx : env.kindOf x = some .cell) (h : Stop (wpAny M A (storeName env x v) Q E s)) : wpAny M A (storeName env x v) Q E s := h.go
theorem Bk.flds {p b : Addr} {a : Ads} {vs : Nat → List Value} {rs : Nat → List Rule} (B : Bk w mean mg mb p b a 5 vs rs tl im) : ∃ im2, (∀ q ∈ List.range 5, Fld w mean mg mb im2 p (a.e q) (agentsOf id q) (rs q)) ∧ (∀ y ∈ im2, y ∈ tl ∧ y.1 ≠ p ∧ y.1 ≠ b) ∧ ∀ y ∈ im2, y ∈ im ∨ ∃ vs n, y.2.data = .seq vs n := by
  obtain ⟨n0, h0⟩ := B.hl 0 (by decide)
  obtain ⟨n1, h1⟩ := B.hl 1 (by decide)
  obtain ⟨n2, h2⟩ := B.hl 2 (by decide)
  obtain ⟨n3, h3⟩ := B.hl 3 (by decide)
  obtain ⟨n4, h4⟩ := B.hl 4 (by decide)
  have key : ∀ im2 : List (Addr × Obj), (∀ y ∈ im, y ∈ im2) → ∀ q, q < 5 → ∀ n, (a.l q, W.listOf (vs q).toArray n) ∈ im2 → Fld w mean mg mb im2 p (a.e q) (agentsOf id q) (rs q) := fun im2 hs q hq n hl => by
    obtain ⟨e1, ⟨t1, t2, t3, t4, e2⟩, us, nu, e3, e4⟩ := B.he q hq
    rw [agents_id hq]
    refine ⟨a.d q, a.u q, a.l q, t1, t2, t3, t4, nu, n, us.toList, vs q, hs _ e1, hs _ e2, ?_, e4, hl, (B.rel q hq).more hs⟩
    rw [Array.toArray_toList]
    exact hs _ e3
  have hd := B.dist.2.2.2.1
  have hs : ∀ y ∈ im, y ∈ ([(a.l 0, W.listOf (vs 0).toArray n0), (a.l 1, W.listOf (vs 1).toArray n1), (a.l 2, W.listOf (vs 2).toArray n2), (a.l 3, W.listOf (vs 3).toArray n3), (a.l 4, W.listOf (vs 4).toArray n4)] ++ im) := fun y hy => List.mem_append_right _ hy
  refine ⟨[(a.l 0, W.listOf (vs 0).toArray n0), (a.l 1, W.listOf (vs 1).toArray n1), (a.l 2, W.listOf (vs 2).toArray n2), (a.l 3, W.listOf (vs 3).toArray n3), (a.l 4, W.listOf (vs 4).toArray n4)] ++ im, fun q hq => ?_, fun y hy => ?_, fun y hy => ?_⟩
  · have hq := List.mem_range.mp hq
    have : q = 0 ∨ q = 1 ∨ q = 2 ∨ q = 3 ∨ q = 4 := by lia
    rcases this with rfl | rfl | rfl | rfl | rfl
    · exact key _ hs 0 hq n0 (by simp)
    · exact key _ hs 1 hq n1 (by simp)
    · exact key _ hs 2 hq n2 (by simp)
    · exact key _ hs 3 hq n3 (by simp)
    · exact key _ hs 4 hq n4 (by simp)
  · rcases List.mem_append.mp hy with hy | hy
    · simp only [List.mem_cons, List.not_mem_nil, or_false] at hy
      rcases hy with rfl | rfl | rfl | rfl | rfl
      · exact ⟨h0, (hd 0 (by decide)).1, (hd 0 (by decide)).2.1⟩
      · exact ⟨h1, (hd 1 (by decide)).1, (hd 1 (by decide)).2.1⟩
      · exact ⟨h2, (hd 2 (by decide)).1, (hd 2 (by decide)).2.1⟩
      · exact ⟨h3, (hd 3 (by decide)).1, (hd 3 (by decide)).2.1⟩
      · exact ⟨h4, (hd 4 (by decide)).1, (hd 4 (by decide)).2.1⟩
    · exact ⟨B.him y hy, (B.off y hy).1, (B.off y hy).2.1⟩
  · rcases List.mem_append.mp hy with hy | hy
    · simp only [List.mem_cons, List.not_mem_nil, or_false] at hy
      rcases hy with rfl | rfl | rfl | rfl | rfl <;> exact .inr ⟨_, _, rfl⟩
    · exact .inl hy
theorem Bk.paths {p b : Addr} {a : Ads} {vs : Nat → List Value} {rs : Nat → List Rule} (B : Bk w mean mg mb p b a 5 vs rs tl im) : ∃ op, (p, op) ∈ tl ∧ PathsAt w op id := by
  obtain ⟨op, pk, h1, h2, h3, h4⟩ := B.hp
  exact ⟨op, h1, pk, h2, fun k hk => ⟨hk, h4 k hk⟩, h3⟩
theorem allLt_of {d : Addr} {l : List (Addr × Obj)} (h : AllLt d l) : ∀ p ∈ l, @LT.lt Nat _ p.1 d := by
  induction l with
  | nil => exact fun p hp => nomatch hp
  | cons q r ih =>
    intro p hp
    rcases List.mem_cons.mp hp with rfl | hp
    · exact h.1
    · exact ih h.2 p hp
noncomputable def dk : Data → Nat
  | .seq _ _ => 0
  | .dict _ _ => 1
  | .cell _ => 2
  | .fields _ => 3
  | _ => 4
theorem dkDict {o : Obj} {kvs : List (Str × Value)} (h : o.IsDictOf (PySem.strKind prg w) kvs) : dk o.data = 1 := by
  obtain ⟨es, n, _, e, _⟩ := h
  rw [e]; rfl
theorem dkCell {o : Obj} {v : Option Value} (h : o.data = .cell v) : dk o.data = 2 := by rw [h]; rfl
theorem dkL {vs : Array Value} {n : Nat} : dk (W.listOf vs n).data = 0 := rfl
theorem dkT {vs : Array Value} : dk (tabObj vs).data = 3 := rfl
theorem dkSeq {o : Obj} (h : ∃ vs n, o.data = .seq vs n) : dk o.data = 0 := by
  obtain ⟨vs, n, e⟩ := h
  rw [e]; rfl
theorem dkPaths {o : Obj} {f : Nat → Nat} (h : PathsAt w o f) : dk o.data = 1 := by
  obtain ⟨pk, h1, _⟩ := h
  exact dkDict h1
theorem neK {y : Addr × Obj} {d : Addr} {od : Obj} {h : Heap} {i j : Nat} (N : News g L h tl) (hy : y ∈ tl) (hd : (d, od) ∈ tl) (e1 : dk y.2.data = i) (e2 : dk od.data = j) (hij : i ≠ j) : y.1 ≠ d :=
  neObj N hy hd fun q => hij (by rw [← e1, ← e2, q])
theorem cells_ok {ys ws : List Value} {k : Nat} {sc : List Int} {t0 t1 t2 t3 t4 t5 t6 : Tok} {sp : Array Value} (h1 : IntsAre ys ((sc.take 7).map fun k => k.fmod (10 ^ Int.toNat 6))) (hk : k = ys.length) (he : slicePick #[.int 120 t0, .int 45 t1, .int 61 t2, .int 83 t3, .int 109 t4, .int 142 t5, .int 36 t6] (some ((k : Nat) : Int)) none none = sp) (hw : ws = sp.toList) :
    ws.length ≤ 7 ∧ CellsOk (ys ++ ws) ((sc.take 7).map (fun k => k.fmod (10 ^ Int.toNat 6)) ++ [120, 45, 61, 83, 109, 142, 36].drop k) := by
  have hl := h1.length
  rw [List.length_map, List.length_take] at hl
  have h2 : IntsAre ([.int 120 t0, .int 45 t1, .int 61 t2, .int 83 t3, .int 109 t4, .int 142 t5, .int 36 t6] : List Value) [120, 45, 61, 83, 109, 142, 36] := .cons _ _ (.cons _ _ (.cons _ _ (.cons _ _ (.cons _ _ (.cons _ _ (.cons _ _ .nil))))))
  have h3 := slice_ints_from h2 (x := ((k : Nat) : Int)) (by lia) (by simp only [List.length_cons, List.length_nil]; lia)
  rw [he, ← hw] at h3
  have h3 : IntsAre ws ([120, 45, 61, 83, 109, 142, 36].drop k) := h3
  refine ⟨by rw [h3.length, List.length_drop]; simp only [List.length_cons, List.length_nil]; lia, h1.append h3, ?_, fun c hc => ?_, fun c hc => ?_⟩
  · rw [List.length_append, List.length_map, List.length_take, List.length_drop]
    simp only [List.length_cons, List.length_nil]
    lia
  all_goals
    have e6 : (10 : Int) ^ Int.toNat 6 = 1000000 := by decide
    rw [e6] at hc
    rcases List.mem_append.mp hc with hc | hc
  · obtain ⟨x, _, rfl⟩ := List.mem_map.mp hc
    exact Int.fmod_nonneg_of_pos _ (by decide)
  · have := List.mem_of_mem_drop hc
    simp only [List.mem_cons, List.not_mem_nil, or_false] at this
    lia
  · obtain ⟨x, _, rfl⟩ := List.mem_map.mp hc
    exact Int.fmod_lt_of_pos _ (by decide)
  · have := List.mem_of_mem_drop hc
    simp only [List.mem_cons, List.not_mem_nil, or_false] at this
    lia
end
end Mine

end PLQ
section PLA
theorem Mine.rs_LA : True := by
  w_top off
  first | walk1 | trivial
open PySem PySem.W PySem.Calls PyProof.Rows
set_option Elab.async false
set_option maxRecDepth 100000
set_option pp.deepTerms false
set_option pp.deepTerms.threshold 8
namespace Mine
open Pl (R krus joinF takeR Good Told Chosen cutsR)
theorem fillKLA : (PySem.Challenge.rw_il0068_01 = PySem.Challenge.rw_il0068_01 ∧ hd.heap_39 = hd.heap_39) := by k_fill; exact ⟨rfl, rfl⟩
noncomputable def Marker : Prop := True
local macro_rules | `(tactic| walk_at "exec Assign cons ListComp") => `(tactic| (k_here; (with_reducible have _ := (by assumption : Marker)); k_dflt (refine Stop.go ?_)))
local macro_rules | `(tactic| walk_at "eval ListComp") => `(tactic| (k_here; (with_reducible have _ := (by assumption : Marker)); k_dflt (refine Stop.go ?_)))
local macro_rules | `(tactic| walk_at "call ref") => `(tactic| (k_here; k_dflt (refine Stop.go ?_)))
local macro_rules | `(tactic| walk_at "call builtin:sorted") => `(tactic| (k_here; k_dflt (refine Stop.go ?_)))
local macro_rules | `(tactic| walk_at "compareOp NotEq ref ref") => `(tactic| (k_here; k_dflt (refine Stop.go ?_)))
local macro_rules | `(tactic| walk_at "subscriptTail") => `(tactic| (k_here; (with_reducible show wpAny _ _ (subscriptTail (Expr.List _ _) _ _ _) _ _ _); k_dflt (refine Stop.go ?_)))
local macro_rules | `(tactic| walk_at "subscriptTail") => `(tactic| (k_here; (with_reducible show wpAny _ _ (subscriptTail _ _ (Value.ref _) (Value.str _ _)) _ _ _); k_dflt (refine' dictItem (by k_asm) (by first | with_reducible assumption | exact List.Mem.tail _ (by with_reducible assumption) | exact List.Mem.tail _ (List.Mem.tail _ (by with_reducible assumption))) (by with_reducible assumption) (by with_reducible assumption) ?_; k_whole)))
local macro_rules | `(tactic| walk_at "binaryOp Add ref ref") => `(tactic| (k_here; k_dflt (refine Stop.go ?_)))
local macro_rules | `(tactic| walk_at "eval Name") => `(tactic| (k_here; (with_reducible have _ := (by assumption : Marker)); k_dflt (refine' nameX_C (c := (_ + 1 : Nat)) ?N ?c ?m ?d ?_ ?a ?b; (case a => rfl); (case b => rfl); (case N => k_asm); (case c => rfl); (case m => first | with_reducible assumption | exact List.Mem.tail _ (by with_reducible assumption) | exact List.Mem.tail _ (List.Mem.tail _ (by with_reducible assumption))); (case d => with_reducible assumption); k_whole)))
local macro_rules | `(tactic| walk_at "storeName") => `(tactic| (k_here; (with_reducible have _ := (by assumption : Marker)); k_dflt (refine stopStore (by rfl) ?_)))
local macro_rules | `(tactic| walk_at "exec For Name Name cons nil") => `(tactic| (k_here; k_dflt (refine wpAny_For ?_)))
local macro_rules | `(tactic| walk_at "pyIter ref") => `(tactic| (k_here; (with_reducible have _ := (by assumption : Marker)); k_dflt (refine Stop.go ?_)))
local macro_rules | `(tactic| walk_at "pyIter str") => `(tactic| (k_here; (with_reducible have _ := (by assumption : Marker)); k_dflt (refine Stop.go ?_)))
local macro_rules | `(tactic| walk_at "binaryOp Mult ref int") => `(tactic| (k_here; k_dflt (refine Stop.go ?_)))
local macro_rules | `(tactic| walk_at "getMethod ref") => `(tactic| (k_here; k_dflt (((with_reducible show wpAny _ _ (getMethod (Value.ref _) (PySem.Str.ofString "allowance") _) _ _ _); refine' entAllow (by k_asm) (by k_asm) (by with_reducible assumption) (by with_reducible assumption) ?_; k_whole))))
noncomputable def Marker2 : Prop := True
local macro_rules | `(tactic| walk_at "getAttr ref") => `(tactic| (k_here; (with_reducible have _ := (by assumption : Marker2)); k_dflt (refine Stop.go ?_)))
local macro_rules | `(tactic| walk_at "call builtin:len") => `(tactic| (k_here; (with_reducible have _ := (by assumption : Marker2)); k_dflt (refine Stop.go ?_)))
local macro_rules | `(tactic| walk_at "eval BinOp") => `(tactic| (k_here; (with_reducible have _ := (by assumption : Marker2)); k_dflt (refine Stop.go ?_)))
set_option maxHeartbeats 40000000 in
theorem law_holds : PySem.Challenge.rw_il0068_01.Holds := by
  refine hd (by conv => lhs; whnf) (by conv => lhs; whnf) (by conv => lhs; whnf) ?_
  k_go0
  (all_goals try k_fold)
  rename_i h1 tk1 oF oB oP dF dB dP X0 X1 T1 K1 F1 N1 l0
  have dF' : oF.data = .cell none := dF
  have dB' : oB.data = .cell none := dB
  have dP' : oP.data = .cell none := dP
  clear dF dB dP
  rename Shared => s1
  k_steps
  refine Stop.mk ?_
  (try clear F1); (try clear N1)
  rename Fr _ _ _ _ => F1
  rename News _ _ _ _ => N1
  rename_i hI8 hL8 D _ _ o1 lD _ l1
  have hys : ys.length ≤ 7 := by rw [hL8, List.length_map, List.length_take]; lia
  refine' sliceT (lo := some _) (hi := none) F1 N1 ?hl (.int _ _) .none ?hz ?_ ?hs
  case hl => exact ⟨_, (N1 _ (.head _)).1, rfl, _, rfl⟩
  case hs => with_unfolding_all rfl
  case hz => exact Nat.le_of_ble_eq_true rfl
  intro h2 D2 F2 N2
  generalize hsp : slicePick _ _ _ _ = sp at N2
  have hC := cells_ok (ws := sp.toList) hI8 hL8.symm hsp rfl
  clear F1 N1
  k_sweep
  k_steps
  refine Stop.mk ?_
  rename Fr _ _ _ _ => F3
  rename News _ _ _ _ => N3
  refine' addT (vs := ys) (ws := sp.toList) F3 N3 (.tail _ (.tail _ (.head _))) (.head _) ⟨rfl, _, rfl⟩ ⟨rfl, _, by rw [Array.toArray_toList]⟩ ?hz ?_
  case hz => exact Nat.le_trans (Nat.add_le_add hys hC.1) (Nat.le_of_ble_eq_true rfl)
  intro h4 c F4 N4 lc
  have hCC := hC.2
  generalize hcs : List.map _ _ ++ List.drop _ _ = cs at hCC
  generalize ys ++ sp.toList = cv at hCC N4
  have l9c : @LT.lt Nat _ 229 c := lc (229, _) (.tail _ (.tail _ (.tail _ (.tail _ (.tail _ (.tail _ (.tail _ (.head _))))))))
  clear hcs hC hsp hI8 hL8 hys lc
  generalize hTL : (_ :: _ : List (Addr × Obj)) = TL at N4
  have mC : (c, W.listOf cv.toArray 0) ∈ TL := hTL ▸ .head _
  have mF : (s1.heap.objs.size + 1 + 1 + 1, oF) ∈ TL := hTL ▸ .tail _ (.tail _ (.tail _ (.tail _ (.tail _ (.head _)))))
  have mB : (s1.heap.objs.size + 1 + 1, oB) ∈ TL := hTL ▸ .tail _ (.tail _ (.tail _ (.tail _ (.tail _ (.tail _ (.head _))))))
  have mP : (s1.heap.objs.size + 1, oP) ∈ TL := hTL ▸ .tail _ (.tail _ (.tail _ (.tail _ (.tail _ (.tail _ (.tail _ (.head _)))))))
  have m9 : (229, tabObj #[]) ∈ TL := hTL ▸ .tail _ (.tail _ (.tail _ (.tail _ (.tail _ (.tail _ (.tail _ (.tail _ (.head _))))))))
  clear hTL
  clear F3 N3
  k_sweep
  k_steps
  refine Stop.mk ?_
  rename Fr _ _ _ _ => F5
  rename News _ _ _ _ => N5
  refine' roads_use F5 N5 ?d1 ?d2 rfl ?d3 ?d4 mC hCC ?_
  case d1 => k_asm
  case d2 => k_asm
  case d3 => exact Nat.le_of_ble_eq_true rfl
  case d4 => exact Nat.le_of_ble_eq_true rfl
  intro h6 tk6 r nr as imR TL6 F6 N6 up6 mR hRI hRk h7
  have hRs := fun y hy => (hRk y hy).2
  replace hRk := fun y hy => (hRk y hy).1
  replace mC := up6 _ mC
  replace mF := up6 _ mF
  replace mB := up6 _ mB
  replace mP := up6 _ mP
  replace m9 := up6 _ m9
  clear F5 N5 up6
  k_sweep
  k_steps
  refine Stop.mk ?_
  rename Fr _ _ _ _ => F7
  rename News _ _ _ _ => N7
  refine' told_use F7 N7 ?d1 ?d2 rfl ?d3 ?d4 mC hCC ?_
  case d1 => k_asm
  case d2 => k_asm
  case d3 => exact Nat.le_of_ble_eq_true rfl
  case d4 => exact Nat.le_of_ble_eq_true rfl
  intro h8 tk8 tp vs8 n8 l8 F8 N8 hi8 hs8
  clear F7 N7
  k_sweep
  have hmk : Marker := trivial
  k_steps
  refine Stop.mk ?_
  rename Fr _ _ _ _ => F9
  rename News _ _ _ _ => N9
  rename_i p hA op hlop hop fsa hia fia lp Dt hB l1b hC' hD hE xm
  generalize hT : (_ :: _ :: _ :: TL6 : List (Addr × Obj)) = TL9 at N9
  have up6 : ∀ y ∈ TL6, y ∈ TL9 := fun y hy => hT ▸ .tail _ (.tail _ (.tail _ hy))
  have mt : (tp, W.listOf vs8 n8) ∈ TL9 := hT ▸ .tail _ (.tail _ (.head _))
  have mp : (p, op) ∈ TL9 := hT ▸ .tail _ (.head _)
  have l9p : @LT.lt Nat _ 229 p := allLt_of lp.2 _ m9
  replace mR := up6 _ mR
  replace mF := up6 _ mF
  replace mB := up6 _ mB
  replace mP := up6 _ mP
  replace m9 := up6 _ m9
  replace hRk := fun y hy => (hRk y hy).imp id (up6 y)
  refine' storeCT F9 N9 rfl mP dP' ?_
  intro h10 oP2 TL10 F10 N10 M10 dP2
  have neS : ∀ {y : Addr × Obj}, y ∈ TL9 → (∃ vs n, y.2.data = .seq vs n) → y.1 ≠ s1.heap.objs.size + 1 := fun hy ⟨vs, n, e⟩ => neObj N9 hy mP fun q => by rw [q, dP'] at e; cases e
  have mR2 := M10.old _ mR (neS mR ⟨_, _, rfl⟩)
  have mt2 := M10.old _ mt (neS mt ⟨_, _, rfl⟩)
  have mp2 : (p, op) ∈ TL10 := M10.old _ mp (neObj N9 mp mP fun q => by obtain ⟨es, n, _, e, _⟩ := hop; rw [q, dP'] at e; cases e)
  have mF2 : (s1.heap.objs.size + 1 + 1 + 1, oF) ∈ TL10 := M10.old _ mF (neN (by lia))
  have mB2 : (s1.heap.objs.size + 1 + 1, oB) ∈ TL10 := M10.old _ mB (neN (by lia))
  have m92 : (229, tabObj #[]) ∈ TL10 := M10.old _ m9 (neN (by lia))
  have mP2 := M10.new
  have hRk2 : ∀ y ∈ imR, _ ∨ y ∈ TL10 := fun y hy => (hRk y hy).imp id fun e => M10.old _ e (neS e (hRs y hy))
  clear F9 N9 hT up6 neS M10 mR mt mp mF mB m9 mP hRk hlop fsa hia fia lp l1b mC
  k_sweep
  k_steps
  refine Stop.mk ?_
  rename Fr _ _ _ _ => F11
  rename News _ _ _ _ => N11
  have hall := hCC.all
  refine' books_use F11 N11 ?d1 ?d2 rfl ?d3 ?d4 mp2 hop l9p mR2 m92 (hRI.at fun y hy => (hRk2 y hy).elim (fun e => F11.keep _ _ e) fun e => N11.get e) hCC.ok hall.len ?_
  case d1 => k_asm
  case d2 => k_asm
  case d3 => exact Nat.le_of_ble_eq_true rfl
  case d4 => exact Nat.le_of_ble_eq_true rfl
  intro h12 tk12 b ads vsB TL12 imB F12 N12 up12 hBk hvl hpb him12
  have mR3 := up12 _ mR2 (neK N11 mR2 mp2 dkL (dkDict hop) (by decide)) (neK N11 mR2 m92 dkL dkT (by decide))
  have mt3 := up12 _ mt2 (neK N11 mt2 mp2 dkL (dkDict hop) (by decide)) (neK N11 mt2 m92 dkL dkT (by decide))
  have mF3 := up12 _ mF2 (neK N11 mF2 mp2 (dkCell dF') (dkDict hop) (by decide)) (neN (by lia))
  have mB3 := up12 _ mB2 (neK N11 mB2 mp2 (dkCell dB') (dkDict hop) (by decide)) (neN (by lia))
  have mP3 := up12 _ mP2 (neK N11 mP2 mp2 (dkCell dP2) (dkDict hop) (by decide)) (neN (by lia))
  have hRk3 : ∀ y ∈ imR, _ ∨ y ∈ TL12 := fun y hy => (hRk2 y hy).imp id fun e => up12 _ e (neK N11 e mp2 (dkSeq (hRs y hy)) (dkDict hop) (by decide)) (neK N11 e m92 (dkSeq (hRs y hy)) dkT (by decide))
  obtain ⟨op3, mp3, hP3⟩ := hBk.paths
  obtain ⟨ob3, kv3, mb3, hD3, hk3, hv3⟩ := hBk.hb
  obtain ⟨o93, m93, hT93⟩ := hBk.h9
  obtain ⟨im3, hF3, him3, hsq3⟩ := hBk.flds
  have hI3 : ∀ y ∈ im3, y ∈ TL12 ∧ y.1 ≠ s1.heap.objs.size + 1 + 1 := fun y hy => ⟨(him3 y hy).1, (hsq3 y hy).elim (fun h => (him12 y h _ mB2).symm) fun h => neK N12 (him3 y hy).1 mB3 (dkSeq h) (dkCell dB') (by decide)⟩
  have hI3F : ∀ y ∈ im3, y.1 ≠ s1.heap.objs.size + 1 + 1 + 1 := fun y hy => (hsq3 y hy).elim (fun h => (him12 y h _ mF2).symm) fun h => neK N12 (him3 y hy).1 mF3 (dkSeq h) (dkCell dF') (by decide)
  have hpbn := hBk.dist.1
  have hlen : ∀ q, q < 5 → (rulesAfter (rulesOf cs) (rulesOf cs).length q).length ≤ 14 := fun q hq => by
    have h1 := hvl q
    have h2 := relsIm_len (hBk.rel q hq)
    have h3 := hall.len
    lia
  clear F11 N11 up12 hBk hvl him12 hsq3 mR2 mt2 mF2 mB2 mP2 m92 mp2 hRk2 hop
  k_sweep
  k_steps
  refine Stop.mk ?_
  rename Fr _ _ _ _ => F13
  rename News _ _ _ _ => N13
  refine' storeCT F13 N13 rfl mB3 dB' ?_
  intro h14 oB4 TL14 F14 N14 M14 dB4
  have mR4 := M14.old _ mR3 (neK N13 mR3 mB3 dkL (dkCell dB') (by decide))
  have mt4 := M14.old _ mt3 (neK N13 mt3 mB3 dkL (dkCell dB') (by decide))
  have mF4 : (s1.heap.objs.size + 1 + 1 + 1, oF) ∈ TL14 := M14.old _ mF3 (neN (by lia))
  have mP4 : (s1.heap.objs.size + 1, oP2) ∈ TL14 := M14.old _ mP3 (neN (by lia))
  have mp4 := M14.old _ mp3 (neK N13 mp3 mB3 (dkPaths hP3) (dkCell dB') (by decide))
  have mb4 := M14.old _ mb3 (neK N13 mb3 mB3 (dkDict hD3) (dkCell dB') (by decide))
  have m94 : (229, o93) ∈ TL14 := M14.old _ m93 (neN (by lia))
  have hRk4 : ∀ y ∈ imR, _ ∨ y ∈ TL14 := fun y hy => (hRk3 y hy).imp id fun e => M14.old _ e (neK N13 e mB3 (dkSeq (hRs y hy)) (dkCell dB') (by decide))
  have hI4 : ∀ y ∈ im3, y ∈ TL14 := fun y hy => M14.old _ (hI3 y hy).1 (hI3 y hy).2
  have mB4 := M14.new
  clear F13 N13 M14 hI3 mR3 mt3 mF3 mB3 mP3 m93 mp3 mb3 hRk3
  k_sweep
  k_steps
  refine Stop.mk ?_
  rename Fr _ _ _ _ => F15
  rename News _ _ _ _ => N15
  have hb1 : (b == sysModules) = false := by
    refine beq_eq_false_iff_ne.mpr fun e => ?_
    have h1 : @LT.lt Nat _ p 1 := (e ▸ hpb : @LT.lt Nat _ p sysModules)
    lia
  refine' joined_use F15 N15 ?d1 ?d2 rfl ?d3 ?d4 mp4 mb4 hP3 hD3 hk3 (fun q hq => ⟨_, hv3 q (List.mem_range.mp hq), hF3 q hq⟩) hI4 (fun y hy => (him3 y hy).2) hpbn hb1 (KI2.start hall hlen) hall ?_
  case d1 => k_asm
  case d2 => k_asm
  case d3 => exact Nat.le_of_ble_eq_true rfl
  case d4 => exact Nat.le_of_ble_eq_true rfl
  intro h16 tk16 ta tv n16 TL16 im16 st K xs rs F16 N16 up16 hBJ hKI mT hTs hRd hapart
  have hF16 : ∀ y ∈ im16, y.1 ≠ s1.heap.objs.size + 1 + 1 + 1 := hapart _ _ mF4 (neK N15 mF4 mp4 (dkCell dF') (dkPaths hP3) (by decide)) (neK N15 mF4 mb4 (dkCell dF') (dkDict hD3) (by decide)) fun y hy => (hI3F y hy)
  have hpF : p ≠ s1.heap.objs.size + 1 + 1 + 1 := neK (y := (p, _)) N15 mp4 mF4 (dkPaths hP3) (dkCell dF') (by decide)
  have hbF : b ≠ s1.heap.objs.size + 1 + 1 + 1 := neK (y := (b, _)) N15 mb4 mF4 (dkDict hD3) (dkCell dF') (by decide)
  have mR5 := up16 _ mR4 (neK N15 mR4 mp4 dkL (dkPaths hP3) (by decide)) (neK N15 mR4 mb4 dkL (dkDict hD3) (by decide))
  have mt5 := up16 _ mt4 (neK N15 mt4 mp4 dkL (dkPaths hP3) (by decide)) (neK N15 mt4 mb4 dkL (dkDict hD3) (by decide))
  have mF5 := up16 _ mF4 (neK N15 mF4 mp4 (dkCell dF') (dkPaths hP3) (by decide)) (neK N15 mF4 mb4 (dkCell dF') (dkDict hD3) (by decide))
  have mB5 := up16 _ mB4 (neK N15 mB4 mp4 (dkCell dB4) (dkPaths hP3) (by decide)) (neK N15 mB4 mb4 (dkCell dB4) (dkDict hD3) (by decide))
  have mP5 := up16 _ mP4 (neK N15 mP4 mp4 (dkCell dP2) (dkPaths hP3) (by decide)) (neK N15 mP4 mb4 (dkCell dP2) (dkDict hD3) (by decide))
  have m95 : (229, o93) ∈ TL16 := up16 _ m94 (neN (by lia)) (neN (by lia))
  have hRk5 : ∀ y ∈ imR, _ ∨ y ∈ TL16 := fun y hy => (hRk4 y hy).imp id fun e => up16 _ e (neK N15 e mp4 (dkSeq (hRs y hy)) (dkPaths hP3) (by decide)) (neK N15 e mb4 (dkSeq (hRs y hy)) (dkDict hD3) (by decide))
  clear F15 N15 up16 hI4 hP3 hD3 hk3 hv3 hF3 him3 mR4 mt4 mF4 mB4 mP4 m94 mp4 mb4 hRk4 hlen
  k_sweep
  k_steps
  refine Stop.mk ?_
  rename Fr _ _ _ _ => F17
  rename News _ _ _ _ => N17
  refine' kept_use F17 N17 ?d1 ?d2 rfl ?d3 ?d4 mR5 (hRI.at fun y hy => (hRk5 y hy).elim (fun e => F17.keep _ _ e) fun e => N17.get e) hCC.ok hCC.reach h7 ?_
  case d1 => k_asm
  case d2 => k_asm
  case d3 => exact Nat.le_of_ble_eq_true rfl
  case d4 => exact Nat.le_of_ble_eq_true rfl
  intro h18 tk18 kp vs18 n18 l18 F18 N18 hi18 hs18
  have hl8 := srt_unique hs18 hs8
  subst hl8
  clear F17 N17
  k_sweep
  k_steps
  refine Stop.mk ?_
  rename Fr _ _ _ _ => F19
  rename News _ _ _ _ => N19
  refine' neqT (vs := vs18.toList) (ws := vs8.toList) N19 (.head _) (.tail _ mt5) ⟨rfl, _, by rw [Array.toArray_toList]⟩ ⟨rfl, _, by rw [Array.toArray_toList]⟩ ?u (eqStrs hi18 hi8).1 (eqStrs hi18 hi8).2 ?_
  case u => exact Nat.le_of_ble_eq_true rfl
  k_sweep
  k_steps
  have hGd := (hRd.two hall).1
  have hlt : tv.length < 64 := by
    have h1 := hTs.length
    rw [List.length_map] at h1
    have h2 := good_len hall hGd
    lia
  have hpm := taken_perm hall hRd hs8
  have hl8 : vs8.toList.length = st.2.length := by
    have h1 := hi8.length
    rw [List.length_map, ← hpm.length_eq] at h1
    exact h1
  refine Stop.mk ?_
  rename Fr _ _ _ _ => F20
  rename News _ _ _ _ => N20
  refine' sortedT F20 N20 (.tail _ mT) ⟨rfl, _, rfl⟩ hTs hlt ?_
  intro h21 D21 vs21 ss21 e21 F21 N21 hi21 pm21 so21
  clear F20 N20
  k_sweep
  k_steps
  refine Stop.mk ?_
  rename Fr _ _ _ _ => F22
  rename News _ _ _ _ => N22
  refine' sortedT (vs := vs8.toList) F22 N22 (.tail _ (.tail _ mt5)) ⟨rfl, _, by rw [Array.toArray_toList]⟩ hi8 ?hz ?_
  case hz =>
    have := good_len hall hGd
    lia
  intro h23 D23 vs23 ss23 e23 F23 N23 hi23 pm23 so23
  have hss : ss21 = ss23 := sorted_unique so21 so23 ((pm21.trans (hpm.map roadR)).trans pm23.symm)
  subst hss
  clear F22 N22
  k_sweep
  k_steps
  refine Stop.mk ?_
  rename Fr _ _ _ _ => F24
  rename News _ _ _ _ => N24
  refine' neqT (vs := vs21) (ws := vs23) N24 (.tail _ (.head _)) (.head _) ⟨rfl, _, rfl⟩ ⟨rfl, _, rfl⟩ ?u (eqStrs hi21 hi23).1 (eqStrs hi21 hi23).2 ?_
  case u => exact Nat.le_of_ble_eq_true rfl
  obtain ⟨op6, mp6, hP6⟩ := hBJ.hp
  obtain ⟨ob6, kv6, mb6, hD6, hk6, hF6⟩ := hBJ.hb
  replace N24 := newsSub N24 (news := TL16) fun y hy => .tail _ (.tail _ (.tail _ hy))
  have hKl : kv6.length = K.length := by
    have e := congrArg List.length hk6
    rwa [List.length_map, List.length_map] at e
  have hK5 : kv6.length ≤ 5 := by have := hKI.cnt; lia
  k_sweep
  k_steps
  refine Stop.mk ?_
  rename Fr _ _ _ _ => F25
  rename News _ _ _ _ => N25
  refine' listComp_K F25 ?cl2 ?ce2 ?ki2 ?na2 ?lx2 ?_
  case cl2 => with_unfolding_all rfl
  case ce2 => decide
  case ki2 => rfl
  case na2 => decide
  case lx2 => rfl
  k_steps
  refine Stop.mk ?_
  rename Fr _ _ _ _ => F26
  rename News _ _ _ _ => N26
  refine' csrc_dict (kvs := kv6) (fun i y => y = .bool true) rfl F26 N26 hb1 mb6 hD6 (Nat.le_trans hK5 (Nat.le_of_ble_eq_true rfl)) ?ctu ?cfi
  case ctu =>
    intro g0 i v C oC mm h5 tk5 tl5 E' hi5 hP5 hC5 hx5 hm5 hsub F27 N27
    obtain ⟨kx, yx, tx, hkx, rfl⟩ := hP5
    have hq : ∃ q, K[i]? = some q ∧ kx = fo q := by
      have e : (kv6.map (·.1))[i]? = some kx := by rw [List.getElem?_map, hkx]; rfl
      rw [hk6, List.getElem?_map] at e
      cases hKi : K[i]? with
      | none => rw [hKi] at e; cases e
      | some q => rw [hKi] at e; exact ⟨q, rfl, (Option.some.inj e).symm⟩
    obtain ⟨q, hKi, rfl⟩ := hq
    have hqK := List.mem_of_getElem? hKi
    obtain ⟨e, hve, hfe⟩ := hF6 q hqK
    have hq5 : q < 5 := by obtain ⟨k, hk5, e⟩ := (hKI.mem q).mp hqK; rw [← e]; exact hKI.lt k hk5
    have p27 := hsub _ mp6
    have b27 := hsub _ mb6
    have cb27 := hsub _ mB5
    have cq27 := hsub _ mP5
    have him5 := hBJ.at' F27 N27 hsub
    obtain ⟨d5, u5, l5, t1, t2, t3, t4, n5, m5, us5, vs5, b1, b2, b3, b4, b5, b6⟩ := id hfe
    have hxe := him5 _ b1
    have hxd := him5 _ b2
    (try clear F25); (try clear F26); (try clear N26)
    k_steps
    refine Stop.mk ?_
    rename Fr _ _ _ _ => F28
    rename News _ _ _ _ => N28
    refine' allow_use F28 N28 ?k3 ?k4 rfl ?k6 ?k7 hq5 p27 hP6 (hfe.rules him5 fun y hy => (hBJ.off y hy).1) (fun r hr => hall.ok r ((hKI.rsOk q hqK r).mp hr).1) ?_
    case k3 => k_asm
    case k4 => k_asm
    case k6 => exact Nat.le_of_ble_eq_true rfl
    case k7 => exact Nat.le_of_ble_eq_true rfl
    intro h7 tk7 v7 F7 N7 S7 hv7
    rw [no_cut hall hRd hKI hqK] at hv7
    k_steps
    exact CEnd.mk' F7 N7 (fun p h => h) hv7
  case cfi =>
    intro g0 D27 h5 tk5 ys hyl hY F27 N27 nD
    (try clear F25); (try clear F26); (try clear N26)
    k_sweep
    have hmk2 : Marker2 := trivial
    k_steps
    refine Stop.mk ?_
    refine wpAny_BinOp ?_
    k_steps
    refine Stop.mk ?_
    refine wpAny_BinOp ?_
    k_steps
    refine Stop.mk ?_
    rename Fr _ _ _ _ => F29
    rename News _ _ _ _ => N29
    have hsz8 : vs8.size = st.2.length := by rw [← hl8, Array.length_toList]
    have hcnt := hKI.cnt
    refine' lenL N29 (.tail _ (.tail _ mt5)) ?hz ?_
    case hz => lia
    k_sweep
    k_steps
    refine Stop.mk ?_
    rename Fr _ _ _ _ => F30
    rename News _ _ _ _ => N30
    refine' mulT F30 N30 (.head _) ?lo ?hi ?_
    case lo => lia
    case hi => lia
    intro h31 D31 F31 N31
    (try clear F29); (try clear N29); (try clear F30); (try clear N30)
    k_sweep
    k_steps
    refine Stop.mk ?_
    rename Fr _ _ _ _ => F32
    rename News _ _ _ _ => N32
    refine' neqT (vs := ys) N32 (.tail _ (.tail _ (.head _))) (.head _) ⟨rfl, _, rfl⟩ ⟨rfl, _, rfl⟩ ?u ?l ?eqq ?_
    case u => exact Nat.le_of_ble_eq_true rfl
    case l =>
      rw [hyl, List.length_replicate, hKl]
      lia
    case eqq =>
      intro j x y hx hy A s
      have e1 := hY j x hx
      have e2 := List.eq_of_mem_replicate (List.mem_of_getElem? hy)
      subst e1
      subst e2
      exact SeqAt.EqAt.bool_bool true true
    replace N32 := newsSub N32 (news := TL16) fun y hy => .tail _ (.tail _ (.tail _ hy))
    (try clear F31); (try clear N31)
    k_sweep
    k_steps
    refine Stop.mk ?_
    rename Fr _ _ _ _ => F33
    rename News _ _ _ _ => N33
    refine' for_dict (kvs := kv6) (o := ob6) (fun i m nw => JF _ p b s1.heap.objs.size op6 ob6 oB4 oP2 o93 im16 nw) rfl F33 N33 hb1 mb6 hD6 (fun i m nw H => H.hb) ⟨mp6, mb6, mB5, mP5, m95, ⟨oF, none, mF5, dF'⟩, hBJ.him⟩ ?turn ?done
    case turn =>
      intro i kx x u m1 nw h34 tk34 own PP hkx HJ hown F34 N34 next hbrk hrt
      have hq : ∃ q, K[i]? = some q ∧ kx = fo q := by
        have e : (kv6.map (·.1))[i]? = some kx := by rw [List.getElem?_map, hkx]; rfl
        rw [hk6, List.getElem?_map] at e
        cases hKi : K[i]? with
        | none => rw [hKi] at e; cases e
        | some q => rw [hKi] at e; exact ⟨q, rfl, (Option.some.inj e).symm⟩
      obtain ⟨q, hKi, rfl⟩ := hq
      have hqK := List.mem_of_getElem? hKi
      obtain ⟨e, hve, hfe⟩ := hF6 q hqK
      have hq5 : q < 5 := by obtain ⟨k, hk5, e⟩ := (hKI.mem q).mp hqK; rw [← e]; exact hKI.lt k hk5
      have ho : ∀ z ∈ own, ∀ y ∈ nw, z.1 ≠ y.1 := fun z hz y hy => hown z hz _ (List.mem_map_of_mem hy)
      have hin : ∀ y ∈ nw, y ∈ nw ++ own := fun y hy => List.mem_append_left _ hy
      have hO : ∀ y ∈ own, y ∈ nw ++ own := fun y hy => List.mem_append_right _ hy
      generalize nw ++ own = tl34 at N34 hin hO
      obtain ⟨j1, j2, j3, j4, j5, ⟨oF7, vF7, j6, dF7⟩, j7⟩ := id HJ
      have hHJ := Nx.mk (C := True) fun _ => HJ
      have hnx := Nx.mk (C := True) fun _ => next
      (try clear F33); (try clear N33); (try clear F32); (try clear N32); clear HJ next hbrk hrt
      k_steps
      refine Stop.mk ?_
      rename Fr _ _ _ _ => F35
      rename News _ _ _ _ => N35
      refine' storeCT F35 N35 rfl (hin _ j6) dF7 ?_
      intro h36 oF8 TL36 F36 N36 M36 dF8
      have up : ∀ y ∈ nw, y.1 ≠ s1.heap.objs.size + 1 + 1 + 1 → y ∈ TL36 := fun y hy hn => M36.old _ (hin _ hy) hn
      have p36 := up _ j1 hpF
      have b36 := up _ j2 hbF
      have B36 := up _ j3 (neN (by lia))
      have P36 := up _ j4 (neN (by lia))
      have F36' := M36.new
      have O36 : ∀ y ∈ own, y ∈ TL36 := fun y hy => M36.old _ (hO _ hy) (ho y hy _ j6)
      have i36 : ∀ y ∈ im16, _ ∨ y ∈ TL36 := fun y hy => (j7 y hy).imp id fun e => up _ e (hF16 y hy)
      (try clear F34); (try clear N34); (try clear F35); (try clear N35); clear M36 hin hO j6 j7
      k_sweep
      k_steps
      refine Stop.mk ?_
      rename Fr _ _ _ _ => F37
      rename News _ _ _ _ => N37
      refine' assignTest_K F37 rfl ?sw ?cl ?ce ?ki ?na ?lx ?hy ?hp ?_
      case sw => with_unfolding_all rfl
      case cl => with_unfolding_all rfl
      case ce => decide
      case ki => rfl
      case na => decide
      case lx => rfl
      case hy => rfl
      case hp => rfl
      k_steps
      refine Stop.mk ?_
      rename Fr _ _ _ _ => F38
      rename News _ _ _ _ => N38
      refine' csrcT_str (fun i => st.1 i == q) (fun i y => ∃ u, y = .str (nm i) u) rfl (by decide +kernel) F38 N38 (by decide +kernel) ?ctu ?cfi
      case ctu =>
        intro g1 i8 v8 C oC mm h9 tk9 tl9 E' hi8' hP8 hC8 hx8 hm8 hsub F39 N39
        obtain ⟨u8, rfl⟩ : ∃ u, v8 = .str (nm i8) u := nm_sign hi8' hP8
        have hi8 : i8 < 5 := hi8'
        obtain ⟨pk8, hpD8, hpv8, hpk8⟩ := id hP6
        obtain ⟨hf8, tv8, hvv8⟩ := hpv8 i8 hi8
        obtain ⟨fd1, fd2, fd3⟩ := fo_dir hf8 hi8
        have p40 := hsub _ p36
        have P40 := hsub _ P36
        have F40' := hsub _ F36'
        (try clear F36); (try clear F37); (try clear F38)
        dsimp only
        k_steps
        refine Stop.mk ?_
        rename Fr _ _ _ _ => F43
        rename News _ _ _ _ => N43
        refine' dirname_use F43 N43 ?d1 ?d2 rfl ?d3 ?d4 fd1 ?_
        case d1 => k_asm
        case d2 => k_asm
        case d3 => exact Nat.le_of_ble_eq_true rfl
        case d4 => exact Nat.le_of_ble_eq_true rfl
        intro h45 tk45 t45 F45 N45
        rw [fd2]
        (try clear F43); (try clear N43)
        k_sweep
        k_steps
        · exact fo_beq hf8 hq5
        · exact CEnd.mk' (by k_asm) (by k_asm) (fun p h => h) ⟨_, rfl⟩
        · exact CEnd.mk' (by k_asm) (by k_asm) (fun p h => h) trivial
      case cfi =>
        intro g1 D40 h41 tk41 ys41 hpk F41 N41 nD41
        have hys41 := picked_strs hpk
        generalize hT41 : (_ :: TL36 : List (Addr × Obj)) = TL41 at N41
        have up41 : ∀ y ∈ TL36, y ∈ TL41 := fun y hy => hT41 ▸ .tail _ hy
        have d41 : (D40, W.listOf ys41.toArray ys41.length) ∈ TL41 := hT41 ▸ .head _
        have b41 := up41 _ b36
        have p41 := up41 _ p36
        have B41 := up41 _ B36
        have P41 := up41 _ P36
        have F41' := up41 _ F36'
        have i41 : ∀ y ∈ im16, _ ∨ y ∈ TL41 := fun y hy => (i36 y hy).imp id (up41 y)
        have O41 : ∀ y ∈ own, y ∈ TL41 := fun y hy => up41 y (O36 y hy)
        obtain ⟨d5, u5, l5, t1, t2, t3, t4, n5, m5, us5, vs5, c1, c2, c3, c4, c5, c6⟩ := id hfe
        have hks : us5.length ≤ 9 := by
          rw [c4.length, hKI.xsOk q hqK]
          exact agents_len
        (try clear F37); (try clear N37); (try clear F38); (try clear N38); (try clear F36)
        k_sweep
        k_steps
        refine Stop.mk ?_
        rename Fr _ _ _ _ => F51
        rename News _ _ _ _ => N51
        have hat : ∀ y ∈ im16, _ := fun y hy => (i41 y hy).elim (fun e => F51.keep _ _ e) fun e => N51.get e
        refine' entGet0 (hat _ c1) (hat _ c2) ?hX entD_ua ?hv ?ha ?hh9 ?hg9 ?_
        case hX => exact X1.keeps F51.keep
        case hv => k_handed
        case ha => k_is
        case hh9 => k_is
        case hg9 => k_is
        k_sweep
        k_steps
        refine Stop.mk ?_
        refine wpAny_BinOp ?_
        k_steps
        refine Stop.mk ?_
        rename Fr _ _ _ _ => F53
        rename News _ _ _ _ => N53
        have hy5 : ys41.length ≤ 5 := by
          have hsz5 : (Str.ofString "abcde").cps.size = 5 := by decide
          rw [hys41.length, List.length_map, hsz5]
          exact List.length_filter_le _ (List.range 5)
        refine' lenL N53 (.tail _ d41) ?hz9 ?_
        case hz9 => rw [List.size_toArray]; lia
        have hsz5 : (Str.ofString "abcde").cps.size = 5 := by decide
        rw [hsz5] at hys41
        have hysL : IsStrs ys41 ((Mine.lying st.1 q).map nm) := hys41
        have hag : xs q = netS :: (if ys41.length = 1 then (Mine.lying st.1 q).map nm else []) := by
          have e1 : ys41.length = (Mine.lying st.1 q).length := by rw [hysL.length, List.length_map]
          rw [hKI.xsOk q hqK, e1]
          rfl
        clear hsz5
        k_sweep
        k_steps
        · have hA : ys41.length = 1 := by
            have : ((ys41.toArray.size : Nat) : Int) = 1 := by assumption
            rw [List.size_toArray] at this
            lia
          rw [hag, if_pos hA] at c4
          refine Stop.mk ?_
          rename Fr _ _ _ _ => F55
          rename News _ _ _ _ => N55
          refine' addT (vs := [.str netS _]) (ws := ys41) F55 N55 (.head _) (.tail _ d41) ⟨rfl, _, rfl⟩ ⟨rfl, _, rfl⟩ ?hz7 ?_
          case hz7 => exact Nat.le_trans (Nat.add_le_add (Nat.le_refl 1) hy5) (Nat.le_of_ble_eq_true rfl)
          intro h56 D56 F56 N56 lD56
          k_sweep
          k_steps
          refine Stop.mk ?_
          rename Fr _ _ _ _ => F57
          rename News _ _ _ _ => N57
          have hu5 := (i41 _ c3).elim (fun e => F57.keep _ _ e) fun e => N57.get (.tail _ (.tail _ (e)))
          have hS : ∀ t, IsStrs ([Value.str netS t] ++ ys41) (netS :: (Mine.lying st.1 q).map nm) := fun t => ⟨⟨t, rfl⟩, hysL⟩
          have hEq := fun t => eqStrs c4 (hS t)
          clear hS
          refine' neqH hu5 (N57.get (.head _)) ⟨rfl, _, rfl⟩ ⟨rfl, _, rfl⟩ ?u9 (hEq _).1 (hEq _).2 ?_
          case u9 => exact Nat.le_of_ble_eq_true rfl
          have N57x := newsSub N57 (news := TL41) fun y hy => .tail _ (.tail _ (hy))
          clear N57
          (try clear N56)
          clear hEq hu5 c4 hag hysL hys41 hpk hks
          k_sweep
          k_steps
          rename Fr _ _ _ _ => Fz
          exact hnx.go trivial .next _ _ _ (offOwn own TL36) (.inl rfl) Fz (newsSub (by k_asm) fun y hy => (List.mem_append.mp hy).elim (fun h => up41 _ (mem_offOwn.mp h).1) (O41 y)) ((hHJ.go trivial).off ho up ⟨oF8, _, F36', dF8⟩ hF16 hpF hbF l0) fun y hy => .inr (mem_offOwn.mp hy).2
        · have hB : ¬ ys41.length = 1 := fun h => absurd (by rw [List.size_toArray, h]; rfl : ((ys41.toArray.size : Nat) : Int) = 1) (by assumption)
          rw [hag, if_neg hB] at c4
          refine Stop.mk ?_
          rename Fr _ _ _ _ => F55
          rename News _ _ _ _ => N55
          refine' addT (vs := [.str netS _]) (ws := []) F55 N55 (.tail _ (.head _)) (.head _) ⟨rfl, _, rfl⟩ ⟨rfl, _, rfl⟩ ?hz7 ?_
          case hz7 => exact Nat.le_of_ble_eq_true rfl
          intro h56 D56 F56 N56 lD56
          k_sweep
          k_steps
          refine Stop.mk ?_
          rename Fr _ _ _ _ => F57
          rename News _ _ _ _ => N57
          have hu5 := (i41 _ c3).elim (fun e => F57.keep _ _ e) fun e => N57.get (.tail _ (.tail _ (.tail _ (e))))
          have hS : ∀ t, IsStrs ([Value.str netS t] ++ []) [netS] := fun t => ⟨⟨t, rfl⟩, trivial⟩
          have hEq := fun t => eqStrs c4 (hS t)
          clear hS
          refine' neqH hu5 (N57.get (.head _)) ⟨rfl, _, rfl⟩ ⟨rfl, _, rfl⟩ ?u9 (hEq _).1 (hEq _).2 ?_
          case u9 => exact Nat.le_of_ble_eq_true rfl
          have N57x := newsSub N57 (news := TL41) fun y hy => .tail _ (.tail _ (.tail _ (hy)))
          clear N57
          (try clear N56)
          clear hEq hu5 c4 hag hysL hys41 hpk hks
          k_sweep
          k_steps
          rename Fr _ _ _ _ => Fz
          exact hnx.go trivial .next _ _ _ (offOwn own TL36) (.inl rfl) Fz (newsSub (by k_asm) fun y hy => (List.mem_append.mp hy).elim (fun h => up41 _ (mem_offOwn.mp h).1) (O41 y)) ((hHJ.go trivial).off ho up ⟨oF8, _, F36', dF8⟩ hF16 hpF hbF l0) fun y hy => .inr (mem_offOwn.mp hy).2
    case done =>
      intro m1 nw h34 tk34 HJ F34 N34
      obtain ⟨_, _, _, _, j5, _⟩ := id HJ
      obtain ⟨ps9, e9⟩ : ∃ ps, o93 = tabObj ps := by
        rcases hT93 with h | ⟨c0, oc0, h, _⟩
        · exact ⟨_, h⟩
        · exact ⟨_, h⟩
      rw [e9] at j5
      have hgr : GrownAll [(233, 229)] h34 := ⟨⟨_, N34.get j5⟩, trivial⟩
      clear HJ hmk2 hF6 hD6 hP6 hBJ hKI hRd hTs mp6 mb6 mB5 mP5 m95 mF5 mT mR5 mt5 hRk5 F33 N33 hgr
      k_steps
end Mine

end PLA
end PCommon
theorem PySem.Challenge.cw_il0068_01_holds : PySem.Challenge.rw_il0068_01.Holds :=
  Mine.law_holds
