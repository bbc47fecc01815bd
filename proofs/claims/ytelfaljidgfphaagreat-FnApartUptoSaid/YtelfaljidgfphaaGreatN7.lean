/-
  Declarations of two packages in one: plain; the walk of 'Mixed' (package spec).
-/
import Derived.Test.YtelfaljidgfphaaGreatN3
import Derived.Test.YtelfaljidgfphaaGreatM2
import Derived.Deep.RegionLaw
namespace Go.Proofs.YtelfaljidgfphaaGreat

/-- p's declarations stand in q, in their order; F has the new numbers of p's objects. -/
structure Emb (p q : List It) (F : List Nat) : Prop where
  len : F.length = cnt p
  inc : F.Pairwise (· < ·)
  item : ∀ k, k < p.length → ∃ n, n < q.length ∧ (∀ j, j < (it p k).n → F[start p k + j]? = some (start q n + j)) ∧ it q n = { it p k with refs := (it p k).refs.map fun r => ((F.getD r.toNat 0 : Nat) : Int) }

theorem kind_n {x y : It} (h1 : x.kind = y.kind) (h2 : x.many = y.many) : x.n = y.n := by unfold It.n; rw [h1, h2]
theorem kind_var {x y : It} (h1 : x.kind = y.kind) : x.var = y.var := by unfold It.var; rw [h1]
theorem kind_ini {x y : It} (h1 : x.kind = y.kind) : x.ini = y.ini := by unfold It.ini; rw [h1]

section
variable {p q : List It} {F : List Nat}

theorem Emb.at (h : Emb p q F) {r : Nat} (hr : r < cnt p) : F.getD r 0 < cnt q ∧ own q (F.getD r 0) < q.length ∧ F[r]? = some (F.getD r 0) ∧
    it q (own q (F.getD r 0)) = { it p (own p r) with refs := (it p (own p r)).refs.map fun r => ((F.getD r.toNat 0 : Nat) : Int) } ∧
    F.getD r 0 = start q (own q (F.getD r 0)) + (r - start p (own p r)) ∧ (∀ j, j < (it p (own p r)).n → F[start p (own p r) + j]? = some (start q (own q (F.getD r 0)) + j)) := by
  obtain ⟨h1, h2, h3⟩ := own_spec hr
  obtain ⟨n, h4, h5, h6⟩ := h.item _ h1
  have h7 := h5 (r - start p (own p r)) (by omega)
  rw [show start p (own p r) + (r - start p (own p r)) = r by omega] at h7
  have h8 : F.getD r 0 = start q n + (r - start p (own p r)) := by rw [List.getD_eq_getElem?_getD, h7]; rfl
  have hn : (it q n).n = (it p (own p r)).n := by rw [h6]; rfl
  have h9 := own_start (p := q) h4 (j := r - start p (own p r)) (by omega)
  have h10 := start_lt (p := q) h4 (j := r - start p (own p r)) (by omega)
  rw [← h8] at h9 h10
  rw [h9]
  exact ⟨h10, h4, by rw [h8]; exact h7, h6, h8, h5⟩

theorem Emb.lt (h : Emb p q F) {r s : Nat} (hs : s < cnt p) (hrs : r < s) : F.getD r 0 < F.getD s 0 := by
  have hl := h.len
  have := List.pairwise_iff_getElem.1 h.inc r s (by omega) (by omega) hrs
  rw [List.getD_eq_getElem?_getD, List.getD_eq_getElem?_getD, List.getElem?_eq_getElem (by omega), List.getElem?_eq_getElem (by omega)]
  exact this
theorem Emb.inj (h : Emb p q F) {r s : Nat} (hr : r < cnt p) (hs : s < cnt p) (e : F.getD r 0 = F.getD s 0) : r = s := by
  rcases Nat.lt_trichotomy r s with h1 | h1 | h1
  · have := h.lt hs h1; omega
  · exact h1
  · have := h.lt hr h1; omega
theorem Emb.mem (h : Emb p q F) {s : Nat} : s ∈ F ↔ ∃ r, r < cnt p ∧ F.getD r 0 = s := by
  constructor
  · intro hs
    obtain ⟨r, hr⟩ := List.mem_iff_getElem?.1 hs
    have hl := (List.getElem?_eq_some_iff.1 hr).1
    exact ⟨r, by rw [← h.len]; exact hl, by rw [List.getD_eq_getElem?_getD, hr]; rfl⟩
  · rintro ⟨r, hr, rfl⟩
    exact List.mem_of_getElem? (h.at hr).2.2.1

theorem Emb.kind (h : Emb p q F) {r : Nat} (hr : r < cnt p) : (it q (own q (F.getD r 0))).kind = (it p (own p r)).kind := by rw [(h.at hr).2.2.2.1]
theorem Emb.nn (h : Emb p q F) {r : Nat} (hr : r < cnt p) : (it q (own q (F.getD r 0))).n = (it p (own p r)).n := by rw [(h.at hr).2.2.2.1]; rfl
theorem Emb.ref (h : Emb p q F) (hR : ROk p) {r s : Nat} (hr : r < cnt p) : (s : Int) ∈ (it q (own q (F.getD r 0))).refs ↔ ∃ t : Nat, (t : Int) ∈ (it p (own p r)).refs ∧ t < cnt p ∧ F.getD t 0 = s := by
  rw [(h.at hr).2.2.2.1]
  show (s : Int) ∈ (it p (own p r)).refs.map _ ↔ _
  rw [List.mem_map]
  constructor
  · rintro ⟨x, hx, he⟩
    have := hR _ (it_mem (own_spec hr).1) x hx
    exact ⟨x.toNat, by rw [Int.toNat_of_nonneg this.1]; exact hx, by omega, by omega⟩
  · rintro ⟨t, ht, _, rfl⟩
    exact ⟨t, ht, by rw [Int.toNat_natCast]⟩

theorem Emb.rch (h : Emb p q F) (hR : ROk p) {f : It → Bool} (hf : ∀ x y : It, x.kind = y.kind → f x = f y) {v s : Nat} (hv : v < cnt p) :
    Rch q f (own q (F.getD v 0)) s ↔ ∃ t, Rch p f (own p v) t ∧ t < cnt p ∧ F.getD t 0 = s := by
  have hk := (own_spec hv).1
  constructor
  · intro hs
    induction hs with
    | ref h1 =>
      obtain ⟨t, h2, h3, h4⟩ := (h.ref hR hv).1 h1
      exact ⟨t, .ref h2, h3, h4⟩
    | @step a s _ h2 h3 ih =>
      obtain ⟨t, h4, h5, rfl⟩ := ih
      rw [hf _ _ (h.kind h5)] at h2
      obtain ⟨u, h6, h7, h8⟩ := (h.ref hR h5).1 h3
      exact ⟨u, .step h4 h2 h6, h7, h8⟩
  · rintro ⟨t, ht, htl, rfl⟩
    clear htl
    induction ht with
    | @ref r h1 =>
      have := (Rch.ref (f := f) h1).lt hR hk
      exact .ref ((h.ref hR hv).2 ⟨_, h1, this, rfl⟩)
    | @step a s h1 h2 h3 ih =>
      have h5 := h1.lt hR hk
      have h6 := (Rch.step h1 h2 h3).lt hR hk
      refine .step ih ?_ ((h.ref hR h5).2 ⟨_, h3, h6, rfl⟩)
      rw [hf _ _ (h.kind h5)]
      exact h2

theorem Emb.vn (h : Emb p q F) {v : Nat} (hv : v < cnt p) : Vn q (F.getD v 0) ↔ Vn p v := by
  unfold Vn
  rw [kind_var (h.kind hv)]
  exact ⟨fun h' => ⟨hv, h'.2⟩, fun h' => ⟨(h.at hv).1, h'.2⟩⟩
theorem fFunc_kind : ∀ x y : It, x.kind = y.kind → fFunc x = fFunc y := fun x y h => by unfold fFunc; rw [h]
theorem Emb.need (h : Emb p q F) (hR : ROk p) {v s : Nat} (hv : v < cnt p) : Nn q (F.getD v 0) s ↔ ∃ t, Nn p v t ∧ F.getD t 0 = s := by
  unfold Nn
  rw [h.rch hR fFunc_kind hv]
  constructor
  · rintro ⟨⟨t, h1, h2, rfl⟩, h3, h4⟩
    rw [kind_var (h.kind h2)] at h4
    exact ⟨t, ⟨h1, h2, h4⟩, rfl⟩
  · rintro ⟨t, ⟨h1, h2, h3⟩, rfl⟩
    exact ⟨⟨t, h1, h2, rfl⟩, (h.at h2).1, by rw [kind_var (h.kind h2)]; exact h3⟩
theorem Emb.objs (h : Emb p q F) {r : Nat} (hr : r < cnt p) : objs q (own q (F.getD r 0)) = (objs p (own p r)).map fun t => F.getD t 0 := by
  unfold Go.Proofs.YtelfaljidgfphaaGreat.objs
  rw [h.nn hr]
  obtain ⟨_, _, _, _, _, h6⟩ := h.at hr
  apply List.ext_getElem?
  intro i
  rw [List.getElem?_map]
  by_cases hi : i < (it p (own p r)).n
  · rw [List.getElem?_range' hi, List.getElem?_range' hi]
    have := h6 i hi
    have e : F.getD (start p (own p r) + i) 0 = start q (own q (F.getD r 0)) + i := by rw [List.getD_eq_getElem?_getD, this]; rfl
    simp only [Option.map_some, Nat.one_mul, e]
  · rw [List.getElem?_eq_none (by simp; omega), List.getElem?_eq_none (by simp; omega)]; rfl

/-- The order of p's declarations, in the order of q. -/
theorem Emb.order (h : Emb p q F) (hR : ROk p) (hKq : KOk q) {a c : List (List Nat)} (ha : ∃ L, Gdy (Vn p) (Nn p) L ∧ FullG (Vn p) L ∧ a = emit p L) (hc : ∃ L, Gdy (Vn q) (Nn q) L ∧ FullG (Vn q) L ∧ c = emit q L) :
    c.filter (fun g => F.contains (g.headD 0)) = a.map (fun g => g.map fun t => F.getD t 0) := by
  obtain ⟨A, h1, h2, rfl⟩ := ha
  obtain ⟨L, h3, h4, rfl⟩ := hc
  have hV : ∀ s, (Vn q s ∧ s ∈ F) ↔ ∃ v, Vn p v ∧ F.getD v 0 = s := fun s => by
    rw [h.mem]
    constructor
    · rintro ⟨b1, r, b2, rfl⟩; exact ⟨r, (h.vn b2).1 b1, rfl⟩
    · rintro ⟨v, b1, rfl⟩; exact ⟨(h.vn b1.1).2 b1, v, b1.1, rfl⟩
  have g1 : Gdy (fun s => Vn q s ∧ s ∈ F) (Nn q) (A.map fun t => F.getD t 0) := h1.map (f := fun t => F.getD t 0) (fun u v _ hv huv => h.lt hv.1 huv) hV (fun v s hv => h.need hR hv.1) (fun v s _ hs => ⟨hs.2.1, hs.2.2⟩)
  have f1 : FullG (fun s => Vn q s ∧ s ∈ F) (A.map fun t => F.getD t 0) := fun s hs => by
    obtain ⟨v, b1, rfl⟩ := (hV s).1 hs
    exact List.mem_map.2 ⟨v, h2 v b1, rfl⟩
  have hdec : DecidablePred fun s => Vn q s ∧ s ∈ F := fun _ => Classical.propDecidable _
  have g2 := h3.part (W := fun s => Vn q s ∧ s ∈ F) (fun _ hs => hs.1) (fun v s hv hs => by
    obtain ⟨u, b1, rfl⟩ := (hV v).1 hv
    obtain ⟨t, b2, rfl⟩ := (h.need hR b1.1).1 hs
    exact (hV _).2 ⟨t, ⟨b2.2.1, b2.2.2⟩, rfl⟩)
  have f2 : FullG (fun s => Vn q s ∧ s ∈ F) (L.filter fun s => decide (Vn q s ∧ s ∈ F)) := fun s hs => List.mem_filter.2 ⟨h4 s hs.1, by simpa using hs⟩
  have e1 := g2.unique f2 g1 f1
  have e2 : L.filter (fun s => decide (Vn q s ∧ s ∈ F)) = L.filter (fun s => F.contains s) := List.filter_congr fun s hs => by
    have := h3.mem s hs
    by_cases hF : s ∈ F <;> simp [this, hF]
  rw [e2] at e1
  unfold emit
  rw [List.filter_map]
  have e3 : ((L.filter fun r => (it q (own q r)).ini && (r == start q (own q r))).filter ((fun g => F.contains (g.headD 0)) ∘ fun r => Go.Proofs.YtelfaljidgfphaaGreat.objs q (own q r))) = (L.filter fun s => F.contains s).filter fun r => (it q (own q r)).ini && (r == start q (own q r)) := by
    rw [List.filter_filter, List.filter_filter]
    refine List.filter_congr fun r hr => ?_
    have hn := (n_pos hKq (it_mem (own_spec (h3.mem r hr).1).1)).1
    by_cases hE : ((it q (own q r)).ini && (r == start q (own q r))) = true
    · have hE2 := hE
      simp only [Bool.and_eq_true, beq_iff_eq] at hE2
      simp only [Function.comp]
      obtain ⟨m, hm⟩ : ∃ m, (it q (own q r)).n = m + 1 := ⟨_, (Nat.sub_add_cancel hn).symm⟩
      have : (Go.Proofs.YtelfaljidgfphaaGreat.objs q (own q r)).headD 0 = r := by
        unfold Go.Proofs.YtelfaljidgfphaaGreat.objs
        rw [hm, List.range'_succ]
        exact hE2.2.symm
      rw [this]
      simp [hE]
    · rw [Bool.not_eq_true] at hE
      rw [hE]
      simp
  rw [e3, e1, List.filter_map, List.map_map, List.map_map]
  have e4 : A.filter ((fun r => (it q (own q r)).ini && (r == start q (own q r))) ∘ fun t => F.getD t 0) = A.filter fun r => (it p (own p r)).ini && (r == start p (own p r)) := by
    refine List.filter_congr fun r hr => ?_
    have hv := h1.mem r hr
    obtain ⟨_, _, _, b4, b5, _⟩ := h.at hv.1
    obtain ⟨c1, c2, c3⟩ := own_spec hv.1
    simp only [Function.comp]
    rw [kind_ini (h.kind hv.1)]
    congr 1
    rw [Bool.eq_iff_iff]
    simp only [beq_iff_eq]
    omega
  rw [e4]
  refine List.map_congr_left fun r hr => ?_
  simp only [Function.comp]
  exact h.objs (h1.mem r (List.mem_filter.1 hr).1).1
end

theorem Gdy.idx {V : Nat → Prop} {N : Nat → Nat → Prop} {L : List Nat} (h : Gdy V N L) : ∀ v ∈ L, ∀ s, N v s → s ∈ L ∧ L.idxOf s < L.idxOf v := by
  induction h with
  | nil => simp
  | @snoc L k h1 h2 h3 ih =>
    intro v hv s hs
    rw [List.idxOf_append, List.idxOf_append]
    by_cases hvo : v ∈ L
    · obtain ⟨h4, h5⟩ := ih v hvo s hs
      rw [if_pos h4, if_pos hvo]
      exact ⟨List.mem_append.2 (.inl h4), h5⟩
    · have : v = k := by
        rcases List.mem_append.1 hv with h | h
        · exact absurd h hvo
        · simpa using h
      subst this
      have h4 := h2.2.2 s hs
      rw [if_pos h4, if_neg hvo]
      exact ⟨List.mem_append.2 (.inl h4), by have := List.idxOf_lt_length_of_mem h4; omega⟩

/-- Two packages that fill a third one. -/
structure Two (a b q : List It) (F G : List Nat) : Prop where
  fst : Emb a q F
  snd : Emb b q G
  all : ∀ s, s < cnt q → s ∈ F ∨ s ∈ G
  non : ∀ s, s ∈ F → s ∉ G

section
variable {a b q : List It} {F G : List Nat}
theorem Emb.idx {p : List It} (h : Emb p q F) {r : Nat} (hr : r < cnt p) : F.idxOf (F.getD r 0) = r := by
  have h1 := (h.at hr).2.2.1
  have hm : F.getD r 0 ∈ F := List.mem_of_getElem? h1
  have h2 := List.idxOf_lt_length_of_mem hm
  have h3 : F[F.idxOf (F.getD r 0)]? = some (F.getD r 0) := by rw [List.getElem?_eq_getElem h2, List.getElem_idxOf h2]
  refine h.inj (by rw [← h.len]; exact h2) hr ?_
  rw [List.getD_eq_getElem?_getD (l := F) (i := F.idxOf (F.getD r 0)), h3]
  rfl
theorem Two.acy (h : Two a b q F G) (hRa : ROk a) (hRb : ROk b) (ha : Acy a) (hb : Acy b) : Acy q := by
  obtain ⟨A, a1, a2⟩ := ha
  obtain ⟨B, b1, b2⟩ := hb
  refine Gdy.of_rank (n := cnt q) (fun v hv => hv.1) (fun s => if s ∈ F then A.idxOf (F.idxOf s) else B.idxOf (G.idxOf s)) ?_
  intro v s hv hs
  refine ⟨⟨hs.2.1, hs.2.2⟩, ?_⟩
  rcases h.all v hv.1 with hm | hm
  · obtain ⟨r, hr, rfl⟩ := h.fst.mem.1 hm
    obtain ⟨t, ht, rfl⟩ := (h.fst.need hRa hr).1 hs
    have hm2 : F.getD t 0 ∈ F := h.fst.mem.2 ⟨t, ht.2.1, rfl⟩
    simp only [if_pos hm, if_pos hm2]
    rw [h.fst.idx hr, h.fst.idx ht.2.1]
    exact (a1.idx r (a2 r ((h.fst.vn hr).1 hv)) t ht).2
  · obtain ⟨r, hr, rfl⟩ := h.snd.mem.1 hm
    obtain ⟨t, ht, rfl⟩ := (h.snd.need hRb hr).1 hs
    have hm2 : G.getD t 0 ∈ G := h.snd.mem.2 ⟨t, ht.2.1, rfl⟩
    have n1 : G.getD r 0 ∉ F := fun hc => h.non _ hc hm
    have n2 : G.getD t 0 ∉ F := fun hc => h.non _ hc hm2
    simp only [if_neg n1, if_neg n2]
    rw [h.snd.idx hr, h.snd.idx ht.2.1]
    exact (b1.idx r (b2 r ((h.snd.vn hr).1 hv)) t ht).2

theorem Two.const (h : Two a b q F G) (hRa : ROk a) (hRb : ROk b) (ha : ∀ r, r < cnt a → kindAt a r = 4 → ¬ Rch a fAll (own a r) r) (hb : ∀ r, r < cnt b → kindAt b r = 4 → ¬ Rch b fAll (own b r) r) :
    ∀ r, r < cnt q → kindAt q r = 4 → ¬ Rch q fAll (own q r) r := by
  intro s hs h4 hc
  unfold kindAt at ha hb h4
  rcases h.all s hs with hm | hm
  · obtain ⟨r, hr, rfl⟩ := h.fst.mem.1 hm
    rw [h.fst.kind hr] at h4
    obtain ⟨t, h5, h6, h7⟩ := (h.fst.rch hRa (f := fAll) (fun _ _ _ => rfl) hr).1 hc
    obtain rfl := h.fst.inj h6 hr h7
    exact ha _ hr h4 h5
  · obtain ⟨r, hr, rfl⟩ := h.snd.mem.1 hm
    rw [h.snd.kind hr] at h4
    obtain ⟨t, h5, h6, h7⟩ := (h.snd.rch hRb (f := fAll) (fun _ _ _ => rfl) hr).1 hc
    obtain rfl := h.snd.inj h6 hr h7
    exact hb _ hr h4 h5

/-- How many there are. -/
theorem Two.length (h : Two a b q F G) (hKq : KOk q) {l : List (List Nat)} (hl : ∃ L, Gdy (Vn q) (Nn q) L ∧ FullG (Vn q) L ∧ l = emit q L) : l.length = (l.filter fun g => F.contains (g.headD 0)).length + (l.filter fun g => G.contains (g.headD 0)).length := by
  obtain ⟨L, h1, h2, rfl⟩ := hl
  have key : ∀ l : List (List Nat), (∀ g ∈ l, g.headD 0 < cnt q) → l.length = (l.filter fun g => F.contains (g.headD 0)).length + (l.filter fun g => G.contains (g.headD 0)).length := by
    intro l
    induction l with
    | nil => simp
    | cons g l ih =>
      intro hg
      have ih := ih (fun x hx => hg x (by simp [hx]))
      have h0 := hg g (by simp)
      rcases h.all _ h0 with hm | hm
      · have hn := h.non _ hm
        simp only [List.filter_cons, List.length_cons]
        rw [if_pos (by simpa using hm), if_neg (by simpa using hn)]
        simp only [List.length_cons]
        omega
      · have hn : g.headD 0 ∉ F := fun hc => h.non _ hc hm
        simp only [List.filter_cons, List.length_cons]
        rw [if_neg (by simpa using hn), if_pos (by simpa using hm)]
        simp only [List.length_cons]
        omega
  refine key _ fun g hg => ?_
  unfold emit at hg
  obtain ⟨r, hr, rfl⟩ := List.mem_map.1 hg
  obtain ⟨h3, h4⟩ := List.mem_filter.1 hr
  have h5 := (h1.mem r h3).1
  have hn := (n_pos hKq (it_mem (own_spec h5).1)).1
  obtain ⟨m, hm⟩ : ∃ m, (it q (own q r)).n = m + 1 := ⟨_, (Nat.sub_add_cancel hn).symm⟩
  unfold Go.Proofs.YtelfaljidgfphaaGreat.objs
  rw [hm, List.range'_succ]
  simp only [Bool.and_eq_true, beq_iff_eq] at h4
  show start q (own q r) < cnt q
  omega
end

/-! ### The two packages as 'Mixed' lays them -/
/-- Does a flag name the first package at a step? -/
def oneF (fl : List Bool) (n : Nat) : Bool := decide (0 < fl.length) && fl.getD (n % fl.length) false
/-- How many declarations of the first package there are among the first n ones. -/
def Tn (la lb : Nat) (fl : List Bool) : Nat → Nat
  | 0 => 0
  | n + 1 => Tn la lb fl n + if (Tn la lb fl n == la || (!oneF fl n && decide (n - Tn la lb fl n < lb))) then 0 else 1
/-- Is the n-th one of the first package? -/
def pk (la lb : Nat) (fl : List Bool) (n : Nat) : Bool := !(Tn la lb fl n == la || (!oneF fl n && decide (n - Tn la lb fl n < lb)))

section
variable {la lb : Nat} {fl : List Bool}
theorem Tn_true {n : Nat} (h : pk la lb fl n = true) : Tn la lb fl (n + 1) = Tn la lb fl n + 1 := by
  unfold pk at h
  rw [Bool.not_eq_true'] at h
  show Tn la lb fl n + _ = _
  rw [h]
  rfl
theorem Tn_false {n : Nat} (h : pk la lb fl n = false) : Tn la lb fl (n + 1) = Tn la lb fl n := by
  unfold pk at h
  rw [Bool.not_eq_false'] at h
  show Tn la lb fl n + _ = _
  rw [h]
  rfl
theorem pk_true {n : Nat} (h : pk la lb fl n = true) : Tn la lb fl n ≠ la := by
  unfold pk at h
  simp at h
  exact h.1
theorem pk_false {n : Nat} (h : pk la lb fl n = false) : Tn la lb fl n = la ∨ n - Tn la lb fl n < lb := by
  unfold pk at h
  simp at h
  by_cases e : Tn la lb fl n = la
  · exact .inl e
  · exact .inr (h e).2
theorem Tn_bound : ∀ n, n ≤ la + lb → Tn la lb fl n ≤ n ∧ Tn la lb fl n ≤ la ∧ n - Tn la lb fl n ≤ lb
  | 0, _ => by simp [Tn]
  | n + 1, hn => by
    obtain ⟨h1, h2, h3⟩ := Tn_bound n (by omega)
    cases hp : pk la lb fl n
    · rw [Tn_false hp]
      have := pk_false hp
      omega
    · rw [Tn_true hp]
      have := pk_true hp
      omega
theorem Tn_end : Tn la lb fl (la + lb) = la := by
  have := Tn_bound (la := la) (lb := lb) (fl := fl) (la + lb) (Nat.le_refl _)
  omega
theorem Tn_hit : ∀ n k, k < Tn la lb fl n → ∃ m, m < n ∧ pk la lb fl m = true ∧ Tn la lb fl m = k
  | 0, k, h => by simp [Tn] at h
  | n + 1, k, h => by
    cases hp : pk la lb fl n
    · rw [Tn_false hp] at h
      obtain ⟨m, h1, h2⟩ := Tn_hit n k h
      exact ⟨m, by omega, h2⟩
    · rw [Tn_true hp] at h
      by_cases e : k = Tn la lb fl n
      · exact ⟨n, by omega, hp, e.symm⟩
      · obtain ⟨m, h1, h2⟩ := Tn_hit n k (by omega)
        exact ⟨m, by omega, h2⟩
theorem Tn_miss : ∀ n k, n ≤ la + lb → k < n - Tn la lb fl n → ∃ m, m < n ∧ pk la lb fl m = false ∧ m - Tn la lb fl m = k
  | 0, k, _, h => by simp at h
  | n + 1, k, hn, h => by
    have hb := Tn_bound (la := la) (lb := lb) (fl := fl) n (by omega)
    cases hp : pk la lb fl n
    · rw [Tn_false hp] at h
      by_cases e : k = n - Tn la lb fl n
      · exact ⟨n, by omega, hp, e.symm⟩
      · obtain ⟨m, h1, h2⟩ := Tn_miss n k (by omega) (by omega)
        exact ⟨m, by omega, h2⟩
    · rw [Tn_true hp] at h
      obtain ⟨m, h1, h2⟩ := Tn_miss n k (by omega) (by omega)
      exact ⟨m, by omega, h2⟩
end

/-- The declarations, with their old references. -/
def mixIt (a b : List It) (fl : List Bool) (n : Nat) : It := if pk a.length b.length fl n then it a (Tn a.length b.length fl n) else it b (n - Tn a.length b.length fl n)
def mixTo (a b : List It) (fl : List Bool) (n : Nat) : List It := (List.range n).map (mixIt a b fl)
def mix0 (a b : List It) (fl : List Bool) : List It := mixTo a b fl (a.length + b.length)
/-- The new numbers of the objects of those declarations of which P holds, among the first n declarations. -/
def numTo (q : List It) (P : Nat → Bool) (n : Nat) : List Nat := (List.range (start q n)).filter fun s => P (own q s)

theorem range_split (a b : Nat) : List.range (a + b) = List.range a ++ List.range' a b := by
  rw [List.range_eq_range', List.range_eq_range', ← List.range'_append]
  simp

section
variable {q : List It} {P : Nat → Bool}
theorem numTo_zero : numTo q P 0 = [] := by unfold numTo; rw [start_zero]; rfl
theorem numTo_succ {n : Nat} (hn : n < q.length) : numTo q P (n + 1) = numTo q P n ++ if P n then objs q n else [] := by
  unfold numTo
  rw [start_succ (it_get hn), range_split, List.filter_append]
  congr 1
  have hown : ∀ s ∈ List.range' (start q n) (it q n).n, own q s = n := fun s hs => by
    have h1 := List.mem_range'_1.1 hs
    have h2 := own_start (p := q) hn (j := s - start q n) (by omega)
    rwa [show start q n + (s - start q n) = s by omega] at h2
  cases hp : P n
  · rw [List.filter_eq_nil_iff.2 (fun s hs => by rw [hown s hs, hp]; simp)]
    simp
  · rw [List.filter_eq_self.2 (fun s hs => by rw [hown s hs, hp])]
    rfl
theorem numTo_more : ∀ {m : Nat}, m ≤ q.length → ∀ {n : Nat}, n ≤ m → ∃ R, numTo q P m = numTo q P n ++ R
  | 0, _, n, h => ⟨[], by rw [show n = 0 by omega]; simp⟩
  | m + 1, hm, n, h => by
    by_cases e : n = m + 1
    · subst e; exact ⟨[], by simp⟩
    · obtain ⟨R, hR⟩ := numTo_more (m := m) (by omega) (n := n) (by omega)
      exact ⟨R ++ if P m then objs q m else [], by rw [numTo_succ (by omega), hR, List.append_assoc]⟩
theorem numTo_at {n : Nat} (hn : n < q.length) (hp : P n = true) {j : Nat} (hj : j < (it q n).n) : (numTo q P q.length)[(numTo q P n).length + j]? = some (start q n + j) := by
  obtain ⟨R, hR⟩ := numTo_more (P := P) (Nat.le_refl q.length) (n := n + 1) (by omega)
  have hl : (objs q n).length = (it q n).n := objs_length q n
  rw [hR, numTo_succ hn, hp, if_pos rfl, List.append_assoc, List.getElem?_append_right (by omega), Nat.add_sub_cancel_left, List.getElem?_append_left (by omega)]
  unfold objs
  rw [List.getElem?_range' hj, Nat.one_mul]
theorem numTo_mem {s : Nat} : s ∈ numTo q P q.length ↔ s < cnt q ∧ P (own q s) = true := by
  unfold numTo
  rw [start_length, List.mem_filter, List.mem_range]
theorem numTo_inc (n : Nat) : (numTo q P n).Pairwise (· < ·) := List.pairwise_lt_range.filter _
end

section
variable {a b : List It} {fl : List Bool}
theorem mix0_length (a b : List It) (fl : List Bool) : (mix0 a b fl).length = a.length + b.length := by simp [mix0, mixTo]
theorem mixTo_succ (n : Nat) : mixTo a b fl (n + 1) = mixTo a b fl n ++ [mixIt a b fl n] := by
  unfold mixTo
  rw [List.range_succ, List.map_append]
  rfl
theorem it_mix0 {n : Nat} (hn : n < a.length + b.length) : it (mix0 a b fl) n = mixIt a b fl n := by
  apply it_of
  unfold mix0 mixTo
  rw [List.getElem?_map, List.getElem?_range hn]
  rfl
theorem mix0_take {n : Nat} (hn : n ≤ a.length + b.length) : (mix0 a b fl).take n = mixTo a b fl n := by
  unfold mix0 mixTo
  rw [← List.map_take, List.take_range, Nat.min_eq_left hn]
theorem mixIt_mem {n : Nat} (hn : n < a.length + b.length) : mixIt a b fl n ∈ a ∨ mixIt a b fl n ∈ b := by
  have h1 := Tn_bound (la := a.length) (lb := b.length) (fl := fl) n (by omega)
  unfold mixIt
  cases hp : pk a.length b.length fl n
  · have := pk_false hp
    exact .inr (it_mem (by omega))
  · have := pk_true hp
    exact .inl (it_mem (by omega))
theorem mix0_mem {x : It} (hx : x ∈ mix0 a b fl) : x ∈ a ∨ x ∈ b := by
  obtain ⟨n, hn, rfl⟩ := List.mem_map.1 (show x ∈ (List.range (a.length + b.length)).map _ from hx)
  exact mixIt_mem (List.mem_range.1 hn)
theorem mix0_start : ∀ n, n ≤ a.length + b.length → start (mix0 a b fl) n = start a (Tn a.length b.length fl n) + start b (n - Tn a.length b.length fl n) ∧
    (numTo (mix0 a b fl) (pk a.length b.length fl) n).length = start a (Tn a.length b.length fl n) ∧ (numTo (mix0 a b fl) (fun n => !pk a.length b.length fl n) n).length = start b (n - Tn a.length b.length fl n)
  | 0, _ => by simp [start_zero, Tn, numTo_zero]
  | n + 1, hn => by
    obtain ⟨h1, h2, h3⟩ := mix0_start n (by omega)
    have hb := Tn_bound (la := a.length) (lb := b.length) (fl := fl) n (by omega)
    have hl := mix0_length a b fl
    rw [start_succ (it_get (by omega)), it_mix0 (by omega), numTo_succ (by omega), numTo_succ (by omega), List.length_append, List.length_append, h1, h2, h3]
    unfold mixIt
    cases hp : pk a.length b.length fl n
    · have hf := pk_false hp
      rw [Tn_false hp, show n + 1 - Tn a.length b.length fl n = (n - Tn a.length b.length fl n) + 1 by omega, start_succ (p := b) (it_get (by omega))]
      simp only [Bool.false_eq_true, if_false, Bool.not_false, if_true, List.length_nil]
      rw [objs_length, it_mix0 (by omega)]
      unfold mixIt
      rw [hp]
      simp only [Bool.false_eq_true, if_false]
      exact ⟨Nat.add_assoc _ _ _, rfl, trivial⟩
    · have hf := pk_true hp
      rw [Tn_true hp, show n + 1 - (Tn a.length b.length fl n + 1) = n - Tn a.length b.length fl n by omega, start_succ (p := a) (it_get (by omega))]
      simp only [Bool.not_true, Bool.false_eq_true, if_false, if_true, List.length_nil]
      rw [objs_length, it_mix0 (by omega)]
      unfold mixIt
      rw [hp]
      simp only [if_true]
      exact ⟨Nat.add_right_comm _ _ _, trivial, rfl⟩

/-- The new numbers of the first package's objects, and of the second one's. -/
def fstN (a b : List It) (fl : List Bool) : List Nat := numTo (mix0 a b fl) (pk a.length b.length fl) (mix0 a b fl).length
def sndN (a b : List It) (fl : List Bool) : List Nat := numTo (mix0 a b fl) (fun n => !pk a.length b.length fl n) (mix0 a b fl).length
/-- The new references. -/
def mixF (a b : List It) (fl : List Bool) (n : Nat) : List Int := (mixIt a b fl n).refs.map fun r => (((if pk a.length b.length fl n then fstN a b fl else sndN a b fl).getD r.toNat 0 : Nat) : Int)
def mixed (a b : List It) (fl : List Bool) : List It := newTo (mix0 a b fl) (mixF a b fl) (mix0 a b fl).length

theorem mixed_same (a b : List It) (fl : List Bool) : Same (mix0 a b fl) (mixed a b fl) := newTo_same _ _ _
theorem mixed_length (a b : List It) (fl : List Bool) : (mixed a b fl).length = a.length + b.length := by rw [(mixed_same a b fl).len, mix0_length]
theorem it_mixed {n : Nat} (hn : n < a.length + b.length) : it (mixed a b fl) n = { mixIt a b fl n with refs := mixF a b fl n } := by
  unfold mixed
  rw [it_newTo (by rw [mix0_length]; exact hn), if_pos (by rw [mix0_length]; exact hn), it_mix0 hn]

theorem mixed_two (a b : List It) (fl : List Bool) : Two a b (mixed a b fl) (fstN a b fl) (sndN a b fl) := by
  have hS := mixed_same a b fl
  have hl := mix0_length a b fl
  have hend := mix0_start (a := a) (b := b) (fl := fl) (a.length + b.length) (Nat.le_refl _)
  rw [Tn_end, Nat.add_sub_cancel_left, start_length, start_length] at hend
  refine ⟨⟨?_, numTo_inc _, fun k hk => ?_⟩, ⟨?_, numTo_inc _, fun k hk => ?_⟩, fun s hs => ?_, fun s h1 h2 => ?_⟩
  · unfold fstN; rw [hl]; exact hend.2.1
  · obtain ⟨n, h1, h2, h3⟩ := Tn_hit (la := a.length) (lb := b.length) (fl := fl) (a.length + b.length) k (by rw [Tn_end]; exact hk)
    have hit : mixIt a b fl n = it a k := by unfold mixIt; rw [h2, if_pos rfl, h3]
    refine ⟨n, by rw [mixed_length]; exact h1, fun j hj => ?_, ?_⟩
    · rw [hS.start]
      have := numTo_at (q := mix0 a b fl) (P := pk a.length b.length fl) (n := n) (by omega) h2 (j := j) (by rw [it_mix0 h1, hit]; exact hj)
      rw [(mix0_start n (by omega)).2.1, h3] at this
      exact this
    · rw [it_mixed h1, hit]
      unfold mixF
      rw [hit, h2]
      rfl
  · unfold sndN; rw [hl]; exact hend.2.2
  · obtain ⟨n, h1, h2, h3⟩ := Tn_miss (la := a.length) (lb := b.length) (fl := fl) (a.length + b.length) k (Nat.le_refl _) (by rw [Tn_end]; omega)
    have hit : mixIt a b fl n = it b k := by unfold mixIt; rw [h2, if_neg (by simp), h3]
    refine ⟨n, by rw [mixed_length]; exact h1, fun j hj => ?_, ?_⟩
    · rw [hS.start]
      have := numTo_at (q := mix0 a b fl) (P := fun n => !pk a.length b.length fl n) (n := n) (by omega) (by simp [h2]) (j := j) (by rw [it_mix0 h1, hit]; exact hj)
      rw [(mix0_start n (by omega)).2.2, h3] at this
      exact this
    · rw [it_mixed h1, hit]
      unfold mixF
      rw [hit, h2]
      rfl
  · rw [hS.cnt] at hs
    cases hp : pk a.length b.length fl (own (mix0 a b fl) s)
    · exact .inr (numTo_mem.2 ⟨hs, by simp [hp]⟩)
    · exact .inl (numTo_mem.2 ⟨hs, hp⟩)
  · have h3 := (numTo_mem.1 h1).2
    have h4 := (numTo_mem.1 h2).2
    simp [h3] at h4

theorem mixed_kok (ha : KOk a) (hb : KOk b) : KOk (mixed a b fl) := by
  intro x hx
  obtain ⟨n, hn⟩ := List.mem_iff_getElem?.1 hx
  have hnl := (List.getElem?_eq_some_iff.1 hn).1
  rw [mixed_length] at hnl
  have e := it_of hn
  rw [it_mixed hnl] at e
  subst e
  have hk : 0 ≤ (mixIt a b fl n).kind ∧ (mixIt a b fl n).kind < 5 ∧ ((mixIt a b fl n).kind = 1 → 2 ≤ (mixIt a b fl n).many ∧ (mixIt a b fl n).many ≤ 100) ∧ ((mixIt a b fl n).kind ≠ 1 → (mixIt a b fl n).many = 0) ∧ ((mixIt a b fl n).kind = 2 → (mixIt a b fl n).refs = []) := by
    rcases mixIt_mem (fl := fl) hnl with h | h
    · exact ha _ h
    · exact hb _ h
  obtain ⟨h1, h2, h3, h4, h5⟩ := hk
  exact ⟨h1, h2, h3, h4, fun h6 => by show mixF a b fl n = []; unfold mixF; rw [h5 h6]; rfl⟩

theorem mixed_ok (hA : Ok a) (hB : Ok b) (hla : a.length ≤ 1048576) (hlb : b.length ≤ 1048576) : Ok (mixed a b fl) := by
  have hT := mixed_two a b fl
  have hE : ∀ n, n < a.length + b.length → ∀ x ∈ mixF a b fl n, 0 ≤ x ∧ x < (cnt (mixed a b fl) : Int) := fun n hn x hx => by
    have hb := Tn_bound (la := a.length) (lb := b.length) (fl := fl) n (by omega)
    unfold mixF at hx
    obtain ⟨r, hr, rfl⟩ := List.mem_map.1 hx
    unfold mixIt at hr
    cases hp : pk a.length b.length fl n
    · have hf := pk_false hp
      simp only [hp, Bool.false_eq_true, if_false] at hr ⊢
      have h1 := hB.refs _ (it_mem (by omega)) r hr
      have := (hT.snd.at (r := r.toNat) (by omega)).1
      omega
    · have hf := pk_true hp
      simp only [hp, if_true] at hr ⊢
      have h1 := hA.refs _ (it_mem (by omega)) r hr
      have := (hT.fst.at (r := r.toNat) (by omega)).1
      omega
  refine ⟨by rw [mixed_length]; omega, mixed_kok hA.kinds hB.kinds, fun x hx r hr => ?_, fun k hk => ?_, hT.const hA.refs hB.refs hA.const hB.const, hT.acy hA.refs hB.refs hA.acy hB.acy⟩
  · obtain ⟨n, hn⟩ := List.mem_iff_getElem?.1 hx
    have hnl := (List.getElem?_eq_some_iff.1 hn).1
    rw [mixed_length] at hnl
    have e := it_of hn
    rw [it_mixed hnl] at e
    subst e
    exact hE n hnl r hr
  · rw [mixed_length] at hk
    rw [it_mixed hk]
    show (mixF a b fl k).length ≤ _
    unfold mixF
    rw [List.length_map]
    have hb := Tn_bound (la := a.length) (lb := b.length) (fl := fl) k (by omega)
    unfold mixIt
    cases hp : pk a.length b.length fl k
    · have hf := pk_false hp
      exact hB.wt _ (by omega)
    · have hf := pk_true hp
      exact hA.wt _ (by omega)
end

open Go.RowKit

theorem elem4 : ElemOk Tryz.prog 4 (.bool false) 1 1 := ElemOk.mk' info4 rfl (by decide)

/-- Declarations that are laid one by one, whose references lie in what was there ahead. -/
def MIts (w : World) (B : Nat) (v : Value) (l : List It) : Prop :=
  ∃ vs : List Value, vs.length = l.length ∧ Own w (fun b => B ≤ b) 47 3 v l.length (itCells l vs) ∧ ∀ (i : Nat) (x : It) (u : Value), l[i]? = some x → vs[i]? = some u → Ints w (fun b => b < B) u x.refs

/-- What 'Mixed' has laid. -/
structure MixSt (w : World) (B : Nat) (v6 v7 v8 v12 : Value) (l : List It) (F G : List Nat) (fs : List Bool) : Prop where
  out : MIts w B v6 l
  fst : Own w (fun b => B ≤ b) 3 1 v7 F.length ((ints F).map intV)
  snd : Own w (fun b => B ≤ b) 3 1 v8 G.length ((ints G).map intV)
  frm : Own w (fun b => B ≤ b) 4 1 v12 fs.length (fs.map Value.bool)
  non : ∀ k, v7.ownBlock = some k → v8.ownBlock ≠ some k

section
variable {w w' : World} {B : Nat} {v6 v7 v8 v12 : Value} {l : List It} {F G : List Nat} {fs : List Bool}

theorem MIts.fr {S : Nat → Prop} (h : MIts w B v6 l) (hf : Fr S w w') (hS : ∀ b, S b → B ≤ b) (hv : ∀ b, v6.ownBlock = some b → ¬ S b) : MIts w' B v6 l := by
  obtain ⟨vs, h1, h2, h3⟩ := h
  exact ⟨vs, h1, h2.fr hf hv, fun i x u hx hu => (h3 i x u hx hu).fr hf (fun b hb hs => by have := hS b hs; omega)⟩
theorem MIts.own (h : MIts w B v6 l) : OwnIts w B 47 v6 l := by
  obtain ⟨vs, h1, h2, h3⟩ := h
  exact ⟨vs, h1, h2, fun i x u hx hu => (h3 i x u hx hu).mono (fun b _ hb e => by have := (h2.blk b e).1; omega)⟩

/-- Rows of two types are two rows. -/
theorem row_ne {e e' sz sz' n n' : Nat} {ok ok' : Nat → Prop} {v v' : Value} {cs cs' : List Value} (h : Own w ok e sz v n cs) (h' : Own w ok' e' sz' v' n' cs') (he : e ≠ e') {b : Nat} (hb : v.ownBlock = some b) : ¬ v'.ownBlock = some b := fun hb' => by
  obtain ⟨c, hc⟩ := h.row hb
  obtain ⟨c', hc'⟩ := h'.row hb'
  exact ne_cells hc hc' he rfl

theorem MixSt.nil (w : World) : MixSt w w.heap.size (.slice none 0 0) (.slice none 0 0) (.slice none 0 0) (.slice none 0 0) [] [] [] [] :=
  ⟨⟨[], rfl, Own.nil _ _ _ _, fun i x u h => by simp at h⟩, Own.nil _ _ _ _, Own.nil _ _ _ _, Own.nil _ _ _ _, fun k hk => by simp [Value.ownBlock] at hk⟩

theorem MixSt.gr (h : MixSt w B v6 v7 v8 v12 l F G fs) (hg : Gr w w') : MixSt w' B v6 v7 v8 v12 l F G fs :=
  ⟨h.out.fr hg (fun _ hf => hf.elim) (fun _ _ => id), h.fst.gr hg, h.snd.gr hg, h.frm.gr hg, h.non⟩

/-- One declaration more, and whence it comes. -/
theorem MixSt.item (h : MixSt w B v6 v7 v8 v12 l F G fs) (hB : B ≤ w.heap.size) {x : It} {A : Option Addr} {c : Nat} (hx : Ints w (fun b => b < B) (.slice A x.refs.length c) x.refs) (one : Bool) (hl : l.length ≤ 2097152) (hfl : fs.length ≤ 2097152) :
    ∃ v6' v12' w1 w2, Hid ((Builtin.append_ #[26, 26] 26 #[v6, .slice (some ⟨w.heap.size, 0, none⟩) 1 1]).run Tryz.prog (w.alloc (.cells #[.int .i64 x.kind, .int .i64 x.many, .slice A x.refs.length c] 47)) = .ok v6' w1) ∧
      Hid ((Builtin.append_ #[23, 23] 23 #[v12, .slice (some ⟨w1.heap.size, 0, none⟩) 1 1]).run Tryz.prog (w1.alloc (.cells #[.bool one] 4)) = .ok v12' w2) ∧
      Hid (MixSt w2 B v6' v7 v8 v12' (l ++ [x]) F G (fs ++ [one])) ∧ Fr (fun b => B ≤ b) w w2 := by
  obtain ⟨⟨vs, h1, h2, h3⟩, hF, hG, hR, hN⟩ := h
  obtain ⟨v6', w1, Hr1, ho1, hf1, hf1', hb1, -⟩ := app3 (P := Tryz.prog) (t := 26) (ty := 26) elem47 Tryz.underlying26 h2 (.int .i64 x.kind) (.int .i64 x.many) (.slice A x.refs.length c) rfl rfl rfl hB (by omega) (by omega)
  have hF1 := hF.fr hf1 (fun b hb => row_ne hF h2 (by decide) hb)
  have hG1 := hG.fr hf1 (fun b hb => row_ne hG h2 (by decide) hb)
  have hR1 := hR.fr hf1 (fun b hb => row_ne hR h2 (by decide) hb)
  have hB1 := Nat.le_trans hB hf1.size
  obtain ⟨v12', w2, Hr2, ho2, hf2, hf2', hb2, -⟩ := app1 (P := Tryz.prog) (t := 23) (ty := 23) elem4 Tryz.underlying23 hR1 (.bool one) rfl hB1 (by omega) (by omega)
  have ho1' := ho1.fr hf2 (fun b hb => row_ne ho1 hR1 (by decide) hb)
  have hF2 := hF1.fr hf2 (fun b hb => row_ne hF1 hR1 (by decide) hb)
  have hG2 := hG1.fr hf2 (fun b hb => row_ne hG1 hR1 (by decide) hb)
  refine ⟨v6', v12', w1, w2, Hr1, Hr2, Lib.hid ⟨⟨vs ++ [.slice A x.refs.length c], by simp [h1], by rw [itCells_snoc _ _ _ _ h1]; simpa [intV] using ho1', ?_⟩, hF2, hG2, by simpa using ho2, hN⟩, hf1'.trans hf2'⟩
  refine ptw_snoc (R := fun (y : It) z => Ints w2 (fun b => b < B) z y.refs) h1 (fun i y z hy hz => ?_) ?_
  · exact ((h3 i y z hy hz).fr hf1' (fun b hb => by omega)).fr hf2' (fun b hb => by omega)
  · exact (hx.fr hf1' (fun b hb => by omega)).fr hf2' (fun b hb => by omega)

/-- One number more of the first package's objects. -/
theorem MixSt.toFst (h : MixSt w B v6 v7 v8 v12 l F G fs) (hB : B ≤ w.heap.size) (s : Nat) (hl : F.length ≤ 1099511627776) :
    ∃ v7' w', Hid ((Builtin.append_ #[29, 29] 29 #[v7, .slice (some ⟨w.heap.size, 0, none⟩) 1 1]).run Tryz.prog (w.alloc (.cells #[.int .i64 (s : Int)] 3)) = .ok v7' w') ∧
      Hid (MixSt w' B v6 v7' v8 v12 l (F ++ [s]) G fs) ∧ Fr (fun b => B ≤ b) w w' := by
  obtain ⟨⟨vs, h1, h2, h3⟩, hF, hG, hR, hN⟩ := h
  obtain ⟨v', w', Hr, ho, hf, hf', hb, -⟩ := app1 (P := Tryz.prog) (t := 29) (ty := 29) elem3 Tryz.underlying29 hF (.int .i64 (s : Int)) rfl hB hl (by omega)
  refine ⟨v', w', Hr, Lib.hid ⟨⟨vs, h1, h2.fr hf (fun b hb => row_ne h2 hF (by decide) hb), fun i x u hx hu => (h3 i x u hx hu).fr hf' (fun b hb => by omega)⟩, by rw [intsV_snoc]; simpa using ho, hG.fr hf (fun b hb e => hN b e hb), hR.fr hf (fun b hb => row_ne hR hF (by decide) hb), fun k hk e => ?_⟩, hf'⟩
  rcases hb k hk with h4 | h4
  · exact hN k h4 e
  · have := (hG.blk k e).2; omega
/-- One number more of the second package's objects. -/
theorem MixSt.toSnd (h : MixSt w B v6 v7 v8 v12 l F G fs) (hB : B ≤ w.heap.size) (s : Nat) (hl : G.length ≤ 1099511627776) :
    ∃ v8' w', Hid ((Builtin.append_ #[29, 29] 29 #[v8, .slice (some ⟨w.heap.size, 0, none⟩) 1 1]).run Tryz.prog (w.alloc (.cells #[.int .i64 (s : Int)] 3)) = .ok v8' w') ∧
      Hid (MixSt w' B v6 v7 v8' v12 l F (G ++ [s]) fs) ∧ Fr (fun b => B ≤ b) w w' := by
  obtain ⟨⟨vs, h1, h2, h3⟩, hF, hG, hR, hN⟩ := h
  obtain ⟨v', w', Hr, ho, hf, hf', hb, -⟩ := app1 (P := Tryz.prog) (t := 29) (ty := 29) elem3 Tryz.underlying29 hG (.int .i64 (s : Int)) rfl hB hl (by omega)
  refine ⟨v', w', Hr, Lib.hid ⟨⟨vs, h1, h2.fr hf (fun b hb => row_ne h2 hG (by decide) hb), fun i x u hx hu => (h3 i x u hx hu).fr hf' (fun b hb => by omega)⟩, hF.fr hf (fun b hb e => hN b hb e), by rw [intsV_snoc]; simpa using ho, hR.fr hf (fun b hb => row_ne hR hG (by decide) hb), fun k hk e => ?_⟩, hf'⟩
  rcases hb k e with h4 | h4
  · exact hN k hk h4
  · have := (hF.blk k hk).2; omega
end

theorem Fr.into {S S' : Nat → Prop} {a w w' : World} (h : Fr S a w) (k : Fr S' w w') (hs : ∀ b, b < a.heap.size → S' b → S b) : Fr S a w' :=
  ⟨k.os.trans h.os, k.tape.trans h.tape, k.output.trans h.output, Nat.le_trans h.size k.size, fun i hi hn =>
    (k.block i (Nat.lt_of_lt_of_le hi h.size) (fun hc => hn (hs i hi hc))).trans (h.block i hi hn)⟩

def MixRel1 (w : World) (a b : List It) (fl : List Bool) (v6 v7 v8 vi vk vat vfr vn : Value) (wr : World) : Prop :=
  ∃ n : Nat, n ≤ a.length + b.length ∧ vn = .int .i64 (n : Int) ∧ vi = .int .i64 ((Tn a.length b.length fl n : Nat) : Int) ∧ vk = .int .i64 ((n - Tn a.length b.length fl n : Nat) : Int) ∧ vat = .int .i64 ((start (mix0 a b fl) n : Nat) : Int) ∧
    MixSt wr w.heap.size v6 v7 v8 vfr (mixTo a b fl n) (numTo (mix0 a b fl) (pk a.length b.length fl) n) (numTo (mix0 a b fl) (fun n => !pk a.length b.length fl n) n) ((List.range n).map (pk a.length b.length fl)) ∧ Gr w wr
/-- The second package's objects are numbered. -/
def MixRel2 (w : World) (v6 v7 v12 : Value) (l : List It) (F G : List Nat) (fs : List Bool) (st nn : Nat) (v8 vat vj : Value) (wx : World) : Prop :=
  ∃ j : Nat, j ≤ nn ∧ vj = .int .i64 (j : Int) ∧ vat = .int .i64 ((st + j : Nat) : Int) ∧ MixSt wx w.heap.size v6 v7 v8 v12 l F (G ++ List.range' st j) fs ∧ Gr w wx
/-- The first package's objects are numbered. -/
def MixRel3 (w : World) (v6 v8 v12 : Value) (l : List It) (F G : List Nat) (fs : List Bool) (st nn : Nat) (v7 vat vj : Value) (wx : World) : Prop :=
  ∃ j : Nat, j ≤ nn ∧ vj = .int .i64 (j : Int) ∧ vat = .int .i64 ((st + j : Nat) : Int) ∧ MixSt wx w.heap.size v6 v7 v8 v12 l (F ++ List.range' st j) G fs ∧ Gr w wx

/-- What 'Mixed' returns. -/
def PMixed (w : World) (a b : List It) (fl : List Bool) (e : Ending) (w' : World) : Prop :=
  ∃ v6 v7 v8, e = .returned (.tuple #[v6, v7, v8]) ∧ (∃ B, OwnIts w' B 47 v6 (mixed a b fl)) ∧ Ints w' (fun _ => True) v7 (ints (fstN a b fl)) ∧ Ints w' (fun _ => True) v8 (ints (sndN a b fl)) ∧ Gr w w'

/-- The references are turned, declaration by declaration. -/
def MixRel4 (B : Nat) (wS : World) (a b : List It) (fl : List Bool) (g o c : Nat) (i : Value) (wr : World) : Prop :=
  ∃ n : Nat, n ≤ a.length + b.length ∧ i = .int .i64 (n : Int) ∧ OwnIts wr B 47 (.slice (some ⟨g, o, none⟩) (a.length + b.length) c) (newTo (mix0 a b fl) (mixF a b fl) n) ∧ Fr (fun b => b = g) wS wr
def MixRel5 (B Bk : Nat) (wS : World) (a b : List It) (fl : List Bool) (g o c n : Nat) (A' : Option Addr) (c' : Nat) (i : Value) (wx : World) : Prop :=
  ∃ (m : Nat) (u : Value), m ≤ (mixIt a b fl n).refs.length ∧ i = .int .i64 (m : Int) ∧ OutIn B Bk g o c (newTo (mix0 a b fl) (mixF a b fl) n) n ((mixF a b fl n).take m) u wx ∧
    Ints wx (fun b => b ≠ g ∧ b < Bk) (.slice A' (mixIt a b fl n).refs.length c') (mixIt a b fl n).refs ∧ Fr (fun b => b = g) wS wx ∧ Bk ≤ wx.heap.size
def MixRel0 (w : World) (i : Value) (wr : World) : Prop := i = .int .i64 0 ∧ wr = w

/-- A declaration of a row of one's own, as it is read. -/
theorem OwnIts.refsAt {w : World} {B g o n c e : Nat} {l : List It} (h : OwnIts w B e (.slice (some ⟨g, o, none⟩) n c) l) {k : Nat} (hk : k < l.length) :
    ∃ A' c', w.cell? ⟨g, o + k * 3, none⟩ = some (.int .i64 (it l k).kind) ∧ w.cell? ⟨g, o + k * 3 + 1, none⟩ = some (.int .i64 (it l k).many) ∧ w.cell? ⟨g, o + k * 3 + 2, none⟩ = some (.slice A' (it l k).refs.length c') ∧
      Ints w (fun b => b ≠ g) (.slice A' (it l k).refs.length c') (it l k).refs := by
  obtain ⟨vs, h1, h2, h3⟩ := h
  obtain ⟨g', o', cap, cur, he, _, hg, _, _, hc⟩ := h2.at_ (by omega)
  simp only [Value.slice.injEq, Option.some.injEq, Addr.mk.injEq, and_true] at he
  obtain ⟨⟨rfl, rfl⟩, -, rfl⟩ := he
  obtain ⟨y, hy⟩ := get_lt (l := vs) (k := k) (by omega)
  obtain ⟨z0, z1, z2⟩ := itCells_at l vs h1 k _ y (it_get hk) hy
  have hi := h3 k _ y (it_get hk) hy
  obtain ⟨A', c', rfl⟩ := hi.val
  have hi' := hi.mono (ok' := fun b => b ≠ g) (fun b _ hb e => hb (by rw [e]; rfl))
  exact ⟨A', c', hc _ _ z0, hc _ _ z1, hc _ _ z2, hi'⟩

theorem rem_nat (n m : Nat) : (n : Int).tmod (m : Int) = ((n % m : Nat) : Int) := rfl

set_option maxHeartbeats 8000000 in
set_option maxRecDepth 100000 in
theorem Mixed_any (w : World) (ok ok' ok'' : Nat → Prop) (A B C : Option Addr) (c d e : Nat) (a b : List It) (fl : List Bool) (ha : Its w ok (.slice A a.length c) a) (hb : Its w ok' (.slice B b.length d) b) (hf : Bools w ok'' (.slice C fl.length e) fl)
    (hka : KOk a) (hkb : KOk b) (hra : ROk a) (hrb : ROk b) (hla : a.length ≤ 1048576) (hlb : b.length ≤ 1048576) (hlf : fl.length ≤ 4294967296) (hwa : wt a ≤ 4194304) (hwb : wt b ≤ 4194304) :
    Calls Tryz.prog 19 #[.slice A a.length c, .slice B b.length d, .slice C fl.length e] w (PMixed w a b fl) := by
  have hca := cnt_le hka
  have hcb := cnt_le hkb
  obtain ⟨N, hN⟩ : ∃ N, N = a.length + b.length := ⟨_, rfl⟩
  have hstart : ∀ n, n ≤ N → start (mix0 a b fl) n ≤ 209715200 := fun n hn => by
    have h1 := start_mono (p := mix0 a b fl) (j := n) (k := (mix0 a b fl).length) (by rw [mix0_length]; omega) (Nat.le_refl _)
    have h2 := mix0_start (a := a) (b := b) (fl := fl) (a.length + b.length) (Nat.le_refl _)
    rw [Tn_end, Nat.add_sub_cancel_left, start_length, start_length] at h2
    rw [mix0_length, h2.1] at h1
    omega
  have Hstart := Lib.hid hstart
  have Hnum := Lib.hid (fun n (hn : n ≤ N) => mix0_start (a := a) (b := b) (fl := fl) n (by omega))
  clear hca hcb hstart
  go_enter Tryz.func19, Tryz.ntmps19
  go_wp2
  go_loopw [6, 7, 8, 9, 10, 11, 12, 25] (MixRel1 w a b fl) (fun _ _ _ _ _ _ _ i _ => N - (intOf i).toNat)
  case atStart => exact ⟨0, by omega, rfl, by simp [Tn], by simp, by rw [start_zero]; rfl, by rw [numTo_zero, numTo_zero]; simpa [mixTo] using MixSt.nil w, Gr.refl w⟩
  case round =>
    obtain ⟨n, hnN, rfl, rfl, rfl, rfl, hst, hgr⟩ := hrel
    obtain ⟨T, hT⟩ : ∃ T, T = Tn a.length b.length fl n := ⟨_, rfl⟩
    obtain ⟨K, hK⟩ : ∃ K, K = n - T := ⟨_, rfl⟩
    obtain ⟨S0, hS0⟩ : ∃ S0, S0 = start (mix0 a b fl) n := ⟨_, rfl⟩
    have hbd := Tn_bound (la := a.length) (lb := b.length) (fl := fl) n hnN
    rw [← hT] at hbd
    rw [← hT, ← hK]
    rw [← hS0]
    by_cases hlt : n < N
    · have hni : (n : Int) < ((a.length : Int) + (b.length : Int)) := by omega
      have hS0l := Hstart.out n (by omega)
      rw [← hS0] at hS0l
      obtain ⟨h0, h1, h2⟩ := Hnum.out n (by omega)
      have hsz : (numTo (mix0 a b fl) (pk a.length b.length fl) n).length ≤ 209715200 ∧ (numTo (mix0 a b fl) (fun n => !pk a.length b.length fl n) n).length ≤ 209715200 := by omega
      have hml : (mixTo a b fl n).length = n := by simp [mixTo]
      have hfsl : ((List.range n).map (pk a.length b.length fl)).length = n := by simp
      clear h0 h1 h2
      have hfcase : (fl.length = 0 ∧ oneF fl n = false) ∨ ∃ bf of', C = some ⟨bf, of', none⟩ ∧ 0 < fl.length ∧ n % fl.length < fl.length ∧ wr.cell? ⟨bf, of' + n % fl.length, none⟩ = some (.bool (oneF fl n)) := by
        by_cases h0 : fl.length = 0
        · exact .inl ⟨h0, by simp [oneF, h0]⟩
        · have h1 : n % fl.length < fl.length := Nat.mod_lt _ (by omega)
          obtain ⟨bf, of', h2, -, -, h3⟩ := (hf.gr hgr).at_ h1
          refine .inr ⟨bf, of', h2, by omega, h1, ?_⟩
          obtain ⟨x, hx⟩ := get_lt h1
          have h4 := h3 x hx
          have h5 : oneF fl n = x := by
            unfold oneF
            rw [List.getD_eq_getElem?_getD, hx]
            have h6 : decide (0 < fl.length) = true := by simp; omega
            rw [h6]; rfl
          rw [h5]; exact h4
      obtain ⟨one, hone⟩ : ∃ one, one = oneF fl n := ⟨_, rfl⟩
      rw [← hone] at hfcase
      have hpk : pk a.length b.length fl n = !(T == a.length || (!one && decide (K < b.length))) := by unfold pk; rw [← hT, ← hone, hK]
      have HT := Lib.hid hT
      have HK := Lib.hid hK
      have HS0 := Lib.hid hS0
      have Hbd := Lib.hid hbd
      cases hp : pk a.length b.length fl n
      · have hKl : K < b.length := by have := pk_false hp; rw [← hT] at this; omega
        have hway : T = a.length ∨ (T ≠ a.length ∧ one = false) := by
          by_cases e1 : T = a.length
          · exact .inl e1
          · refine .inr ⟨e1, ?_⟩
            rw [hp] at hpk
            cases one
            · rfl
            · simp [e1] at hpk
        have HE : Hid (mixIt a b fl n = it b K) := by show _ = _; unfold mixIt; rw [hp, if_neg (by simp), ← hT, ← hK]
        have HnS : Hid (start (mix0 a b fl) (n + 1) = S0 + (it b K).n) := by show _ = _; rw [start_succ (it_get (by rw [mix0_length]; omega)), it_mix0 (by omega), HE.out, ← hS0]
        have HnF : Hid (numTo (mix0 a b fl) (pk a.length b.length fl) (n + 1) = numTo (mix0 a b fl) (pk a.length b.length fl) n) := by show _ = _; rw [numTo_succ (by rw [mix0_length]; omega), hp, if_neg (by simp), List.append_nil]
        have HnG : Hid (numTo (mix0 a b fl) (fun n => !pk a.length b.length fl n) (n + 1) = numTo (mix0 a b fl) (fun n => !pk a.length b.length fl n) n ++ List.range' S0 (it b K).n) := by
          show _ = _
          rw [numTo_succ (by rw [mix0_length]; omega), hp, if_pos (show (!false) = true from rfl)]
          unfold objs
          rw [← hS0, it_mix0 (by omega), HE.out]
        have HT1 : Hid (Tn a.length b.length fl (n + 1) = T) := by show _ = _; rw [Tn_false hp, ← hT]
        have HL : Hid (mixTo a b fl (n + 1) = mixTo a b fl n ++ [it b K]) := by show _ = _; rw [mixTo_succ, HE.out]
        have HR : Hid ((List.range (n + 1)).map (pk a.length b.length fl) = (List.range n).map (pk a.length b.length fl) ++ [false]) := by show _ = _; rw [List.range_succ, List.map_append, List.map_cons, List.map_nil, hp]
        have hki : (K : Int) < (b.length : Int) := by omega
        rcases hfcase with ⟨hf0, hone0⟩ | ⟨bf, of', rfl, hf0, hf1, hcf⟩
        · have df : decide ((0 : Int) < (fl.length : Int)) = false := by rw [decide_eq_false_iff_not]; omega
          have dfi : ¬ (0 : Int) < (fl.length : Int) := by omega
          have Hf0 := Lib.hid hf0
          clear hf0
          rcases hway with hway | ⟨hway, honef⟩
          · subst hone0
            have d1 : ((T : Int) == (a.length : Int)) = true := by simp [hway]
            have Hone := Lib.hid hone
            clear hone
            obtain ⟨bb, ob, A', c', rfl, -, -, q0, q1, q2, hrefs⟩ := hb.at_ hKl
            have p0 := fun (u : World) (h : Gr w u) => h.cell q0
            have p1 := fun (u : World) (h : Gr w u) => h.cell q1
            have p2 := fun (u : World) (h : Gr w u) => h.cell q2
            replace q0 := hgr.cell q0
            replace q1 := hgr.cell q1
            replace q2 := hgr.cell q2
            have hnp := n_pos hkb (it_mem hKl)
            obtain ⟨v6x, v12x, w3, w4, Hr1, Hr2, Hst4, hf4⟩ := hst.item hgr.size (x := it b K) ((hrefs.mono (fun _ h _ => h)).gr hgr) false (by omega) (by omega)
            have hg4 : Gr w w4 := hgr.own hf4 (Nat.le_refl _)
            replace p0 := p0 _ hg4
            replace p1 := p1 _ hg4
            replace p2 := p2 _ hg4
            have Hobj := Lib.hid (fun (A : Option Addr) (c : Nat) (w : World) => objects_it hkb hKl A c w)
            clear hst hbd hf4 hpk hp hT hK hS0
            go_wp2_with (first
              | (at_builtin; refine wpList_appended rfl _ _ _ _ rfl rfl rfl Hr2 ?_; clear q0 q1 q2)
              | (at_builtin; refine wpList_appended rfl _ _ _ _ rfl rfl rfl Hr1 ?_)
              | (go_at_call 43; refine (Hobj.out _ _ _).mono ?_; rintro e w5 ⟨rfl, hg5⟩))
            go_loopw [8, 11, 69] (MixRel2 w v6x u7 v12x (mixTo a b fl n ++ [it b K]) (numTo (mix0 a b fl) (pk a.length b.length fl) n) (numTo (mix0 a b fl) (fun n => !pk a.length b.length fl n) n) ((List.range n).map (pk a.length b.length fl) ++ [false]) S0 (it b K).n) (fun _ _ i _ => (it b K).n - (intOf i).toNat)
            case atStart => exact ⟨0, by omega, rfl, rfl, by simpa using Hst4.out.gr hg5, hg4.trans hg5⟩
            case round =>
              rename World => wx
              clear p0 p1 p2 Hst4 hg4 hg5 Hobj
              obtain ⟨j, hj, rfl, rfl, hsx, hgx⟩ := hrel
              by_cases hjl : j < (it b K).n
              · obtain ⟨v9, w9, Hr9, Hs9, hf9⟩ := hsx.toSnd hgx.size (S0 + j) (by rw [List.length_append, List.length_range']; omega)
                have hji : (j : Int) < ((it b K).n : Int) := by omega
                clear hsx
                go_wp2_with (at_builtin; refine wpList_appended rfl _ _ _ _ rfl rfl rfl Hr9 ?_)
                go_roundw
                case rel =>
                  refine ⟨j + 1, by omega, by go_num, by go_num, ?_, hgx.own hf9 (Nat.le_refl _)⟩
                  rw [List.range'_concat, Nat.one_mul, ← List.append_assoc]
                  exact Hs9.out
                case measure => simp [intOf]; omega
              · have hj0 : j = (it b K).n := by omega
                subst hj0
                go_wp2
                go_roundw
                case rel =>
                  have hTe := HT.out
                  have hKe := HK.out
                  have hbe := Hbd.out
                  refine ⟨n + 1, by omega, by go_num, ?_, ?_, ?_, ?_, hgx⟩
                  · rw [HT1.out]; try rw [hway]
                  · rw [HT1.out]; go_num
                  · rw [HnS.out]
                  · rw [HL.out, HnF.out, HnG.out, HR.out]
                    exact hsx
                case measure => simp [intOf]; omega
          · have d1 : ((T : Int) == (a.length : Int)) = false := by simp; omega
            have d1i : ¬ (T : Int) = (a.length : Int) := by omega
            subst honef
            have Hone := Lib.hid hone
            clear hone
            obtain ⟨bb, ob, A', c', rfl, -, -, q0, q1, q2, hrefs⟩ := hb.at_ hKl
            have p0 := fun (u : World) (h : Gr w u) => h.cell q0
            have p1 := fun (u : World) (h : Gr w u) => h.cell q1
            have p2 := fun (u : World) (h : Gr w u) => h.cell q2
            replace q0 := hgr.cell q0
            replace q1 := hgr.cell q1
            replace q2 := hgr.cell q2
            have hnp := n_pos hkb (it_mem hKl)
            obtain ⟨v6x, v12x, w3, w4, Hr1, Hr2, Hst4, hf4⟩ := hst.item hgr.size (x := it b K) ((hrefs.mono (fun _ h _ => h)).gr hgr) false (by omega) (by omega)
            have hg4 : Gr w w4 := hgr.own hf4 (Nat.le_refl _)
            replace p0 := p0 _ hg4
            replace p1 := p1 _ hg4
            replace p2 := p2 _ hg4
            have Hobj := Lib.hid (fun (A : Option Addr) (c : Nat) (w : World) => objects_it hkb hKl A c w)
            clear hst hbd hf4 hpk hp hT hK hS0
            go_wp2_with (first
              | (at_builtin; refine wpList_appended rfl _ _ _ _ rfl rfl rfl Hr2 ?_; clear q0 q1 q2)
              | (at_builtin; refine wpList_appended rfl _ _ _ _ rfl rfl rfl Hr1 ?_)
              | (go_at_call 43; refine (Hobj.out _ _ _).mono ?_; rintro e w5 ⟨rfl, hg5⟩))
            go_loopw [8, 11, 69] (MixRel2 w v6x u7 v12x (mixTo a b fl n ++ [it b K]) (numTo (mix0 a b fl) (pk a.length b.length fl) n) (numTo (mix0 a b fl) (fun n => !pk a.length b.length fl n) n) ((List.range n).map (pk a.length b.length fl) ++ [false]) S0 (it b K).n) (fun _ _ i _ => (it b K).n - (intOf i).toNat)
            case atStart => exact ⟨0, by omega, rfl, rfl, by simpa using Hst4.out.gr hg5, hg4.trans hg5⟩
            case round =>
              rename World => wx
              clear p0 p1 p2 Hst4 hg4 hg5 Hobj
              obtain ⟨j, hj, rfl, rfl, hsx, hgx⟩ := hrel
              by_cases hjl : j < (it b K).n
              · obtain ⟨v9, w9, Hr9, Hs9, hf9⟩ := hsx.toSnd hgx.size (S0 + j) (by rw [List.length_append, List.length_range']; omega)
                have hji : (j : Int) < ((it b K).n : Int) := by omega
                clear hsx
                go_wp2_with (at_builtin; refine wpList_appended rfl _ _ _ _ rfl rfl rfl Hr9 ?_)
                go_roundw
                case rel =>
                  refine ⟨j + 1, by omega, by go_num, by go_num, ?_, hgx.own hf9 (Nat.le_refl _)⟩
                  rw [List.range'_concat, Nat.one_mul, ← List.append_assoc]
                  exact Hs9.out
                case measure => simp [intOf]; omega
              · have hj0 : j = (it b K).n := by omega
                subst hj0
                go_wp2
                go_roundw
                case rel =>
                  have hTe := HT.out
                  have hKe := HK.out
                  have hbe := Hbd.out
                  refine ⟨n + 1, by omega, by go_num, ?_, ?_, ?_, ?_, hgx⟩
                  · rw [HT1.out]; try rw [hway]
                  · rw [HT1.out]; go_num
                  · rw [HnS.out]
                  · rw [HL.out, HnF.out, HnG.out, HR.out]
                    exact hsx
                case measure => simp [intOf]; omega
        · rcases hway with hway | ⟨hway, honef⟩
          · have df : decide ((0 : Int) < (fl.length : Int)) = true := by rw [decide_eq_true_eq]; omega
            have dfi : (0 : Int) < (fl.length : Int) := by omega
            have d1 : ((T : Int) == (a.length : Int)) = true := by simp [hway]
            have Hone := Lib.hid hone
            clear hone
            obtain ⟨bb, ob, A', c', rfl, -, -, q0, q1, q2, hrefs⟩ := hb.at_ hKl
            have p0 := fun (u : World) (h : Gr w u) => h.cell q0
            have p1 := fun (u : World) (h : Gr w u) => h.cell q1
            have p2 := fun (u : World) (h : Gr w u) => h.cell q2
            replace q0 := hgr.cell q0
            replace q1 := hgr.cell q1
            replace q2 := hgr.cell q2
            have hnp := n_pos hkb (it_mem hKl)
            obtain ⟨v6x, v12x, w3, w4, Hr1, Hr2, Hst4, hf4⟩ := hst.item hgr.size (x := it b K) ((hrefs.mono (fun _ h _ => h)).gr hgr) false (by omega) (by omega)
            have hg4 : Gr w w4 := hgr.own hf4 (Nat.le_refl _)
            replace p0 := p0 _ hg4
            replace p1 := p1 _ hg4
            replace p2 := p2 _ hg4
            have Hobj := Lib.hid (fun (A : Option Addr) (c : Nat) (w : World) => objects_it hkb hKl A c w)
            clear hst hbd hf4 hpk hp hT hK hS0
            go_wp2_with (first
              | (at_builtin; refine wpList_appended rfl _ _ _ _ rfl rfl rfl Hr2 ?_; clear q0 q1 q2)
              | (at_builtin; refine wpList_appended rfl _ _ _ _ rfl rfl rfl Hr1 ?_)
              | (go_at_call 43; refine (Hobj.out _ _ _).mono ?_; rintro e w5 ⟨rfl, hg5⟩))
            go_loopw [8, 11, 69] (MixRel2 w v6x u7 v12x (mixTo a b fl n ++ [it b K]) (numTo (mix0 a b fl) (pk a.length b.length fl) n) (numTo (mix0 a b fl) (fun n => !pk a.length b.length fl n) n) ((List.range n).map (pk a.length b.length fl) ++ [false]) S0 (it b K).n) (fun _ _ i _ => (it b K).n - (intOf i).toNat)
            case atStart => exact ⟨0, by omega, rfl, rfl, by simpa using Hst4.out.gr hg5, hg4.trans hg5⟩
            case round =>
              rename World => wx
              clear p0 p1 p2 Hst4 hg4 hg5 Hobj
              obtain ⟨j, hj, rfl, rfl, hsx, hgx⟩ := hrel
              by_cases hjl : j < (it b K).n
              · obtain ⟨v9, w9, Hr9, Hs9, hf9⟩ := hsx.toSnd hgx.size (S0 + j) (by rw [List.length_append, List.length_range']; omega)
                have hji : (j : Int) < ((it b K).n : Int) := by omega
                clear hsx
                go_wp2_with (at_builtin; refine wpList_appended rfl _ _ _ _ rfl rfl rfl Hr9 ?_)
                go_roundw
                case rel =>
                  refine ⟨j + 1, by omega, by go_num, by go_num, ?_, hgx.own hf9 (Nat.le_refl _)⟩
                  rw [List.range'_concat, Nat.one_mul, ← List.append_assoc]
                  exact Hs9.out
                case measure => simp [intOf]; omega
              · have hj0 : j = (it b K).n := by omega
                subst hj0
                go_wp2
                go_roundw
                case rel =>
                  have hTe := HT.out
                  have hKe := HK.out
                  have hbe := Hbd.out
                  refine ⟨n + 1, by omega, by go_num, ?_, ?_, ?_, ?_, hgx⟩
                  · rw [HT1.out]; try rw [hway]
                  · rw [HT1.out]; go_num
                  · rw [HnS.out]
                  · rw [HL.out, HnF.out, HnG.out, HR.out]
                    exact hsx
                case measure => simp [intOf]; omega
          · have df : decide ((0 : Int) < (fl.length : Int)) = true := by rw [decide_eq_true_eq]; omega
            have dfi : (0 : Int) < (fl.length : Int) := by omega
            have d1 : ((T : Int) == (a.length : Int)) = false := by simp; omega
            have d1i : ¬ (T : Int) = (a.length : Int) := by omega
            subst honef
            have Hone := Lib.hid hone
            clear hone
            obtain ⟨bb, ob, A', c', rfl, -, -, q0, q1, q2, hrefs⟩ := hb.at_ hKl
            have p0 := fun (u : World) (h : Gr w u) => h.cell q0
            have p1 := fun (u : World) (h : Gr w u) => h.cell q1
            have p2 := fun (u : World) (h : Gr w u) => h.cell q2
            replace q0 := hgr.cell q0
            replace q1 := hgr.cell q1
            replace q2 := hgr.cell q2
            have hnp := n_pos hkb (it_mem hKl)
            obtain ⟨v6x, v12x, w3, w4, Hr1, Hr2, Hst4, hf4⟩ := hst.item hgr.size (x := it b K) ((hrefs.mono (fun _ h _ => h)).gr hgr) false (by omega) (by omega)
            have hg4 : Gr w w4 := hgr.own hf4 (Nat.le_refl _)
            replace p0 := p0 _ hg4
            replace p1 := p1 _ hg4
            replace p2 := p2 _ hg4
            have Hobj := Lib.hid (fun (A : Option Addr) (c : Nat) (w : World) => objects_it hkb hKl A c w)
            clear hst hbd hf4 hpk hp hT hK hS0
            go_wp2_with (first
              | (at_builtin; refine wpList_appended rfl _ _ _ _ rfl rfl rfl Hr2 ?_; clear q0 q1 q2)
              | (at_builtin; refine wpList_appended rfl _ _ _ _ rfl rfl rfl Hr1 ?_)
              | (go_at_call 43; refine (Hobj.out _ _ _).mono ?_; rintro e w5 ⟨rfl, hg5⟩))
            go_loopw [8, 11, 69] (MixRel2 w v6x u7 v12x (mixTo a b fl n ++ [it b K]) (numTo (mix0 a b fl) (pk a.length b.length fl) n) (numTo (mix0 a b fl) (fun n => !pk a.length b.length fl n) n) ((List.range n).map (pk a.length b.length fl) ++ [false]) S0 (it b K).n) (fun _ _ i _ => (it b K).n - (intOf i).toNat)
            case atStart => exact ⟨0, by omega, rfl, rfl, by simpa using Hst4.out.gr hg5, hg4.trans hg5⟩
            case round =>
              rename World => wx
              clear p0 p1 p2 Hst4 hg4 hg5 Hobj
              obtain ⟨j, hj, rfl, rfl, hsx, hgx⟩ := hrel
              by_cases hjl : j < (it b K).n
              · obtain ⟨v9, w9, Hr9, Hs9, hf9⟩ := hsx.toSnd hgx.size (S0 + j) (by rw [List.length_append, List.length_range']; omega)
                have hji : (j : Int) < ((it b K).n : Int) := by omega
                clear hsx
                go_wp2_with (at_builtin; refine wpList_appended rfl _ _ _ _ rfl rfl rfl Hr9 ?_)
                go_roundw
                case rel =>
                  refine ⟨j + 1, by omega, by go_num, by go_num, ?_, hgx.own hf9 (Nat.le_refl _)⟩
                  rw [List.range'_concat, Nat.one_mul, ← List.append_assoc]
                  exact Hs9.out
                case measure => simp [intOf]; omega
              · have hj0 : j = (it b K).n := by omega
                subst hj0
                go_wp2
                go_roundw
                case rel =>
                  have hTe := HT.out
                  have hKe := HK.out
                  have hbe := Hbd.out
                  refine ⟨n + 1, by omega, by go_num, ?_, ?_, ?_, ?_, hgx⟩
                  · rw [HT1.out]; try rw [hway]
                  · rw [HT1.out]; go_num
                  · rw [HnS.out]
                  · rw [HL.out, HnF.out, HnG.out, HR.out]
                    exact hsx
                case measure => simp [intOf]; omega
      · have hTl : T < a.length := by have := pk_true hp; rw [← hT] at this; omega
        have hTne : T ≠ a.length := by omega
        have hway : one = true ∨ (one = false ∧ ¬ K < b.length) := by
          cases one
          · refine .inr ⟨rfl, fun h => ?_⟩
            rw [hp] at hpk
            simp [h] at hpk
          · exact .inl rfl
        have HE : Hid (mixIt a b fl n = it a T) := by show _ = _; unfold mixIt; rw [hp, if_pos rfl, ← hT]
        have HnS : Hid (start (mix0 a b fl) (n + 1) = S0 + (it a T).n) := by show _ = _; rw [start_succ (it_get (by rw [mix0_length]; omega)), it_mix0 (by omega), HE.out, ← hS0]
        have HnF : Hid (numTo (mix0 a b fl) (pk a.length b.length fl) (n + 1) = numTo (mix0 a b fl) (pk a.length b.length fl) n ++ List.range' S0 (it a T).n) := by
          show _ = _
          rw [numTo_succ (by rw [mix0_length]; omega), hp, if_pos rfl]
          unfold objs
          rw [← hS0, it_mix0 (by omega), HE.out]
        have HnG : Hid (numTo (mix0 a b fl) (fun n => !pk a.length b.length fl n) (n + 1) = numTo (mix0 a b fl) (fun n => !pk a.length b.length fl n) n) := by
          show _ = _
          rw [numTo_succ (by rw [mix0_length]; omega), hp, if_neg (by simp), List.append_nil]
        have HT1 : Hid (Tn a.length b.length fl (n + 1) = T + 1) := by show _ = _; rw [Tn_true hp, ← hT]
        have HL : Hid (mixTo a b fl (n + 1) = mixTo a b fl n ++ [it a T]) := by show _ = _; rw [mixTo_succ, HE.out]
        have HR : Hid ((List.range (n + 1)).map (pk a.length b.length fl) = (List.range n).map (pk a.length b.length fl) ++ [true]) := by show _ = _; rw [List.range_succ, List.map_append, List.map_cons, List.map_nil, hp]
        have hti : (T : Int) < (a.length : Int) := by omega
        rcases hfcase with ⟨hf0, hone0⟩ | ⟨bf, of', rfl, hf0, hf1, hcf⟩
        · have df : decide ((0 : Int) < (fl.length : Int)) = false := by rw [decide_eq_false_iff_not]; omega
          have dfi : ¬ (0 : Int) < (fl.length : Int) := by omega
          have Hf0 := Lib.hid hf0
          clear hf0
          rcases hway with hway | ⟨honef, hKb⟩
          · exact absurd (hone0.symm.trans hway) (by simp)
          · have d1 : ((T : Int) == (a.length : Int)) = false := by simp; omega
            have d1i : ¬ (T : Int) = (a.length : Int) := by omega
            have hKn : ¬ (K : Int) < (b.length : Int) := by omega
            subst honef
            have Hone := Lib.hid hone
            clear hone
            obtain ⟨bb, ob, A', c', rfl, -, -, q0, q1, q2, hrefs⟩ := ha.at_ hTl
            have p0 := fun (u : World) (h : Gr w u) => h.cell q0
            have p1 := fun (u : World) (h : Gr w u) => h.cell q1
            have p2 := fun (u : World) (h : Gr w u) => h.cell q2
            replace q0 := hgr.cell q0
            replace q1 := hgr.cell q1
            replace q2 := hgr.cell q2
            have hnp := n_pos hka (it_mem hTl)
            obtain ⟨v6x, v12x, w3, w4, Hr1, Hr2, Hst4, hf4⟩ := hst.item hgr.size (x := it a T) ((hrefs.mono (fun _ h _ => h)).gr hgr) true (by omega) (by omega)
            have hg4 : Gr w w4 := hgr.own hf4 (Nat.le_refl _)
            replace p0 := p0 _ hg4
            replace p1 := p1 _ hg4
            replace p2 := p2 _ hg4
            have Hobj := Lib.hid (fun (A : Option Addr) (c : Nat) (w : World) => objects_it hka hTl A c w)
            clear hst hbd hf4 hpk hp hT hK hS0
            go_wp2_with (first
              | (at_builtin; refine wpList_appended rfl _ _ _ _ rfl rfl rfl Hr2 ?_; clear q0 q1 q2)
              | (at_builtin; refine wpList_appended rfl _ _ _ _ rfl rfl rfl Hr1 ?_)
              | (go_at_call 43; refine (Hobj.out _ _ _).mono ?_; rintro e w5 ⟨rfl, hg5⟩))
            go_loopw [7, 11, 95] (MixRel3 w v6x u8 v12x (mixTo a b fl n ++ [it a T]) (numTo (mix0 a b fl) (pk a.length b.length fl) n) (numTo (mix0 a b fl) (fun n => !pk a.length b.length fl n) n) ((List.range n).map (pk a.length b.length fl) ++ [true]) S0 (it a T).n) (fun _ _ i _ => (it a T).n - (intOf i).toNat)
            case atStart => exact ⟨0, by omega, rfl, rfl, by simpa using Hst4.out.gr hg5, hg4.trans hg5⟩
            case round =>
              rename World => wx
              clear p0 p1 p2 Hst4 hg4 hg5 Hobj
              obtain ⟨j, hj, rfl, rfl, hsx, hgx⟩ := hrel
              by_cases hjl : j < (it a T).n
              · obtain ⟨v9, w9, Hr9, Hs9, hf9⟩ := hsx.toFst hgx.size (S0 + j) (by rw [List.length_append, List.length_range']; omega)
                have hji : (j : Int) < ((it a T).n : Int) := by omega
                clear hsx
                go_wp2_with (at_builtin; refine wpList_appended rfl _ _ _ _ rfl rfl rfl Hr9 ?_)
                go_roundw
                case rel =>
                  refine ⟨j + 1, by omega, by go_num, by go_num, ?_, hgx.own hf9 (Nat.le_refl _)⟩
                  rw [List.range'_concat, Nat.one_mul, ← List.append_assoc]
                  exact Hs9.out
                case measure => simp [intOf]; omega
              · have hj0 : j = (it a T).n := by omega
                subst hj0
                go_wp2
                go_roundw
                case rel =>
                  have hTe := HT.out
                  have hKe := HK.out
                  have hbe := Hbd.out
                  refine ⟨n + 1, by omega, by go_num, ?_, ?_, ?_, ?_, hgx⟩
                  · rw [HT1.out]; go_num
                  · rw [HT1.out]; congr 2; omega
                  · rw [HnS.out]
                  · rw [HL.out, HnF.out, HnG.out, HR.out]
                    exact hsx
                case measure => simp [intOf]; omega
        · rcases hway with hway | ⟨honef, hKb⟩
          · have df : decide ((0 : Int) < (fl.length : Int)) = true := by rw [decide_eq_true_eq]; omega
            have dfi : (0 : Int) < (fl.length : Int) := by omega
            have d1 : ((T : Int) == (a.length : Int)) = false := by simp; omega
            have d1i : ¬ (T : Int) = (a.length : Int) := by omega
            subst hway
            have Hone := Lib.hid hone
            clear hone
            obtain ⟨bb, ob, A', c', rfl, -, -, q0, q1, q2, hrefs⟩ := ha.at_ hTl
            have p0 := fun (u : World) (h : Gr w u) => h.cell q0
            have p1 := fun (u : World) (h : Gr w u) => h.cell q1
            have p2 := fun (u : World) (h : Gr w u) => h.cell q2
            replace q0 := hgr.cell q0
            replace q1 := hgr.cell q1
            replace q2 := hgr.cell q2
            have hnp := n_pos hka (it_mem hTl)
            obtain ⟨v6x, v12x, w3, w4, Hr1, Hr2, Hst4, hf4⟩ := hst.item hgr.size (x := it a T) ((hrefs.mono (fun _ h _ => h)).gr hgr) true (by omega) (by omega)
            have hg4 : Gr w w4 := hgr.own hf4 (Nat.le_refl _)
            replace p0 := p0 _ hg4
            replace p1 := p1 _ hg4
            replace p2 := p2 _ hg4
            have Hobj := Lib.hid (fun (A : Option Addr) (c : Nat) (w : World) => objects_it hka hTl A c w)
            clear hst hbd hf4 hpk hp hT hK hS0
            go_wp2_with (first
              | (at_builtin; refine wpList_appended rfl _ _ _ _ rfl rfl rfl Hr2 ?_; clear q0 q1 q2)
              | (at_builtin; refine wpList_appended rfl _ _ _ _ rfl rfl rfl Hr1 ?_)
              | (go_at_call 43; refine (Hobj.out _ _ _).mono ?_; rintro e w5 ⟨rfl, hg5⟩))
            go_loopw [7, 11, 95] (MixRel3 w v6x u8 v12x (mixTo a b fl n ++ [it a T]) (numTo (mix0 a b fl) (pk a.length b.length fl) n) (numTo (mix0 a b fl) (fun n => !pk a.length b.length fl n) n) ((List.range n).map (pk a.length b.length fl) ++ [true]) S0 (it a T).n) (fun _ _ i _ => (it a T).n - (intOf i).toNat)
            case atStart => exact ⟨0, by omega, rfl, rfl, by simpa using Hst4.out.gr hg5, hg4.trans hg5⟩
            case round =>
              rename World => wx
              clear p0 p1 p2 Hst4 hg4 hg5 Hobj
              obtain ⟨j, hj, rfl, rfl, hsx, hgx⟩ := hrel
              by_cases hjl : j < (it a T).n
              · obtain ⟨v9, w9, Hr9, Hs9, hf9⟩ := hsx.toFst hgx.size (S0 + j) (by rw [List.length_append, List.length_range']; omega)
                have hji : (j : Int) < ((it a T).n : Int) := by omega
                clear hsx
                go_wp2_with (at_builtin; refine wpList_appended rfl _ _ _ _ rfl rfl rfl Hr9 ?_)
                go_roundw
                case rel =>
                  refine ⟨j + 1, by omega, by go_num, by go_num, ?_, hgx.own hf9 (Nat.le_refl _)⟩
                  rw [List.range'_concat, Nat.one_mul, ← List.append_assoc]
                  exact Hs9.out
                case measure => simp [intOf]; omega
              · have hj0 : j = (it a T).n := by omega
                subst hj0
                go_wp2
                go_roundw
                case rel =>
                  have hTe := HT.out
                  have hKe := HK.out
                  have hbe := Hbd.out
                  refine ⟨n + 1, by omega, by go_num, ?_, ?_, ?_, ?_, hgx⟩
                  · rw [HT1.out]; go_num
                  · rw [HT1.out]; congr 2; omega
                  · rw [HnS.out]
                  · rw [HL.out, HnF.out, HnG.out, HR.out]
                    exact hsx
                case measure => simp [intOf]; omega
          · have df : decide ((0 : Int) < (fl.length : Int)) = true := by rw [decide_eq_true_eq]; omega
            have dfi : (0 : Int) < (fl.length : Int) := by omega
            have d1 : ((T : Int) == (a.length : Int)) = false := by simp; omega
            have d1i : ¬ (T : Int) = (a.length : Int) := by omega
            have hKn : ¬ (K : Int) < (b.length : Int) := by omega
            subst honef
            have Hone := Lib.hid hone
            clear hone
            obtain ⟨bb, ob, A', c', rfl, -, -, q0, q1, q2, hrefs⟩ := ha.at_ hTl
            have p0 := fun (u : World) (h : Gr w u) => h.cell q0
            have p1 := fun (u : World) (h : Gr w u) => h.cell q1
            have p2 := fun (u : World) (h : Gr w u) => h.cell q2
            replace q0 := hgr.cell q0
            replace q1 := hgr.cell q1
            replace q2 := hgr.cell q2
            have hnp := n_pos hka (it_mem hTl)
            obtain ⟨v6x, v12x, w3, w4, Hr1, Hr2, Hst4, hf4⟩ := hst.item hgr.size (x := it a T) ((hrefs.mono (fun _ h _ => h)).gr hgr) true (by omega) (by omega)
            have hg4 : Gr w w4 := hgr.own hf4 (Nat.le_refl _)
            replace p0 := p0 _ hg4
            replace p1 := p1 _ hg4
            replace p2 := p2 _ hg4
            have Hobj := Lib.hid (fun (A : Option Addr) (c : Nat) (w : World) => objects_it hka hTl A c w)
            clear hst hbd hf4 hpk hp hT hK hS0
            go_wp2_with (first
              | (at_builtin; refine wpList_appended rfl _ _ _ _ rfl rfl rfl Hr2 ?_; clear q0 q1 q2)
              | (at_builtin; refine wpList_appended rfl _ _ _ _ rfl rfl rfl Hr1 ?_)
              | (go_at_call 43; refine (Hobj.out _ _ _).mono ?_; rintro e w5 ⟨rfl, hg5⟩))
            go_loopw [7, 11, 95] (MixRel3 w v6x u8 v12x (mixTo a b fl n ++ [it a T]) (numTo (mix0 a b fl) (pk a.length b.length fl) n) (numTo (mix0 a b fl) (fun n => !pk a.length b.length fl n) n) ((List.range n).map (pk a.length b.length fl) ++ [true]) S0 (it a T).n) (fun _ _ i _ => (it a T).n - (intOf i).toNat)
            case atStart => exact ⟨0, by omega, rfl, rfl, by simpa using Hst4.out.gr hg5, hg4.trans hg5⟩
            case round =>
              rename World => wx
              clear p0 p1 p2 Hst4 hg4 hg5 Hobj
              obtain ⟨j, hj, rfl, rfl, hsx, hgx⟩ := hrel
              by_cases hjl : j < (it a T).n
              · obtain ⟨v9, w9, Hr9, Hs9, hf9⟩ := hsx.toFst hgx.size (S0 + j) (by rw [List.length_append, List.length_range']; omega)
                have hji : (j : Int) < ((it a T).n : Int) := by omega
                clear hsx
                go_wp2_with (at_builtin; refine wpList_appended rfl _ _ _ _ rfl rfl rfl Hr9 ?_)
                go_roundw
                case rel =>
                  refine ⟨j + 1, by omega, by go_num, by go_num, ?_, hgx.own hf9 (Nat.le_refl _)⟩
                  rw [List.range'_concat, Nat.one_mul, ← List.append_assoc]
                  exact Hs9.out
                case measure => simp [intOf]; omega
              · have hj0 : j = (it a T).n := by omega
                subst hj0
                go_wp2
                go_roundw
                case rel =>
                  have hTe := HT.out
                  have hKe := HK.out
                  have hbe := Hbd.out
                  refine ⟨n + 1, by omega, by go_num, ?_, ?_, ?_, ?_, hgx⟩
                  · rw [HT1.out]; go_num
                  · rw [HT1.out]; congr 2; omega
                  · rw [HnS.out]
                  · rw [HL.out, HnF.out, HnG.out, HR.out]
                    exact hsx
                case measure => simp [intOf]; omega
    · have hn0 : n = N := by omega
      have hst2 : MixSt wr w.heap.size u6 u7 u8 u12 (mix0 a b fl) (fstN a b fl) (sndN a b fl) ((List.range (a.length + b.length)).map (pk a.length b.length fl)) := by
        rw [hn0, hN] at hst
        have e1 : fstN a b fl = numTo (mix0 a b fl) (pk a.length b.length fl) (a.length + b.length) := by unfold fstN; rw [mix0_length]
        have e2 : sndN a b fl = numTo (mix0 a b fl) (fun n => !pk a.length b.length fl n) (a.length + b.length) := by unfold sndN; rw [mix0_length]
        rw [e1, e2]
        exact hst
      obtain ⟨hout0, hfst0, hsnd0, hfrm0, -⟩ := hst2
      have hq0l : (mix0 a b fl).length = a.length + b.length := mix0_length a b fl
      have hfrl : ((List.range (a.length + b.length)).map (pk a.length b.length fl)).length = a.length + b.length := by simp
      rw [hfrl] at hfrm0
      clear hfrl
      have hown0 := hout0.own
      have hni : ¬ (n : Int) < (a.length : Int) + (b.length : Int) := by omega
      clear hst hbd hT hK hS0
      by_cases hN0 : N = 0
      · have hl0 : (mix0 a b fl).length = 0 := by omega
        obtain ⟨A6, c6, hv6⟩ := hown0.its.val
        rw [hl0] at hv6
        subst hv6
        have Hl0 := Lib.hid hl0
        clear hl0 hq0l hN0
        go_wp2
        go_loopw [109] (MixRel0 wr) (fun _ _ => 0)
        case atStart => exact ⟨rfl, rfl⟩
        case round =>
          obtain ⟨rfl, rfl⟩ := hrel
          go_wp2
          go_ret3
          exact ⟨_, _, _, rfl, ⟨_, by unfold mixed; rw [Hl0.out, newTo_zero]; exact hown0⟩, hfst0.ints.mono (fun _ _ _ => trivial), hsnd0.ints.mono (fun _ _ _ => trivial), hgr⟩
      · obtain ⟨vs0, hv1, hv2, hv3⟩ := hout0
        obtain ⟨g, o, c1, cur1, hv6, hgge, hgrow, -, -, -⟩ := hv2.at_ (by omega)
        rw [hq0l] at hv6
        subst hv6
        have hown1 : OwnIts wr w.heap.size 47 (.slice (some ⟨g, o, none⟩) (a.length + b.length) c1) (newTo (mix0 a b fl) (mixF a b fl) 0) := by rw [newTo_zero]; exact hown0
        have Hne7 := Lib.hid (fun k (hb : u7.ownBlock = some k) (e : k = g) => (by subst e; obtain ⟨cr, hc⟩ := hfst0.row hb; exact ne_cells hc hgrow (by decide) rfl : False))
        have Hne8 := Lib.hid (fun k (hb : u8.ownBlock = some k) (e : k = g) => (by subst e; obtain ⟨cr, hc⟩ := hsnd0.row hb; exact ne_cells hc hgrow (by decide) rfl : False))
        have Hne12 := Lib.hid (fun k (hb : u12.ownBlock = some k) (e : k = g) => (by subst e; obtain ⟨cr, hc⟩ := hfrm0.row hb; exact ne_cells hc hgrow (by decide) rfl : False))
        clear hv2 hv3 hv1 hown0 hq0l
        go_wp2
        go_loopw [109] (MixRel4 w.heap.size wr a b fl g o c1) (fun i _ => N - (intOf i).toNat)
        case atStart => exact ⟨0, by omega, rfl, hown1, Fr.refl _ wr⟩
        case round =>
          rename World => wq
          clear hown1
          obtain ⟨q, hq, rfl, hown, hfq⟩ := hrel
          by_cases hlq : q < N
          · have hqi : (q : Int) < (a.length : Int) + (b.length : Int) := by omega
            have hnl : (newTo (mix0 a b fl) (mixF a b fl) q).length = a.length + b.length := by rw [newTo_length, mix0_length]
            have hkl : q < (newTo (mix0 a b fl) (mixF a b fl) q).length := by rw [hnl]; omega
            have hit : it (newTo (mix0 a b fl) (mixF a b fl) q) q = mixIt a b fl q := by
              rw [it_newTo (by rw [mix0_length]; omega), if_neg (by omega), it_mix0 (by omega)]
            obtain ⟨A', c', q0, q1, q2, hrefs⟩ := hown.refsAt hkl
            rw [hit] at q0 q1 q2 hrefs
            obtain ⟨cv, ⟨curR, rowR⟩, cellR, frozR⟩ := hown.cellAt hkl
            have hgl : g < wq.heap.size := heap_lt rowR
            have Hout := Lib.hid (OutIn.start (by rw [hnl]; exact hown) hkl)
            have hbx := heap_alloc_new (wq.setCell ⟨g, o + q * 3 + 2, none⟩ (.slice none 0 0)) (.cells #[.int .i64 (mixIt a b fl q).kind, .int .i64 (mixIt a b fl q).many, .slice A' (mixIt a b fl q).refs.length c'] 47)
            simp only [size_set] at hbx
            have z0 := (cell_row hbx 0).trans rfl
            have z1 := (cell_row hbx 1).trans rfl
            have z2 := (cell_row hbx 2).trans rfl
            have HF3 : Hid (Fr (fun b => b = g) wr ((wq.setCell ⟨g, o + q * 3 + 2, none⟩ (.slice none 0 0)).alloc (.cells #[.int .i64 (mixIt a b fl q).kind, .int .i64 (mixIt a b fl q).many, .slice A' (mixIt a b fl q).refs.length c'] 47))) := (hfq.trans (fr_set wq g (o + q * 3 + 2) (.slice none 0 0))).alloc _
            have HIn : Hid (Ints ((wq.setCell ⟨g, o + q * 3 + 2, none⟩ (.slice none 0 0)).alloc (.cells #[.int .i64 (mixIt a b fl q).kind, .int .i64 (mixIt a b fl q).many, .slice A' (mixIt a b fl q).refs.length c'] 47)) (fun b => b ≠ g ∧ b < wq.heap.size) (.slice A' (mixIt a b fl q).refs.length c') (mixIt a b fl q).refs) := ((hrefs.mono (fun b hb h => ⟨h, hb⟩)).fr (fr_set wq g (o + q * 3 + 2) (.slice none 0 0)) (fun b hb e => hb.1 e)).gr ((Gr.refl _).alloc _)
            have hfrmq := hfrm0.fr hfq Hne12.out
            obtain ⟨gf, of', capf, curf, rfl, -, hrowf, hcapf, -, hcf⟩ := hfrmq.at_ (by omega)
            have hgfl : gf < wq.heap.size := heap_lt hrowf
            have cf := hcf q (.bool (pk a.length b.length fl q)) (by rw [List.getElem?_map, List.getElem?_map, List.getElem?_range (by omega)]; rfl)
            have hrl : (mixIt a b fl q).refs.length ≤ 4194304 := by
              have hbd := Tn_bound (la := a.length) (lb := b.length) (fl := fl) q (by omega)
              unfold mixIt
              cases hp : pk a.length b.length fl q
              · have hf := pk_false hp
                simp only [Bool.false_eq_true, if_false]
                have := refs_le_wt (p := b) (k := q - Tn a.length b.length fl q) (by omega)
                omega
              · have hf := pk_true hp
                simp only [if_true]
                have := refs_le_wt (p := a) (k := Tn a.length b.length fl q) (by omega)
                omega
            clear hcf hrefs hfrmq hrowf
            cases hp : pk a.length b.length fl q
            · have hVl : (sndN a b fl).length = cnt b := (mixed_two a b fl).snd.len
              have hrefR : ∀ x ∈ (mixIt a b fl q).refs, 0 ≤ x ∧ x < ((sndN a b fl).length : Int) := fun x hx => by
                rw [hVl]
                unfold mixIt at hx
                rw [hp] at hx
                simp only [Bool.false_eq_true, if_false] at hx
                have hbd := Tn_bound (la := a.length) (lb := b.length) (fl := fl) q (by omega)
                have := pk_false hp
                exact hrb _ (it_mem (by omega)) x hx
              have HmF : Hid (mixF a b fl q = (mixIt a b fl q).refs.map fun r => (((sndN a b fl).getD r.toNat 0 : Nat) : Int)) := by show _ = _; unfold mixF; rw [hp]; rfl
              have HrefR := Lib.hid hrefR
              rw [hp] at cf
              have HVl := Lib.hid hVl
              clear hrefR hp hVl
              go_wp2
              go_loopw [127] (MixRel5 w.heap.size wq.heap.size wr a b fl g o c1 q A' c') (fun i _ => (mixIt a b fl q).refs.length - (intOf i).toNat)
              case atStart => exact ⟨0, _, by omega, rfl, by simpa using Hout.out.gr ((Gr.refl _).alloc _), HIn.out, HF3.out, by rw [World.size_alloc, size_set]; omega⟩
              case round =>
                rename World => wx
                clear Hout hbx z0 z1 z2 HF3 HIn cellR frozR rowR q0 q1 q2 cf
                obtain ⟨m, u, hm, rfl, hout, hin, hfx, hsx⟩ := hrel
                have hVx : Own wx (fun b => w.heap.size ≤ b) 3 1 u8 (sndN a b fl).length ((ints (sndN a b fl)).map intV) := (hsnd0).fr hfx Hne8.out
                by_cases hml : m < (mixIt a b fl q).refs.length
                · obtain ⟨x, hx⟩ := get_lt hml
                  obtain ⟨hx0, hx1⟩ := HrefR.out x (List.mem_of_getElem? hx)
                  obtain ⟨r, rfl⟩ : ∃ r : Nat, x = (r : Int) := ⟨x.toNat, by omega⟩
                  have hrn : r < (sndN a b fl).length := by omega
                  obtain ⟨b2, o2, rfl, hb2, hb2l, hc⟩ := hin.at_ hml
                  have cx := hc _ hx
                  obtain ⟨g3, o3, cap3, cur3, rfl, -, hrow3, -, -, hc3⟩ := hVx.at_ (by omega)
                  obtain ⟨y, hy⟩ : ∃ y, y = (sndN a b fl).getD r 0 := ⟨_, rfl⟩
                  have cr := hc3 r (.int .i64 (y : Int)) (by rw [hy]; simp [ints, intV, hrn])
                  have hg3l : g3 < wx.heap.size := heap_lt hrow3
                  have hmi : (m : Int) < ((mixIt a b fl q).refs.length : Int) := by omega
                  have hri : (r : Int) < (((sndN a b fl).length : Nat) : Int) := by omega
                  have Htk : Hid ((mixF a b fl q).take (m + 1) = (mixF a b fl q).take m ++ [(y : Int)]) := by
                    show _ = _
                    refine take_snoc ?_
                    rw [HmF.out, List.getElem?_map, hx, hy]
                    rfl
                  have hl7 : ((mixF a b fl q).take m).length = m := by rw [List.length_take, HmF.out, List.length_map]; omega
                  clear hc hc3 hx hx0 hx1 hy
                  obtain ⟨⟨cr7, hrow7⟩, hcell7, hfroz7, hgB⟩ := hout.cellAt hkl
                  have hne30 := ne_cells hrow3 hrow7 (by decide)
                  have hout' := hout
                  obtain ⟨vs7, -, -, -, how7, hgk7⟩ := hout'
                  have hglx : g < wx.heap.size := heap_lt hrow7
                  have hne1 : ¬ g = wx.heap.size := by omega
                  have hne2 : ¬ wx.heap.size = g := by omega
                  have hne3 : ¬ g3 = wx.heap.size := by omega
                  have hne4 : ¬ wx.heap.size = g3 := by omega
                  clear hrow3
                  obtain ⟨v9, w9, Hr9, ho9, hf9, -, -, -⟩ := app1 (P := Tryz.prog) (w := wx.drew) (t := 29) (ty := 29) elem3 Tryz.underlying29 (how7.gr (Gr.refl wx).drew) (.int .i64 (y : Int)) rfl (by exact hsx) (by omega) (by omega)
                  replace hf9 : Fr (fun b => u.ownBlock = some b) wx w9 := ⟨hf9.os, hf9.tape, hf9.output, hf9.size, hf9.block⟩
                  obtain ⟨A9, c9, rfl⟩ := ho9.val
                  have hug : ∀ b, u.ownBlock = some b → wq.heap.size ≤ b ∧ ∃ cr', wx.heap[b]? = some (.cells cr' 3 (0, 0)) := fun b hb => ⟨(how7.blk b hb).1, how7.row hb⟩
                  have hrow9 := hf9.heap hrow7 (fun e => by obtain ⟨_, cr', h⟩ := hug _ e; exact ne_cells h hrow7 (by decide) rfl)
                  have hcell9 := hf9.cell hcell7 (fun e => by obtain ⟨_, cr', h⟩ := hug _ e; exact ne_cells h hrow7 (by decide) rfl)
                  have hfroz9 := frozen_row hrow9
                  have Hmore := Lib.hid (hout.more (cur' := (mixF a b fl q).take m ++ [(y : Int)]) (u' := .slice A9 (((mixF a b fl q).take m).length + 1) c9) (w' := w9) hkl (by simpa [intV] using ho9) hf9)
                  have Hin9 := Lib.hid ((hin.fr hf9 (fun b hb hS => by have := (hug b hS).1; omega)).fr (fr_set w9 g (o + q * 3 + 2) (.slice A9 (m + 1) c9)) (fun b hb e => hb.1 e))
                  have Hfx9 := Lib.hid ((hfx.into hf9 (fun b hb hS => by have := (hug b hS).1; have := hfq.size; omega)).trans (fr_set w9 g (o + q * 3 + 2) (.slice A9 (m + 1) c9)))
                  have Hsz9 := Lib.hid (Nat.le_trans hsx hf9.size)
                  have j8 : ∀ o', (wx.alloc o').cell? ⟨g, o + q * 3 + 2, none⟩ = some u := fun o' => Gr.cell ((Gr.refl wx).alloc o') hcell7
                  rw [hl7] at Hr9 Hmore
                  clear how7 hl7
                  go_wp2
                  go_region_law (first | (refine step_appended rfl _ _ _ _ rfl rfl rfl Hr9 ?_))
                  all_goals (
                    go_wp2
                    go_roundw
                    case rel =>
                      refine ⟨m + 1, .slice A9 (m + 1) c9, by omega, by go_num, ?_, Hin9.out, Hfx9.out, by rw [size_set]; exact Hsz9.out⟩
                      rw [Htk.out]
                      exact Hmore.out
                    case measure => simp [intOf]; omega)
                · have hm0 : m = (mixIt a b fl q).refs.length := by omega
                  subst hm0
                  have hfull : (mixF a b fl q).take (mixIt a b fl q).refs.length = mixF a b fl q := List.take_of_length_le (by rw [HmF.out, List.length_map]; omega)
                  rw [hfull] at hout
                  have hdone := hout.done hkl
                  rw [hnl] at hdone
                  have hfin : (newTo (mix0 a b fl) (mixF a b fl) q).set q { it (newTo (mix0 a b fl) (mixF a b fl) q) q with refs := mixF a b fl q } = newTo (mix0 a b fl) (mixF a b fl) (q + 1) := by
                    rw [newTo_set (by rw [mix0_length]; omega), newTo_succ (by rw [mix0_length]; omega)]
                  rw [hfin] at hdone
                  have Hdone := Lib.hid hdone
                  clear hdone hfin hfull hout
                  go_wp2
                  go_roundw
                  case rel => exact ⟨q + 1, by omega, by go_num, Hdone.out, hfx⟩
                  case measure => simp [intOf]; omega
            · have hVl : (fstN a b fl).length = cnt a := (mixed_two a b fl).fst.len
              have hrefR : ∀ x ∈ (mixIt a b fl q).refs, 0 ≤ x ∧ x < ((fstN a b fl).length : Int) := fun x hx => by
                rw [hVl]
                unfold mixIt at hx
                rw [hp] at hx
                simp only [if_true] at hx
                have hbd := Tn_bound (la := a.length) (lb := b.length) (fl := fl) q (by omega)
                have := pk_true hp
                exact hra _ (it_mem (by omega)) x hx
              have HmF : Hid (mixF a b fl q = (mixIt a b fl q).refs.map fun r => (((fstN a b fl).getD r.toNat 0 : Nat) : Int)) := by show _ = _; unfold mixF; rw [hp]; rfl
              have HrefR := Lib.hid hrefR
              rw [hp] at cf
              have HVl := Lib.hid hVl
              clear hrefR hp hVl
              go_wp2
              go_loopw [127] (MixRel5 w.heap.size wq.heap.size wr a b fl g o c1 q A' c') (fun i _ => (mixIt a b fl q).refs.length - (intOf i).toNat)
              case atStart => exact ⟨0, _, by omega, rfl, by simpa using Hout.out.gr ((Gr.refl _).alloc _), HIn.out, HF3.out, by rw [World.size_alloc, size_set]; omega⟩
              case round =>
                rename World => wx
                clear Hout hbx z0 z1 z2 HF3 HIn cellR frozR rowR q0 q1 q2 cf
                obtain ⟨m, u, hm, rfl, hout, hin, hfx, hsx⟩ := hrel
                have hVx : Own wx (fun b => w.heap.size ≤ b) 3 1 u7 (fstN a b fl).length ((ints (fstN a b fl)).map intV) := (hfst0).fr hfx Hne7.out
                by_cases hml : m < (mixIt a b fl q).refs.length
                · obtain ⟨x, hx⟩ := get_lt hml
                  obtain ⟨hx0, hx1⟩ := HrefR.out x (List.mem_of_getElem? hx)
                  obtain ⟨r, rfl⟩ : ∃ r : Nat, x = (r : Int) := ⟨x.toNat, by omega⟩
                  have hrn : r < (fstN a b fl).length := by omega
                  obtain ⟨b2, o2, rfl, hb2, hb2l, hc⟩ := hin.at_ hml
                  have cx := hc _ hx
                  obtain ⟨g3, o3, cap3, cur3, rfl, -, hrow3, -, -, hc3⟩ := hVx.at_ (by omega)
                  obtain ⟨y, hy⟩ : ∃ y, y = (fstN a b fl).getD r 0 := ⟨_, rfl⟩
                  have cr := hc3 r (.int .i64 (y : Int)) (by rw [hy]; simp [ints, intV, hrn])
                  have hg3l : g3 < wx.heap.size := heap_lt hrow3
                  have hmi : (m : Int) < ((mixIt a b fl q).refs.length : Int) := by omega
                  have hri : (r : Int) < (((fstN a b fl).length : Nat) : Int) := by omega
                  have Htk : Hid ((mixF a b fl q).take (m + 1) = (mixF a b fl q).take m ++ [(y : Int)]) := by
                    show _ = _
                    refine take_snoc ?_
                    rw [HmF.out, List.getElem?_map, hx, hy]
                    rfl
                  have hl7 : ((mixF a b fl q).take m).length = m := by rw [List.length_take, HmF.out, List.length_map]; omega
                  clear hc hc3 hx hx0 hx1 hy
                  obtain ⟨⟨cr7, hrow7⟩, hcell7, hfroz7, hgB⟩ := hout.cellAt hkl
                  have hne30 := ne_cells hrow3 hrow7 (by decide)
                  have hout' := hout
                  obtain ⟨vs7, -, -, -, how7, hgk7⟩ := hout'
                  have hglx : g < wx.heap.size := heap_lt hrow7
                  have hne1 : ¬ g = wx.heap.size := by omega
                  have hne2 : ¬ wx.heap.size = g := by omega
                  have hne3 : ¬ g3 = wx.heap.size := by omega
                  have hne4 : ¬ wx.heap.size = g3 := by omega
                  clear hrow3
                  obtain ⟨v9, w9, Hr9, ho9, hf9, -, -, -⟩ := app1 (P := Tryz.prog) (w := wx.drew) (t := 29) (ty := 29) elem3 Tryz.underlying29 (how7.gr (Gr.refl wx).drew) (.int .i64 (y : Int)) rfl (by exact hsx) (by omega) (by omega)
                  replace hf9 : Fr (fun b => u.ownBlock = some b) wx w9 := ⟨hf9.os, hf9.tape, hf9.output, hf9.size, hf9.block⟩
                  obtain ⟨A9, c9, rfl⟩ := ho9.val
                  have hug : ∀ b, u.ownBlock = some b → wq.heap.size ≤ b ∧ ∃ cr', wx.heap[b]? = some (.cells cr' 3 (0, 0)) := fun b hb => ⟨(how7.blk b hb).1, how7.row hb⟩
                  have hrow9 := hf9.heap hrow7 (fun e => by obtain ⟨_, cr', h⟩ := hug _ e; exact ne_cells h hrow7 (by decide) rfl)
                  have hcell9 := hf9.cell hcell7 (fun e => by obtain ⟨_, cr', h⟩ := hug _ e; exact ne_cells h hrow7 (by decide) rfl)
                  have hfroz9 := frozen_row hrow9
                  have Hmore := Lib.hid (hout.more (cur' := (mixF a b fl q).take m ++ [(y : Int)]) (u' := .slice A9 (((mixF a b fl q).take m).length + 1) c9) (w' := w9) hkl (by simpa [intV] using ho9) hf9)
                  have Hin9 := Lib.hid ((hin.fr hf9 (fun b hb hS => by have := (hug b hS).1; omega)).fr (fr_set w9 g (o + q * 3 + 2) (.slice A9 (m + 1) c9)) (fun b hb e => hb.1 e))
                  have Hfx9 := Lib.hid ((hfx.into hf9 (fun b hb hS => by have := (hug b hS).1; have := hfq.size; omega)).trans (fr_set w9 g (o + q * 3 + 2) (.slice A9 (m + 1) c9)))
                  have Hsz9 := Lib.hid (Nat.le_trans hsx hf9.size)
                  have j8 : ∀ o', (wx.alloc o').cell? ⟨g, o + q * 3 + 2, none⟩ = some u := fun o' => Gr.cell ((Gr.refl wx).alloc o') hcell7
                  rw [hl7] at Hr9 Hmore
                  clear how7 hl7
                  go_wp2
                  go_region_law (first | (refine step_appended rfl _ _ _ _ rfl rfl rfl Hr9 ?_))
                  all_goals (
                    go_wp2
                    go_roundw
                    case rel =>
                      refine ⟨m + 1, .slice A9 (m + 1) c9, by omega, by go_num, ?_, Hin9.out, Hfx9.out, by rw [size_set]; exact Hsz9.out⟩
                      rw [Htk.out]
                      exact Hmore.out
                    case measure => simp [intOf]; omega)
                · have hm0 : m = (mixIt a b fl q).refs.length := by omega
                  subst hm0
                  have hfull : (mixF a b fl q).take (mixIt a b fl q).refs.length = mixF a b fl q := List.take_of_length_le (by rw [HmF.out, List.length_map]; omega)
                  rw [hfull] at hout
                  have hdone := hout.done hkl
                  rw [hnl] at hdone
                  have hfin : (newTo (mix0 a b fl) (mixF a b fl) q).set q { it (newTo (mix0 a b fl) (mixF a b fl) q) q with refs := mixF a b fl q } = newTo (mix0 a b fl) (mixF a b fl) (q + 1) := by
                    rw [newTo_set (by rw [mix0_length]; omega), newTo_succ (by rw [mix0_length]; omega)]
                  rw [hfin] at hdone
                  have Hdone := Lib.hid hdone
                  clear hdone hfin hfull hout
                  go_wp2
                  go_roundw
                  case rel => exact ⟨q + 1, by omega, by go_num, Hdone.out, hfx⟩
                  case measure => simp [intOf]; omega
          · have hq0 : q = N := by omega
            have hfin : newTo (mix0 a b fl) (mixF a b fl) q = mixed a b fl := by unfold mixed; rw [hq0, hN, mix0_length]
            rw [hfin] at hown
            have hqi : ¬ (q : Int) < (a.length : Int) + (b.length : Int) := by omega
            have hgq : Gr w wq := hgr.step hfq (fun b hb => by rw [hb]; exact hgge)
            have hi7 := (hfst0.fr hfq Hne7.out).ints.mono (ok' := fun _ => True) (fun _ _ _ => trivial)
            have hi8 := (hsnd0.fr hfq Hne8.out).ints.mono (ok' := fun _ => True) (fun _ _ _ => trivial)
            go_wp2
            go_ret3
            exact ⟨_, _, _, rfl, ⟨_, hown⟩, hi7, hi8, hgq⟩
end Go.Proofs.YtelfaljidgfphaaGreat
