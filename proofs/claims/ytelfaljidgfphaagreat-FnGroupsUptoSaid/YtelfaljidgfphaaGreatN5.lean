/-
  One variable in the place of each group: plain; the walk of 'Single' (package spec).
-/
import Derived.Test.YtelfaljidgfphaaGreatM2
import Derived.Test.YtelfaljidgfphaaGreatN3
import Derived.Deep.RegionLaw
namespace Go.Proofs.YtelfaljidgfphaaGreat

/-- A declaration whose references are places of declarations; one variable in the place of a group. -/
def singIt (p : List It) (x : It) : It := { kind := if x.kind = 1 then 0 else x.kind, many := if x.kind = 1 then 0 else x.many, refs := x.refs.map fun r => ((own p r.toNat : Nat) : Int) }
def single (p : List It) : List It := p.map (singIt p)

theorem ownersFrom_ones : ∀ (q : List It) (k : Nat), (∀ x ∈ q, x.n = 1) → ownersFrom k q = List.range' k q.length
  | [], _, _ => rfl
  | x :: q, k, h => by
    simp only [ownersFrom, h x (by simp), ownersFrom_ones q (k + 1) (fun y hy => h y (by simp [hy])), List.length_cons, List.range'_succ]
    rfl

section
variable {p : List It}
theorem single_length (p : List It) : (single p).length = p.length := by simp [single]
theorem it_single (p : List It) (k : Nat) : it (single p) k = singIt p (it p k) := by
  unfold it single
  rw [List.getD_eq_getElem?_getD, List.getD_eq_getElem?_getD, List.getElem?_map]
  cases p[k]? with
  | none => rfl
  | some x => rfl
theorem singIt_n (p : List It) (x : It) : (singIt p x).n = 1 := by
  unfold It.n singIt
  by_cases h : x.kind = 1 <;> simp [h]
theorem single_owners (p : List It) : owners (single p) = List.range' 0 p.length := by
  unfold owners
  rw [ownersFrom_ones, single_length]
  intro x hx
  obtain ⟨y, _, rfl⟩ := List.mem_map.1 hx
  exact singIt_n p y
theorem single_cnt (p : List It) : cnt (single p) = p.length := by unfold cnt; rw [single_owners]; simp
theorem single_own {r : Nat} (h : r < p.length) : own (single p) r = r := by
  unfold own
  rw [single_owners, List.getD_eq_getElem?_getD, List.getElem?_range' h]
  simp
theorem single_start {k : Nat} (h : k < p.length) : start (single p) k = k := by
  have h1 := own_spec (p := single p) (r := k) (by rw [single_cnt]; exact h)
  rw [single_own h, it_single, singIt_n] at h1
  omega
theorem single_objs {k : Nat} (h : k < p.length) : objs (single p) k = [k] := by
  unfold objs
  rw [single_start h, it_single, singIt_n]
  rfl
theorem single_kind (p : List It) (k : Nat) : (it (single p) k).kind = if (it p k).kind = 1 then 0 else (it p k).kind := by rw [it_single]; rfl
theorem single_var (p : List It) (k : Nat) : (it (single p) k).var = (it p k).var := by
  unfold It.var
  rw [single_kind]
  by_cases h : (it p k).kind = 1 <;> simp [h]
theorem single_ini (p : List It) (k : Nat) : (it (single p) k).ini = (it p k).ini := by
  unfold It.ini
  rw [single_kind]
  by_cases h : (it p k).kind = 1 <;> simp [h]
theorem single_func (p : List It) (k : Nat) : fFunc (it (single p) k) = fFunc (it p k) := by
  unfold fFunc
  rw [single_kind]
  by_cases h : (it p k).kind = 1 <;> simp [h]
theorem single_ref (hR : ROk p) {k j : Nat} (hk : k < p.length) : (j : Int) ∈ (it (single p) k).refs ↔ ∃ r : Nat, (r : Int) ∈ (it p k).refs ∧ own p r = j := by
  rw [it_single]
  show (j : Int) ∈ (it p k).refs.map _ ↔ _
  rw [List.mem_map]
  constructor
  · rintro ⟨x, hx, he⟩
    have := hR _ (it_mem hk) x hx
    exact ⟨x.toNat, by rw [Int.toNat_of_nonneg this.1]; exact hx, by omega⟩
  · rintro ⟨r, hr, rfl⟩
    exact ⟨r, hr, by rw [Int.toNat_natCast]⟩
theorem single_rch (hR : ROk p) {f : It → Bool} (hf : ∀ k, f (it (single p) k) = f (it p k)) {k j : Nat} (hk : k < p.length) : Rch (single p) f k j ↔ ∃ r, Rch p f k r ∧ own p r = j := by
  constructor
  · intro h
    induction h with
    | ref h1 =>
      obtain ⟨r, h2, h3⟩ := (single_ref hR hk).1 h1
      exact ⟨r, .ref h2, h3⟩
    | @step a s _ h2 h3 ih =>
      obtain ⟨r, h4, rfl⟩ := ih
      have h5 := (own_spec (h4.lt hR hk)).1
      rw [single_own h5] at h2 h3
      rw [hf] at h2
      obtain ⟨t, h6, h7⟩ := (single_ref hR h5).1 h3
      exact ⟨t, .step h4 h2 h6, h7⟩
  · rintro ⟨r, h, rfl⟩
    induction h with
    | ref h1 => exact .ref ((single_ref hR hk).2 ⟨_, h1, rfl⟩)
    | @step a s h1 h2 h3 ih =>
      have h5 := (own_spec (h1.lt hR hk)).1
      refine .step ih ?_ ?_
      · rw [single_own h5, hf]; exact h2
      · rw [single_own h5]; exact (single_ref hR h5).2 ⟨_, h3, rfl⟩
theorem single_cand (hR : ROk p) {ord : List Nat} {k : Nat} : Cand (single p) ord k ↔ Cand p ord k := by
  unfold Cand
  rw [single_length, single_var]
  refine and_congr_right fun hk => and_congr_right fun _ => and_congr_right fun _ => ?_
  unfold Rdy
  constructor
  · intro h r hr
    obtain ⟨h1, h2, h3⟩ := needs_iff.1 hr
    have h4 := (own_spec h1).1
    have := h (own p r) (needs_iff.2 ⟨by rw [single_cnt]; exact h4, (single_rch hR (single_func p) hk).2 ⟨r, h2, rfl⟩, by rw [single_own h4, single_var]; exact h3⟩)
    rwa [single_own h4] at this
  · intro h j hj
    obtain ⟨h1, h2, h3⟩ := needs_iff.1 hj
    obtain ⟨r, h4, rfl⟩ := (single_rch hR (single_func p) hk).1 h2
    have h5 := h4.lt hR hk
    have h6 := (own_spec h5).1
    rw [single_own h6, single_var] at h3
    rw [single_own h6]
    exact h r (needs_iff.2 ⟨h5, h4, h3⟩)
theorem single_steps (hR : ROk p) {ord : List Nat} (h : StepsTo p ord) : StepsTo (single p) ord := by
  induction h with
  | nil => exact .nil
  | snoc _ h2 h3 ih => exact .snoc ih ((single_cand hR).2 h2) (fun j hj hc => h3 j hj ((single_cand hR).1 hc))
theorem single_full {ord : List Nat} (h : Full p ord) : Full (single p) ord := fun k hk hv => h k (by rw [single_length] at hk; exact hk) (by rw [single_var] at hv; exact hv)
theorem single_kok (hK : KOk p) : KOk (single p) := by
  intro x hx
  obtain ⟨y, hy, rfl⟩ := List.mem_map.1 hx
  obtain ⟨h1, h2, h3, h4, h5⟩ := hK y hy
  unfold singIt
  by_cases h : y.kind = 1
  · simp [h]
  · simp only [h, if_false]
    exact ⟨h1, h2, fun h' => h'.elim, fun _ => h4 h, fun h' => by rw [h5 h']; rfl⟩
theorem single_rok (hR : ROk p) : ROk (single p) := by
  intro x hx r hr
  obtain ⟨y, hy, rfl⟩ := List.mem_map.1 hx
  obtain ⟨s, hs, rfl⟩ := List.mem_map.1 (show r ∈ y.refs.map _ from hr)
  have h1 := hR y hy s hs
  have h2 := own_spec (p := p) (r := s.toNat) (by omega)
  rw [single_cnt]
  omega
theorem single_lone (p : List It) : LoneP (single p) := fun k _ r _ _ h1 => by
  rw [single_kind] at h1
  split at h1
  · cases h1
  · contradiction

theorem single_ok (hO : Ok p) (hV : Valid p) : Ok (single p) := by
  obtain ⟨hF, ord, hS, hFu⟩ := hV
  have hK := single_kok hO.kinds
  have hR := single_rok hO.refs
  refine ⟨by rw [single_length]; exact hO.len, hK, hR, fun k hk => ?_, fun r hr h4 hc => ?_, ?_⟩
  · rw [single_length] at hk
    rw [it_single]
    show ((it p k).refs.map _).length ≤ _
    rw [List.length_map]
    exact hO.wt k hk
  · rw [single_cnt] at hr
    unfold kindAt at h4
    rw [single_own hr] at h4 hc
    rw [single_kind] at h4
    obtain ⟨s, h1, h2⟩ := (single_rch hO.refs (f := fAll) (fun _ => rfl) hr).1 hc
    have h5 : (it p r).kind = 4 := by
      split at h4
      · cases h4
      · exact h4
    have h6 := h1.lt hO.refs hr
    obtain ⟨h7, h8, h9⟩ := own_spec h6
    rw [h2] at h8 h9
    have hn : (it p r).n = 1 := by simp [It.n, h5]
    have : s = start p r := by omega
    subst this
    exact hF.2.2.2 r hr h5 h1
  · exact ⟨_, (single_steps hO.refs hS).gdy hK hR (single_lone p), (single_full hFu).gdy (fun k hk => ((single_steps hO.refs hS).lt k hk).1)⟩

/-- The two orders go side by side. -/
theorem single_law (hO : Ok p) (hV : Valid p) (hl : LoneP p) {a b : List (List Nat)} (ha : Em p a) (hb : Em (single p) b) : ∃ l : List Nat, a = l.map (objs p) ∧ b = l.map (fun k => [k]) ∧ ∀ k ∈ l, k < p.length := by
  obtain ⟨hF, ord, hS, hFu⟩ := hV
  obtain ⟨L, h1, h2, rfl⟩ := ha
  obtain ⟨M, h3, h4, rfl⟩ := hb
  have hlt : ∀ k ∈ ord, k < p.length := fun k hk => (hS.lt k hk).1
  refine ⟨ord.filter fun k => (it p k).ini, order_law hO.kinds hO.refs hl hS hFu h1 h2, ?_, fun k hk => hlt k (List.mem_filter.1 hk).1⟩
  rw [order_law (single_kok hO.kinds) (single_rok hO.refs) (single_lone p) (single_steps hO.refs hS) (single_full hFu) h3 h4]
  have e : ord.filter (fun k => (it (single p) k).ini) = ord.filter (fun k => (it p k).ini) := List.filter_congr fun k _ => by rw [single_ini]
  rw [e]
  exact List.map_congr_left fun k hk => single_objs (hlt k (List.mem_filter.1 hk).1)
end
open Go.RowKit

theorem itCells_set0 : ∀ (l : List It) (vs : List Value) (k : Nat) (x : Int), vs.length = l.length → k < l.length → (itCells l vs).set (k * 3) (.int .i64 x) = itCells (l.set k { it l k with kind := x }) vs
  | [], _, k, _, _, h => by simp at h
  | y :: l, [], k, _, h, _ => by simp at h
  | y :: l, v :: vs, 0, x, _, _ => by simp [itCells, it, intV]
  | y :: l, v :: vs, k + 1, x, h, hk => by
    have ih := itCells_set0 l vs k x (by simpa using h) (by simpa using hk)
    have e : (k + 1) * 3 = k * 3 + 1 + 1 + 1 := by omega
    rw [e]
    simp only [itCells, List.set_cons_succ]
    rw [ih]
    simp [it]
theorem itCells_set1 : ∀ (l : List It) (vs : List Value) (k : Nat) (x : Int), vs.length = l.length → k < l.length → (itCells l vs).set (k * 3 + 1) (.int .i64 x) = itCells (l.set k { it l k with many := x }) vs
  | [], _, k, _, _, h => by simp at h
  | y :: l, [], k, _, h, _ => by simp at h
  | y :: l, v :: vs, 0, x, _, _ => by simp [itCells, it, intV]
  | y :: l, v :: vs, k + 1, x, h, hk => by
    have ih := itCells_set1 l vs k x (by simpa using h) (by simpa using hk)
    have e : (k + 1) * 3 + 1 = k * 3 + 1 + 1 + 1 + 1 := by omega
    rw [e]
    simp only [itCells, List.set_cons_succ]
    rw [ih]
    simp [it]

/-- Another kind, or another number of variables, is laid: the references stay. -/
theorem OwnIts.setAt {w : World} {B g o n c e : Nat} {l : List It} (h : OwnIts w B e (.slice (some ⟨g, o, none⟩) n c) l) {k j : Nat} (hk : k < l.length) (hj : j < l.length * 3) {u : Value} {y : It} (hy : y.refs = (it l k).refs)
    (hs : ∀ vs : List Value, vs.length = l.length → (itCells l vs).set j u = itCells (l.set k y) vs) :
    OwnIts (w.setCell ⟨g, o + j, none⟩ u) B e (.slice (some ⟨g, o, none⟩) n c) (l.set k y) := by
  obtain ⟨vs, h1, h2, h3⟩ := h
  obtain rfl : n = l.length := by
    obtain ⟨A', c', e'⟩ := h2.arr.val
    simp only [Value.slice.injEq] at e'
    exact e'.2.1
  have hf := fr_set w g (o + j) u
  refine ⟨vs, by simpa using h1, ?_, fun i x z hx hz => ?_⟩
  · have h4 := h2.set rfl (j := j) (by omega) u
    rw [hs vs h1] at h4
    rw [List.length_set]
    exact h4
  · have h5 : ∃ x', l[i]? = some x' ∧ x'.refs = x.refs := by
      rw [List.getElem?_set] at hx
      by_cases e1 : k = i
      · subst e1
        rw [if_pos rfl, if_pos hk] at hx
        cases hx
        exact ⟨_, it_get hk, hy.symm⟩
      · rw [if_neg e1] at hx
        exact ⟨x, hx, rfl⟩
    obtain ⟨x', hx', hr⟩ := h5
    have h6 := (h3 i x' z hx' hz).fr hf (fun b hb e => hb (by rw [e]; rfl))
    rw [hr] at h6
    exact h6

/-- The first k declarations turned. -/
def upTo (p : List It) (f : Nat → It) (k : Nat) : List It := (List.range p.length).map fun i => if i < k then f i else it p i
theorem upTo_length (p : List It) (f : Nat → It) (k : Nat) : (upTo p f k).length = p.length := by simp [upTo]
theorem upTo_zero (p : List It) (f : Nat → It) : upTo p f 0 = p := by
  unfold upTo
  apply List.ext_getElem?
  intro i
  rw [List.getElem?_map]
  by_cases h : i < p.length
  · rw [List.getElem?_range h, it_get h]; simp
  · simp [h]
theorem it_upTo {p : List It} {f : Nat → It} {k i : Nat} (hi : i < p.length) : it (upTo p f k) i = if i < k then f i else it p i := by
  apply it_of
  unfold upTo
  rw [List.getElem?_map, List.getElem?_range hi]; rfl
theorem upTo_succ {p : List It} {f : Nat → It} {k : Nat} (hk : k < p.length) : (upTo p f k).set k (f k) = upTo p f (k + 1) := by
  apply List.ext_getElem?
  intro i
  rw [List.getElem?_set, upTo_length]
  by_cases e : k = i
  · subst e
    rw [if_pos rfl, if_pos hk]
    unfold upTo
    rw [List.getElem?_map, List.getElem?_range hk]
    simp
  · rw [if_neg e]
    unfold upTo
    rw [List.getElem?_map, List.getElem?_map]
    by_cases h : i < p.length
    · rw [List.getElem?_range h]
      have : (i < k + 1) ↔ i < k := by omega
      simp [this]
    · simp [h]
theorem single_upTo (p : List It) : single p = upTo p (fun i => singIt p (it p i)) p.length := by
  unfold single upTo
  apply List.ext_getElem?
  intro i
  rw [List.getElem?_map, List.getElem?_map]
  by_cases h : i < p.length
  · rw [List.getElem?_range h, it_get h]; simp [h]
  · simp [h]

def SinRel0 (w : World) (i : Value) (wr : World) : Prop := i = .int .i64 0 ∧ wr = w
def SinRel (w : World) (p : List It) (g o c : Nat) (i : Value) (wr : World) : Prop :=
  ∃ k : Nat, k ≤ p.length ∧ i = .int .i64 k ∧ OwnIts wr w.heap.size 47 (.slice (some ⟨g, o, none⟩) p.length c) (upTo p (fun i => singIt p (it p i)) k) ∧ Gr w wr
/-- The references of a declaration, as places, the first m. -/
def sinCur (p : List It) (k m : Nat) : List Int := ((it p k).refs.take m).map fun r => ((own p r.toNat : Nat) : Int)
def SinRel2 (w1 : World) (Bk : Nat) (p l : List It) (g o c k : Nat) (i : Value) (wx : World) : Prop :=
  ∃ (m : Nat) (u : Value), m ≤ (it p k).refs.length ∧ i = .int .i64 (m : Int) ∧ OutIn w1.heap.size Bk g o c l k (sinCur p k m) u wx ∧ Gr w1 wx ∧ Bk ≤ wx.heap.size

/-- What 'Single' returns. -/
def PSingle (w : World) (p : List It) (e : Ending) (w' : World) : Prop :=
  ∃ v vo, e = .returned (.tuple #[v, vo]) ∧ (∃ B, OwnIts w' B 47 v (single p)) ∧ Gr w w'

set_option maxHeartbeats 4000000 in
set_option maxRecDepth 100000 in
theorem Single_any (w : World) (ok : Nat → Prop) (A : Option Addr) (c : Nat) (p : List It) (hp : Its w ok (.slice A p.length c) p) (hk : KOk p) (hr : ROk p) (hl : p.length ≤ 2097152) (hw : wt p ≤ 4194304) :
    Calls Tryz.prog 29 #[.slice A p.length c] w (PSingle w p) := by
  have hcnt := cnt_le hk
  have hcnt : cnt p ≤ 209715200 := by omega
  have hcopy := fun (w1 : World) (hg1 : Gr w w1) => copy_items (hp.gr hg1) hl 26
  go_enter Tryz.func29, Tryz.ntmps29
  go_wp2_with (first
    | (at_builtin; refine wpList_appended rfl _ _ _ _ rfl rfl rfl Hr2 ?_)
    | (go_at_call 46; refine (owners_any w ok A c p hp hk hl).mono ?_; rintro e w1 ⟨v1, rfl, ho1, hg1⟩; obtain ⟨Ao, co, rfl⟩ := ho1.val; obtain ⟨v2, w2, Hr2, hi2, hg2⟩ := hcopy w1 hg1))
  clear hcopy
  by_cases hn0 : p.length = 0
  · have hpz : p = [] := List.eq_nil_of_length_eq_zero hn0
    subst hpz
    obtain ⟨A2, c2, rfl⟩ := hi2.its.val
    go_loopw [16] (SinRel0 w2) (fun _ _ => 0)
    case atStart => exact ⟨rfl, rfl⟩
    case round =>
      obtain ⟨rfl, rfl⟩ := hrel
      go_wp2
      go_ret2
      exact ⟨_, _, rfl, ⟨_, hi2⟩, hg1.trans hg2⟩
  · obtain ⟨vs1, hv1, hv2, hv3⟩ := hi2
    obtain ⟨g, o, c1, cur1, rfl, hgge, hgrow, hcap1, hsz1, -⟩ := hv2.at_ (by omega)
    have ho1' : OwnIts w2 w1.heap.size 47 (.slice (some ⟨g, o, none⟩) p.length c1) (upTo p (fun i => singIt p (it p i)) 0) := by rw [upTo_zero]; exact ⟨vs1, hv1, hv2, hv3⟩
    clear hv2 hv3
    go_loopw [16] (SinRel w1 p g o c1) (fun i _ => p.length - (intOf i).toNat)
    case atStart => exact ⟨0, by omega, rfl, ho1', hg2⟩
    case round =>
      obtain ⟨k, hkp, rfl, hown, hgr⟩ := hrel
      clear ho1'
      by_cases hlt : k < p.length
      · have hgw := hg1.trans hgr
        obtain ⟨b, oo, A', c', rfl, -, -, q0, q1, q2, hrefs⟩ := hp.at_ hlt
        replace q0 := hgw.cell q0
        replace q1 := hgw.cell q1
        replace q2 := hgw.cell q2
        have hki : (k : Int) < (p.length : Int) := by omega
        have hrl := refs_le_wt hlt
        obtain ⟨l, hlE⟩ : ∃ l, l = upTo p (fun i => singIt p (it p i)) k := ⟨_, rfl⟩
        rw [← hlE] at hown
        have hnl : l.length = p.length := by rw [hlE, upTo_length]
        have hitk : it l k = it p k := by rw [hlE, it_upTo hlt, if_neg (by omega)]
        have hnext : Hid (l.set k (singIt p (it p k)) = upTo p (fun i => singIt p (it p i)) (k + 1)) := by show _ = _; rw [hlE]; exact upTo_succ hlt
        have hkl : k < l.length := by rw [hnl]; exact hlt
        obtain ⟨cv, ⟨curR, rowR⟩, cellR, frozR⟩ := hown.cellAt hkl
        have hgl : g < wr.heap.size := heap_lt rowR
        by_cases h1 : (it p k).kind = 1
        · have hk1 : ((it p k).kind == 1) = true := by simpa using h1
          obtain ⟨b', o', A1, c1', he, -, -, e0, e1, e2, -⟩ := hown.its.at_ hkl
          simp only [Option.some.injEq, Addr.mk.injEq, and_true] at he
          obtain ⟨rfl, rfl⟩ := he
          rw [hitk] at e0
          clear e1 e2
          have H1 := Lib.hid h1
          clear h1
          have hown1 := hown.setAt hkl (j := k * 3) (by omega) (u := .int .i64 0) (y := { it l k with kind := 0 }) rfl (fun vs h => itCells_set0 l vs k 0 h hkl)
          have hkl1 : k < (l.set k { it l k with kind := 0 }).length := by simpa using hkl
          have hit1 : it (l.set k { it l k with kind := 0 }) k = { it l k with kind := 0 } := it_of (by rw [List.getElem?_set, if_pos rfl, if_pos hkl])
          obtain ⟨b', o', A1, c1', he, -, -, -, f1, -, -⟩ := hown1.its.at_ hkl1
          simp only [Option.some.injEq, Addr.mk.injEq, and_true] at he
          obtain ⟨rfl, rfl⟩ := he
          obtain ⟨-, ⟨cu1, row1⟩, -, froz1⟩ := hown1.cellAt hkl1
          have hown2 := hown1.setAt hkl1 (j := k * 3 + 1) (by omega) (u := .int .i64 0) (y := { it (l.set k { it l k with kind := 0 }) k with many := 0 }) rfl (fun vs h => itCells_set1 _ vs k 0 h hkl1)
          rw [← Nat.add_assoc] at hown2
          rw [hit1, List.set_set] at hown2
          have hkl2 : k < (l.set k { it l k with kind := 0, many := 0 }).length := by simpa using hkl
          obtain ⟨cv2, ⟨cu2, row2⟩, cell2, froz2⟩ := hown2.cellAt hkl2
          have hfS := (fr_set wr g (o + k * 3) (.int .i64 0)).trans (fr_set (wr.setCell ⟨g, o + k * 3, none⟩ (.int .i64 0)) g (o + k * 3 + 1) (.int .i64 0))
          clear hown1 row1 row2 hit1 hkl1
          have hklS : k < (l.set k { it l k with kind := 0, many := 0 }).length := by simpa using hkl
          have hlenS : (l.set k { it l k with kind := 0, many := 0 }).length = p.length := by simpa using hnl
          have hout := OutIn.start (by rw [hlenS]; exact hown2) hklS
          have hf2 := fr_set ((wr.setCell ⟨g, o + k * 3, none⟩ (.int .i64 0)).setCell ⟨g, o + k * 3 + 1, none⟩ (.int .i64 0)) g (o + k * 3 + 2) (.slice none 0 0)
          have hszS : ((wr.setCell ⟨g, o + k * 3, none⟩ (.int .i64 0)).setCell ⟨g, o + k * 3 + 1, none⟩ (.int .i64 0)).heap.size = wr.heap.size := by simp
          have hbx := heap_alloc_new (((wr.setCell ⟨g, o + k * 3, none⟩ (.int .i64 0)).setCell ⟨g, o + k * 3 + 1, none⟩ (.int .i64 0)).setCell ⟨g, o + k * 3 + 2, none⟩ (.slice none 0 0)) (.cells #[.int .i64 (it p k).kind, .int .i64 (it p k).many, .slice A' (it p k).refs.length c'] 47)
          simp only [size_set] at hbx
          have z0 := (cell_row hbx 0).trans rfl
          have z1 := (cell_row hbx 1).trans rfl
          have z2 := (cell_row hbx 2).trans rfl
          have hg3 : Gr w1 ((((wr.setCell ⟨g, o + k * 3, none⟩ (.int .i64 0)).setCell ⟨g, o + k * 3 + 1, none⟩ (.int .i64 0)).setCell ⟨g, o + k * 3 + 2, none⟩ (.slice none 0 0)).alloc (.cells #[.int .i64 (it p k).kind, .int .i64 (it p k).many, .slice A' (it p k).refs.length c'] 47)) := (hgr.step (S := fun b => b = g) (by first | exact hfS.trans hf2 | exact hf2) (fun b hb => by omega)).alloc _
          obtain ⟨Bk, hBk⟩ : ∃ Bk, Bk = ((wr.setCell ⟨g, o + k * 3, none⟩ (.int .i64 0)).setCell ⟨g, o + k * 3 + 1, none⟩ (.int .i64 0)).heap.size := ⟨_, rfl⟩
          rw [← hBk] at hout
          have hBk1 : w1.heap.size ≤ Bk := by have := hgr.size; omega
          have hBk2 : Bk ≤ ((((wr.setCell ⟨g, o + k * 3, none⟩ (.int .i64 0)).setCell ⟨g, o + k * 3 + 1, none⟩ (.int .i64 0)).setCell ⟨g, o + k * 3 + 2, none⟩ (.slice none 0 0)).alloc (.cells #[.int .i64 (it p k).kind, .int .i64 (it p k).many, .slice A' (it p k).refs.length c'] 47)).heap.size := by rw [World.size_alloc, size_set]; omega
          have Hout := Lib.hid hout
          have Hg3 := Lib.hid hg3
          have HBk2 := Lib.hid hBk2
          clear hout hg3 hBk2 hfS hf2 hszS hBk
          go_wp2
          go_loopw [39] (SinRel2 w1 Bk p (l.set k { it l k with kind := 0, many := 0 }) g o c1 k) (fun i _ => (it p k).refs.length - (intOf i).toNat)
          case atStart => exact ⟨0, _, by omega, rfl, Hout.out.gr ((Gr.refl _).alloc _), Hg3.out, HBk2.out⟩
          case round =>
            rename World => wx
            clear Hout hbx z0 z1 z2 Hg3 HBk2 cellR frozR rowR q0 q1 q2
            obtain ⟨m, u, hm, rfl, hout, hgx, hsx⟩ := hrel
            by_cases hml : m < (it p k).refs.length
            · obtain ⟨x, hx⟩ := get_lt hml
              obtain ⟨hx0, hx1⟩ := hr _ (it_mem hlt) x (List.mem_of_getElem? hx)
              obtain ⟨r, rfl⟩ : ∃ r : Nat, x = (r : Int) := ⟨x.toNat, by omega⟩
              have hrn : r < cnt p := by omega
              have hgwx := hg1.trans hgx
              obtain ⟨b2, o2, rfl, -, hb2, hc⟩ := (hrefs.gr hgwx).at_ hml
              have cx := hc _ hx
              obtain ⟨g3, o3, cap3, cur3, he3, -, hrow3, -, -, hc3⟩ := (ho1.gr hgx).at_ (by omega)
              simp only [Value.slice.injEq] at he3
              obtain ⟨rfl, -, rfl⟩ := he3
              have cr := hc3 r _ (intsV_get (owners_getD hrn))
              have hg3l : g3 < wx.heap.size := heap_lt hrow3
              have hmi : (m : Int) < ((it p k).refs.length : Int) := by omega
              have hri : (r : Int) < (cnt p : Int) := by omega
              have Htk : Hid (sinCur p k (m + 1) = sinCur p k m ++ [((own p r : Nat) : Int)]) := by show _ = _; unfold sinCur; rw [take_snoc hx, List.map_append]; rfl
              clear hc hc3 hx hx0 hx1 hrow3
              obtain ⟨⟨cr7, hrow7⟩, hcell7, hfroz7, hgB⟩ := hout.cellAt hklS
              have hout' := hout
              obtain ⟨vs7, -, -, -, how7, hgk7⟩ := hout'
              have hglx : g < wx.heap.size := heap_lt hrow7
              have hne1 : ¬ g = wx.heap.size := by omega
              have hne2 : ¬ wx.heap.size = g := by omega
              have hne3 : ¬ g3 = wx.heap.size := by omega
              have hne4 : ¬ wx.heap.size = g3 := by omega
              have hl7 : (sinCur p k m).length = m := by unfold sinCur; rw [List.length_map, List.length_take]; omega
              obtain ⟨v9, w9, Hr9, ho9, hf9, -, -, -⟩ := app1 (P := Tryz.prog) (w := wx.drew) (t := 29) (ty := 29) elem3 Tryz.underlying29 (how7.gr (Gr.refl wx).drew) (.int .i64 ((own p r : Nat) : Int)) rfl (by exact hsx) (by omega) (by omega)
              replace hf9 : Fr (fun b => u.ownBlock = some b) wx w9 := ⟨hf9.os, hf9.tape, hf9.output, hf9.size, hf9.block⟩
              obtain ⟨A9, c9, rfl⟩ := ho9.val
              have hug : ∀ b, u.ownBlock = some b → Bk ≤ b ∧ ∃ cr', wx.heap[b]? = some (.cells cr' 3 (0, 0)) := fun b hb => ⟨(how7.blk b hb).1, how7.row hb⟩
              have hrow9 := hf9.heap hrow7 (fun e => by obtain ⟨_, cr', h⟩ := hug _ e; exact ne_cells h hrow7 (by decide) rfl)
              have hcell9 := hf9.cell hcell7 (fun e => by obtain ⟨_, cr', h⟩ := hug _ e; exact ne_cells h hrow7 (by decide) rfl)
              have hfroz9 := frozen_row hrow9
              have Hmore := Lib.hid (hout.more (cur' := sinCur p k m ++ [((own p r : Nat) : Int)]) (u' := .slice A9 ((sinCur p k m).length + 1) c9) (w' := w9) hklS (by simpa [intV] using ho9) hf9)
              have hg9 : Gr w1 w9 := hgx.step hf9 (fun b hb => by have := (hug b hb).1; omega)
              have j8 : ∀ o', (wx.alloc o').cell? ⟨g, o + k * 3 + 2, none⟩ = some u := fun o' => Gr.cell ((Gr.refl wx).alloc o') hcell7
              rw [hl7] at Hr9 Hmore
              clear how7 hl7
              go_wp2
              go_region_law (first | (refine step_appended rfl _ _ _ _ rfl rfl rfl Hr9 ?_))
              all_goals (
                go_wp2
                go_roundw
                case rel =>
                  refine ⟨m + 1, .slice A9 (m + 1) c9, by omega, by go_num, ?_, hg9.step (fr_set _ _ _ _) (fun b hb => by omega), by have := hf9.size; rw [size_set]; omega⟩
                  rw [Htk.out]
                  exact Hmore.out
                case measure => simp [intOf]; omega)
            · have hm0 : m = (it p k).refs.length := by omega
              subst hm0
              have hdone := hout.done hklS
              rw [hlenS] at hdone
              have hfin : Hid ((l.set k { it l k with kind := 0, many := 0 }).set k { it (l.set k { it l k with kind := 0, many := 0 }) k with refs := sinCur p k (it p k).refs.length } = upTo p (fun i => singIt p (it p i)) (k + 1)) := by
                show _ = _
                rw [← hnext.out]
                unfold sinCur
                rw [List.take_length]
                have e2 : it (l.set k { it l k with kind := 0, many := 0 }) k = { it l k with kind := 0, many := 0 } := it_of (by rw [List.getElem?_set, if_pos rfl, if_pos hkl])
                rw [e2, List.set_set, hitk]
                unfold singIt
                rw [if_pos H1.out, if_pos H1.out]
              rw [hfin.out] at hdone
              go_wp2
              go_roundw
              case rel => exact ⟨k + 1, by omega, by go_num, hdone, hgx⟩
              case measure => simp [intOf]; omega
        · have hk1 : ((it p k).kind == 1) = false := by simpa using h1
          have H1 := Lib.hid h1
          clear h1
          have hfS := Fr.refl (fun b => b = g) wr
          have hklS : k < l.length := by simpa using hkl
          have hlenS : l.length = p.length := by simpa using hnl
          have hout := OutIn.start (by rw [hlenS]; exact hown) hklS
          have hf2 := fr_set wr g (o + k * 3 + 2) (.slice none 0 0)
          have hszS : wr.heap.size = wr.heap.size := by simp
          have hbx := heap_alloc_new (wr.setCell ⟨g, o + k * 3 + 2, none⟩ (.slice none 0 0)) (.cells #[.int .i64 (it p k).kind, .int .i64 (it p k).many, .slice A' (it p k).refs.length c'] 47)
          simp only [size_set] at hbx
          have z0 := (cell_row hbx 0).trans rfl
          have z1 := (cell_row hbx 1).trans rfl
          have z2 := (cell_row hbx 2).trans rfl
          have hg3 : Gr w1 ((wr.setCell ⟨g, o + k * 3 + 2, none⟩ (.slice none 0 0)).alloc (.cells #[.int .i64 (it p k).kind, .int .i64 (it p k).many, .slice A' (it p k).refs.length c'] 47)) := (hgr.step (S := fun b => b = g) (by first | exact hfS.trans hf2 | exact hf2) (fun b hb => by omega)).alloc _
          obtain ⟨Bk, hBk⟩ : ∃ Bk, Bk = wr.heap.size := ⟨_, rfl⟩
          rw [← hBk] at hout
          have hBk1 : w1.heap.size ≤ Bk := by have := hgr.size; omega
          have hBk2 : Bk ≤ ((wr.setCell ⟨g, o + k * 3 + 2, none⟩ (.slice none 0 0)).alloc (.cells #[.int .i64 (it p k).kind, .int .i64 (it p k).many, .slice A' (it p k).refs.length c'] 47)).heap.size := by rw [World.size_alloc, size_set]; omega
          have Hout := Lib.hid hout
          have Hg3 := Lib.hid hg3
          have HBk2 := Lib.hid hBk2
          clear hout hg3 hBk2 hfS hf2 hszS hBk
          go_wp2
          go_loopw [39] (SinRel2 w1 Bk p l g o c1 k) (fun i _ => (it p k).refs.length - (intOf i).toNat)
          case atStart => exact ⟨0, _, by omega, rfl, Hout.out.gr ((Gr.refl _).alloc _), Hg3.out, HBk2.out⟩
          case round =>
            rename World => wx
            clear Hout hbx z0 z1 z2 Hg3 HBk2 cellR frozR rowR q0 q1 q2
            obtain ⟨m, u, hm, rfl, hout, hgx, hsx⟩ := hrel
            by_cases hml : m < (it p k).refs.length
            · obtain ⟨x, hx⟩ := get_lt hml
              obtain ⟨hx0, hx1⟩ := hr _ (it_mem hlt) x (List.mem_of_getElem? hx)
              obtain ⟨r, rfl⟩ : ∃ r : Nat, x = (r : Int) := ⟨x.toNat, by omega⟩
              have hrn : r < cnt p := by omega
              have hgwx := hg1.trans hgx
              obtain ⟨b2, o2, rfl, -, hb2, hc⟩ := (hrefs.gr hgwx).at_ hml
              have cx := hc _ hx
              obtain ⟨g3, o3, cap3, cur3, he3, -, hrow3, -, -, hc3⟩ := (ho1.gr hgx).at_ (by omega)
              simp only [Value.slice.injEq] at he3
              obtain ⟨rfl, -, rfl⟩ := he3
              have cr := hc3 r _ (intsV_get (owners_getD hrn))
              have hg3l : g3 < wx.heap.size := heap_lt hrow3
              have hmi : (m : Int) < ((it p k).refs.length : Int) := by omega
              have hri : (r : Int) < (cnt p : Int) := by omega
              have Htk : Hid (sinCur p k (m + 1) = sinCur p k m ++ [((own p r : Nat) : Int)]) := by show _ = _; unfold sinCur; rw [take_snoc hx, List.map_append]; rfl
              clear hc hc3 hx hx0 hx1 hrow3
              obtain ⟨⟨cr7, hrow7⟩, hcell7, hfroz7, hgB⟩ := hout.cellAt hklS
              have hout' := hout
              obtain ⟨vs7, -, -, -, how7, hgk7⟩ := hout'
              have hglx : g < wx.heap.size := heap_lt hrow7
              have hne1 : ¬ g = wx.heap.size := by omega
              have hne2 : ¬ wx.heap.size = g := by omega
              have hne3 : ¬ g3 = wx.heap.size := by omega
              have hne4 : ¬ wx.heap.size = g3 := by omega
              have hl7 : (sinCur p k m).length = m := by unfold sinCur; rw [List.length_map, List.length_take]; omega
              obtain ⟨v9, w9, Hr9, ho9, hf9, -, -, -⟩ := app1 (P := Tryz.prog) (w := wx.drew) (t := 29) (ty := 29) elem3 Tryz.underlying29 (how7.gr (Gr.refl wx).drew) (.int .i64 ((own p r : Nat) : Int)) rfl (by exact hsx) (by omega) (by omega)
              replace hf9 : Fr (fun b => u.ownBlock = some b) wx w9 := ⟨hf9.os, hf9.tape, hf9.output, hf9.size, hf9.block⟩
              obtain ⟨A9, c9, rfl⟩ := ho9.val
              have hug : ∀ b, u.ownBlock = some b → Bk ≤ b ∧ ∃ cr', wx.heap[b]? = some (.cells cr' 3 (0, 0)) := fun b hb => ⟨(how7.blk b hb).1, how7.row hb⟩
              have hrow9 := hf9.heap hrow7 (fun e => by obtain ⟨_, cr', h⟩ := hug _ e; exact ne_cells h hrow7 (by decide) rfl)
              have hcell9 := hf9.cell hcell7 (fun e => by obtain ⟨_, cr', h⟩ := hug _ e; exact ne_cells h hrow7 (by decide) rfl)
              have hfroz9 := frozen_row hrow9
              have Hmore := Lib.hid (hout.more (cur' := sinCur p k m ++ [((own p r : Nat) : Int)]) (u' := .slice A9 ((sinCur p k m).length + 1) c9) (w' := w9) hklS (by simpa [intV] using ho9) hf9)
              have hg9 : Gr w1 w9 := hgx.step hf9 (fun b hb => by have := (hug b hb).1; omega)
              have j8 : ∀ o', (wx.alloc o').cell? ⟨g, o + k * 3 + 2, none⟩ = some u := fun o' => Gr.cell ((Gr.refl wx).alloc o') hcell7
              rw [hl7] at Hr9 Hmore
              clear how7 hl7
              go_wp2
              go_region_law (first | (refine step_appended rfl _ _ _ _ rfl rfl rfl Hr9 ?_))
              all_goals (
                go_wp2
                go_roundw
                case rel =>
                  refine ⟨m + 1, .slice A9 (m + 1) c9, by omega, by go_num, ?_, hg9.step (fr_set _ _ _ _) (fun b hb => by omega), by have := hf9.size; rw [size_set]; omega⟩
                  rw [Htk.out]
                  exact Hmore.out
                case measure => simp [intOf]; omega)
            · have hm0 : m = (it p k).refs.length := by omega
              subst hm0
              have hdone := hout.done hklS
              rw [hlenS] at hdone
              have hfin : Hid (l.set k { it l k with refs := sinCur p k (it p k).refs.length } = upTo p (fun i => singIt p (it p i)) (k + 1)) := by
                show _ = _
                rw [← hnext.out]
                unfold sinCur
                rw [List.take_length]
                rw [hitk]
                unfold singIt
                rw [if_neg H1.out, if_neg H1.out]
              rw [hfin.out] at hdone
              go_wp2
              go_roundw
              case rel => exact ⟨k + 1, by omega, by go_num, hdone, hgx⟩
              case measure => simp [intOf]; omega
      · have hk0 : k = p.length := by omega
        subst hk0
        go_wp2
        go_ret2
        exact ⟨_, _, rfl, ⟨_, by rw [single_upTo]; exact hown⟩, hg1.trans hgr⟩
end Go.Proofs.YtelfaljidgfphaaGreat
