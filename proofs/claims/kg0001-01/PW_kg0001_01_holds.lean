import PyProof.Rows.All
import Wide.All
import OpenK.AllK
import PyProof.ExcFactsAll.RuntimeError
import PyProof.CollectIter
import KE.KRevIter
import Wide.FinOn
import PySem.Challenge.RW_kg0001_01
set_option autoImplicit false
set_option Elab.async false
set_option maxRecDepth 100000
/-! part C3Pure -/
namespace Mine
/-- no row holds c behind its head -/
def okc (rs : List (List Int)) (c : Int) : Bool := rs.all fun r => !(r.tail.contains c)
/-- the first head that no row holds behind its head -/
def pick (rs : List (List Int)) : Option Int := (rs.filterMap List.head?).find? (okc rs)
def cut (c : Int) (r : List Int) : List Int := if r.head? == some c then r.tail else r
def ne (rs : List (List Int)) : List (List Int) := rs.filter fun r => !r.isEmpty
def tot (rs : List (List Int)) : Nat := (rs.map List.length).sum
theorem mem_ne {rs : List (List Int)} {r : List Int} : r ∈ ne rs ↔ r ∈ rs ∧ r ≠ [] := by
  simp [ne, List.mem_filter]
theorem okc_iff {rs : List (List Int)} {c : Int} : okc rs c = true ↔ ∀ r ∈ rs, c ∉ r.tail := by
  simp [okc, List.all_eq_true]
theorem tot_ne (rs : List (List Int)) : tot (ne rs) = tot rs := by
  induction rs with
  | nil => rfl
  | cons r rs ih =>
    cases r with
    | nil => simpa [ne, tot] using ih
    | cons a r => simp only [ne, tot, List.filter_cons] at ih ⊢; simp [ih]
theorem cut_le (c : Int) (r : List Int) : (cut c r).length ≤ r.length := by
  unfold cut; split <;> simp
theorem tot_cut_le (c : Int) (rs : List (List Int)) : tot (rs.map (cut c)) ≤ tot rs := by
  induction rs with
  | nil => exact Nat.le_refl _
  | cons r rs ih => simp only [tot, List.map_cons, List.sum_cons] at ih ⊢; have := cut_le c r; omega
theorem tot_cut_lt {c : Int} {rs : List (List Int)} (h : ∃ r ∈ rs, r.head? = some c) : tot (rs.map (cut c)) < tot rs := by
  induction rs with
  | nil => obtain ⟨_, h, _⟩ := h; cases h
  | cons r rs ih =>
    have hle := tot_cut_le c rs
    obtain ⟨q, hq, hc⟩ := h
    simp only [tot, List.map_cons, List.sum_cons] at ih hle ⊢
    rcases List.mem_cons.mp hq with rfl | hq
    · have : (cut c q).length < q.length := by
        cases q with
        | nil => cases hc
        | cons a t => simp at hc; subst hc; simp [cut]
      omega
    · have := ih ⟨q, hq, hc⟩
      have := cut_le c r
      omega
theorem pick_some {rs : List (List Int)} {c : Int} (h : pick rs = some c) : okc rs c = true ∧ ∃ r ∈ rs, r.head? = some c := by
  unfold pick at h
  refine ⟨List.find?_some h, ?_⟩
  have := List.mem_of_find?_eq_some h
  simpa [List.mem_filterMap] using this
theorem step_lt {rs : List (List Int)} {c : Int} (h : pick (ne rs) = some c) : tot ((ne rs).map (cut c)) < tot rs := by
  have := tot_cut_lt (pick_some h).2
  rwa [tot_ne] at this
def merge (rs : List (List Int)) : Option (List Int) :=
  if ne rs = [] then some [] else
  match h : pick (ne rs) with
  | none => none
  | some c => (merge ((ne rs).map (cut c))).map (c :: ·)
termination_by tot rs
decreasing_by exact step_lt h
theorem merge_nil {rs : List (List Int)} (h : ne rs = []) : merge rs = some [] := by
  rw [merge, if_pos h]
theorem merge_none {rs : List (List Int)} (h : ne rs ≠ []) (hp : pick (ne rs) = none) : merge rs = none := by
  rw [merge, if_neg h]; split
  · rfl
  · rename_i c hc; rw [hp] at hc; cases hc
theorem merge_some {rs : List (List Int)} {c : Int} (h : ne rs ≠ []) (hp : pick (ne rs) = some c) : merge rs = (merge ((ne rs).map (cut c))).map (c :: ·) := by
  rw [merge, if_neg h]; split
  · rename_i hc; rw [hp] at hc; cases hc
  · rename_i c' hc; rw [hp] at hc; cases hc; rfl
/-- induction along merge -/
theorem merge_ind (P : List (List Int) → Prop) (h : ∀ rs, (∀ c, ne rs ≠ [] → pick (ne rs) = some c → P ((ne rs).map (cut c))) → P rs) : ∀ rs, P rs := by
  intro rs
  generalize hn : tot rs = n
  induction n using Nat.strongRecOn generalizing rs with
  | ind n ih => exact h rs fun c hne hp => ih _ (by rw [← hn]; exact step_lt hp) _ rfl
theorem cut_mem {c : Int} {r : List Int} {x : Int} (h : x ∈ cut c r) : x ∈ r := by
  unfold cut at h; split at h
  · exact List.mem_of_mem_tail h
  · exact h
theorem not_mem_cut {c : Int} {r : List Int} (h : c ∉ r.tail) : c ∉ cut c r := by
  unfold cut
  split
  · exact h
  · rename_i hh
    cases r with
    | nil => simp
    | cons a t =>
      simp at hh h ⊢
      exact ⟨fun e => hh e.symm, h⟩
theorem merge_spec : ∀ rs t, merge rs = some t → t.Nodup ∧ (∀ r ∈ rs, r.Sublist t) ∧ ∀ x ∈ t, ∃ r ∈ rs, x ∈ r := by
  intro rs
  induction rs using merge_ind with
  | h rs ih =>
    intro t ht
    by_cases hne : ne rs = []
    · rw [merge_nil hne] at ht; cases ht
      refine ⟨List.nodup_nil, fun r hr => ?_, fun x hx => by cases hx⟩
      by_cases hr0 : r = []
      · rw [hr0]; exact List.Sublist.refl _
      · have : r ∈ ne rs := mem_ne.mpr ⟨hr, hr0⟩
        rw [hne] at this; cases this
    · cases hp : pick (ne rs) with
      | none => rw [merge_none hne hp] at ht; cases ht
      | some c =>
        rw [merge_some hne hp] at ht
        obtain ⟨t', ht', rfl⟩ := Option.map_eq_some_iff.mp ht
        obtain ⟨hnd, hsub, hel⟩ := ih c hne hp t' ht'
        obtain ⟨hok, q, hq, hqc⟩ := pick_some hp
        rw [okc_iff] at hok
        refine ⟨List.nodup_cons.mpr ⟨fun hc => ?_, hnd⟩, fun r hr => ?_, fun x hx => ?_⟩
        · obtain ⟨r', hr', hx⟩ := hel c hc
          obtain ⟨r, hr, rfl⟩ := List.mem_map.mp hr'
          exact not_mem_cut (hok r hr) hx
        · by_cases hr0 : r = []
          · rw [hr0]; exact List.nil_sublist _
          · have hr' : r ∈ ne rs := mem_ne.mpr ⟨hr, hr0⟩
            have hs := hsub _ (List.mem_map.mpr ⟨r, hr', rfl⟩)
            cases r with
            | nil => exact absurd rfl hr0
            | cons a u =>
              unfold cut at hs
              split at hs
              · rename_i hh
                simp at hh; subst hh
                exact List.Sublist.cons_cons a hs
              · exact List.Sublist.cons c hs
        · rcases List.mem_cons.mp hx with rfl | hx
          · exact ⟨q, (mem_ne.mp hq).1, List.mem_of_head? hqc⟩
          · obtain ⟨r', hr', hx⟩ := hel x hx
            obtain ⟨r, hr, rfl⟩ := List.mem_map.mp hr'
            exact ⟨r, (mem_ne.mp hr).1, cut_mem hx⟩
/-- a row under x :: t, x not in t -/
theorem under_cons {x : Int} {t r : List Int} (hx : x ∉ t) (hr : r.Sublist (x :: t)) : (x ∉ r ∧ r.Sublist t) ∨ ∃ u, r = x :: u ∧ u.Sublist t ∧ x ∉ u := by
  rcases List.sublist_cons_iff.mp hr with h | ⟨u, rfl, h⟩
  · exact .inl ⟨fun hm => hx (h.subset hm), h⟩
  · exact .inr ⟨u, rfl, h, fun hm => hx (h.subset hm)⟩
theorem free_head : ∀ (t : List Int), t.Nodup → ∀ rs : List (List Int), rs ≠ [] → (∀ r ∈ rs, r ≠ []) → (∀ r ∈ rs, r.Sublist t) → ∃ c, okc rs c = true ∧ ∃ r ∈ rs, r.head? = some c := by
  intro t
  induction t with
  | nil =>
    intro _ rs h0 h1 h2
    cases rs with
    | nil => exact absurd rfl h0
    | cons r rs => exact absurd (List.sublist_nil.mp (h2 r List.mem_cons_self)) (h1 r List.mem_cons_self)
  | cons x t ih =>
    intro hnd rs h0 h1 h2
    obtain ⟨hx, hnd⟩ := List.nodup_cons.mp hnd
    by_cases hin : ∃ r ∈ rs, x ∈ r
    · obtain ⟨r, hr, hxr⟩ := hin
      refine ⟨x, okc_iff.mpr fun q hq hxq => ?_, r, hr, ?_⟩
      · rcases under_cons hx (h2 q hq) with ⟨h, _⟩ | ⟨u, rfl, _, h⟩
        · exact h (List.mem_of_mem_tail hxq)
        · exact h hxq
      · rcases under_cons hx (h2 r hr) with ⟨h, _⟩ | ⟨u, rfl, _, _⟩
        · exact absurd hxr h
        · rfl
    · refine ih hnd rs h0 h1 fun r hr => ?_
      rcases under_cons hx (h2 r hr) with ⟨_, h⟩ | ⟨u, rfl, _, _⟩
      · exact h
      · exact absurd ⟨_, hr, List.mem_cons_self⟩ hin
theorem cut_sublist (c : Int) {r t : List Int} (hc : c ∉ r.tail) (h : r.Sublist t) : (cut c r).Sublist (t.filter (· != c)) := by
  have e : cut c r = r.filter (· != c) := by
    cases r with
    | nil => rfl
    | cons a u =>
      simp at hc
      have hu : u.filter (· != c) = u := List.filter_eq_self.mpr fun x hx => by
        simp; rintro rfl; exact hc hx
      unfold cut
      by_cases hac : a = c
      · subst hac; simp [hu]
      · simp [hac, hu]
  rw [e]
  exact h.filter _
theorem pick_ne_none {rs : List (List Int)} (h : ∃ c, okc rs c = true ∧ ∃ r ∈ rs, r.head? = some c) : pick rs ≠ none := by
  obtain ⟨c, hok, r, hr, hc⟩ := h
  intro e
  unfold pick at e
  rw [List.find?_eq_none] at e
  exact e c (List.mem_filterMap.mpr ⟨r, hr, hc⟩) hok
theorem merge_total : ∀ rs t, t.Nodup → (∀ r ∈ rs, r.Sublist t) → merge rs ≠ none := by
  intro rs
  induction rs using merge_ind with
  | h rs ih =>
    intro t hnd hsub
    by_cases hne : ne rs = []
    · rw [merge_nil hne]; exact fun h => by cases h
    · cases hp : pick (ne rs) with
      | none =>
        exact absurd hp (pick_ne_none (free_head t hnd _ hne (fun r hr => (mem_ne.mp hr).2) fun r hr => hsub r (mem_ne.mp hr).1))
      | some c =>
        rw [merge_some hne hp]
        have hok := okc_iff.mp (pick_some hp).1
        intro e
        refine ih c hne hp (t.filter (· != c)) (hnd.filter _) (fun r' hr' => ?_) (Option.map_eq_none_iff.mp e)
        obtain ⟨r, hr, rfl⟩ := List.mem_map.mp hr'
        exact cut_sublist c (hok r hr) (hsub r (mem_ne.mp hr).1)
/-- refused or not hangs on the rows' set alone -/
theorem merge_none_of {rs rs' : List (List Int)} (h : ∀ r, r ∈ rs' → r ∈ rs) (e : merge rs' = none) : merge rs = none := by
  cases hm : merge rs with
  | none => rfl
  | some t =>
    obtain ⟨h1, h2, _⟩ := merge_spec rs t hm
    exact absurd e (merge_total rs' t h1 fun r hr => h2 r (h r hr))
theorem merge_reverse_none (rs : List (List Int)) : merge rs.reverse = none ↔ merge rs = none :=
  ⟨merge_none_of fun r hr => List.mem_reverse.mp hr, merge_none_of fun r hr => List.mem_reverse.mpr hr⟩
theorem pick_twice (rs : List (List Int)) : pick (rs ++ rs) = pick rs := by
  unfold pick
  have e : okc (rs ++ rs) = okc rs := by funext c; simp [okc]
  rw [e, List.filterMap_append, List.find?_append]
  cases (rs.filterMap List.head?).find? (okc rs) <;> rfl
theorem ne_append (a b : List (List Int)) : ne (a ++ b) = ne a ++ ne b := by simp [ne]
theorem merge_twice : ∀ rs, merge (rs ++ rs) = merge rs := by
  intro rs
  induction rs using merge_ind with
  | h rs ih =>
    by_cases hne : ne rs = []
    · rw [merge_nil hne, merge_nil (by rw [ne_append, hne]; rfl)]
    · have hne2 : ne (rs ++ rs) ≠ [] := by rw [ne_append]; simp [hne]
      cases hp : pick (ne rs) with
      | none => rw [merge_none hne hp, merge_none hne2 (by rw [ne_append, pick_twice, hp])]
      | some c =>
        rw [merge_some hne hp, merge_some (c := c) hne2 (by rw [ne_append, pick_twice, hp])]
        rw [ne_append, List.map_append, ih c hne hp]
theorem merge_ahead : ∀ (t : List Int), t.Nodup → ∀ rs : List (List Int), (∀ r ∈ rs, r.Sublist t) → merge (t :: rs) = some t := by
  intro t
  induction t with
  | nil =>
    intro _ rs h
    refine merge_nil ?_
    refine List.filter_eq_nil_iff.mpr fun r hr => ?_
    rcases List.mem_cons.mp hr with rfl | hr
    · simp
    · simp [List.sublist_nil.mp (h r hr)]
  | cons x t ih =>
    intro hnd rs h
    obtain ⟨hx, hnd⟩ := List.nodup_cons.mp hnd
    have e : ne ((x :: t) :: rs) = (x :: t) :: ne rs := by simp [ne]
    have hok : okc ((x :: t) :: ne rs) x = true := okc_iff.mpr fun r hr => by
      rcases List.mem_cons.mp hr with rfl | hr
      · exact hx
      · rcases under_cons hx (h r (mem_ne.mp hr).1) with ⟨h, _⟩ | ⟨u, rfl, _, h⟩
        · exact fun hm => h (List.mem_of_mem_tail hm)
        · exact h
    have hp : pick (ne ((x :: t) :: rs)) = some x := by
      rw [e]; unfold pick
      show List.find? _ (x :: _) = _
      rw [List.find?_cons_of_pos hok]
    rw [merge_some (by rw [e]; simp) hp, e, List.map_cons, show cut x (x :: t) = t by simp [cut], ih hnd]
    · rfl
    · intro r' hr'
      obtain ⟨r, hr, rfl⟩ := List.mem_map.mp hr'
      have hr0 := (mem_ne.mp hr)
      rcases under_cons hx (h r hr0.1) with ⟨h1, h2⟩ | ⟨u, rfl, h1, h2⟩
      · have : cut x r = r := by
          unfold cut
          rw [if_neg]
          intro hh
          exact h1 (List.mem_of_head? (by simpa using hh))
        rw [this]; exact h2
      · simpa [cut] using h1
theorem merge_self {rs : List (List Int)} {t : List Int} (h : merge rs = some t) : merge (t :: rs) = some t :=
  have ⟨h1, h2, _⟩ := merge_spec rs t h
  merge_ahead t h1 rs h2
/-- the heads of the rows that are not empty; those that no row holds behind its head -/
def heads (rs : List (List Int)) : List Int := rs.filterMap List.head?
def free (rs : List (List Int)) : List Int := (heads rs).filter (okc rs)
theorem heads_ne (rs : List (List Int)) : heads (ne rs) = heads rs := by
  induction rs with
  | nil => rfl
  | cons r rs ih =>
    cases r with
    | nil => exact ih
    | cons a r => show a :: heads (ne rs) = a :: heads rs; rw [ih]
theorem okc_ne (rs : List (List Int)) : okc (ne rs) = okc rs := by
  funext c
  rw [Bool.eq_iff_iff, okc_iff, okc_iff]
  refine ⟨fun h r hr => ?_, fun h r hr => h r (mem_ne.mp hr).1⟩
  by_cases hr0 : r = []
  · subst hr0; simp
  · exact h r (mem_ne.mpr ⟨hr, hr0⟩)
theorem merge_first {rs : List (List Int)} {t : List Int} (h : merge rs = some t) : t.take 1 = (free rs).take 1 := by
  have hf : (free rs).take 1 = (pick (ne rs)).toList := by
    unfold pick free
    rw [okc_ne]
    show _ = ((heads (ne rs)).find? (okc rs)).toList
    rw [heads_ne, ← List.head?_filter]
    cases (heads rs).filter (okc rs) <;> rfl
  rw [hf]
  by_cases hne : ne rs = []
  · rw [merge_nil hne] at h; cases h
    rw [hne]; rfl
  · cases hp : pick (ne rs) with
    | none => rw [merge_none hne hp] at h; cases h
    | some c =>
      rw [merge_some hne hp] at h
      obtain ⟨t', _, rfl⟩ := Option.map_eq_some_iff.mp h
      rfl
theorem merge_perm {rs rs' : List (List Int)} {t t' : List Int} (h : merge rs = some t) (h' : merge rs' = some t') (hm : ∀ r, r ∈ rs ↔ r ∈ rs') : t.Perm t' := by
  obtain ⟨n, s, e⟩ := merge_spec rs t h
  obtain ⟨n', s', e'⟩ := merge_spec rs' t' h'
  rw [List.perm_iff_count]
  intro x
  have hx : x ∈ t ↔ x ∈ t' := by
    constructor
    · intro hx; obtain ⟨r, hr, hxr⟩ := e x hx; exact (s' r ((hm r).mp hr)).subset hxr
    · intro hx; obtain ⟨r, hr, hxr⟩ := e' x hx; exact (s r ((hm r).mpr hr)).subset hxr
  by_cases h1 : x ∈ t
  · rw [n.count, n'.count, if_pos h1, if_pos (hx.mp h1)]
  · rw [List.count_eq_zero_of_not_mem h1, List.count_eq_zero_of_not_mem fun q => h1 (hx.mpr q)]
end Mine
open PySem PySem.W PySem.Calls PyProof.Rows
/-! part C3Base -/
namespace Mine
/-! the parts of the given text, by where they stand -/
def defAt (i : Nat) : Stmt := (PySem.Challenge.pw_kg0001_01.main.body[i]?).getD (.Pass ⟨0, 0, 0, 0⟩)
def bodyOf : Stmt → List Stmt
  | .FunctionDef _ _ b _ _ _ _ _ _ _ => b
  | .While _ b _ _ => b
  | .For _ _ b _ _ => b
  | .If _ b _ _ => b
  | .Try b _ _ _ _ => b
  | _ => []
def elseOf : Stmt → List Stmt
  | .While _ _ b _ => b
  | .For _ _ _ b _ => b
  | .If _ _ b _ => b
  | _ => []
def testOf : Stmt → Expr
  | .While t _ _ _ => t
  | .If t _ _ _ => t
  | _ => .Constant .none 0 ⟨0, 0, 0, 0⟩
def scopeOf : Stmt → Scope
  | .FunctionDef _ _ _ _ _ _ sc _ _ _ => sc
  | _ => { kind := .module, names := [], isGenerator := false, isCoroutine := false }
def argsOf : Stmt → Arguments
  | .FunctionDef _ a _ _ _ _ _ _ _ _ => a
  | _ => { posonlyargs := [], args := [], vararg := none, kwonlyargs := [], kw_defaults := [], kwarg := none, defaults := [] }
def stAt (b : List Stmt) (i : Nat) : Stmt := (b[i]?).getD (.Pass ⟨0, 0, 0, 0⟩)
def c3 : Stmt := defAt 1
def told : Stmt := defAt 3
def law : Stmt := defAt 4
def c3B : List Stmt := bodyOf c3
def toldB : List Stmt := bodyOf told
def lawB : List Stmt := bodyOf law
/-- the while's body -/
def whB : List Stmt := bodyOf (stAt c3B 1)
/-- a list object of ints -/
def Row (h : Heap) (a : Addr) (r : List Int) : Prop := ∃ vs : List Value, h.PlainList a vs.toArray ∧ IntsAre vs r
theorem Row.at {h h' : Heap} {a : Addr} {r : List Int} (x : Row h a r) (k : ∀ o, h.get? a = some o → h'.get? a = some o) : Row h' a r :=
  let ⟨vs, p, i⟩ := x; ⟨vs, p.at k, i⟩
theorem Row.there {h : Heap} {a : Addr} {r : List Int} (x : Row h a r) : ∃ o, h.get? a = some o ∧ o.cls = .type "list" ∧ ∃ it n, o.data = .seq it n :=
  let ⟨_, ⟨n, e⟩, _⟩ := x; ⟨_, e, rfl, _, n, rfl⟩
/-- rows, one under the other -/
inductive Rows (h : Heap) : List Addr → List (List Int) → Prop
  | nil : Rows h [] []
  | cons {a r as rs} : Row h a r → Rows h as rs → Rows h (a :: as) (r :: rs)
theorem Rows.mono {h h' : Heap} {as : List Addr} {rs : List (List Int)} (x : Rows h as rs) (k : ∀ a ∈ as, ∀ o, h.get? a = some o → h'.get? a = some o) : Rows h' as rs := by
  induction x with
  | nil => exact .nil
  | cons r _ ih => exact .cons (r.at (k _ List.mem_cons_self)) (ih fun a ha => k a (List.mem_cons_of_mem _ ha))
theorem Rows.length {h : Heap} {as : List Addr} {rs : List (List Int)} (x : Rows h as rs) : as.length = rs.length := by
  induction x with
  | nil => rfl
  | cons _ _ ih => simp [ih]
theorem Rows.get {h : Heap} {as : List Addr} {rs : List (List Int)} (x : Rows h as rs) : ∀ {i : Nat} {a : Addr}, as[i]? = some a → ∃ r, rs[i]? = some r ∧ Row h a r := by
  induction x with
  | nil => intro i a e; simp at e
  | cons r _ ih =>
    intro i a e
    cases i with
    | zero => simp at e; subst e; exact ⟨_, rfl, r⟩
    | succ i => simp at e; obtain ⟨q, e', y⟩ := ih e; exact ⟨q, by simpa using e', y⟩
theorem Rows.mem {h : Heap} {as : List Addr} {rs : List (List Int)} (x : Rows h as rs) {a : Addr} (ha : a ∈ as) : ∃ r ∈ rs, Row h a r := by
  obtain ⟨i, hi, e⟩ := List.getElem_of_mem ha
  obtain ⟨r, e', y⟩ := x.get (i := i) (a := a) (by simp [hi, e])
  exact ⟨r, List.mem_of_getElem? e', y⟩
theorem Rows.append {h : Heap} {as bs : List Addr} {rs qs : List (List Int)} (x : Rows h as rs) (y : Rows h bs qs) : Rows h (as ++ bs) (rs ++ qs) := by
  induction x with
  | nil => exact y
  | cons r _ ih => exact .cons r ih
theorem Rows.reverse {h : Heap} {as : List Addr} {rs : List (List Int)} (x : Rows h as rs) : Rows h as.reverse rs.reverse := by
  induction x with
  | nil => exact .nil
  | cons r _ ih => simpa using ih.append (.cons r .nil)
theorem Rows.snoc {h : Heap} {as : List Addr} {rs : List (List Int)} {a : Addr} {r : List Int} (x : Rows h as rs) (y : Row h a r) : Rows h (as ++ [a]) (rs ++ [r]) := x.append (.cons y .nil)
theorem Rows.take {h : Heap} {as : List Addr} {rs : List (List Int)} (x : Rows h as rs) : ∀ n, Rows h (as.take n) (rs.take n) := by
  induction x with
  | nil => intro n; simpa using Rows.nil
  | cons r _ ih =>
    intro n
    cases n with
    | zero => exact .nil
    | succ n => exact .cons r (ih n)
theorem ints_truth {vs : List Value} {r : List Int} (h : IntsAre vs r) : vs.isEmpty = r.isEmpty := by cases h <;> rfl
/-- a list is no namespace -/
theorem list_ne_ns {h : Heap} {a L : Addr} {its : Array Value} {m : Str → Option Value} (hl : h.IsList a its) (hn : h.Ns L m) : a ≠ L := by
  rintro rfl
  obtain ⟨o, ho, _, n, hd⟩ := hl
  obtain ⟨o', es, ep, ho', hd', _⟩ := hn
  rw [ho] at ho'; cases ho'
  rw [hd] at hd'; cases hd'
theorem Row.ne_ns {h : Heap} {a L : Addr} {r : List Int} {m : Str → Option Value} (x : Row h a r) (hn : h.Ns L m) : a ≠ L :=
  let ⟨_, p, _⟩ := x; list_ne_ns p.isList hn
theorem fresh_of {h : Heap} {a : Addr} {o : Obj} (e : h.get? a = some o) {D : Addr} (hD : h.get? D = none) : a ≠ D := by
  rintro rfl; rw [hD] at e; cases e
/-! the world: the globals, the built-in names, the two defs -/
structure Wd (mg mb : Str → Option Value) (fc ft : Addr) (cc ct : Value) (h : Heap) : Prop where
  g : h.Ns mainGlobals mg
  b : h.Ns builtinsNs mb
  nolimit : h.NoLimit
  c3 : ∃ o pm doc, mg (Str.ofString "_c3_merge") = some (.ref fc) ∧ h.get? fc = some o ∧ o.data = .func (docDef (Str.ofString "_c3_merge") (argsOf c3) c3B (scopeOf Mine.c3) pm cc doc) ∧ h.CodeRec cc (Str.ofString "_c3_merge")
  told : ∃ o pm doc, mg (Str.ofString "_law_told") = some (.ref ft) ∧ h.get? ft = some o ∧ o.data = .func (docDef (Str.ofString "_law_told") (argsOf told) toldB (scopeOf Mine.told) pm ct doc) ∧ h.CodeRec ct (Str.ofString "_law_told")
  gl : mg (Str.ofString "list") = none ∧ mg (Str.ofString "reversed") = none ∧ mg (Str.ofString "sorted") = none ∧ mg (Str.ofString "RuntimeError") = none
  bl : mb (Str.ofString "list") = some (.type "list") ∧ mb (Str.ofString "reversed") = some (.type "reversed") ∧ mb (Str.ofString "sorted") = some (.builtin "sorted") ∧ mb (Str.ofString "RuntimeError") = some (.type "RuntimeError")
theorem Wd.keeps {mg mb : Str → Option Value} {fc ft : Addr} {cc ct : Value} {h h' : Heap} (x : Wd mg mb fc ft cc ct h) (k : ∀ b o, h.get? b = some o → h'.get? b = some o) : Wd mg mb fc ft cc ct h' where
  g := x.g.keeps k
  b := x.b.keeps k
  nolimit := x.nolimit.keeps k
  c3 := let ⟨o, pm, doc, a, b, c, d⟩ := x.c3; ⟨o, pm, doc, a, k _ _ b, c, d.keeps k⟩
  told := let ⟨o, pm, doc, a, b, c, d⟩ := x.told; ⟨o, pm, doc, a, k _ _ b, c, d.keeps k⟩
  gl := x.gl
  bl := x.bl
end Mine
/-! part C3Ops -/
namespace Mine
section
variable {prog : Program} {w : World} {A : Around} {E : Value → Shared → Prop} {s : Shared} {env : Env}
def eqB (c : Int) : Value → Bool
  | .int n _ => n == c
  | _ => false
theorem eqB_any {vs : List Value} {r : List Int} (h : IntsAre vs r) (c : Int) : vs.toArray.any (eqB c) = r.contains c := by
  rw [List.any_toArray]
  induction h with
  | nil => rfl
  | cons n t _ ih =>
    rw [List.any_cons, ih, List.contains_cons]
    show (n == c || _) = (c == n || _)
    rw [show (n == c) = (c == n) from Bool.beq_comm ..]
theorem eqB_gives {vs : List Value} {r : List Int} (h : IntsAre vs r) (c : Int) (t : Tok) : ∀ y, y ∈ vs.toArray → MeetsSeq.EqGives y (.int c t) (eqB c y) := by
  intro y hy
  obtain ⟨n, u, rfl⟩ := h.all y (by simpa using hy)
  exact MeetsSeq.EqGives.int n c u t
theorem in_ints {l : Addr} {vs : List Value} {r : List Int} {c : Int} {t : Tok} {Q : Value → Shared → Prop} (hl : s.heap.IsList l vs.toArray) (hi : IntsAre vs r) (h : Q (.bool (r.contains c)) s) :
    wpAny (model prog w) A (compareOp .In (.int c t) (.ref l)) Q E s :=
  SeqInW.in_listW (eqB c) (eqB_gives hi c t) hl (by rw [eqB_any hi]; exact h)
theorem notIn_ints {l : Addr} {vs : List Value} {r : List Int} {c : Int} {t : Tok} {Q : Value → Shared → Prop} (hl : s.heap.IsList l vs.toArray) (hi : IntsAre vs r) (h : Q (.bool (!r.contains c)) s) :
    wpAny (model prog w) A (compareOp .NotIn (.int c t) (.ref l)) Q E s :=
  SeqInW.notIn_listW (eqB c) (eqB_gives hi c t) hl (by rw [eqB_any hi]; exact h)
/-- the heap h' holds all of h -/
abbrev Up (h h' : Heap) : Prop := ∀ b o, h.get? b = some o → h'.get? b = some o
theorem Up.refl (h : Heap) : Up h h := fun _ _ e => e
theorem Up.trans {a b c : Heap} (x : Up a b) (y : Up b c) : Up a c := fun _ _ e => y _ _ (x _ _ e)
theorem Up.push (h : Heap) (o : Obj) : Up h (h.push o) := fun _ _ e => Heap.get?_push_of_some _ e
theorem Up.none {h h' : Heap} (x : Up h h') {a : Addr} (e : h'.get? a = none) : h.get? a = none := by
  cases q : h.get? a with
  | none => rfl
  | some o => rw [x _ _ q] at e; cases e
theorem get_size (h : Heap) : h.get? h.objs.size = none := Heap.get?_none_of_le (Nat.le_refl _)
theorem slice_tail {value : Expr} {k : Nat} {lp p pos : Pos} {Q : Value → Shared → Prop}
    (h : wpAny (model prog w) A (eval value env) (fun o s₁ => ∃ a vs r, o = .ref a ∧ s₁.heap.IsList a (List.toArray vs) ∧ IntsAre vs r ∧ r.length ≤ sizeLine ∧
      ∀ D h' tk us, h'.IsList D (List.toArray us) → IntsAre us r.tail → Up s₁.heap h' → s₁.heap.get? D = none → Q (.ref D) { s₁ with heap := h', toks := tk }) E s)
    (ht : ∀ o r, letTemporaryGo value o r = pure () := by intro _ _; rfl) :
    wpAny (model prog w) A (eval (.Subscript value (.Slice (some (.Constant (.int 1) k lp)) none none p) pos) env) Q E s := by
  refine wpAny_Subscript_list_slice (wpAny_mono h (fun o s₁ h₁ => ?_) fun _ _ e => e) ht
  obtain ⟨a, vs, r, rfl, hl, hi, hsz, hQ⟩ := h₁
  refine evalPart_some_step (wpAny_Constant_int (evalPart_none_step ?_))
  refine ⟨a, _, some 1, none, rfl, hl, by rw [List.size_toArray, hi.length]; exact hsz, .int 1 _, .none, ?_⟩
  have e : slicePick vs.toArray (some 1) none none = (vs.drop 1).toArray := by
    cases hv : vs with
    | nil => rfl
    | cons x xs => exact slicePick_from (x :: xs).toArray 1 (by simp)
  rw [e]
  refine hQ _ _ _ (vs.drop 1) ?_ ?_ ((Up.push _ _).trans (Up.push _ _)) (Heap.get?_none_of_le (Nat.le_succ _))
  · exact ⟨_, by have := Heap.get?_push_size (s₁.heap.push { cls := .type "slice", data := .fields #[.int 1 s₁.toks, .none, .none] }) (o := { cls := .type "list", data := .seq (vs.drop 1).toArray }) rfl; rwa [Heap.size_push] at this, rfl, _, rfl⟩
  · rw [← List.drop_one]; exact hi.drop 1
theorem slice_one {value : Expr} {k : Nat} {lp p pos : Pos} {Q : Value → Shared → Prop}
    (h : wpAny (model prog w) A (eval value env) (fun o s₁ => ∃ a vs r, o = .ref a ∧ s₁.heap.IsList a (List.toArray vs) ∧ IntsAre vs r ∧ r.length ≤ sizeLine ∧
      ∀ D h' tk us, h'.IsList D (List.toArray us) → IntsAre us (r.take 1) → Up s₁.heap h' → s₁.heap.get? D = none → Q (.ref D) { s₁ with heap := h', toks := tk }) E s)
    (ht : ∀ o r, letTemporaryGo value o r = pure () := by intro _ _; rfl) :
    wpAny (model prog w) A (eval (.Subscript value (.Slice none (some (.Constant (.int 1) k lp)) none p) pos) env) Q E s := by
  refine wpAny_Subscript_list_slice (wpAny_mono h (fun o s₁ h₁ => ?_) fun _ _ e => e) ht
  obtain ⟨a, vs, r, rfl, hl, hi, hsz, hQ⟩ := h₁
  refine evalPart_none_step (evalPart_some_step (wpAny_Constant_int ?_))
  refine ⟨a, _, none, some 1, rfl, hl, by rw [List.size_toArray, hi.length]; exact hsz, .none, .int 1 _, ?_⟩
  have e : slicePick vs.toArray none (some 1) none = (vs.take 1).toArray := by
    cases hv : vs with
    | nil => rfl
    | cons x xs => exact slicePick_upto (x :: xs).toArray 1 (by simp)
  rw [e]
  refine hQ _ _ _ (vs.take 1) ?_ (hi.take 1) ((Up.push _ _).trans (Up.push _ _)) (Heap.get?_none_of_le (Nat.le_succ _))
  exact ⟨_, by have := Heap.get?_push_size (s₁.heap.push { cls := .type "slice", data := .fields #[.none, .int 1 s₁.toks, .none] }) (o := { cls := .type "list", data := .seq (vs.take 1).toArray }) rfl; rwa [Heap.size_push] at this, rfl, _, rfl⟩
/-- an item of a list at 0 -/
theorem item0 {value : Expr} {k : Nat} {lp pos : Pos} {Q : Value → Shared → Prop}
    (h : wpAny (model prog w) A (eval value env) (fun o s₁ => ∃ a vs c r, o = .ref a ∧ s₁.heap.IsList a (List.toArray vs) ∧ IntsAre vs (c :: r) ∧ ∀ t tk, Q (.int c t) { s₁ with toks := tk }) E s) :
    wpAny (model prog w) A (eval (.Subscript value (.Constant (.int 0) k lp) pos) env) Q E s := by
  refine Subscript_ (wpAny_mono h (fun o s₁ h₁ => wpAny_Constant_int ?_) fun _ _ e => e)
  obtain ⟨a, vs, c, r, rfl, hl, hi, hQ⟩ := h₁
  obtain ⟨t, vs', rfl, _⟩ := hi.cons_inv
  exact tail_any (s := { s₁ with toks := s₁.toks + 1 }) (ops := [.ref a, .int 0 s₁.toks]) hl.typeIs slot_list_getitem.lookup (wpAny_getItem_list (s := { s₁ with toks := s₁.toks + 1 }) hl (by decide) (by decide) (x := .int c t) rfl (hQ t _)) (by with_unfolding_all rfl)
/-- the last item of a list -/
theorem item_last {value : Expr} {k : Nat} {lp up pos : Pos} {Q : Value → Shared → Prop}
    (h : wpAny (model prog w) A (eval value env) (fun o s₁ => ∃ a vs v, o = .ref a ∧ s₁.heap.IsList a (List.toArray (vs ++ [v])) ∧ (vs.length : Int) + 1 < 2 ^ 63 ∧ ∀ tk, Q v { s₁ with toks := tk }) E s) :
    wpAny (model prog w) A (eval (.Subscript value (.UnaryOp .USub (.Constant (.int 1) k lp) up) pos) env) Q E s := by
  refine Subscript_ (wpAny_mono h (fun o s₁ h₁ => wpAny_UnaryOp (wpAny_Constant_int (neg_int ?_))) fun _ _ e => e)
  obtain ⟨a, vs, v, rfl, hl, hz, hQ⟩ := h₁
  refine tail_any (s := { s₁ with toks := s₁.toks + 1 + 1 }) (ops := [.ref a, .int (-1) (s₁.toks + 1)]) hl.typeIs slot_list_getitem.lookup (wpAny_getItem_list_neg (s := { s₁ with toks := s₁.toks + 1 + 1 }) hl (by decide) (by simp <;> omega) (by decide) (x := v) ?_ (hQ _)) (by with_unfolding_all rfl)
  simp only [List.size_toArray, List.length_append, List.length_singleton]
  rw [show ((-1 : Int) + ((vs.length + 1 : Nat) : Int)).toNat = vs.length by omega]
  simp
end
end Mine
/-! part C3Loop -/
namespace Mine
/-- m' is m but at the names xs -/
def Agr (xs : List Str) (m m' : Str → Option Value) : Prop := ∀ y, y ∉ xs → m' y = m y
theorem Agr.refl (xs : List Str) (m : Str → Option Value) : Agr xs m m := fun _ _ => rfl
theorem Agr.set {xs : List Str} {m m' : Str → Option Value} (h : Agr xs m m') (x : Str) (v : Value) (hx : x ∈ xs) : Agr xs m (fun y => if y = x then some v else m' y) := fun y hy => by
  show (if y = x then some v else m' y) = m y
  have e : y ≠ x := fun e => hy (by rw [e]; exact hx)
  rw [if_neg e]; exact h y hy
theorem Agr.trans {xs : List Str} {a b c : Str → Option Value} (h : Agr xs a b) (h' : Agr xs b c) : Agr xs a c := fun y hy => (h' y hy).trans (h y hy)
theorem Agr.mono {xs ys : List Str} {a b : Str → Option Value} (h : Agr xs a b) (k : ∀ x ∈ xs, x ∈ ys) : Agr ys a b := fun y hy => h y fun hx => hy (k y hx)
/-- all of h but at L stands in h' -/
abbrev But (L : Addr) (h h' : Heap) : Prop := ∀ b o, b ≠ L → h.get? b = some o → h'.get? b = some o
abbrev nSeqs : Str := Str.ofString "sequences"
abbrev nRes : Str := Str.ofString "result"
abbrev nS1 : Str := Str.ofString "s1"
abbrev nS2 : Str := Str.ofString "s2"
abbrev nCand : Str := Str.ofString "candidate"
abbrev nSeq : Str := Str.ofString "seq"
abbrev cEnv (L f : Addr) (cd : Value) : Env := envOf (Str.ofString "_c3_merge") (scopeOf c3) L f cd
section
variable {prog : Program} {w : World} {A : Around} {E : Value → Shared → Prop} {s : Shared} {L f : Addr} {cd : Value} {m : Str → Option Value} {S : Addr} {as : List Addr} {rs : List (List Int)} {c : Int} {t : Tok}
theorem okc_take {rs : List (List Int)} {i : Nat} {r : List Int} (h : okc (rs.take i) c = true) (hr : rs[i]? = some r) (hc : r.tail.contains c = false) : okc (rs.take (i + 1)) c = true := by
  rw [okc_iff] at h ⊢
  intro q hq
  rw [List.take_add_one, hr] at hq
  rcases List.mem_append.mp hq with hq | hq
  · exact h q hq
  · simp at hq; subst hq; simpa using hc
set_option maxRecDepth 100000 in
theorem inner_for {Q : Flow → Shared → Prop} (hh : A.handled = none) (hn : s.heap.Ns L m) (hS : m nSeqs = some (.ref S)) (hc : m nCand = some (.int c t))
    (hl : s.heap.IsList S (as.map Value.ref).toArray) (hr : Rows s.heap as rs) (hz : ∀ r ∈ rs, r.length ≤ sizeLine)
    (hgood : okc rs c = true → ∀ h' tk m', h'.Ns L m' → Agr [nS2] m m' → But L s.heap h' → Q .brk { s with heap := h', toks := tk })
    (hbad : okc rs c = false → ∀ h' tk m', h'.Ns L m' → Agr [nS2, nCand] m m' → m' nCand = some .none → But L s.heap h' → Q .next { s with heap := h', toks := tk }) :
    wpAny (model prog w) A (exec (stAt (bodyOf (stAt whB 2)) 1) (cEnv L f cd)) Q E s := by
  refine wpAny_For (wpAny_Name (wpAny_loadName_local rfl rfl hn hS (wpAny_pyIter_list hl ?_)))
  obtain ⟨oS, hoS, _⟩ := id hl
  have hSI : S ≠ s.heap.objs.size := Nat.ne_of_lt (Heap.lt_size hoS)
  have hLI : s.heap.objs.size ≠ L := Nat.ne_of_gt hn.lt
  have hSL : S ≠ L := list_ne_ns hl hn
  refine codeAny_forLoop (fun n s' => ∃ h' tk m' i, s' = { s with heap := h', toks := tk } ∧ h'.IsListIter s.heap.objs.size S i ∧ h'.Ns L m' ∧ Agr [nS2] m m' ∧
    (∀ b o, b ≠ L → b ≠ s.heap.objs.size → s.heap.get? b = some o → h'.get? b = some o) ∧ okc (rs.take i) c = true ∧ i ≤ as.length ∧ n = as.length + 1 - i) ?_ (as.length + 1)
    ⟨_, s.toks, m, 0, rfl, ⟨_, Heap.get?_push_size _ rfl, rfl, rfl⟩, hn.push _, .refl _ _, fun b o _ _ e => Heap.get?_push_of_some _ e, rfl, Nat.zero_le _, rfl⟩
  rintro n s' ⟨h', tk, m', i, rfl, hit, hn', hm, hk, hok, hi, rfl⟩
  have hl' : h'.IsList S (as.map Value.ref).toArray := hl.at fun o e => hk S o hSL hSI e
  have up : ∀ {h₂ : Heap}, (∀ b o, b ≠ L → b ≠ s.heap.objs.size → h'.get? b = some o → h₂.get? b = some o) → But L s.heap h₂ := fun k b o hb e =>
    k b o hb (Nat.ne_of_lt (Heap.lt_size e)) (hk b o hb (Nat.ne_of_lt (Heap.lt_size e)) e)
  cases hv : as[i]? with
  | none =>
    have hi' : i = as.length := Nat.le_antisymm hi (by simpa using hv)
    refine wpAny_pyNext_list_end hh hit hl' (by simp [hv]) fun h₁ he₁ => ?_
    refine wpAny_execs_cons (wpAny_Break ?_)
    refine hgood ?_ _ _ m' (hn'.extBut he₁ (Ne.symm hLI)) hm (up fun b o _ hb e => he₁ b o hb e)
    rwa [hi', hr.length, List.take_length] at hok
  | some a =>
    obtain ⟨r, hri, hrow⟩ := hr.get hv
    obtain ⟨vs, hpl, hints⟩ := id hrow
    have hlt : i < as.length := (List.getElem?_eq_some_iff.mp hv).1
    refine wpAny_pyNext_list_item hit hl' (x := .ref a) (by simp [hv]) fun h₁ hit₁ hs₁ => ?_
    refine wpAny_assign_Name (wpAny_storeName_local rfl (hn'.sameBut hs₁ (Ne.symm hLI)) (fun h₂ hn₂ hs₂ => ?_) rfl)
    have haL : a ≠ L := hrow.ne_ns hn
    have hpl₂ : h₂.PlainList a vs.toArray := hpl.at fun o e => hs₂.extBut a o haL (hs₁.extBut a o (Nat.ne_of_lt (Heap.lt_size e)) (hk a o haL (Nat.ne_of_lt (Heap.lt_size e)) e))
    have hit₂ : h₂.IsListIter s.heap.objs.size S (i + 1) := hit₁.extBut hs₂.extBut hLI
    refine wpAny_execs_cons (wpAny_If (wpAny_isTrue_Compare1 ?_))
    refine wpAny_Name (wpAny_loadName_local (v := .int c t) rfl rfl hn₂ ?_ ?_)
    · show (if nCand = nS2 then _ else m' nCand) = _
      rw [if_neg (by decide), hm _ (by decide)]; exact hc
    refine slice_tail (wpAny_Name (wpAny_loadName_local (v := .ref a) rfl rfl hn₂ (if_pos rfl) ⟨a, vs, r, rfl, hpl₂.isList, hints, hz r (List.mem_of_getElem? hri), fun D h₃ tk₃ us hD hus hk₃ hDn => ?_⟩))
    refine in_ints hD hus (wpAny_truthy_bool ?_)
    have hm₃ := hm.set nS2 (.ref a) (by decide)
    cases hcc : r.tail.contains c with
    | false =>
      refine wpAny_execs_nil (wpAny_execs_nil ?_)
      refine ⟨as.length + 1 - (i + 1), by omega, h₃, tk₃, _, i + 1, rfl, hit₂.at fun o e => hk₃ _ o e, hn₂.keeps hk₃, hm₃, fun b o hb hb' e => hk₃ b o (hs₂.extBut b o hb (hs₁.extBut b o hb' (hk b o hb hb' e))), okc_take hok hri hcc, hlt, rfl⟩
    | true =>
      refine wpAny_execs_cons (wpAny_Assign_Name (wpAny_Constant_none (wpAny_storeName_local rfl (hn₂.keeps hk₃) (fun h₄ hn₄ hs₄ => ?_) rfl)))
      refine wpAny_execs_cons (wpAny_Break ?_)
      refine hbad ?_ h₄ _ _ hn₄ ((hm₃.mono (by decide)).set nCand .none (by decide)) (if_pos rfl) (up fun b o hb hb' e => hs₄.extBut b o hb (hk₃ b o (hs₂.extBut b o hb (hs₁.extBut b o hb' e))))
      cases hq : okc rs c with
      | false => rfl
      | true =>
        have := okc_iff.mp hq r (List.mem_of_getElem? hri)
        simp at hcc
        exact absurd hcc this
theorem pick_take_none {i : Nat} {c : Int} {r : List Int} (h : ((rs.take i).filterMap List.head?).find? (okc rs) = none) (hr : rs[i]? = some (c :: r)) (hc : okc rs c = false) :
    ((rs.take (i + 1)).filterMap List.head?).find? (okc rs) = none := by
  rw [List.take_add_one, hr, List.filterMap_append, List.find?_append, h]
  show (List.find? (okc rs) [c]) = none
  simp [hc]
theorem pick_take_some {i : Nat} {c : Int} {r : List Int} (h : ((rs.take i).filterMap List.head?).find? (okc rs) = none) (hr : rs[i]? = some (c :: r)) (hc : okc rs c = true) : pick rs = some c := by
  have hlt : i < rs.length := (List.getElem?_eq_some_iff.mp hr).1
  unfold pick
  have e : rs = rs.take i ++ (c :: r) :: rs.drop (i + 1) := by
    rw [← (List.getElem?_eq_some_iff.mp hr).2, List.getElem_cons_drop, List.take_append_drop]
  have e2 : rs.filterMap List.head? = (rs.take i).filterMap List.head? ++ c :: (rs.drop (i + 1)).filterMap List.head? := by
    conv => lhs; rw [e]
    rw [List.filterMap_append]; rfl
  rw [e2, List.find?_append, h]
  show List.find? (okc rs) (c :: _) = some c
  rw [List.find?_cons_of_pos hc]
set_option maxRecDepth 100000 in
theorem outer_for {Q : Flow → Shared → Prop} (hh : A.handled = none) (hn : s.heap.Ns L m) (hS : m nSeqs = some (.ref S))
    (hl : s.heap.IsList S (as.map Value.ref).toArray) (hr : Rows s.heap as rs) (hz : ∀ r ∈ rs, r.length ≤ sizeLine) (hne : ∀ r ∈ rs, r ≠ []) (h0 : rs ≠ [])
    (hgood : ∀ c, pick rs = some c → ∀ h' tk m' t, h'.Ns L m' → Agr [nS1, nS2, nCand] m m' → m' nCand = some (.int c t) → But L s.heap h' → Q .next { s with heap := h', toks := tk })
    (hbad : pick rs = none → ∀ h' tk m', h'.Ns L m' → Agr [nS1, nS2, nCand] m m' → m' nCand = some .none → But L s.heap h' → Q .next { s with heap := h', toks := tk }) :
    wpAny (model prog w) A (exec (stAt whB 2) (cEnv L f cd)) Q E s := by
  refine wpAny_For (wpAny_Name (wpAny_loadName_local rfl rfl hn hS (wpAny_pyIter_list hl ?_)))
  obtain ⟨oS, hoS, _⟩ := id hl
  have hSI : S ≠ s.heap.objs.size := Nat.ne_of_lt (Heap.lt_size hoS)
  have hLI : s.heap.objs.size ≠ L := Nat.ne_of_gt hn.lt
  have hSL : S ≠ L := list_ne_ns hl hn
  refine codeAny_forLoop (fun n s' => ∃ h' tk m' i, s' = { s with heap := h', toks := tk } ∧ h'.IsListIter s.heap.objs.size S i ∧ h'.Ns L m' ∧ Agr [nS1, nS2, nCand] m m' ∧
    (∀ b o, b ≠ L → b ≠ s.heap.objs.size → s.heap.get? b = some o → h'.get? b = some o) ∧ ((rs.take i).filterMap List.head?).find? (okc rs) = none ∧ (0 < i → m' nCand = some .none) ∧ i ≤ as.length ∧ n = as.length + 1 - i) ?_ (as.length + 1)
    ⟨_, s.toks, m, 0, rfl, ⟨_, Heap.get?_push_size _ rfl, rfl, rfl⟩, hn.push _, .refl _ _, fun b o _ _ e => Heap.get?_push_of_some _ e, rfl, fun h => absurd h (Nat.lt_irrefl _), Nat.zero_le _, rfl⟩
  rintro n s' ⟨h', tk, m', i, rfl, hit, hn', hm, hk, hno, hcand, hi, rfl⟩
  have hl' : h'.IsList S (as.map Value.ref).toArray := hl.at fun o e => hk S o hSL hSI e
  have up : ∀ {h₂ : Heap}, (∀ b o, b ≠ L → b ≠ s.heap.objs.size → h'.get? b = some o → h₂.get? b = some o) → But L s.heap h₂ := fun k b o hb e =>
    k b o hb (Nat.ne_of_lt (Heap.lt_size e)) (hk b o hb (Nat.ne_of_lt (Heap.lt_size e)) e)
  cases hv : as[i]? with
  | none =>
    have hi' : i = as.length := Nat.le_antisymm hi (by simpa using hv)
    have hpos : 0 < i := by
      rw [hi', hr.length]
      cases rs with
      | nil => exact absurd rfl h0
      | cons r rs => simp
    refine wpAny_pyNext_list_end hh hit hl' (by simp [hv]) fun h₁ he₁ => ?_
    refine wpAny_execs_nil (hbad ?_ _ _ m' (hn'.extBut he₁ (Ne.symm hLI)) hm (hcand hpos) (up fun b o _ hb e => he₁ b o hb e))
    rwa [hi', hr.length, List.take_length] at hno
  | some a =>
    obtain ⟨r, hri, hrow⟩ := hr.get hv
    cases r with
    | nil => exact absurd rfl (hne _ (List.mem_of_getElem? hri))
    | cons c r =>
    obtain ⟨vs, hpl, hints⟩ := id hrow
    have hlt : i < as.length := (List.getElem?_eq_some_iff.mp hv).1
    refine wpAny_pyNext_list_item hit hl' (x := .ref a) (by simp [hv]) fun h₁ hit₁ hs₁ => ?_
    refine wpAny_assign_Name (wpAny_storeName_local rfl (hn'.sameBut hs₁ (Ne.symm hLI)) (fun h₂ hn₂ hs₂ => ?_) rfl)
    have haL : a ≠ L := hrow.ne_ns hn
    have keep₂ : ∀ b o, b ≠ L → b ≠ s.heap.objs.size → h'.get? b = some o → h₂.get? b = some o := fun b o hb hb' e => hs₂.extBut b o hb (hs₁.extBut b o hb' e)
    have up₂ : But L s.heap h₂ := up keep₂
    have hit₂ : h₂.IsListIter s.heap.objs.size S (i + 1) := hit₁.extBut hs₂.extBut hLI
    have hpl₂ : h₂.PlainList a vs.toArray := hpl.at fun o e => up₂ a o haL e
    have hm₂ := hm.set nS1 (.ref a) (by decide)
    refine wpAny_execs_cons (wpAny_Assign_Name (item0 (wpAny_Name (wpAny_loadName_local (v := .ref a) rfl rfl hn₂ (if_pos rfl) ⟨a, vs, c, r, rfl, hpl₂.isList, hints, fun t tk₂ => ?_⟩))))
    refine wpAny_storeName_local rfl hn₂ (fun h₃ hn₃ hs₃ => ?_) rfl
    have hm₃ := hm₂.set nCand (.int c t) (by decide)
    have up₃ : But L s.heap h₃ := fun b o hb e => hs₃.extBut b o hb (up₂ b o hb e)
    refine wpAny_execs_cons ?_
    refine inner_for (S := S) (as := as) (rs := rs) (c := c) (t := t) hh hn₃ ?_ (if_pos rfl) (hl.at fun o e => up₃ S o hSL e) (hr.mono fun a ha o e => up₃ a o ((hr.mem ha).elim fun _ q => q.2.ne_ns hn) e) hz ?_ ?_
    · exact (hm₃ nSeqs (by decide)).trans hS
    · intro hok h₄ tk₄ m₄ hn₄ hm₄ hk₄
      refine hgood c (pick_take_some hno hri hok) h₄ tk₄ m₄ t hn₄ (hm₃.trans (hm₄.mono (by decide))) ?_ fun b o hb e => hk₄ b o hb (up₃ b o hb e)
      exact (hm₄ nCand (by decide)).trans (if_pos rfl)
    · intro hok h₄ tk₄ m₄ hn₄ hm₄ hc₄ hk₄
      refine wpAny_execs_nil ⟨as.length + 1 - (i + 1), by omega, h₄, tk₄, m₄, i + 1, rfl, ?_, hn₄, hm₃.trans (hm₄.mono (by decide)), fun b o hb hb' e => hk₄ b o hb (hs₃.extBut b o hb (keep₂ b o hb hb' (hk b o hb hb' e))), pick_take_none hno hri hok, fun _ => hc₄, hlt, rfl⟩
      exact (hit₂.extBut hs₃.extBut hLI).at fun o e => hk₄ _ o hLI e
/-- the head is struck from every row that it heads -/
theorem Rows.change {h h' : Heap} {r' : List Int} : ∀ {as : List Addr} {rs : List (List Int)}, Rows h as rs → ∀ {i : Nat} {a : Addr}, as[i]? = some a → as.Nodup → Row h' a r' → (∀ b ∈ as, b ≠ a → ∀ o, h.get? b = some o → h'.get? b = some o) → Rows h' as (rs.set i r') := by
  intro as rs x
  induction x with
  | nil => intro i a e; simp at e
  | @cons b r as rs hrow hrest ih =>
    intro i a e hnd hr' k
    obtain ⟨hb, hnd⟩ := List.nodup_cons.mp hnd
    cases i with
    | zero =>
      simp at e; subst e
      exact .cons hr' (hrest.mono fun q hq o e => k q (List.mem_cons_of_mem _ hq) (fun e' => hb (e' ▸ hq)) o e)
    | succ i =>
      simp at e
      have ha : a ∈ as := List.mem_of_getElem? e
      exact .cons (hrow.at fun o e' => k b List.mem_cons_self (fun q => hb (q ▸ ha)) o e') (ih e hnd hr' fun q hq => k q (List.mem_cons_of_mem _ hq))
end
end Mine
/-! part C3Del -/
namespace Mine
section
variable {prog : Program} {w : World} {A : Around} {E : Value → Shared → Prop} {s : Shared} {L f : Addr} {cd : Value} {m : Str → Option Value} {S : Addr} {as : List Addr} {rs : List (List Int)} {c : Int} {t : Tok}
theorem cut_step {i : Nat} {r : List Int} (hr : rs[i]? = some r) : ((rs.take i).map (cut c) ++ rs.drop i).set i (cut c r) = (rs.take (i + 1)).map (cut c) ++ rs.drop (i + 1) := by
  have hlt : i < rs.length := (List.getElem?_eq_some_iff.mp hr).1
  have e : rs.drop i = r :: rs.drop (i + 1) := by rw [← (List.getElem?_eq_some_iff.mp hr).2, List.getElem_cons_drop]
  rw [List.take_add_one, hr, List.map_append, e]
  rw [List.set_append_right _ _ (by simp [Nat.min_eq_left (Nat.le_of_lt hlt)])]
  simp [Nat.min_eq_left (Nat.le_of_lt hlt)]
theorem cut_at {i : Nat} {r : List Int} (hr : rs[i]? = some r) : ((rs.take i).map (cut c) ++ rs.drop i)[i]? = some r := by
  have hlt : i < rs.length := (List.getElem?_eq_some_iff.mp hr).1
  rw [List.getElem?_append_right (by simp [Nat.min_eq_left (Nat.le_of_lt hlt)])]
  simp [Nat.min_eq_left (Nat.le_of_lt hlt), hr]
set_option maxRecDepth 100000 in
theorem del_for {Q : Flow → Shared → Prop} (hh : A.handled = none) (hn : s.heap.Ns L m) (hS : m nSeqs = some (.ref S)) (hc : m nCand = some (.int c t))
    (hl : s.heap.IsList S (as.map Value.ref).toArray) (hr : Rows s.heap as rs) (hz : ∀ r ∈ rs, r.length ≤ sizeLine) (hne : ∀ r ∈ rs, r ≠ []) (hnd : as.Nodup) (hSas : S ∉ as)
    (hQ : ∀ h' tk m', h'.Ns L m' → Agr [nSeq] m m' → Rows h' as (rs.map (cut c)) → (∀ b o, b ≠ L → b ∉ as → s.heap.get? b = some o → h'.get? b = some o) → Q .next { s with heap := h', toks := tk }) :
    wpAny (model prog w) A (exec (stAt whB 5) (cEnv L f cd)) Q E s := by
  refine wpAny_For (wpAny_Name (wpAny_loadName_local rfl rfl hn hS (wpAny_pyIter_list hl ?_)))
  obtain ⟨oS, hoS, _⟩ := id hl
  have hSI : S ≠ s.heap.objs.size := Nat.ne_of_lt (Heap.lt_size hoS)
  have hLI : s.heap.objs.size ≠ L := Nat.ne_of_gt hn.lt
  have hSL : S ≠ L := list_ne_ns hl hn
  have aL : ∀ a ∈ as, a ≠ L := fun a ha => (hr.mem ha).elim fun _ q => q.2.ne_ns hn
  have aI : ∀ a ∈ as, a ≠ s.heap.objs.size := fun a ha => (hr.mem ha).elim fun _ q => q.2.there.elim fun _ q => Nat.ne_of_lt (Heap.lt_size q.1)
  refine codeAny_forLoop (fun n s' => ∃ h' tk m' i, s' = { s with heap := h', toks := tk } ∧ h'.IsListIter s.heap.objs.size S i ∧ h'.Ns L m' ∧ Agr [nSeq] m m' ∧
    (∀ b o, b ≠ L → b ∉ as → b ≠ s.heap.objs.size → s.heap.get? b = some o → h'.get? b = some o) ∧ Rows h' as ((rs.take i).map (cut c) ++ rs.drop i) ∧ i ≤ as.length ∧ n = as.length + 1 - i) ?_ (as.length + 1)
    ⟨_, s.toks, m, 0, rfl, ⟨_, Heap.get?_push_size _ rfl, rfl, rfl⟩, hn.push _, .refl _ _, fun b o _ _ _ e => Heap.get?_push_of_some _ e, hr.mono fun a _ o e => Heap.get?_push_of_some _ e, Nat.zero_le _, rfl⟩
  rintro n s' ⟨h', tk, m', i, rfl, hit, hn', hm, hk, hrows, hi, rfl⟩
  have hl' : h'.IsList S (as.map Value.ref).toArray := hl.at fun o e => hk S o hSL hSas hSI e
  cases hv : as[i]? with
  | none =>
    have hi' : i = as.length := Nat.le_antisymm hi (by simpa using hv)
    refine wpAny_pyNext_list_end hh hit hl' (by simp [hv]) fun h₁ he₁ => ?_
    refine wpAny_execs_nil (hQ _ _ m' (hn'.extBut he₁ (Ne.symm hLI)) hm ?_ fun b o hb hb' e => he₁ b o (Nat.ne_of_lt (Heap.lt_size e)) (hk b o hb hb' (Nat.ne_of_lt (Heap.lt_size e)) e))
    rw [hi', hr.length, List.take_length, List.drop_length, List.append_nil] at hrows
    exact hrows.mono fun a ha o e => he₁ a o (aI a ha) e
  | some a =>
    have ham : a ∈ as := List.mem_of_getElem? hv
    obtain ⟨r, hri, _⟩ := hr.get hv
    obtain ⟨r', hri', hrow⟩ := hrows.get hv
    rw [cut_at hri] at hri'; cases hri'
    have hcut := cut_step (c := c) hri
    have hzr := hz r (List.mem_of_getElem? hri)
    cases r with
    | nil => exact absurd rfl (hne _ (List.mem_of_getElem? hri))
    | cons d r =>
    obtain ⟨vs, hpl, hints⟩ := id hrow
    have hlt : i < as.length := (List.getElem?_eq_some_iff.mp hv).1
    refine wpAny_pyNext_list_item hit hl' (x := .ref a) (by simp [hv]) fun h₁ hit₁ hs₁ => ?_
    refine wpAny_assign_Name (wpAny_storeName_local rfl (hn'.sameBut hs₁ (Ne.symm hLI)) (fun h₂ hn₂ hs₂ => ?_) rfl)
    have keep₂ : ∀ b o, b ≠ L → b ≠ s.heap.objs.size → h'.get? b = some o → h₂.get? b = some o := fun b o hb hb' e => hs₂.extBut b o hb (hs₁.extBut b o hb' e)
    have hit₂ : h₂.IsListIter s.heap.objs.size S (i + 1) := hit₁.extBut hs₂.extBut hLI
    have hpl₂ : h₂.PlainList a vs.toArray := hpl.at fun o e => keep₂ a o (aL a ham) (aI a ham) e
    have hm₂ := hm.set nSeq (.ref a) (by decide)
    have hrows₂ : Rows h₂ as ((rs.take i).map (cut c) ++ rs.drop i) := hrows.mono fun b hb o e => keep₂ b o (aL b hb) (aI b hb) e
    refine wpAny_execs_cons (wpAny_If (wpAny_isTrue_Compare1 (item0 (wpAny_Name (wpAny_loadName_local (v := .ref a) rfl rfl hn₂ (if_pos rfl) ⟨a, vs, d, r, rfl, hpl₂.isList, hints, fun t₂ tk₂ => ?_⟩)))))
    refine wpAny_Name (wpAny_loadName_local (v := .int c t) rfl rfl hn₂ ((hm₂ nCand (by decide)).trans hc) (eq_int (wpAny_truthy_bool ?_)))
    cases hdc : d == c with
    | false =>
      refine wpAny_execs_nil (wpAny_execs_nil ?_)
      refine ⟨as.length + 1 - (i + 1), by omega, h₂, _, _, i + 1, rfl, hit₂, hn₂, hm₂, fun b o hb hb' hb'' e => keep₂ b o hb hb'' (hk b o hb hb' hb'' e), ?_, hlt, rfl⟩
      have e : cut c (d :: r) = d :: r := by
        unfold cut; rw [if_neg]
        intro q
        have : d = c := by simpa using q
        rw [this] at hdc; simp at hdc
      rw [← hcut, e]
      have := cut_at (c := c) hri
      obtain ⟨hlt', e'⟩ := List.getElem?_eq_some_iff.mp this
      rw [← e', List.set_getElem_self]
      exact hrows₂
    | true =>
      have e : cut c (d :: r) = r := by
        unfold cut; rw [if_pos]
        · rfl
        · have : d = c := by simpa using hdc
          simp [this]
      obtain ⟨t₃, vs', rfl, hints'⟩ := hints.cons_inv
      refine wpAny_execs_cons (wpAny_Delete (wpAny_deleteEach_cons (wpAny_delete_Subscript (wpAny_Name (wpAny_loadName_local (v := .ref a) rfl rfl hn₂ (if_pos rfl) (wpAny_Constant_int ?_))))))
      refine wpAny_delItem_plain (k := 0) hpl₂ (by decide) (by simp [seqIndex?] <;> omega) (fun h₃ hpl₃ hs₃ => ?_) (by rw [List.size_toArray, hints.length]; exact hzr)
      refine wpAny_deleteEach_nil (wpAny_execs_nil (wpAny_execs_nil ?_))
      have hrow₃ : Row h₃ a r := ⟨vs', by simpa using hpl₃, hints'⟩
      have haI := aI a ham
      refine ⟨as.length + 1 - (i + 1), by omega, h₃, _, _, i + 1, rfl, hit₂.extBut hs₃.extBut haI.symm, hn₂.sameBut hs₃ (aL a ham).symm, hm₂, fun b o hb hb' hb'' e => hs₃.extBut b o (fun q => hb' (q ▸ ham)) (keep₂ b o hb hb'' (hk b o hb hb' hb'' e)), ?_, hlt, rfl⟩
      rw [← hcut, e]
      exact hrows₂.change hv hnd hrow₃ fun b _ hb o e => hs₃.extBut b o hb e
end
end Mine
/-! part C3Seq -/
namespace Mine
theorem ints_inj {vs : List Value} {r r' : List Int} (h : IntsAre vs r) (h' : IntsAre vs r') : r = r' := by rw [← h.nums, ← h'.nums]
theorem Row.inj {h : Heap} {a : Addr} {r r' : List Int} (x : Row h a r) (y : Row h a r') : r = r' := by
  obtain ⟨vs, ⟨n, e⟩, i⟩ := x
  obtain ⟨us, ⟨n', e'⟩, i'⟩ := y
  rw [e] at e'
  have e2 : (Data.seq vs.toArray n) = Data.seq us.toArray n' := congrArg Obj.data (Option.some.inj e')
  injection e2 with e3 _
  have : vs = us := by simpa using e3
  subst this
  exact ints_inj i i'
open Classical in
noncomputable def pNE (h : Heap) (v : Value) : Bool := decide (∃ a r, v = .ref a ∧ Row h a r ∧ r ≠ [])
open Classical in
theorem pNE_row {h : Heap} {a : Addr} {r : List Int} (x : Row h a r) : pNE h (.ref a) = !r.isEmpty := by
  unfold pNE
  cases r with
  | nil =>
    refine decide_eq_false ?_
    rintro ⟨b, q, e, y, hq⟩
    cases e
    exact hq (y.inj x)
  | cons c r => exact decide_eq_true ⟨a, _, rfl, x, by simp⟩
theorem rows_filter {h : Heap} {as : List Addr} {rs : List (List Int)} (x : Rows h as rs) : Rows h (as.filter fun a => pNE h (.ref a)) (ne rs) := by
  induction x with
  | nil => exact .nil
  | @cons a r as rs hr _ ih =>
    unfold ne at ih ⊢
    rw [List.filter_cons, List.filter_cons, pNE_row hr]
    split
    · exact .cons hr ih
    · exact ih
theorem paired_eq {l l' : List Value} (h : Paired (fun v y => y = v) l l') : l' = l := by
  induction h with
  | nil => rfl
  | cons e _ ih => rw [e, ih]
section
variable {prog : Program} {w : World} {A : Around} {E : Value → Shared → Prop} {s : Shared} {L f : Addr} {cd : Value} {m : Str → Option Value} {S : Addr} {as : List Addr} {rs : List (List Int)}
set_option maxRecDepth 100000 in
theorem seqs_comp {Q : Flow → Shared → Prop} (hh : A.handled = none) (hn : s.heap.Ns L m) (hS : m nSeqs = some (.ref S))
    (hl : s.heap.IsList S (as.map Value.ref).toArray) (hr : Rows s.heap as rs) (hz : ∀ r ∈ rs, r.length ≤ sizeLine) (hza : as.length ≤ sizeLine)
    (hQ : ∀ D h' tk as', (∀ a ∈ as', a ∈ as) → (as.Nodup → as'.Nodup) → s.heap.get? D = none → h'.IsList D (as'.map Value.ref).toArray → Rows h' as' (ne rs) →
      h'.Ns L (fun z => if z = nSeqs then some (.ref D) else m z) → But L s.heap h' → Q .next { s with heap := h', toks := tk }) :
    wpAny (model prog w) A (exec (stAt whB 0) (cEnv L f cd)) Q E s := by
  refine wpAny_Assign_ListComp_map (pNE s.heap) (fun v y => y = v) rfl hh (by decide) (by decide) rfl (by decide) rfl rfl rfl ?_
  refine wpAny_Name (wpAny_loadName_local rfl rfl hn hS ⟨S, _, m, rfl, hl, by simpa using hza, hn, ?_, ?_, ?_⟩)
  · intro C v s₂ m₂ E' hv hn₂ hm₂ hk
    obtain ⟨a, ha, rfl⟩ := List.mem_map.mp (show v ∈ as.map Value.ref by simpa using hv)
    obtain ⟨r, hrm, hrow⟩ := hr.mem ha
    obtain ⟨vs, hpl, hints⟩ := id hrow
    refine wpAny_tests_one (wpAny_isTrue_value (wpAny_Name (wpAny_loadName_local rfl rfl hn₂ hm₂ (wpAny_truthy_list (hpl.isList.at fun o e => hk _ o e) ?_ ⟨?_, _, _, rfl, fun _ _ e => e⟩))))
    · have := hz r hrm
      rw [List.size_toArray, hints.length]
      rw [sizeLine_eq] at this
      omega
    · rw [pNE_row hrow, ← ints_truth hints]; simp
  · intro C v s₂ m₂ E' _ _ hn₂ hm₂ _
    exact wpAny_Name (wpAny_loadName_local rfl rfl hn₂ hm₂ ⟨rfl, _, _, rfl, fun _ _ e => e⟩)
  · intro D h' tk ys hD hlD hF hn' hk
    have e : ys = ((as.filter fun a => pNE s.heap (.ref a)).map Value.ref).toArray := by
      have := paired_eq hF
      rw [← Array.toArray_toList (xs := ys), this, List.filter_map]
      rfl
    rw [e] at hlD
    refine hQ D h' tk _ (fun a ha => (List.mem_filter.mp ha).1) (fun h => h.filter _) hD hlD ((rows_filter hr).mono fun a ha o e => hk a o ?_ e) hn' hk
    exact (hr.mem (List.mem_filter.mp ha).1).elim fun _ q => q.2.ne_ns hn
end
end Mine
/-! part C3Turn -/
namespace Mine
section
variable {prog : Program} {w : World} {A : Around} {E : Value → Shared → Prop} {s : Shared} {env : Env}
theorem glob_name {x : Str} {pos : Pos} {mg : Str → Option Value} {v : Value} {Q : Value → Shared → Prop} (hg : s.heap.Ns env.globals mg) (hv : mg x = some v) (h : Q v s)
    (hk : env.scope.kind = .function := by rfl) (hx : env.kindOf x = some .globalImplicit := by rfl) (hd : (x == ("__debug__" : Str)) = false := by decide) :
    wpAny (model prog w) A (eval (.Name x pos) env) Q E s := wpAny_Name (by rw [loadName_read hk hx]; exact loadGlobal_global hg hv h) hd
theorem boot_name {x : Str} {pos : Pos} {mg mb : Str → Option Value} {v : Value} {Q : Value → Shared → Prop} (hg : s.heap.Ns env.globals mg) (hm : mg x = none) (hb : s.heap.Ns env.builtins mb) (hv : mb x = some v) (h : Q v s)
    (hk : env.scope.kind = .function := by rfl) (hx : env.kindOf x = some .globalImplicit := by rfl) (hd : (x == ("__debug__" : Str)) = false := by decide) :
    wpAny (model prog w) A (eval (.Name x pos) env) Q E s := wpAny_Name (by rw [loadName_read hk hx]; exact loadGlobal_builtin hg hm hb hv h) hd
/-- x.append(y) -/
theorem append_stmt {o y : Expr} {apos pos spos : Pos} {Q : Flow → Shared → Prop}
    (h : wpAny (model prog w) A (eval o env) (fun ov s₁ => ∃ a, ov = .ref a ∧ (∃ its, s₁.heap.PlainList a its) ∧ wpAny (model prog w) A (eval y env) (fun v s₂ => ∃ its, s₂.heap.PlainList a its ∧ its.size ≤ sizeLine ∧
      ∀ h', h'.PlainList a (its.push v) → Heap.SameBut a s₂.heap h' → Q .next { s₂ with heap := h' }) E s₁) E s)
    (he : ∀ rest, starEach (y :: rest) env = (false, eval y env) :: starEach rest env := by intro _; rfl)
    (hi : interactive env = false := by rfl) {pl : Sem Bool}
    (hc : eval (.Call (.Attribute o (Str.ofString "append") apos) [y] [] pos) env = (do
      let ov ← eval o env
      standAt apos.atName
      let (f, first) ← holding [ov] (getMethod ov (Str.ofString "append") pl)
      callWith pos f first (backTo pos (starEach [y] env)) []) := by rfl) :
    wpAny (model prog w) A (exec (.Expr (.Call (.Attribute o (Str.ofString "append") apos) [y] [] pos) spos) env) Q E s := by
  refine wpAny_Expr_any (MethodCall_ (wpAny_mono h (fun ov s₁ h₁ => ?_) fun _ _ e => e) hc) hi rfl
  obtain ⟨a, rfl, ⟨its, n, hpl⟩, h₂⟩ := h₁
  refine getMethod_builtin (s := s₁) ⟨_, hpl, rfl⟩ PySem.F.plainAttrs_list PySem.F.slot_list_append PySem.F.type_list_append (fun b e => by cases e; exact ⟨_, hpl, rfl⟩) ?_
  refine callWith_method1 (args_cons (wpAny_mono h₂ (fun v s₂ h₃ => args_nil ?_) fun _ _ e => e) (he _)) (he _)
  obtain ⟨its', hpl', hsz, hQ⟩ := h₃
  exact wpAny_list_append_plain (hsz := hsz) hpl' fun h' a b => hQ h' a b
end
section
variable {prog : Program} {w : World} {A : Around} {E : Value → Shared → Prop} {s : Shared} {L f : Addr} {cd : Value} {m mg mb : Str → Option Value} {S RES : Addr} {as : List Addr} {rs : List (List Int)} {res : List Int}
theorem ne_le {rs : List (List Int)} {n : Nat} (h : ∀ r ∈ rs, r.length ≤ n) : ∀ r ∈ ne rs, r.length ≤ n := fun r hr => h r (mem_ne.mp hr).1
set_option maxRecDepth 100000 in
theorem c3_turn {Q : Flow → Shared → Prop} (hh : A.handled = none) (hn : s.heap.Ns L m) (hS : m nSeqs = some (.ref S)) (hR : m nRes = some (.ref RES))
    (hl : s.heap.IsList S (as.map Value.ref).toArray) (hr : Rows s.heap as rs) (hz : ∀ r ∈ rs, r.length ≤ sizeLine) (hza : as.length ≤ sizeLine) (hnd : as.Nodup)
    (hres : Row s.heap RES res) (hzr : res.length ≤ sizeLine) (hRas : RES ∉ as)
    (hg : s.heap.Ns mainGlobals mg) (hb : s.heap.Ns builtinsNs mb) (hgL : mainGlobals ≠ L) (hbL : builtinsNs ≠ L) (hg0 : mg (Str.ofString "RuntimeError") = none) (hb0 : mb (Str.ofString "RuntimeError") = some (.type "RuntimeError"))
    (hret : ne rs = [] → ∀ h' tk, But L s.heap h' → Q (.ret (.ref RES)) { s with heap := h', toks := tk })
    (hraise : ne rs ≠ [] → pick (ne rs) = none → ∀ h h' tk m' e, h.Ns L m' → But L s.heap h → Heap.NewExc h h' e "RuntimeError" → E (.ref e) { s with heap := h', toks := tk })
    (hnext : ∀ c, ne rs ≠ [] → pick (ne rs) = some c → ∀ D as' h' tk m', h'.Ns L m' → m' nSeqs = some (.ref D) → m' nRes = some (.ref RES) → h'.IsList D (as'.map Value.ref).toArray → Rows h' as' ((ne rs).map (cut c)) →
      (∀ a ∈ as', a ∈ as) → as'.Nodup → Row h' RES (res ++ [c]) → (∀ b o, b ≠ L → b ≠ RES → b ∉ as → s.heap.get? b = some o → h'.get? b = some o) → Q .next { s with heap := h', toks := tk }) :
    wpAny (model prog w) A (execs whB (cEnv L f cd)) Q E s := by
  refine wpAny_execs_cons (seqs_comp hh hn hS hl hr hz hza fun D h₁ tk₁ as' hsub hnd' hD hlD hr₁ hn₁ hk₁ => ?_)
  have hRL : RES ≠ L := hres.ne_ns hn
  have hlen : as'.length = (ne rs).length := hr₁.length
  refine wpAny_execs_cons (wpAny_If (wpAny_isTrue_Not (wpAny_isTrue_value (wpAny_Name (wpAny_loadName_local rfl rfl hn₁ (if_pos rfl) (wpAny_truthy_list hlD ?_ ?_))))))
  · have : (ne rs).length ≤ rs.length := List.length_filter_le _ _
    have h2 := hr.length
    rw [sizeLine_eq] at hza
    simp only [List.size_toArray, List.length_map]
    omega
  by_cases hne : ne rs = []
  · have e : as' = [] := List.eq_nil_of_length_eq_zero (by rw [hlen, hne]; rfl)
    subst e
    show wpAny _ _ (execs _ _) _ _ _
    refine wpAny_execs_cons (wpAny_Return_some (wpAny_Name (wpAny_loadName_local (v := .ref RES) rfl rfl hn₁ ((if_neg (by decide)).trans hR) ?_)))
    exact hret hne _ _ hk₁
  · have e : ((!(as'.map Value.ref).toArray.isEmpty)) = true := by
      cases as' with
      | nil => exact absurd (List.eq_nil_of_length_eq_zero (by rw [← hlen]; rfl)) hne
      | cons a r => rfl
    rw [e]
    show wpAny _ _ (execs [] _) _ _ _
    refine wpAny_execs_nil ?_
    refine wpAny_execs_cons ?_
    have hDn : D ∉ as := fun hm => (hr.mem hm).elim fun _ q => q.2.there.elim fun _ q => fresh_of q.1 hD rfl
    have hRD : RES ≠ D := hres.there.elim fun _ q => fresh_of q.1 hD
    have hDL : D ≠ L := list_ne_ns hlD hn₁
    have aL : ∀ a ∈ as', a ≠ L := fun a ha => (hr₁.mem ha).elim fun _ q => q.2.ne_ns hn₁
    refine outer_for hh hn₁ (if_pos rfl) hlD hr₁ (ne_le hz) (fun r hr => (mem_ne.mp hr).2) hne ?_ ?_
    · intro c hp h₂ tk₂ m₂ t₂ hn₂ hm₂ hc₂ hk₂
      have hk02 : But L s.heap h₂ := fun b o hb e => hk₂ b o hb (hk₁ b o hb e)
      refine wpAny_execs_cons (wpAny_If (wpAny_isTrue_Compare1 (wpAny_Name (wpAny_loadName_local (v := .int c t₂) rfl rfl hn₂ hc₂ (wpAny_Constant_none (is_none (wpAny_truthy_bool ?_)))))))
      show wpAny _ _ (execs [] _) _ _ _
      refine wpAny_execs_nil ?_
      have hR₂ : m₂ nRes = some (.ref RES) := (hm₂ nRes (by decide)).trans ((if_neg (by decide)).trans hR)
      obtain ⟨vs, hpl, hints⟩ := id (hres.at fun o e => hk02 RES o hRL e : Row h₂ RES res)
      refine wpAny_execs_cons (append_stmt (wpAny_Name (wpAny_loadName_local (v := .ref RES) rfl rfl hn₂ hR₂ ⟨RES, rfl, ⟨_, hpl⟩, wpAny_Name (wpAny_loadName_local (v := .int c t₂) rfl rfl hn₂ hc₂ ⟨_, hpl, by rw [List.size_toArray, hints.length]; exact hzr, fun h₃ hpl₃ hs₃ => ?_⟩)⟩)))
      have hres₃ : Row h₃ RES (res ++ [c]) := ⟨vs ++ [.int c t₂], by simpa using hpl₃, hints.append (.cons c t₂ .nil)⟩
      have hn₃ : h₃.Ns L m₂ := hn₂.sameBut hs₃ hRL.symm
      have hRas' : ∀ a ∈ as', a ≠ RES := fun a ha e => hRas (e ▸ hsub a ha)
      refine wpAny_execs_cons (del_for (S := D) (as := as') (rs := ne rs) (c := c) (t := t₂) hh hn₃ ((hm₂ nSeqs (by decide)).trans (if_pos rfl)) hc₂ ((hlD.at fun o e => hk₂ D o hDL e).extBut hs₃.extBut hRD.symm)
        (hr₁.mono fun a ha o e => hs₃.extBut a o (hRas' a ha) (hk₂ a o (aL a ha) e)) (ne_le hz) (fun r hr => (mem_ne.mp hr).2) (hnd' hnd) (fun hm => hDn (hsub D hm)) ?_)
      intro h₄ tk₄ m₄ hn₄ hm₄ hr₄ hk₄
      refine wpAny_execs_nil (hnext c hne hp D as' h₄ tk₄ m₄ hn₄ ((hm₄ nSeqs (by decide)).trans ((hm₂ nSeqs (by decide)).trans (if_pos rfl))) ((hm₄ nRes (by decide)).trans hR₂) ?_ hr₄ hsub (hnd' hnd) ?_ ?_)
      · exact ((hlD.at fun o e => hk₂ D o hDL e).extBut hs₃.extBut hRD.symm).at fun o e => hk₄ D o hDL (fun hm => hDn (hsub D hm)) e
      · exact hres₃.at fun o e => hk₄ RES o hRL (fun hm => hRas (hsub RES hm)) e
      · exact fun b o hbL hbR hba e => hk₄ b o hbL (fun hm => hba (hsub b hm)) (hs₃.extBut b o hbR (hk02 b o hbL e))
    · intro hp h₂ tk₂ m₂ hn₂ hm₂ hc₂ hk₂
      have hk02 : But L s.heap h₂ := fun b o hb e => hk₂ b o hb (hk₁ b o hb e)
      refine wpAny_execs_cons (wpAny_If (wpAny_isTrue_Compare1 (wpAny_Name (wpAny_loadName_local (v := .none) rfl rfl hn₂ hc₂ (wpAny_Constant_none (is_none (wpAny_truthy_bool ?_)))))))
      show wpAny _ _ (execs _ _) _ _ _
      have hg₂ : h₂.Ns mainGlobals mg := hg.at' fun o e => hk02 _ o hgL e
      have hb₂ : h₂.Ns builtinsNs mb := hb.at' fun o e => hk02 _ o hbL e
      refine wpAny_execs_cons (wpAny_Raise_call PySem.F.excCall_RuntimeError PySem.F.excRaise_RuntimeError hh rfl (boot_name (mg := mg) (mb := mb) hg₂ hg0 hb₂ hb0 ⟨rfl, ?_⟩))
      refine evalArgs_plain (args_cons (wpAny_Constant_str (args_nil ⟨rfl, by simp <;> decide, fun h₃ e hx => ?_⟩)))
      exact hraise hne hp h₂ h₃ _ m₂ e hn₂ hk02 hx.newExc
end
end Mine
/-! part C3Body -/
namespace Mine
theorem le_tot {rs : List (List Int)} {r : List Int} (h : r ∈ rs) : r.length ≤ tot rs := by
  induction rs with
  | nil => cases h
  | cons q rs ih =>
    simp only [tot, List.map_cons, List.sum_cons] at ih ⊢
    rcases List.mem_cons.mp h with rfl | h
    · omega
    · have := ih h; omega
theorem map_comp {c : Int} {res : List Int} (x : Option (List Int)) : (x.map (c :: ·)).map (res ++ ·) = x.map ((res ++ [c]) ++ ·) := by
  cases x <;> simp
section
variable {prog : Program} {w : World} {A : Around} {E : Value → Shared → Prop} {s : Shared} {env : Env}
theorem new_list {vs : List Value} {Q : Value → Shared → Prop} (h : Q (.ref s.heap.objs.size) { s with heap := s.heap.push { cls := .type "list", data := .seq vs.toArray } }) (hsz : vs.length ≤ sizeLine) :
    wpAny (model prog w) A (newList vs) Q E s := wpAny_newObj_type h (by show vs.toArray.size ≤ sizeLine; rw [List.size_toArray]; exact hsz)
/-- [] -/
theorem empty_list {pos : Pos} {Q : Value → Shared → Prop} (h : ∀ h', h'.PlainList s.heap.objs.size #[] → Up s.heap h' → Q (.ref s.heap.objs.size) { s with heap := h' }) :
    wpAny (model prog w) A (eval (.List [] pos) env) Q E s :=
  List_ (args_nil (new_list (h _ ⟨0, Heap.get?_push_size _ rfl⟩ (Up.push _ _)) (by simp)))
end
section
variable {prog : Program} {w : World} {A : Around} {E : Value → Shared → Prop} {s : Shared} {L f : Addr} {cd : Value} {m mg mb : Str → Option Value} {S : Addr} {as : List Addr} {rs : List (List Int)}
set_option maxRecDepth 100000 in
theorem c3_body {Q : Flow → Shared → Prop} (hh : A.handled = none) (hn : s.heap.Ns L m) (hS : m nSeqs = some (.ref S))
    (hl : s.heap.IsList S (as.map Value.ref).toArray) (hr : Rows s.heap as rs) (hz : tot rs ≤ 1000000) (hza : as.length ≤ 1000000) (hnd : as.Nodup)
    (hg : s.heap.Ns mainGlobals mg) (hb : s.heap.Ns builtinsNs mb) (hgL : mainGlobals ≠ L) (hbL : builtinsNs ≠ L) (hg0 : mg (Str.ofString "RuntimeError") = none) (hb0 : mb (Str.ofString "RuntimeError") = some (.type "RuntimeError"))
    (hE : PassesOwn (model prog w) A (cEnv L f cd) E)
    (hok : ∀ res D h' tk, merge rs = some res → s.heap.get? D = none → Row h' D res → (∀ b o, b ≠ L → b ∉ as → s.heap.get? b = some o → h'.get? b = some o) → Q (.ret (.ref D)) { s with heap := h', toks := tk })
    (hbad : merge rs = none → ∀ h h' tk m' e, h.Ns L m' → (∀ b o, b ≠ L → b ∉ as → s.heap.get? b = some o → h.get? b = some o) → Heap.NewExc h h' e "RuntimeError" → E (.ref e) { s with heap := h', toks := tk }) :
    wpAny (model prog w) A (execs c3B (cEnv L f cd)) Q E s := by
  refine wpAny_execs_cons (wpAny_Assign_Name (empty_list fun h₁ hpl₁ hk₁ => wpAny_storeName_local rfl (hn.keeps hk₁) (fun h₂ hn₂ hs₂ => ?_) rfl))
  have hRL : s.heap.objs.size ≠ L := Nat.ne_of_gt hn.lt
  have hR0 : s.heap.get? s.heap.objs.size = none := get_size _
  have aL : ∀ a ∈ as, a ≠ L := fun a ha => (hr.mem ha).elim fun _ q => q.2.ne_ns hn
  have hSL : S ≠ L := list_ne_ns hl hn
  have hRas : s.heap.objs.size ∉ as := fun hm => (hr.mem hm).elim fun _ q => q.2.there.elim fun _ q => fresh_of q.1 hR0 rfl
  have keep₂ : ∀ b o, b ≠ L → s.heap.get? b = some o → h₂.get? b = some o := fun b o hb e => hs₂.extBut b o hb (hk₁ b o e)
  refine wpAny_execs_cons (wpAny_While ?_)
  refine codeAny_whileLoop (fun n s' => ∃ h' tk m' S' as' rs' res, s' = { s with heap := h', toks := tk } ∧ h'.Ns L m' ∧ m' nSeqs = some (.ref S') ∧ m' nRes = some (.ref s.heap.objs.size) ∧
    h'.IsList S' (as'.map Value.ref).toArray ∧ Rows h' as' rs' ∧ (∀ a ∈ as', a ∈ as) ∧ as'.Nodup ∧ Row h' s.heap.objs.size res ∧ merge rs = (merge rs').map (res ++ ·) ∧ res.length + tot rs' ≤ tot rs ∧ as'.length ≤ as.length ∧
    (∀ b o, b ≠ L → b ∉ as → s.heap.get? b = some o → h'.get? b = some o) ∧ n = tot rs') ?_ (tot rs)
    ⟨h₂, _, _, S, as, rs, [], rfl, hn₂, (if_neg (by decide)).trans hS, if_pos rfl, hl.at fun o e => keep₂ S o hSL e, hr.mono fun a ha o e => keep₂ a o (aL a ha) e, fun _ h => h, hnd, ⟨[], hpl₁.at fun o e => hs₂.extBut _ o hRL e, .nil⟩,
      by cases merge rs <;> simp, by simp, Nat.le_refl _, fun b o hb _ e => keep₂ b o hb e, rfl⟩
  rintro n s' ⟨h', tk, m', S', as', rs', res, rfl, hn', hS', hR', hl', hr', hsub, hnd', hres', hmer, hlen, hla, hk', rfl⟩
  refine wpAny_isTrue_value (wpAny_Constant_bool (wpAny_truthy_bool ?_))
  rw [if_pos rfl]
  have e24 : sizeLine = 16777216 := sizeLine_eq
  refine wpAny_passesOwn hE ?_
  refine c3_turn (mg := mg) (mb := mb) (rs := rs') (as := as') (res := res) (RES := s.heap.objs.size) (S := S') hh hn' hS' hR' hl' hr' (fun r hr => ?_) ?_ hnd' hres' ?_ (fun hm => hRas (hsub _ hm)) (hg.at' fun o e => hk' _ o hgL ?_ e) (hb.at' fun o e => hk' _ o hbL ?_ e) hgL hbL hg0 hb0 ?_ ?_ ?_
  · have := le_tot hr; omega
  · omega
  · omega
  · exact fun hm => (hr.mem hm).elim fun _ q => q.2.ne_ns hg rfl
  · exact fun hm => (hr.mem hm).elim fun _ q => q.2.ne_ns hb rfl
  · intro hne h₃ tk₃ hk₃
    refine hok res _ h₃ tk₃ ?_ hR0 (hres'.at fun o e => hk₃ _ o hRL e) fun b o hb hba e => hk₃ b o hb (hk' b o hb hba e)
    rw [hmer, merge_nil hne]; simp
  · intro hne hp h₃ h₄ tk₄ m₄ e hn₃ hk₃ hx
    refine hbad ?_ h₃ h₄ tk₄ m₄ e hn₃ (fun b o hb hba e => hk₃ b o hb (hk' b o hb hba e)) hx
    rw [hmer, merge_none hne hp]; rfl
  · intro c hne hp D as₃ h₃ tk₃ m₃ hn₃ hS₃ hR₃ hl₃ hr₃ hsub₃ hnd₃ hres₃ hk₃
    have hlt := step_lt hp
    refine ⟨_, hlt, h₃, tk₃, m₃, D, as₃, _, _, rfl, hn₃, hS₃, hR₃, hl₃, hr₃, fun a ha => hsub a (hsub₃ a ha), hnd₃, hres₃, ?_, ?_, ?_, ?_, rfl⟩
    · rw [hmer, merge_some hne hp, map_comp]
    · rw [List.length_append, List.length_singleton]; omega
    · have h1 := hr₃.length
      have h2 := hr'.length
      have h3 : (ne rs').length ≤ rs'.length := List.length_filter_le _ _
      rw [List.length_map] at h1
      omega
    · exact fun b o hb hba e => hk₃ b o hb (fresh_of e hR0) (fun hm => hba (hsub b hm)) (hk' b o hb hba e)
end
end Mine
/-! part C3Call -/
namespace Mine
section
variable {prog : Program} {w : World} {A : Around} {E : Value → Shared → Prop} {s : Shared} {fc ft : Addr} {cc ct : Value} {mg mb : Str → Option Value} {S : Addr} {as : List Addr} {rs : List (List Int)} {outer : List Env} {base : Heap}
set_option maxRecDepth 100000 in
theorem c3_call {Q : Value → Shared → Prop} (X : Wd mg mb fc ft cc ct s.heap) (hh : A.handled = none) (hroom : A.depth < recursionLimit) (hfr : A.frames = some outer)
    (hst : base.StaysIn s.heap) (hbase : ∀ a ∈ as, base.get? a = none) (hff : ∀ h : Heap, (∀ b o, b ∉ as → s.heap.get? b = some o → h.get? b = some o) → h.FunFrames base outer)
    (hl : s.heap.IsList S (as.map Value.ref).toArray) (hr : Rows s.heap as rs) (hz : tot rs ≤ 1000000) (hza : as.length ≤ 1000000) (hnd : as.Nodup)
    (hok : ∀ res D h' tk, merge rs = some res → s.heap.get? D = none → Row h' D res → (∀ b o, b ∉ as → s.heap.get? b = some o → h'.get? b = some o) → Q (.ref D) { s with heap := h', toks := tk })
    (hbad : merge rs = none → ∀ h' tk e a0, Heap.FlyingW base outer e (.type "RuntimeError") a0 h' →
      (∀ b o, b ∉ as → s.heap.get? b = some o → (∀ vs, o.data ≠ .fields vs) → ∃ sl, h'.get? b = some { o with slots := sl }) → E (.ref e) { s with heap := h', toks := tk }) :
    wpAny (model prog w) A (call (.ref fc) [.ref S]) Q E s := by
  obtain ⟨o, pm, doc, hmg, ho, hdat, hcd⟩ := X.c3
  refine wpAny_call (call_plain (binds := [(nSeqs, .ref S)]) hroom ho hdat X.nolimit hcd rfl (locs rfl) (fun h₁ F₁ => ?_) rfl rfl rfl (by decide))
  have hL0 : s.heap.get? s.heap.objs.size = none := get_size _
  have gL : ∀ {a : Addr} {m : Str → Option Value}, s.heap.Ns a m → a ≠ s.heap.objs.size := fun h => Nat.ne_of_lt h.lt
  have hbL : base.get? s.heap.objs.size = none := by
    cases q : base.get? s.heap.objs.size with
    | none => rfl
    | some o => rw [hst _ _ q] at hL0; cases hL0
  refine c3_body (mg := mg) (mb := mb) (S := S) (as := as) (rs := rs) hh F₁.ns rfl (hl.at fun o e => F₁.keep _ o e) (hr.mono fun a _ o e => F₁.keep a o e) hz hza hnd (X.g.keeps F₁.keep) (X.b.keeps F₁.keep) (gL X.g) (gL X.b) X.gl.2.2.2 X.bl.2.2.2 (by passes_own) ?_ ?_
  · intro res D h' tk hm hD hrow hk
    refine hok res D h' tk hm (Up.none F₁.keep hD) hrow fun b o hb e => hk b o (fresh_of e hL0) hb (F₁.keep b o e)
  · intro hm h h' tk m' e hn hk hx
    obtain ⟨ob, tp, he, hcls, hd⟩ := hx.there
    have kh : ∀ b o, b ∉ as → s.heap.get? b = some o → h.get? b = some o := fun b o hb e => hk b o (fresh_of e hL0) hb (F₁.keep b o e)
    have kb : base.StaysIn h := fun b o e => kh b o (fun hm => by rw [hbase b hm] at e; cases e) (hst b o e)
    have hen : base.get? e = none := Up.none kb hx.new
    refine wpAny_leaving_firstW (base := base) (L := s.heap.objs.size) (a0 := tp) (Around.frames_deeper hfr) (.cons (show (scopeOf c3).kind ≠ .module by decide) rfl (hn.keeps hx.keeps) hbL (hff h' fun b o hb e => hx.keeps b o (kh b o hb e))) rfl he (fun b o e => hx.keeps b o (kb b o e)) hen hd rfl rfl fun h₂ hL => ?_
    obtain ⟨k1, ⟨_, _, k2⟩, k3, k4⟩ := hL
    refine hbad hm h₂ tk e tp ⟨k1, hen, k2, by rw [← hcls]; exact k3⟩ fun b o hb e hd => k4 b o (hx.keeps b o (kh b o hb e)) hd
end
end Mine
/-! part C3Comp -/
namespace Mine
section
variable {prog : Program} {w : World} {A : Around} {E : Value → Shared → Prop} {s : Shared} {env : Env}
theorem new_comp_env {scope : Scope} {globals : Addr} {cl : List (Str × Addr)} {qual : Str} {Q : Env → Shared → Prop}
    (h : Q (newEnv scope s.heap.objs.size globals (cellsFrom (s.heap.objs.size + 1) scope.names cl) qual none .none (some env) builtinsNs) { s with heap := pushCells (s.heap.push { cls := .type "dict", data := .dict #[] }) scope.names }) :
    wpAny (model prog w) A (newFunctionEnv scope globals cl [] qual none .none (some env)) Q E s := by
  simp only [newFunctionEnv, Option.isSome_some, if_true]
  refine wpAny_bind (wpAny_alloc ?_)
  refine wpAny_bind (wpAny_layCells _ (fun name kind cells => by cases hkc : kind == NameKind.cell <;> simp [hkc]) _ _ _ _ ?_)
  rw [show ({ s with heap := s.heap.push { cls := .type "dict", data := .dict #[] } } : Shared).heap.objs.size = s.heap.objs.size + 1 from Heap.size_push ..]
  exact wpAny_bind (by rw [List.forIn_nil]; exact wpAny_pure (wpAny_pure h))
abbrev itObj (ax : Addr) : Obj := { cls := .type "list_iterator", data := .fields #[.ref ax, .int 0 0] }
abbrev noList : Obj := { cls := .type "list", data := .seq ([] : List Value).toArray }
abbrev noDict : Obj := { cls := .type "dict", data := .dict #[] }
/-- a comprehension over a list: what it lays, and then its loop -/
theorem comp_setup {elt iter : Expr} {x : Str} {px : Pos} {ifs : List Expr} {scope : Scope} {cl : List (Str × Addr)} {pos pos' : Pos} {use : Option (Value → Sem Unit)} {Q : Value → Shared → Prop}
    (hclos : closureFor scope env = pure cl) (hkind : scope.kind = .function) (hnames : ∀ y ∈ scope.names, y.2 = .local → scope.names.lookup y.1 = some .local)
    (h : wpAny (model prog w) A (eval iter env) (fun xv s₁ => ∃ ax items, xv = .ref ax ∧ s₁.heap.IsList ax items ∧
      ∀ n, n = s₁.heap.objs.size → ∀ h₁, h₁ = pushCells (((s₁.heap.push (itObj ax)).push noList).push noDict) scope.names → Up s₁.heap h₁ → h₁.IsListIter n ax 0 → h₁.PlainList (n + 1) #[] → h₁.Ns (n + 2) (fun _ => none) →
        codeAny (model prog w) A (.compLoop (.ListComp elt [⟨.Name x px, iter, ifs, 0⟩] scope pos) 0 (.ref n) (.ref (n + 1)) (compEnvC scope (cellsFrom (n + 3) scope.names cl) (n + 2) env))
          (compPost (model prog w) A E use Q (.ref (n + 1)) (n + 2)) { s₁ with heap := h₁ }) E s)
    (hs : ∀ x, foldedSetIterable iter env x = pure x := by intro _; rfl) :
    wpAny (model prog w) A (comprehension (.ListComp elt [⟨.Name x px, iter, ifs, 0⟩] scope pos) scope env pos' (newList []) false (eval iter env) use) Q E s := by
  refine wpAny_comprehension_free rfl hs hclos hkind hnames (wpAny_mono h (fun xv s₁ h₁ => ?_) fun _ _ e => e)
  obtain ⟨ax, items, rfl, hl, hloop⟩ := h₁
  refine wpAny_pyIter_list hl (new_list (new_comp_env ?_) (by simp))
  have e1 : (s₁.heap.push (itObj ax)).objs.size = s₁.heap.objs.size + 1 := Heap.size_push ..
  have e2 : ((s₁.heap.push (itObj ax)).push noList).objs.size = s₁.heap.objs.size + 2 := by rw [Heap.size_push, e1]
  have h0 : (s₁.heap.push (itObj ax)).get? s₁.heap.objs.size = some (itObj ax) := Heap.get?_push_size _ rfl
  have h1 := Heap.get?_push_size (s₁.heap.push (itObj ax)) (o := noList) rfl
  rw [e1] at h1
  have h2 := Heap.Ns.new ((s₁.heap.push (itObj ax)).push noList) (.type "dict")
  rw [e2] at h2
  have k := pushCells_keeps scope.names (((s₁.heap.push (itObj ax)).push noList).push noDict)
  have L := hloop _ rfl _ rfl (fun b o e => k b o (Heap.get?_push_of_some _ (Heap.get?_push_of_some _ (Heap.get?_push_of_some _ e))))
    ⟨_, k _ _ (Heap.get?_push_of_some _ (Heap.get?_push_of_some _ h0)), rfl, rfl⟩ ⟨_, k _ _ (Heap.get?_push_of_some _ h1)⟩ (h2.keeps k)
  dsimp only
  rw [e2, e1]
  exact codeAny_compStart_list L (wpAny_pyIter_listiter (i := 0) ⟨_, k _ _ (Heap.get?_push_of_some _ (Heap.get?_push_of_some _ h0)), rfl, rfl⟩ L)
end
section
variable {prog : Program} {w : World} {A : Around} {E : Value → Shared → Prop} {s : Shared} {L f : Addr} {cd : Value} {m mg mb : Str → Option Value} {R : Addr} {as : List Addr} {rs : List (List Int)}
abbrev tEnv (L f : Addr) (cd : Value) : Env := envOf (Str.ofString "_law_told") (scopeOf told) L f cd
abbrev nRows : Str := Str.ofString "rows"
abbrev nRow : Str := Str.ofString "row"
def argAt (e : Expr) (i : Nat) : Expr := match e with
  | .Call _ as _ _ => (as[i]?).getD (.Constant .none 0 ⟨0, 0, 0, 0⟩)
  | _ => .Constant .none 0 ⟨0, 0, 0, 0⟩
def valOfRet : Stmt → Expr
  | .Return (some e) _ => e
  | _ => .Constant .none 0 ⟨0, 0, 0, 0⟩
/-- [list(row) for row in rows] -/
def copyE : Expr := argAt (valOfRet (stAt (bodyOf (stAt toldB 0)) 0)) 0
set_option maxRecDepth 100000 in
theorem copy_comp {Q : Value → Shared → Prop} (hh : A.handled = none) (hn : s.heap.Ns L m) (hR : m nRows = some (.ref R))
    (hl : s.heap.IsList R (as.map Value.ref).toArray) (hr : Rows s.heap as rs) (hz : ∀ r ∈ rs, r.length ≤ sizeLine) (hza : as.length ≤ sizeLine)
    (hg : s.heap.Ns mainGlobals mg) (hb : s.heap.Ns builtinsNs mb) (hg0 : mg (Str.ofString "list") = none) (hb0 : mb (Str.ofString "list") = some (.type "list"))
    (hQ : ∀ D bs h' tk, s.heap.get? D = none → D ∉ bs → (∀ b ∈ bs, s.heap.get? b = none) → bs.Nodup → h'.IsList D (bs.map Value.ref).toArray → Rows h' bs rs → Up s.heap h' → Q (.ref D) { s with heap := h', toks := tk }) :
    wpAny (model prog w) A (eval copyE (tEnv L f cd)) Q E s := by
  refine comp_setup (cl := []) (use := none) (pos' := _) rfl rfl (by decide) (wpAny_Name (wpAny_loadName_local rfl rfl hn hR ⟨R, _, rfl, hl, ?_⟩))
  intro n hN h₁ _ k₁ hit₁ hD₁ hC₁
  subst hN
  have nm : ∀ {b : Addr} {o : Obj}, s.heap.get? b = some o → b < s.heap.objs.size := fun e => Heap.lt_size e
  refine codeAny_compLoop_tests (fun k s' => ∃ h' tk m' bs i, s' = { s with heap := h', toks := tk } ∧ h'.IsListIter s.heap.objs.size R i ∧ h'.PlainList (s.heap.objs.size + 1) (bs.map Value.ref).toArray ∧ h'.Ns (s.heap.objs.size + 2) m' ∧
    Rows h' bs (rs.take i) ∧ bs.Nodup ∧ (∀ b ∈ bs, s.heap.objs.size + 2 < b) ∧ i ≤ as.length ∧ k = as.length + 1 - i ∧ Up s.heap h') ?_ (as.length + 1)
    ⟨h₁, s.toks, _, [], 0, rfl, hit₁, hD₁, hC₁, .nil, .nil, (fun _ h => nomatch h), Nat.zero_le _, rfl, k₁⟩
  rintro k s' ⟨h', tk, m', bs, i, rfl, hit, hD, hC, hrows, hnd, hbig, hi, rfl, hup⟩
  have hl' : h'.IsList R (as.map Value.ref).toArray := hl.at fun o e => hup _ o e
  cases hv : as[i]? with
  | none =>
    have hi' : i = as.length := Nat.le_antisymm hi (by simpa using hv)
    refine wpAny_pyNext_list_end hh hit hl' (by simp [hv]) fun h₂ he₂ => ?_
    refine ⟨m', hC.extBut he₂ (by exact Nat.ne_of_gt (by omega)), fun h₃ hs₃ => ?_⟩
    have keep : ∀ b o, b ≠ s.heap.objs.size → b ≠ s.heap.objs.size + 2 → h'.get? b = some o → h₃.get? b = some o := fun b o hb hb' e => hs₃.extBut b o hb' (he₂ b o hb e)
    refine hQ _ bs h₃ tk (Heap.get?_none_of_le (Nat.le_succ _)) (fun hm => ?_) (fun b hb => Heap.get?_none_of_le ?_) hnd ((hD.at fun o e => keep _ o (Nat.ne_of_gt (Nat.lt_succ_self _)) (Nat.ne_of_lt (Nat.lt_succ_self _)) e).isList) ?_ fun b o e => keep b o (Nat.ne_of_lt (nm e)) ?_ (hup b o e)
    · exact absurd (hbig _ hm) (Nat.not_lt.mpr (Nat.le_succ _))
    · have := hbig b hb; exact Nat.le_of_lt (Nat.lt_trans (Nat.lt_add_of_pos_right (by decide)) this)
    · rw [hi', hr.length, List.take_length] at hrows
      exact hrows.mono fun b hb o e => keep b o (Nat.ne_of_gt (Nat.lt_trans (Nat.lt_add_of_pos_right (by decide)) (hbig b hb))) (Nat.ne_of_gt (hbig b hb)) e
    · exact Nat.ne_of_lt (Nat.lt_trans (nm e) (Nat.lt_add_of_pos_right (by decide)))
  | some a =>
    obtain ⟨r, hri, hrow⟩ := hr.get hv
    obtain ⟨vs, hpl, hints⟩ := id hrow
    have hlt : i < as.length := (List.getElem?_eq_some_iff.mp hv).1
    refine wpAny_pyNext_list_item hit hl' (x := .ref a) (by simp [hv]) fun h₂ hit₂ hs₂ => ?_
    refine wpAny_assign_Name (wpAny_storeName_local rfl (hC.sameBut hs₂ (Nat.ne_of_gt (Nat.lt_add_of_pos_right (by decide)))) (fun h₃ hC₃ hs₃ => ?_) rfl)
    have keep : ∀ b o, b ≠ s.heap.objs.size → b ≠ s.heap.objs.size + 2 → h'.get? b = some o → h₃.get? b = some o := fun b o hb hb' e => hs₃.extBut b o hb' (hs₂.extBut b o hb e)
    have up₃ : Up s.heap h₃ := fun b o e => keep b o (Nat.ne_of_lt (nm e)) (Nat.ne_of_lt (Nat.lt_trans (nm e) (Nat.lt_add_of_pos_right (by decide)))) (hup b o e)
    have hit₃ : h₃.IsListIter s.heap.objs.size R (i + 1) := hit₂.extBut hs₃.extBut (Nat.ne_of_lt (Nat.lt_add_of_pos_right (by decide)))
    have hD₃ := hD.at fun o e => keep _ o (Nat.ne_of_gt (Nat.lt_succ_self _)) (Nat.ne_of_lt (Nat.lt_succ_self _)) e
    have hrows₃ : Rows h₃ bs (rs.take i) := hrows.mono fun b hb o e => keep b o (Nat.ne_of_gt (Nat.lt_trans (Nat.lt_add_of_pos_right (by decide)) (hbig b hb))) (Nat.ne_of_gt (hbig b hb)) e
    refine wpAny_tests_nil ?_
    rw [if_pos rfl]
    refine Call_ (boot_name (mg := mg) (mb := mb) (hg.keeps up₃) hg0 (hb.keeps up₃) hb0 (callWith_type1 (args_cons (wpAny_Name (wpAny_loadName_local (v := .ref a) rfl rfl hC₃ (if_pos rfl) (args_nil ?_))))))
    obtain ⟨na, ha₃⟩ := hpl.at fun o e => up₃ a o e
    refine call_list_seq (T := "list") a (.inl rfl) ha₃ rfl rfl (fun h₄ c₄ up₄ hT₄ => ?_) (by rw [List.size_toArray, hints.length]; exact hz r (List.mem_of_getElem? hri))
    have hbl : bs.length ≤ as.length := by have := hrows.length; rw [List.length_take] at this; omega
    refine wpAny_list_append_plain (hsz := by simp; omega) (hD₃.at fun o e => up₄ _ o e) fun h₅ hD₅ hs₅ => ?_
    have hCl : s.heap.objs.size + 2 < h₃.objs.size := hC₃.lt
    have keep₅ : ∀ b o, b ≠ s.heap.objs.size + 1 → h₃.get? b = some o → h₅.get? b = some o := fun b o hb e => hs₅.extBut b o hb (up₄ b o e)
    have hb1 : ∀ b ∈ bs, b ≠ s.heap.objs.size + 1 := fun b hb => Nat.ne_of_gt (Nat.lt_trans (Nat.lt_succ_self _) (hbig b hb))
    refine ⟨as.length + 1 - (i + 1), by omega, h₅, _, _, bs ++ [h₃.objs.size], i + 1, rfl, hit₃.at fun o e => keep₅ _ o (Nat.ne_of_lt (Nat.lt_succ_self _)) e, by simpa using hD₅, (hC₃.at' fun o e => keep₅ _ o (Nat.ne_of_gt (Nat.lt_succ_self _)) e), ?_, ?_, ?_, hlt, rfl, fun b o e => keep₅ b o (Nat.ne_of_lt (Nat.lt_succ_of_lt (nm e))) (up₃ b o e)⟩
    · rw [List.take_add_one, hri]
      refine (hrows₃.mono fun b hb o e => keep₅ b o (hb1 b hb) e).snoc ⟨vs, ⟨c₄, ?_⟩, hints⟩
      exact hs₅.extBut _ _ (Nat.ne_of_gt (Nat.lt_trans (Nat.lt_succ_self _) hCl)) hT₄
    · refine List.nodup_append.mpr ⟨hnd, by simp, fun b hb c hc => ?_⟩
      simp at hc; subst hc
      exact (hrows₃.mem hb).elim fun _ q => q.2.there.elim fun _ q => Nat.ne_of_lt (Heap.lt_size q.1)
    · intro b hb
      rcases List.mem_append.mp hb with hb | hb
      · exact hbig b hb
      · simp at hb; subst hb; exact hCl
end
end Mine
/-! part C3Told -/
namespace Mine
/-- what _law_told hands back -/
def Told (h h' : Heap) : Option (List Int) → Value → Prop
  | none, v => ∃ t, v = .str (Str.ofString "refused") t
  | some res, v => ∃ D, v = .ref D ∧ h.get? D = none ∧ Row h' D res
section
variable {prog : Program} {w : World} {A : Around} {E : Value → Shared → Prop} {s : Shared} {fc ft L : Addr} {cc ct : Value} {m mg mb : Str → Option Value} {R : Addr} {as : List Addr} {rs : List (List Int)} {envL : Env}
set_option maxRecDepth 100000 in
theorem told_call {Q : Value → Shared → Prop} (X : Wd mg mb fc ft cc ct s.heap) (hh : A.handled = none) (hroom : A.depth + 1 < recursionLimit) (hfr : A.frames = some [envL]) (hfL : envL.frame = some L) (hkL : envL.scope.kind ≠ .module)
    (hnL : s.heap.Ns L m) (hgL : mainGlobals ≠ L) (hbL : builtinsNs ≠ L)
    (hl : s.heap.IsList R (as.map Value.ref).toArray) (hr : Rows s.heap as rs) (hz : tot rs ≤ 1000000) (hza : as.length ≤ 1000000)
    (hQ : ∀ h' tk v, But L s.heap h' → h'.Ns L m → Told s.heap h' (merge rs) v → Q v { s with heap := h', toks := tk }) :
    wpAny (model prog w) A (call (.ref ft) [.ref R]) Q E s := by
  obtain ⟨o, pm, doc, hmg, ho, hdat, hcd⟩ := X.told
  refine wpAny_call (call_plain (binds := [(nRows, .ref R)]) (Nat.lt_of_succ_lt hroom) ho hdat X.nolimit hcd rfl (locs rfl) (fun h₁ F₁ => ?_) rfl rfl rfl (by decide))
  have e24 : sizeLine = 16777216 := sizeLine_eq
  have X₁ := X.keeps F₁.keep
  obtain ⟨oc, pmc, docc, hmgc, hoc, hdatc, hcdc⟩ := X₁.c3
  have hT0 : s.heap.get? s.heap.objs.size = none := get_size _
  have hLT : L ≠ s.heap.objs.size := Nat.ne_of_lt hnL.lt
  refine wpAny_execs_cons (wpAny_Try_except (wpAny_execs_cons (wpAny_Return_some (Call_ (glob_name (mg := mg) X₁.g hmgc (callWith_def hdatc (args_cons ?_)))))))
  refine copy_comp (mg := mg) (mb := mb) (R := R) (as := as) (rs := rs) hh F₁.ns rfl (hl.at fun o e => F₁.keep _ o e) (hr.mono fun a _ o e => F₁.keep a o e) (fun r hr => by have := le_tot hr; omega) (by omega) X₁.g X₁.b X₁.gl.1 X₁.bl.1 ?_
  intro D bs h₂ tk₂ hD hDb hbs hnd hlD hr₂ up₂
  refine args_nil ⟨up₂ _ _ hoc, ?_⟩
  have upS : Up s.heap h₂ := Up.trans F₁.keep up₂
  have hbase : ∀ {b : Addr} {o : Obj}, (TI.gone s.heap [L]).get? b = some o → b ≠ L ∧ s.heap.get? b = some o := fun e => let ⟨a, b⟩ := TI.gone_some e; ⟨fun q => a (by simp [q]), b⟩
  have toBase : ∀ {b : Addr} {o : Obj}, b ≠ L → s.heap.get? b = some o → (TI.gone s.heap [L]).get? b = some o := fun hb e => (TI.gone_get (by simpa using hb)).trans e
  have nb : ∀ {b : Addr}, s.heap.get? b = none → (TI.gone s.heap [L]).get? b = none := fun {b} e => by
    cases q : (TI.gone s.heap [L]).get? b with
    | none => rfl
    | some o => rw [(hbase q).2] at e; cases e
  have bsn : ∀ b ∈ bs, s.heap.get? b = none := fun b hb => Up.none F₁.keep (hbs b hb)
  have hTn : h₁.Ns s.heap.objs.size _ := F₁.ns
  have notb : ∀ {a : Addr} {q : Str → Option Value}, h₁.Ns a q → a ∉ bs := fun hn hm => by
    obtain ⟨o, _, _, ho, _⟩ := hn
    rw [hbs _ hm] at ho; cases ho
  have frames : ∀ h : Heap, (∀ b o, b ∉ bs → h₂.get? b = some o → h.get? b = some o) → h.FunFrames (TI.gone s.heap [L]) [tEnv s.heap.objs.size ft ct, envL] := fun h k => by
    refine .cons (show (scopeOf told).kind ≠ .module by decide) rfl ((hTn.keeps up₂).at' fun o e => k _ o (notb hTn) e) (nb hT0) (.cons hkL hfL ((hnL.keeps upS).at' fun o e => k _ o (notb (hnL.keeps F₁.keep)) e) (TI.gone_none (by simp)) trivial)
  have hlen : bs.length = as.length := by rw [hr₂.length, hr.length]
  refine c3_call (base := TI.gone s.heap [L]) (outer := [tEnv s.heap.objs.size ft ct, envL]) (as := bs) (rs := rs) (S := D) (X₁.keeps up₂) hh hroom (Around.frames_deeper hfr) (fun b o e => upS b o (hbase e).2) (fun b hb => nb (bsn b hb)) frames hlD hr₂ hz (by omega) hnd ?_ ?_
  · intro res D₃ h₃ tk₃ hm hD₃ hrow hk
    have k₃ : Up s.heap h₃ := fun b o e => hk b o (fun hb => by rw [bsn b hb] at e; cases e) (upS b o e)
    refine hQ h₃ tk₃ _ (fun b o _ e => k₃ b o e) (hnL.keeps k₃) ?_
    rw [hm]
    exact ⟨D₃, rfl, Up.none upS hD₃, hrow⟩
  · intro hm h₃ tk₃ e a0 hfl hsl
    have nsL₃ : h₃.Ns L m := by
      obtain ⟨o, es, ep, ho, hd, r⟩ := hnL.keeps upS
      obtain ⟨sl, hs⟩ := hsl L o (notb (hnL.keeps F₁.keep)) ho fun vs q => by rw [hd] at q; cases q
      exact ⟨_, es, ep, hs, hd, r⟩
    refine wpAny_looks_onW (Around.frames_deeper hfr) rfl hfl fun h₄ hheld sl₄ => ?_
    refine wpAny_landsW hheld fun h₅ hfl₅ sl₅ => ?_
    have st₅ := hfl₅.1
    refine wpAny_handleBy_builtin (X := "RuntimeError") (T := "RuntimeError") (b := true) (isSubtype_of_subB (by decide +kernel)) (isSubtype_of_subB (by decide +kernel)) (isSubtype_of_subB (by decide +kernel)) ?_
    refine boot_name (mg := mg) (mb := mb) (X.g.at' fun o e => st₅ _ o (toBase hgL e)) X.gl.2.2.2 (X.b.at' fun o e => st₅ _ o (toBase hbL e)) X.bl.2.2.2 ⟨rfl, hfl₅.there, ?_⟩
    rw [if_pos rfl]
    refine wpAny_setFlight_noneW hfl₅.1 hfl₅.2.2.1 hfl₅.2.2.2.at fun h₆ st₆ ff₆ tr₆ k₆ => ?_
    refine wpAny_execs_cons (wpAny_Return_some (wpAny_Constant_str ?_))
    refine hQ h₆ _ _ (fun b o hb e => st₆ b o (toBase hb e)) ?_ ?_
    · have n₅ := sl₅.ns (sl₄.ns nsL₃)
      exact n₅.at' fun o e => k₆ _ o e fun vs q => by
        obtain ⟨o', es, ep, ho', hd', _⟩ := n₅
        rw [e] at ho'; cases ho'
        rw [hd'] at q; cases q
    · rw [hm]; exact ⟨_, rfl⟩
end
end Mine
/-! part C3Rows -/
namespace Mine
theorem cell_ne_ns {h : Heap} {c L : Addr} {v : Option Value} {m : Str → Option Value} (hc : h.IsCell c v) (hn : h.Ns L m) : c ≠ L := by
  rintro rfl
  obtain ⟨o, ho, hd⟩ := hc
  obtain ⟨o', es, ep, ho', hd', _⟩ := hn
  rw [ho] at ho'; cases ho'
  rw [hd] at hd'; cases hd'
theorem cell_ne_list {h : Heap} {c a : Addr} {v : Option Value} {its : Array Value} (hc : h.IsCell c v) (hl : h.IsList a its) : c ≠ a := by
  rintro rfl
  obtain ⟨o, ho, hd⟩ := hc
  obtain ⟨o', ho', _, n, hd'⟩ := hl
  rw [ho] at ho'; cases ho'
  rw [hd] at hd'; cases hd'
theorem IsCell_at {h h' : Heap} {c : Addr} {v : Option Value} (x : h.IsCell c v) (k : ∀ o, h.get? c = some o → h'.get? c = some o) : h'.IsCell c v := let ⟨o, ho, hd⟩ := x; ⟨o, k o ho, hd⟩
theorem Row.ne_cell {h : Heap} {a c : Addr} {r : List Int} {v : Option Value} (x : Row h a r) (hc : h.IsCell c v) : a ≠ c :=
  let ⟨_, p, _⟩ := x; (cell_ne_list hc p.isList).symm
abbrev nScript : Str := Str.ofString "script"
abbrev nX : Str := Str.ofString "x"
abbrev lEnv (L f : Addr) (cd : Value) : Env := envOfC (Str.ofString "law") (scopeOf law) L f cd
/-- the law's frame behind its first loop -/
structure LS (H : Heap) (L R : Addr) (as : List Addr) (rs : List (List Int)) (m : Str → Option Value) (h : Heap) : Prop where
  ns : h.Ns L m
  cell : h.IsCell (L + 1) (some (.ref R))
  list : h.PlainList R (as.map Value.ref).toArray
  rows : Rows h as rs
  up : Up H h
theorem LS.step {H h h' : Heap} {L R : Addr} {as : List Addr} {rs : List (List Int)} {m m' : Str → Option Value} (x : LS H L R as rs m h) (k : But L h h') (hn : h'.Ns L m') (hL : H.get? L = none) : LS H L R as rs m' h' where
  ns := hn
  cell := IsCell_at x.cell fun o e => k _ o (cell_ne_ns x.cell x.ns) e
  list := x.list.at fun o e => k _ o (list_ne_ns x.list.isList x.ns) e
  rows := x.rows.mono fun a ha o e => k a o ((x.rows.mem ha).elim fun _ q => q.2.ne_ns x.ns) e
  up := fun b o e => k b o (fresh_of e hL) (x.up b o e)
theorem tot_append (a b : List (List Int)) : tot (a ++ b) = tot a + tot b := by simp [tot]
theorem Rows.inits {h : Heap} {as : List Addr} {a : Addr} {rs : List (List Int)} (x : Rows h (as ++ [a]) rs) : ∃ qs r, rs = qs ++ [r] ∧ Rows h as qs ∧ Row h a r := by
  induction as generalizing rs with
  | nil =>
    cases x with
    | cons hr ht => cases ht; exact ⟨[], _, rfl, .nil, hr⟩
  | cons b as ih =>
    cases x with
    | cons hr ht =>
      obtain ⟨qs, r, rfl, h1, h2⟩ := ih ht
      exact ⟨_ :: qs, r, rfl, .cons hr h1, h2⟩
section
variable {prog : Program} {w : World} {A : Around} {E : Value → Shared → Prop} {s : Shared} {L f S : Addr} {cd : Value} {m : Str → Option Value} {vs : List Value} {ns : List Int} {H : Heap}
set_option maxRecDepth 100000 in
theorem law_rows {Q : Flow → Shared → Prop} (hh : A.handled = none) (hn : s.heap.Ns L m) (hc : s.heap.IsCell (L + 1) none) (hm : m nScript = some (.ref S)) (hS : H.IsList S vs.toArray) (hi : IntsAre vs ns) (hlen : ns.length ≤ 63)
    (up : Up H s.heap) (hL : H.get? L = none) (hL1 : H.get? (L + 1) = none)
    (hQ : ∀ h' tk m' R as rs, LS H L R as rs m' h' → as.length ≤ 64 → tot rs ≤ 63 → wpAny (model prog w) A (execs (lawB.drop 2) (lEnv L f cd)) Q E { s with heap := h', toks := tk }) :
    wpAny (model prog w) A (execs lawB (lEnv L f cd)) Q E s := by
  have e24 : sizeLine = 16777216 := sizeLine_eq
  refine wpAny_execs_cons (wpAny_Assign_Name (List_ (args_cons (empty_list fun h₁ hpl₁ up₁ => args_nil (new_list ?_ (by simp; omega))))))
  have hcc : (lEnv L f cd).cells.lookup nRows = some (L + 1) := rfl
  have hup₂ : Up h₁ (h₁.push { cls := .type "list", data := .seq [Value.ref s.heap.objs.size].toArray }) := Up.push _ _
  refine wpAny_storeName_cell rfl rfl hcc (hc.keeps (Up.trans up₁ hup₂)) fun h₃ hc₃ hs₃ => ?_
  have hcL : L + 1 ≠ L := cell_ne_ns hc hn
  have lt0 : s.heap.objs.size < h₁.objs.size := hpl₁.isList.elim fun _ q => Heap.lt_size q.1
  have fr : ∀ {a : Addr}, s.heap.objs.size ≤ a → H.get? a = none := fun ha => Up.none up (Heap.get?_none_of_le ha)
  have keep₃ : ∀ b o, b ≠ L + 1 → h₁.get? b = some o → h₃.get? b = some o := fun b o hb e => hs₃.extBut b o hb (hup₂ b o e)
  have c0 : s.heap.objs.size ≠ L + 1 := Nat.ne_of_gt hc.lt
  have c1 : h₁.objs.size ≠ L + 1 := Nat.ne_of_gt (Nat.lt_trans hc.lt lt0)
  have hR₃ : h₃.PlainList h₁.objs.size ([s.heap.objs.size].map Value.ref).toArray := ⟨0, hs₃.extBut _ _ c1 (Heap.get?_push_size _ rfl)⟩
  have hsL : L ≠ L + 1 := hcL.symm
  refine wpAny_execs_cons (wpAny_For (wpAny_Name (wpAny_loadName_local rfl rfl ((hn.keeps up₁).at' fun o e => keep₃ _ o hsL e) hm (wpAny_pyIter_list (hS.at fun o e => keep₃ _ o (fresh_of e hL1) (up₁ _ o (up _ o e))) ?_))))
  generalize hI : h₃.objs.size = I
  have hIlt : ∀ {b : Addr} {o : Obj}, h₃.get? b = some o → b ≠ I := fun e => by rw [← hI]; exact Nat.ne_of_lt (Heap.lt_size e)
  have hHI : ∀ {b : Addr} {o : Obj}, H.get? b = some o → b ≠ I := fun e => hIlt (keep₃ _ _ (fresh_of e hL1) (up₁ _ _ (up _ _ e)))
  have hIL : I ≠ L := by obtain ⟨o, _, _, ho, _⟩ := (hn.keeps up₁).at' (h' := h₃) fun o e => keep₃ _ o hsL e; exact (hIlt ho).symm
  have hIc : I ≠ L + 1 := by obtain ⟨o, ho, _⟩ := hc₃; exact (hIlt ho).symm
  have hSL : ∀ {b : Addr} {o : Obj}, H.get? b = some o → b ≠ L := fun e => fresh_of e hL
  refine codeAny_forLoop (fun n s' => ∃ h' tk m' R as a rs i, s' = { s with heap := h', toks := tk } ∧ h'.IsListIter I S i ∧ LS H L R (as ++ [a]) rs m' h' ∧ (as ++ [a]).Nodup ∧ R ∉ as ++ [a] ∧ H.get? R = none ∧ (∀ b ∈ as ++ [a], H.get? b = none) ∧
    as.length ≤ i ∧ tot rs ≤ i ∧ i ≤ ns.length ∧ n = ns.length + 1 - i) ?_ (ns.length + 1) ?_
  · rintro n s' ⟨h', tk, m', R, as, a, rs, i, rfl, hit, ls, hnd, hRa, hR0, ha0, hla, hlt, hi', rfl⟩
    have hS' : h'.IsList S vs.toArray := hS.at fun o e => ls.up _ o e
    have hRL : R ≠ L := list_ne_ns ls.list.isList ls.ns
    obtain ⟨qs, r, rfl, hqs, hra⟩ := ls.rows.inits
    have haL : a ≠ L := hra.ne_ns ls.ns
    have haI : ∀ {b : Addr} {o : Obj} {its : Array Value} {k : Nat}, h'.get? b = some o → o.data = .seq its k → b ≠ I := fun {b o its k} e hd q => by
      obtain ⟨o', ho', _, hd'⟩ := hit
      rw [q, ho'] at e; cases e
      rw [hd'] at hd; cases hd
    have cI : L + 1 ≠ I := hIc.symm
    cases hv : vs[i]? with
    | none =>
      have hi2 : i = ns.length := Nat.le_antisymm hi' (by rw [← hi.length]; simpa using hv)
      refine wpAny_pyNext_list_end hh hit hS' (by simp [hv]) fun h₄ he₄ => wpAny_execs_nil ?_
      refine hQ h₄ tk m' R (as ++ [a]) _ ⟨ls.ns.extBut he₄ hIL.symm, IsCell_at ls.cell fun o e => he₄ _ o cI e, ls.list.at fun o e => he₄ _ o ?_ e, ls.rows.mono fun b hb o e => he₄ b o ?_ e, fun b o e => he₄ b o (hHI e) (ls.up b o e)⟩ (by simp; omega) (by omega)
      · obtain ⟨k, ek⟩ := ls.list; exact haI ek rfl
      · exact (ls.rows.mem hb).elim fun _ q => q.2.there.elim fun _ q => let ⟨q1, _, _, _, q2⟩ := q; haI q1 q2
    | some v =>
      obtain ⟨x, t, rfl, hx⟩ := hi.at i v hv
      have hlt' : i < ns.length := (List.getElem?_eq_some_iff.mp hx).1
      refine wpAny_pyNext_list_item hit hS' (x := .int x t) (by simp [hv]) fun h₄ hit₄ hs₄ => ?_
      refine wpAny_assign_Name (wpAny_storeName_local rfl (ls.ns.sameBut hs₄ hIL.symm) (fun h₅ hn₅ hs₅ => ?_) rfl)
      have keep₅ : ∀ b o, b ≠ L → b ≠ I → h'.get? b = some o → h₅.get? b = some o := fun b o hb hb' e => hs₅.extBut b o hb (hs₄.extBut b o hb' e)
      have hit₅ : h₅.IsListIter I S (i + 1) := hit₄.extBut hs₅.extBut hIL
      have RI : R ≠ I := by obtain ⟨k, ek⟩ := ls.list; exact haI ek rfl
      have aI : ∀ b ∈ as ++ [a], b ≠ I := fun b hb => (ls.rows.mem hb).elim fun _ q => q.2.there.elim fun _ q => let ⟨q1, _, _, _, q2⟩ := q; haI q1 q2
      have aL : ∀ b ∈ as ++ [a], b ≠ L := fun b hb => (ls.rows.mem hb).elim fun _ q => q.2.ne_ns ls.ns
      have ls₅ : LS H L R (as ++ [a]) (qs ++ [r]) _ h₅ := ⟨hn₅, IsCell_at ls.cell fun o e => keep₅ _ o hcL cI e, ls.list.at fun o e => keep₅ _ o hRL RI e, ls.rows.mono fun b hb o e => keep₅ b o (aL b hb) (aI b hb) e, fun b o e => keep₅ b o (hSL e) (hHI e) (ls.up b o e)⟩
      refine wpAny_execs_cons (wpAny_If (wpAny_isTrue_Compare1 (wpAny_BinOp (wpAny_Name (wpAny_loadName_local (v := .int x t) rfl rfl hn₅ (if_pos rfl) (wpAny_Constant_int (mod_int' (by decide) (wpAny_Constant_int (eq_int (wpAny_truthy_bool ?_))))))))))
      cases hz : x.fmod 8 == 0 with
      | true =>
        refine wpAny_execs_cons (append_stmt (wpAny_Name (wpAny_loadName_cell rfl rfl hcc ls₅.cell ⟨R, rfl, ⟨_, ls₅.list⟩, empty_list fun h₆ hpl₆ up₆ => ⟨_, ls₅.list.at fun o e => up₆ _ o e, by simp; omega, fun h₇ hpl₇ hs₇ => ?_⟩⟩)))
        refine wpAny_execs_nil (wpAny_execs_nil ?_)
        have n0 : h₅.get? h₅.objs.size = none := get_size _
        obtain ⟨kR, eR⟩ := ls₅.list
        have keep₇ : ∀ b o, b ≠ R → h₅.get? b = some o → h₇.get? b = some o := fun b o hb e => hs₇.extBut b o hb (up₆ b o e)
        have hRN : R ≠ h₅.objs.size := fresh_of eR n0
        have bR : ∀ b ∈ as ++ [a], b ≠ R := fun b hb q => hRa (q ▸ hb)
        refine ⟨ns.length + 1 - (i + 1), by omega, h₇, _, _, R, as ++ [a], h₅.objs.size, (qs ++ [r]) ++ [[]], i + 1, rfl, hit₅.at fun o e => keep₇ _ o RI.symm e, ⟨hn₅.at' fun o e => keep₇ _ o hRL.symm e, IsCell_at ls₅.cell fun o e => keep₇ _ o (cell_ne_list ls₅.cell ls₅.list.isList) e, by simpa using hpl₇, ?_, fun b o e => keep₇ b o (fresh_of e hR0) (ls₅.up b o e)⟩, ?_, ?_, hR0, ?_, by simp; omega, by rw [tot_append]; simp [tot] at hlt ⊢; omega, hlt', rfl⟩
        · exact (ls₅.rows.mono fun b hb o e => keep₇ b o (bR b hb) e).snoc ⟨[], hpl₆.at fun o e => hs₇.extBut _ o hRN.symm e, .nil⟩
        · refine List.nodup_append.mpr ⟨hnd, by simp, fun b hb c hc => ?_⟩
          simp at hc; subst hc
          exact (ls₅.rows.mem hb).elim fun _ q => q.2.there.elim fun _ q => fresh_of q.1 n0
        · intro hmem
          rcases List.mem_append.mp hmem with hq | hq
          · exact hRa hq
          · simp at hq; exact hRN hq
        · intro b hb
          rcases List.mem_append.mp hb with hb | hb
          · exact ha0 b hb
          · simp at hb; subst hb; exact Up.none ls₅.up n0
      | false =>
        obtain ⟨qs', r', e', hqs₅, hra₅⟩ := ls₅.rows.inits
        obtain ⟨rfl, rfl⟩ : qs = qs' ∧ r = r' := by
          have h1 := List.append_inj' e' rfl
          exact ⟨h1.1, by simpa using h1.2⟩
        obtain ⟨us, hpla, hintsa⟩ := id hra₅
        have hlast : h₅.IsList R (as.map Value.ref ++ [Value.ref a]).toArray := by have := ls₅.list.isList; simpa using this
        have hrl : r.length ≤ 63 := by
          have := le_tot (rs := qs ++ [r]) (r := r) (by simp); omega
        refine wpAny_execs_cons (wpAny_If (wpAny_isTrue_Compare1 (wpAny_BinOp (wpAny_Name (wpAny_loadName_local (v := .int x t) rfl rfl hn₅ (if_pos rfl) (wpAny_Constant_int (mod_int' (by decide) ?_)))))))
        refine item_last (wpAny_Name (wpAny_loadName_cell rfl rfl hcc ls₅.cell ⟨R, as.map Value.ref, .ref a, rfl, hlast, by simp; omega, fun tk₆ => ?_⟩))
        refine notIn_ints hpla.isList hintsa (wpAny_truthy_bool ?_)
        cases hin : r.contains (x.fmod 8) with
        | true =>
          refine wpAny_execs_nil (wpAny_execs_nil (wpAny_execs_nil ?_))
          exact ⟨ns.length + 1 - (i + 1), by omega, h₅, _, _, R, as, a, _, i + 1, rfl, hit₅, ls₅, hnd, hRa, hR0, ha0, by omega, by omega, hlt', rfl⟩
        | false =>
          refine wpAny_execs_cons (append_stmt (item_last (wpAny_Name (wpAny_loadName_cell rfl rfl hcc ls₅.cell ⟨R, as.map Value.ref, .ref a, rfl, hlast, by simp; omega, fun tk₇ => ⟨a, rfl, ⟨_, hpla⟩,
            wpAny_BinOp (wpAny_Name (wpAny_loadName_local (v := .int x t) rfl rfl hn₅ (if_pos rfl) (wpAny_Constant_int (mod_int' (by decide) ⟨_, hpla, by rw [List.size_toArray, hintsa.length]; omega, fun h₇ hpl₇ hs₇ => ?_⟩))))⟩⟩))))
          refine wpAny_execs_nil (wpAny_execs_nil (wpAny_execs_nil ?_))
          have ham : a ∈ as ++ [a] := by simp
          have haR : R ≠ a := fun q => hRa (q ▸ ham)
          refine ⟨ns.length + 1 - (i + 1), by omega, h₇, _, _, R, as, a, qs ++ [r ++ [x.fmod 8]], i + 1, rfl, hit₅.extBut hs₇.extBut (aI a ham).symm, ⟨hn₅.sameBut hs₇ haL.symm, IsCell_at ls₅.cell fun o e => hs₇.extBut _ o (cell_ne_list ls₅.cell hpla.isList) e, ls₅.list.at fun o e => hs₇.extBut _ o haR e, ?_, fun b o e => hs₇.extBut b o (fresh_of e (ha0 a ham)) (ls₅.up b o e)⟩, hnd, hRa, hR0, ha0, by omega, ?_, hlt', rfl⟩
          · have hna : a ∉ as := by
              have := (List.nodup_append.mp hnd).2.2
              exact fun hm => this a hm a (by simp) rfl
            exact (hqs₅.mono fun b hb o e => hs₇.extBut b o (fun q => hna (q ▸ hb)) e).snoc ⟨us ++ [.int (x.fmod 8) _], by simpa using hpl₇, hintsa.append (.cons _ _ .nil)⟩
          · rw [tot_append] at hlt ⊢
            simp [tot] at hlt ⊢
            omega
  · refine ⟨_, _, m, h₁.objs.size, [], s.heap.objs.size, [[]], 0, rfl, ⟨_, by rw [← hI]; exact Heap.get?_push_size _ rfl, rfl, rfl⟩, ⟨((hn.keeps up₁).at' fun o e => keep₃ _ o hsL e).push _, IsCell_at hc₃ fun o e => Heap.get?_push_of_some _ e, hR₃.at fun o e => Heap.get?_push_of_some _ e, ?_, ?_⟩, by simp, ?_, fr (Nat.le_of_lt lt0), ?_, Nat.le_refl _, by simp [tot], Nat.zero_le _, rfl⟩
    · exact .cons ⟨[], hpl₁.at fun o e => Heap.get?_push_of_some _ (keep₃ _ o c0 e), .nil⟩ .nil
    · exact fun b o e => Heap.get?_push_of_some _ (keep₃ _ o (fresh_of e hL1) (up₁ _ o (up _ o e)))
    · simp; exact Nat.ne_of_gt lt0
    · intro b hb; simp at hb; subst hb; exact fr (Nat.le_refl _)
end
end Mine
/-! part C3Rev -/
namespace Mine
theorem nolen_rev : typeLookup (.type "list_reverseiterator") "__len__" = pure none := by rw [typeLookup_type, builtinLookup_eq_fast]; kernel_rfl
theorem hint_rev : typeLookup (.type "list_reverseiterator") "__length_hint__" = pure (some (.builtin "list_reverseiterator.__length_hint__")) := by rw [typeLookup_type, builtinLookup_eq_fast]; kernel_rfl
section
variable {prog : Program} {w : World} {A : Around} {E : Value → Shared → Prop} {s : Shared} {I l : Addr} {items : Array Value}
theorem rev_acc {acc : Array Value} (h : ItemsOf (fun i v => items[items.size - 1 - i]? = some v) acc items.size) : acc.toList = items.toList.reverse := by
  apply List.ext_getElem?
  intro i
  by_cases hi : i < items.size
  · have hi' : i < acc.size := by rw [h.1]; exact hi
    have q : items[items.size - 1 - i]? = some acc[i] := h.2 i acc[i] (by simp [hi'])
    rw [List.getElem?_reverse (by rw [Array.length_toList]; exact hi)]
    rw [Array.getElem?_toList, Array.getElem?_toList, Array.length_toList, q]
    simp [hi']
  · rw [List.getElem?_eq_none (by rw [Array.length_toList, h.1]; omega), List.getElem?_eq_none (by rw [List.length_reverse, Array.length_toList]; omega)]
theorem extend_rev {R : Result → Shared → Prop} (hh : A.handled = none) (hit : s.heap.IsRevIter I l ((items.size : Int) - 1)) (hl : s.heap.IsList l items) (hsz : items.size ≤ sizeLine) (S : Addr) (res : Value) (c₀ : Nat)
    (hS : s.heap.get? S = some { cls := .type "list", data := .seq #[] c₀ }) (hSI : S ≠ I) (hSl : S ≠ l) (hlI : l ≠ I)
    (hR : ∀ h' tk acc' c', (∀ b o, b ≠ S → b ≠ I → s.heap.get? b = some o → h'.get? b = some o) → h'.get? S = some { cls := .type "list", dict := none, data := .seq acc' c', slots := #[] } →
      acc'.toList = items.toList.reverse → R (.ok (.ret res)) { s with heap := h', toks := tk }) :
    wpAny (model prog w) A.in1 (Builtin.List.listExtendWith (.ref S) (.ref I) res)
      (fun fin s' => match fin with | .done f => R (.ok f) s' | .again c' => c'.quiet = true ∧ codeAny (model prog w) A c' R s') (fun e s' => R (.error e) s') s := by
  have W := (Walks.listRev (prog := prog) (w := w) (A := A.in1) hh I l hlI items).toS
  have h1 : Builtin.List.listSameRef (.ref S) (.ref I) = false := by simp [Builtin.List.listSameRef, hSI]
  unfold Builtin.List.listExtendWith
  refine wpAny_bind (wpAny_typeOf hit.typeIs ?_)
  rw [if_neg (by rw [h1]; decide)]
  refine wpAny_bind (wpAny_pyIter_revIter hit ?_)
  refine wpAny_bind (wpAny_holding ?_)
  unfold Builtin.List.listLengthHint
  refine wpAny_bind (wpAny_specialOf hit.typeIs nolen_rev ?_)
  show wpAny _ A.in1 (specialOf (Value.ref I) (Str.ofString "__length_hint__") >>= _) _ _ _
  refine wpAny_bind (wpAny_specialOf hit.typeIs hint_rev ?_)
  (generalize hid : ("list_reverseiterator.__length_hint__" : String) = id0; (fail_if_success (clear hid id0)); wp_delta; rw [show splitId id0 = some ("list_reverseiterator", "__length_hint__") from by subst hid; decide +kernel]; subst hid)
  refine wpAny_bind (wpAny_isInstance (b := true) hit.typeIs (by rw [isSubtype_type]; kernel_rfl) ?_)
  refine wpAny_pure ?_
  rw [if_neg (by decide)]
  have hSf : S ∉ [I, l] := by simp [hSI, hSl]
  have hit0 : s.heap.IsRevIter I l ((items.size : Int) - 1 - ((0 : Nat) : Int)) := by simpa using hit
  refine wpAny_pure ⟨plainId_quiet F.plain_extend_loop _, codeAny_extend_loopS W hsz _ hSf _ items.size 0 _ _ _ rfl (Nat.zero_le _) ⟨Nat.zero_le _, hit0, hl⟩ hS (ItemsOf.nil _) fun s' acc' c' hm hS' hacc => ?_⟩
  rw [Moved.eq_with hm]
  refine hR s'.heap s'.toks acc' c' (fun b o hb hb' e => hm.heap b o (fun hmem => ?_) e) hS' (rev_acc hacc)
  rcases List.mem_cons.mp hmem with q | q
  · exact hb q
  · exact hb' (List.mem_singleton.mp q)
theorem list_rev {Q : Value → Shared → Prop} (hh : A.handled = none) (hit : s.heap.IsRevIter I l ((items.size : Int) - 1)) (hl : s.heap.IsList l items) (hsz : items.size ≤ sizeLine) (hlI : l ≠ I)
    (hQ : ∀ h' tk acc, (∀ b o, b ≠ I → s.heap.get? b = some o → h'.get? b = some o) → h'.PlainList s.heap.objs.size acc →
      acc.toList = items.toList.reverse → Q (.ref s.heap.objs.size) { s with heap := h', toks := tk }) :
    wpAny (model prog w) A (call (.type "list") [.ref I]) Q E s := by
  refine callType_codes (Q₁ := fun obj s₁ => obj = .ref s.heap.objs.size ∧ s₁ = { s with heap := s.heap.push { cls := .type "list", data := .seq #[] } }) F.called_list (F.typeCall_list_1 _) F.entry_list_init
    (code_list_new _ ⟨rfl, rfl⟩) fun obj s₁ h₁ => ?_
  obtain ⟨rfl, rfl⟩ := h₁
  have hS : (s.heap.push { cls := .type "list", data := .seq #[] }).get? s.heap.objs.size = some { cls := .type "list", data := .seq #[] } := Heap.get?_push_size _ rfl
  have hSI : s.heap.objs.size ≠ I := let ⟨_, e, _⟩ := hit; Nat.ne_of_gt (Heap.lt_size e)
  have hSl : s.heap.objs.size ≠ l := let ⟨_, e, _⟩ := hl; Nat.ne_of_gt (Heap.lt_size e)
  refine ⟨⟨_, hS, rfl⟩, F.args_list_init_2 _ _, ?_⟩
  show wpAny _ A.in1.in1 (do let old ← Builtin.List.listItems (.ref s.heap.objs.size); Builtin.List.listUpdate (.ref s.heap.objs.size) (fun _ => #[]); letGo old.toList.reverse; Builtin.List.listExtendWith (.ref s.heap.objs.size) (.ref I) .none) _ _ _
  refine wpAny_bind ?_
  unfold Builtin.List.listItems
  refine wpAny_bind (wpAny_seqItems hS rfl (wpAny_pure ?_))
  show wpAny _ A.in1.in1 (updateSeq s.heap.objs.size (fun _ => #[]) >>= fun _ => letGo (#[] : Array Value).toList.reverse >>= fun _ => Builtin.List.listExtendWith (.ref s.heap.objs.size) (.ref I) .none) _ _ _
  refine wpAny_bind (wpAny_updateSeq hS rfl ?_)
  have hS₂ := Heap.get?_update_self (Obj.mapSeq (fun _ => (#[] : Array Value))) hS rfl
  have oth : ∀ b o, b ≠ s.heap.objs.size → s.heap.get? b = some o → ((s.heap.push { cls := .type "list", data := .seq #[] }).update s.heap.objs.size (Obj.mapSeq (fun _ => (#[] : Array Value)))).get? b = some o :=
    fun b o hb e => (Heap.get?_update_other _ _ (Ne.symm hb)).trans (Heap.get?_push_of_some _ e)
  refine wpAny_bind (wpAny_letGo ?_)
  refine extend_rev (A := A.in1) (I := I) (l := l) (items := items) hh (hit.at fun o e => oth _ o hSI.symm e) (hl.at fun o e => oth _ o hSl.symm e) hsz s.heap.objs.size .none _ hS₂ hSI hSl hlI fun h' tk acc' c' hk hS' hacc => ?_
  exact ⟨rfl, hQ h' tk acc' (fun b o hb e => hk b o (Nat.ne_of_lt (Heap.lt_size e)) hb (oth b o (Nat.ne_of_lt (Heap.lt_size e)) e)) ⟨c', hS'⟩ hacc⟩
end
end Mine
/-! part C3Tell -/
namespace Mine
/-- a told value, as it stands in a heap -/
def Val (h : Heap) : Option (List Int) → Value → Prop
  | none, v => ∃ t, v = .str (Str.ofString "refused") t
  | some res, v => ∃ D, v = .ref D ∧ Row h D res
theorem Told.val {h h' : Heap} : ∀ {o : Option (List Int)} {v : Value}, Told h h' o v → Val h' o v
  | none, _, x => x
  | some _, _, ⟨D, e, _, r⟩ => ⟨D, e, r⟩
theorem Val.step {h h' : Heap} {L : Addr} {m : Str → Option Value} (hn : h.Ns L m) (k : But L h h') : ∀ {o : Option (List Int)} {v : Value}, Val h o v → Val h' o v
  | none, _, x => x
  | some _, _, ⟨D, e, r⟩ => ⟨D, e, r.at fun o e => k D o (r.ne_ns hn) e⟩
theorem Val.up {h h' : Heap} (k : Up h h') : ∀ {o : Option (List Int)} {v : Value}, Val h o v → Val h' o v
  | none, _, x => x
  | some _, _, ⟨D, e, r⟩ => ⟨D, e, r.at fun o e => k D o e⟩
abbrev nTold : Str := Str.ofString "told"
abbrev nBack : Str := Str.ofString "back"
abbrev sRef : Str := Str.ofString "refused"
section
variable {prog : Program} {w : World} {A : Around} {E : Value → Shared → Prop} {s : Shared} {L f : Addr} {cd : Value} {H : Heap} {fc ft : Addr} {cc ct : Value} {mg mb : Str → Option Value}
/-- list == text -/
theorem eq_list_str {a : Addr} {vs : List Value} {r : List Int} {x : Str} {t : Tok} {Q : Value → Shared → Prop} (hl : s.heap.IsList a vs.toArray) (hi : IntsAre vs r) (hu : A.units + 64 < cLine) (hx : PyData.strOk x = true) (h : Q (.bool false) s) :
    wpAny (model prog w) A (compareOp .Eq (.ref a) (.str x t)) Q E s :=
  eq_dataH_same (reads_of_ints hl hi) (Reads.str (h := s.heap) x t) (shaped_ints r) (by simp [PySem.SeqAt.shaped, PyData.canLay0, PyData.depth, hx]) hu (by simp only [PySem.SeqAt.noMix]) (by simpa only [PySem.Spec.same] using h)
theorem val_refused {o : Option (List Int)} {v : Value} {t : Tok} {Q : Value → Shared → Prop} (hv : Val s.heap o v) (hu : A.units + 64 < cLine) (h : Q (.bool o.isNone) s) :
    wpAny (model prog w) A (compareOp .Eq v (.str sRef t)) Q E s := by
  cases o with
  | none =>
    obtain ⟨u, rfl⟩ := hv
    exact eq_str (by rw [beq_self_eq_true]; exact h)
  | some r =>
    obtain ⟨D, rfl, vs, hpl, hi⟩ := hv
    exact eq_list_str hpl.isList hi hu (by decide +kernel) h
theorem val_eq {o : Option (List Int)} {v v' : Value} {Q : Value → Shared → Prop} (hv : Val s.heap o v) (hv' : Val s.heap o v') (hu : A.units + 64 < cLine) (h : Q (.bool true) s) :
    wpAny (model prog w) A (compareOp .Eq v v') Q E s := by
  cases o with
  | none =>
    obtain ⟨u, rfl⟩ := hv
    obtain ⟨u', rfl⟩ := hv'
    exact eq_str (by rw [beq_self_eq_true]; exact h)
  | some r =>
    obtain ⟨D, rfl, vs, hpl, hi⟩ := hv
    obtain ⟨D', rfl, vs', hpl', hi'⟩ := hv'
    exact eq_intsK hpl.isList hi hpl'.isList hi' hu (by simpa using h)
/-- _law_told(e) -/
theorem told_expr {argE : Expr} {np pos : Pos} {Q : Value → Shared → Prop} (X : Wd mg mb fc ft cc ct H) (hL : H.get? L = none) (hh : A.handled = none) (hroom : A.depth + 1 < recursionLimit) (hfr : A.frames = some [lEnv L f cd]) (up : Up H s.heap)
    (h : wpAny (model prog w) A (eval argE (lEnv L f cd)) (fun v s₁ => ∃ R as rs m, v = .ref R ∧ Up H s₁.heap ∧ s₁.heap.Ns L m ∧ s₁.heap.IsList R (List.map Value.ref as).toArray ∧ Rows s₁.heap as rs ∧ tot rs ≤ 1000000 ∧ as.length ≤ 1000000 ∧
      ∀ h' tk v', But L s₁.heap h' → h'.Ns L m → Val h' (merge rs) v' → Q v' { s₁ with heap := h', toks := tk }) E s)
    (he : ∀ rest, starEach (argE :: rest) (lEnv L f cd) = (false, eval argE (lEnv L f cd)) :: starEach rest (lEnv L f cd) := by intro _; rfl) :
    wpAny (model prog w) A (eval (.Call (.Name (Str.ofString "_law_told") np) [argE] [] pos) (lEnv L f cd)) Q E s := by
  have X₀ := X.keeps up
  obtain ⟨o, pm, doc, hmg, ho, hdat, hcd⟩ := X.told
  have nL : ∀ {a : Addr} {m : Str → Option Value}, H.Ns a m → a ≠ L := fun hn => by
    obtain ⟨o, _, _, ho, _⟩ := hn; exact fresh_of ho hL
  refine Call_ (glob_name (mg := mg) X₀.g hmg (callWith_def hdat (args_cons (wpAny_mono h (fun v s₁ h₁ => args_nil ?_) fun _ _ e => e) (he _)) (he _)))
  obtain ⟨R, as, rs, m, rfl, up₁, hn, hl, hr, hz, hza, hQ⟩ := h₁
  exact ⟨up₁ _ _ ho, told_call (X.keeps up₁) hh hroom hfr rfl (show (scopeOf law).kind ≠ .module by decide) hn (nL X.g) (nL X.b) hl hr hz hza fun h' tk v a b c => hQ h' tk v a b c.val⟩
theorem tot_reverse (rs : List (List Int)) : tot rs.reverse = tot rs := by simp [tot]
/-- rows, as an expression of the law's -/
theorem rows_name {R : Addr} {as : List Addr} {rs : List (List Int)} {m : Str → Option Value} {pos : Pos} {Q : Value → Shared → Prop} (ls : LS H L R as rs m s.heap) (h : Q (.ref R) s) :
    wpAny (model prog w) A (eval (.Name nRows pos) (lEnv L f cd)) Q E s := wpAny_Name (wpAny_loadName_cell rfl rfl (c := L + 1) rfl ls.cell h)
set_option maxRecDepth 100000 in
theorem law_tell {Q : Flow → Shared → Prop} {R : Addr} {as : List Addr} {rs : List (List Int)} {m : Str → Option Value} (X : Wd mg mb fc ft cc ct H) (hL : H.get? L = none) (hh : A.handled = none) (hroom : A.depth + 1 < recursionLimit) (hfr : A.frames = some [lEnv L f cd])
    (ls : LS H L R as rs m s.heap) (hza : as.length ≤ 64) (hz : tot rs ≤ 63)
    (hQ : ∀ h' tk m' v v', LS H L R as rs m' h' → m' nTold = some v → m' nBack = some v' → Val h' (merge rs) v → Val h' (merge rs.reverse) v' →
      wpAny (model prog w) A (execs (lawB.drop 4) (lEnv L f cd)) Q E { s with heap := h', toks := tk }) :
    wpAny (model prog w) A (execs (lawB.drop 2) (lEnv L f cd)) Q E s := by
  have e24 : sizeLine = 16777216 := sizeLine_eq
  refine wpAny_execs_cons (wpAny_Assign_Name (told_expr X hL hh hroom hfr ls.up (rows_name ls ⟨R, as, rs, m, rfl, ls.up, ls.ns, ls.list.isList, ls.rows, by omega, by omega, fun h₁ tk₁ v₁ k₁ n₁ val₁ => ?_⟩)))
  have ls₁ := ls.step k₁ n₁ hL
  refine wpAny_storeName_local rfl n₁ (fun h₂ n₂ hs₂ => ?_) rfl
  have ls₂ := ls₁.step (hs₂.extBut) n₂ hL
  have val₂ := Val.step n₁ hs₂.extBut val₁
  have X₂ := X.keeps ls₂.up
  refine wpAny_execs_cons (wpAny_Assign_Name (told_expr X hL hh hroom hfr ls₂.up ?_))
  refine Call_ (boot_name (mg := mg) (mb := mb) X₂.g X₂.gl.1 X₂.b X₂.bl.1 (callWith_type1 (args_cons (Call_ (boot_name (mg := mg) (mb := mb) X₂.g X₂.gl.2.1 X₂.b X₂.bl.2.1 (callWith_type1 (args_cons (rows_name ls₂ (args_nil (call_reversed_list ls₂.list.isList (args_nil ?_)))))))))))
  have hRI : R ≠ h₂.objs.size := by obtain ⟨k, e⟩ := ls₂.list; exact Nat.ne_of_lt (Heap.lt_size e)
  refine list_rev (items := (as.map Value.ref).toArray) hh ⟨_, Heap.get?_push_size _ rfl, rfl, rfl⟩ (ls₂.list.isList.at fun o e => Heap.get?_push_of_some _ e) (by simp; omega) hRI fun h₃ tk₃ acc k₃ hpl₃ hacc => ?_
  have up₃ : Up h₂ h₃ := fun b o e => k₃ b o (Nat.ne_of_lt (Heap.lt_size e)) (Heap.get?_push_of_some _ e)
  have n₃ := n₂.keeps up₃
  have ls₃ := ls₂.step (fun b o _ e => up₃ b o e) n₃ hL
  have hacc' : acc = (as.reverse.map Value.ref).toArray := by
    rw [← Array.toArray_toList (xs := acc), hacc]; simp
  rw [hacc'] at hpl₃
  refine ⟨_, as.reverse, rs.reverse, _, rfl, ls₃.up, n₃, hpl₃.isList, ls₃.rows.reverse, by rw [tot_reverse]; omega, by simp; omega, fun h₄ tk₄ v₄ k₄ n₄ val₄ => ?_⟩
  have ls₄ := ls₃.step k₄ n₄ hL
  refine wpAny_storeName_local rfl n₄ (fun h₅ n₅ hs₅ => ?_) rfl
  have ls₅ := ls₄.step (hs₅.extBut) n₅ hL
  exact hQ h₅ _ _ v₁ v₄ ls₅ ((if_neg (by decide)).trans (if_pos rfl)) (if_pos rfl) (Val.step n₄ hs₅.extBut (Val.step n₃ k₄ (Val.up up₃ val₂))) (Val.step n₄ hs₅.extBut val₄)
end
end Mine
/-! part C3If -/
namespace Mine
section
variable {prog : Program} {w : World} {A : Around} {E : Value → Shared → Prop} {s : Shared} {L f : Addr} {cd : Value} {H : Heap} {fc ft : Addr} {cc ct : Value} {mg mb : Str → Option Value} {R : Addr} {as : List Addr} {rs : List (List Int)} {m : Str → Option Value}
/-- two lists, one behind the other -/
theorem add_lists2 {l b : Addr} {us vs : List Value} {Q : Value → Shared → Prop} (hl : s.heap.PlainList l us.toArray) (hb : s.heap.PlainList b vs.toArray) (hz : us.length + vs.length ≤ sizeLine)
    (h : ∀ h', h'.PlainList s.heap.objs.size (us ++ vs).toArray → Up s.heap h' → Q (.ref s.heap.objs.size) { s with heap := h' }) :
    wpAny (model prog w) A (binaryOp .Add (.ref l) (.ref b)) Q E s := by
  obtain ⟨n, e⟩ := hl
  obtain ⟨n', e'⟩ := hb
  refine P.add_list (n := n) (n2 := n') e e' (h _ ⟨0, ?_⟩ (Up.push _ _)) (by simpa using hz)
  have : us.toArray ++ vs.toArray = (us ++ vs).toArray := by simp
  rw [this]
  exact Heap.get?_push_size _ rfl
/-- rows + rows, told -/
theorem twice_told {np p1 p2 bp pos : Pos} {Q : Value → Shared → Prop} (X : Wd mg mb fc ft cc ct H) (hL : H.get? L = none) (hh : A.handled = none) (hroom : A.depth + 1 < recursionLimit) (hfr : A.frames = some [lEnv L f cd])
    (ls : LS H L R as rs m s.heap) (hza : as.length ≤ 64) (hz : tot rs ≤ 63)
    (hQ : ∀ h' tk v', But L s.heap h' → h'.Ns L m → Val h' (merge rs) v' → Q v' { s with heap := h', toks := tk }) :
    wpAny (model prog w) A (eval (.Call (.Name (Str.ofString "_law_told") np) [.BinOp (.Name nRows p1) .Add (.Name nRows p2) bp] [] pos) (lEnv L f cd)) Q E s := by
  have e24 : sizeLine = 16777216 := sizeLine_eq
  refine told_expr X hL hh hroom hfr ls.up (wpAny_BinOp (rows_name ls (rows_name ls (add_lists2 ls.list ls.list (by simp; omega) fun h₁ hpl up₁ => ?_))))
  have n₁ := ls.ns.keeps up₁
  have ls₁ := ls.step (fun b o _ e => up₁ b o e) n₁ hL
  refine ⟨_, as ++ as, rs ++ rs, m, rfl, ls₁.up, n₁, by simpa using hpl.isList, ls₁.rows.append ls₁.rows, by rw [tot_append]; omega, by simp; omega, fun h₂ tk v k n val => hQ h₂ tk v (fun b o hb e => k b o hb (up₁ b o e)) n ?_⟩
  rwa [merge_twice] at val
set_option maxRecDepth 100000 in
theorem law_if1 {Q : Flow → Shared → Prop} {v v' : Value} (X : Wd mg mb fc ft cc ct H) (hL : H.get? L = none) (hh : A.handled = none) (hroom : A.depth + 1 < recursionLimit) (hfr : A.frames = some [lEnv L f cd]) (hu : A.units + 64 < cLine)
    (ls : LS H L R as rs m s.heap) (hza : as.length ≤ 64) (hz : tot rs ≤ 63) (ht : m nTold = some v) (hb : m nBack = some v') (vt : Val s.heap (merge rs) v) (vb : Val s.heap (merge rs.reverse) v')
    (hret : ∀ h' tk, Up H h' → Q (.ret (.bool true)) { s with heap := h', toks := tk })
    (hQ : ∀ res res' tk, merge rs = some res → merge rs.reverse = some res' → wpAny (model prog w) A (execs (lawB.drop 5) (lEnv L f cd)) Q E { s with toks := tk }) :
    wpAny (model prog w) A (execs (lawB.drop 4) (lEnv L f cd)) Q E s := by
  refine wpAny_execs_cons (wpAny_If (wpAny_isTrue_BoolOp (wpAny_allTrue_Or_cons (wpAny_isTrue_Compare1 (wpAny_Name (wpAny_loadName_local rfl rfl ls.ns ht (wpAny_Constant_str (val_refused (o := merge rs) vt hu (wpAny_truthy_bool ?_)))))))))
  cases hm : merge rs with
  | none =>
    have hm' := (merge_reverse_none rs).mpr hm
    rw [hm] at vt
    rw [hm'] at vb
    refine wpAny_execs_cons (wpAny_Return_some (wpAny_And2 (wpAny_Compare1 (wpAny_Name (wpAny_loadName_local rfl rfl ls.ns ht (wpAny_Name (wpAny_loadName_local rfl rfl ls.ns hb (val_eq vt vb hu (wpAny_truthy_bool ?_)))))))))
    show wpAny _ _ (eval _ _) _ _ _
    refine wpAny_Compare1 (twice_told (s := { s with toks := s.toks + 1 }) X hL hh hroom hfr ls hza hz fun h₁ tk₁ v₁ k₁ n₁ val₁ => ?_)
    rw [hm] at val₁
    refine wpAny_Name (wpAny_loadName_local rfl rfl n₁ ht (val_eq val₁ (Val.step ls.ns k₁ vt) hu ?_))
    exact hret h₁ tk₁ fun b o e => k₁ b o (fresh_of e hL) (ls.up b o e)
  | some res =>
    cases hm' : merge rs.reverse with
    | none => rw [(merge_reverse_none rs).mp hm'] at hm; cases hm
    | some res' =>
      show wpAny _ _ (allTrue _ _ _) _ _ _
      refine wpAny_allTrue_Or_cons (wpAny_isTrue_Compare1 (wpAny_Name (wpAny_loadName_local (s := { s with toks := s.toks + 1 }) rfl rfl ls.ns hb (wpAny_Constant_str (val_refused (o := merge rs.reverse) vb hu (wpAny_truthy_bool ?_))))))
      rw [hm']
      show wpAny _ _ (allTrue _ _ _) _ _ _
      refine wpAny_allTrue_Or_nil ?_
      show wpAny _ _ (execs [] _) _ _ _
      exact wpAny_execs_nil (hQ res res' _ hm hm')
theorem merge_len {res : List Int} (h : merge rs = some res) : res.length ≤ tot rs := by
  revert res
  induction rs using merge_ind with
  | h rs ih =>
    intro res h
    by_cases hne : ne rs = []
    · rw [merge_nil hne] at h; cases h; exact Nat.zero_le _
    · cases hp : pick (ne rs) with
      | none => rw [merge_none hne hp] at h; cases h
      | some c =>
        rw [merge_some hne hp] at h
        obtain ⟨t, ht, rfl⟩ := Option.map_eq_some_iff.mp h
        have h1 := ih c hne hp ht
        have h2 := step_lt hp
        rw [List.length_cons]; omega
/-- sorted(x) of a row -/
theorem sorted_row {a : Addr} {r : List Int} {Q : Value → Shared → Prop} (hr : Row s.heap a r) (h64 : r.length < 64)
    (h : ∀ D h' r', Row h' D r' → r'.Perm r → r'.Pairwise (· ≤ ·) → Up s.heap h' → Q (.ref D) { s with heap := h' }) :
    wpAny (model prog w) A (call (.builtin "sorted") [.ref a]) Q E s := by
  obtain ⟨vs, hpl, hi⟩ := hr
  refine sorted_ints hpl.isList hi (by rw [hi.length]; exact h64) fun out ns' a1 a2 a3 => ?_
  obtain ⟨e, he⟩ := sortedAll_at s.heap vs out
  exact h _ _ ns' ⟨out.toList, ⟨e, by rw [Array.toArray_toList]; exact he⟩, a1⟩ a2 a3 fun _ _ => sortedAll_old
set_option maxRecDepth 100000 in
theorem law_if2 {Q : Flow → Shared → Prop} {v v' : Value} {res res' : List Int} (X : Wd mg mb fc ft cc ct H) (hu : A.units + 64 < cLine)
    (ls : LS H L R as rs m s.heap) (hz : tot rs ≤ 63) (ht : m nTold = some v) (hb : m nBack = some v') (vt : Val s.heap (some res) v) (vb : Val s.heap (some res') v') (hm : merge rs = some res) (hm' : merge rs.reverse = some res')
    (hQ : ∀ h' tk, Up s.heap h' → wpAny (model prog w) A (execs (lawB.drop 6) (lEnv L f cd)) Q E { s with heap := h', toks := tk }) :
    wpAny (model prog w) A (execs (lawB.drop 5) (lEnv L f cd)) Q E s := by
  have X₀ := X.keeps ls.up
  obtain ⟨D, rfl, hD⟩ := vt
  obtain ⟨D', rfl, hD'⟩ := vb
  have l1 := merge_len hm
  have l2 := merge_len hm'
  rw [tot_reverse] at l2
  refine wpAny_execs_cons (wpAny_If (wpAny_isTrue_Compare1 (Call_ (boot_name (mg := mg) (mb := mb) X₀.g X₀.gl.2.2.1 X₀.b X₀.bl.2.2.1 (callWith_builtin1 (args_cons (wpAny_Name (wpAny_loadName_local rfl rfl ls.ns hb (args_nil (sorted_row hD' (by omega) fun D₁ h₁ r₁ hr₁ p₁ o₁ up₁ => ?_))))))))))
  refine Call_ (boot_name (mg := mg) (mb := mb) (X₀.g.keeps up₁) X₀.gl.2.2.1 (X₀.b.keeps up₁) X₀.bl.2.2.1 (callWith_builtin1 (args_cons (wpAny_Name (wpAny_loadName_local rfl rfl (ls.ns.keeps up₁) ht (args_nil (sorted_row (hD.at fun o e => up₁ _ o e) (by omega) fun D₂ h₂ r₂ hr₂ p₂ o₂ up₂ => ?_)))))))
  obtain ⟨vs, hpl, hi⟩ := hr₁.at fun o e => up₂ _ o e
  obtain ⟨us, hpl', hi'⟩ := hr₂
  refine ne_intsK hpl.isList hi hpl'.isList hi' hu (wpAny_truthy_bool ?_)
  have e : r₁ = r₂ := by
    have hp : res'.Perm res := merge_perm hm' hm fun r => List.mem_reverse
    exact (p₁.trans (hp.trans p₂.symm)).eq_of_pairwise (fun x y _ _ h1 h2 => Int.le_antisymm h1 h2) o₁ o₂
  rw [decide_eq_true e]
  show wpAny _ _ (execs [] _) _ _ _
  exact wpAny_execs_nil (hQ h₂ _ (Up.trans up₁ up₂))
end
end Mine
/-! part C3Heads -/
namespace Mine
abbrev nHeads : Str := Str.ofString "heads"
abbrev nFree : Str := Str.ofString "free"
def HeadOf (h : Heap) (v y : Value) : Prop := ∃ a c r t, v = .ref a ∧ Row h a (c :: r) ∧ y = .int c t
theorem heads_of {h : Heap} {as : List Addr} {rs : List (List Int)} (x : Rows h as rs) : ∀ {ys : List Value}, Paired (HeadOf h) ((as.map Value.ref).filter (pNE h)) ys → IntsAre ys (heads rs) := by
  induction x with
  | nil => intro ys p; cases p; exact .nil
  | @cons a r as rs hr _ ih =>
    intro ys p
    rw [List.map_cons, List.filter_cons, pNE_row hr] at p
    cases r with
    | nil => exact ih p
    | cons c r =>
      have p' : Paired (HeadOf h) (Value.ref a :: (as.map Value.ref).filter (pNE h)) ys := p
      cases p' with
      | cons hf ht =>
        obtain ⟨a', c', r', t, e, hr', rfl⟩ := hf
        cases e
        have := hr.inj hr'
        injection this with e1 _
        subst e1
        exact .cons c t (ih ht)
section
variable {prog : Program} {w : World} {A : Around} {E : Value → Shared → Prop} {s : Shared} {L f : Addr} {cd : Value} {H : Heap} {R : Addr} {as : List Addr} {rs : List (List Int)} {m : Str → Option Value}
set_option maxRecDepth 100000 in
theorem law_heads {Q : Flow → Shared → Prop} (hL : H.get? L = none) (hh : A.handled = none) (hu : A.units + 64 < cLine) (ls : LS H L R as rs m s.heap) (hza : as.length ≤ 64)
    (hQ : ∀ D h' tk vs, LS H L R as rs (fun z => if z = nHeads then some (.ref D) else m z) h' → h'.IsList D (List.toArray vs) → IntsAre vs (heads rs) → But L s.heap h' →
      wpAny (model prog w) A (execs (lawB.drop 7) (lEnv L f cd)) Q E { s with heap := h', toks := tk }) :
    wpAny (model prog w) A (execs (lawB.drop 6) (lEnv L f cd)) Q E s := by
  have e24 : sizeLine = 16777216 := sizeLine_eq
  refine wpAny_execs_cons (wpAny_Assign_ListComp_map (pNE s.heap) (HeadOf s.heap) rfl hh (by decide) (by decide) rfl (by decide) rfl rfl rfl ?_)
  refine rows_name ls ⟨R, _, m, rfl, ls.list.isList, by simp; omega, ls.ns, ?_, ?_, ?_⟩
  · intro C v s₂ m₂ E' hv hn₂ hm₂ hk
    obtain ⟨a, ha, rfl⟩ := List.mem_map.mp (show v ∈ as.map Value.ref by simpa using hv)
    obtain ⟨r, hrm, hrow⟩ := ls.rows.mem ha
    obtain ⟨vs, hpl, hints⟩ := id hrow
    refine wpAny_tests_one (wpAny_isTrue_Compare1 (wpAny_Name (wpAny_loadName_local rfl rfl hn₂ hm₂ (empty_list fun h₃ hpl₃ up₃ => ?_))))
    refine ne_intsK ((hpl.isList.at fun o e => hk _ o e).at fun o e => up₃ _ o e) hints (us := []) hpl₃.isList .nil hu (wpAny_truthy_bool ⟨?_, _, _, rfl, up₃⟩)
    rw [pNE_row hrow]
    cases r <;> simp
  · intro C v s₂ m₂ E' hv hp hn₂ hm₂ hk
    obtain ⟨a, ha, rfl⟩ := List.mem_map.mp (show v ∈ as.map Value.ref by simpa using hv)
    obtain ⟨r, hrm, hrow⟩ := ls.rows.mem ha
    rw [pNE_row hrow] at hp
    cases r with
    | nil => cases hp
    | cons c r =>
      obtain ⟨vs, hpl, hints⟩ := id hrow
      refine item0 (wpAny_Name (wpAny_loadName_local rfl rfl hn₂ hm₂ ⟨a, vs, c, r, rfl, hpl.isList.at fun o e => hk _ o e, hints, fun t tk => ⟨⟨a, c, r, t, rfl, hrow, rfl⟩, _, _, rfl, fun _ _ e => e⟩⟩))
  · intro D h' tk ys hD hlD hF hn' hk
    refine hQ D h' tk ys.toList (ls.step hk hn' hL) (by rw [Array.toArray_toList]; exact hlD) (heads_of ls.rows ?_) hk
    simpa using hF
end
end Mine
/-! part C3Inner -/
namespace Mine
def valOfAssign : Stmt → Expr
  | .Assign _ v _ => v
  | _ => .Constant .none 0 ⟨0, 0, 0, 0⟩
def compScope : Expr → Scope
  | .ListComp _ _ sc _ => sc
  | _ => { kind := .module, names := [], isGenerator := false, isCoroutine := false }
def compIf : Expr → Expr
  | .ListComp _ [⟨_, _, [e], _⟩] _ _ => e
  | _ => .Constant .none 0 ⟨0, 0, 0, 0⟩
def cmpLeft : Expr → Expr
  | .Compare l _ _ _ => l
  | _ => .Constant .none 0 ⟨0, 0, 0, 0⟩
/-- the comprehension of free, its test, the comprehension in the test -/
def freeE : Expr := valOfAssign (stAt lawB 7)
def freeT : Expr := compIf freeE
def innerE : Expr := cmpLeft freeT
open Classical in
noncomputable def pIn (h : Heap) (c : Int) (v : Value) : Bool := decide (∃ a r, v = .ref a ∧ Row h a r ∧ c ∈ r.tail)
open Classical in
theorem pIn_row {h : Heap} {a : Addr} {r : List Int} {c : Int} (x : Row h a r) : pIn h c (.ref a) = r.tail.contains c := by
  unfold pIn
  rw [Bool.eq_iff_iff, decide_eq_true_iff, List.contains_iff_mem]
  constructor
  · rintro ⟨b, q, e, y, hq⟩
    cases e
    rw [x.inj y]; exact hq
  · exact fun hc => ⟨a, r, rfl, x, hc⟩
theorem rows_filterIn {h : Heap} {as : List Addr} {rs : List (List Int)} {c : Int} (x : Rows h as rs) : Rows h (as.filter fun a => pIn h c (.ref a)) (rs.filter fun r => r.tail.contains c) := by
  induction x with
  | nil => exact .nil
  | @cons a r as rs hr _ ih =>
    rw [List.filter_cons, List.filter_cons, pIn_row hr]
    split
    · exact .cons hr ih
    · exact ih
/-! a list of rows against [] -/
theorem reads_rows {h : Heap} {as : List Addr} {rs : List (List Int)} (x : Rows h as rs) : ∃ bs, ReadsAll h (as.map Value.ref) (rs.map fun r => PyData.list (r.map PyData.int)) bs := by
  induction x with
  | nil => exact ⟨_, .nil⟩
  | cons hr _ ih =>
    obtain ⟨vs, hpl, hi⟩ := hr
    obtain ⟨bs, hb⟩ := ih
    exact ⟨_, .cons (reads_of_ints hpl.isList hi) hb⟩
theorem lay_rows : ∀ rs : List (List Int), PyData.canLayAll0 (rs.map fun r => PyData.list (r.map PyData.int)) = true
  | [] => by simp [PyData.canLayAll0]
  | r :: rs => by simp [PyData.canLayAll0, PyData.canLay0, lay_rows rs, canLayAll0_ints r]
theorem depth_rows : ∀ rs : List (List Int), PyData.depthAll (rs.map fun r => PyData.list (r.map PyData.int)) ≤ 2
  | [] => by simp [PyData.depthAll]
  | r :: rs => by
    have h1 := depth_rows rs
    have h2 := PySem.W.depthAll_ints r
    simp only [List.map_cons, PyData.depthAll, PyData.depth]
    omega
section
variable {prog : Program} {w : World} {A : Around} {E : Value → Shared → Prop} {s : Shared} {L f : Addr} {cd : Value} {H : Heap} {R : Addr} {as : List Addr} {rs : List (List Int)} {m : Str → Option Value}
theorem eq_rows_nil {a b : Addr} {Q : Value → Shared → Prop} (hl : s.heap.IsList a (as.map Value.ref).toArray) (hr : Rows s.heap as rs) (hb : s.heap.IsList b #[]) (hu : A.units + 64 < cLine) (h : Q (.bool rs.isEmpty) s) :
    wpAny (model prog w) A (compareOp .Eq (.ref a) (.ref b)) Q E s := by
  obtain ⟨bs, hbs⟩ := reads_rows hr
  obtain ⟨o, ho, hc, n, hd⟩ := hl
  have ra : Reads s.heap (.ref a) (.list (rs.map fun r => PyData.list (r.map PyData.int))) (a :: bs) := Reads.list ho hc hd (by simpa using hbs)
  have rb := reads_of_ints (ns := []) (vs := []) hb .nil
  refine eq_dataH_same ra rb ?_ (shaped_ints []) hu ?_ ?_
  · have h1 := depth_rows rs
    have h2 : PyData.depth (.list (rs.map fun r => PyData.list (r.map PyData.int))) ≤ 64 := by simp only [PyData.depth]; omega
    show (PyData.canLay0 _ && decide (PyData.depth _ ≤ 64)) = true
    rw [Bool.and_eq_true]
    exact ⟨by simp only [PyData.canLay0]; exact lay_rows rs, decide_eq_true h2⟩
  · simp only [PySem.SeqAt.noMix]
    cases rs <;> simp [PySem.SeqAt.noMixAll]
  · simp only [PySem.Spec.same]
    cases rs <;> simpa [PySem.Spec.sameAll] using h
abbrev fEnv (cx C L f : Addr) (cd : Value) : Env := compEnvC (compScope freeE) [(nX, cx), (nRows, L + 1)] C (lEnv L f cd)
set_option maxRecDepth 100000 in
theorem inner_comp {cx C : Addr} {c : Int} {t : Tok} {Q : Value → Shared → Prop} (hh : A.handled = none) (hx : s.heap.IsCell cx (some (.int c t))) (hcell : s.heap.IsCell (L + 1) (some (.ref R)))
    (hl : s.heap.IsList R (as.map Value.ref).toArray) (hr : Rows s.heap as rs) (hz : ∀ r ∈ rs, r.length ≤ sizeLine) (hza : as.length ≤ sizeLine)
    (hQ : ∀ D h' tk bs, Up s.heap h' → s.heap.get? D = none → h'.IsList D (List.map Value.ref bs).toArray → Rows h' bs (rs.filter fun r => r.tail.contains c) → Q (.ref D) { s with heap := h', toks := tk }) :
    wpAny (model prog w) A (eval innerE (fEnv cx C L f cd)) Q E s := by
  refine wpAny_ListComp_free (cl := [(nX, cx)]) (pIn s.heap c) (fun v y => y = v) rfl (by decide) rfl (by decide) rfl ?_
  refine wpAny_Name (wpAny_loadName_cell rfl rfl (c := L + 1) rfl hcell (wpAny_pyIter_list hl ?_))
  have hRI : R ≠ s.heap.objs.size := by obtain ⟨o, e, _⟩ := hl; exact Nat.ne_of_lt (Heap.lt_size e)
  have hne : ∀ {b : Addr} {o : Obj}, s.heap.get? b = some o → b ∉ [s.heap.objs.size] := fun e hm => Nat.lt_irrefl _ (by have := Heap.lt_size e; rwa [List.mem_singleton.mp hm] at this)
  refine ⟨s.heap.objs.size, _, _, _, _, _, rfl, Walks.list hh s.heap.objs.size R hRI (as.map Value.ref).toArray, by simpa using hza, ⟨⟨_, Heap.get?_push_size _ rfl, rfl, rfl⟩, hl.push _⟩, ?_, ⟨?_, ?_⟩, ?_⟩
  · intro b hb
    rcases List.mem_cons.mp hb with rfl | hb
    · exact (by rw [Heap.size_push]; exact Nat.lt_succ_self _)
    · obtain ⟨o, e, _⟩ := hl
      rw [List.mem_singleton.mp hb, Heap.size_push]
      exact Nat.lt_succ_of_lt (Heap.lt_size e)
  · intro C' i v s₃ m₃ E' hC' hP hn₃ hm₃ hk htk
    have hv : v ∈ as.map Value.ref := List.mem_of_getElem? (show (as.map Value.ref)[i]? = some v by simpa using hP)
    obtain ⟨a, ha, rfl⟩ := List.mem_map.mp hv
    obtain ⟨r, hrm, hrow⟩ := hr.mem ha
    obtain ⟨vs, hpl, hints⟩ := id hrow
    have up₃ : Up s.heap s₃.heap := fun b o e => hk b o (hne e) (Heap.get?_push_of_some _ e)
    refine wpAny_tests_one (wpAny_isTrue_Compare1 (wpAny_Name (wpAny_loadName_cell rfl rfl (c := cx) rfl (hx.keeps up₃) (slice_tail (wpAny_Name (wpAny_loadName_local rfl rfl hn₃ hm₃ ⟨a, vs, r, rfl, hpl.isList.at fun o e => up₃ _ o e, hints, hz r hrm, fun D h₄ tk₄ us hD hus hk₄ _ => ?_⟩))))))
    refine in_ints hD hus (wpAny_truthy_bool ⟨?_, _, _, rfl, hk₄⟩)
    rw [pIn_row hrow]
  · intro C' i v s₃ m₃ E' _ _ _ hn₃ hm₃ _ _
    exact wpAny_Name (wpAny_loadName_local rfl rfl hn₃ hm₃ ⟨rfl, _, _, rfl, fun _ _ e => e⟩)
  · intro D h' tk ys vs hD hlD _ hlen hP hF hk
    have evs : vs = (as.map Value.ref).toArray.toList := list_of_places hlen hP
    have up' : Up s.heap h' := fun b o e => hk b o (hne e) (Heap.get?_push_of_some _ e)
    have e : ys = ((as.filter fun a => pIn s.heap c (.ref a)).map Value.ref).toArray := by
      have := paired_eq hF
      rw [evs] at this
      rw [← Array.toArray_toList (xs := ys), this]
      show (List.filter _ (as.map Value.ref)).toArray = _
      rw [List.filter_map]
      rfl
    rw [e] at hlD
    refine hQ D h' tk _ up' (Up.none (Up.push _ _) hD) hlD ((rows_filterIn hr).mono fun a ha o e => up' a o e)
end
end Mine
/-! part C3Free -/
namespace Mine
theorem filter_okc {rs : List (List Int)} {c : Int} : (rs.filter fun r => r.tail.contains c).isEmpty = okc rs c := by
  rw [Bool.eq_iff_iff, okc_iff, List.isEmpty_iff, List.filter_eq_nil_iff]
  simp
theorem take_filter {l : List Int} {p : Int → Bool} {i : Nat} {c : Int} (h : l[i]? = some c) : (l.take (i + 1)).filter p = (l.take i).filter p ++ (if p c then [c] else []) := by
  rw [List.take_add_one, h, List.filter_append]
  cases hp : p c <;> simp [hp]
section
variable {prog : Program} {w : World} {A : Around} {E : Value → Shared → Prop} {s : Shared} {L f : Addr} {cd : Value} {H : Heap} {R Hd : Addr} {as : List Addr} {rs : List (List Int)} {m : Str → Option Value} {us : List Value}
set_option maxRecDepth 100000 in
theorem free_stmt {Q : Flow → Shared → Prop} (hL : H.get? L = none) (hh : A.handled = none) (hu : A.units + 64 < cLine) (ls : LS H L R as rs m s.heap) (hza : as.length ≤ 64) (hz : tot rs ≤ 63)
    (hm : m nHeads = some (.ref Hd)) (hHd : s.heap.IsList Hd us.toArray) (hus : IntsAre us (heads rs))
    (hQ : ∀ D h' tk vs, LS H L R as rs (fun z => if z = nFree then some (.ref D) else m z) h' → h'.IsList D (List.toArray vs) → IntsAre vs (free rs) → But L s.heap h' → Q .next { s with heap := h', toks := tk }) :
    wpAny (model prog w) A (exec (stAt lawB 7) (lEnv L f cd)) Q E s := by
  have e24 : sizeLine = 16777216 := sizeLine_eq
  rw [show exec (stAt lawB 7) (lEnv L f cd) = _ from exec_Assign_Name_used _ _ _ _ rfl]
  refine wpAny_bind (wpAny_standAt (wpAny_bind ?_))
  show wpAny _ A (do let _ ← comprehension freeE (compScope freeE) (lEnv L f cd) _ (newList []) false _ (some (assign (.Name nFree _) (lEnv L f cd)))) _ _ s
  refine wpAny_bind (wpAny_mono (comp_setup (Q := fun _ s' => Q .next s') (cl := [(nRows, L + 1)]) rfl rfl (by decide) (wpAny_Name (wpAny_loadName_local rfl rfl ls.ns hm ⟨Hd, _, rfl, hHd, ?_⟩))) (fun _ s' hq => wpAny_pure (wpAny_pure hq)) fun _ _ e => e)
  intro n hN h₁ hh₁ k₁ hit₁ hD₁ hC₁
  have hcx : h₁.IsCell (n + 3) none := by
    rw [hh₁]
    have e3 : (((s.heap.push (itObj Hd)).push noList).push noDict).objs.size = n + 3 := by rw [Heap.size_push, Heap.size_push, Heap.size_push, hN]
    refine ⟨{ cls := .type "cell", data := .cell none }, ?_, rfl⟩
    show ((((s.heap.push (itObj Hd)).push noList).push noDict).push { cls := .type "cell", data := .cell none }).get? (n + 3) = some { cls := .type "cell", data := .cell none }
    rw [← e3]; exact Heap.get?_push_size _ rfl
  clear hh₁
  have nm : ∀ {b : Addr} {o : Obj}, s.heap.get? b = some o → b < n := fun e => hN ▸ Heap.lt_size e
  have nlen : us.length = (heads rs).length := hus.length
  have hhl : (heads rs).length ≤ 64 := by
    have h1 : (heads rs).length ≤ rs.length := List.length_filterMap_le ..
    have := ls.rows.length
    omega
  show codeAny _ _ (.compLoop _ 0 (.ref n) (.ref (n + 1)) (fEnv (n + 3) (n + 2) L f cd)) _ _
  refine codeAny_compLoop_tests (fun k s' => ∃ h' tk ys i m', s' = { s with heap := h', toks := tk } ∧ h'.IsListIter n Hd i ∧ h'.PlainList (n + 1) (List.toArray ys) ∧ h'.Ns (n + 2) m' ∧ (∃ v, h'.IsCell (n + 3) v) ∧
    IntsAre ys (((heads rs).take i).filter (okc rs)) ∧ i ≤ us.length ∧ k = us.length + 1 - i ∧ Up s.heap h') ?_ (us.length + 1)
    ⟨h₁, s.toks, [], 0, _, rfl, hit₁, hD₁, hC₁, ⟨_, hcx⟩, .nil, Nat.zero_le _, rfl, k₁⟩
  rintro k s' ⟨h', tk, ys, i, m', rfl, hit, hD, hC, ⟨vx, hX⟩, hys, hi, rfl, hup⟩
  have hHd' : h'.IsList Hd us.toArray := hHd.at fun o e => hup _ o e
  cases hv : us[i]? with
  | none =>
    have hi' : i = us.length := Nat.le_antisymm hi (by simpa using hv)
    refine wpAny_pyNext_list_end hh hit hHd' (by simp [hv]) fun h₂ he₂ => ?_
    have up₂ : Up s.heap h₂ := fun b o e => he₂ b o (Nat.ne_of_lt (nm e)) (hup b o e)
    show wpAny _ _ (assign (.Name nFree _) (lEnv L f cd) (.ref (n + 1))) _ _ _
    have hLn : L < n := by obtain ⟨o, _, _, ho, _⟩ := ls.ns; exact nm ho
    refine wpAny_assign_Name (wpAny_storeName_local rfl (ls.ns.keeps up₂) (fun h₃ hn₃ hs₃ => ?_) rfl)
    refine ⟨m', (hC.extBut he₂ (Nat.ne_of_gt (Nat.lt_add_of_pos_right (by decide)))).sameBut hs₃ (Nat.ne_of_gt (Nat.lt_trans hLn (Nat.lt_add_of_pos_right (by decide)))), fun h₄ hs₄ => ?_⟩
    have kk : ∀ b o, b ≠ n → b ≠ L → b ≠ n + 2 → h'.get? b = some o → h₄.get? b = some o := fun b o h1 h2 h3 e => hs₄.extBut b o h3 (hs₃.extBut b o h2 (he₂ b o h1 e))
    have but : But L s.heap h₄ := fun b o hb e => kk b o (Nat.ne_of_lt (nm e)) hb (Nat.ne_of_lt (Nat.lt_trans (nm e) (Nat.lt_add_of_pos_right (by decide)))) (hup b o e)
    refine hQ (n + 1) h₄ _ ys (ls.step but (hn₃.sameBut hs₄ (Nat.ne_of_lt (Nat.lt_trans hLn (Nat.lt_add_of_pos_right (by decide))))) hL) (hD.at fun o e => kk _ o (Nat.ne_of_gt (Nat.lt_succ_self _)) (Nat.ne_of_gt (Nat.lt_succ_of_lt hLn)) (Nat.ne_of_lt (Nat.lt_succ_self _)) e).isList ?_ but
    rw [hi', nlen, List.take_length] at hys
    exact hys
  | some v =>
    obtain ⟨c, t, rfl, hc⟩ := hus.at i v hv
    have hlt : i < us.length := (List.getElem?_eq_some_iff.mp hv).1
    refine wpAny_pyNext_list_item hit hHd' (x := .int c t) (by simp [hv]) fun h₂ hit₂ hs₂ => ?_
    refine wpAny_assign_Name (wpAny_storeName_cell rfl rfl (c := n + 3) rfl (hX.sameBut hs₂ (Nat.ne_of_gt (Nat.lt_add_of_pos_right (by decide)))) fun h₃ hX₃ hs₃ => ?_)
    have k₃ : ∀ b o, b ≠ n → b ≠ n + 3 → h'.get? b = some o → h₃.get? b = some o := fun b o h1 h2 e => hs₃.extBut b o h2 (hs₂.extBut b o h1 e)
    have up₃ : Up s.heap h₃ := fun b o e => k₃ b o (Nat.ne_of_lt (nm e)) (Nat.ne_of_lt (Nat.lt_trans (nm e) (Nat.lt_add_of_pos_right (by decide)))) (hup b o e)
    have hit₃ : h₃.IsListIter n Hd (i + 1) := hit₂.extBut hs₃.extBut (Nat.ne_of_lt (Nat.lt_add_of_pos_right (by decide)))
    have hD₃ : h₃.PlainList (n + 1) ys.toArray := hD.at fun o e => k₃ _ o (Nat.ne_of_gt (Nat.lt_succ_self _)) (Nat.ne_of_lt (by exact Nat.add_lt_add_left (by decide) n)) e
    have hC₃ : h₃.Ns (n + 2) m' := hC.at' fun o e => k₃ _ o (Nat.ne_of_gt (Nat.lt_add_of_pos_right (by decide))) (Nat.ne_of_lt (Nat.lt_succ_self _)) e
    refine wpAny_tests_one (wpAny_isTrue_Compare1 (inner_comp (R := R) (as := as) (rs := rs) (c := c) (t := t) hh hX₃ (IsCell_at ls.cell fun o e => up₃ _ o e) (ls.list.isList.at fun o e => up₃ _ o e) (ls.rows.mono fun a _ o e => up₃ a o e) (fun r hr => by have := le_tot hr; omega) (by omega) fun D₄ h₄ tk₄ bs up₄ hD₄ hl₄ hr₄ => ?_))
    refine empty_list fun h₅ hpl₅ up₅ => ?_
    refine eq_rows_nil (hl₄.at fun o e => up₅ _ o e) (hr₄.mono fun a _ o e => up₅ a o e) hpl₅.isList hu (wpAny_truthy_bool ?_)
    have up35 : Up h₃ h₅ := Up.trans up₄ up₅
    have upS : Up s.heap h₅ := Up.trans up₃ up35
    have key := take_filter (p := okc rs) hc
    rw [filter_okc]
    cases hok : okc rs c with
    | false =>
      rw [if_neg (by decide)]
      rw [hok] at key
      refine ⟨us.length + 1 - (i + 1), by omega, h₅, _, ys, i + 1, _, rfl, hit₃.at fun o e => up35 _ o e, hD₃.at fun o e => up35 _ o e, hC₃.keeps up35, ⟨_, hX₃.keeps up35⟩, ?_, hlt, rfl, upS⟩
      rw [key]; simpa using hys
    | true =>
      rw [if_pos rfl]
      rw [hok] at key
      refine wpAny_Name (wpAny_loadName_cell rfl rfl (c := n + 3) rfl (hX₃.keeps up35) ?_)
      have hyl : ys.length ≤ 64 := by
        have h1 := hys.length
        have h2 : (((heads rs).take i).filter (okc rs)).length ≤ ((heads rs).take i).length := List.length_filter_le _ _
        have h3 : ((heads rs).take i).length ≤ (heads rs).length := List.length_take_le' ..
        omega
      refine wpAny_list_append_plain (hsz := by simp; omega) (hD₃.at fun o e => up35 _ o e) fun h₆ hD₆ hs₆ => ?_
      have k₆ : ∀ b o, b ≠ n + 1 → h₅.get? b = some o → h₆.get? b = some o := fun b o hb e => hs₆.extBut b o hb e
      refine ⟨us.length + 1 - (i + 1), by omega, h₆, _, ys ++ [.int c t], i + 1, _, rfl, (hit₃.at fun o e => up35 _ o e).at fun o e => k₆ _ o (Nat.ne_of_lt (Nat.lt_succ_self _)) e, by simpa using hD₆, (hC₃.keeps up35).at' fun o e => k₆ _ o (Nat.ne_of_gt (Nat.lt_succ_self _)) e,
        ⟨_, IsCell_at (hX₃.keeps up35) fun o e => k₆ _ o (Nat.ne_of_gt (Nat.add_lt_add_left (by decide) n)) e⟩, ?_, hlt, rfl, fun b o e => k₆ b o (Nat.ne_of_lt (Nat.lt_succ_of_lt (nm e))) (upS b o e)⟩
      rw [key]; exact hys.append (.cons c t .nil)
end
end Mine
/-! part C3End -/
namespace Mine
section
variable {prog : Program} {w : World} {A : Around} {E : Value → Shared → Prop} {s : Shared} {L f : Addr} {cd : Value} {H : Heap} {fc ft : Addr} {cc ct : Value} {mg mb : Str → Option Value} {R Hd D : Addr} {as : List Addr} {rs : List (List Int)} {m : Str → Option Value} {us : List Value} {res : List Int}
/-- [told] + rows, told -/
theorem ahead_told {np lp p1 p2 bp pos : Pos} {Q : Value → Shared → Prop} (X : Wd mg mb fc ft cc ct H) (hL : H.get? L = none) (hh : A.handled = none) (hroom : A.depth + 1 < recursionLimit) (hfr : A.frames = some [lEnv L f cd])
    (ls : LS H L R as rs m s.heap) (hza : as.length ≤ 64) (hz : tot rs ≤ 63) (ht : m nTold = some (.ref D)) (hD : Row s.heap D res) (hm : merge rs = some res)
    (hQ : ∀ h' tk v', But L s.heap h' → h'.Ns L m → Val h' (some res) v' → Q v' { s with heap := h', toks := tk }) :
    wpAny (model prog w) A (eval (.Call (.Name (Str.ofString "_law_told") np) [.BinOp (.List [.Name nTold p1] lp) .Add (.Name nRows p2) bp] [] pos) (lEnv L f cd)) Q E s := by
  have e24 : sizeLine = 16777216 := sizeLine_eq
  have hrl := merge_len hm
  refine told_expr X hL hh hroom hfr ls.up (wpAny_BinOp (List_ (args_cons (wpAny_Name (wpAny_loadName_local rfl rfl ls.ns ht (args_nil (new_list ?_ (by simp; omega))))))))
  have up₀ : Up s.heap (s.heap.push { cls := .type "list", data := .seq [Value.ref D].toArray }) := Up.push _ _
  have n₀ := ls.ns.keeps up₀
  have ls₀ := ls.step (fun b o _ e => up₀ b o e) n₀ hL
  have hpl₀ : (s.heap.push { cls := .type "list", data := .seq [Value.ref D].toArray }).PlainList s.heap.objs.size [Value.ref D].toArray := ⟨0, Heap.get?_push_size _ rfl⟩
  refine rows_name (s := { s with heap := s.heap.push { cls := .type "list", data := .seq [Value.ref D].toArray } }) ls₀ (add_lists2 (s := { s with heap := s.heap.push { cls := .type "list", data := .seq [Value.ref D].toArray } }) hpl₀ ls₀.list (by simp; omega) fun h₁ hpl up₁ => ?_)
  have n₁ := n₀.keeps up₁
  have ls₁ := ls₀.step (fun b o _ e => up₁ b o e) n₁ hL
  have up01 := Up.trans up₀ up₁
  refine ⟨_, D :: as, res :: rs, m, rfl, ls₁.up, n₁, by simpa using hpl.isList, .cons (hD.at fun o e => up01 _ o e) ls₁.rows, ?_, by simp; omega, fun h₂ tk v k n val => hQ h₂ tk v (fun b o hb e => k b o hb (up01 b o e)) n ?_⟩
  · simp only [tot, List.map_cons, List.sum_cons] at hz hrl ⊢; omega
  · rwa [merge_self hm] at val
set_option maxRecDepth 100000 in
theorem law_end {Q : Flow → Shared → Prop} (X : Wd mg mb fc ft cc ct H) (hL : H.get? L = none) (hh : A.handled = none) (hroom : A.depth + 1 < recursionLimit) (hfr : A.frames = some [lEnv L f cd]) (hu : A.units + 64 < cLine)
    (ls : LS H L R as rs m s.heap) (hza : as.length ≤ 64) (hz : tot rs ≤ 63) (hH : m nHeads = some (.ref Hd)) (hHd : s.heap.IsList Hd us.toArray) (hus : IntsAre us (heads rs)) (ht : m nTold = some (.ref D)) (hD : Row s.heap D res) (hm : merge rs = some res)
    (hret : ∀ h' tk, Up H h' → Q (.ret (.bool true)) { s with heap := h', toks := tk }) :
    wpAny (model prog w) A (execs (lawB.drop 7) (lEnv L f cd)) Q E s := by
  have e24 : sizeLine = 16777216 := sizeLine_eq
  have hrl := merge_len hm
  refine wpAny_execs_cons (free_stmt hL hh hu ls hza hz hH hHd hus fun F h₁ tk₁ vs ls₁ hF hvs k₁ => ?_)
  have hD₁ : Row h₁ D res := hD.at fun o e => k₁ _ o (hD.ne_ns ls.ns) e
  have ht₁ : (fun z => if z = nFree then some (Value.ref F) else m z) nTold = some (.ref D) := (if_neg (by decide)).trans ht
  obtain ⟨ds, hpl, hds⟩ := id hD₁
  have hfl : (free rs).length ≤ 64 := by
    have h1 : (free rs).length ≤ (heads rs).length := List.length_filter_le _ _
    have h2 : (heads rs).length ≤ rs.length := List.length_filterMap_le ..
    have := ls.rows.length
    omega
  refine wpAny_execs_cons (wpAny_If (wpAny_isTrue_Compare1 (slice_one (wpAny_Name (wpAny_loadName_local rfl rfl ls₁.ns ht₁ ⟨D, ds, res, rfl, hpl.isList, hds, by omega, fun D₂ h₂ tk₂ ws₂ hl₂ hi₂ up₂ _ => ?_⟩)))))
  refine slice_one (wpAny_Name (wpAny_loadName_local (v := .ref F) rfl rfl (ls₁.ns.keeps up₂) (if_pos rfl) ⟨F, vs, free rs, rfl, hF.at fun o e => up₂ _ o e, hvs, by omega, fun D₃ h₃ tk₃ ws₃ hl₃ hi₃ up₃ _ => ?_⟩))
  refine ne_intsK (hl₂.at fun o e => up₃ _ o e) hi₂ hl₃ hi₃ hu (wpAny_truthy_bool ?_)
  rw [decide_eq_true (merge_first hm)]
  show wpAny _ _ (execs [] _) _ _ _
  refine wpAny_execs_nil ?_
  have up13 := Up.trans up₂ up₃
  have n₃ := ls₁.ns.keeps up13
  have ls₃ := ls₁.step (fun b o _ e => up13 b o e) n₃ hL
  have hD₃ : Row h₃ D res := hD₁.at fun o e => up13 _ o e
  refine wpAny_execs_cons (wpAny_Return_some (wpAny_And2 (wpAny_Compare1 (ahead_told X hL hh hroom hfr ls₃ hza hz ht₁ hD₃ hm fun h₄ tk₄ v₄ k₄ n₄ val₄ => ?_))))
  have ls₄ := ls₃.step k₄ n₄ hL
  have hD₄ : Row h₄ D res := hD₃.at fun o e => k₄ _ o (hD₃.ne_ns n₃) e
  refine wpAny_Name (wpAny_loadName_local rfl rfl n₄ ht₁ (val_eq (o := some res) val₄ ⟨D, rfl, hD₄⟩ hu (wpAny_truthy_bool ?_)))
  show wpAny _ _ (eval _ _) _ _ _
  refine wpAny_Compare1 (twice_told X hL hh hroom hfr ls₄ hza hz fun h₅ tk₅ v₅ k₅ n₅ val₅ => ?_)
  rw [hm] at val₅
  have hD₅ : Row h₅ D res := hD₄.at fun o e => k₅ _ o (hD₄.ne_ns n₄) e
  refine wpAny_Name (wpAny_loadName_local rfl rfl n₅ ht₁ (val_eq (o := some res) val₅ ⟨D, rfl, hD₅⟩ hu ?_))
  exact hret h₅ tk₅ (ls₄.step k₅ n₅ hL).up
set_option maxRecDepth 100000 in
theorem law_walk {Q : Flow → Shared → Prop} {S : Addr} {vs : List Value} {ns : List Int} {m : Str → Option Value} (X : Wd mg mb fc ft cc ct H) (hh : A.handled = none) (hroom : A.depth + 1 < recursionLimit) (hfr : A.frames = some [lEnv L f cd]) (hu : A.units + 64 < cLine)
    (hn : s.heap.Ns L m) (hc : s.heap.IsCell (L + 1) none) (hS : m nScript = some (.ref S)) (hl : H.IsList S vs.toArray) (hi : IntsAre vs ns) (hlen : ns.length ≤ 63) (up : Up H s.heap) (hL : H.get? L = none) (hL1 : H.get? (L + 1) = none)
    (hret : ∀ h' tk, Up H h' → Q (.ret (.bool true)) { s with heap := h', toks := tk }) :
    wpAny (model prog w) A (execs lawB (lEnv L f cd)) Q E s := by
  refine law_rows hh hn hc hS hl hi hlen up hL hL1 fun h₁ tk₁ m₁ R as rs ls₁ hza hz => ?_
  refine law_tell X hL hh hroom hfr ls₁ hza hz fun h₂ tk₂ m₂ v v' ls₂ ht hb vt vb => ?_
  refine law_if1 X hL hh hroom hfr hu ls₂ hza hz ht hb vt vb (fun h' tk up' => hret h' tk up') fun res res' tk₃ hm hm' => ?_
  rw [hm] at vt
  rw [hm'] at vb
  refine law_if2 (s := { s with heap := h₂, toks := tk₃ }) X hu ls₂ hz ht hb vt vb hm hm' fun h₄ tk₄ up₄ => ?_
  have n₄ := ls₂.ns.keeps up₄
  have ls₄ := ls₂.step (fun b o _ e => up₄ b o e) n₄ hL
  refine law_heads hL hh hu ls₄ hza fun Hd h₅ tk₅ us ls₅ hHd hus k₅ => ?_
  obtain ⟨D, rfl, hD⟩ := vt
  have hD₄ : Row h₄ D res := hD.at fun o e => up₄ _ o e
  exact law_end X hL hh hroom hfr hu ls₅ hza hz (if_pos rfl) hHd hus ((if_neg (by decide)).trans ht) (hD₄.at fun o e => k₅ _ o (hD₄.ne_ns n₄) e) hm fun h' tk up' => hret h' tk up'
end
end Mine
/-! part C3Last -/
namespace Mine
theorem good_true {c : ClaimW} {cl : Str → Option Addr} {mean : ExcName → Option Value} {args : List WData} {s₁ s' : Shared} (k : Up s₁.heap s'.heap) (hg : s'.gens = #[]) (hn : ∀ cls, c.raises args cls = false) (hp : c.post args (.bool true) args = true) (hos : s'.os = s₁.os) :
    GoodW c cl mean args s₁ (.ok (.ret (.bool true))) s' := ⟨.inl ⟨_, _, [], rfl, hn, .bool true, hp, unshared_nil⟩, k, hos, hg⟩
/-- the world out of the head's facts -/
theorem wd_of {p : Program} {loose : List Str} {mean : ExcName → Option Value} {mg mb : Str → Option Value} {h : Heap} (T : Top p loose mean mg mb h) {d1 d2 : DefRec} (h1 : d1 ∈ recsOf p) (h2 : d2 ∈ recsOf p)
    (e1 : d1.name = Str.ofString "_c3_merge" ∧ d1.params = argsOf c3 ∧ d1.body = c3B ∧ d1.scope = scopeOf c3) (e2 : d2.name = Str.ofString "_law_told" ∧ d2.params = argsOf told ∧ d2.body = toldB ∧ d2.scope = scopeOf told)
    (hf : ∀ x ∈ [Str.ofString "list", Str.ofString "reversed", Str.ofString "sorted", Str.ofString "RuntimeError"], x ∉ startupNames ∧ x ∉ loose ∧ x ∉ (recsOf p).map (·.name) ∧ x ∉ (litsOf p).map (·.1) ∧ x ∉ (clssOf p loose).map (·.name)) :
    ∃ fc ft cc ct, Wd mg mb fc ft cc ct h := by
  obtain ⟨fc, oc, pmc, cc, docc, a1, a2, a3, a4⟩ := T.fn d1 h1
  obtain ⟨ft, ot, pmt, ct, doct, b1, b2, b3, b4⟩ := T.fn d2 h2
  rw [e1.1] at a1 a3 a4
  rw [e1.2.1, e1.2.2.1, e1.2.2.2] at a3
  rw [e2.1] at b1 b3 b4
  rw [e2.2.1, e2.2.2.1, e2.2.2.2] at b3
  have free : ∀ x ∈ [Str.ofString "list", Str.ofString "reversed", Str.ofString "sorted", Str.ofString "RuntimeError"], mg x = none := fun x hx =>
    let ⟨q1, q2, q3, q4, q5⟩ := hf x hx; T.free x q1 q2 q3 q4 q5
  exact ⟨fc, ft, cc, ct, T.g, T.b, T.nolimit, ⟨oc, pmc, docc, a1, a2, a3, a4⟩, ⟨ot, pmt, doct, b1, b2, b3, b4⟩,
    ⟨free _ (by simp), free _ (by simp), free _ (by simp), free _ (by simp)⟩,
    ⟨(T.builtins _ (by decide)).trans boot_list, (T.builtins _ (by decide)).trans boot_reversed, (T.builtins _ (by decide)).trans boot_sorted, (T.builtins _ (by decide)).trans (by decide +kernel)⟩⟩
end Mine
set_option maxRecDepth 100000 in
set_option maxHeartbeats 8000000 in
theorem PySem.Challenge.cw_kg0001_01_holds : PySem.Challenge.rw_kg0001_01.Holds := by
  (w_on; o_law; k_head; (case hw => w_witness2); w_strict k_go0)
  rename Top _ _ _ _ _ _ => T
  rename Fr _ _ _ _ => F
  rename News _ _ _ _ => N
  rename IntsAre _ _ => hI
  rename Heap.IsList _ _ _ => hl
  rename _ = Data.cell _ => hcell
  rename _ = (#[] : Array GenState) => hgens
  rename ¬ ((_ : Int) < _) => hlen
  obtain ⟨fc, ft, cc, ct, X⟩ := Mine.wd_of T (d1 := ⟨Str.ofString "_c3_merge", Mine.argsOf Mine.c3, Mine.c3B, Mine.scopeOf Mine.c3, _⟩) (d2 := ⟨Str.ofString "_law_told", Mine.argsOf Mine.told, Mine.toldB, Mine.scopeOf Mine.told, _⟩)
    (List.mem_of_getElem? (i := 0) (by rfl)) (List.mem_of_getElem? (i := 1) (by rfl)) ⟨rfl, rfl, rfl, rfl⟩ ⟨rfl, rfl, rfl, rfl⟩ (by decide +kernel)
  refine Mine.law_walk (H := _) X rfl (show callerA.depth + 1 + 1 < recursionLimit by decide) rfl (show callerA.units + 3 + 64 < cLine by decide) F.ns ⟨_, (N _ (List.Mem.head _)).1, hcell⟩ rfl hl hI (by omega) F.keep (Mine.get_size _) (Heap.get?_none_of_le (Nat.le_succ _)) fun h' tk up => ?_
  exact Mine.good_true up hgens (raisesW_false (fun ct h => nomatch h)) (postW_of rfl (w_eq_bool (w_res rfl) w_lit) rfl) rfl
