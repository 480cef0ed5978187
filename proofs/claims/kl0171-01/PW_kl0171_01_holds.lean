import PyProof.Rows.All
import Wide.All
import OpenK.AllK
import Wide.FinOn
import PySem.Challenge.RW_kl0171_01
open PySem PySem.W PyProof.Rows PySem.Calls PySem.Spec
set_option Elab.async false
set_option maxRecDepth 100000
set_option maxHeartbeats 8000000

-- H0
namespace Mine
open_top hd for PySem.Challenge.rw_kl0171_01
end Mine

-- A1
namespace Mine.Hp
variable {α : Type}

def lex (a b : Int × Int) : Bool := decide (a.1 < b.1) || (decide (a.1 = b.1) && decide (a.2 < b.2))

/-- a strict weak order -/
structure SWO (lt : α → α → Bool) : Prop where
  asym : ∀ a b, lt a b = true → lt b a = false
  tr : ∀ a b c, lt b a = false → lt c b = false → lt c a = false

theorem swo_lex (key : α → Int × Int) : SWO (fun a b => lex (key a) (key b)) where
  asym a b h := by
    simp only [lex, Bool.or_eq_true, decide_eq_true_eq, Bool.and_eq_true, Bool.or_eq_false_iff, decide_eq_false_iff_not, Bool.and_eq_false_iff] at *
    omega
  tr a b c h1 h2 := by
    simp only [lex, Bool.or_eq_false_iff, decide_eq_false_iff_not, Bool.and_eq_false_iff] at *
    omega

def sd (lt : α → α → Bool) (new : α) (start pos : Nat) (l : List α) : List α :=
  if start < pos then
    if lt new (l.getD ((pos - 1) / 2) new) = true then sd lt new start ((pos - 1) / 2) (l.set pos (l.getD ((pos - 1) / 2) new)) else l.set pos new
  else l.set pos new
termination_by pos
decreasing_by omega

def chi (lt : α → α → Bool) (new : α) (pos : Nat) (l : List α) : Nat :=
  if 2 * pos + 2 < l.length ∧ lt (l.getD (2 * pos + 1) new) (l.getD (2 * pos + 2) new) = false then 2 * pos + 2 else 2 * pos + 1

theorem chi_or (lt : α → α → Bool) (new : α) (pos : Nat) (l : List α) : chi lt new pos l = 2 * pos + 1 ∨ (chi lt new pos l = 2 * pos + 2 ∧ 2 * pos + 2 < l.length) := by
  unfold chi; split
  · rename_i h; exact .inr ⟨rfl, h.1⟩
  · exact .inl rfl

def su (lt : α → α → Bool) (new : α) (start pos : Nat) (l : List α) : List α :=
  if 2 * pos + 1 < l.length then su lt new start (chi lt new pos l) (l.set pos (l.getD (chi lt new pos l) new))
  else sd lt new start pos (l.set pos new)
termination_by l.length - pos
decreasing_by
  simp only [List.length_set]
  have := chi_or lt new pos l
  omega

theorem sd_length (lt : α → α → Bool) (new : α) (start pos : Nat) (l : List α) : (sd lt new start pos l).length = l.length := by
  induction pos using Nat.strongRecOn generalizing l with
  | ind pos ih =>
    rw [sd]
    split
    · split
      · rw [ih _ (by omega)]; simp
      · simp
    · simp

theorem su_length (lt : α → α → Bool) (new : α) (start pos : Nat) (l : List α) : (su lt new start pos l).length = l.length := by
  generalize hk : l.length - pos = k
  induction k using Nat.strongRecOn generalizing pos l with
  | ind k ih =>
    rw [su]
    split
    · have := chi_or lt new pos l
      rw [ih _ (by simp only [List.length_set]; omega) _ _ rfl]; simp
    · rw [sd_length]; simp

theorem set_swap {l : List α} {i j : Nat} {a b : α} (hij : i ≠ j) (hi : l[i]? = some a) (hj : l[j]? = some b) : ((l.set i b).set j a).Perm l := by
  obtain ⟨h1, rfl⟩ := List.getElem?_eq_some_iff.mp hi
  obtain ⟨h2, rfl⟩ := List.getElem?_eq_some_iff.mp hj
  exact List.set_set_perm h1 h2

theorem getD_some {l : List α} {i : Nat} {d : α} (h : i < l.length) : l[i]? = some (l.getD i d) := by
  simp [List.getD, h]

theorem sd_perm (lt : α → α → Bool) (new : α) (start pos : Nat) (l : List α) (hp : pos < l.length) : (sd lt new start pos l).Perm (l.set pos new) := by
  induction pos using Nat.strongRecOn generalizing l with
  | ind pos ih =>
    rw [sd]
    split
    · rename_i h
      split
      · have h1 : (pos - 1) / 2 < pos := by omega
        refine (ih _ h1 (l.set pos (l.getD ((pos - 1) / 2) new)) (by simp; omega)).trans ?_
        have e : (l.set pos (l.getD ((pos - 1) / 2) new)) = ((l.set pos new).set pos (l.getD ((pos - 1) / 2) new)) := by simp
        rw [e]
        refine set_swap (by omega) (by simp [hp]) ?_
        rw [List.getElem?_set_ne (by omega)]
        exact getD_some (by omega)
      · exact .refl _
    · exact .refl _

theorem su_perm (lt : α → α → Bool) (new : α) (start pos : Nat) (l : List α) (hp : pos < l.length) : (su lt new start pos l).Perm (l.set pos new) := by
  generalize hk : l.length - pos = k
  induction k using Nat.strongRecOn generalizing pos l with
  | ind k ih =>
    rw [su]
    split
    · have hc := chi_or lt new pos l
      have hcl : chi lt new pos l < l.length := by omega
      refine (ih _ (by simp only [List.length_set]; omega) (chi lt new pos l) (l.set pos (l.getD (chi lt new pos l) new)) (by simpa using hcl) rfl).trans ?_
      have e : (l.set pos (l.getD (chi lt new pos l) new)) = ((l.set pos new).set pos (l.getD (chi lt new pos l) new)) := by simp
      rw [e]
      refine set_swap (by omega) (by simp [hp]) ?_
      rw [List.getElem?_set_ne (by omega)]
      exact getD_some (by omega)
    · refine (sd_perm lt new start pos _ (by simpa using hp)).trans ?_
      simp

def HeapFrom (lt : α → α → Bool) (s : Nat) (l : List α) : Prop :=
  ∀ i a b, 0 < i → s ≤ (i - 1) / 2 → l[(i - 1) / 2]? = some a → l[i]? = some b → lt b a = false

inductive Desc (s : Nat) : Nat → Prop
  | refl : Desc s s
  | step {p : Nat} : 0 < p → Desc s ((p - 1) / 2) → Desc s p
theorem Desc.le {s p : Nat} (h : Desc s p) : s ≤ p := by
  induction h with
  | refl => exact Nat.le_refl _
  | step _ _ ih => omega
theorem Desc.up {s p : Nat} (h : Desc s p) (hs : s < p) : Desc s ((p - 1) / 2) := by
  cases h with
  | refl => exact absurd hs (Nat.lt_irrefl _)
  | step _ h => exact h
theorem Desc.zero (p : Nat) : Desc 0 p := by
  induction p using Nat.strongRecOn with
  | ind p ih =>
    by_cases h : p = 0
    · subst h; exact .refl
    · exact .step (by omega) (ih _ (by omega))

theorem sd_heap {lt : α → α → Bool} (W : SWO lt) (new : α) (s pos : Nat) (l : List α) (hp : pos < l.length) (hD : Desc s pos)
    (h1 : ∀ i a b, 0 < i → s ≤ (i - 1) / 2 → i ≠ pos → (l.set pos new)[(i - 1) / 2]? = some a → (l.set pos new)[i]? = some b → lt b a = false)
    (h2 : ∀ i a b, 0 < i → (i - 1) / 2 = pos → 0 < pos → s ≤ (pos - 1) / 2 → (l.set pos new)[(pos - 1) / 2]? = some a → (l.set pos new)[i]? = some b → lt b a = false) :
    HeapFrom lt s (sd lt new s pos l) := by
  induction pos using Nat.strongRecOn generalizing l with
  | ind pos ih =>
    rw [sd]
    split
    · rename_i hs
      have hpp : (pos - 1) / 2 < pos := by omega
      have hD' := hD.up hs
      have hsq : s ≤ (pos - 1) / 2 := hD'.le
      generalize hx : l.getD ((pos - 1) / 2) new = x
      have hxe : l[(pos - 1) / 2]? = some x := by rw [← hx]; exact getD_some (by omega)
      generalize hq : (pos - 1) / 2 = q at *
      split
      · rename_i hlt
        have hnx := W.asym _ _ hlt
        refine ih q hpp (l.set pos x) (by simp; omega) hD' ?_ ?_
        · intro i a b hi hsi hne ha hb
          rw [List.getElem?_set] at ha hb
          simp only [List.getElem?_set, List.length_set] at ha hb
          rw [if_neg (fun e => hne e.symm)] at hb
          by_cases hip : i = pos
          · subst hip
            rw [hq, if_pos rfl, if_pos (by omega)] at ha
            rw [if_pos rfl, if_pos (by omega)] at hb
            cases ha; cases hb; exact hnx
          · rw [if_neg (fun e => hip e.symm)] at hb
            have hb' : (l.set pos new)[i]? = some b := by rw [List.getElem?_set_ne (fun e => hip e.symm)]; exact hb
            by_cases hc : (i - 1) / 2 = pos
            · rw [hc, if_neg (by omega), if_pos rfl, if_pos (by omega)] at ha
              cases ha
              exact h2 i x b hi hc (by omega) (by omega) (by rw [List.getElem?_set_ne (by omega)]; exact hxe) hb'
            · by_cases hcq : (i - 1) / 2 = q
              · rw [hcq, if_pos rfl, if_pos (by omega)] at ha
                cases ha
                refine W.tr _ x _ hnx ?_
                exact h1 i x b hi hsi hip (by rw [hcq, List.getElem?_set_ne (by omega)]; exact hxe) hb'
              · rw [if_neg (fun e => hcq e.symm), if_neg (fun e => hc e.symm)] at ha
                exact h1 i a b hi hsi hip (by rw [List.getElem?_set_ne (fun e => hc e.symm)]; exact ha) hb'
        · intro i a b hi hc hq0 hsq2 ha hb
          simp only [List.getElem?_set, List.length_set] at ha hb
          rw [if_neg (by omega), if_neg (by omega)] at ha
          rw [if_neg (by omega)] at hb
          have hax : lt x a = false := h1 q a x hq0 hsq2 (by omega) (by rw [List.getElem?_set_ne (by omega)]; exact ha) (by rw [List.getElem?_set_ne (by omega)]; exact hxe)
          by_cases hip : i = pos
          · rw [if_pos hip.symm, if_pos (by omega)] at hb
            cases hb; exact hax
          · rw [if_neg (fun e => hip e.symm)] at hb
            refine W.tr _ x _ hax ?_
            exact h1 i x b hi (by omega) hip (by rw [hc, List.getElem?_set_ne (by omega)]; exact hxe) (by rw [List.getElem?_set_ne (fun e => hip e.symm)]; exact hb)
      · rename_i hlt
        intro i a b hi hsi ha hb
        by_cases hip : i = pos
        · subst hip
          rw [hq, List.getElem?_set_ne (by omega), hxe] at ha
          rw [List.getElem?_set_self (by omega)] at hb
          cases ha; cases hb
          cases h : lt new x with
          | true => exact absurd h hlt
          | false => rfl
        · exact h1 i a b hi hsi hip ha hb
    · rename_i hs
      intro i a b hi hsi ha hb
      exact h1 i a b hi hsi (by omega) ha hb

theorem su_heap {lt : α → α → Bool} (W : SWO lt) (new : α) (s pos : Nat) (l : List α) (hp : pos < l.length) (hD : Desc s pos)
    (h1 : ∀ i a b, 0 < i → s ≤ (i - 1) / 2 → i ≠ pos → (i - 1) / 2 ≠ pos → l[(i - 1) / 2]? = some a → l[i]? = some b → lt b a = false)
    (h2 : ∀ i a b, 0 < i → (i - 1) / 2 = pos → 0 < pos → s ≤ (pos - 1) / 2 → l[(pos - 1) / 2]? = some a → l[i]? = some b → lt b a = false) :
    HeapFrom lt s (su lt new s pos l) := by
  generalize hk : l.length - pos = k
  induction k using Nat.strongRecOn generalizing pos l with
  | ind k ih =>
    rw [su]
    split
    · rename_i hin
      have hc := chi_or lt new pos l
      have hle : ∀ i b, 0 < i → (i - 1) / 2 = pos → l[i]? = some b → lt b (l.getD (chi lt new pos l) new) = false := by
        intro i b hi hpi hb
        have hil : i < l.length := (List.getElem?_eq_some_iff.mp hb).1
        have hbe : l.getD i new = b := by simp [List.getD, hb]
        have irr : ∀ z, lt z z = false := fun z => by
          cases h : lt z z with
          | false => rfl
          | true => exact h.symm.trans (W.asym _ _ h)
        have hi2 : i = 2 * pos + 1 ∨ i = 2 * pos + 2 := by omega
        unfold chi
        split
        · rename_i hh
          rcases hi2 with rfl | rfl
          · rw [← hbe]; exact hh.2
          · rw [hbe]; exact irr _
        · rename_i hh
          rcases hi2 with rfl | rfl
          · rw [hbe]; exact irr _
          · rw [← hbe]
            cases h : lt (l.getD (2 * pos + 1) new) (l.getD (2 * pos + 2) new) with
            | true => exact W.asym _ _ h
            | false => exact absurd ⟨hil, h⟩ hh
      generalize chi lt new pos l = c at *
      generalize hx : l.getD c new = x at *
      have hxe : l[c]? = some x := by rw [← hx]; exact getD_some (by omega)
      have hcp : (c - 1) / 2 = pos := by omega
      refine ih _ (by simp only [List.length_set]; omega) c (l.set pos x) (by simp; omega) (.step (by omega) (by rw [hcp]; exact hD)) ?_ ?_ rfl
      · intro i a b hi hsi hne hne2 ha hb
        simp only [List.getElem?_set] at ha hb
        by_cases hip : i = pos
        · subst hip
          rw [if_pos rfl, if_pos (by omega)] at hb
          rw [if_neg (by omega)] at ha
          cases hb
          exact h2 c a x (by omega) hcp hi hsi ha hxe
        · rw [if_neg (fun e => hip e.symm)] at hb
          by_cases hcc : (i - 1) / 2 = pos
          · rw [if_pos hcc.symm, if_pos (by omega)] at ha
            cases ha
            exact hle i b hi hcc hb
          · rw [if_neg (fun e => hcc e.symm)] at ha
            exact h1 i a b hi hsi hip hcc ha hb
      · intro i a b hi hpi hc0 hsc ha hb
        simp only [List.getElem?_set] at ha hb
        rw [hcp, if_pos rfl, if_pos (by omega)] at ha
        rw [if_neg (by omega)] at hb
        cases ha
        exact h1 i x b hi (by have := hD.le; omega) (by omega) (by omega) (by rw [hpi]; exact hxe) hb
    · rename_i hin
      refine sd_heap W new s pos _ (by simpa using hp) hD ?_ ?_
      · intro i a b hi hsi hne ha hb
        simp only [List.set_set] at ha hb
        have hil : i < l.length := by have := (List.getElem?_eq_some_iff.mp hb).1; simpa using this
        rw [List.getElem?_set_ne (by omega)] at ha hb
        exact h1 i a b hi hsi hne (by omega) ha hb
      · intro i a b hi hpi _ _ ha hb
        have hil : i < l.length := by have := (List.getElem?_eq_some_iff.mp hb).1; simpa using this
        omega
end Mine.Hp

-- B1
namespace Mine

structure Here (w : World) (A : Around) (h₀ : Heap) (L : Addr) : Prop where
  ex : ∃ A₀ base outer env p loose mean mg mb, Below A₀ base outer h₀ ∧ (hd.heap_39 w.params).In h₀ ∧ Top p loose mean mg mb h₀ ∧ A.frames = some (env :: outer) ∧ env.frame = some L ∧ env.scope.kind = .function
  hh : A.handled = none

abbrev LO (its : List Value) (n : Nat) : Obj := listOf its.toArray n
def setL (D : Addr) (o : Obj) (news : List (Addr × Obj)) : List (Addr × Obj) := news.map fun p => if p.1 = D then (p.1, o) else p

theorem mem_setL_self {D : Addr} {o o' : Obj} {news : List (Addr × Obj)} (h : (D, o) ∈ news) : (D, o') ∈ setL D o' news :=
  List.mem_map.mpr ⟨_, h, by simp⟩
theorem mem_setL_ne {D : Addr} {o : Obj} {p : Addr × Obj} {news : List (Addr × Obj)} (h : p ∈ news) (hn : p.1 ≠ D) : p ∈ setL D o news :=
  List.mem_map.mpr ⟨_, h, by simp [hn]⟩
theorem setL_setL {D : Addr} {o o' : Obj} {news : List (Addr × Obj)} : setL D o (setL D o' news) = setL D o news := by
  simp only [setL, List.map_map]
  refine List.map_congr_left fun p _ => ?_
  simp only [Function.comp]
  by_cases h : p.1 = D
  · simp [h]
  · simp [h]
theorem setL_cons {D : Addr} {o : Obj} {p : Addr × Obj} {news : List (Addr × Obj)} : setL D o (p :: news) = (if p.1 = D then (p.1, o) else p) :: setL D o news := rfl
theorem setL_same {D : Addr} {o : Obj} {news : List (Addr × Obj)} (h : ∀ p ∈ news, p.1 = D → p.2 = o) : setL D o news = news := by
  unfold setL
  conv => rhs; rw [← List.map_id news]
  refine List.map_congr_left fun p hp => ?_
  by_cases e : p.1 = D
  · rw [if_pos e]; exact Prod.ext rfl (h p hp e).symm
  · rw [if_neg e]; rfl
theorem News.uniq {h₀ h : Heap} {L D : Addr} {o o' : Obj} {news : List (Addr × Obj)} (N : News h₀ L h news) (h1 : (D, o) ∈ news) (h2 : (D, o') ∈ news) : o = o' := by
  have a := (N _ h1).1
  have b := (N _ h2).1
  rw [a] at b; exact Option.some.inj b
theorem News.setL_self {h₀ h : Heap} {L D : Addr} {o : Obj} {news : List (Addr × Obj)} (N : News h₀ L h news) (h1 : (D, o) ∈ news) : Mine.setL D o news = news :=
  setL_same fun p hp e => by
    have h2 : (D, p.2) ∈ news := by rw [← e]; exact hp
    exact (News.uniq N h1 h2).symm
theorem News.sub {h₀ h : Heap} {L : Addr} {news news' : List (Addr × Obj)} (N : News h₀ L h news) (hs : ∀ p ∈ news', p ∈ news) : News h₀ L h news' := fun p hp => N p (hs p hp)
theorem News.setL {h₀ h h' : Heap} {L D : Addr} {o' : Obj} {news : List (Addr × Obj)} (N : News h₀ L h news) (hs : Heap.SameBut D h h') (ho : h'.get? D = some o') : News h₀ L h' (setL D o' news) := by
  intro p hp
  obtain ⟨q, hq, rfl⟩ := List.mem_map.mp hp
  by_cases e : q.1 = D
  · rw [if_pos e]; exact ⟨by rw [e]; exact ho, (N q hq).2.1, (N q hq).2.2⟩
  · rw [if_neg e]; exact ⟨(hs.2 _ e).trans (N q hq).1, (N q hq).2⟩

section
variable {prog : Program} {w : World} {A : Around} {E : Value → Shared → Prop} {s : Shared} {h₀ : Heap} {L D : Addr} {m : Str → Option Value} {news : List (Addr × Obj)} {its : List Value} {n : Nat} {v : Value}

theorem item_N {value slice : PySem.Expr} {k : Int} {u : Tok} {Q : Value → Shared → Prop} (N : News h₀ L s.heap news) (hm : (D, LO its n) ∈ news) (j : Nat) (hk : k = (j : Nat)) (hj : k < 2 ^ 63) (hx : its[j]? = some v) (h : Q v s)
    (hs : subscripted slice false (.ref D) (.int k u) = operate [.ref D, .int k u] (getItem (.ref D) (.int k u)) := by with_unfolding_all rfl) :
    wpAny (model prog w) A (subscriptTail value slice (.ref D) (.int k u)) Q E s := by
  have hl : s.heap.IsList D its.toArray := PySem.IsL.isList (n := n) (N _ hm).1
  exact tail_any hl.typeIs slot_list_getitem.lookup (wpAny_getItem_list hl (by omega) hj (by subst hk; simpa using hx) h) hs
theorem set_N {k : Int} {u : Tok} {Q : Unit → Shared → Prop} (F : Fr h₀ L s.heap m) (N : News h₀ L s.heap news) (hm : (D, LO its n) ∈ news) (j : Nat) (hk : k = (j : Nat)) (hj : k < 2 ^ 63) (hjl : j < its.length)
    (h : ∀ h', Fr h₀ L h' m → News h₀ L h' (setL D (LO (its.set j v) n) news) → Q () { s with heap := h' }) :
    wpAny (model prog w) A (setItem (.ref D) (.int k u) v) Q E s := by
  have z := N _ hm
  subst hk
  refine ki_setAt z.1 (by omega) hj (by simpa using hjl) (h _ (F.change (Heap.SameBut.update ..) z.2.1 z.2.2) ?_)
  have e : Obj.mapSeq (fun x => x.setIfInBounds (j : Int).toNat v) (LO its n) = LO (its.set j v) n := by
    simp [Obj.mapSeq, PySem.W.listOf]
  refine Mine.News.setL N (Heap.SameBut.update ..) ?_
  rw [Heap.get?_update_self _ z.1 (by rw [e]; rfl), e]
theorem append_N {Q : Value → Shared → Prop} (F : Fr h₀ L s.heap m) (N : News h₀ L s.heap news) (hm : (D, LO its n) ∈ news) (hsz : its.length ≤ sizeLine)
    (h : ∀ h', Fr h₀ L h' m → News h₀ L h' (setL D (LO (its ++ [v]) (n + 1)) news) → Q .none { s with heap := h' }) :
    wpAny (model prog w) A (call (.builtin "list.append") [.ref D, v]) Q E s := by
  have z := N _ hm
  refine append_at (hsz := by simpa using hsz) z.1 fun h' hs ho => h h' (F.change hs z.2.1 z.2.2) (Mine.News.setL N hs ?_)
  rw [ho]; simp [PySem.W.listOf]
theorem pop_N {Q : Value → Shared → Prop} {y : Value} (F : Fr h₀ L s.heap m) (N : News h₀ L s.heap news) (hm : (D, LO (its ++ [y]) n) ∈ news) (hsz : its.length + 1 ≤ sizeLine)
    (h : ∀ h', Fr h₀ L h' m → News h₀ L h' (setL D (LO its (n + 1)) news) → Q y { s with heap := h' }) :
    wpAny (model prog w) A (call (.builtin "list.pop") [.ref D]) Q E s := by
  have z := N _ hm
  refine Copied.pop_at (hsz := by simpa using hsz) z.1 (by simp) fun h' hs ho => h h' (F.change hs z.2.1 z.2.2) (Mine.News.setL N hs ?_)
  rw [ho]; simp [PySem.W.listOf]
theorem len_N {Q : Value → Shared → Prop} (N : News h₀ L s.heap news) (hm : (D, LO its n) ∈ news) (hsz : its.length < 2 ^ 62) (h : Q (.int (its.length : Nat) (s.toks + 1)) { s with toks := s.toks + 1 + 1 }) :
    wpAny (model prog w) A (call (.builtin "len") [.ref D]) Q E s := by
  have hl : s.heap.IsList D its.toArray := PySem.IsL.isList (n := n) (N _ hm).1
  exact Calls.call_len_list hl (by simp; omega) (by simpa using h)
theorem truthy_N {Q : Bool → Shared → Prop} (N : News h₀ L s.heap news) (hm : (D, LO its n) ∈ news) (hsz : its.length < 2 ^ 62) (h : Q (!its.isEmpty) { s with toks := s.toks + 1 + 1 }) :
    wpAny (model prog w) A (truthy (.ref D)) Q E s := by
  have hl : s.heap.IsList D its.toArray := PySem.IsL.isList (n := n) (N _ hm).1
  exact wpAny_truthy_list hl (by simp; omega) (by simpa using h)
end

def bnd (l : List (Str × Value)) (u : Str → Option Value) : Str → Option Value := fun y => match l.lookup y with | some v => some v | none => u y
theorem bnd_self {l : List (Str × Value)} {m : Str → Option Value} (h : ∀ p ∈ l, m p.1 = some p.2) : bnd l m = m := by
  funext y
  unfold bnd
  cases e : l.lookup y with
  | none => rfl
  | some v =>
    have : ∀ (l : List (Str × Value)), l.lookup y = some v → (y, v) ∈ l := by
      intro l
      induction l with
      | nil => intro e; cases e
      | cons p r ih =>
        intro e
        obtain ⟨a, b⟩ := p
        rw [List.lookup_cons] at e
        cases hb : y == a with
        | true => rw [hb] at e; cases e; rw [eq_of_beq hb]; exact .head _
        | false => rw [hb] at e; exact .tail _ (ih e)
    exact (h _ (this l e)).symm

section
variable {prog : Program} {w : World} {A : Around} {E : Value → Shared → Prop} {s : Shared} {env : Env} {Q : Flow → Shared → Prop} {h₀ : Heap} {L : Addr}

def WX {σ : Type} (h₀ : Heap) (L : Addr) (s : Shared) (ps : σ → List (Str × Value)) (X : σ → List (Addr × Obj) → Prop) (s₂ : Shared) : Prop :=
  ∃ c' h' tk m' news', s₂ = { s with heap := h', toks := tk } ∧ Fr h₀ L h' m' ∧ News h₀ L h' news' ∧ X c' news' ∧ (∀ p ∈ ps c', m' p.1 = some p.2)
theorem WX.intro {σ : Type} {h₀ : Heap} {L : Addr} {s : Shared} {ps : σ → List (Str × Value)} {X : σ → List (Addr × Obj) → Prop} {h' : Heap} {tk : Nat} {m' : Str → Option Value} {news' : List (Addr × Obj)} (c' : σ) (F : Fr h₀ L h' m') (N : News h₀ L h' news') (hX : X c' news') (hp : ∀ p ∈ ps c', m' p.1 = some p.2) :
    WX h₀ L s ps X { s with heap := h', toks := tk } := ⟨c', h', tk, m', news', rfl, F, N, hX, hp⟩
/-- the end of a while's turn -/
def WPost {σ : Type} (h₀ : Heap) (L : Addr) (s : Shared) (ps : σ → List (Str × Value)) (J : σ → List (Addr × Obj) → Prop) (X : σ → List (Addr × Obj) → Prop) (μ : σ → Nat) (Q : Flow → Shared → Prop) (c : σ) (f : Flow) (s₂ : Shared) : Prop :=
  match f with
  | .ret v => Q (.ret v) s₂
  | .brk => WX h₀ L s ps X s₂
  | _ => WX h₀ L s ps (fun c' nw => J c' nw ∧ μ c' < μ c) s₂

theorem while_N {σ : Type} {test : Expr} {body : List Stmt} {pos : Pos} {m₀ : Str → Option Value} {news₀ : List (Addr × Obj)} (ps : σ → List (Str × Value)) (J X : σ → List (Addr × Obj) → Prop) (μ : σ → Nat) (c₀ : σ)
    (F : Fr h₀ L s.heap m₀) (N : News h₀ L s.heap news₀) (hJ : J c₀ news₀) (hk : ∀ p ∈ ps c₀, m₀ p.1 = some p.2)
    (turn : ∀ (c : σ) (u : Str → Option Value) h tk news, J c news → Fr h₀ L h (bnd (ps c) u) → News h₀ L h news →
      wpAny (model prog w) A (isTrue test env (eval test env)) (fun b s₂ =>
        if b = true then wpAny (model prog w) A (execs body env) (WPost h₀ L s ps J X μ Q c) E s₂
        else WX h₀ L s ps X s₂) E { s with heap := h, toks := tk })
    (done : ∀ (c : σ) (u : Str → Option Value) h tk news, X c news → Fr h₀ L h (bnd (ps c) u) → News h₀ L h news → Q .next { s with heap := h, toks := tk })
    (hE : PassesOwn (model prog w) A env E) :
    wpAny (model prog w) A (exec (.While test body [] pos) env) Q E s := by
  have fin : ∀ s₂, WX h₀ L s ps X s₂ → Q .next s₂ := by
    rintro s₂ ⟨c', h', tk, m', news', rfl, F', N', hX, hp⟩
    exact done c' m' h' tk news' hX (by rw [bnd_self hp]; exact F') N'
  refine While_inv2 (fun n m nx => ∃ c : σ, J c nx ∧ μ c = n ∧ (∀ p ∈ ps c, m p.1 = some p.2)) F N ⟨c₀, hJ, rfl, hk⟩ ?_ hE
  rintro n m₁ nx h tk F₁ N₁ ⟨c, hJ', hsz, h1⟩
  rw [← hsz]
  refine wpAny_mono (turn c m₁ h tk nx hJ' (by rw [bnd_self h1]; exact F₁) N₁) (fun b s₂ p => ?_) fun _ _ x => x
  cases b with
  | false => simp only [Bool.false_eq_true, if_false] at p ⊢; exact fin _ p
  | true =>
    simp only [if_true] at p ⊢
    refine wpAny_mono p (fun f s₃ q => ?_) fun _ _ x => x
    cases f with
    | ret v => exact q
    | brk => exact fin _ q
    | next =>
      obtain ⟨c', h', tk', m', news', rfl, F', N', ⟨hn, hm9⟩, hp9⟩ := q
      exact ⟨h', tk', m', news', μ c', rfl, F', N', hm9, c', hn, rfl, hp9⟩
    | cont =>
      obtain ⟨c', h', tk', m', news', rfl, F', N', ⟨hn, hm9⟩, hp9⟩ := q
      exact ⟨h', tk', m', news', μ c', rfl, F', N', hm9, c', hn, rfl, hp9⟩
end

section
variable {prog : Program} {w : World} {A : Around} {s : Shared} {h₀ : Heap} {L : Addr} {m : Str → Option Value} {news : List (Addr × Obj)} {E : Value → Shared → Prop} {Q : Value → Shared → Prop}

/-- what a callee's frame keeps for its caller -/
theorem perm {g : Heap} {h' : Heap} {m' : Str → Option Value} {L' : Addr} {news' : List (Addr × Obj)} (FG : Fr h₀ L g m) (st : h₀.StaysIn g) (F' : Fr g L' h' m') (N' : News g L' h' news') : Fr h₀ L h' m ∧ News h₀ L h' news' := by
  obtain ⟨oL, es, ep, hL, hLr⟩ := FG.ns
  refine ⟨⟨⟨oL, es, ep, F'.keep L oL hL, hLr⟩, fun b o e => F'.keep b o (st b o e), FG.above⟩, fun p hp => ⟨(N' p hp).1, fun q => ?_, ?_⟩⟩
  · have := (N' p hp).2.2; rw [q, hL] at this; cases this
  · cases q : h₀.get? p.1 with
    | none => rfl
    | some o => have := (N' p hp).2.2; rw [st _ _ q] at this; cases this

def Ret (g : Heap) (L' : Addr) (Q : Value → Shared → Prop) (v : Value) (s' : Shared) : Prop := (∃ m' news', Fr g L' s'.heap m' ∧ News g L' s'.heap news') ∧ Q v s'
theorem Ret.intro {g : Heap} {L' : Addr} {Q : Value → Shared → Prop} {v : Value} {s' : Shared} {m' : Str → Option Value} {news' : List (Addr × Obj)}
    (pm : ∀ (h' : Heap) m' news', Fr g L' h' m' → News g L' h' news' → Fr h₀ L h' m ∧ News h₀ L h' news') (F : Fr g L' s'.heap m') (N : News g L' s'.heap news') (k : Fr h₀ L s'.heap m → News h₀ L s'.heap news' → Q v s') : Ret g L' Q v s' :=
  ⟨⟨_, _, F, N⟩, k (pm _ _ _ F N).1 (pm _ _ _ F N).2⟩

/-- a def is called: its body is run in a frame of its own -/
theorem enterX {name qual : Str} {params : Arguments} {body : List Stmt} {scope : Scope} {cl : List (Str × Addr)} {dV kV doc pm cdv ct : Value} {an : Option Addr} {fo : Obj} {f : Addr} {args : List Value} {kw : List (Str × Value)} {binds : List (Str × Value)}
    (C : Here w A h₀ L) (F : Fr h₀ L s.heap m) (N : News h₀ L s.heap news)
    (ho : s.heap.get? f = some fo) (hdt : fo.data = .func (fnX name qual params body scope cl dV kV doc pm an cdv ct)) (hcd : s.heap.CodeRec cdv qual) (hroom : A.depth < recursionLimit)
    (hbind : BindsTo s (fnX name qual params body scope cl dV kV doc pm an cdv ct) ⟨args, kw⟩ binds) (hloc : ∀ y ∈ binds, scope.names.lookup y.1 = some .local)
    (hco : scope.isCoroutine = false) (hgen : scope.isGenerator = false) (hk : scope.kind = .function)
    (hcell : ∀ x ∈ scope.names, x.2 ≠ .cell)
    (h : ∀ g L' h₁, Here w (A.deeper (envX qual scope L' f cdv cl)) g L' → Fr g L' h₁ (fun y => binds.reverse.lookup y) → News g L' h₁ news →
      (∀ (h' : Heap) m' news', Fr g L' h' m' → News g L' h' news' → Fr h₀ L h' m ∧ News h₀ L h' news') → (∀ p ∈ news, p.1 < L') →
      wpAny (model prog w) (A.deeper (envX qual scope L' f cdv cl)) (execs body (envX qual scope L' f cdv cl))
        (fun fl s' => Ret g L' Q (match fl with | .ret v => v | _ => .none) s')
        (fun e s' => wpAny (model prog w) (A.deeper (envX qual scope L' f cdv cl)) (leaving (envX qual scope L' f cdv cl) e) (fun _ s'' => E e s'') (fun e' s'' => E e' s'') s')
        { s with heap := h₁, toks := s.toks + binds.length }) : wpAny (model prog w) A (call (.ref f) args kw) Q E s := by
  obtain ⟨⟨A₀, base, outer, env, p, loose, mean, mg, mb, B, X, T, hA, hf, hke⟩, hh⟩ := C
  refine wpAny_call (callX_plain B F N T.nolimit hA hf hke ho hdt hcd hroom hbind hloc (fun g L' h₁ FG F' N' B' st lt => ?_) hcell hco hgen hk)
  refine wpAny_mono (h g L' h₁ ⟨⟨_, _, _, _, p, loose, mean, mg, mb, B', X.keeps st, T.keeps st, Around.frames_deeper hA, rfl, hk⟩, hh⟩ F' N' (fun h' m' news' a b => perm FG st a b) lt) (fun fl s' hl => ?_) fun _ _ y => y
  obtain ⟨⟨m', news', F2, N2⟩, hQ⟩ := hl
  exact ⟨L', m', news', F2, N2, fun _ _ => hQ⟩

/-- a def of the text's top is called -/
theorem enterK {name qual : Str} {params : Arguments} {body : List Stmt} {scope : Scope} {dV kV doc pm cdv ct oc : Value} {an od : Option Addr} {osl : Array (Option Value)} {f : Addr} {args : List Value} {kw : List (Str × Value)} (binds : List (Str × Value))
    (C : Here w A h₀ L) (F : Fr h₀ L s.heap m) (N : News h₀ L s.heap news)
    (ho : (hd.heap_39 w.params).lookup f = some ⟨oc, od, .func (fnOf name qual params body scope dV kV doc pm an cdv ct), osl⟩) (hcd : codeIn (hd.heap_39 w.params) cdv qual = true) (hroom : A.depth < recursionLimit)
    (hbind : BindsTo s (fnOf name qual params body scope dV kV doc pm an cdv ct) ⟨args, kw⟩ binds) (hloc : (binds.all fun x => decide (scope.names.lookup x.1 = some .local)) = true)
    (hco : scope.isCoroutine = false) (hgen : scope.isGenerator = false) (hk : scope.kind = .function)
    (hcell : ∀ x ∈ scope.names, x.2 ≠ .cell)
    (h : ∀ g L' h₁, Here w (A.deeper (envOf qual scope L' f cdv)) g L' → Fr g L' h₁ (bnd binds.reverse fun _ => none) → News g L' h₁ news →
      (∀ (h' : Heap) m' news', Fr g L' h' m' → News g L' h' news' → Fr h₀ L h' m ∧ News h₀ L h' news') → (∀ p ∈ news, p.1 < L') →
      wpAny (model prog w) (A.deeper (envOf qual scope L' f cdv)) (execs body (envOf qual scope L' f cdv))
        (fun fl s' => Ret g L' Q (match fl with | .ret v => v | _ => .none) s')
        (fun e s' => wpAny (model prog w) (A.deeper (envOf qual scope L' f cdv)) (leaving (envOf qual scope L' f cdv) e) (fun _ s'' => E e s'') (fun e' s'' => E e' s'') s')
        { s with heap := h₁, toks := s.toks + binds.length }) : wpAny (model prog w) A (call (.ref f) args kw) Q E s := by
  obtain ⟨A₀, base, outer, env, p, loose, mean, mg, mb, B, X, T, hA, hf, hke⟩ := C.ex
  refine enterX (cl := []) C F N ((X.keeps F.keep) _ _ ho) rfl (codeRec_of (X.keeps F.keep) hcd) hroom hbind (locs hloc) hco hgen hk hcell fun g L' h₁ C' F' N' pm lt => h g L' h₁ C' ?_ N' pm lt
  have e : (bnd binds.reverse fun _ => none) = fun y => binds.reverse.lookup y := by
    funext y; unfold bnd; cases binds.reverse.lookup y <;> rfl
  rw [e]; exact F'
end
end Mine

-- B2
namespace Mine

/-- a frame, with the frames below it told -/
structure At (w : World) (A : Around) (h₀ : Heap) (L : Addr) (base : Heap) (env : Env) (outer : List Env) (p : Program) (loose : List Str) (mean : ExcName → Option Value) (mg mb : Str → Option Value) : Prop where
  B : ∃ A₀, Below A₀ base outer h₀
  X : (hd.heap_39 w.params).In h₀
  T : Top p loose mean mg mb h₀
  hA : A.frames = some (env :: outer)
  hf : env.frame = some L
  hke : env.scope.kind = .function
  hh : A.handled = none

theorem At.here {w : World} {A : Around} {h₀ base : Heap} {L : Addr} {env : Env} {outer : List Env} {p : Program} {loose : List Str} {mean : ExcName → Option Value} {mg mb : Str → Option Value} (C : At w A h₀ L base env outer p loose mean mg mb) : Here w A h₀ L :=
  let ⟨A₀, B⟩ := C.B; ⟨⟨A₀, base, outer, env, p, loose, mean, mg, mb, B, C.X, C.T, C.hA, C.hf, C.hke⟩, C.hh⟩

section
variable {prog : Program} {w : World} {A : Around} {s : Shared} {h₀ base : Heap} {L : Addr} {m : Str → Option Value} {news : List (Addr × Obj)} {E : Value → Shared → Prop} {Q : Value → Shared → Prop} {env : Env} {outer : List Env} {p : Program} {loose : List Str} {mean : ExcName → Option Value} {mg mb : Str → Option Value}

/-- a def of the text's top is called: it may raise -/
theorem enterA {name qual : Str} {params : Arguments} {body : List Stmt} {scope : Scope} {dV kV doc pm cdv ct oc : Value} {an od : Option Addr} {osl : Array (Option Value)} {f : Addr} {args : List Value} {kw : List (Str × Value)} (binds : List (Str × Value))
    (C : At w A h₀ L base env outer p loose mean mg mb) (F : Fr h₀ L s.heap m) (N : News h₀ L s.heap news)
    (ho : (hd.heap_39 w.params).lookup f = some ⟨oc, od, .func (fnOf name qual params body scope dV kV doc pm an cdv ct), osl⟩) (hcd : codeIn (hd.heap_39 w.params) cdv qual = true) (hroom : A.depth < recursionLimit)
    (hbind : BindsTo s (fnOf name qual params body scope dV kV doc pm an cdv ct) ⟨args, kw⟩ binds) (hloc : (binds.all fun x => decide (scope.names.lookup x.1 = some .local)) = true)
    (hco : scope.isCoroutine = false) (hgen : scope.isGenerator = false) (hk : scope.kind = .function)
    (hcell : ∀ x ∈ scope.names, x.2 ≠ .cell)
    (h : ∀ g L' h₁, At w (A.deeper (envOf qual scope L' f cdv)) g L' base (envOf qual scope L' f cdv) (env :: outer) p loose mean mg mb → Below A base (env :: outer) g → Fr h₀ L g m → Fr g L' h₁ (bnd binds.reverse fun _ => none) → News g L' h₁ news →
      (∀ (h' : Heap) m' news', Fr g L' h' m' → News g L' h' news' → Fr h₀ L h' m ∧ News h₀ L h' news') → (∀ p ∈ news, p.1 < L') →
      wpAny (model prog w) (A.deeper (envOf qual scope L' f cdv)) (execs body (envOf qual scope L' f cdv))
        (fun fl s' => Ret g L' Q (match fl with | .ret v => v | _ => .none) s')
        (fun e s' => wpAny (model prog w) (A.deeper (envOf qual scope L' f cdv)) (leaving (envOf qual scope L' f cdv) e) (fun _ s'' => E e s'') (fun e' s'' => E e' s'') s')
        { s with heap := h₁, toks := s.toks + binds.length }) : wpAny (model prog w) A (call (.ref f) args kw) Q E s := by
  obtain ⟨⟨A₀, B⟩, X, T, hA, hf, hke, hh⟩ := C
  refine wpAny_call (callX_plain (cl := []) B F N T.nolimit hA hf hke ((X.keeps F.keep) _ _ ho) rfl (codeRec_of (X.keeps F.keep) hcd) hroom hbind (locs hloc) (fun g L' h₁ FG F' N' B' st lt => ?_) hcell hco hgen hk)
  have e : (bnd binds.reverse fun _ => none) = fun y => binds.reverse.lookup y := by
    funext y; unfold bnd; cases binds.reverse.lookup y <;> rfl
  refine wpAny_mono (h g L' h₁ ⟨⟨_, B'⟩, X.keeps st, T.keeps st, Around.frames_deeper hA, rfl, hk, hh⟩ B' FG (by rw [e]; exact F') N' (fun h' m' news' a b => perm FG st a b) lt) (fun fl s' hl => ?_) fun _ _ y => y
  obtain ⟨⟨m', news', F2, N2⟩, hQ⟩ := hl
  exact ⟨L', m', news', F2, N2, fun _ _ => hQ⟩
end
end Mine

-- R1
namespace Mine

section
variable {prog : Program} {w : World} {A : Around} {E : Value → Shared → Prop} {s : Shared} {env : Env} {Q : Flow → Shared → Prop} {h₀ : Heap} {L : Addr}

def FX {σ : Type} (h₀ : Heap) (L : Addr) (s : Shared) (ps : σ → List (Str × Value)) (J : σ → List (Addr × Obj) → Prop) (K0 : List (Addr × Obj)) (I : Addr) (oI : Obj) (s₂ : Shared) : Prop :=
  ∃ c' h' tk m' news', s₂ = { s with heap := h', toks := tk } ∧ Fr h₀ L h' m' ∧ News h₀ L h' ((I, oI) :: news') ∧ (∀ p ∈ news', p.1 ≠ I) ∧ (∀ p ∈ K0, p ∈ news') ∧ J c' news' ∧ (∀ p ∈ ps c', m' p.1 = some p.2)
theorem FX.intro {σ : Type} {h₀ : Heap} {L : Addr} {s : Shared} {ps : σ → List (Str × Value)} {J : σ → List (Addr × Obj) → Prop} {K0 : List (Addr × Obj)} {I : Addr} {oI : Obj} {h' : Heap} {tk : Nat} {m' : Str → Option Value} {all : List (Addr × Obj)} (c' : σ) (news' : List (Addr × Obj))
    (F : Fr h₀ L h' m') (N : News h₀ L h' all) (hI : (I, oI) ∈ all) (hs : ∀ p ∈ news', p ∈ all) (hi : ∀ p ∈ news', p.1 ≠ I) (hK : ∀ p ∈ K0, p ∈ news') (hJ : J c' news') (hp : ∀ p ∈ ps c', m' p.1 = some p.2) :
    FX h₀ L s ps J K0 I oI { s with heap := h', toks := tk } :=
  ⟨c', h', tk, m', news', rfl, F, fun p hp => (List.mem_cons.mp hp).elim (fun e => N p (e ▸ hI)) fun h => N p (hs p h), hi, hK, hJ, hp⟩
def FPost {σ : Type} (h₀ : Heap) (L : Addr) (s : Shared) (ps : σ → List (Str × Value)) (J : σ → List (Addr × Obj) → Prop) (K0 : List (Addr × Obj)) (I : Addr) (oI : Obj) (Q : Flow → Shared → Prop) (f : Flow) (s₂ : Shared) : Prop :=
  match f with
  | .ret v => Q (.ret v) s₂
  | .brk => Q .next s₂
  | _ => FX h₀ L s ps J K0 I oI s₂

theorem loop_walk {σ : Type} {x : Str} {body : List Stmt} {I : Addr} {fp : List Addr} {n : Nat} {P : Nat → Value → Prop} {St : Nat → Heap → Prop} (W : Walks prog w A I fp [I] n P St) (K0 : List (Addr × Obj)) (hfp : ∀ b ∈ fp, b = I ∨ ∃ o, (b, o) ∈ K0)
    (hSI : ∀ i h, St i h → ∃ o, h.get? I = some o)
    (ps : σ → List (Str × Value)) (J : Nat → σ → List (Addr × Obj) → Prop) (c₀ : σ) {m₀ : Str → Option Value} {news₀ : List (Addr × Obj)}
    (hIn : ∀ p ∈ news₀, p.1 ≠ I) (hIL : I ≠ env.locals) (hI0 : h₀.get? I = none) (hst : St 0 s.heap) (F : Fr h₀ env.locals s.heap m₀) (N : News h₀ env.locals s.heap news₀) (hK : ∀ p ∈ K0, p ∈ news₀) (hJ : J 0 c₀ news₀) (hk : ∀ p ∈ ps c₀, m₀ p.1 = some p.2)
    (turn : ∀ i v c u oI h tk news, i < n → P i v → J i c news → (∀ p ∈ news, p.1 ≠ I) → (∀ p ∈ K0, p ∈ news) → Fr h₀ env.locals h (fun y => if y = x then some v else bnd (ps c) u y) → News h₀ env.locals h ((I, oI) :: news) →
      wpAny (model prog w) A (execs body env) (FPost h₀ env.locals s ps (J (i + 1)) K0 I oI Q) E { s with heap := h, toks := tk })
    (done : ∀ c u h tk news, J n c news → Fr h₀ env.locals h (bnd (ps c) u) → News h₀ env.locals h news → (∀ p ∈ K0, p ∈ news) → Q .next { s with heap := h, toks := tk }) :
    LoopAtV prog w A h₀ env x body Q E (.ref I) s := by
  have hLf : env.locals ∉ fp := fun hm => by
    rcases hfp _ hm with e | ⟨o, ho⟩
    · exact hIL e.symm
    · exact (N _ (hK _ ho)).2.1 rfl
  refine ⟨I, fp, [I], n, P, St, m₀, news₀, (fun i m nx => ∃ c : σ, J i c nx ∧ (∀ p ∈ K0, p ∈ nx) ∧ (∀ p ∈ ps c, m p.1 = some p.2)), rfl, W, hLf, fun b hb => by rw [List.mem_singleton.mp hb]; exact hI0, fun p hp hI => hIn p hp (List.mem_singleton.mp hI), hst, F, N, ⟨c₀, hJ, hK, hk⟩, ?_, ?_⟩
  · rintro i v m₁ news₁ s₁ own ⟨hh', tk', rfl⟩ hin hP ⟨c, hJ', hK', hc⟩ hoff hown hget hall hst₁ F₁ N₁
    obtain ⟨oI, hoI⟩ := hSI _ _ hst₁
    have hIfp : I ∈ fp := W.sub I (by simp)
    have hIown : (I, oI) ∈ own := hall I hIfp hI0 oI hoI
    have hoff' : ∀ p ∈ news₁, p.1 ≠ I := fun p hp e => hoff p hp (List.mem_singleton.mpr e)
    have N₂ : News h₀ env.locals hh' ((I, oI) :: news₁) := fun p hp => N₁ p ((List.mem_cons.mp hp).elim (fun e => List.mem_append_left _ (e ▸ hIown)) fun h => List.mem_append_right _ h)
    refine wpAny_mono (turn i v c m₁ oI hh' tk' news₁ hin hP hJ' hoff' hK' (by rw [bnd_self hc]; exact F₁) N₂) (fun f s₂ p => ?_) fun _ _ e => e
    have fin : FX h₀ env.locals s ps (J (i + 1)) K0 I oI s₂ → LoopStepU h₀ env.locals [I] own (fun m nx => ∃ c : σ, J (i + 1) c nx ∧ (∀ p ∈ K0, p ∈ nx) ∧ (∀ p ∈ ps c, m p.1 = some p.2)) { s with heap := hh', toks := tk' } .next s₂ := by
      rintro ⟨c', h', tk, m', nx, e, F', N', hi', hk', hj', hp'⟩
      refine ⟨rfl, h', tk, m', nx, e, F', fun p hp => ?_, fun p hp hq => hi' p hp (List.mem_singleton.mp hq), c', hj', hk', hp'⟩
      rcases List.mem_append.mp hp with h | h
      · have h1 : hh'.get? p.1 = some p.2 := hget p h
        rcases hfp _ (hown p h) with e1 | ⟨o, ho⟩
        · rw [e1, hoI] at h1
          have h3 : p = (I, oI) := Prod.ext e1 (Option.some.inj h1).symm
          rw [h3]; exact N' _ (.head _)
        · have h2 := (N₂ _ (.tail _ (hK' _ ho))).1
          rw [h1] at h2
          have h3 : p = (p.1, o) := Prod.ext rfl (Option.some.inj h2)
          rw [h3]; exact N' _ (.tail _ (hk' _ ho))
      · exact N' p (.tail _ h)
    cases f with
    | ret v => exact .ret p
    | brk => exact .brk p
    | next => exact .next (fin p)
    | cont => exact .cont (fin p)
  · rintro h' tk m' news' F' N' _ ⟨c, hJ', hK', hc⟩
    exact done c m' h' tk news' hJ' (by rw [bnd_self hc]; exact F') N' hK'

theorem Walks_shift {I : Addr} {fp wr : List Addr} {n : Nat} {P : Nat → Value → Prop} {St : Nat → Heap → Prop} (W : Walks prog w A I fp wr n P St) (k : Nat) (hk : k ≤ n) : Walks prog w A I fp wr (n - k) (fun i => P (i + k)) (fun i => St (i + k)) where
  sub := W.sub
  frame := fun i h h' a b => W.frame (i + k) h h' a b
  item := fun i s Q E hi st hQ => W.item (i + k) s Q E (by omega) st fun v h' tk p st' kp => hQ v h' tk p (by rw [show i + 1 + k = i + k + 1 by omega]; exact st') kp
  done := fun s Q E st hQ => W.done s Q E (by rw [show n - k + k = n by omega] at st; exact st) hQ
  self := fun i s Q E st hQ => W.self (i + k) s Q E st hQ

/-- a for over a list of the ledger -/
theorem loop_list {σ : Type} {x : Str} {body : List Stmt} {l : Addr} {vs : List Value} {nn : Nat}
    (ps : σ → List (Str × Value)) (J : Nat → σ → List (Addr × Obj) → Prop) (c₀ : σ) {m₀ : Str → Option Value} {news₀ : List (Addr × Obj)}
    (hh : A.handled = none) (F : Fr h₀ env.locals s.heap m₀) (N : News h₀ env.locals s.heap news₀) (hl : (l, LO vs nn) ∈ news₀) (hJ : J 0 c₀ news₀) (hk : ∀ p ∈ ps c₀, m₀ p.1 = some p.2)
    (turn : ∀ i v c u I oI h tk news, vs[i]? = some v → J i c news → (∀ p ∈ news, p.1 ≠ I) → (l, LO vs nn) ∈ news → Fr h₀ env.locals h (fun y => if y = x then some v else bnd (ps c) u y) → News h₀ env.locals h ((I, oI) :: news) →
      wpAny (model prog w) A (execs body env) (FPost h₀ env.locals s ps (J (i + 1)) [(l, LO vs nn)] I oI Q) E { s with heap := h, toks := tk })
    (done : ∀ c u h tk news, J vs.length c news → Fr h₀ env.locals h (bnd (ps c) u) → News h₀ env.locals h news → (l, LO vs nn) ∈ news → Q .next { s with heap := h, toks := tk }) :
    wpAny (model prog w) A (pyIter (.ref l)) (fun it s₂ => LoopAtV prog w A h₀ env x body Q E it s₂) E s := by
  have hol : s.heap.get? l = some (LO vs nn) := (N _ hl).1
  have hls : s.heap.IsList l vs.toArray := ⟨_, hol, rfl, nn, rfl⟩
  have hne : l ≠ s.heap.objs.size := Nat.ne_of_lt (Heap.lt_size hol)
  refine wpAny_pyIter_list hls ?_
  have W := Walks.list (prog := prog) (w := w) hh s.heap.objs.size l hne vs.toArray
  have hlen : vs.toArray.size = vs.length := by simp
  rw [hlen] at W
  refine loop_walk (s := { s with heap := _ }) W [(l, LO vs nn)] (by simp) (fun i h st => let ⟨o, ho, _⟩ := st.1; ⟨o, ho⟩) ps J c₀ (fun p hp e => absurd (Heap.lt_size (N p hp).1) (e ▸ Nat.lt_irrefl _)) (fun e => absurd F.ns.lt (e ▸ Nat.lt_irrefl _)) (next_is_new F)
    ⟨⟨_, Heap.get?_push_size _ rfl, rfl, rfl⟩, hls.at fun o e => Heap.get?_push_of_some _ e⟩ (F.push _) (fun p hp => ⟨Heap.get?_push_of_some _ (N p hp).1, (N p hp).2⟩) (by simpa using hl) hJ hk ?_ ?_
  · intro i v c u oI h tk news hi hP hJ' hI hK' F' N'
    exact turn i v c u _ oI h tk news (by simpa using hP) hJ' hI (hK' _ (by simp)) F' N'
  · intro c u h tk news hJ' F' N' hK'
    exact done c u h tk news hJ' F' N' (hK' _ (by simp))

/-- a for over a range's iterator that the frame has just made -/
theorem loop_range {σ : Type} {x : Str} {body : List Stmt} {I : Addr} {a c1 : Int} {n : Nat}
    (ps : σ → List (Str × Value)) (J : Nat → σ → List (Addr × Obj) → Prop) (c₀ : σ) {m₀ : Str → Option Value} {news₀ : List (Addr × Obj)}
    (hh : A.handled = none) (hIn : ∀ p ∈ news₀, p.1 ≠ I) (hIL : I ≠ env.locals) (hI0 : h₀.get? I = none) (hit : IsRangeIter s.heap I a n c1) (F : Fr h₀ env.locals s.heap m₀) (N : News h₀ env.locals s.heap news₀) (hJ : J 0 c₀ news₀) (hk : ∀ p ∈ ps c₀, m₀ p.1 = some p.2)
    (turn : ∀ (i : Nat) t c u oI h tk news, i < n → J i c news → (∀ p ∈ news, p.1 ≠ I) → Fr h₀ env.locals h (fun y => if y = x then some (.int (a + i * c1) t) else bnd (ps c) u y) → News h₀ env.locals h ((I, oI) :: news) →
      wpAny (model prog w) A (execs body env) (FPost h₀ env.locals s ps (J (i + 1)) [] I oI Q) E { s with heap := h, toks := tk })
    (done : ∀ c u h tk news, J n c news → Fr h₀ env.locals h (bnd (ps c) u) → News h₀ env.locals h news → Q .next { s with heap := h, toks := tk }) :
    LoopAtV prog w A h₀ env x body Q E (.ref I) s := by
  refine loop_walk (Walks.range hh I a c1 n) [] (by simp) (fun i h st => ⟨_, st⟩) ps J c₀ hIn hIL hI0 (by simpa using hit) F N (by simp) hJ hk ?_ ?_
  · rintro i v c u oI h tk news hi ⟨t, rfl⟩ hJ' hI hK' F' N'
    exact turn i t c u oI h tk news hi hJ' hI F' N'
  · intro c u h tk news hJ' F' N' _
    exact done c u h tk news hJ' F' N'
end

namespace F2
theorem sub_ri_reversed : isSubtype (.type "range_iterator") (.type "reversed") = pure false := by rw [isSubtype_type]; kernel_rfl
end F2

section
variable {prog : Program} {w : World} {A : Around} {E : Value → Shared → Prop} {s : Shared}
def rangeItObj (a n c : Int) : Obj := { cls := .type "range_iterator", dict := none, data := .fields #[rawInt a, rawInt n, rawInt c], slots := #[] }
theorem call_range_reversed {r : Addr} {b : Int} {t u v : Tok} {Q : Value → Shared → Prop} (hr : IsRange s.heap r 0 b 1 t u v) (h0 : 0 ≤ b) (hb : b < 2 ^ 62)
    (h : Q (.ref s.heap.objs.size) { s with heap := s.heap.push (rangeItObj (b - 1) b (-1)) }) : wpAny (model prog w) A (call (.builtin "range.__reversed__") [.ref r]) Q E s := by
  have hT : s.TypeIs (.ref r) "range" := ⟨_, hr, rfl⟩
  have hn : Builtin.Range.rangeSize 0 b 1 = b := by
    unfold Builtin.Range.rangeSize
    simp only [show (1 : Int) > 0 from by decide, if_true, Int.sub_zero, Int.ediv_one]
    split <;> omega
  refine wpAny_call_entry PySem.F.slot_range_reversed hT PySem.F.entry_range_reversed ?_ (PySem.F.args_range_reversed_1 _)
  unfold Builtin.«range.__reversed__»
  refine wpAny_bind (wpAny_of_eq (a := Value.ref r) rfl ?_)
  unfold Builtin.Range.rangeFields
  have small : (Builtin.Range.rangeFitsLong 0 && Builtin.Range.rangeFitsLong b && Builtin.Range.rangeFitsLong 1 && Builtin.Range.rangeFitsLong (-1) && Builtin.Range.rangeFitsLong (0 - 1) && Builtin.Range.rangeFitsLong b) = true := by
    simp only [Builtin.Range.rangeFitsLong, Bool.and_eq_true, decide_eq_true_eq]; omega
  refine wpAny_bind (wpAny_bind ?_)
  refine wpAny_field hr rfl (x := .int 0 t) rfl ?_
  refine wpAny_bind (wpAny_pure ?_)
  refine wpAny_bind (wpAny_field hr rfl (x := .int b u) rfl ?_)
  refine wpAny_bind (wpAny_pure ?_)
  refine wpAny_bind (wpAny_field hr rfl (x := .int 1 v) rfl ?_)
  refine wpAny_bind (wpAny_pure ?_)
  refine wpAny_pure ?_
  dsimp only
  rw [hn, small]
  have e1 : (0 : Int) + (b - 1) * 1 = b - 1 := by omega
  rw [e1]
  refine wpAny_bind (wpAny_newObj_type (wpAny_pure ⟨_, rfl, ?_⟩) ?_)
  · exact h
  · exact Nat.le_of_ble_eq_true rfl

theorem code_reversed_range {r : Addr} {b : Int} {t u v : Tok} {Q₁ : Value → Shared → Prop} (hr : IsRange s.heap r 0 b 1 t u v) (h0 : 0 ≤ b) (hb : b < 2 ^ 62)
    (h : Q₁ (.ref s.heap.objs.size) { s with heap := s.heap.push (rangeItObj (b - 1) b (-1)) }) :
    codeAny (model prog w) A (.call (.builtin "reversed.__new__") ⟨[.type "reversed", .ref r], []⟩) (wants Q₁ E) s := by
  have hT : s.TypeIs (.ref r) "range" := ⟨_, hr, rfl⟩
  refine codeAny_of_tree ?_
  show wpAny _ A.in1 (do checkBuiltinCall "reversed.__new__" ⟨[.type "reversed", .ref r], []⟩; again (.builtin "reversed.__new__" ⟨[.type "reversed", .ref r], []⟩)) _ _ s
  refine wpAny_bind (wpAny_of_eq (PySem.F.newCall_reversed_1 _) (wpAny_pure ⟨plainId_quiet PySem.F.plain_reversed_new _, codeAny_builtin PySem.F.entry_reversed_new ?_⟩))
  rw [Around.under_plainId PySem.F.plain_reversed_new _]
  unfold Builtin.«reversed.__new__»
  refine wpAny_bind (wpAny_of_eq (newClass_reversed _) ?_)
  try dsimp only
  refine wpAny_bind (wpAny_of_eq (a := ()) (by first | rfl | kernel_rfl) ?_)
  refine wpAny_bind (wpAny_of_eq (a := ()) (by first | rfl | kernel_rfl) ?_)
  try dsimp only
  refine wpAny_bind (wpAny_specialOf hT PySem.F.slot_range_reversed.lookup ?_)
  try dsimp only
  refine wpAny_bind (wpAny_of_eq (PySem.F.slot_range_reversed.bind _) ?_)
  try dsimp only
  first
  | rw [if_neg (show ¬ ((Value.builtin "range.__reversed__" == Value.none) = true) from Bool.false_ne_true)]
  | (show wpAny _ _ (if (Value.builtin "range.__reversed__" == Value.none) = true then _ else _) _ _ _; rw [if_neg (show ¬ ((Value.builtin "range.__reversed__" == Value.none) = true) from Bool.false_ne_true)])
  refine wpAny_bind (wpAny_rule ?_)
  refine wpAny_bind (m := runValue (.call (.builtin "range.__reversed__") ⟨[.ref r], []⟩)) (show wpAny _ _ (call (.builtin "range.__reversed__") [.ref r]) _ _ _ from call_range_reversed hr h0 hb ?_)
  first
  | exact wpAny_pure h
  | exact wpAny_bind (wpAny_pure (wpAny_pure h))

theorem call_reversed_range {r : Addr} {b : Int} {t u v : Tok} {Q : Value → Shared → Prop} (hr : IsRange s.heap r 0 b 1 t u v) (h0 : 0 ≤ b) (hb : b < 2 ^ 62)
    (h : Q (.ref s.heap.objs.size) { s with heap := s.heap.push (rangeItObj (b - 1) b (-1)) }) : wpAny (model prog w) A (call (.type "reversed") [.ref r]) Q E s := by
  refine callType_other (U := "range_iterator") (Q₁ := fun obj s₁ => obj = .ref s.heap.objs.size ∧ s₁ = { s with heap := s.heap.push (rangeItObj (b - 1) b (-1)) }) (by decide +kernel) PySem.F.create_reversed ⟨_, _, PySem.F.mro_reversed⟩ PySem.F.made_reversed F2.sub_ri_reversed (PySem.F.typeCall_reversed_1 _) (code_reversed_range hr h0 hb ⟨rfl, rfl⟩) ?_
  rintro obj s₁ ⟨rfl, rfl⟩
  exact ⟨⟨_, Heap.get?_push_size _ rfl, rfl⟩, h⟩
end
end Mine

-- R2
namespace Mine
namespace F2
theorem kind_unpack : builtinKind "_struct.unpack" = none := by decide +kernel
theorem plain_unpack : plainId "_struct.unpack" = true := by decide +kernel
theorem entry_unpack : entryFor table "_struct.unpack" = some Builtin.«_struct.unpack» := entryFor_of_tree (by kernel_rfl)
theorem args_unpack (a b : Value) : argsOk "_struct.unpack" ⟨[a, b], []⟩ := by unfold argsOk; kernel_rfl
def fmtOf (c : Char) (n : Nat) : Builtin.Struct.Format := ⟨false, false, [⟨c, 1, 0, n⟩], n, 1⟩
theorem parse_H : Builtin.Struct.parse #[60, 72] = pure (fmtOf 'H' 2) := by kernel_rfl
theorem parse_I : Builtin.Struct.parse #[60, 73] = pure (fmtOf 'I' 4) := by kernel_rfl
theorem parse_Q : Builtin.Struct.parse #[60, 81] = pure (fmtOf 'Q' 8) := by kernel_rfl
theorem module_H (t : Tok) : Builtin.Struct.moduleFormat (.str (Str.ofString "<H") t) = pure (fmtOf 'H' 2) := by kernel_rfl
theorem module_I (t : Tok) : Builtin.Struct.moduleFormat (.str (Str.ofString "<I") t) = pure (fmtOf 'I' 4) := by kernel_rfl
theorem module_Q (t : Tok) : Builtin.Struct.moduleFormat (.str (Str.ofString "<Q") t) = pure (fmtOf 'Q' 8) := by kernel_rfl
theorem unp_H (b : Array UInt8) : Builtin.Struct.unpacked "_struct.unpack" (fmtOf 'H' 2) b 0 = (do let v ← mkInt (Builtin.Memoryview.littleEndian (b.extract 0 2)); newTuple [v]) := by
  unfold Builtin.Struct.unpacked fmtOf
  dsimp only
  simp only [List.forIn_cons, List.forIn_nil]
  have e : ∀ (f : Nat → Array Value → Sem (ForInStep (Array Value))), (forIn [:1] #[] f : Sem (Array Value)) = (do let r ← f 0 #[]; match r with | .done x => pure x | .yield x => pure x) := by
    intro f
    rw [Std.Legacy.Range.forIn_eq_forIn_range']
    have e1 : List.range' [:1].start [:1].size [:1].step = [0] := by decide
    rw [e1, List.forIn_cons]
    congr 1
    funext r
    cases r <;> simp
  simp only [e]
  rfl
theorem unp_I (b : Array UInt8) : Builtin.Struct.unpacked "_struct.unpack" (fmtOf 'I' 4) b 0 = (do let v ← mkInt (Builtin.Memoryview.littleEndian (b.extract 0 4)); newTuple [v]) := by
  unfold Builtin.Struct.unpacked fmtOf
  dsimp only
  simp only [List.forIn_cons, List.forIn_nil]
  have e : ∀ (f : Nat → Array Value → Sem (ForInStep (Array Value))), (forIn [:1] #[] f : Sem (Array Value)) = (do let r ← f 0 #[]; match r with | .done x => pure x | .yield x => pure x) := by
    intro f
    rw [Std.Legacy.Range.forIn_eq_forIn_range']
    have e1 : List.range' [:1].start [:1].size [:1].step = [0] := by decide
    rw [e1, List.forIn_cons]
    congr 1
    funext r
    cases r <;> simp
  simp only [e]
  rfl
theorem unp_Q (b : Array UInt8) : Builtin.Struct.unpacked "_struct.unpack" (fmtOf 'Q' 8) b 0 = (do let v ← mkInt (Builtin.Memoryview.littleEndian (b.extract 0 8)); newTuple [v]) := by
  unfold Builtin.Struct.unpacked fmtOf
  dsimp only
  simp only [List.forIn_cons, List.forIn_nil]
  have e : ∀ (f : Nat → Array Value → Sem (ForInStep (Array Value))), (forIn [:1] #[] f : Sem (Array Value)) = (do let r ← f 0 #[]; match r with | .done x => pure x | .yield x => pure x) := by
    intro f
    rw [Std.Legacy.Range.forIn_eq_forIn_range']
    have e1 : List.range' [:1].start [:1].size [:1].step = [0] := by decide
    rw [e1, List.forIn_cons]
    congr 1
    funext r
    cases r <;> simp
  simp only [e]
  rfl
end F2
section
variable {prog : Program} {w : World} {A : Around} {E : Value → Shared → Prop} {s : Shared} {h₀ : Heap} {L : Addr} {m : Str → Option Value} {news : List (Addr × Obj)}
theorem call_unpack {fmt : Str} {t t2 : Tok} {b : Array UInt8} {f : Builtin.Struct.Format} {x : Int} {Q : Value → Shared → Prop} (F : Fr h₀ L s.heap m) (N : News h₀ L s.heap news)
    (hm : Builtin.Struct.moduleFormat (.str fmt t) = pure f) (hb : b.size = f.size) (hu : Builtin.Struct.unpacked "_struct.unpack" f b 0 = (do let v ← mkInt x; newTuple [v]))
    (h : ∀ D h' tk t3, Fr h₀ L h' m → News h₀ L h' ((D, { cls := .type "tuple", data := .seq #[.int x t3] }) :: news) → (∀ p ∈ news, p.1 < D) → Q (.ref D) { s with heap := h', toks := tk }) :
    wpAny (model prog w) A (call (.builtin "_struct.unpack") [.str fmt t, .bytes b t2]) Q E s := by
  refine Calls.call_function_entry F2.kind_unpack F2.plain_unpack F2.entry_unpack (F2.args_unpack _ _) ?_
  unfold Builtin.«_struct.unpack»
  refine wpAny_bind (wpAny_of_eq (a := ()) rfl ?_)
  refine wpAny_bind (wpAny_of_eq (a := ()) rfl ?_)
  refine wpAny_bind (wpAny_of_eq (a := f) hm ?_)
  unfold Builtin.Struct.unpackExact
  refine wpAny_bind (wpAny_of_eq (a := b) KBd.like_eq ?_)
  refine wpAny_bind (wpAny_pure ?_)
  have e : (b.size != f.size) = false := by rw [hb]; simp
  rw [e]
  simp only [Bool.false_eq_true, if_false]
  rw [hu]
  refine wpAny_bind (wpAny_bind (wpAny_mkInt ?_))
  refine newTuple_N (vs := [_]) F N (fun h' F' N' => wpAny_pure ⟨_, rfl, h _ _ _ _ F' N' fun p hp => Heap.lt_size (N p hp).1⟩) (by exact Nat.le_of_ble_eq_true rfl)
end
end Mine

-- R3
namespace Mine
/-- the octets of a number with its sign, the lowest first -/
def sle (b : Array UInt8) : Int :=
  if (b.toList.reverse.head?.any (· ≥ 128)) = true then (Builtin.Memoryview.littleEndian b : Int) - 256 ^ b.size else (Builtin.Memoryview.littleEndian b : Int)
theorem le_fold (b : Array UInt8) : b.toList.reverse.foldl (fun (acc : Nat) (b : UInt8) => acc * 256 + b.toNat) 0 = Builtin.Memoryview.littleEndian b := by
  unfold Builtin.Memoryview.littleEndian
  rw [List.foldl_reverse, ← Array.foldr_toList]
theorem le_lt (b : Array UInt8) : Builtin.Memoryview.littleEndian b < 256 ^ b.size := by
  rw [← le_fold]
  have h := KFB.fold_lt b.toList.reverse 0
  simpa using h

section
variable {prog : Program} {w : World} {M : Model} {A : Around} {E : Value → Shared → Prop} {s : Shared} {K : Frag} {h₀ : Heap} {L : Addr} {m : PySem.Str → Option Value} {news : List (Addr × Obj)}
theorem grownI {z : Int} {Q : Value → Shared → Prop} (hn : z.natAbs < 2 ^ 65) (h : Q (.int z s.toks) { s with toks := s.toks + 1 }) : wpAny M A (mkIntGrown z) Q E s := by
  unfold mkIntGrown
  have hl : ¬ (z.natAbs.log2 ≥ bitsLine) := by
    have hb : bitsLine = 134217728 := by first | rfl | decide
    by_cases hz : z.natAbs = 0
    · rw [hz, hb]; decide
    · have h1 := (Nat.log2_lt hz).mpr hn
      omega
  rw [if_neg hl]
  exact wpAny_mkInt h

theorem tree_signed {b : Array UInt8} {t u : Tok} {P : Fin → Shared → Prop} (hl : b.size ≤ 8) (h : P (.done (.ret (.int (sle b) s.toks))) { s with toks := s.toks + 1 }) :
    wpAny M A (Builtin.«int.from_bytes» ⟨[.type "int", .bytes b t], [(PySem.Str.ofString "byteorder", .str (PySem.Str.ofString "little") u), (PySem.Str.ofString "signed", .bool true)]⟩) P E s := by
  have hlt := le_lt b
  have h2 : 256 ^ b.size ≤ 256 ^ 8 := Nat.pow_le_pow_right (by decide) hl
  unfold Builtin.«int.from_bytes»
  refine wpAny_bind (wpAny_of_eq (a := true) KFB.type_int ?_)
  refine KFB.if_not rfl ?_
  refine wpAny_bind (wpAny_of_eq (a := true) PySem.F.conv_sub_int ?_)
  refine KFB.if_not rfl ?_
  refine wpAny_bind (wpAny_of_eq (a := [some (.bytes b t), some (.str (PySem.Str.ofString "little") u), some (.bool true)]) (by kernel_rfl) ?_)
  refine wpAny_bind (wpAny_of_eq (a := PySem.Str.ofString "little") (by kernel_rfl) ?_)
  refine wpAny_bind (wpAny_of_eq (a := true) (by kernel_rfl) ?_)
  refine wpAny_bind (wpAny_of_eq (a := true) (by kernel_rfl) ?_)
  refine wpAny_bind (wpAny_of_eq (a := b) rfl ?_)
  show wpAny _ _ (mkIntGrown (if (true && b.toList.reverse.head?.any (· ≥ 128)) = true then b.toList.reverse.foldl (fun (acc : Int) (b : UInt8) => acc * 256 + (b.toNat : Int)) ((0 : Nat) : Int) - 256 ^ b.toList.reverse.length else b.toList.reverse.foldl (fun (acc : Int) (b : UInt8) => acc * 256 + (b.toNat : Int)) ((0 : Nat) : Int)) >>= fun v => _) _ _ _
  rw [KFB.foldI_eq, le_fold, Bool.true_and]
  have e : (if (b.toList.reverse.head?.any (· ≥ 128)) = true then (Builtin.Memoryview.littleEndian b : Int) - 256 ^ b.toList.reverse.length else (Builtin.Memoryview.littleEndian b : Int)) = sle b := by
    unfold sle
    simp
  rw [e]
  have hp : ((256 : Int) ^ b.size) = ((256 ^ b.size : Nat) : Int) := by simp
  have hlz : (sle b).natAbs < 2 ^ 65 := by
    unfold sle
    rw [hp]
    split <;> omega
  refine wpAny_bind (grownI hlz ?_)
  refine KFB.if_so (by decide +kernel) ?_
  exact wpAny_bind (wpAny_pure (wpAny_pure h))

theorem check_fbK {b : Array UInt8} {t u : Tok} : checkBoundCall "int.from_bytes" ⟨[.type "int", .bytes b t], [(PySem.Str.ofString "byteorder", .str (PySem.Str.ofString "little") u), (PySem.Str.ofString "signed", .bool true)]⟩ = pure () := by first | kernel_rfl | rfl
theorem call_signed {x : Addr} {b : Array UInt8} {t u : Tok} {Q : Value → Shared → Prop} (ho : KFB.StandsAt x s.heap) (hl : b.size ≤ 8)
    (h : Q (.int (sle b) s.toks) { s with toks := s.toks + 1 }) : wpAny (model prog w) A (call (.ref x) [.bytes b t] [(PySem.Str.ofString "byteorder", .str (PySem.Str.ofString "little") u), (PySem.Str.ofString "signed", .bool true)]) Q E s := by
  refine wpAny_call (codeAny_of_tree ?_)
  show wpAny _ A.in1 (callAny (.ref x) ⟨[.bytes b t], [(PySem.Str.ofString "byteorder", .str (PySem.Str.ofString "little") u), (PySem.Str.ofString "signed", .bool true)]⟩) _ _ s
  simp only [callAny]
  refine wpAny_bind (wpAny_load ho ?_)
  simp only [KFB.bound, show (Value.type "builtin_function_or_method" == Value.type "method" || Value.type "builtin_function_or_method" == Value.type "builtin_function_or_method" || Value.type "builtin_function_or_method" == Value.type "method-wrapper") = true by decide, if_true]
  refine KFB.if_so (by decide) ?_
  refine wpAny_bind (wpAny_of_eq (a := ()) check_fbK ?_)
  refine wpAny_bind (wpAny_pure (wpAny_pure ?_))
  exact ⟨KFB.quiet_fb, codeAny_builtin KFB.entry_fb (tree_signed hl h)⟩

theorem callWith_fieldsK {pos : Pos} {u : Addr} {first : List Value} {args : List (Bool × Sem Value)} {keywords : List (Option PySem.Str × Sem Value)} {Q : Value → Shared → Prop} (hplain : (args.any (·.1) || keywords.any (·.1.isNone)) = false)
    (h : wpAny M A (evalArgs (.ref u) true args keywords) (fun x s₁ => KFB.StandsAt u s₁.heap ∧ wpAny M A (call (.ref u) (first ++ x.pos) x.kw) Q E s₁) E s) : wpAny M A (callWith pos (.ref u) first args keywords) Q E s := by
  unfold callWith
  refine wpAny_bind (wpAny_holding (wpAny_mono h (fun x s₁ h₁ => wpAny_bind (wpAny_standAt ?_)) fun _ _ x => x))
  obtain ⟨ho, hcall⟩ := h₁
  simp only [hplain]
  refine wpAny_bind (m := keeperOf (.ref u)) ?_
  unfold keeperOf
  refine wpAny_bind (wpAny_load ho ?_)
  simp only [KFB.bound, show (Value.type "builtin_function_or_method" != Value.type "method") = true by decide, show (Value.type "builtin_function_or_method" == Value.type "builtin_function_or_method" || Value.type "builtin_function_or_method" == Value.type "method-wrapper") = true by decide, if_true]
  refine wpAny_pure ?_
  exact wpAny_bind (wpAny_mono hcall (fun r s₂ hr => wpAny_bind (wpAny_holding (wpAny_point (wpAny_pure hr)))) fun _ _ x => x)
theorem callWith_boundK {pos : Pos} {u : Addr} {first : List Value} {env : Env} {e : Expr} {rest : List Expr} {kws : List Keyword} {Q : Value → Shared → Prop} (hall : (backToKw pos (keywordEach kws env)).all (·.1.isSome) = true)
    (h : wpAny M A (spliced (backTo pos (starEach (e :: rest) env))) (fun vs s₁ => wpAny M A (evalAll ((backToKw pos (keywordEach kws env)).map (·.2)))
      (fun ks s₂ => KFB.StandsAt u s₂.heap ∧ wpAny M A (call (.ref u) (first ++ vs) (((backToKw pos (keywordEach kws env)).filterMap (·.1)).zip ks)) Q E s₂) E s₁) E s)
    (hplain : ((backTo pos (starEach (e :: rest) env)).any (·.1) || (backToKw pos (keywordEach kws env)).any (·.1.isNone)) = false := by rfl) (he : starEach (e :: rest) env = (false, eval e env) :: starEach rest env := by rfl) :
    wpAny M A (callWith pos (.ref u) first (backTo pos (starEach (e :: rest) env)) (backToKw pos (keywordEach kws env))) Q E s :=
  callWith_fieldsK hplain (evalArgs_kw2 hall h he)
end
end Mine

-- R4
namespace Mine
section
variable {prog : Program} {w : World} {A : Around} {E : Value → Shared → Prop} {s : Shared}
theorem sort_key_none (a : Addr) : Builtin.«list.sort» ⟨[.ref a], [(Str.ofString "key", .none)]⟩ = Builtin.«list.sort» ⟨[.ref a], [(Str.ofString "reverse", .bool false)]⟩ := by kernel_rfl
theorem sort_key_rev (a : Addr) : Builtin.«list.sort» ⟨[.ref a], [(Str.ofString "key", .none), (Str.ofString "reverse", .bool true)]⟩ = Builtin.«list.sort» ⟨[.ref a], [(Str.ofString "reverse", .bool true)]⟩ := by kernel_rfl
theorem sorted_ints_kw {l : Addr} {vs : List Value} {ns : List Int} {b : Bool} {kw : List (Str × Value)} {Q : Value → Shared → Prop} (hl : s.heap.IsList l vs.toArray) (hI : IntsAre vs ns) (h64 : vs.length < 64)
    (hs : argsOk "sorted" ⟨[.ref l], kw⟩) (hk : ∀ a, argsOk "list.sort" ⟨[.ref a], kw⟩) (heq : ∀ a, Builtin.«list.sort» ⟨[.ref a], kw⟩ = Builtin.«list.sort» ⟨[.ref a], [(Str.ofString "reverse", .bool b)]⟩)
    (h : ∀ (out : Array Value) (ns' : List Int), IntsAre out.toList ns' → ns'.Perm ns → Ordered b ns' → Q (.ref (s.heap.objs.size + 1)) { s with heap := sortedAll s.heap vs out }) :
    wpAny (model prog w) A (call (.builtin "sorted") [.ref l] kw) Q E s := by
  refine call_function_entry_kw kind_sorted plain_sorted entry_sorted hs ?_
  unfold Builtin.«sorted»
  refine wpAny_bind (m := checkCount "sorted" 1 1 _) (wpAny_pure ?_)
  refine wpAny_bind (collect_list hl ?_)
  refine wpAny_bind (wpAny_newList ?_)
  have hsz : ((s.heap.push (seqObj "list" #[] 0)).update s.heap.objs.size (Obj.mapSeq (· ++ vs.toArray))).objs.size = s.heap.objs.size + 1 := by
    rw [Heap.size_update, size_push']
  have hoL : (((s.heap.push (seqObj "list" #[] 0)).update s.heap.objs.size (Obj.mapSeq (· ++ vs.toArray))).push (seqObj "list" vs.toArray 0)).get? (s.heap.objs.size + 1) = some (seqObj "list" vs.toArray 0) := by
    rw [← hsz]; exact Heap.get?_push_size _ rfl
  show wpAny _ _ _ _ _ { s with heap := ((s.heap.push (seqObj "list" #[] 0)).update s.heap.objs.size (Obj.mapSeq (· ++ vs.toArray))).push (seqObj "list" vs.toArray 0) }
  rw [hsz]
  refine wpAny_bind (wpAny_holding (wpAny_call_entry_kw slot_list_sort ⟨_, hoL, rfl⟩ entry_list_sort ?_ (hk _)))
  rw [heq]
  refine list_sort_tree_rev hoL hI h64 fun out ns' a1 a2 a3 => ⟨_, rfl, ?_⟩
  exact wpAny_pure ⟨_, rfl, h out ns' a1 a2 a3⟩
theorem sorted_N_kw {h₀ : Heap} {L : Addr} {m : Str → Option Value} {news : List (Addr × Obj)} {l : Addr} {vs : List Value} {ns : List Int} {b : Bool} {kw : List (Str × Value)} {Q : Value → Shared → Prop}
    (F : Fr h₀ L s.heap m) (N : News h₀ L s.heap news) (hl : s.heap.IsList l vs.toArray) (hI : IntsAre vs ns) (h64 : vs.length < 64)
    (hs : argsOk "sorted" ⟨[.ref l], kw⟩) (hk : ∀ a, argsOk "list.sort" ⟨[.ref a], kw⟩) (heq : ∀ a, Builtin.«list.sort» ⟨[.ref a], kw⟩ = Builtin.«list.sort» ⟨[.ref a], [(Str.ofString "reverse", .bool b)]⟩)
    (h : ∀ (D : Addr) (h' : Heap) (vs' : List Value) (ns' : List Int) (e : Nat), Fr h₀ L h' m → News h₀ L h' ((D, LO vs' e) :: news) → (∀ p ∈ news, p.1 < D) →
      IntsAre vs' ns' → ns'.Perm ns → Ordered b ns' → Q (.ref D) { s with heap := h' }) :
    wpAny (model prog w) A (call (.builtin "sorted") [.ref l] kw) Q E s := by
  refine sorted_ints_kw hl hI h64 hs hk heq fun out ns' a1 a2 a3 => ?_
  obtain ⟨e, he⟩ := sortedAll_at s.heap vs out
  have N' := N.kept_cons F (fun _ _ => sortedAll_old) (Nat.le_succ _) he
  refine h _ _ out.toList ns' e (F.kept fun _ _ => sortedAll_old) ?_ (fun p hp => Nat.lt_succ_of_lt (Heap.lt_size (N p hp).1)) a1 a2 a3
  have e2 : LO out.toList e = seqObj "list" out e := by simp [LO, PySem.W.listOf, seqObj]
  rw [e2]; exact N'
end
end Mine

-- R5
namespace Mine
namespace F5
theorem lookup_object_new : typeLookup (.type "object") "__new__" = pure (some (.builtin "object.__new__")) := by rw [typeLookup_type, builtinLookup_eq_fast]; kernel_rfl
theorem called_object : TypeCalled "object" "object.__new__" "object.__init__" :=
  ⟨by decide +kernel, by decide +kernel, ⟨_, _, PySem.F.mro_object⟩, madeBy_type PySem.F.mro_object lookup_object_new (by decide +kernel), by decide +kernel, by rw [isSubtype_type]; kernel_rfl, PySem.F.slot_object_init⟩
theorem typeCall_object_0 : checkTypeCall "object" ⟨[], []⟩ = pure () := by kernel_rfl
theorem newCall_object_0 : checkBuiltinCall "object.__new__" ⟨[.type "object"], []⟩ = pure () := by kernel_rfl
theorem madeHere_object : Bind.madeHere "object.__new__" (.type "object") = pure () := by
  unfold Bind.madeHere
  have e : Bind.staticBase (.type "object") = pure (.type "object") := by first | rfl | kernel_rfl
  rw [e]
  simp only [pure_bind, called_object.made]
  first | rfl | kernel_rfl | (simp; rfl)
theorem args_min_dk (a b c : Value) : argsOk "min" ⟨[a], [(Str.ofString "default", b), (Str.ofString "key", c)]⟩ := by unfold argsOk; kernel_rfl
end F5
def sentObj : Obj := { cls := .type "object", data := .plain }
theorem meets_object_new : Meets (Builtin.«object.__new__» ⟨[.type "object"], []⟩) (fun _ R s => R (.ok (.ret (.ref s.heap.objs.size))) { s with heap := s.heap.push sentObj }) :=
  .of_wp fun prog w A R s h => by
    unfold Builtin.«object.__new__»
    refine wpAny_bind (m := isType (.type "object")) (wpAny_of_eq (a := true) (by first | rfl | kernel_rfl) ?_)
    have e1 : ((Manifest.find? "object").elim false (fun x => x.mro.any fun t => (Manifest.find? t).elim false (·.noNew))) = false := by first | decide +kernel | kernel_rfl
    have hmh := F5.madeHere_object
    have hd : typeHasDict (.type "object") = false := by first | decide +kernel | kernel_rfl
    have hdl : diesByItsTypesDel "object" = false := by first | decide +kernel | kernel_rfl
    wp_walk
    exact ⟨_, rfl, h⟩
theorem meets_object_init (v : Value) : Meets (Builtin.«object.__init__» ⟨[v], []⟩) (fun _ R s => R (.ok (.ret .none)) s) :=
  .of_wp fun prog w A R s h => wpAny_pure ⟨_, rfl, h⟩
section
variable {prog : Program} {w : World} {A : Around} {E : Value → Shared → Prop} {s : Shared}
theorem call_object {Q : Value → Shared → Prop} (h : Q (.ref s.heap.objs.size) { s with heap := s.heap.push sentObj }) : wpAny (model prog w) A (call (.type "object") []) Q E s := by
  refine callType_meets (Q₁ := fun obj s₁ => obj = .ref s.heap.objs.size ∧ s₁ = { s with heap := s.heap.push sentObj }) F5.called_object F5.typeCall_object_0 F5.newCall_object_0 (entryFor_of_tree (by kernel_rfl)) F.entry_object_init meets_object_new ⟨rfl, rfl⟩ ?_
  rintro obj s₁ ⟨rfl, rfl⟩
  exact ⟨⟨_, Heap.get?_push_size _ rfl, rfl⟩, PySem.F.args_object_init_1 _, _, meets_object_init _, rfl, h⟩

def itObj (l : Addr) : Obj := { cls := .type "list_iterator", data := .fields #[.ref l, .int 0 0] }
theorem call_iter_list {l : Addr} {items : Array Value} {Q : Value → Shared → Prop} (hl : s.heap.IsList l items) (h : Q (.ref s.heap.objs.size) { s with heap := s.heap.push (itObj l) }) :
    wpAny (model prog w) A (call (.builtin "iter") [.ref l]) Q E s := by
  refine call_function_entry (by decide +kernel) (by decide +kernel) kdk_entry_iter (kdk_args_iter _) ?_
  unfold Builtin.«iter»
  refine wpAny_bind (m := someArgs "iter" 1 2 _) (wpAny_of_eq (a := [Value.ref l]) (by first | rfl | kernel_rfl!) ?_)
  show wpAny _ _ (pyIter (.ref l) >>= _) _ _ _
  refine wpAny_bind (wpAny_pyIter_list hl ?_)
  exact wpAny_pure ⟨_, rfl, h⟩

theorem call_min_one {I l : Addr} {v d : Value} {Q : Value → Shared → Prop} (hh : A.handled = none) (hit : s.heap.IsListIter I l 0) (hl : s.heap.IsList l #[v]) (hne : l ≠ I)
    (h : ∀ h', (∀ b o, b ≠ I → s.heap.get? b = some o → h'.get? b = some o) → Q v { s with heap := h' }) :
    wpAny (model prog w) A (call (.builtin "min") [.ref I] [(Str.ofString "default", d), (Str.ofString "key", .none)]) Q E s := by
  have hname : (toString "min" ++ toString ".loop" : String) = "min.loop" := by decide
  refine kmk_tree PySem.F.kind_min PySem.F.plain_min PySem.F.entry_min (F5.args_min_dk _ _ _) ?_
  show wpAny _ A.in1 (Builtin.Builtins.bindParams "min" ["key", "default"] 0 ⟨[], [(Str.ofString "default", d), (Str.ofString "key", .none)]⟩ >>= _) _ _ s
  refine wpAny_bind (wpAny_of_eq (show Builtin.Builtins.bindParams "min" ["key", "default"] 0 ⟨[], [(Str.ofString "default", d), (Str.ofString "key", .none)]⟩ = pure [some .none, some d] from rfl) ?_)
  refine wpAny_bind (wpAny_pure ?_)
  refine wpAny_bind (wpAny_pyIter_listiter hit ?_)
  refine wpAny_bind (wpAny_newList ?_ (Nat.zero_le _))
  rw [hname]
  refine wpAny_pure ⟨plainId_quiet PySem.F.plain_min_loop _, ?_⟩
  obtain ⟨oi, hoi, hci, hdi⟩ := id hit
  obtain ⟨ol, hol, hcl, nl, hdl⟩ := id hl
  have hS : ∀ b o, s.heap.get? b = some o → b ≠ s.heap.objs.size := fun b o e q => absurd (Heap.lt_size e) (q ▸ Nat.lt_irrefl _)
  have hIS := hS _ _ hoi
  have hlS := hS _ _ hol
  refine codeAny_builtin PySem.F.entry_min_loop ?_
  rw [Around.under_plainId PySem.F.plain_min_loop _]
  refine wpAny_bind (wpAny_seqItems (a := s.heap.objs.size) (Heap.get?_push_size _ rfl) rfl ?_)
  refine wpAny_bind (m := tryCatch (pyNext (.ref I)) _) (wpAny_tryCatch (wpAny_pyNext_list_item (hit.at fun o e => Heap.get?_push_of_some _ e) (hl.at fun o e => Heap.get?_push_of_some _ e) (x := v) rfl fun h1 hit1 hs1 => ?_))
  try dsimp only
  refine wpAny_bind (wpAny_pure ?_)
  try dsimp only
  have hS1 := (hs1.2 _ (Ne.symm hIS)).trans (Heap.get?_push_size (o := seqObj "list" #[] 0) s.heap rfl)
  refine wpAny_bind (wpAny_updateSeq hS1 rfl ?_)
  rw [hname]
  refine wpAny_pure ⟨plainId_quiet PySem.F.plain_min_loop _, ?_⟩
  have hS2 := Heap.get?_update_self (Obj.mapSeq fun _ => #[v, v]) hS1 rfl
  refine codeAny_builtin PySem.F.entry_min_loop ?_
  rw [Around.under_plainId PySem.F.plain_min_loop _]
  refine wpAny_bind (wpAny_seqItems hS2 rfl ?_)
  have up : ∀ b o, b ≠ I → s.heap.get? b = some o → (h1.update s.heap.objs.size (Obj.mapSeq fun _ => #[v, v])).get? b = some o := fun b o hb e =>
    (Heap.get?_update_other _ _ (Ne.symm (hS _ _ e))).trans ((hs1.2 _ hb).trans (Heap.get?_push_of_some _ e))
  refine wpAny_bind (m := tryCatch (pyNext (.ref I)) _) (wpAny_tryCatch (wpAny_pyNext_list_end hh (i := 1) (hit1.at fun o e => (Heap.get?_update_other _ _ (Ne.symm hIS)).trans e) (hl.at fun o e => (up _ o hne (by rw [hol] at e ⊢; exact e))) (by simp) fun h2 hs2 => ?_))
  try dsimp only
  have hS3 := hs2 _ _ (Ne.symm hIS) hS2
  show wpAny _ _ (updateSeq s.heap.objs.size (fun _ => #[]) >>= _) _ _ _
  refine wpAny_bind (wpAny_updateSeq hS3 rfl ?_)
  refine wpAny_bind (wpAny_letGo (wpAny_pure ?_))
  exact h _ fun b o hb e => (Heap.get?_update_other _ _ (Ne.symm (hS _ _ e))).trans (hs2 _ _ hb (up _ _ hb e))
end
section
variable {prog : Program} {w : World} {A : Around} {E : Value → Shared → Prop} {s : Shared} {h₀ : Heap} {L D I : Addr} {m : Str → Option Value} {news : List (Addr × Obj)} {vs : List Value} {n : Nat} {v d : Value} {Q : Value → Shared → Prop}
theorem iter_N (F : Fr h₀ L s.heap m) (N : News h₀ L s.heap news) (hm : (D, LO vs n) ∈ news)
    (h : ∀ I h', Fr h₀ L h' m → News h₀ L h' ((I, itObj D) :: news) → (∀ p ∈ news, p.1 ≠ I) → Q (.ref I) { s with heap := h' }) :
    wpAny (model prog w) A (call (.builtin "iter") [.ref D]) Q E s :=
  call_iter_list (PySem.IsL.isList (n := n) (N _ hm).1) (h _ _ (F.push _) (News.push F N _ rfl) fun p hp => Nat.ne_of_lt (Heap.lt_size (N p hp).1))
theorem object_N (F : Fr h₀ L s.heap m) (N : News h₀ L s.heap news)
    (h : ∀ I h', Fr h₀ L h' m → News h₀ L h' ((I, sentObj) :: news) → (∀ p ∈ news, p.1 ≠ I) → Q (.ref I) { s with heap := h' }) :
    wpAny (model prog w) A (call (.type "object") []) Q E s :=
  call_object (h _ _ (F.push _) (News.push F N _ rfl) fun p hp => Nat.ne_of_lt (Heap.lt_size (N p hp).1))
theorem min_one_N (hh : A.handled = none) (F : Fr h₀ L s.heap m) (N : News h₀ L s.heap news) (hI : (I, itObj D) ∈ news) (hm : (D, LO [v] n) ∈ news)
    (h : ∀ h', Fr h₀ L h' m → (∀ news', (∀ p ∈ news', p ∈ news ∧ p.1 ≠ I) → News h₀ L h' news') → Q v { s with heap := h' }) :
    wpAny (model prog w) A (call (.builtin "min") [.ref I] [(Str.ofString "default", d), (Str.ofString "key", .none)]) Q E s := by
  have hne : D ≠ I := fun e => by subst e; have q2 := congrArg Obj.cls (News.uniq N hI hm); injection q2 with q3; exact absurd q3 (by decide)
  refine call_min_one hh ⟨_, (N _ hI).1, rfl, rfl⟩ (PySem.IsL.isList (n := n) (N _ hm).1) hne fun h' k => h h' ?_ fun news' hs p hp => ⟨k _ _ (hs p hp).2 (N p (hs p hp).1).1, (N p (hs p hp).1).2⟩
  obtain ⟨oL, es, ep, hL, hLr⟩ := F.ns
  exact ⟨⟨oL, es, ep, k _ _ (Ne.symm (N _ hI).2.1) hL, hLr⟩, fun b o e => k b o (fun q => by have := (N _ hI).2.2; rw [← q, e] at this; cases this) (F.keep b o e), F.above⟩
end
end Mine

-- R6
namespace Mine
theorem allLt_mem {d : Addr} : ∀ {l : List (Addr × Obj)}, AllLt d l → ∀ p ∈ l, p.1 < d
  | [], _, _, hp => nomatch hp
  | _ :: _, h, p, hp => by
    rcases List.mem_cons.mp hp with e | hp
    · exact e ▸ h.1
    · exact allLt_mem h.2 p hp
section
variable {prog : Program} {w : World} {A : Around} {E : Value → Shared → Prop} {s : Shared} {h₀ : Heap} {L D : Addr} {m : Str → Option Value} {news : List (Addr × Obj)} {vs zs : List Value} {n : Nat}
theorem slice_N {value slice : Expr} {vl vu vk : Value} {lo hi st : Option Int} {ops : List Value} {Q : Value → Shared → Prop}
    (F : Fr h₀ L s.heap m) (N : News h₀ L s.heap news) (hm : (D, LO vs n) ∈ news) (pl : IsPart vl lo) (pu : IsPart vu hi) (pk : IsPart vk st) (h0 : st ≠ some 0) (hsz : vs.length ≤ sizeLine) (ez : (slicePick vs.toArray lo hi st).toList = zs)
    (h : ∀ D' h', Fr h₀ L h' m → News h₀ L h' ((D', LO zs 0) :: news) → (∀ p ∈ news, p.1 ≠ D') → Q (.ref D') { s with heap := h' })
    (hs : subscripted slice false (.ref D) (.ref s.heap.objs.size) = operate ops (getItem (.ref D) (.ref s.heap.objs.size)) := by with_unfolding_all rfl)
    (ht : ∀ r, letTemporaryGo value (.ref D) r = pure () := by intro _; with_unfolding_all rfl) :
    wpAny (model prog w) A (subscriptTail value slice (.ref D) (.ref s.heap.objs.size)) Q E { s with heap := s.heap.push { cls := .type "slice", data := .fields #[vl, vu, vk] } } := by
  refine slice_list3 (hsz := by simpa using hsz) F N (PySem.IsL.isList (n := n) (N _ hm).1) pl pu pk h0 (fun h' F' N' => h _ _ F' ?_ fun p hp e => ?_) hs ht
  · rw [← ez]
    have e2 : LO (slicePick vs.toArray lo hi st).toList 0 = { cls := .type "list", data := .seq (slicePick vs.toArray lo hi st) } := by simp [LO, PySem.W.listOf]
    rw [e2]; exact N'
  · have := Heap.lt_size (N p hp).1
    rw [e] at this; exact absurd (Nat.lt_of_succ_lt this) (Nat.lt_irrefl _)
theorem pick_upto (k : Nat) : (slicePick vs.toArray none (some (k : Int)) none).toList = vs.take k := by rw [slicePick_upto']
theorem pick_from (k : Nat) : (slicePick vs.toArray (some (k : Int)) none none).toList = vs.drop k := by rw [slicePick_from']
theorem pick_but (k : Nat) (hk : 1 ≤ k) : (slicePick vs.toArray none (some (-(k : Int))) none).toList = vs.take (vs.length - k) := by rw [slicePick_butLast _ _ hk]; simp
theorem pick_last (k : Nat) (hk : 1 ≤ k) : (slicePick vs.toArray (some (-(k : Int))) none none).toList = vs.drop (vs.length - k) := by rw [slicePick_last _ _ hk]; simp
theorem pick_rev : (slicePick vs.toArray none none (some (-1))).toList = vs.reverse := by rw [krv_pick]
end
end Mine

-- R7
namespace Mine
section
variable {prog : Program} {w : World} {A : Around} {E : Value → Shared → Prop} {s : Shared}
theorem nextOf_range_item {it : Addr} {x left step : Int} {Q : Value → Shared → Prop} (hit : IsRangeIter s.heap it x left step) (hleft : 0 < left)
    (hQ : ∀ h', IsRangeIter h' it (x + step) (left - 1) step → Heap.SameBut it s.heap h' → Q (.int x s.toks) { s with heap := h', toks := s.toks + 1 }) :
    wpAny (model prog w) A (Builtin.SmallTypes.nextOf (.ref it)) Q E s := by
  have hT : s.TypeIs (.ref it) "range_iterator" := ⟨_, hit, rfl⟩
  unfold Builtin.SmallTypes.nextOf
  refine wpAny_bind (wpAny_callSpecial?_slot (name := Str.ofString "__next__") hT PySem.F.slot_range_iterator_next
    (call_meets PySem.F.slot_range_iterator_next hT PySem.F.entry_range_iterator_next (PySem.F.args_range_iterator_next_1 _) (AutoRange.range_iterator___next___range_iterator_1 it x left step (by omega)) ⟨hit, ?_⟩))
  exact wpAny_pure (hQ _ (Heap.get?_update_self _ (Heap.get?_update_self _ hit rfl) rfl) ((Heap.SameBut.update ..).trans (Heap.SameBut.update ..)))
theorem nextOf_range_end {it : Addr} {x left step : Int} {Q : Value → Shared → Prop} (hh : A.handled = none) (hit : IsRangeIter s.heap it x left step) (hleft : left ≤ 0)
    (hE : ∀ h' e, Heap.ExtBut it s.heap h' → (∃ o, h'.get? e = some o ∧ o.cls = .type "StopIteration") → E (.ref e) { s with heap := h' }) :
    wpAny (model prog w) A (Builtin.SmallTypes.nextOf (.ref it)) Q E s := by
  have hT : s.TypeIs (.ref it) "range_iterator" := ⟨_, hit, rfl⟩
  unfold Builtin.SmallTypes.nextOf
  refine wpAny_bind (wpAny_callSpecial?_slot (name := Str.ofString "__next__") hT PySem.F.slot_range_iterator_next
    (wpAny_call_entry PySem.F.slot_range_iterator_next hT PySem.F.entry_range_iterator_next ?_ (PySem.F.args_range_iterator_next_1 _)))
  show wpAny _ _ (field (.ref it) 0 >>= _) _ _ s
  refine wpAny_bind (wpAny_field hit rfl (x := rawInt x) rfl ?_)
  show wpAny _ _ (field (.ref it) 1 >>= _) _ _ s
  refine wpAny_bind (wpAny_field hit rfl (x := rawInt left) rfl ?_)
  show wpAny _ _ (field (.ref it) 2 >>= _) _ _ s
  refine wpAny_bind (wpAny_field hit rfl (x := rawInt step) rfl ?_)
  show wpAny _ _ (if left ≤ 0 then _ else _) _ _ s
  rw [if_pos hleft]
  refine wpAny_bind (wpAny_rule ?_)
  refine wpAny_bind ?_
  show wpAny _ _ (newExc (.type "StopIteration") [] >>= _) _ _ _
  refine wpAny_bind ?_
  simp only [newExc, newTuple]
  refine wpAny_bind (wpAny_newObj_type ?_ (by size_fits))
  refine wpAny_bind (m := firstArgMember _ _) (wpAny_of_eq (a := Value.none) (by first | rfl | (simp only [firstArgMember]; rfl)) ?_)
  refine wpAny_newObj_type ?_ (by size_fits)
  simp only [raiseNew]
  refine wpAny_bind (wpAny_handled ?_)
  first | rw [show A.in1.handled = none from hh] | rw [hh]
  refine wpAny_bind (wpAny_pure (wpAny_throw ?_))
  exact hE _ _ (((Heap.ExtBut.refl it s.heap).push _).push _) ⟨_, Heap.get?_push_size _ rfl, rfl⟩

/-- the parts of a zip over a range's iterator and a list's iterator -/
structure ZR (z TI TO i1 i2 l : Addr) : Prop where
  a1 : TI ≠ z
  a2 : TO ≠ z
  a3 : i1 ≠ z
  a4 : i2 ≠ z
  a5 : TI ≠ TO
  a6 : TI ≠ i1
  a7 : TI ≠ i2
  a8 : TO ≠ i1
  a9 : TO ≠ i2
  b1 : i1 ≠ i2
  b2 : l ≠ z
  b3 : l ≠ TO
  b4 : l ≠ i1
  b5 : l ≠ i2
def ZSt (z TI TO i1 i2 l : Addr) (a c : Int) (n : Nat) (ys : Array Value) (f0 : Value) (i : Nat) (h : Heap) : Prop :=
  IsZip h z TI TO f0 ∧ IsPair h TI (.ref i1) (.ref i2) ∧ (∃ x y, IsPair h TO x y) ∧ IsRangeIter h i1 (a + i * c) ((n : Int) - i) c ∧ h.IsListIter i2 l i ∧ h.IsList l ys

theorem zr_item {z TI TO i1 i2 l : Addr} {a c : Int} {n i : Nat} {ys : Array Value} {y : Value} {Q : Value → Shared → Prop} (D : ZR z TI TO i1 i2 l) (hi : i < n) (hy : ys[i]? = some y) (st : ZSt z TI TO i1 i2 l a c n ys .none i s.heap)
    (hQ : ∀ h' t, ZSt z TI TO i1 i2 l a c n ys (rawInt s.heap.objs.size) (i + 1) h' → IsPair h' s.heap.objs.size (.int (a + i * c) t) y → h'.objs.size = s.heap.objs.size + 1 →
      (∀ b o, b ≠ z → b ≠ TO → b ≠ i1 → b ≠ i2 → s.heap.get? b = some o → h'.get? b = some o) → Q (.ref s.heap.objs.size) { s with heap := h', toks := s.toks + 1 }) :
    wpAny (model prog w) A (Builtin.«zip.__next__» ⟨[.ref z], []⟩) (fun fin s' => ∃ v, fin = .done (.ret v) ∧ Q v s') E s := by
  obtain ⟨hz, hTI, ⟨u, v, hTO⟩, h1, h2, hl⟩ := st
  show wpAny _ _ (field (.ref z) 2 >>= _) _ _ _
  refine wpAny_bind (wpAny_field hz rfl (x := .bool false) rfl ?_)
  show wpAny _ _ (field (.ref z) 3 >>= _) _ _ _
  refine wpAny_bind (wpAny_field hz rfl (x := .ref TI) rfl ?_)
  refine wpAny_bind (wpAny_seqItems hTI rfl ?_)
  show wpAny _ _ (Builtin.SmallTypes.ownedTupleIsFree (.ref z) >>= _) _ _ _
  refine wpAny_bind ?_
  unfold Builtin.SmallTypes.ownedTupleIsFree
  refine wpAny_bind (wpAny_field hz rfl (x := .none) rfl (wpAny_pure ?_))
  simp only [if_true]
  refine wpAny_bind (wpAny_rule ?_)
  refine wpAny_bind (wpAny_field hz rfl (x := .ref TO) rfl ?_)
  refine wpAny_bind (wpAny_setField_rec hz (by simp) fun g1 z1 s1 => ?_)
  replace z1 : IsZip g1 z TI TO .ellipsis := z1
  refine wpAny_bind ?_
  simp only [List.zipIdx_cons, List.zipIdx_nil, List.forIn_cons, List.forIn_nil]
  refine wpAny_bind (wpAny_bind (wpAny_onRaise ?_))
  show wpAny _ _ (Builtin.SmallTypes.nextOf (.ref i1) >>= _) _ _ _
  refine wpAny_bind (nextOf_range_item (s1.extBut _ _ D.a3 h1) (by omega) fun g2 r2 s2 => wpAny_pure ?_)
  have p2 : IsPair g2 TO u v := s2.extBut _ _ D.a8 (s1.extBut _ _ D.a2 hTO)
  refine wpAny_bind (wpAny_seqItems p2 rfl ?_)
  refine wpAny_bind (wpAny_updateSeq_pair p2 fun g3 p3 s3 => ?_)
  replace p3 : IsPair g3 TO (.int (a + i * c) s.toks) v := p3
  refine wpAny_bind (wpAny_letGo (wpAny_pure ?_))
  refine wpAny_bind (wpAny_bind (wpAny_onRaise ?_))
  show wpAny _ _ (Builtin.SmallTypes.nextOf (.ref i2) >>= _) _ _ _
  refine wpAny_bind (wpAny_nextOf_list_item (((h2.extBut s1.extBut D.a4).extBut s2.extBut D.b1.symm).extBut s3.extBut D.a9.symm)
    (((hl.extBut s1.extBut D.b2).extBut s2.extBut D.b4).extBut s3.extBut D.b3) hy fun g4 r4 s4 => wpAny_pure ?_)
  have p4 : IsPair g4 TO (.int (a + i * c) s.toks) v := s4.extBut _ _ D.a9 p3
  refine wpAny_bind (wpAny_seqItems p4 rfl ?_)
  refine wpAny_bind (wpAny_updateSeq_pair p4 fun g5 p5 s5 => ?_)
  replace p5 : IsPair g5 TO (.int (a + i * c) s.toks) y := p5
  refine wpAny_bind (wpAny_letGo (wpAny_pure (wpAny_pure ?_)))
  refine wpAny_bind (wpAny_seqItems p5 rfl ?_)
  refine wpAny_bind (wpAny_newTuple ?_)
  have hsz : g5.objs.size = s.heap.objs.size := by rw [s5.1, s4.1, s3.1, s2.1, s1.1]
  have z5 : IsZip g5 z TI TO .ellipsis := s5.extBut _ _ D.a2.symm (s4.extBut _ _ D.a4.symm (s3.extBut _ _ D.a2.symm (s2.extBut _ _ D.a3.symm z1)))
  have k5 : ∀ b o, b ≠ z → b ≠ TO → b ≠ i1 → b ≠ i2 → s.heap.get? b = some o → g5.get? b = some o := fun b o c1 c2 c3 c4 e =>
    s5.extBut _ _ c2 (s4.extBut _ _ c4 (s3.extBut _ _ c2 (s2.extBut _ _ c3 (s1.extBut _ _ c1 e))))
  have r5 : IsRangeIter g5 i1 (a + i * c + c) ((n : Int) - i - 1) c := s5.extBut _ _ D.a8.symm (s4.extBut _ _ D.b1 (s3.extBut _ _ D.a8.symm r2))
  have i5 : g5.IsListIter i2 l (i + 1) := r4.extBut s5.extBut D.a9.symm
  have zlt : z < g5.objs.size := Heap.lt_size z5
  show wpAny _ _ (Builtin.SmallTypes.ownedTupleHandOut (.ref z) (.ref g5.objs.size) >>= _) _ _ _
  refine wpAny_bind ?_
  unfold Builtin.SmallTypes.ownedTupleHandOut
  have z6 : IsZip (g5.push { cls := .type "tuple", data := .seq #[.int (a + i * c) s.toks, y] }) z TI TO .ellipsis := Heap.get?_push_of_some _ z5
  refine wpAny_bind (wpAny_setField_rec z6 (by simp) fun g7 z7 s7 => ?_)
  replace z7 : IsZip g7 z TI TO (rawInt g5.objs.size) := z7
  refine wpAny_setField_rec z7 (by simp) fun g8 z8 s8 => ?_
  replace z8 : IsZip g8 z TI TO (rawInt g5.objs.size) := z8
  have up : ∀ b o, b ≠ z → g5.get? b = some o → g8.get? b = some o := fun b o c1 e => s8.extBut _ _ c1 (s7.extBut _ _ c1 (Heap.get?_push_of_some _ e))
  have t8 : IsPair g8 g5.objs.size (.int (a + i * c) s.toks) y := s8.extBut _ _ (Nat.ne_of_gt zlt) (s7.extBut _ _ (Nat.ne_of_gt zlt) (Heap.get?_push_size _ rfl))
  have n8 : g8.objs.size = g5.objs.size + 1 := by rw [s8.1, s7.1, Heap.size_push]
  rw [hsz] at z8 t8 n8
  refine wpAny_pure ⟨_, rfl, ?_⟩
  show Q (.ref g5.objs.size) _
  rw [hsz]
  have e1 : a + ((i + 1 : Nat) : Int) * c = a + (i : Int) * c + c := by push_cast; rw [Int.add_mul, Int.one_mul, Int.add_assoc]
  have e2 : (n : Int) - ((i + 1 : Nat) : Int) = (n : Int) - (i : Int) - 1 := by push_cast; omega
  refine hQ g8 s.toks ⟨z8, up _ _ D.a1 (k5 _ _ D.a1 D.a5 D.a6 D.a7 hTI), ⟨_, _, up _ _ D.a2 p5⟩, ?_, i5.at fun o e => up _ o D.a4 e, hl.at fun o e => up _ o D.b2 (k5 _ o D.b2 D.b3 D.b4 D.b5 e)⟩ t8 n8 fun b o c1 c2 c3 c4 e => up b o c1 (k5 b o c1 c2 c3 c4 e)
  rw [e1, e2]; exact up _ _ D.a3 r5

theorem zr_end {z TI TO i1 i2 l : Addr} {a c : Int} {n : Nat} {ys : Array Value} {Q : Fin → Shared → Prop} (hh : A.handled = none) (D : ZR z TI TO i1 i2 l) (st : ZSt z TI TO i1 i2 l a c n ys .none n s.heap)
    (hE : ∀ h' e, (∀ b o, b ≠ z → b ≠ TO → b ≠ i1 → b ≠ i2 → s.heap.get? b = some o → h'.get? b = some o) → (h'.IsListIter i2 l n) → (∃ o, h'.get? e = some o ∧ o.cls = .type "StopIteration") → E (.ref e) { s with heap := h' }) :
    wpAny (model prog w) A (Builtin.«zip.__next__» ⟨[.ref z], []⟩) Q E s := by
  obtain ⟨hz, hTI, ⟨u, v, hTO⟩, h1, h2, hl⟩ := st
  show wpAny _ _ (field (.ref z) 2 >>= _) _ _ _
  refine wpAny_bind (wpAny_field hz rfl (x := .bool false) rfl ?_)
  show wpAny _ _ (field (.ref z) 3 >>= _) _ _ _
  refine wpAny_bind (wpAny_field hz rfl (x := .ref TI) rfl ?_)
  refine wpAny_bind (wpAny_seqItems hTI rfl ?_)
  show wpAny _ _ (Builtin.SmallTypes.ownedTupleIsFree (.ref z) >>= _) _ _ _
  refine wpAny_bind ?_
  unfold Builtin.SmallTypes.ownedTupleIsFree
  refine wpAny_bind (wpAny_field hz rfl (x := .none) rfl (wpAny_pure ?_))
  simp only [if_true]
  refine wpAny_bind (wpAny_rule ?_)
  refine wpAny_bind (wpAny_field hz rfl (x := .ref TO) rfl ?_)
  refine wpAny_bind (wpAny_setField_rec hz (by simp) fun g1 z1 s1 => ?_)
  replace z1 : IsZip g1 z TI TO .ellipsis := z1
  refine wpAny_bind ?_
  simp only [List.zipIdx_cons, List.zipIdx_nil, List.forIn_cons, List.forIn_nil]
  refine wpAny_bind (wpAny_bind (wpAny_onRaise ?_))
  show wpAny _ _ (Builtin.SmallTypes.nextOf (.ref i1) >>= _) _ _ _
  refine wpAny_bind (nextOf_range_end hh (s1.extBut _ _ D.a3 h1) (by omega) fun g2 e s2 he => ?_)
  obtain ⟨oe, hoe, hce⟩ := he
  have z2 : IsZip g2 z TI TO .ellipsis := s2 _ _ D.a3.symm z1
  have hez : e ≠ z := fun x => by subst x; rw [z2] at hoe; cases hoe; simp at hce
  refine wpAny_setField_rec z2 (by simp) fun g3 _ s3 => hE g3 e (fun b o c1 _ c3 _ x => s3.extBut _ _ c1 (s2 _ _ c3 (s1.extBut _ _ c1 x))) ?_ ⟨oe, s3.extBut _ _ hez hoe, hce⟩
  exact h2.at fun o x => s3.extBut _ _ D.a4 (s2 _ _ D.b1.symm (s1.extBut _ _ D.a4 x))
end
end Mine

-- R8
namespace Mine
section
variable {prog : Program} {w : World} {A : Around} {E : Value → Shared → Prop} {s : Shared}
theorem zr_next {z TI TO i1 i2 l : Addr} {a c : Int} {n i : Nat} {ys : Array Value} {y : Value} {Q : Option Value → Shared → Prop} (D : ZR z TI TO i1 i2 l) (hi : i < n) (hy : ys[i]? = some y) (st : ZSt z TI TO i1 i2 l a c n ys .none i s.heap)
    (hQ : ∀ h' t, ZSt z TI TO i1 i2 l a c n ys (rawInt s.heap.objs.size) (i + 1) h' → IsPair h' s.heap.objs.size (.int (a + i * c) t) y → h'.objs.size = s.heap.objs.size + 1 →
      (∀ b o, b ≠ z → b ≠ TO → b ≠ i1 → b ≠ i2 → s.heap.get? b = some o → h'.get? b = some o) → Q (some (.ref s.heap.objs.size)) { s with heap := h', toks := s.toks + 1 }) :
    wpAny (model prog w) A (pyNext (.ref z)) Q E s := by
  have hT : s.TypeIs (.ref z) "zip" := ⟨_, st.1, rfl⟩
  unfold pyNext
  exact wpAny_bind (wpAny_attempt (wpAny_callSpecial?_slot (name := Str.ofString "__next__") hT PySem.F.slot_zip_next
    (wpAny_call_entry PySem.F.slot_zip_next hT PySem.F.entry_zip_next (zr_item D hi hy st fun h' t a1 a2 a3 a4 => wpAny_pure (hQ h' t a1 a2 a3 a4)) (PySem.F.args_zip_next_1 _))))
theorem zr_done {z TI TO i1 i2 l : Addr} {a c : Int} {n : Nat} {ys : Array Value} {Q : Option Value → Shared → Prop} (hh : A.handled = none) (D : ZR z TI TO i1 i2 l) (st : ZSt z TI TO i1 i2 l a c n ys .none n s.heap)
    (hQ : ∀ h', (∀ b o, b ≠ z → b ≠ TO → b ≠ i1 → b ≠ i2 → s.heap.get? b = some o → h'.get? b = some o) → h'.IsListIter i2 l n → Q none { s with heap := h' }) :
    wpAny (model prog w) A (pyNext (.ref z)) Q E s := by
  have hT : s.TypeIs (.ref z) "zip" := ⟨_, st.1, rfl⟩
  unfold pyNext
  refine wpAny_bind (wpAny_attempt (wpAny_callSpecial?_slot (name := Str.ofString "__next__") hT PySem.F.slot_zip_next
    (wpAny_call_entry PySem.F.slot_zip_next hT PySem.F.entry_zip_next (zr_end hh D st fun h' e hk hi he => ?_) (PySem.F.args_zip_next_1 _))))
  obtain ⟨o, ho, hc⟩ := he
  refine wpAny_bind (wpAny_isInstance (T := "StopIteration") (b := true) ⟨o, ho, hc⟩ isSubtype_stop ?_)
  exact wpAny_pure (hQ _ hk hi)
theorem zr_go {z TI TO i1 i2 l T : Addr} {a c : Int} {n i : Nat} {ys : Array Value} {elts : List Expr} {k : Nat} {pos : Pos} {Q : Unit → Shared → Prop} (D : ZR z TI TO i1 i2 l) (st : ZSt z TI TO i1 i2 l a c n ys (rawInt T) i s.heap)
    (hQ : ∀ h', ZSt z TI TO i1 i2 l a c n ys .none i h' → Heap.SameBut z s.heap h' → Q () { s with heap := h' }) :
    wpAny (model prog w) A (letOwnedTupleGo (.Tuple elts k pos) (.ref z) (.ref T)) Q E s := by
  obtain ⟨hz, hTI, ⟨u, v, hTO⟩, h1, h2, hl⟩ := st
  exact wpAny_letOwnedTupleGo_zip hz fun h' hz' hs' => hQ h' ⟨hz', hs'.extBut _ _ D.a1 hTI, ⟨_, _, hs'.extBut _ _ D.a2 hTO⟩, hs'.extBut _ _ D.a3 h1, h2.extBut hs'.extBut D.a4, hl.extBut hs'.extBut D.b2⟩ hs'
end
abbrev zA (h : Heap) (a n c : Int) : Heap := h.push (rangeItObj a n c)
abbrev zB (h : Heap) (I : Addr) (a n c : Int) : Heap := (zA h a n c).push { cls := .type "tuple", data := .seq #[.ref h.objs.size, .ref I] }
abbrev zC (h : Heap) (I : Addr) (a n c : Int) : Heap := (zB h I a n c).push { cls := .type "tuple", data := .seq #[.none, .none] }
abbrev zD (h : Heap) (I : Addr) (a n c : Int) : Heap := (zC h I a n c).push { cls := .type "zip", data := .fields #[.none, .bool false, .bool false, .ref (zA h a n c).objs.size, .ref (zB h I a n c).objs.size] }
theorem meets_zr (r I l : Addr) (k : Nat) (a b c : Int) (t u v : Tok) (hs : Builtin.Range.small a b c = true) :
    Meets (Builtin.«zip.__new__» ⟨[.type "zip", .ref r, .ref I], []⟩) (fun _ R s => IsRange s.heap r a b c t u v ∧ s.heap.IsListIter I l k ∧
      R (.ok (.ret (.ref (zC s.heap I a (Builtin.Range.rangeSize a b c) c).objs.size))) { s with heap := zD s.heap I a (Builtin.Range.rangeSize a b c) c }) :=
  .of_wp fun prog w A R s h => by
    obtain ⟨hp, g, d, tk, os⟩ := s; obtain ⟨hr, hi, h⟩ := h
    have hsub := sub_zip
    have hL1 : IsRange (Shared.heap ⟨hp, g, d, tk, os⟩) r a b c t u v := hr
    have hL2 : Heap.IsListIter (Shared.heap ⟨hp.push { cls := .type "range_iterator", data := .fields #[rawInt a, rawInt (Builtin.Range.rangeSize a b c), rawInt c] }, g, d, tk, os⟩) I l k := hi.at fun o e => Heap.get?_push_of_some _ e
    wp_walk using wpAny_pyIter_range hL1 hs, wpAny_pyIter_listiter hL2
    exact ⟨_, rfl, h⟩
section
variable {prog : Program} {w : World} {A : Around} {E : Value → Shared → Prop} {s : Shared}
theorem call_zr {r I l : Addr} {k : Nat} {a b c : Int} {t u v : Tok} {Q : Value → Shared → Prop} (hs : Builtin.Range.small a b c = true) (hr : IsRange s.heap r a b c t u v) (hi : s.heap.IsListIter I l k)
    (h : ∀ h' z TI TO i1, h' = zD s.heap I a (Builtin.Range.rangeSize a b c) c → i1 = s.heap.objs.size → TI = s.heap.objs.size + 1 → TO = s.heap.objs.size + 2 → z = s.heap.objs.size + 3 →
      IsZip h' z TI TO .none → IsPair h' TI (.ref i1) (.ref I) → IsPair h' TO .none .none → IsRangeIter h' i1 a (Builtin.Range.rangeSize a b c) c → (∀ b o, s.heap.get? b = some o → h'.get? b = some o) → Q (.ref z) { s with heap := h' }) :
    wpAny (model prog w) A (call (.type "zip") [.ref r, .ref I]) Q E s := by
  refine callType_new PySem.F.called_zip (by decide) (PySem.F.typeCall_zip_2 _ _) (PySem.F.newCall_zip_2 _ _) (fun obj => PySem.F.args_object_init_3 obj _ _) PySem.F.entry_zip_new
    (meets_zr r I l k a b c t u v hs) ⟨hr, hi, ?_⟩
  generalize hn : Builtin.Range.rangeSize a b c = n at h ⊢
  have y1 : (zA s.heap a n c).objs.size = s.heap.objs.size + 1 := Heap.size_push ..
  have y2 : (zB s.heap I a n c).objs.size = s.heap.objs.size + 2 := by rw [Heap.size_push, y1]
  have y3 : (zC s.heap I a n c).objs.size = s.heap.objs.size + 3 := by rw [Heap.size_push, y2]
  have g4 : (zD s.heap I a n c).get? (zC s.heap I a n c).objs.size = some _ := Heap.get?_push_size _ rfl
  have g3 : (zD s.heap I a n c).get? (zB s.heap I a n c).objs.size = some _ := Heap.get?_push_of_some _ (Heap.get?_push_size _ rfl)
  have g2 : (zD s.heap I a n c).get? (zA s.heap a n c).objs.size = some _ := Heap.get?_push_of_some _ (Heap.get?_push_of_some _ (Heap.get?_push_size _ rfl))
  have g1 : (zD s.heap I a n c).get? s.heap.objs.size = some _ := Heap.get?_push_of_some _ (Heap.get?_push_of_some _ (Heap.get?_push_of_some _ (Heap.get?_push_size _ rfl)))
  show _ ∧ _
  rw [y1, y2, y3] at g4
  rw [y2] at g3
  rw [y1] at g2
  rw [y3]
  exact ⟨⟨_, g4, rfl⟩, h _ _ _ _ _ rfl rfl rfl rfl rfl g4 g2 g3 g1 fun b o x =>
    Heap.get?_push_of_some _ (Heap.get?_push_of_some _ (Heap.get?_push_of_some _ (Heap.get?_push_of_some _ x)))⟩
end
end Mine

-- R9
namespace Mine
def pairO (x y : Value) : Obj := { cls := .type "tuple", data := .seq #[x, y] }
def ZT (ys : Array Value) (a c : Int) (i : Nat) (tups : List (Addr × Obj)) : Prop :=
  tups.length = i ∧ ∀ j, j < i → ∃ p v t, tups[j]? = some p ∧ ys[j]? = some v ∧ p.2 = pairO v (.int (a + j * c) t)
theorem ZT.snoc {ys : Array Value} {a c : Int} {i : Nat} {tups : List (Addr × Obj)} (h : ZT ys a c i tups) {p : Addr × Obj} {v : Value} {t : Tok} (hv : ys[i]? = some v) (hp : p.2 = pairO v (.int (a + i * c) t)) : ZT ys a c (i + 1) (tups ++ [p]) := by
  refine ⟨by rw [List.length_append, h.1]; rfl, fun j hj => ?_⟩
  by_cases e : j < i
  · obtain ⟨q, u, t', h1, h2, h3⟩ := h.2 j e
    exact ⟨q, u, t', by rw [List.getElem?_append_left (by rw [h.1]; exact e)]; exact h1, h2, h3⟩
  · have : j = i := by omega
    subst this
    exact ⟨p, v, t, by rw [← h.1]; simp, hv, hp⟩
theorem ZSt.keep {z TI TO i1 i2 l : Addr} {a c : Int} {n i : Nat} {ys : Array Value} {f0 : Value} {h h' : Heap} {B : Nat} (st : ZSt z TI TO i1 i2 l a c n ys f0 i h) (b1 : z < B) (b2 : TI < B) (b3 : TO < B) (b4 : i1 < B) (b5 : i2 < B) (b6 : l < B)
    (hk : ∀ b o, b < B → h.get? b = some o → h'.get? b = some o) : ZSt z TI TO i1 i2 l a c n ys f0 i h' := by
  obtain ⟨hz, hTI, ⟨u, v, hTO⟩, h1, h2, hl⟩ := st
  exact ⟨hk _ _ b1 hz, hk _ _ b2 hTI, ⟨u, v, hk _ _ b3 hTO⟩, hk _ _ b4 h1, h2.at fun o e => hk _ o b5 e, hl.at fun o e => hk _ o b6 e⟩
section
variable {prog : Program} {w : World} {A : Around} {E : Value → Shared → Prop} {s : Shared} {env : Env} {h₀ : Heap} {L : Addr} {m : Str → Option Value}
theorem eval_pair {x y : Str} {px py tp : Pos} {k : Nat} {vx vy : Value} {mm : Str → Option Value} {Q : Value → Shared → Prop} (hk : env.scope.kind = .function) (hx : env.kindOf x = some .local) (hy : env.kindOf y = some .local)
    (dx : (x == ("__debug__" : Str)) = false) (dy : (y == ("__debug__" : Str)) = false) (hn : s.heap.Ns env.locals mm) (ex : mm x = some vx) (ey : mm y = some vy)
    (hQ : Q (.ref s.heap.objs.size) { s with heap := s.heap.push (pairO vx vy) }) (e1 : starEach [.Name x px, .Name y py] env = (false, eval (.Name x px) env) :: starEach [.Name y py] env := by rfl) (e2 : starEach [.Name y py] env = (false, eval (.Name y py) env) :: starEach [] env := by rfl) :
    wpAny (model prog w) A (eval (.Tuple [.Name x px, .Name y py] k tp) env) Q E s := by
  refine wpAny_Tuple (wpAny_items_cons (he := e1) (wpAny_Name (hd := dx) (wpAny_loadName_local hk hx hn ex ?_)))
  refine wpAny_items_cons (he := e2) (wpAny_Name (hd := dy) (wpAny_loadName_local hk hy hn ey ?_))
  exact wpAny_items_nil ⟨Nat.le_of_ble_eq_true rfl, hQ⟩

def ZFin (h₀ : Heap) (L : Addr) (m : Str → Option Value) (s : Shared) (y : Str) (i2 l : Addr) (a c : Int) (n : Nat) (ys : Array Value) (news : List (Addr × Obj)) (Q : Flow → Shared → Prop) : Prop :=
  ∀ D oI h' tk tups, Fr h₀ L h' (fun q => if q = y then some (.ref D) else m q) → News h₀ L h' ((D, LO (tups.map fun p => .ref p.1) n) :: (i2, oI) :: (tups ++ news)) → h'.IsListIter i2 l n → ZT ys a c n tups →
    (∀ p ∈ tups, D < p.1) → (∀ p ∈ news, p.1 < D) → i2 < D → Q .next { s with heap := h', toks := tk }
def ZSrc (h₀ : Heap) (L : Addr) (m : Str → Option Value) (y : Str) (Q : Flow → Shared → Prop) (xv : Value) (s₁ : Shared) : Prop :=
  ∃ z TI TO i1 i2 l a c n ys oI news, xv = .ref z ∧ ZR z TI TO i1 i2 l ∧ ZSt z TI TO i1 i2 l a c n ys .none 0 s₁.heap ∧ Fr h₀ L s₁.heap m ∧ News h₀ L s₁.heap ((i2, oI) :: news) ∧
    (∀ p ∈ news, p.1 ≠ z ∧ p.1 ≠ TO ∧ p.1 ≠ i1 ∧ p.1 ≠ i2) ∧ (L ≠ z ∧ L ≠ TO ∧ L ≠ i1 ∧ h₀.get? z = none ∧ h₀.get? TO = none ∧ h₀.get? i1 = none) ∧ n ≤ ys.size ∧ n ≤ sizeLine ∧ ZFin h₀ L m s₁ y i2 l a c n ys news Q

theorem assign_zr {iter : Expr} {x x₂ y : Str} {px px₂ py tp qx qx₂ qp : Pos} {tk k : Nat} {scope : Scope} {cl : List (Str × Addr)} {pos spos : Pos} {Q : Flow → Shared → Prop} (hh : A.handled = none) (_F₀ : Fr h₀ L s.heap m) (hLe : env.locals = L)
    (hsw : swapsWith (.ListComp (.Tuple [.Name x₂ qx₂, .Name x qx] k qp) [⟨.Tuple [.Name x px, .Name x₂ px₂] tk tp, iter, [], 0⟩] scope pos) (some (.Name y py)) spos.line env = pure true)
    (hclos : closureFor scope env = pure cl) (hcell : ∀ q ∈ scope.names, q.2 ≠ .cell) (hkind : scope.kind = .function)
    (hnames : ∀ q ∈ scope.names, q.2 = .local → scope.names.lookup q.1 = some .local) (hx : scope.names.lookup x = some .local) (hx₂ : scope.names.lookup x₂ = some .local) (hxx : x ≠ x₂)
    (hy : env.kindOf y = some .local) (hp : (env.scope.kind == .class || (env.scope.kind == .module && env.locals != env.globals)) = false)
    (dx : (x == ("__debug__" : Str)) = false) (dx₂ : (x₂ == ("__debug__" : Str)) = false)
    (h : wpAny (model prog w) A (eval iter env) (ZSrc h₀ L m y Q) E s)
    (hs : ∀ v, foldedSetIterable iter env v = pure v := by intro _; rfl) :
    wpAny (model prog w) A (exec (.Assign [.Name y py] (.ListComp (.Tuple [.Name x₂ qx₂, .Name x qx] k qp) [⟨.Tuple [.Name x px, .Name x₂ px₂] tk tp, iter, [], 0⟩] scope pos) spos) env) Q E s := by
  subst hLe
  rw [exec_Assign_Name_used _ _ _ _ hsw]
  refine wpAny_bind (wpAny_standAt (wpAny_bind ?_))
  show wpAny _ A (do let _ ← comprehension (.ListComp (.Tuple [.Name x₂ qx₂, .Name x qx] k qp) [⟨.Tuple [.Name x px, .Name x₂ px₂] tk tp, iter, [], 0⟩] scope pos) scope env _ (newList []) false (eval iter env) (some (assign (.Name y py) env))) _ _ s
  refine wpAny_bind (wpAny_mono (wpAny_comprehension_free (use := some (assign (.Name y py) env)) (Q := fun _ s' => Q .next s') rfl hs hclos hkind hnames
    (wpAny_mono h (fun xv s₁ h₁ => ?_) fun _ _ e => e)) (fun _ s' hq => wpAny_pure (wpAny_pure hq)) fun _ _ e => e)
  obtain ⟨z, TI, TO, i1, i2, l, a, c, n, ys, oI, news, rfl, D, st, F, N, off, ⟨l1, l2, l3, n1, n2, n3⟩, hn, hsz, fin⟩ := h₁
  refine wpAny_pyIter_zip st.1 ?_
  refine wpAny_newObj_type (wpAny_newFunctionEnv hcell (by intro q hq; simp at hq) (fun g0 hns0 hsb0 => ?_) hkind)
  dsimp only at hns0 hsb0 ⊢
  generalize hH2 : s₁.heap.push { cls := .type "list", dict := none, data := .seq ([] : List Value).toArray } = H2 at hns0 hsb0 ⊢
  obtain ⟨B, hB⟩ : ∃ B, s₁.heap.objs.size = B := ⟨_, rfl⟩
  have hC : H2.objs.size = B + 1 := by rw [← hH2, Heap.size_push, hB]
  rw [hC] at hns0 hsb0 ⊢
  rw [hB]
  have lt : ∀ {b o}, s₁.heap.get? b = some o → b < B := fun e => hB ▸ Heap.lt_size e
  obtain ⟨oi2, hoi2, _⟩ := id st.2.2.2.2.1
  obtain ⟨ol, hol, _⟩ := id st.2.2.2.2.2
  obtain ⟨uu, vv, hTO⟩ := id st.2.2.1
  have bz := lt st.1
  have bTI := lt st.2.1
  have bTO := lt hTO
  have b1 := lt st.2.2.2.1
  have b2 := lt hoi2
  have bl := lt hol
  have bL : env.locals < B := hB ▸ F.ns.lt
  have old : ∀ b o, b < B → s₁.heap.get? b = some o → g0.get? b = some o := fun b o hb e => hsb0.extBut b o (Nat.ne_of_lt (Nat.lt_succ_of_lt hb)) (Heap.get?_push_of_some _ (hH2 ▸ Heap.get?_push_of_some _ e))
  have hD0 : g0.get? B = some (LO [] 0) := hsb0.extBut _ _ (Nat.ne_of_lt (Nat.lt_succ_self _)) (Heap.get?_push_of_some _ (hH2 ▸ hB ▸ Heap.get?_push_size _ rfl))
  have freshB : ∀ b, B ≤ b → h₀.get? b = none := fun b hb => Heap.get?_none_of_le (Nat.le_trans F.above (Nat.le_of_lt (Nat.lt_of_lt_of_le bL hb)))
  have loop : ∀ s₃ : Shared, s₃ = { s₁ with heap := g0, toks := s₁.toks + ([] : List (Str × Value)).length } →
      codeAny (model prog w) A (.compLoop (.ListComp (.Tuple [.Name x₂ qx₂, .Name x qx] k qp) [⟨.Tuple [.Name x px, .Name x₂ px₂] tk tp, iter, [], 0⟩] scope pos) 0 (.ref z) (.ref B) (compEnvC scope cl (B + 1) env))
        (compPost (model prog w) A E (some (assign (.Name y py) env)) (fun _ s' => Q .next s') (.ref B) (B + 1)) s₃ := by
    rintro s₃ rfl
    refine kcp_loop (fun kk s' => ∃ h' tt i tups m', s' = { s₁ with heap := h', toks := tt } ∧ i ≤ n ∧ kk = n + 1 - i ∧ ZSt z TI TO i1 i2 l a c n ys .none i h' ∧
        (∀ b o, b < B → b ≠ z → b ≠ TO → b ≠ i1 → b ≠ i2 → s₁.heap.get? b = some o → h'.get? b = some o) ∧ h'.Ns (B + 1) m' ∧ h'.get? B = some (LO (tups.map fun p => .ref p.1) i) ∧ (∀ p ∈ tups, h'.get? p.1 = some p.2 ∧ B + 1 < p.1) ∧ ZT ys a c i tups) ?_ (n + 1)
      ⟨g0, _, 0, [], _, rfl, Nat.zero_le _, rfl, st.keep bz bTI bTO b1 b2 bl old, fun b o hb _ _ _ _ e => old b o hb e, hns0, hD0, fun p hp => (nomatch hp), ⟨rfl, fun j hj => absurd hj (Nat.not_lt_zero _)⟩⟩
    rintro kk s' ⟨g, tt, i, tups, m', rfl, hi, rfl, st', base, hns, hD, ht, hz⟩
    have hCg : B + 1 < g.objs.size := hns.lt
    by_cases hlt : i < n
    · have hys : ys[i]? = some ys[i] := Array.getElem?_eq_getElem (Nat.lt_of_lt_of_le hlt hn)
      refine zr_next D hlt hys st' fun g2 t st2 hp2 hs2 k2 => ?_
      refine zr_go D st2 fun g3 st3 s3 => ?_
      have T3 : g3.IsTuple g.objs.size #[.int (a + i * c) t, ys[i]] := ⟨_, s3.extBut _ _ (Nat.ne_of_gt (Nat.lt_trans bz (Nat.lt_trans (Nat.lt_succ_self _) hCg))) hp2, rfl, _, rfl⟩
      have big : ∀ b, B ≤ b → b ≠ z ∧ b ≠ TO ∧ b ≠ i1 ∧ b ≠ i2 := fun b hb => ⟨Nat.ne_of_gt (Nat.lt_of_lt_of_le bz hb), Nat.ne_of_gt (Nat.lt_of_lt_of_le bTO hb), Nat.ne_of_gt (Nat.lt_of_lt_of_le b1 hb), Nat.ne_of_gt (Nat.lt_of_lt_of_le b2 hb)⟩
      have up3 : ∀ b o, b ≠ z → b ≠ TO → b ≠ i1 → b ≠ i2 → g.get? b = some o → g3.get? b = some o := fun b o c1 c2 c3 c4 e => s3.extBut _ _ c1 (k2 b o c1 c2 c3 c4 e)
      have up3' : ∀ b o, B ≤ b → g.get? b = some o → g3.get? b = some o := fun b o hb e => let q := big b hb; up3 b o q.1 q.2.1 q.2.2.1 q.2.2.2 e
      refine kcp_assign hh T3 (lookup_relabel_local hx) (lookup_relabel_local hx₂) (by simp [compEnvC, relabel, hkind]) (hns.at fun o e => up3' _ o (Nat.le_succ _) e) fun g4 t4 hns4 k4 => ?_
      refine eval_pair (by simp [compEnvC, relabel, hkind]) (lookup_relabel_local hx₂) (lookup_relabel_local hx) dx₂ dx hns4 (vx := ys[i]) (vy := .int (a + i * c) t) (by simp) (by simp [hxx]) ?_ (by rfl) (by rfl)
      have h4 : B + 1 < g4.objs.size := hns4.lt
      have upD : ∀ b o, B ≤ b → b ≠ B + 1 → g.get? b = some o → (g4.push (pairO ys[i] (.int (a + i * c) t))).get? b = some o := fun b o hb c1 e => Heap.get?_push_of_some _ (k4 b o c1 (up3' b o hb e))
      refine append_at (hsz := by simp; rw [hz.1]; omega) (upD _ _ (Nat.le_refl _) (Nat.ne_of_lt (Nat.lt_succ_self _)) hD) fun g5 s5 hD5 => ?_
      refine ⟨n + 1 - (i + 1), by omega, g5, t4, i + 1, tups ++ [(g4.objs.size, pairO ys[i] (.int (a + i * c) t))], _, rfl, hlt, rfl, ?_, ?_, hns4.at fun o e => s5.extBut _ _ (Nat.ne_of_gt (Nat.lt_succ_self _)) (Heap.get?_push_of_some _ e), ?_, ?_, hz.snoc hys rfl⟩
      · exact st3.keep bz bTI bTO b1 b2 bl fun b o hb e => s5.extBut _ _ (Nat.ne_of_lt hb) (Heap.get?_push_of_some _ (k4 b o (Nat.ne_of_lt (Nat.lt_succ_of_lt hb)) e))
      · intro b o hb c1 c2 c3 c4 e
        exact s5.extBut _ _ (Nat.ne_of_lt hb) (Heap.get?_push_of_some _ (k4 b o (Nat.ne_of_lt (Nat.lt_succ_of_lt hb)) (up3 b o c1 c2 c3 c4 (base b o hb c1 c2 c3 c4 e))))
      · rw [hD5]; simp [LO, PySem.W.listOf]
      · intro p hp
        rcases List.mem_append.mp hp with hp | hp
        · have q := ht p hp
          exact ⟨s5.extBut _ _ (Nat.ne_of_gt (Nat.lt_trans (Nat.lt_succ_self _) q.2)) (upD _ _ (Nat.le_of_lt (Nat.lt_trans (Nat.lt_succ_self _) q.2)) (Nat.ne_of_gt q.2) q.1), q.2⟩
        · rw [List.mem_singleton.mp hp]
          exact ⟨s5.extBut _ _ (Nat.ne_of_gt (Nat.lt_trans (Nat.lt_succ_self _) h4)) (Heap.get?_push_size _ rfl), h4⟩
    · obtain rfl : i = n := Nat.le_antisymm hi (Nat.not_lt.mp hlt)
      refine zr_done hh D st' fun g2 k2 hi2 => ?_
      have big : ∀ b, B ≤ b → b ≠ z ∧ b ≠ TO ∧ b ≠ i1 ∧ b ≠ i2 := fun b hb => ⟨Nat.ne_of_gt (Nat.lt_of_lt_of_le bz hb), Nat.ne_of_gt (Nat.lt_of_lt_of_le bTO hb), Nat.ne_of_gt (Nat.lt_of_lt_of_le b1 hb), Nat.ne_of_gt (Nat.lt_of_lt_of_le b2 hb)⟩
      have up2 : ∀ b o, B ≤ b → g.get? b = some o → g2.get? b = some o := fun b o hb e => let q := big b hb; k2 b o q.1 q.2.1 q.2.2.1 q.2.2.2 e
      have L2 : env.locals ≠ i2 := Ne.symm (N _ (.head _)).2.1
      have hnL : g2.Ns env.locals m := F.ns.at fun o e => k2 _ o l1 l2 l3 L2 (base _ o bL l1 l2 l3 L2 e)
      show wpAny _ A (assign (.Name y py) env (.ref B)) _ _ _
      refine wpAny_assign_Name (wpAny_storeName_local hy hnL (fun g3 hn3 s3 => ?_) hp)
      have hnC : g2.Ns (B + 1) m' := hns.at fun o e => up2 _ o (Nat.le_succ _) e
      refine ⟨m', hnC.sameBut s3 (Nat.ne_of_gt (Nat.lt_succ_of_lt bL)), fun g4 s4 => ?_⟩
      have up4 : ∀ b o, b ≠ env.locals → b ≠ B + 1 → g2.get? b = some o → g4.get? b = some o := fun b o c1 c2 e => s4.extBut _ _ c2 (s3.extBut _ _ c1 e)
      obtain ⟨oI2, hoI2, cI, dI⟩ := id hi2
      have d2 : i2 ≠ B + 1 := Nat.ne_of_lt (Nat.lt_succ_of_lt b2)
      refine fin B oI2 g4 _ tups ⟨hn3.at fun o e => s4.extBut _ _ (Nat.ne_of_lt (Nat.lt_succ_of_lt bL)) e, fun b o e => ?_, F.above⟩ ?_ ⟨oI2, up4 _ _ (Ne.symm L2) d2 hoI2, cI, dI⟩ hz (fun p hp => Nat.lt_trans (Nat.lt_succ_self _) (ht p hp).2) (fun p hp => lt (N _ (.tail _ hp)).1) b2
      · have hb : b < B := Nat.lt_trans (Nat.lt_of_lt_of_le (Heap.lt_size e) F.above) bL
        have c0 : ∀ {q}, h₀.get? q = none → b ≠ q := fun x q => by rw [q, x] at e; cases e
        have c1 := c0 n1
        have c2 := c0 n2
        have c3 := c0 n3
        have c4 := c0 (N _ (.head _)).2.2
        exact up4 b o (Nat.ne_of_lt (Nat.lt_of_lt_of_le (Heap.lt_size e) F.above)) (Nat.ne_of_lt (Nat.lt_succ_of_lt hb)) (k2 b o c1 c2 c3 c4 (base b o hb c1 c2 c3 c4 (F.keep b o e)))
      · intro p hp
        rcases List.mem_cons.mp hp with rfl | hp
        · exact ⟨up4 _ _ (Nat.ne_of_gt bL) (Nat.ne_of_lt (Nat.lt_succ_self _)) (up2 _ _ (Nat.le_refl _) hD), Nat.ne_of_gt bL, freshB _ (Nat.le_refl _)⟩
        rcases List.mem_cons.mp hp with rfl | hp
        · exact ⟨up4 _ _ (Ne.symm L2) d2 hoI2, Ne.symm L2, (N (i2, oI) (.head _)).2.2⟩
        rcases List.mem_append.mp hp with hp | hp
        · have q := ht p hp
          have q1 : B < p.1 := Nat.lt_trans (Nat.lt_succ_self _) q.2
          exact ⟨up4 _ _ (Nat.ne_of_gt (Nat.lt_trans bL q1)) (Nat.ne_of_gt q.2) (up2 _ _ (Nat.le_of_lt q1) q.1), Nat.ne_of_gt (Nat.lt_trans bL q1), freshB _ (Nat.le_of_lt q1)⟩
        · have q := N p (.tail _ hp)
          have o' := off p hp
          have q1 := lt q.1
          exact ⟨up4 _ _ q.2.1 (Nat.ne_of_lt (Nat.lt_succ_of_lt q1)) (k2 _ _ o'.1 o'.2.1 o'.2.2.1 o'.2.2.2 (base _ _ q1 o'.1 o'.2.1 o'.2.2.1 o'.2.2.2 q.1)), q.2⟩
  refine codeAny_compStart_list (loop _ rfl) (wpAny_pyIter_zip (old _ _ bz st.1) (loop _ rfl))
theorem zr_src {r I l : Addr} {nn : Nat} {vs : List Value} {t u v : Tok} {news : List (Addr × Obj)} {y : Str} {Q : Flow → Shared → Prop} (F : Fr h₀ L s.heap m) (N : News h₀ L s.heap ((I, itObj l) :: news)) (hl : (l, LO vs nn) ∈ news)
    (hoI : ∀ p ∈ news, p.1 ≠ I) (hr : IsRange s.heap r 0 (-3) (-1) t u v) (h3 : 3 ≤ vs.length) (fin : ∀ h', ZFin h₀ L m { s with heap := h' } y I l 0 (-1) 3 vs.toArray news Q) :
    wpAny (model prog w) A (call (.type "zip") [.ref r, .ref I]) (ZSrc h₀ L m y Q) E s := by
  have hI := N _ (.head _)
  have hL := N _ (.tail _ hl)
  refine call_zr (l := l) (k := 0) (by rfl) hr ⟨_, hI.1, rfl, rfl⟩ ?_
  intro h' z TI TO i1 e0 e1 e2 e3 e4 hz hTI hTO h1 hk
  have lt : ∀ {b o}, s.heap.get? b = some o → b < s.heap.objs.size := fun e => Heap.lt_size e
  have bI := lt hI.1
  have bl := lt hL.1
  have bL := F.ns.lt
  have hlI : l ≠ I := fun e => by subst e; have q2 := congrArg Obj.cls (News.uniq N (.head _) (.tail _ hl)); injection q2 with q3; exact absurd q3 (by decide)
  have fresh : ∀ b, s.heap.objs.size ≤ b → h₀.get? b = none := fun b hb => Heap.get?_none_of_le (Nat.le_trans F.above (Nat.le_of_lt (Nat.lt_of_lt_of_le bL hb)))
  obtain ⟨B, hB⟩ : ∃ B : Nat, s.heap.objs.size = B := ⟨_, rfl⟩
  rw [hB] at e1 e2 e3 e4 bI bl bL fresh
  have bI' : @LT.lt Nat _ I B := bI
  have bl' : @LT.lt Nat _ l B := bl
  have bL' : @LT.lt Nat _ L B := bL
  have hlt : ∀ p ∈ news, @LT.lt Nat _ p.1 B := fun p hp => hB ▸ lt (N _ (.tail _ hp)).1
  have ne : ∀ {a b : Addr}, @Ne Nat a b → a ≠ b := fun h => h
  refine ⟨z, TI, TO, i1, I, l, 0, -1, 3, vs.toArray, itObj l, news, rfl, ?_, ⟨hz, hTI, ⟨_, _, hTO⟩, by simpa [show Builtin.Range.rangeSize 0 (-3) (-1) = 3 from rfl] using h1, ⟨_, hk _ _ hI.1, rfl, rfl⟩, ⟨_, hk _ _ hL.1, rfl, _, rfl⟩⟩, F.kept hk, fun p hp => ⟨hk _ _ (N p hp).1, (N p hp).2⟩, ?_, ?_, by simpa using h3, by rw [sizeLine_eq]; decide, fin _⟩
  · subst e1; subst e2; subst e3; subst e4
    exact ⟨ne (by omega), ne (by omega), ne (by omega), ne (by omega), ne (by omega), ne (by omega), ne (by omega), ne (by omega), ne (by omega), ne (by omega), ne (by omega), ne (by omega), ne (by omega), hlI⟩
  · intro p hp
    have q := hlt p hp
    subst e1; subst e3; subst e4
    exact ⟨ne (by omega), ne (by omega), ne (by omega), hoI p hp⟩
  · subst e1; subst e3; subst e4
    exact ⟨ne (by omega), ne (by omega), ne (by omega), fresh _ (Nat.le_add_right _ _), fresh _ (Nat.le_add_right _ _), fresh _ (Nat.le_refl _)⟩
end
end Mine

-- C1
namespace Mine
theorem fillme (w : World) : (hd.heap_39 w.params) = (hd.heap_39 w.params) ∧ PySem.Challenge.rw_kl0171_01 = PySem.Challenge.rw_kl0171_01 := by
  k_fill
  exact ⟨rfl, rfl⟩

def LtIs (prog : Program) (w : World) (facts : List (Addr × Obj)) (v u : Value) (b : Bool) : Prop :=
  ∀ (A : Around) (s : Shared) (Q : Value → Shared → Prop) (E : Value → Shared → Prop), A.units + 40 < cLine → A.handled = none → (∀ p ∈ facts, s.heap.get? p.1 = some p.2) → (∀ tk, Q (.bool b) { s with toks := tk }) →
    wpAny (model prog w) A (compareOp .Lt v u) Q E s

local macro_rules | `(tactic| walk_at "MY enter") => `(tactic| (
  (case ho => k_dflt k_is); (case hcd => k_dflt k_is); (case hroom => omega); (case hbind => exact BindsTo.of_eq rfl); (case hloc => rfl); (case hco => rfl); (case hgen => rfl); (case hk => rfl); (case hcell => decide)))

def Stop (P : Prop) : Prop := P
theorem stop_intro {P : Prop} (h : Stop P) : P := h
local macro_rules | `(tactic| walk_at "exec While Compare cons nil") => `(tactic| refine stop_intro ?_)
local macro_rules | `(tactic| walk_at "MY names") => `(tactic| (simp only [List.forall_mem_cons, List.not_mem_nil, false_implies, implies_true, and_true]; (repeat' apply And.intro) <;> first | rfl | assumption))
section
variable {prog : Program} {w : World}
theorem siftdown_call {A : Around} {h₀ : Heap} {L : Addr} {m : Str → Option Value} {s : Shared} {news : List (Addr × Obj)} {D : Addr} {its : List Value} {n : Nat} {start pos : Nat} {t1 t2 : Tok} {Q E : Value → Shared → Prop} {new : Value} {lt : Value → Value → Bool} {facts : List (Addr × Obj)}
   (C : Here w A h₀ L) (hdp : A.depth + 1 < recursionLimit) (hun : A.units + 60 < cLine) (F : Fr h₀ L s.heap m) (N : News h₀ L s.heap news)
   (hD : (D, LO its n) ∈ news) (hnew : its[pos]? = some new) (hsz : its.length < 2 ^ 20)
   (hlt : ∀ a ∈ its, ∀ b ∈ its, LtIs prog w facts a b (lt a b)) (hfa : ∀ p ∈ facts, p ∈ news ∧ p.1 ≠ D)
   (hQ : ∀ h' tk, Fr h₀ L h' m → News h₀ L h' (setL D (LO (Hp.sd lt new start pos its) n) news) → Q .none { s with heap := h', toks := tk }) :
   wpAny (model prog w) A (call (.ref 154) [.ref D, .int start t1, .int pos t2]) Q E s := by
  refine' enterK [("heap", .ref D), ("startpos", .int start t1), ("pos", .int pos t2)] C F N ?ho ?hcd ?hroom ?hbind ?hloc ?hco ?hgen ?hk ?hcell ?h
  walk_at "MY enter"
  intro g L' h₁ C' F' N' pm lt'
  obtain ⟨A₀, base, outer, env, p, loose, mean, mg, mb, B, X, T, hA, hf, hke⟩ := C'.ex
  have hpos : pos < its.length := (List.getElem?_eq_some_iff.mp hnew).1
  k_steps
  refine item_N N' hD pos rfl (by omega) hnew ?_
  k_steps
  unfold Stop
  refine while_N (σ := Nat × List Value × Tok) (fun c => [("heap", .ref D), ("startpos", .int start t1), ("pos", .int c.1 c.2.2), ("newitem", new)])
    (fun c nw => nw = setL D (LO c.2.1 n) news ∧ c.2.1.length = its.length ∧ c.1 < its.length ∧ Hp.sd lt new start c.1 c.2.1 = Hp.sd lt new start pos its ∧ ∀ a ∈ c.2.1, a ∈ its)
    (fun c nw => nw = setL D (LO c.2.1 n) news ∧ c.2.1.length = its.length ∧ c.1 < its.length ∧ c.2.1.set c.1 new = Hp.sd lt new start pos its)
    (fun c => c.1) (pos, its, t2) (by assumption) (by assumption) ⟨?a1, rfl, hpos, rfl, fun a h => h⟩ ?a2 ?turn ?done ?hE
  case a1 => exact (Mine.News.setL_self N hD).symm
  case a2 => walk_at "MY names"
  case hE => passes_own
  case turn =>
    rintro ⟨p, l, tp⟩ u h tk nw ⟨rfl, hl, hp, hsd, hin⟩ F1 N1
    dsimp only at *
    k_steps
    · rename_i hsp hF hN
      have hsp' : start < p := by omega
      have e : ((p : Int) - 1).fdiv (2 ^ Int.toNat 1) = (((p - 1) / 2 : Nat) : Int) := by
        rw [Int.fdiv_eq_ediv_of_nonneg _ (by decide)]
        have : (2 : Int) ^ Int.toNat 1 = 2 := by decide
        rw [this]; omega
      have hpar : l[(p - 1) / 2]? = some (l.getD ((p - 1) / 2) new) := Hp.getD_some (by omega)
      have hD1 : (D, LO l n) ∈ setL D (LO l n) news := mem_setL_self hD
      refine item_N hN hD1 ((p - 1) / 2) e (by omega) hpar ?_
      generalize hx : l.getD ((p - 1) / 2) new = x at *
      k_steps
      have hxin : x ∈ its := hin x (List.mem_of_getElem? hpar)
      have hnin : new ∈ its := List.mem_of_getElem? hnew
      rename_i hF hN
      refine hlt new hnin x hxin _ _ _ _ (by simp; omega) C'.hh (fun q hq => (hN _ (mem_setL_ne (hfa q hq).1 (hfa q hq).2)).1) fun tk' => ?_
      generalize hb : lt new x = b
      k_steps
      · rename_i hb' 
        refine set_N hF hN hD1 p rfl (by omega) (by omega) ?_
        intro h2 F2 N2
        k_steps
        rename_i hF2 hN2
        rw [setL_setL] at hN2
        refine' WX.intro ((p - 1) / 2, l.set p x, ?tk) hF2 hN2 ?j ?nm
        case nm => rw [← e]; walk_at "MY names"
        refine ⟨⟨rfl, by simpa using hl, by dsimp only; omega, ?_, ?_⟩, by dsimp only; omega⟩
        · rw [← hsd]
          conv => rhs; rw [Hp.sd]
          rw [if_pos hsp', hx, if_pos (by rw [hb, hb'])]
        · intro a ha
          rcases List.mem_or_eq_of_mem_set ha with h | h
          · exact hin a h
          · exact h ▸ hxin
      · rename_i hb'
        refine' WX.intro (p, l, ?tk2) hF hN ?j2 ?nm2
        case nm2 => walk_at "MY names"
        refine ⟨rfl, hl, hp, ?_⟩
        rw [← hsd]
        conv => rhs; rw [Hp.sd]
        rw [if_pos hsp', hx, if_neg (by rw [hb, hb']; decide)]
    · rename_i hsp
      refine' WX.intro (p, l, ?tk3) F1 N1 ?j3 ?nm3
      case nm3 => walk_at "MY names"
      refine ⟨rfl, hl, hp, ?_⟩
      rw [← hsd]
      conv => rhs; rw [Hp.sd]
      rw [if_neg (by omega)]
  case done =>
    rintro ⟨p, l, tp⟩ u h tk nw ⟨rfl, hl, hp, hsd⟩ F1 N1
    dsimp only at *
    k_steps
    refine set_N F1 N1 (mem_setL_self hD) p rfl (by omega) (by omega) ?_
    intro h2 F2 N2
    k_steps
    rw [setL_setL, hsd] at N2
    exact Ret.intro pm F2 N2 fun F3 N3 => hQ _ _ F3 N3
end
end Mine

-- C2
namespace Mine
theorem fillme2 (w : World) : (hd.heap_39 w.params) = (hd.heap_39 w.params) ∧ PySem.Challenge.rw_kl0171_01 = PySem.Challenge.rw_kl0171_01 := by
  k_fill
  exact ⟨rfl, rfl⟩
local macro_rules | `(tactic| walk_at "MY enter") => `(tactic| (
  (case ho => k_dflt k_is); (case hcd => k_dflt k_is); (case hroom => first | omega | (simp only [depth_deeper]; omega)); (case hbind => exact BindsTo.of_eq rfl); (case hloc => rfl); (case hco => rfl); (case hgen => rfl); (case hk => rfl); (case hcell => decide)))
local macro_rules | `(tactic| walk_at "exec While Compare cons nil") => `(tactic| refine stop_intro ?_)
local macro_rules | `(tactic| walk_at "call ref cons nil") => `(tactic| refine stop_intro ?_)
local macro_rules | `(tactic| walk_at "MY names") => `(tactic| (simp only [List.forall_mem_cons, List.not_mem_nil, false_implies, implies_true, and_true]; (repeat' apply And.intro) <;> first | rfl | assumption))
structure SU where
  p : Nat
  l : List Value
  z : Int
  y : Int
  tp : Tok
  tc : Tok
  te : Tok
section
variable {prog : Program} {w : World}
theorem siftup_call {A : Around} {h₀ : Heap} {L : Addr} {m : Str → Option Value} {s : Shared} {news : List (Addr × Obj)} {D : Addr} {its : List Value} {n : Nat} {pos : Nat} {t2 : Tok} {Q E : Value → Shared → Prop} {new : Value} {lt : Value → Value → Bool} {facts : List (Addr × Obj)}
   (C : Here w A h₀ L) (hdp : A.depth + 2 < recursionLimit) (hun : A.units + 70 < cLine) (F : Fr h₀ L s.heap m) (N : News h₀ L s.heap news)
   (hD : (D, LO its n) ∈ news) (hnew : its[pos]? = some new) (hsz : its.length < 2 ^ 20)
   (hlt : ∀ a ∈ its, ∀ b ∈ its, LtIs prog w facts a b (lt a b)) (hfa : ∀ p ∈ facts, p ∈ news ∧ p.1 ≠ D)
   (hQ : ∀ h' tk, Fr h₀ L h' m → News h₀ L h' (setL D (LO (Hp.su lt new pos pos its) n) news) → Q .none { s with heap := h', toks := tk }) :
   wpAny (model prog w) A (call (.ref 161) [.ref D, .int pos t2]) Q E s := by
  refine' enterK [("heap", .ref D), ("pos", .int pos t2)] C F N ?ho ?hcd ?hroom ?hbind ?hloc ?hco ?hgen ?hk ?hcell ?h
  walk_at "MY enter"
  intro g L' h₁ C' F' N' pm lt'
  obtain ⟨A₀, base, outer, env, p, loose, mean, mg, mb, B, X, T, hA, hf, hke⟩ := C'.ex
  have hpos : pos < its.length := (List.getElem?_eq_some_iff.mp hnew).1
  k_steps
  refine len_N (by assumption) hD (by omega) ?_
  k_steps
  refine item_N (by assumption) hD pos rfl (by omega) hnew ?_
  k_steps
  unfold Stop
  refine' while_N (σ := SU) (fun c => [("heap", .ref D), ("pos", .int c.z c.tp), ("endpos", .int its.length c.te), ("startpos", .int pos t2), ("newitem", new), ("childpos", .int c.y c.tc)])
    (fun c nw => nw = setL D (LO c.l n) news ∧ c.l.length = its.length ∧ c.p < its.length ∧ Hp.su lt new pos c.p c.l = Hp.su lt new pos pos its ∧ (∀ a ∈ c.l, a ∈ its) ∧ c.z = (c.p : Nat) ∧ c.y = 2 * (c.p : Nat) + 1)
    (fun c nw => nw = setL D (LO c.l n) news ∧ c.l.length = its.length ∧ c.p < its.length ∧ Hp.sd lt new pos c.p (c.l.set c.p new) = Hp.su lt new pos pos its ∧ (∀ a ∈ c.l, a ∈ its) ∧ c.z = (c.p : Nat))
    (fun c => its.length - c.p) ⟨pos, its, pos, 2 * pos + 1, t2, ?tc, ?te⟩ (by assumption) (by assumption) ⟨?a1, rfl, hpos, rfl, fun a h => h, rfl, rfl⟩ ?a2 ?turn ?done ?hE
  case a2 => walk_at "MY names"
  case a1 => exact (Mine.News.setL_self N hD).symm
  case hE => passes_own
  case turn =>
    rintro ⟨p, l, z, y, tp, tc, te⟩ u h tk nw ⟨rfl, hl, hp, hsu, hin, hz, hy⟩ F1 N1
    dsimp only at *
    subst hz hy
    have hD1 : (D, LO l n) ∈ setL D (LO l n) news := mem_setL_self hD
    k_steps
    · rename_i hin1 hF hN hin2
      have hx1 : l[2 * p + 1]? = some (l.getD (2 * p + 1) new) := Hp.getD_some (by omega)
      have hx2 : l[2 * p + 2]? = some (l.getD (2 * p + 2) new) := Hp.getD_some (by omega)
      refine item_N hN hD1 (2 * p + 1) (by omega) (by omega) hx1 ?_
      k_steps
      refine item_N hN hD1 (2 * p + 2) (by omega) (by omega) hx2 ?_
      k_steps
      refine hlt _ (hin _ (List.mem_of_getElem? hx1)) _ (hin _ (List.mem_of_getElem? hx2)) _ _ _ _ (by simp; omega) C'.hh (fun q hq => (hN _ (mem_setL_ne (hfa q hq).1 (hfa q hq).2)).1) fun tk' => ?_
      generalize hb : lt (l.getD (2 * p + 1) new) (l.getD (2 * p + 2) new) = b
      k_steps
      · rename_i hb'
        have hc : Hp.chi lt new p l = 2 * p + 1 := by unfold Hp.chi; rw [if_neg (by rw [hb, hb']; simp)]
        have hcl : 2 * p + 1 < l.length := by omega
        have hcx : l[2 * p + 1]? = some (l.getD (2 * p + 1) new) := Hp.getD_some hcl
        refine item_N (by assumption) hD1 (2 * p + 1) (by omega) (by omega) hcx ?_
        k_steps
        refine set_N (by assumption) (by assumption) hD1 p (by omega) (by omega) (by omega) ?_
        intro h2 F2 N2
        k_steps
        rename_i hF3 hN3
        rw [setL_setL] at hN3
        refine' WX.intro ⟨2 * p + 1, l.set p (l.getD (2 * p + 1) new), _, _, ?t1b, ?t2b, ?t3b⟩ hF3 hN3 ?jjb ?nmmb
        case nmmb => walk_at "MY names"
        refine ⟨⟨rfl, by simpa using hl, by dsimp only; omega, ?_, ?_, ?_, ?_⟩, by dsimp only; omega⟩
        · dsimp only
          rw [← hsu]
          conv => rhs; rw [Hp.su]
          rw [if_pos (by omega), hc]
        · intro a ha
          rcases List.mem_or_eq_of_mem_set ha with h | h
          · exact hin a h
          · exact h ▸ hin _ (List.mem_of_getElem? hcx)
        · dsimp only; omega
        · dsimp only; omega
      · rename_i hb' _ _ _
        have hc : Hp.chi lt new p l = 2 * p + 2 := by unfold Hp.chi; rw [if_pos ⟨by omega, by rw [hb, hb']⟩]
        have hcl : 2 * p + 2 < l.length := by omega
        have hcx : l[2 * p + 2]? = some (l.getD (2 * p + 2) new) := Hp.getD_some hcl
        refine item_N (by assumption) hD1 (2 * p + 2) (by omega) (by omega) hcx ?_
        k_steps
        refine set_N (by assumption) (by assumption) hD1 p (by omega) (by omega) (by omega) ?_
        intro h2 F2 N2
        k_steps
        rename_i hF3 hN3
        rw [setL_setL] at hN3
        refine' WX.intro ⟨2 * p + 2, l.set p (l.getD (2 * p + 2) new), _, _, ?t1c, ?t2c, ?t3c⟩ hF3 hN3 ?jjc ?nmmc
        case nmmc => walk_at "MY names"
        refine ⟨⟨rfl, by simpa using hl, by dsimp only; omega, ?_, ?_, ?_, ?_⟩, by dsimp only; omega⟩
        · dsimp only
          rw [← hsu]
          conv => rhs; rw [Hp.su]
          rw [if_pos (by omega), hc]
        · intro a ha
          rcases List.mem_or_eq_of_mem_set ha with h | h
          · exact hin a h
          · exact h ▸ hin _ (List.mem_of_getElem? hcx)
        · dsimp only; omega
        · dsimp only; omega
    · rename_i hin1 hF hN hin2
      have hc : Hp.chi lt new p l = 2 * p + 1 := by unfold Hp.chi; rw [if_neg (by omega)]
      have hcl : 2 * p + 1 < l.length := by omega
      have hcx : l[2 * p + 1]? = some (l.getD (2 * p + 1) new) := Hp.getD_some hcl
      refine item_N (by assumption) hD1 (2 * p + 1) (by omega) (by omega) hcx ?_
      k_steps
      refine set_N (by assumption) (by assumption) hD1 p (by omega) (by omega) (by omega) ?_
      intro h2 F2 N2
      k_steps
      rename_i hF3 hN3
      rw [setL_setL] at hN3
      refine' WX.intro ⟨2 * p + 1, l.set p (l.getD (2 * p + 1) new), _, _, ?t1a, ?t2a, ?t3a⟩ hF3 hN3 ?jja ?nmma
      case nmma => walk_at "MY names"
      refine ⟨⟨rfl, by simpa using hl, by dsimp only; omega, ?_, ?_, ?_, ?_⟩, by dsimp only; omega⟩
      · dsimp only
        rw [← hsu]
        conv => rhs; rw [Hp.su]
        rw [if_pos (by omega), hc]
      · intro a ha
        rcases List.mem_or_eq_of_mem_set ha with h | h
        · exact hin a h
        · exact h ▸ hin _ (List.mem_of_getElem? hcx)
      · dsimp only; omega
      · dsimp only; omega
    · refine' WX.intro ⟨p, l, _, _, ?t1x, ?t2x, ?t3x⟩ F1 N1 ?jx ?nx
      case nx => walk_at "MY names"
      refine ⟨rfl, hl, hp, ?_, hin, rfl⟩
      dsimp only
      rw [← hsu]
      conv => rhs; rw [Hp.su]
      rw [if_neg (by omega)]
  case done =>
    rintro ⟨p, l, z, y, tp, tc, te⟩ u h tk nw ⟨rfl, hl, hp, hsd, hin, hz⟩ F1 N1
    dsimp only at *
    subst hz
    have hD1 : (D, LO l n) ∈ setL D (LO l n) news := mem_setL_self hD
    k_steps
    refine set_N F1 N1 hD1 p rfl (by omega) (by omega) ?_
    intro h2 F2 N2
    rw [setL_setL] at N2
    k_steps
    unfold Stop
    have hnin : new ∈ its := List.mem_of_getElem? hnew
    have hin2 : ∀ a ∈ l.set p new, a ∈ its := fun a ha => by
      rcases List.mem_or_eq_of_mem_set ha with h | h
      · exact hin a h
      · exact h ▸ hnin
    refine siftdown_call (start := pos) (pos := p) (new := new) (lt := lt) (facts := facts) C' (by simp only [depth_deeper]; omega) (by simp only [Around.deeper_units]; omega) (by assumption) N2 (mem_setL_self hD) (by rw [List.getElem?_set_self (by omega)]) (by simp; omega) (fun a ha b hb => hlt a (hin2 a ha) b (hin2 b hb))
      (fun q hq => ⟨mem_setL_ne (hfa q hq).1 (hfa q hq).2, (hfa q hq).2⟩) fun h3 tk3 F3 N3 => ?_
    rw [setL_setL, hsd] at N3
    k_steps
    exact Ret.intro pm F3 N3 fun F4 N4 => hQ _ _ F4 N4
end
end Mine

-- C3
namespace Mine
theorem fillme3 (w : World) : (hd.heap_39 w.params) = (hd.heap_39 w.params) ∧ PySem.Challenge.rw_kl0171_01 = PySem.Challenge.rw_kl0171_01 := by
  k_fill
  exact ⟨rfl, rfl⟩
local macro_rules | `(tactic| walk_at "MY enter") => `(tactic| (
  (case ho => k_dflt k_is); (case hcd => k_dflt k_is); (case hroom => first | omega | (simp only [depth_deeper]; omega)); (case hbind => exact BindsTo.of_eq rfl); (case hloc => rfl); (case hco => rfl); (case hgen => rfl); (case hk => rfl); (case hcell => decide)))
local macro_rules | `(tactic| walk_at "exec While Compare cons nil") => `(tactic| refine stop_intro ?_)
local macro_rules | `(tactic| walk_at "call ref cons nil") => `(tactic| refine stop_intro ?_)
local macro_rules | `(tactic| walk_at "MY names") => `(tactic| (simp only [List.forall_mem_cons, List.not_mem_nil, false_implies, implies_true, and_true]; (repeat' apply And.intro) <;> first | rfl | assumption))
section
variable {prog : Program} {w : World} {A : Around} {h₀ : Heap} {L : Addr} {m : Str → Option Value} {s : Shared} {news : List (Addr × Obj)} {D : Addr} {its : List Value} {n : Nat} {Q E : Value → Shared → Prop} {lt : Value → Value → Bool} {facts : List (Addr × Obj)}

theorem heappush_call {v : Value} (C : Here w A h₀ L) (hdp : A.depth + 2 < recursionLimit) (hun : A.units + 70 < cLine) (F : Fr h₀ L s.heap m) (N : News h₀ L s.heap news)
   (hD : (D, LO its n) ∈ news) (hsz : its.length < 2 ^ 20 - 1)
   (hlt : ∀ a ∈ its ++ [v], ∀ b ∈ its ++ [v], LtIs prog w facts a b (lt a b)) (hfa : ∀ p ∈ facts, p ∈ news ∧ p.1 ≠ D)
   (hQ : ∀ h' tk, Fr h₀ L h' m → News h₀ L h' (setL D (LO (Hp.sd lt v 0 its.length (its ++ [v])) (n + 1)) news) → Q .none { s with heap := h', toks := tk }) :
   wpAny (model prog w) A (call (.ref 112) [.ref D, v]) Q E s := by
  refine' enterK [("heap", .ref D), ("item", v)] C F N ?ho ?hcd ?hroom ?hbind ?hloc ?hco ?hgen ?hk ?hcell ?h
  walk_at "MY enter"
  intro g L' h₁ C' F' N' pm lt'
  obtain ⟨A₀, base, outer, env, p, loose, mean, mg, mb, B, X, T, hA, hf, hke⟩ := C'.ex
  k_steps
  refine append_N (by assumption) (by assumption) hD (by rw [sizeLine_eq]; omega) ?_
  intro h2 F2 N2
  k_steps
  refine len_N N2 (mem_setL_self hD) (by simp; omega) ?_
  k_steps
  unfold Stop
  have e : (((its ++ [v]).length : Nat) : Int) - 1 = ((its.length : Nat) : Int) := by simp
  rw [e]
  refine siftdown_call (start := 0) (pos := its.length) (new := v) (lt := lt) (facts := facts) C' (by simp only [depth_deeper]; omega) (by simp only [Around.deeper_units]; omega) (by assumption) N2 (mem_setL_self hD) (by simp) (by simp; omega) hlt
      (fun q hq => ⟨mem_setL_ne (hfa q hq).1 (hfa q hq).2, (hfa q hq).2⟩) fun h3 tk3 F3 N3 => ?_
  rw [setL_setL] at N3
  k_steps
  exact Ret.intro pm F3 N3 fun F4 N4 => hQ _ _ F4 N4

theorem heapreplace_call {v x : Value} {r : List Value} (C : Here w A h₀ L) (hdp : A.depth + 3 < recursionLimit) (hun : A.units + 80 < cLine) (F : Fr h₀ L s.heap m) (N : News h₀ L s.heap news)
   (hD : (D, LO (x :: r) n) ∈ news) (hsz : r.length < 2 ^ 20 - 1)
   (hlt : ∀ a ∈ v :: r, ∀ b ∈ v :: r, LtIs prog w facts a b (lt a b)) (hfa : ∀ p ∈ facts, p ∈ news ∧ p.1 ≠ D)
   (hQ : ∀ h' tk, Fr h₀ L h' m → News h₀ L h' (setL D (LO (Hp.su lt v 0 0 (v :: r)) n) news) → Q x { s with heap := h', toks := tk }) :
   wpAny (model prog w) A (call (.ref 126) [.ref D, v]) Q E s := by
  refine' enterK [("heap", .ref D), ("item", v)] C F N ?ho ?hcd ?hroom ?hbind ?hloc ?hco ?hgen ?hk ?hcell ?h
  walk_at "MY enter"
  intro g L' h₁ C' F' N' pm lt'
  obtain ⟨A₀, base, outer, env, p, loose, mean, mg, mb, B, X, T, hA, hf, hke⟩ := C'.ex
  k_steps
  refine item_N (by assumption) hD 0 rfl (by decide) rfl ?_
  k_steps
  refine set_N (by assumption) (by assumption) hD 0 rfl (by decide) (by simp) ?_
  intro h2 F2 N2
  k_steps
  unfold Stop
  refine siftup_call (pos := 0) (new := v) (lt := lt) (facts := facts) C' (by simp only [depth_deeper]; omega) (by simp only [Around.deeper_units]; omega) F2 N2 (mem_setL_self hD) (by simp) (by simp; omega) hlt
      (fun q hq => ⟨mem_setL_ne (hfa q hq).1 (hfa q hq).2, (hfa q hq).2⟩) fun h3 tk3 F3 N3 => ?_
  rw [setL_setL] at N3
  k_steps
  exact Ret.intro pm F3 N3 fun F4 N4 => hQ _ _ F4 N4

/-- what heappop leaves and gives -/
def hpop (lt : Value → Value → Bool) (x : Value) : List Value → Value × List Value
  | [] => (x, [])
  | y :: r => (y, Hp.su lt x 0 0 (x :: r))

theorem heappop_call {x : Value} {r : List Value} (C : Here w A h₀ L) (hdp : A.depth + 3 < recursionLimit) (hun : A.units + 80 < cLine) (F : Fr h₀ L s.heap m) (N : News h₀ L s.heap news)
   (hD : (D, LO (r ++ [x]) n) ∈ news) (hsz : r.length < 2 ^ 20 - 1)
   (hlt : ∀ a ∈ r ++ [x], ∀ b ∈ r ++ [x], LtIs prog w facts a b (lt a b)) (hfa : ∀ p ∈ facts, p ∈ news ∧ p.1 ≠ D)
   (hQ : ∀ h' tk n', Fr h₀ L h' m → News h₀ L h' (setL D (LO (hpop lt x r).2 n') news) → Q (hpop lt x r).1 { s with heap := h', toks := tk }) :
   wpAny (model prog w) A (call (.ref 119) [.ref D]) Q E s := by
  refine' enterK [("heap", .ref D)] C F N ?ho ?hcd ?hroom ?hbind ?hloc ?hco ?hgen ?hk ?hcell ?h
  walk_at "MY enter"
  intro g L' h₁ C' F' N' pm lt'
  obtain ⟨A₀, base, outer, env, p, loose, mean, mg, mb, B, X, T, hA, hf, hke⟩ := C'.ex
  k_steps
  refine pop_N (by assumption) (by assumption) hD (by rw [sizeLine_eq]; omega) ?_
  intro h2 F2 N2
  k_steps
  rename_i hF3 hN3
  refine truthy_N hN3 (mem_setL_self hD) (by omega) ?_
  cases r with
  | nil =>
    refine ite_neg (by decide) ?_
    k_steps
    exact Ret.intro pm hF3 hN3 fun F4 N4 => hQ _ _ _ F4 N4
  | cons y r =>
    refine ite_pos (by rfl) ?_
    k_steps
    refine item_N (its := y :: r) (v := y) (by assumption) (mem_setL_self hD) 0 (by rfl) (by decide) (by rfl) ?_
    k_steps
    refine set_N (by assumption) (by assumption) (mem_setL_self hD) 0 rfl (by decide) (by simp) ?_
    intro h4 F4 N4
    rw [setL_setL] at N4
    k_steps
    unfold Stop
    have hin : ∀ a ∈ x :: r, a ∈ (y :: r) ++ [x] := fun a ha => by
      rcases List.mem_cons.mp ha with rfl | h
      · simp
      · simp [h]
    refine siftup_call (pos := 0) (new := x) (lt := lt) (facts := facts) C' (by simp only [depth_deeper]; omega) (by simp only [Around.deeper_units]; omega) F4 N4 (mem_setL_self hD) (by simp) (by simp at hsz ⊢; omega) (fun a ha b hb => hlt a (hin a ha) b (hin b hb))
        (fun q hq => ⟨mem_setL_ne (hfa q hq).1 (hfa q hq).2, (hfa q hq).2⟩) fun h3 tk3 F3 N3 => ?_
    rw [setL_setL] at N3
    k_steps
    exact Ret.intro pm F3 N3 fun F4 N4 => hQ _ _ _ F4 N4
end
end Mine

-- C4
namespace Mine
theorem fillme4 (w : World) : (hd.heap_39 w.params) = (hd.heap_39 w.params) ∧ PySem.Challenge.rw_kl0171_01 = PySem.Challenge.rw_kl0171_01 := by
  k_fill
  exact ⟨rfl, rfl⟩
local macro_rules | `(tactic| walk_at "MY enter") => `(tactic| (
  (case ho => k_dflt k_is); (case hcd => k_dflt k_is); (case hroom => first | omega | (simp only [depth_deeper]; omega)); (case hbind => exact BindsTo.of_eq rfl); (case hloc => rfl); (case hco => rfl); (case hgen => rfl); (case hk => rfl); (case hcell => decide)))
local macro_rules | `(tactic| walk_at "exec While Compare cons nil") => `(tactic| refine stop_intro ?_)
local macro_rules | `(tactic| walk_at "call ref cons nil") => `(tactic| refine stop_intro ?_)
local macro_rules | `(tactic| walk_at "MY names") => `(tactic| (simp only [List.forall_mem_cons, List.not_mem_nil, false_implies, implies_true, and_true]; (repeat' apply And.intro) <;> first | rfl | assumption))
local macro_rules | `(tactic| walk_at "exec For Name Call cons nil") => `(tactic| refine stop_intro ?_)
def hfy (lt : Value → Value → Bool) : Nat → List Value → List Value
  | 0, l => l
  | k + 1, l => hfy lt k (Hp.su lt (l.getD k .none) k k l)
section
variable {prog : Program} {w : World} {A : Around} {h₀ : Heap} {L : Addr} {m : Str → Option Value} {s : Shared} {news : List (Addr × Obj)} {D : Addr} {its : List Value} {n : Nat} {Q E : Value → Shared → Prop} {lt : Value → Value → Bool} {facts : List (Addr × Obj)}


theorem heapify_call (C : Here w A h₀ L) (hdp : A.depth + 3 < recursionLimit) (hun : A.units + 80 < cLine) (F : Fr h₀ L s.heap m) (N : News h₀ L s.heap news)
   (hD : (D, LO its n) ∈ news) (hsz : its.length < 2 ^ 20 - 1)
   (hlt : ∀ a ∈ its, ∀ b ∈ its, LtIs prog w facts a b (lt a b)) (hfa : ∀ p ∈ facts, p ∈ news ∧ p.1 ≠ D)
   (hQ : ∀ h' tk, Fr h₀ L h' m → News h₀ L h' (setL D (LO (hfy lt (its.length / 2) its) n) news) → Q .none { s with heap := h', toks := tk }) :
   wpAny (model prog w) A (call (.ref 133) [.ref D]) Q E s := by
  refine' enterK [("x", .ref D)] C F N ?ho ?hcd ?hroom ?hbind ?hloc ?hco ?hgen ?hk ?hcell ?h
  walk_at "MY enter"
  intro g L' h₁ C' F' N' pm lt'
  obtain ⟨A₀, base, outer, env, p, loose, mean, mg, mb, B, X, T, hA, hf, hke⟩ := C'.ex
  k_steps
  refine len_N (by assumption) hD (by omega) ?_
  k_steps
  unfold Stop
  refine For_invV g (by rfl) (by rfl) ?_
  k_steps
  rename_i hr hF hN hk
  have eb : ((its.length : Nat) : Int).fdiv 2 = ((its.length / 2 : Nat) : Int) := by
    rw [Int.fdiv_eq_ediv_of_nonneg _ (by decide)]; omega
  rw [eb] at hr
  refine call_reversed_range hr (by omega) (by omega) ?_
  refine wpAny_pyIter_rangeiter (Heap.get?_push_size _ rfl) ?_
  refine loop_range (σ := List Value) (a := ((its.length / 2 : Nat) : Int) - 1) (n := its.length / 2) (c1 := -1) (fun c => [("x", .ref D)])
    (fun i c nw => nw = setL D (LO c n) news ∧ c.length = its.length ∧ hfy lt (its.length / 2 - i) c = hfy lt (its.length / 2) its ∧ (∀ a ∈ c, a ∈ its)) its C'.hh ?f1 ?f2 (next_is_new hF) (Heap.get?_push_size _ rfl) (hF.push _) (fun p hp => ⟨Heap.get?_push_of_some _ (hN p hp).1, (hN p hp).2⟩) ⟨(Mine.News.setL_self N hD).symm, rfl, by simp, fun a h => h⟩ ?f3 ?turn ?done
  case f1 => exact fun p hp e => absurd (Heap.lt_size (hN p hp).1) (e ▸ Nat.lt_irrefl _)
  case f2 => exact fun e => absurd hF.ns.lt (e ▸ Nat.lt_irrefl _)
  case f3 => walk_at "MY names"
  case turn =>
    rintro i t l u oI h tk nw hi ⟨rfl, hl, hh, hin⟩ hI F1 N1
    dsimp only at *
    have ei : ((its.length / 2 : Nat) : Int) - 1 + (i : Int) * -1 = ((its.length / 2 - 1 - i : Nat) : Int) := by omega
    rw [ei] at F1
    k_steps
    unfold Stop
    generalize hj : its.length / 2 - 1 - i = j at *
    have hx : l[j]? = some (l.getD j .none) := Hp.getD_some (by omega)
    have hDI := hI _ (mem_setL_self (o' := LO l n) hD)
    refine siftup_call (pos := j) (new := l.getD j .none) (lt := lt) (facts := facts) C' (by simp only [depth_deeper]; omega) (by simp only [Around.deeper_units]; omega) F1 N1 (.tail _ (mem_setL_self hD)) hx (by omega) (fun a ha b hb => hlt a (hin a ha) b (hin b hb))
      (fun q hq => ⟨.tail _ (mem_setL_ne (hfa q hq).1 (hfa q hq).2), (hfa q hq).2⟩) fun h3 tk3 F3 N3 => ?_
    rw [setL_cons, setL_setL, if_neg (fun e => hDI e.symm)] at N3
    have hperm := Hp.su_perm lt (l.getD j .none) j j l (by omega)
    have hset : l.set j (l.getD j .none) = l := by
      apply List.ext_getElem?
      intro k
      rw [List.getElem?_set]
      split
      · rename_i e; subst e; rw [if_pos (by omega), hx]
      · rfl
    rw [hset] at hperm
    k_steps
    refine FX.intro (Hp.su lt (l.getD j .none) j j l) _ F3 N3 (.head _) (fun p hp => .tail _ hp) ?_ (by simp) ⟨rfl, by rw [Hp.su_length]; exact hl, ?_, fun a ha => hin a (hperm.mem_iff.mp ha)⟩ ?_
    · intro p hp
      obtain ⟨q, hq, rfl⟩ := List.mem_map.mp hp
      have := hI _ (List.mem_map.mpr ⟨q, hq, rfl⟩)
      by_cases e : q.1 = D
      · rw [if_pos e] at this ⊢; exact this
      · rw [if_neg e] at this ⊢; exact this
    · rw [← hh]
      have e1 : its.length / 2 - i = j + 1 := by omega
      have e2 : its.length / 2 - (i + 1) = j := by omega
      rw [e1, e2]; rfl
    · walk_at "MY names"
  case done =>
    rintro l u h tk nw ⟨rfl, hl, hh, hin⟩ F1 N1
    dsimp only at *
    rw [Nat.sub_self] at hh
    dsimp only [hfy] at hh
    subst hh
    k_steps
    exact Ret.intro pm F1 N1 fun F4 N4 => hQ _ _ F4 N4
end
end Mine

-- C5
namespace Mine
theorem fillme5 (w : World) : (hd.heap_39 w.params) = (hd.heap_39 w.params) ∧ PySem.Challenge.rw_kl0171_01 = PySem.Challenge.rw_kl0171_01 := by
  k_fill
  exact ⟨rfl, rfl⟩
local macro_rules | `(tactic| walk_at "MY enter") => `(tactic| (
  (case ho => k_dflt k_is); (case hcd => k_dflt k_is); (case hroom => first | omega | (simp only [depth_deeper]; omega)); (case hbind => exact BindsTo.of_eq rfl); (case hloc => rfl); (case hco => rfl); (case hgen => rfl); (case hk => rfl); (case hcell => decide)))
local macro_rules | `(tactic| walk_at "exec While Compare cons nil") => `(tactic| refine stop_intro ?_)
local macro_rules | `(tactic| walk_at "MY names") => `(tactic| (simp only [List.forall_mem_cons, List.not_mem_nil, false_implies, implies_true, and_true]; (repeat' apply And.intro) <;> first | rfl | assumption))

section
variable {prog : Program} {w : World} {A : Around} {s : Shared} {h₀ : Heap} {L : Addr} {m : Str → Option Value} {news : List (Addr × Obj)} {E : Value → Shared → Prop} {Q : Value → Shared → Prop}
local macro_rules | `(tactic| k_all) => `(tactic| assumption)
local macro_rules | `(tactic| walk_at "assign Subscript") => `(tactic| refine stop_intro ?_)
/-- a def with cells of its own is called -/
theorem enterC {name qual : Str} {params : Arguments} {body : List Stmt} {scope : Scope} {dV kV doc pm cdv ct oc : Value} {an od : Option Addr} {osl : Array (Option Value)} {f : Addr} {args : List Value} {kw : List (Str × Value)} (binds : List (Str × Value))
    (C : Here w A h₀ L) (F : Fr h₀ L s.heap m) (N : News h₀ L s.heap news)
    (ho : (hd.heap_39 w.params).lookup f = some ⟨oc, od, .func (fnOf name qual params body scope dV kV doc pm an cdv ct), osl⟩) (hcd : codeIn (hd.heap_39 w.params) cdv qual = true) (hroom : A.depth < recursionLimit)
    (hbind : BindsTo s (fnOf name qual params body scope dV kV doc pm an cdv ct) ⟨args, kw⟩ binds) (hkind : (binds.all fun y => scope.names.lookup y.1 == some .local || scope.names.lookup y.1 == some .cell) = true)
    (hnd : ((cellsFrom 0 scope.names []).map (·.1)).Nodup)
    (hco : scope.isCoroutine = false) (hgen : scope.isGenerator = false) (hk : scope.kind = .function)
    (h : ∀ g L' h₁ tk cells, Here w (A.deeper (envOfC qual scope L' f cdv)) g L' → Fr g L' h₁ (bindL (envOfC qual scope L' f cdv).kindOf binds fun _ => none) → News g L' h₁ (cells ++ news) →
      CellsAre (bindC (envOfC qual scope L' f cdv).kindOf binds fun _ => none) (cellsFrom (L' + 1) scope.names []) cells →
      (∀ (h' : Heap) m' news', Fr g L' h' m' → News g L' h' news' → Fr h₀ L h' m ∧ News h₀ L h' news') → (∀ p ∈ news, p.1 < L') →
      wpAny (model prog w) (A.deeper (envOfC qual scope L' f cdv)) (execs body (envOfC qual scope L' f cdv))
        (fun fl s' => Ret g L' Q (match fl with | .ret v => v | _ => .none) s')
        (fun e s' => wpAny (model prog w) (A.deeper (envOfC qual scope L' f cdv)) (leaving (envOfC qual scope L' f cdv) e) (fun _ s'' => E e s'') (fun e' s'' => E e' s'') s')
        { s with heap := h₁, toks := tk }) : wpAny (model prog w) A (call (.ref f) args kw) Q E s := by
  obtain ⟨⟨A₀, base, outer, env, p, loose, mean, mg, mb, B, X, T, hA, hf, hke⟩, hh⟩ := C
  refine wpAny_call (callX_cells B F N T.nolimit hA hf hke ((X.keeps F.keep) _ _ ho) rfl (codeRec_of (X.keeps F.keep) hcd) hroom hbind (kindsX hkind) hnd (fun g L' h₁ tk cells FG F' N' Y B' st lt => ?_) hco hgen hk)
  refine wpAny_mono (h g L' h₁ tk cells ⟨⟨_, _, _, _, p, loose, mean, mg, mb, B', X.keeps st, T.keeps st, Around.frames_deeper hA, rfl, hk⟩, hh⟩ F' N' Y (fun h' m' news' a b => perm FG st a b) lt) (fun fl s' hl => ?_) fun _ _ y => y
  obtain ⟨⟨m', news', F2, N2⟩, hQ⟩ := hl
  exact ⟨L', m', news', F2, N2, fun _ _ => hQ⟩

theorem picked_hi (b : Array UInt8) (k : Nat) : KBy.picked b none (some (k : Int)) = b.extract 0 k := by
  rw [KBc.picked_eq]
  apply Array.toList_inj.mp
  simp only [Option.elim_none, Option.elim_some, clipAt_nat, List.drop_zero, Nat.sub_zero, Array.toList_extract]
  simp only [List.extract_eq_take_drop, List.drop_zero, Nat.sub_zero]
  rw [← Array.length_toList, List.take_eq_take_iff]; simp
theorem picked_lo (b : Array UInt8) (k : Nat) : KBy.picked b (some (k : Int)) none = b.extract k b.size := by
  rw [KBc.picked_eq]
  apply Array.toList_inj.mp
  simp only [Option.elim_none, Option.elim_some, clipAt_nat, Array.toList_extract]
  simp only [List.extract_eq_take_drop]
  by_cases h : k ≤ b.size
  · rw [Nat.min_eq_left h]
  · rw [Nat.min_eq_right (by omega)]
    rw [Nat.sub_self, Nat.sub_eq_zero_of_le (by omega)]; simp
structure StreamSpec (prog : Program) (w : World) (S fr lL : Addr) (SF : List (Addr × Obj)) : Prop where
  off : ∀ p ∈ SF, p.1 ≠ lL
  fn : ∀ h : Heap, (∀ p ∈ SF, h.get? p.1 = some p.2) → FnAt fr h
  get : ∀ {A : Around} {h₀ : Heap} {L : Addr} {m : Str → Option Value} {s : Shared} {pl : Sem Bool} {Q : Value × List Value → Shared → Prop} {E : Value → Shared → Prop}, Here w A h₀ L → Fr h₀ L s.heap m →
    (∀ p ∈ SF, s.heap.get? p.1 = some p.2) → (∀ tk, Q (.ref fr, []) { s with toks := tk }) → wpAny (model prog w) A (getMethod (.ref S) (Str.ofString "read") pl) Q E s
  call : ∀ {A : Around} {h₀ : Heap} {L : Addr} {m : Str → Option Value} {s : Shared} {news : List (Addr × Obj)} {Q E : Value → Shared → Prop} {b : Array UInt8} {t t' : Tok} {n k : Nat}, Here w A h₀ L → A.depth + 1 < recursionLimit → A.units + 40 < cLine →
    Fr h₀ L s.heap m → News h₀ L s.heap news → (∀ p ∈ SF, p ∈ news) → (lL, LO [.bytes b t] n) ∈ news → b.size < 2 ^ 20 → k < 2 ^ 20 →
    (∀ h' tk t1 t2, Fr h₀ L h' m → News h₀ L h' (setL lL (LO [.bytes (b.extract k b.size) t2] n) news) → Q (.bytes (b.extract 0 k) t1) { s with heap := h', toks := tk }) →
    wpAny (model prog w) A (PySem.call (.ref fr) [.int k t']) Q E s

def CodeObj (oc : Obj) : Prop := ∃ vs t, oc.data = .fields vs ∧ vs[1]? = some (.str (Str.ofString "_law_stream.<locals>._law_read") t)
theorem fin_stream {P : Prop} {S : Addr} {h₀ h : Heap} {L : Addr} {a b c d e f g : Addr × Obj} {r : List (Addr × Obj)} (_N : News h₀ L h (a :: b :: c :: d :: e :: f :: g :: r)) (spec : StreamSpec prog w S a.1 d.1 [a, b, e, f, g]) (k : StreamSpec prog w S a.1 d.1 [a, b, e, f, g] → P) : P := k spec

theorem stream_call1 {b : Array UInt8} {t : Tok} (C : Here w A h₀ L) (hdp : A.depth + 3 < recursionLimit) (hun : A.units + 80 < cLine) (F : Fr h₀ L s.heap m) (N : News h₀ L s.heap ((189, tabObj #[]) :: news)) (h9 : ∀ p ∈ news, p.1 ≠ 189)
   (hQ : ∀ S fr lL SF cc h' tk' news', StreamSpec prog w S fr lL SF → (∀ p ∈ SF, p ∈ news') → (∀ p ∈ news, p ∈ news') → (189, tabObj #[rawInt 211, rawInt 4, Value.ref cc]) ∈ news' → (∃ oc, (cc, oc) ∈ news' ∧ CodeObj oc) → (lL, LO [.bytes b t] 0) ∈ news' → (∀ p ∈ news, p.1 < lL) → 189 < lL → Fr h₀ L h' m → News h₀ L h' news' → Q (.ref S) { s with heap := h', toks := tk' }) :
   wpAny (model prog w) A (call (.ref 194) [.bytes b t]) Q E s := by
  obtain ⟨hdd, dp, fr, gs, un⟩ := A
  cases (show hdd = none from C.hh)
  refine' enterC [("octets", .bytes b t)] C F N ?ho ?hcd ?hroom ?hbind ?hkind ?hnd ?hco ?hgen ?hk ?h
  (case ho => k_dflt k_is); (case hcd => k_dflt k_is); (case hroom => first | omega | (simp only [depth_deeper]; omega)); (case hbind => exact BindsTo.of_eq rfl); (case hkind => rfl); (case hnd => decide +kernel); (case hco => rfl); (case hgen => rfl); (case hk => rfl)
  intro g L' h₁ tk cells C' F' N' Y' pm lt'
  obtain ⟨A₀, base, outer, env, p, loose, mean, mg, mb, B, X, T, hA, hf, hke⟩ := C'.ex
  have hCH : CodeHd g 193 189 := codeHd_of_K X (by kernel_rfl)
  have hn1 : ∀ p ∈ news, p.1 ≠ L' + 1 := fun p hp e => by have := lt' p (.tail _ hp); rw [e] at this; exact absurd this (by have : L' < L' + 1 := Nat.lt_succ_self _; exact Nat.lt_asymm this)
  have lt'' := lt'
  k_lt lt'
  k_cells Y'
  simp only [List.cons_append, List.nil_append] at N'
  k_steps
  rename_i hN
  k_dflt (refine' call_cls ?k1 ?k2 ?k3 ?k4 ?k5 ?k6 ?_; (case k1 => k_asm); (case k2 => k_asm); (case k3 => k_asm); (case k4 => k_is); (case k5 => k_is); (case k6 => k_is); k_whole)
  intro x' d' h2 F2 N2 l1 l2
  k_lt l1
  k_lt2 l2
  have hn2 : ∀ p ∈ news, p.1 ≠ d' := fun p hp e => by have := lt'' p (.tail _ hp); rw [e] at this; have h3 : L' + 1 < d' := l1.1; exact absurd this (Nat.not_lt.mpr (Nat.le_of_lt (Nat.lt_of_succ_lt h3)))
  refine' code_def ?k1 ?k2 ?k3 ?k4 ?k5 ?kA ?kF ?kK ?k6 ?k7 ?k8 ?k9 ?kB ?_ ?c2 ?c3 ?c4 ?c5
  (case kA => exact hA); (case kF => exact hf); (case kK => exact hke); (case k1 => k_asm); (case k2 => k_asm); (case k3 => k_asm); (case k4 => k_asm); (case k5 => k_asm); (case k6 => k_dflt k_is); (case k7 => k_dflt k_is); (case k8 => (simp only [depth_under_make, depth_deeper]; dsimp only at hdp; omega)); (case k9 => exact BindsTo.of_eq rfl); (case c5 => decide); (case kB => exact locs rfl); (case c2 => exact rfl); (case c3 => exact rfl); (case c4 => exact rfl)
  intro g2 L2 h3 FG3 F3 N3 B3 X3 T3
  k_steps
  rename_i l' h5 l1a D' h4 l1b ha hb hc o' dcell f' c' oc vs tq ct dc hx tkx d1 d2 l1c lcf h6 h7 F4 N4
  refine fin_stream (prog := prog) (w := w) (S := x') N4 ?spec ?k
  case k =>
    intro spec
    refine Ret.intro pm F4 N4 fun F5 N5 => hQ _ _ _ _ c' _ _ _ spec ?_ ?_ ?_ ?_ ?_ ?_ ?_ F5 N5
    · intro p hp
      simp only [List.mem_cons, List.not_mem_nil, or_false] at hp ⊢
      rcases hp with h | h | h | h | h <;> simp [h]
    · intro p hp; simp [hp]
    · exact .tail _ (.tail _ (.tail _ (.tail _ (.tail _ (.tail _ (.tail _ (.head _)))))))
    · exact ⟨oc, .tail _ (.head _), vs, tq, d1, d2⟩
    · exact .tail _ (.tail _ (.tail _ (.head _)))
    · intro p hp; have := lt'' p (.tail _ hp); exact Nat.lt_trans this (Nat.lt_of_succ_lt l1a.2.2.1)
    · exact l1a.2.2.2.1
  case spec =>
    refine ⟨?o1, ?o2, ?o3, ?o4⟩
    case o1 =>
      intro p hp
      simp only [List.mem_cons, List.not_mem_nil, or_false] at hp
      have a1 := l1a.1
      have a2 := l1a.2.1
      have a3 := l1a.2.2.1
      have a4 := l1b.1
      have a5 := l1c.1
      simp only [Addr] at *
      rcases hp with h | h | h | h | h <;> rw [h] <;> dsimp only <;> first | done | omega
    case o2 =>
      intro h hp
      exact ⟨_, _, _, _, hp _ (.head _)⟩
    case o3 =>
      intro A h₀ L m s pl Q E C F hp hQ
      obtain ⟨A₀, base, outer, env, p, loose, mean, mg, mb, B, X, T, hA, hf, hke⟩ := C.ex
      have I : W.InstAt s.heap x' (instObj 101 d') 101 (some _) := ⟨hp _ (.tail _ (.tail _ (.head _))), rfl, rfl, hp _ (.tail _ (.tail _ (.tail _ (.head _))))⟩
      refine method_usual (r := none) (X.keeps F.keep) I (by k_dflt k_is) (by k_dflt k_is) (by k_dflt k_is) rfl ?_
      k_dflt (refine' get_own ?k1 ?k2 ?k3 ?k4 ?k5 ?k6 ?k7 ?k8 ?k9 ?_; (case k1 => exact F); (case k2 => exact X); (case k3 => exact I); (case k4 => k_is); (case k5 => k_is); (case k6 => k_is); (case k7 => k_is); (case k8 => k_get); (case k9 => k_handed))
      exact hQ _
    case o4 =>
      intro A h₀ L m s news Q E b t t' n k C hdp hun F N hSF hD hbz hk hQ
      obtain ⟨hdd, dp2, fr2, gs2, un2⟩ := A
      cases (show hdd = none from C.hh)
      refine' enterX (binds := [("count", .int k t')]) C F N ?ho ?hdt ?hcd ?hroom ?hbind ?hloc ?hco ?hgen ?hk ?hcell ?h
      case ho => exact (N _ (hSF _ (.head _))).1
      case hdt => rfl
      case hcd => exact ⟨c', oc, vs, tq, rfl, (N _ (hSF _ (.tail _ (.head _)))).1, d1, d2⟩
      case hroom => dsimp only at hdp ⊢; omega
      case hbind => exact BindsTo.of_eq rfl
      case hloc => exact locs rfl
      (case hco => rfl); (case hgen => rfl); (case hk => rfl); (case hcell => decide)
      intro g L' h₁ C' F' N' pm lt'
      obtain ⟨A₀, base, outer, env, p, loose, mean, mg, mb, B, X, T, hA, hf, hke⟩ := C'.ex
      have hcell : (_, o') ∈ news := hSF _ (.tail _ (.tail _ (.tail _ (.tail _ (.head _)))))
      k_steps
      refine item_N N' hD 0 (by rfl) (by decide) (by rfl) ?_
      k_steps
      refine KBc.slice_K (s := ⟨_, _, _, _, _⟩) (ks := KBw.bInts b) F' N' rfl (by constructor) (by constructor) (by rw [KBw.ints_length]; omega) ?_
      intro h8 t8 k8 F8 N8 _
      rw [picked_hi]
      k_steps
      refine item_N N8 hD 0 (by rfl) (by decide) (by rfl) ?_
      k_steps
      refine KBc.slice_K (s := ⟨_, _, _, _, _⟩) (ks := KBw.bInts b) F8 N8 rfl (by constructor) (by constructor) (by rw [KBw.ints_length]; omega) ?_
      intro h9 t9 k9 F9 N9 _
      rw [picked_lo]
      k_steps
      rename_i D2 h10 l10 h11 F11 N11
      unfold Stop
      have N12 : News g L' h11 news := fun p hp => N11 p (.tail _ hp)
      clear N11
      dsimp only
      with_reducible refine kas_sub ?_
      k_steps
      refine set_N F11 N12 hD 0 (by rfl) (by decide) (by simp) ?_
      intro h12 F12 N13
      k_steps
      exact Ret.intro pm F12 N13 fun F14 N14 => hQ _ _ _ _ F14 N14
end
end Mine

-- C6
namespace Mine
theorem fillme6 (w : World) : (hd.heap_39 w.params) = (hd.heap_39 w.params) ∧ PySem.Challenge.rw_kl0171_01 = PySem.Challenge.rw_kl0171_01 := by
  k_fill
  exact ⟨rfl, rfl⟩
local macro_rules | `(tactic| walk_at "MY enter") => `(tactic| (
  (case ho => k_dflt k_is); (case hcd => k_dflt k_is); (case hroom => first | omega | (simp only [depth_deeper]; omega)); (case hbind => exact BindsTo.of_eq rfl); (case hloc => rfl); (case hco => rfl); (case hgen => rfl); (case hk => rfl); (case hcell => decide)))
local macro_rules | `(tactic| walk_at "exec While Compare cons nil") => `(tactic| refine stop_intro ?_)
local macro_rules | `(tactic| k_all) => `(tactic| assumption)
local macro_rules | `(tactic| walk_at "assign Subscript") => `(tactic| refine stop_intro ?_)
local macro_rules | `(tactic| walk_at "MY names") => `(tactic| (simp only [List.forall_mem_cons, List.not_mem_nil, false_implies, implies_true, and_true]; (repeat' apply And.intro) <;> first | rfl | assumption))

section
variable {prog : Program} {w : World} {A : Around} {s : Shared} {h₀ : Heap} {L : Addr} {m : Str → Option Value} {news : List (Addr × Obj)} {E : Value → Shared → Prop} {Q : Value → Shared → Prop}
theorem fin_stream2 {P : Prop} {S : Addr} {h₀ h : Heap} {L : Addr} {a b d e f g t c : Addr × Obj} {r : List (Addr × Obj)} (_N : News h₀ L h (a :: b :: d :: e :: f :: g :: t :: c :: r)) (spec : StreamSpec prog w S a.1 d.1 [a, c, e, f, g]) (k : StreamSpec prog w S a.1 d.1 [a, c, e, f, g] → P) : P := k spec

theorem stream_call2 {b : Array UInt8} {t : Tok} {cc : Addr} {oc : Obj} (C : Here w A h₀ L) (hdp : A.depth + 3 < recursionLimit) (hun : A.units + 80 < cLine) (F : Fr h₀ L s.heap m) (N : News h₀ L s.heap ((189, tabObj #[rawInt 211, rawInt 4, Value.ref cc]) :: (cc, oc) :: news)) (hCO : CodeObj oc)
   (hQ : ∀ S fr lL SF h' tk' news', StreamSpec prog w S fr lL SF → (∀ p ∈ SF, p ∈ news') → (∀ p ∈ news, p ∈ news') → (189, tabObj #[rawInt 211, rawInt 4, Value.ref cc]) ∈ news' → (lL, LO [.bytes b t] 0) ∈ news' → (∀ p ∈ news, p.1 < lL) → 189 < lL → Fr h₀ L h' m → News h₀ L h' news' → Q (.ref S) { s with heap := h', toks := tk' }) :
   wpAny (model prog w) A (call (.ref 194) [.bytes b t]) Q E s := by
  obtain ⟨hdd, dp, fr, gs, un⟩ := A
  cases (show hdd = none from C.hh)
  refine' enterC [("octets", .bytes b t)] C F N ?ho ?hcd ?hroom ?hbind ?hkind ?hnd ?hco ?hgen ?hk ?h
  (case ho => k_dflt k_is); (case hcd => k_dflt k_is); (case hroom => first | omega | (simp only [depth_deeper]; omega)); (case hbind => exact BindsTo.of_eq rfl); (case hkind => rfl); (case hnd => decide +kernel); (case hco => rfl); (case hgen => rfl); (case hk => rfl)
  intro g L' h₁ tk cells C' F' N' Y' pm lt'
  obtain ⟨A₀, base, outer, env, p, loose, mean, mg, mb, B, X, T, hA, hf, hke⟩ := C'.ex
  have hCH : CodeHd g 193 189 := codeHd_of_K X (by kernel_rfl)
  have hn1 : ∀ p ∈ news, p.1 ≠ L' + 1 := fun p hp e => by have := lt' p (.tail _ (.tail _ hp)); rw [e] at this; exact absurd this (by have : L' < L' + 1 := Nat.lt_succ_self _; exact Nat.lt_asymm this)
  have lt'' := lt'
  k_lt lt'
  k_cells Y'
  simp only [List.cons_append, List.nil_append] at N'
  k_steps
  rename_i hN
  k_dflt (refine' call_cls ?k1 ?k2 ?k3 ?k4 ?k5 ?k6 ?_; (case k1 => k_asm); (case k2 => k_asm); (case k3 => k_asm); (case k4 => k_is); (case k5 => k_is); (case k6 => k_is); k_whole)
  intro x' d' h2 F2 N2 l1 l2
  k_lt l1
  k_lt2 l2
  have hn2 : ∀ p ∈ news, p.1 ≠ d' := fun p hp e => by have := lt'' p (.tail _ (.tail _ hp)); rw [e] at this; have h3 : L' + 1 < d' := l1.1; exact absurd this (Nat.not_lt.mpr (Nat.le_of_lt (Nat.lt_of_succ_lt h3)))
  refine' code_def ?k1 ?k2 ?k3 ?k4 ?k5 ?kA ?kF ?kK ?k6 ?k7 ?k8 ?k9 ?kB ?_ ?c2 ?c3 ?c4 ?c5
  (case kA => exact hA); (case kF => exact hf); (case kK => exact hke); (case k1 => k_asm); (case k2 => k_asm); (case k3 => k_asm); (case k4 => k_asm); (case k5 => k_asm); (case k6 => k_dflt k_is); (case k7 => k_dflt k_is); (case k8 => (simp only [depth_under_make, depth_deeper]; dsimp only at hdp; omega)); (case k9 => exact BindsTo.of_eq rfl); (case c5 => decide); (case kB => exact locs rfl); (case c2 => exact rfl); (case c3 => exact rfl); (case c4 => exact rfl)
  intro g2 L2 h3 FG3 F3 N3 B3 X3 T3
  k_steps
  rename_i l' h5 l1a D' h4 l1b ha hb hc o' dcell f' ct dc hx tkx l1c h6 h7 F4 N4
  obtain ⟨vs, tq, d1, d2⟩ := hCO
  refine fin_stream2 (prog := prog) (w := w) (S := x') N4 ?spec ?k
  case k =>
    intro spec
    refine Ret.intro pm F4 N4 fun F5 N5 => hQ _ _ _ _ _ _ _ spec ?_ ?_ ?_ ?_ ?_ ?_ F5 N5
    · intro p hp
      simp only [List.mem_cons, List.not_mem_nil, or_false] at hp ⊢
      rcases hp with h | h | h | h | h <;> simp [h]
    · intro p hp; simp [hp]
    · exact .tail _ (.tail _ (.tail _ (.tail _ (.tail _ (.tail _ (.head _))))))
    · exact .tail _ (.tail _ (.head _))
    · intro p hp; have := lt'' p (.tail _ (.tail _ hp)); exact Nat.lt_trans this (Nat.lt_of_succ_lt l1a.2.2.1)
    · exact l1a.2.2.2.1
  case spec =>
    refine ⟨?o1, ?o2, ?o3, ?o4⟩
    case o1 =>
      intro p hp
      simp only [List.mem_cons, List.not_mem_nil, or_false] at hp
      have a1 := l1a.1
      have a2 := l1a.2.1
      have a3 := l1a.2.2.1
      have a4 := l1b.1
      have a5 := l1c.1
      have a6 := l1a.2.2.2.2.1
      simp only [Addr] at *
      rcases hp with h | h | h | h | h <;> rw [h] <;> dsimp only <;> first | done | omega
    case o2 =>
      intro h hp
      exact ⟨_, _, _, _, hp _ (.head _)⟩
    case o3 =>
      intro A h₀ L m s pl Q E C F hp hQ
      obtain ⟨A₀, base, outer, env, p, loose, mean, mg, mb, B, X, T, hA, hf, hke⟩ := C.ex
      have I : W.InstAt s.heap x' (instObj 101 d') 101 (some _) := ⟨hp _ (.tail _ (.tail _ (.head _))), rfl, rfl, hp _ (.tail _ (.tail _ (.tail _ (.head _))))⟩
      refine method_usual (r := none) (X.keeps F.keep) I (by k_dflt k_is) (by k_dflt k_is) (by k_dflt k_is) rfl ?_
      k_dflt (refine' get_own ?k1 ?k2 ?k3 ?k4 ?k5 ?k6 ?k7 ?k8 ?k9 ?_; (case k1 => exact F); (case k2 => exact X); (case k3 => exact I); (case k4 => k_is); (case k5 => k_is); (case k6 => k_is); (case k7 => k_is); (case k8 => k_get); (case k9 => k_handed))
      exact hQ _
    case o4 =>
      intro A h₀ L m s news Q E b t t' n k C hdp hun F N hSF hD hbz hk hQ
      obtain ⟨hdd, dp2, fr2, gs2, un2⟩ := A
      cases (show hdd = none from C.hh)
      refine' enterX (binds := [("count", .int k t')]) C F N ?ho ?hdt ?hcd ?hroom ?hbind ?hloc ?hco ?hgen ?hk ?hcell ?h
      case ho => exact (N _ (hSF _ (.head _))).1
      case hdt => rfl
      case hcd => exact ⟨cc, oc, vs, tq, rfl, (N _ (hSF _ (.tail _ (.head _)))).1, d1, d2⟩
      case hroom => dsimp only at hdp ⊢; omega
      case hbind => exact BindsTo.of_eq rfl
      case hloc => exact locs rfl
      (case hco => rfl); (case hgen => rfl); (case hk => rfl); (case hcell => decide)
      intro g L' h₁ C' F' N' pm lt'
      obtain ⟨A₀, base, outer, env, p, loose, mean, mg, mb, B, X, T, hA, hf, hke⟩ := C'.ex
      have hcell : (_, o') ∈ news := hSF _ (.tail _ (.tail _ (.tail _ (.tail _ (.head _)))))
      k_steps
      refine item_N N' hD 0 (by rfl) (by decide) (by rfl) ?_
      k_steps
      refine KBc.slice_K (s := ⟨_, _, _, _, _⟩) (ks := KBw.bInts b) F' N' rfl (by constructor) (by constructor) (by rw [KBw.ints_length]; omega) ?_
      intro h8 t8 k8 F8 N8 _
      rw [picked_hi]
      k_steps
      refine item_N N8 hD 0 (by rfl) (by decide) (by rfl) ?_
      k_steps
      refine KBc.slice_K (s := ⟨_, _, _, _, _⟩) (ks := KBw.bInts b) F8 N8 rfl (by constructor) (by constructor) (by rw [KBw.ints_length]; omega) ?_
      intro h9 t9 k9 F9 N9 _
      rw [picked_lo]
      k_steps
      rename_i D2 h10 l10 h11 F11 N11
      unfold Stop
      have N12 : News g L' h11 news := fun p hp => N11 p (.tail _ hp)
      clear N11
      dsimp only
      with_reducible refine kas_sub ?_
      k_steps
      refine set_N F11 N12 hD 0 (by rfl) (by decide) (by simp) ?_
      intro h12 F12 N13
      k_steps
      exact Ret.intro pm F12 N13 fun F14 N14 => hQ _ _ _ _ F14 N14
end
end Mine

-- C7
namespace Mine
theorem fillme7 (w : World) : (hd.heap_39 w.params) = (hd.heap_39 w.params) ∧ PySem.Challenge.rw_kl0171_01 = PySem.Challenge.rw_kl0171_01 := by
  k_fill
  exact ⟨rfl, rfl⟩
local macro_rules | `(tactic| walk_at "MY enter") => `(tactic| (
  (case ho => k_dflt k_is); (case hcd => k_dflt k_is); (case hroom => first | omega | (simp only [depth_deeper]; omega)); (case hbind => exact BindsTo.of_eq rfl); (case hloc => rfl); (case hco => rfl); (case hgen => rfl); (case hk => rfl); (case hcell => decide)))
local macro_rules | `(tactic| walk_at "call ref cons nil") => `(tactic| refine stop_intro ?_)
theorem mem_of {h₀ h : Heap} {L : Addr} {news SF : List (Addr × Obj)} (N : News h₀ L h news) (hs : ∀ p ∈ SF, p ∈ news) : ∀ p ∈ SF, h.get? p.1 = some p.2 := fun p hp => (N p (hs p hp)).1
local macro_rules | `(tactic| walk_at "getMethod ref") => `(tactic| (refine' StreamSpec.get ?sp ?c ?f ?mem ?_; (case sp => assumption); (case f => assumption); (case c => assumption); (case mem => exact mem_of (by assumption) (by assumption)); intro _; dsimp only))
local macro_rules | `(tactic| walk_at "callWith ref") => `(tactic| (refine' callWith_F ?fn ?_; (case fn => exact StreamSpec.fn (by assumption) _ (mem_of (by assumption) (by assumption)))))
local macro_rules | `(tactic| walk_at "And") => `(tactic| (refine ⟨StreamSpec.fn (by assumption) _ (mem_of (by assumption) (by assumption)), ?_⟩; try dsimp only [List.nil_append, List.cons_append]))
section
variable {prog : Program} {w : World} {A : Around} {s : Shared} {h₀ : Heap} {L : Addr} {m : Str → Option Value} {news : List (Addr × Obj)} {E : Value → Shared → Prop} {Q : Value → Shared → Prop}
theorem le_one {b : Array UInt8} (hz : b.size = 1) : (KBw.bInts b).getD (Int.toNat 0) 0 = Builtin.Memoryview.littleEndian b := by
  obtain ⟨l⟩ := b
  match l, hz with
  | [x], _ => simp [KBw.bInts, Builtin.Memoryview.littleEndian]
theorem read1_call {S fr lL : Addr} {SF : List (Addr × Obj)} {b : Array UInt8} {t : Tok} {n : Nat} (C : Here w A h₀ L) (hdp : A.depth + 3 < recursionLimit) (hun : A.units + 80 < cLine) (F : Fr h₀ L s.heap m) (N : News h₀ L s.heap news)
   (SP : StreamSpec prog w S fr lL SF) (hSF : ∀ p ∈ SF, p ∈ news) (hD : (lL, LO [.bytes b t] n) ∈ news) (hbz : b.size < 2 ^ 20) (hb : 1 ≤ b.size)
   (hQ : ∀ h' tk t1 t2, Fr h₀ L h' m → News h₀ L h' (setL lL (LO [.bytes (b.extract 1 b.size) t2] n) news) → Q (.int (Builtin.Memoryview.littleEndian (b.extract 0 1)) t1) { s with heap := h', toks := tk }) :
   wpAny (model prog w) A (call (.ref 49) [.ref S]) Q E s := by
  obtain ⟨hdd, dp, frs, gs, un⟩ := A
  cases (show hdd = none from C.hh)
  refine' enterK [("f", .ref S)] C F N ?ho ?hcd ?hroom ?hbind ?hloc ?hco ?hgen ?hk ?hcell ?h
  walk_at "MY enter"
  intro g L' h₁ C' F' N' pm lt'
  obtain ⟨A₀, base, outer, env, p, loose, mean, mg, mb, B, X, T, hA, hf, hke⟩ := C'.ex
  k_steps
  unfold Stop
  refine SP.call C' (by dsimp only [Around.deeper] at hdp ⊢; omega) (by dsimp only [Around.deeper] at hun ⊢; omega) F' N' hSF hD hbz (by decide) ?_
  intro h2 tk2 t1 t2 F2 N2
  k_steps
  have hz : (b.extract 0 1).size = 1 := by simp; omega
  refine truthy_bytes (by rw [hz]; decide) ?_
  rw [hz]
  refine ite_pos (by decide) ?_
  k_steps
  refine KBw.item_K (ks := KBw.bInts (b.extract 0 1)) rfl (by rw [KBw.ints_length, hz]; decide) (by decide) (by rw [KBw.ints_length, hz]; decide) ?_
  intro t3 k3 _ _
  have e2 : (KBw.bInts (b.extract 0 1)).getD (Int.toNat 0) 0 = Builtin.Memoryview.littleEndian (b.extract 0 1) := le_one hz
  rw [e2]
  k_steps
  refine Ret.intro (news' := setL lL (LO [.bytes (b.extract 1 b.size) t2] n) news) pm (by assumption) (by assumption) fun F5 N5 => hQ _ _ _ _ F5 N5

theorem read1_fail {base : Heap} {env : Env} {outer : List Env} {p : Program} {loose : List Str} {mean : ExcName → Option Value} {mg mb : Str → Option Value} {S fr lL : Addr} {SF : List (Addr × Obj)} {b : Array UInt8} {t : Tok} {n : Nat} (C : At w A h₀ L base env outer p loose mean mg mb) (hdp : A.depth + 3 < recursionLimit) (hun : A.units + 80 < cLine) (F : Fr h₀ L s.heap m) (N : News h₀ L s.heap news)
   (SP : StreamSpec prog w S fr lL SF) (hSF : ∀ p ∈ SF, p ∈ news) (hD : (lL, LO [.bytes b t] n) ∈ news) (hbz : b.size < 2 ^ 20) (hb : b.size < 1)
   (hE : ∀ e tk h' g news', Fr h₀ L g m → g.UpToSlots h' → (∀ p ∈ news, p.1 ≠ lL → p ∈ news') → RaisedN base (env :: outer) e (.type "ValueError") news' h' → E (.ref e) { s with heap := h', toks := tk }) :
   wpAny (model prog w) A (call (.ref 49) [.ref S]) Q E s := by
  obtain ⟨hdd, dp, frs, gs, un⟩ := A
  cases (show hdd = none from C.hh)
  refine' enterA [("f", .ref S)] C F N ?ho ?hcd ?hroom ?hbind ?hloc ?hco ?hgen ?hk ?hcell ?h
  walk_at "MY enter"
  intro g L' h₁ CA BA FG F' N' pm lt'
  have C' := CA.here
  have X := CA.X
  have T := CA.T
  k_steps
  unfold Stop
  refine SP.call C' (by dsimp only [Around.deeper] at hdp ⊢; omega) (by dsimp only [Around.deeper] at hun ⊢; omega) F' N' hSF hD hbz (by decide) ?_
  intro h2 tk2 t1 t2 F2 N2
  k_steps
  have hz : (b.extract 0 1).size = b.size := by simp; omega
  refine truthy_bytes (by rw [hz]; omega) ?_
  rw [hz]
  have hz0 : b.size = 0 := by omega
  rw [hz0]
  refine ite_neg (by decide) ?_
  k_steps
  rename_i R9 U9
  exact hE _ _ _ g _ FG U9 (fun p hp hne => mem_setL_ne hp hne) R9

theorem read2_call {S fr lL : Addr} {SF : List (Addr × Obj)} {b : Array UInt8} {t : Tok} {n : Nat} (C : Here w A h₀ L) (hdp : A.depth + 3 < recursionLimit) (hun : A.units + 80 < cLine) (F : Fr h₀ L s.heap m) (N : News h₀ L s.heap news)
   (SP : StreamSpec prog w S fr lL SF) (hSF : ∀ p ∈ SF, p ∈ news) (hD : (lL, LO [.bytes b t] n) ∈ news) (hbz : b.size < 2 ^ 20) (hb : 2 ≤ b.size)
   (hQ : ∀ h' tk t1 t2, Fr h₀ L h' m → News h₀ L h' (setL lL (LO [.bytes (b.extract 2 b.size) t2] n) news) → Q (.int (Builtin.Memoryview.littleEndian (b.extract 0 2)) t1) { s with heap := h', toks := tk }) :
   wpAny (model prog w) A (call (.ref 56) [.ref S]) Q E s := by
  obtain ⟨hdd, dp, frs, gs, un⟩ := A
  cases (show hdd = none from C.hh)
  refine' enterK [("f", .ref S)] C F N ?ho ?hcd ?hroom ?hbind ?hloc ?hco ?hgen ?hk ?hcell ?h
  walk_at "MY enter"
  intro g L' h₁ C' F' N' pm lt'
  obtain ⟨A₀, base, outer, env, p, loose, mean, mg, mb, B, X, T, hA, hf, hke⟩ := C'.ex
  k_steps
  unfold Stop
  refine SP.call C' (by dsimp only [Around.deeper] at hdp ⊢; omega) (by dsimp only [Around.deeper] at hun ⊢; omega) F' N' hSF hD hbz (by decide) ?_
  intro h2 tk2 t1 t2 F2 N2
  k_steps
  have hz : (b.extract 0 2).size = 2 := by simp; omega
  refine len_bytes (by rw [hz]; decide) ?_
  rw [hz]
  k_steps
  refine' call_unpack ?f3 ?n3 (F2.module_H _) hz (F2.unp_H _) ?_
  case f3 => assumption
  case n3 => assumption
  intro D3 h3 tk3 t3 F4 N4 l4
  k_steps
  have e2 : (b.extract 0 2).extract 0 2 = b.extract 0 2 := by rw [Array.extract_extract]; simp
  rw [e2]
  exact Ret.intro pm F4 (fun p hp => N4 p (.tail _ hp)) fun F5 N5 => hQ _ _ _ _ F5 N5

theorem read2_fail {base : Heap} {env : Env} {outer : List Env} {p : Program} {loose : List Str} {mean : ExcName → Option Value} {mg mb : Str → Option Value} {S fr lL : Addr} {SF : List (Addr × Obj)} {b : Array UInt8} {t : Tok} {n : Nat} (C : At w A h₀ L base env outer p loose mean mg mb) (hdp : A.depth + 3 < recursionLimit) (hun : A.units + 80 < cLine) (F : Fr h₀ L s.heap m) (N : News h₀ L s.heap news)
   (SP : StreamSpec prog w S fr lL SF) (hSF : ∀ p ∈ SF, p ∈ news) (hD : (lL, LO [.bytes b t] n) ∈ news) (hbz : b.size < 2 ^ 20) (hb : b.size < 2)
   (hE : ∀ e tk h' g news', Fr h₀ L g m → g.UpToSlots h' → (∀ p ∈ news, p.1 ≠ lL → p ∈ news') → RaisedN base (env :: outer) e (.type "ValueError") news' h' → E (.ref e) { s with heap := h', toks := tk }) :
   wpAny (model prog w) A (call (.ref 56) [.ref S]) Q E s := by
  obtain ⟨hdd, dp, frs, gs, un⟩ := A
  cases (show hdd = none from C.hh)
  refine' enterA [("f", .ref S)] C F N ?ho ?hcd ?hroom ?hbind ?hloc ?hco ?hgen ?hk ?hcell ?h
  walk_at "MY enter"
  intro g L' h₁ CA BA FG F' N' pm lt'
  have C' := CA.here
  have X := CA.X
  have T := CA.T
  k_steps
  unfold Stop
  refine SP.call C' (by dsimp only [Around.deeper] at hdp ⊢; omega) (by dsimp only [Around.deeper] at hun ⊢; omega) F' N' hSF hD hbz (by decide) ?_
  intro h2 tk2 t1 t2 F2 N2
  k_steps
  have hz : (b.extract 0 2).size = b.size := by simp; omega
  refine len_bytes (by rw [hz]; omega) ?_
  rw [hz]
  k_steps
  · exfalso; omega
  k_steps
  rename_i R9 U9
  exact hE _ _ _ g _ FG U9 (fun p hp hne => mem_setL_ne hp hne) R9

theorem read4_call {S fr lL : Addr} {SF : List (Addr × Obj)} {b : Array UInt8} {t : Tok} {n : Nat} (C : Here w A h₀ L) (hdp : A.depth + 3 < recursionLimit) (hun : A.units + 80 < cLine) (F : Fr h₀ L s.heap m) (N : News h₀ L s.heap news)
   (SP : StreamSpec prog w S fr lL SF) (hSF : ∀ p ∈ SF, p ∈ news) (hD : (lL, LO [.bytes b t] n) ∈ news) (hbz : b.size < 2 ^ 20) (hb : 4 ≤ b.size)
   (hQ : ∀ h' tk t1 t2, Fr h₀ L h' m → News h₀ L h' (setL lL (LO [.bytes (b.extract 4 b.size) t2] n) news) → Q (.int (Builtin.Memoryview.littleEndian (b.extract 0 4)) t1) { s with heap := h', toks := tk }) :
   wpAny (model prog w) A (call (.ref 63) [.ref S]) Q E s := by
  obtain ⟨hdd, dp, frs, gs, un⟩ := A
  cases (show hdd = none from C.hh)
  refine' enterK [("f", .ref S)] C F N ?ho ?hcd ?hroom ?hbind ?hloc ?hco ?hgen ?hk ?hcell ?h
  walk_at "MY enter"
  intro g L' h₁ C' F' N' pm lt'
  obtain ⟨A₀, base, outer, env, p, loose, mean, mg, mb, B, X, T, hA, hf, hke⟩ := C'.ex
  k_steps
  unfold Stop
  refine SP.call C' (by dsimp only [Around.deeper] at hdp ⊢; omega) (by dsimp only [Around.deeper] at hun ⊢; omega) F' N' hSF hD hbz (by decide) ?_
  intro h2 tk2 t1 t2 F2 N2
  k_steps
  have hz : (b.extract 0 4).size = 4 := by simp; omega
  refine len_bytes (by rw [hz]; decide) ?_
  rw [hz]
  k_steps
  refine' call_unpack ?f3 ?n3 (F2.module_I _) hz (F2.unp_I _) ?_
  case f3 => assumption
  case n3 => assumption
  intro D3 h3 tk3 t3 F4 N4 l4
  k_steps
  have e2 : (b.extract 0 4).extract 0 4 = b.extract 0 4 := by rw [Array.extract_extract]; simp
  rw [e2]
  exact Ret.intro pm F4 (fun p hp => N4 p (.tail _ hp)) fun F5 N5 => hQ _ _ _ _ F5 N5

theorem read4_fail {base : Heap} {env : Env} {outer : List Env} {p : Program} {loose : List Str} {mean : ExcName → Option Value} {mg mb : Str → Option Value} {S fr lL : Addr} {SF : List (Addr × Obj)} {b : Array UInt8} {t : Tok} {n : Nat} (C : At w A h₀ L base env outer p loose mean mg mb) (hdp : A.depth + 3 < recursionLimit) (hun : A.units + 80 < cLine) (F : Fr h₀ L s.heap m) (N : News h₀ L s.heap news)
   (SP : StreamSpec prog w S fr lL SF) (hSF : ∀ p ∈ SF, p ∈ news) (hD : (lL, LO [.bytes b t] n) ∈ news) (hbz : b.size < 2 ^ 20) (hb : b.size < 4)
   (hE : ∀ e tk h' g news', Fr h₀ L g m → g.UpToSlots h' → (∀ p ∈ news, p.1 ≠ lL → p ∈ news') → RaisedN base (env :: outer) e (.type "ValueError") news' h' → E (.ref e) { s with heap := h', toks := tk }) :
   wpAny (model prog w) A (call (.ref 63) [.ref S]) Q E s := by
  obtain ⟨hdd, dp, frs, gs, un⟩ := A
  cases (show hdd = none from C.hh)
  refine' enterA [("f", .ref S)] C F N ?ho ?hcd ?hroom ?hbind ?hloc ?hco ?hgen ?hk ?hcell ?h
  walk_at "MY enter"
  intro g L' h₁ CA BA FG F' N' pm lt'
  have C' := CA.here
  have X := CA.X
  have T := CA.T
  k_steps
  unfold Stop
  refine SP.call C' (by dsimp only [Around.deeper] at hdp ⊢; omega) (by dsimp only [Around.deeper] at hun ⊢; omega) F' N' hSF hD hbz (by decide) ?_
  intro h2 tk2 t1 t2 F2 N2
  k_steps
  have hz : (b.extract 0 4).size = b.size := by simp; omega
  refine len_bytes (by rw [hz]; omega) ?_
  rw [hz]
  k_steps
  · exfalso; omega
  k_steps
  rename_i R9 U9
  exact hE _ _ _ g _ FG U9 (fun p hp hne => mem_setL_ne hp hne) R9

theorem read8_call {S fr lL : Addr} {SF : List (Addr × Obj)} {b : Array UInt8} {t : Tok} {n : Nat} (C : Here w A h₀ L) (hdp : A.depth + 3 < recursionLimit) (hun : A.units + 80 < cLine) (F : Fr h₀ L s.heap m) (N : News h₀ L s.heap news)
   (SP : StreamSpec prog w S fr lL SF) (hSF : ∀ p ∈ SF, p ∈ news) (hD : (lL, LO [.bytes b t] n) ∈ news) (hbz : b.size < 2 ^ 20) (hb : 8 ≤ b.size)
   (hQ : ∀ h' tk t1 t2, Fr h₀ L h' m → News h₀ L h' (setL lL (LO [.bytes (b.extract 8 b.size) t2] n) news) → Q (.int (Builtin.Memoryview.littleEndian (b.extract 0 8)) t1) { s with heap := h', toks := tk }) :
   wpAny (model prog w) A (call (.ref 70) [.ref S]) Q E s := by
  obtain ⟨hdd, dp, frs, gs, un⟩ := A
  cases (show hdd = none from C.hh)
  refine' enterK [("f", .ref S)] C F N ?ho ?hcd ?hroom ?hbind ?hloc ?hco ?hgen ?hk ?hcell ?h
  walk_at "MY enter"
  intro g L' h₁ C' F' N' pm lt'
  obtain ⟨A₀, base, outer, env, p, loose, mean, mg, mb, B, X, T, hA, hf, hke⟩ := C'.ex
  k_steps
  unfold Stop
  refine SP.call C' (by dsimp only [Around.deeper] at hdp ⊢; omega) (by dsimp only [Around.deeper] at hun ⊢; omega) F' N' hSF hD hbz (by decide) ?_
  intro h2 tk2 t1 t2 F2 N2
  k_steps
  have hz : (b.extract 0 8).size = 8 := by simp; omega
  refine len_bytes (by rw [hz]; decide) ?_
  rw [hz]
  k_steps
  refine' call_unpack ?f3 ?n3 (F2.module_Q _) hz (F2.unp_Q _) ?_
  case f3 => assumption
  case n3 => assumption
  intro D3 h3 tk3 t3 F4 N4 l4
  k_steps
  have e2 : (b.extract 0 8).extract 0 8 = b.extract 0 8 := by rw [Array.extract_extract]; simp
  rw [e2]
  exact Ret.intro pm F4 (fun p hp => N4 p (.tail _ hp)) fun F5 N5 => hQ _ _ _ _ F5 N5

theorem read8_fail {base : Heap} {env : Env} {outer : List Env} {p : Program} {loose : List Str} {mean : ExcName → Option Value} {mg mb : Str → Option Value} {S fr lL : Addr} {SF : List (Addr × Obj)} {b : Array UInt8} {t : Tok} {n : Nat} (C : At w A h₀ L base env outer p loose mean mg mb) (hdp : A.depth + 3 < recursionLimit) (hun : A.units + 80 < cLine) (F : Fr h₀ L s.heap m) (N : News h₀ L s.heap news)
   (SP : StreamSpec prog w S fr lL SF) (hSF : ∀ p ∈ SF, p ∈ news) (hD : (lL, LO [.bytes b t] n) ∈ news) (hbz : b.size < 2 ^ 20) (hb : b.size < 8)
   (hE : ∀ e tk h' g news', Fr h₀ L g m → g.UpToSlots h' → (∀ p ∈ news, p.1 ≠ lL → p ∈ news') → RaisedN base (env :: outer) e (.type "ValueError") news' h' → E (.ref e) { s with heap := h', toks := tk }) :
   wpAny (model prog w) A (call (.ref 70) [.ref S]) Q E s := by
  obtain ⟨hdd, dp, frs, gs, un⟩ := A
  cases (show hdd = none from C.hh)
  refine' enterA [("f", .ref S)] C F N ?ho ?hcd ?hroom ?hbind ?hloc ?hco ?hgen ?hk ?hcell ?h
  walk_at "MY enter"
  intro g L' h₁ CA BA FG F' N' pm lt'
  have C' := CA.here
  have X := CA.X
  have T := CA.T
  k_steps
  unfold Stop
  refine SP.call C' (by dsimp only [Around.deeper] at hdp ⊢; omega) (by dsimp only [Around.deeper] at hun ⊢; omega) F' N' hSF hD hbz (by decide) ?_
  intro h2 tk2 t1 t2 F2 N2
  k_steps
  have hz : (b.extract 0 8).size = b.size := by simp; omega
  refine len_bytes (by rw [hz]; omega) ?_
  rw [hz]
  k_steps
  · exfalso; omega
  k_steps
  rename_i R9 U9
  exact hE _ _ _ g _ FG U9 (fun p hp hne => mem_setL_ne hp hne) R9

end
end Mine

-- C8
namespace Mine
theorem fillme8 (w : World) : (hd.heap_39 w.params) = (hd.heap_39 w.params) ∧ PySem.Challenge.rw_kl0171_01 = PySem.Challenge.rw_kl0171_01 := by
  k_fill
  exact ⟨rfl, rfl⟩
local macro_rules | `(tactic| walk_at "MY enter") => `(tactic| (
  (case ho => k_dflt k_is); (case hcd => k_dflt k_is); (case hroom => first | omega | (simp only [depth_deeper]; omega)); (case hbind => exact BindsTo.of_eq rfl); (case hloc => rfl); (case hco => rfl); (case hgen => rfl); (case hk => rfl); (case hcell => decide)))
local macro_rules | `(tactic| walk_at "call ref cons nil") => `(tactic| refine stop_intro ?_)
section
variable {prog : Program} {w : World} {A : Around} {s : Shared} {h₀ : Heap} {L : Addr} {m : Str → Option Value} {news : List (Addr × Obj)} {E : Value → Shared → Prop} {Q : Value → Shared → Prop}
theorem decode_call {b : Array UInt8} {t : Tok} (C : Here w A h₀ L) (hdp : A.depth + 3 < recursionLimit) (hun : A.units + 80 < cLine) (F : Fr h₀ L s.heap m) (N : News h₀ L s.heap news)
   (hbz : b.size ≤ 8)
   (hQ : ∀ h' tk t1, Fr h₀ L h' m → News h₀ L h' news → Q (.int (sle b) t1) { s with heap := h', toks := tk }) :
   wpAny (model prog w) A (call (.ref 77) [.bytes b t]) Q E s := by
  obtain ⟨hdd, dp, frs, gs, un⟩ := A
  cases (show hdd = none from C.hh)
  refine' enterK [("data", .bytes b t)] C F N ?ho ?hcd ?hroom ?hbind ?hloc ?hco ?hgen ?hk ?hcell ?h
  walk_at "MY enter"
  intro g L' h₁ C' F' N' pm lt'
  obtain ⟨A₀, base, outer, env, p, loose, mean, mg, mb, B, X, T, hA, hf, hke⟩ := C'.ex
  k_steps
  rename_i x9 h9 F9 N9 l9
  refine callWith_boundK (by rfl) ?_
  k_steps
  refine call_signed (KFB.at_of N9 (.head _)) hbz ?_
  k_steps
  exact Ret.intro pm F9 (fun p hp => N9 p (.tail _ hp)) fun F5 N5 => hQ _ _ _ F5 N5
end
end Mine

-- C9
namespace Mine
theorem fillme9 (w : World) : (hd.heap_39 w.params) = (hd.heap_39 w.params) ∧ PySem.Challenge.rw_kl0171_01 = PySem.Challenge.rw_kl0171_01 := by
  k_fill
  exact ⟨rfl, rfl⟩
local macro_rules | `(tactic| walk_at "MY enter") => `(tactic| (
  (case ho => k_dflt k_is); (case hcd => k_dflt k_is); (case hroom => first | omega | (simp only [depth_deeper]; omega)); (case hbind => exact BindsTo.of_eq rfl); (case hloc => rfl); (case hco => rfl); (case hgen => rfl); (case hk => rfl); (case hcell => decide)))
local macro_rules | `(tactic| walk_at "call ref cons nil") => `(tactic| refine stop_intro ?_)
local macro_rules | `(tactic| walk_at "getMethod ref") => `(tactic| (refine' StreamSpec.get ?sp ?c ?f ?mem ?_; (case sp => assumption); (case f => assumption); (case c => assumption); (case mem => exact mem_of (by assumption) (by assumption)); intro _; dsimp only))
local macro_rules | `(tactic| walk_at "callWith ref") => `(tactic| (refine' callWith_F ?fn ?_; (case fn => exact StreamSpec.fn (by assumption) _ (mem_of (by assumption) (by assumption)))))
local macro_rules | `(tactic| walk_at "And") => `(tactic| (refine ⟨StreamSpec.fn (by assumption) _ (mem_of (by assumption) (by assumption)), ?_⟩; try dsimp only [List.nil_append, List.cons_append]))
section
variable {prog : Program} {w : World} {A : Around} {s : Shared} {h₀ : Heap} {L : Addr} {m : Str → Option Value} {news : List (Addr × Obj)} {E : Value → Shared → Prop} {Q : Value → Shared → Prop}
theorem ext_lo (b : Array UInt8) (c : Nat) (h : 1 + c ≤ b.size) : (b.extract 1 b.size).extract 0 c = b.extract 1 (1 + c) := by
  rw [Array.extract_extract]
  congr 1
  omega
theorem ext_hi (b : Array UInt8) (c : Nat) : (b.extract 1 b.size).extract c (b.extract 1 b.size).size = b.extract (1 + c) b.size := by
  rw [Array.extract_extract]
  congr 1
  simp; omega
theorem readL_call {S fr lL : Addr} {SF : List (Addr × Obj)} {b : Array UInt8} {t : Tok} {n c : Nat} (C : Here w A h₀ L) (hdp : A.depth + 5 < recursionLimit) (hun : A.units + 100 < cLine) (F : Fr h₀ L s.heap m) (N : News h₀ L s.heap news)
   (SP : StreamSpec prog w S fr lL SF) (hSF : ∀ p ∈ SF, p ∈ news) (hD : (lL, LO [.bytes b t] n) ∈ news) (hbz : b.size < 2 ^ 20) (hc : Builtin.Memoryview.littleEndian (b.extract 0 1) = c) (hc8 : c ≤ 8) (hb : 1 + c ≤ b.size)
   (hQ : ∀ h' tk t1 t2, Fr h₀ L h' m → News h₀ L h' (setL lL (LO [.bytes (b.extract (1 + c) b.size) t2] n) news) → Q (.int (sle (b.extract 1 (1 + c))) t1) { s with heap := h', toks := tk }) :
   wpAny (model prog w) A (call (.ref 84) [.ref S]) Q E s := by
  obtain ⟨hdd, dp, frs, gs, un⟩ := A
  cases (show hdd = none from C.hh)
  refine' enterK [("f", .ref S)] C F N ?ho ?hcd ?hroom ?hbind ?hloc ?hco ?hgen ?hk ?hcell ?h
  walk_at "MY enter"
  intro g L' h₁ C' F' N' pm lt'
  obtain ⟨A₀, base, outer, env, p, loose, mean, mg, mb, B, X, T, hA, hf, hke⟩ := C'.ex
  have off : ∀ (o : Obj), ∀ p ∈ SF, p ∈ setL lL o news := fun o p hp => mem_setL_ne (hSF p hp) (SP.off p hp)
  k_steps
  unfold Stop
  refine read1_call C' (by dsimp only [Around.deeper] at hdp ⊢; omega) (by dsimp only [Around.deeper] at hun ⊢; omega) F' N' SP hSF hD hbz (by omega) ?_
  intro h2 tk2 t1 t2 F2 N2
  rw [hc]
  have off2 := off (LO [.bytes (b.extract 1 b.size) t2] n)
  k_steps
  unfold Stop
  refine SP.call C' (by dsimp only [Around.deeper] at hdp ⊢; omega) (by dsimp only [Around.deeper] at hun ⊢; omega) (by assumption) (by assumption) off2 (mem_setL_self hD) (by simp; omega) (by omega) ?_
  intro h3 tk3 t3 t4 F3 N3
  rw [setL_setL, ext_hi] at N3
  rw [ext_lo b c hb]
  k_steps
  have hz : (b.extract 1 (1 + c)).size = c := by simp; omega
  refine len_bytes (by rw [hz]; omega) ?_
  rw [hz]
  k_steps
  · exfalso; omega
  unfold Stop
  refine decode_call C' (by dsimp only [Around.deeper] at hdp ⊢; omega) (by dsimp only [Around.deeper] at hun ⊢; omega) (by assumption) (by assumption) (by rw [hz]; omega) ?_
  intro h4 tk4 t5 F4 N4
  k_steps
  exact Ret.intro pm F4 N4 fun F5 N5 => hQ _ _ _ _ F5 N5
theorem readL_fail {base : Heap} {env : Env} {outer : List Env} {p : Program} {loose : List Str} {mean : ExcName → Option Value} {mg mb : Str → Option Value} {S fr lL : Addr} {SF : List (Addr × Obj)} {b : Array UInt8} {t : Tok} {n c : Nat} (C : At w A h₀ L base env outer p loose mean mg mb) (hdp : A.depth + 5 < recursionLimit) (hun : A.units + 100 < cLine) (F : Fr h₀ L s.heap m) (N : News h₀ L s.heap news)
   (SP : StreamSpec prog w S fr lL SF) (hSF : ∀ p ∈ SF, p ∈ news) (hD : (lL, LO [.bytes b t] n) ∈ news) (hbz : b.size < 2 ^ 20) (hc : Builtin.Memoryview.littleEndian (b.extract 0 1) = c) (hc8 : c ≤ 8) (hb1 : 1 ≤ b.size) (hb : b.size < 1 + c)
   (hE : ∀ e tk h' g news', Fr h₀ L g m → g.UpToSlots h' → (∀ p ∈ news, p.1 ≠ lL → p ∈ news') → RaisedN base (env :: outer) e (.type "ValueError") news' h' → E (.ref e) { s with heap := h', toks := tk }) :
   wpAny (model prog w) A (call (.ref 84) [.ref S]) Q E s := by
  obtain ⟨hdd, dp, frs, gs, un⟩ := A
  cases (show hdd = none from C.hh)
  refine' enterA [("f", .ref S)] C F N ?ho ?hcd ?hroom ?hbind ?hloc ?hco ?hgen ?hk ?hcell ?h
  walk_at "MY enter"
  intro g L' h₁ CA BA FG F' N' pm lt'
  have C' := CA.here
  have X := CA.X
  have T := CA.T
  have off : ∀ (o : Obj), ∀ p ∈ SF, p ∈ setL lL o news := fun o p hp => mem_setL_ne (hSF p hp) (SP.off p hp)
  k_steps
  unfold Stop
  refine read1_call C' (by dsimp only [Around.deeper] at hdp ⊢; omega) (by dsimp only [Around.deeper] at hun ⊢; omega) F' N' SP hSF hD hbz (by omega) ?_
  intro h2 tk2 t1 t2 F2 N2
  rw [hc]
  have off2 := off (LO [.bytes (b.extract 1 b.size) t2] n)
  k_steps
  unfold Stop
  refine SP.call C' (by dsimp only [Around.deeper] at hdp ⊢; omega) (by dsimp only [Around.deeper] at hun ⊢; omega) (by assumption) (by assumption) off2 (mem_setL_self hD) (by simp; omega) (by omega) ?_
  intro h3 tk3 t3 t4 F3 N3
  rw [setL_setL] at N3
  k_steps
  have hz : ((b.extract 1 b.size).extract 0 c).size = b.size - 1 := by simp; omega
  refine len_bytes (by rw [hz]; omega) ?_
  rw [hz]
  k_steps
  · rename_i R9 U9
    exact hE _ _ _ g _ FG U9 (fun p hp hne => mem_setL_ne hp hne) R9
  · exfalso; omega
end
end Mine

-- C10
namespace Mine
theorem fillme10 (w : World) : (hd.heap_39 w.params) = (hd.heap_39 w.params) ∧ PySem.Challenge.rw_kl0171_01 = PySem.Challenge.rw_kl0171_01 := by
  k_fill
  exact ⟨rfl, rfl⟩
local macro_rules | `(tactic| walk_at "MY enter") => `(tactic| (
  (case ho => k_dflt k_is); (case hcd => k_dflt k_is); (case hroom => first | omega | (simp only [depth_deeper]; omega)); (case hbind => exact BindsTo.of_eq rfl); (case hloc => rfl); (case hco => rfl); (case hgen => rfl); (case hk => rfl); (case hcell => decide)))
local macro_rules | `(tactic| walk_at "call ref cons nil") => `(tactic| refine stop_intro ?_)
theorem pow256_ne (n : Nat) : (256 : Int) ^ n ≠ 0 := by
  have : (256 : Int) ^ n = ((256 ^ n : Nat) : Int) := by simp
  rw [this]
  have h := Nat.pow_pos (n := n) (show 0 < 256 by decide)
  omega
theorem pow256_py {x : Int} {n : Nat} (h : n < 1000) : Builtin.divisionGoesByPylong x (256 ^ n) = false := by
  refine PyProof.noPylong_of_log2 ?_
  have e : (256 : Int) ^ n = ((256 ^ n : Nat) : Int) := by simp
  rw [e, Int.natAbs_natCast]
  have hp := Nat.pow_pos (n := n) (show 0 < 256 by decide)
  rw [Nat.log2_lt (by omega)]
  have : 256 ^ n = 2 ^ (8 * n) := by rw [Nat.pow_mul]
  rw [this]
  exact Nat.pow_lt_pow_right (by decide) (by omega)
local macro_rules | `(tactic| walk_at "binaryOp FloorDiv int int") => `(tactic| (refine floordiv_int (pow256_ne _) ?_ (Or.inl (pow256_py (by omega)))))
theorem e_toNat (c : Nat) : ((c : Int) - 0).toNat = c := by omega
theorem e_toNat2 (k : Nat) : ((0 : Int) + (k : Int)).toNat = k := by omega
theorem e_q (k : Nat) : (256 : Int) ^ k = ((256 ^ k : Nat) : Int) := (Int.natCast_pow 256 k).symm
theorem e_div (x q : Nat) : ((x : Int).fdiv (q : Int)).fmod 256 = ((x / q % 256 : Nat) : Int) := by
  rw [Int.fdiv_eq_ediv_of_nonneg _ (Int.natCast_nonneg q), Int.fmod_eq_emod_of_nonneg _ (by decide)]
  show ((x : Int) / (q : Int)) % ((256 : Nat) : Int) = _
  rw [← Int.natCast_ediv, ← Int.natCast_emod]
theorem octs_eq (x c : Nat) : (rangeKs 0 ((c : Int) - 0).toNat).map (fun k' => ((x : Int).fdiv (256 ^ k'.toNat)).fmod 256) = (List.range c).map fun k => ((x / 256 ^ k % 256 : Nat) : Int) := by
  rw [e_toNat, rangeKs, List.map_map]
  refine List.map_congr_left fun k _ => ?_
  show ((x : Int).fdiv (256 ^ ((0 : Int) + (k : Int)).toNat)).fmod 256 = _
  rw [e_toNat2, e_q, e_div]
theorem off1_ne {D : Addr} {l : List (Addr × Obj)} (h : LCg.Off1 D l) : ∀ p ∈ l, p.1 ≠ D := by
  induction l with
  | nil => exact fun _ hp => nomatch hp
  | cons q r ih =>
    intro p hp
    rcases List.mem_cons.mp hp with e | hp
    · exact e ▸ h.1
    · exact ih h.2 p hp
section
variable {prog : Program} {w : World} {A : Around} {s : Shared} {h₀ : Heap} {L : Addr} {m : Str → Option Value} {news : List (Addr × Obj)} {E : Value → Shared → Prop} {Q : Value → Shared → Prop}
theorem octets_call {x c : Nat} {t t' : Tok} (C : Here w A h₀ L) (hdp : A.depth + 3 < recursionLimit) (hun : A.units + 80 < cLine) (F : Fr h₀ L s.heap m) (N : News h₀ L s.heap news)
   (hc8 : c ≤ 8) (hx : x < 2 ^ 64)
   (hQ : ∀ D vs n h' tk, Fr h₀ L h' m → IntsAre vs ((List.range c).map fun k => ((x / 256 ^ k % 256 : Nat) : Int)) → News h₀ L h' ((D, LO vs n) :: news) → (∀ p ∈ news, p.1 ≠ D) → Q (.ref D) { s with heap := h', toks := tk }) :
   wpAny (model prog w) A (call (.ref 199) [.int x t, .int c t']) Q E s := by
  obtain ⟨hdd, dp, frs, gs, un⟩ := A
  cases (show hdd = none from C.hh)
  refine' enterC [("number", .int x t), ("count", .int c t')] C F N ?ho ?hcd ?hroom ?hbind ?hkind ?hnd ?hco ?hgen ?hk ?h
  (case ho => k_dflt k_is); (case hcd => k_dflt k_is); (case hroom => first | omega | (dsimp only at *; omega)); (case hbind => exact BindsTo.of_eq rfl); (case hkind => rfl); (case hnd => decide +kernel); (case hco => rfl); (case hgen => rfl); (case hk => rfl)
  intro g L' h₁ tk cells C' F' N' Y' pm lt'
  obtain ⟨A₀, base, outer, env, p, loose, mean, mg, mb, B, X, T, hA, hf, hke⟩ := C'.ex
  k_cells Y'
  simp only [List.cons_append, List.nil_append] at N'
  k_steps
  rename_i ys hI hL D h5 tk5 F5 N5 o5
  rw [octs_eq] at hI
  refine Ret.intro (news' := (D, LO ys ys.length) :: news) pm F5 (fun p hp => N5 p ?_) fun F6 N6 => hQ _ _ _ _ _ F6 hI N6 (off1_ne o5.2)
  rcases List.mem_cons.mp hp with h | h
  · rw [h]; exact .head _
  · exact .tail _ (.tail _ h)
end
end Mine

-- R10
namespace Mine
section
variable {prog : Program} {w : World} {A : Around} {E : Value → Shared → Prop} {s : Shared}
theorem tup_lt_tree {p q : Addr} {a b c d : Int} {t u v x : Tok} {P : Fin → Shared → Prop} (hp : s.heap.get? p = some (pairO (.int a t) (.int b u))) (hq : s.heap.get? q = some (pairO (.int c v) (.int d x)))
    (h : P (.done (.ret (.bool (Hp.lex (a, b) (c, d))))) s) : wpAny (model prog w) A (Builtin.«tuple.__lt__» ⟨[.ref p, .ref q], []⟩) P E s := by
  have hT : s.TypeIs (.ref q) "tuple" := ⟨_, hq, rfl⟩
  show wpAny _ _ (isInstance (.ref q) (.type "tuple") >>= _) _ _ s
  refine wpAny_bind (wpAny_isInstance hT isSubtype_tuple_tuple ?_)
  simp only [Bool.not_true, Bool.false_eq_true, if_false]
  refine wpAny_bind (wpAny_tupleItemsOf hp rfl ?_)
  refine wpAny_bind (wpAny_tupleItemsOf hq rfl ?_)
  show wpAny _ _ (forIn [(Value.int a t, Value.int c v), (Value.int b u, Value.int d x)] _ _ >>= _) _ _ s
  simp only [List.forIn_cons, List.forIn_nil]
  refine wpAny_bind (wpAny_bind (wpAny_bind (wpAny_eqBool_int ?_)))
  have lexd : Hp.lex (a, b) (c, d) = (decide (a < c) || (decide (a = c) && decide (b < d))) := rfl
  by_cases e1 : a = c
  · subst e1
    rw [beq_self_eq_true]
    simp only [Bool.not_true, Bool.false_eq_true, if_false]
    refine wpAny_pure ?_
    refine wpAny_bind (wpAny_bind (wpAny_eqBool_int ?_))
    by_cases e2 : b = d
    · subst e2
      rw [beq_self_eq_true]
      simp only [Bool.not_true, Bool.false_eq_true, if_false]
      refine wpAny_pure (wpAny_pure ?_)
      refine wpAny_pure ?_
      have : Hp.lex (a, b) (a, b) = false := by rw [lexd]; simp
      rw [this] at h; exact h
    · rw [beq_eq_false_iff_ne.mpr e2]
      simp only [Bool.not_false, if_true]
      have : Hp.lex (a, b) (a, d) = decide (b < d) := by rw [lexd]; simp
      rw [this] at h
      refine wpAny_bind (wpAny_rule ?_)
      refine wpAny_bind (show wpAny _ _ (compareOp .Lt (.int b u) (.int d x)) _ _ _ from wpAny_lt_int ?_)
      refine wpAny_bind (wpAny_pure ?_)
      exact wpAny_pure (wpAny_pure (wpAny_pure h))
  · rw [beq_eq_false_iff_ne.mpr e1]
    simp only [Bool.not_false, if_true]
    have : Hp.lex (a, b) (c, d) = decide (a < c) := by rw [lexd]; simp [e1]
    rw [this] at h
    refine wpAny_bind (wpAny_rule ?_)
    refine wpAny_bind (show wpAny _ _ (compareOp .Lt (.int a t) (.int c v)) _ _ _ from wpAny_lt_int ?_)
    refine wpAny_bind (wpAny_pure ?_)
    exact wpAny_pure (wpAny_pure (wpAny_pure h))
theorem tup_lt {p q : Addr} {a b c d : Int} {t u v x : Tok} {Q : Value → Shared → Prop} (hp : s.heap.get? p = some (pairO (.int a t) (.int b u))) (hq : s.heap.get? q = some (pairO (.int c v) (.int d x)))
    (hu : A.units < cLine) (h : Q (.bool (Hp.lex (a, b) (c, d))) s) : wpAny (model prog w) A (compareOp .Lt (.ref p) (.ref q)) Q E s := by
  have hTp : s.TypeIs (.ref p) "tuple" := ⟨_, hp, rfl⟩
  have hTq : s.TypeIs (.ref q) "tuple" := ⟨_, hq, rfl⟩
  exact wpAny_richCompare_same_room (op := .Lt) hTp hTq PySem.F.slot_tuple_lt
    (wpAny_call_entry PySem.F.slot_tuple_lt hTp PySem.F.entry_tuple_lt (tup_lt_tree hp hq ⟨_, rfl, (fun e => nomatch e), h⟩) (PySem.F.args_tuple_lt_2 _ _)) hu
def intOf : Option Value → Int
  | some (.int n _) => n
  | _ => 0
def pairOf (o : Obj) : Int × Int :=
  match o.data with
  | .seq its _ => (intOf its[0]?, intOf its[1]?)
  | _ => (0, 0)
/-- what a value is worth in an order: ints by themselves, pairs by their parts -/
def keyOf (facts : List (Addr × Obj)) : Value → Int × Int
  | .int n _ => (n, 0)
  | .ref a => match facts.find? (fun p => p.1 == a) with
    | some p => pairOf p.2
    | none => (0, 0)
  | _ => (0, 0)
def ltv (facts : List (Addr × Obj)) (v u : Value) : Bool := Hp.lex (keyOf facts v) (keyOf facts u)
theorem ltIs_int {facts : List (Addr × Obj)} {a b : Int} {t u : Tok} : LtIs prog w facts (.int a t) (.int b u) (ltv facts (.int a t) (.int b u)) := by
  intro A s Q E _ _ _ hQ
  refine wpAny_lt_int ?_
  have : ltv facts (.int a t) (.int b u) = decide (a < b) := by by_cases h : a < b <;> simp [ltv, keyOf, Hp.lex, h]
  rw [this] at hQ
  exact hQ s.toks
theorem find_pair {facts : List (Addr × Obj)} {p : Addr} {a b : Int} {t u : Tok} (hm : (p, pairO (.int a t) (.int b u)) ∈ facts) (hu : ∀ x ∈ facts, ∀ y ∈ facts, x.1 = y.1 → x.2 = y.2) : keyOf facts (.ref p) = (a, b) := by
  have : facts.find? (fun q => q.1 == p) = some (p, pairO (.int a t) (.int b u)) := by
    cases e : facts.find? (fun q => q.1 == p) with
    | none => have := List.find?_eq_none.mp e _ hm; simp at this
    | some q =>
      have h1 : q.1 = p := by have := List.find?_some e; simpa using this
      have h2 := hu q (List.mem_of_find?_eq_some e) _ hm h1
      obtain ⟨q1, q2⟩ := q
      simp only at h1 h2
      rw [h1, h2]
  simp only [keyOf, this]
  rfl
theorem ltIs_pair {facts : List (Addr × Obj)} {p q : Addr} {a b c d : Int} {t u v x : Tok} (hp : (p, pairO (.int a t) (.int b u)) ∈ facts) (hq : (q, pairO (.int c v) (.int d x)) ∈ facts) (hu : ∀ x ∈ facts, ∀ y ∈ facts, x.1 = y.1 → x.2 = y.2) :
    LtIs prog w facts (.ref p) (.ref q) (ltv facts (.ref p) (.ref q)) := by
  intro A s Q E hun _ hf hQ
  refine tup_lt (hf _ hp) (hf _ hq) (by omega) ?_
  have : ltv facts (.ref p) (.ref q) = Hp.lex (a, b) (c, d) := by simp only [ltv, find_pair hp hu, find_pair hq hu]
  rw [this] at hQ
  exact hQ s.toks
theorem swo_ltv (facts : List (Addr × Obj)) : Hp.SWO (ltv facts) := Hp.swo_lex (keyOf facts)
end
end Mine

-- R11
namespace Mine
def kev (o : Nat → Nat → Bool) {α : Type} : KasT α → α
  | .ret a => a
  | .ask i j k => kev o (k (o i j))
def kok (o : Nat → Nat → Bool) {α : Type} : KasT α → Bool
  | .ret _ => true
  | .ask i j k => decide (i < 3) && decide (j < 3) && decide (i ≠ j) && kok o (k (o i j))
theorem kev_wp {α : Type} {cmp : Nat → Nat → (Bool → Shared → Prop) → Shared → Prop} {o : Nat → Nat → Bool} {s : Shared} (hc : ∀ i j C, i < 3 → j < 3 → i ≠ j → C (o i j) s → cmp i j C s) {Q : α → Shared → Prop} :
    ∀ t : KasT α, kok o t = true → Q (kev o t) s → t.kasWp cmp Q s
  | .ret _, _, h => h
  | .ask i j k, h1, h => by
    simp only [kok, Bool.and_eq_true, decide_eq_true_eq] at h1
    exact hc i j _ h1.1.1.1 h1.1.1.2 h1.1.2 (kev_wp hc (k (o i j)) h1.2 h)
def o3 (b01 b10 b02 b20 b12 b21 : Bool) : Nat → Nat → Bool
  | 0, 1 => b01
  | 1, 0 => b10
  | 0, 2 => b02
  | 2, 0 => b20
  | 1, 2 => b12
  | 2, 1 => b21
  | _, _ => false
def good3 (o : Nat → Nat → Bool) : Bool :=
  [(0, 1), (1, 0), (0, 2), (2, 0), (1, 2), (2, 1)].all (fun p => !(o p.1 p.2 && o p.2 p.1)) &&
  [(0, 1, 2), (0, 2, 1), (1, 0, 2), (1, 2, 0), (2, 0, 1), (2, 1, 0)].all (fun p => o p.2.1 p.1 || o p.2.2 p.2.1 || !(o p.2.2 p.1))
def out3 (o : Nat → Nat → Bool) (l : List Nat) : Bool :=
  match l with
  | [i, j, k] => [[0, 1, 2], [0, 2, 1], [1, 0, 2], [1, 2, 0], [2, 0, 1], [2, 1, 0]].contains [i, j, k] && !(o j i) && !(o k j)
  | _ => false
theorem sort3_all : ∀ b01 b10 b02 b20 b12 b21 : Bool, good3 (o3 b01 b10 b02 b20 b12 b21) = true →
    kok (o3 b01 b10 b02 b20 b12 b21) (kas_sort 3) = true ∧ out3 (o3 b01 b10 b02 b20 b12 b21) (kev (o3 b01 b10 b02 b20 b12 b21) (kas_sort 3)).toList = true := by
  decide +kernel
section
variable {prog : Program} {w : World} {A : Around} {E : Value → Shared → Prop} {s : Shared}
theorem key_lt_pair {p q : Addr} {a b c d : Int} {t u v x : Tok} {Q : Bool → Shared → Prop} (hp : s.heap.get? p = some (pairO (.int a t) (.int b u))) (hq : s.heap.get? q = some (pairO (.int c v) (.int d x)))
    (h : Q (Hp.lex (a, b) (c, d)) s) : wpAny (model prog w) A (keyLt' (tuples' true) (.ref p) (.ref q)) Q E s := by
  have lexd : Hp.lex (a, b) (c, d) = (decide (a < c) || (decide (a = c) && decide (b < d))) := rfl
  refine kat_lt (xs := #[.int a t, .int b u]) (ys := #[.int c v, .int d x]) (n := 0) (k := 0) hp rfl hq rfl ?_
  refine kat_cons (wpAny_eqBool_int ?_)
  by_cases e1 : a = c
  · subst e1
    rw [beq_self_eq_true]
    refine kat_yes (kat_cons (wpAny_eqBool_int ?_))
    by_cases e2 : b = d
    · subst e2
      rw [beq_self_eq_true]
      refine kat_yes (kat_nil ?_)
      have : Hp.lex (a, b) (a, b) = false := by rw [lexd]; simp
      rw [this] at h
      simpa using h
    · rw [beq_eq_false_iff_ne.mpr e2]
      refine kat_no (kat_one _ _ (wpAny_lt_int ?_))
      have : Hp.lex (a, b) (a, d) = decide (b < d) := by rw [lexd]; simp
      rw [this] at h
      exact h
  · rw [beq_eq_false_iff_ne.mpr e1]
    have : Hp.lex (a, b) (c, d) = decide (a < c) := by rw [lexd]; simp [e1]
    rw [this] at h
    exact kat_no (oneLt_int h)
theorem o3_eq (o : Nat → Nat → Bool) : ∀ i j, i < 3 → j < 3 → i ≠ j → o3 (o 0 1) (o 1 0) (o 0 2) (o 2 0) (o 1 2) (o 2 1) i j = o i j
  | 0, 1, _, _, _ | 1, 0, _, _, _ | 0, 2, _, _, _ | 2, 0, _, _, _ | 1, 2, _, _, _ | 2, 1, _, _, _ => rfl
  | 0, 0, _, _, h | 1, 1, _, _, h | 2, 2, _, _, h => absurd rfl h
  | 0, _ + 3, _, h, _ | 1, _ + 3, _, h, _ | 2, _ + 3, _, h, _ => absurd h (by omega)
  | _ + 3, _, h, _, _ => absurd h (by omega)
theorem good3_lex (K : Nat → Int × Int) (o : Nat → Nat → Bool) (ho : ∀ i j, o i j = Hp.lex (K i) (K j)) : good3 (o3 (o 0 1) (o 1 0) (o 0 2) (o 2 0) (o 1 2) (o 2 1)) = true := by
  have W := Hp.swo_lex K
  have as : ∀ i j, (!(o i j && o j i)) = true := fun i j => by
    rw [ho, ho]
    cases e : Hp.lex (K i) (K j) with
    | false => rfl
    | true => rw [W.asym i j e]; rfl
  have tr : ∀ a b c, (o b a || o c b || !(o c a)) = true := fun a b c => by
    rw [ho, ho, ho]
    cases e1 : Hp.lex (K b) (K a) with
    | true => rfl
    | false =>
      cases e2 : Hp.lex (K c) (K b) with
      | true => rfl
      | false => rw [W.tr a b c e1 e2]; rfl
  simp only [good3, List.all_cons, List.all_nil, o3, Bool.and_eq_true, as, tr, Bool.and_true, and_self]
def Perm3 (i j k : Nat) : Prop := [[0, 1, 2], [0, 2, 1], [1, 0, 2], [1, 2, 0], [2, 0, 1], [2, 1, 0]].contains [i, j, k] = true
theorem out3_split {o : Nat → Nat → Bool} {l : List Nat} (h : out3 o l = true) : ∃ i j k, l = [i, j, k] ∧ Perm3 i j k ∧ o j i = false ∧ o k j = false := by
  match l, h with
  | [i, j, k], h =>
    simp only [out3, Bool.and_eq_true, Bool.not_eq_true'] at h
    exact ⟨i, j, k, rfl, h.1.1, h.1.2, h.2⟩
theorem Perm3.cases {P : Nat → Nat → Nat → Prop} {i j k : Nat} (h : Perm3 i j k) (a : P 0 1 2) (b : P 0 2 1) (c : P 1 0 2) (d : P 1 2 0) (e : P 2 0 1) (f : P 2 1 0) : P i j k := by
  simp only [Perm3, List.contains_cons, List.contains_nil, Bool.or_false, Bool.or_eq_true, beq_iff_eq, List.cons.injEq, and_true] at h
  rcases h with ⟨rfl, rfl, rfl⟩ | ⟨rfl, rfl, rfl⟩ | ⟨rfl, rfl, rfl⟩ | ⟨rfl, rfl, rfl⟩ | ⟨rfl, rfl, rfl⟩ | ⟨rfl, rfl, rfl⟩ <;> assumption

theorem sort3_tree {D : Addr} {ad : Nat → Addr} {K : Nat → Int × Int} {ta tb : Nat → Tok} {n : Nat} {P : Fin → Shared → Prop} (ho : s.heap.get? D = some (seqObj "list" [Value.ref (ad 0), .ref (ad 1), .ref (ad 2)].toArray n))
    (hp : ∀ i, i < 3 → s.heap.get? (ad i) = some (pairO (.int (K i).1 (ta i)) (.int (K i).2 (tb i)))) (hne : ∀ i, i < 3 → ad i ≠ D)
    (h : ∀ i j k, Perm3 i j k → Hp.lex (K i) (K j) = false → Hp.lex (K j) (K k) = false →
      P (.done (.ret .none)) { s with heap := sortedHeap s.heap D [Value.ref (ad 0), .ref (ad 1), .ref (ad 2)] #[Value.ref (ad i), .ref (ad j), .ref (ad k)] }) :
    wpAny (model prog w) A (Builtin.«list.sort» ⟨[.ref D], [(Str.ofString "reverse", .bool true)]⟩) P E s := by
  rw [list_sort_rev]
  have ha : D < s.heap.objs.size := Heap.lt_size ho
  refine wpAny_bind (listItems_at ho rfl ?_)
  refine wpAny_bind (listUpdate_at ho rfl ?_)
  obtain ⟨e1, ho1⟩ : ∃ e1, (s.heap.update D (Obj.mapSeq fun _ => #[])).get? D = some (seqObj "list" #[] e1) := ⟨_, get?_update_seq ho (fun _ => #[])⟩
  refine wpAny_bind (seqEpoch_at ho1 rfl ?_)
  refine wpAny_bind (wpAny_newTuple ?_)
  refine wpAny_bind (wpAny_newList ?_)
  refine wpAny_holding ?_
  have up : ∀ b o, b ≠ D → s.heap.get? b = some o → (((s.heap.update D (Obj.mapSeq fun _ => #[])).push (seqObj "tuple" [Value.ref (ad 0), .ref (ad 1), .ref (ad 2)].toArray 0)).push (seqObj "list" #[] 0)).get? b = some o := fun b o hb e =>
    Heap.get?_push_of_some _ (Heap.get?_push_of_some _ ((Heap.get?_update_other _ _ (Ne.symm hb)).trans e))
  have ho6 : (((s.heap.update D (Obj.mapSeq fun _ => #[])).push (seqObj "tuple" [Value.ref (ad 0), .ref (ad 1), .ref (ad 2)].toArray 0)).push (seqObj "list" #[] 0)).get? D = some (seqObj "list" #[] e1) :=
    Heap.get?_push_of_some _ (Heap.get?_push_of_some _ ho1)
  show wpAny (model prog w) A _ P E { s with heap := ((s.heap.update D (Obj.mapSeq fun _ => #[])).push (seqObj "tuple" [Value.ref (ad 0), .ref (ad 1), .ref (ad 2)].toArray 0)).push (seqObj "list" #[] 0) }
  rw [if_pos rfl]
  refine wpAny_bind (wpAny_rule ?_)
  have hn2 : ¬ ([Value.ref (ad 0), .ref (ad 1), .ref (ad 2)].toArray.size < 2) := by simp
  rw [if_neg hn2, if_neg hn2]
  have pr : ∀ i, i < 3 → (((s.heap.update D (Obj.mapSeq fun _ => #[])).push (seqObj "tuple" [Value.ref (ad 0), .ref (ad 1), .ref (ad 2)].toArray 0)).push (seqObj "list" #[] 0)).get? (ad i) = some (pairO (.int (K i).1 (ta i)) (.int (K i).2 (tb i))) := fun i hi => up _ _ (hne i hi) (hp i hi)
  have tups : KatTups (((s.heap.update D (Obj.mapSeq fun _ => #[])).push (seqObj "tuple" [Value.ref (ad 0), .ref (ad 1), .ref (ad 2)].toArray 0)).push (seqObj "list" #[] 0)) [Value.ref (ad 0), .ref (ad 1), .ref (ad 2)] [.int (K 0).1 (ta 0), .int (K 1).1 (ta 1), .int (K 2).1 (ta 2)] :=
    .cons (pr 0 (by omega)) rfl rfl rfl (.cons (pr 1 (by omega)) rfl rfl rfl (.cons (pr 2 (by omega)) rfl rfl rfl .nil))
  refine wpAny_bind (kat_kind (T := .type "int") tups (by simp) ?_ rfl ?_)
  · intro v hv
    simp only [List.mem_cons, List.not_mem_nil, or_false] at hv
    rcases hv with rfl | rfl | rfl <;> exact Looks.of_pure rfl
  rw [show (Value.type "int" != Value.type "tuple") = true from by decide]
  rw [kat_pairs true rfl]
  let us : List Value := [Value.ref (ad 2), .ref (ad 1), .ref (ad 0)]
  let o : Nat → Nat → Bool := fun i j => Hp.lex (K (2 - i)) (K (2 - j))
  have hug : ∀ i, i < 3 → us.getD i Value.none = .ref (ad (2 - i)) := by
    intro i hi
    match i, hi with
    | 0, _ => rfl
    | 1, _ => rfl
    | 2, _ => rfl
  have all := sort3_all (o 0 1) (o 1 0) (o 0 2) (o 2 0) (o 1 2) (o 2 1) (good3_lex (fun i => K (2 - i)) o fun _ _ => rfl)
  have run : (kas_sort 3).kasWp (kas_ask prog w A (tuples' true) us) (fun p s' => s' = { s with heap := ((s.heap.update D (Obj.mapSeq fun _ => #[])).push (seqObj "tuple" [Value.ref (ad 0), .ref (ad 1), .ref (ad 2)].toArray 0)).push (seqObj "list" #[] 0) } ∧
      ∃ i j k, p.toList = [i, j, k] ∧ Perm3 i j k ∧ o j i = false ∧ o k j = false) { s with heap := ((s.heap.update D (Obj.mapSeq fun _ => #[])).push (seqObj "tuple" [Value.ref (ad 0), .ref (ad 1), .ref (ad 2)].toArray 0)).push (seqObj "list" #[] 0) } := by
    refine kev_wp (o := o3 (o 0 1) (o 1 0) (o 0 2) (o 2 0) (o 1 2) (o 2 1)) (fun i j C hi hj hij hC => ?_) (kas_sort 3) all.1 ⟨rfl, ?_⟩
    · rw [o3_eq o i j hi hj hij] at hC
      show wpAny _ _ (keyLt' (tuples' true) (us.getD i Value.none) (us.getD j Value.none)) C (fun _ _ => False) _
      rw [hug i hi, hug j hj]
      exact key_lt_pair (pr _ (by omega)) (pr _ (by omega)) hC
    · obtain ⟨i, j, k, e, hp3, h1, h2⟩ := out3_split all.2
      refine ⟨i, j, k, e, hp3, ?_, ?_⟩
      · rw [← o3_eq o j i (by revert hp3; exact fun q => q.cases (P := fun i j k => j < 3) (by omega) (by omega) (by omega) (by omega) (by omega) (by omega)) (hp3.cases (P := fun i j k => i < 3) (by omega) (by omega) (by omega) (by omega) (by omega) (by omega)) (hp3.cases (P := fun i j k => j ≠ i) (by omega) (by omega) (by omega) (by omega) (by omega) (by omega))]; exact h1
      · rw [← o3_eq o k j (hp3.cases (P := fun i j k => k < 3) (by omega) (by omega) (by omega) (by omega) (by omega) (by omega)) (hp3.cases (P := fun i j k => j < 3) (by omega) (by omega) (by omega) (by omega) (by omega) (by omega)) (hp3.cases (P := fun i j k => k ≠ j) (by omega) (by omega) (by omega) (by omega) (by omega) (by omega))]; exact h2
  refine wpAny_bind (wpAny_mono (kat_run (ks := us) (vs := us) (Q := fun st' s' => ∃ p : Array Nat, arrOf st' = p.map (kas_item (us.toArray.zip us.toArray)) ∧ failedOf st' = none ∧ s' = { s with heap := ((s.heap.update D (Obj.mapSeq fun _ => #[])).push (seqObj "tuple" [Value.ref (ad 0), .ref (ad 1), .ref (ad 2)].toArray 0)).push (seqObj "list" #[] 0) } ∧
      ∃ i j k, p.toList = [i, j, k] ∧ Perm3 i j k ∧ o j i = false ∧ o k j = false)
    rfl (by show 2 ≤ 3; omega) (by show 3 < 64; omega) (fun p' st' s' a1 a2 a3 a4 => ⟨p', a2, a3, a4⟩) run) ?_ fun _ _ x => x)
  rintro ⟨⟨⟩, st'⟩ s' ⟨p, har, hf, rfl, i, j, k, hpl, hp3, h1, h2⟩
  dsimp only
  have hout := kat_snds (ks := us) (vs := us) rfl har
  rw [hpl] at hout
  have bi : i < 3 := hp3.cases (P := fun i j k => i < 3) (by omega) (by omega) (by omega) (by omega) (by omega) (by omega)
  have bj : j < 3 := hp3.cases (P := fun i j k => j < 3) (by omega) (by omega) (by omega) (by omega) (by omega) (by omega)
  have bk : k < 3 := hp3.cases (P := fun i j k => k < 3) (by omega) (by omega) (by omega) (by omega) (by omega) (by omega)
  simp only [List.map_cons, List.map_nil] at hout
  rw [hug i bi, hug j bj, hug k bk] at hout
  rw [hout]
  refine wpAny_bind (seqEpoch_at ho6 rfl ?_)
  refine wpAny_bind (listUpdate_at ho6 rfl ?_ (hsz2 := by rw [if_pos rfl, Array.size_reverse]; exact Nat.le_of_ble_eq_true rfl))
  rw [hf]
  simp only [bne_self_eq_false, Bool.false_eq_true, if_false]
  refine wpAny_pure ?_
  have er : ∀ x y z : Value, ([x, y, z].toArray.reverse : Array Value) = #[z, y, x] := fun x y z => by simp
  simp only [if_true, er]
  exact h (2 - k) (2 - j) (2 - i) (hp3.cases (P := fun i j k => Perm3 (2 - k) (2 - j) (2 - i)) rfl rfl rfl rfl rfl rfl) h2 h1
theorem sort3_N {h₀ : Heap} {L D : Addr} {m : Str → Option Value} {news : List (Addr × Obj)} {ad : Nat → Addr} {K : Nat → Int × Int} {ta tb : Nat → Tok} {n : Nat} {Q : Value → Shared → Prop} (F : Fr h₀ L s.heap m) (N : News h₀ L s.heap news)
    (hD : (D, LO [.ref (ad 0), .ref (ad 1), .ref (ad 2)] n) ∈ news) (hp : ∀ i, i < 3 → (ad i, pairO (.int (K i).1 (ta i)) (.int (K i).2 (tb i))) ∈ news)
    (h : ∀ i j k e h', Perm3 i j k → Hp.lex (K i) (K j) = false → Hp.lex (K j) (K k) = false → Fr h₀ L h' m → News h₀ L h' (setL D (LO [.ref (ad i), .ref (ad j), .ref (ad k)] e) news) → Q .none { s with heap := h' }) :
    wpAny (model prog w) A (call (.builtin "list.sort") [.ref D] [(Str.ofString "reverse", .bool true)]) Q E s := by
  have z := N _ hD
  have hne : ∀ i, i < 3 → ad i ≠ D := fun i hi e => by
    have q2 := congrArg Obj.cls (News.uniq N (hp i hi) (e ▸ hD)); injection q2 with q3; exact absurd q3 (by decide)
  have ho : s.heap.get? D = some (seqObj "list" [Value.ref (ad 0), .ref (ad 1), .ref (ad 2)].toArray n) := z.1
  refine wpAny_call_entry_kw slot_list_sort ⟨_, z.1, rfl⟩ entry_list_sort (sort3_tree ho (fun i hi => (N _ (hp i hi)).1) hne fun i j k h1 h2 h3 => ⟨_, rfl, ?_⟩) (args_list_sort_rev _ _)
  obtain ⟨e, he⟩ := sortedHeap_at (out := #[Value.ref (ad i), .ref (ad j), .ref (ad k)]) ho
  have up : ∀ b o, b ≠ D → s.heap.get? b = some o → (sortedHeap s.heap D [Value.ref (ad 0), .ref (ad 1), .ref (ad 2)] #[Value.ref (ad i), .ref (ad j), .ref (ad k)]).get? b = some o := fun b o hb q => by
    rw [sortedHeap_old hb (Heap.lt_size q)]; exact q
  refine h i j k e _ h1 h2 h3 ⟨F.ns.at fun o q => up _ o (Ne.symm z.2.1) q, fun b o q => up b o (fun x => by have := z.2.2; rw [← x, q] at this; cases this) (F.keep b o q), F.above⟩ fun p hp' => ?_
  obtain ⟨q, hq, rfl⟩ := List.mem_map.mp hp'
  by_cases c : q.1 = D
  · rw [if_pos c]; exact ⟨by rw [c]; exact he, (N q hq).2⟩
  · rw [if_neg c]; exact ⟨up _ _ c (N q hq).1, (N q hq).2⟩
end
end Mine

-- R12
namespace Mine
section
variable {prog : Program} {w : World} {A : Around} {E : Value → Shared → Prop} {s : Shared} {h₀ : Heap} {L : Addr} {m : Str → Option Value} {news : List (Addr × Obj)}
theorem item_T {value slice : Expr} {p : Addr} {a b v : Value} {u : Tok} {k : Int} {Q : Value → Shared → Prop} (N : News h₀ L s.heap news) (hm : (p, pairO a b) ∈ news) (hk : (k = 0 ∧ v = a) ∨ (k = 1 ∧ v = b)) (h : Q v s)
    (hs : subscripted slice false (.ref p) (.int k u) = operate [.ref p, .int k u] (getItem (.ref p) (.int k u)) := by with_unfolding_all rfl) :
    wpAny (model prog w) A (subscriptTail value slice (.ref p) (.int k u)) Q E s := by
  have ht : IsTup s.heap p #[a, b] := ⟨_, (N _ hm).1, rfl, _, rfl⟩
  have hT : s.TypeIs (.ref p) "tuple" := ⟨_, (N _ hm).1, rfl⟩
  rcases hk with ⟨rfl, rfl⟩ | ⟨rfl, rfl⟩
  · exact tail_any hT PySem.F.slot_tuple_getitem.lookup (PyProof.Rows.getItem_tuple (j := 0) ht (by decide) (by decide) (by rfl) rfl h) hs
  · exact tail_any hT PySem.F.slot_tuple_getitem.lookup (PyProof.Rows.getItem_tuple (j := 1) ht (by decide) (by decide) (by rfl) rfl h) hs
theorem assign_pair_N {env : Env} {a b : Str} {pa pb tp : Pos} {kk : Nat} {p : Addr} {x y : Value} {Q : Unit → Shared → Prop} (hh : A.handled = none) (hL : env.locals = L) (F : Fr h₀ L s.heap m) (N : News h₀ L s.heap news) (hm : (p, pairO x y) ∈ news)
    (ha : env.kindOf a = some .local) (hb : env.kindOf b = some .local) (hp : (env.scope.kind == .class || (env.scope.kind == .module && env.locals != env.globals)) = false)
    (h : ∀ (h' : Heap) (tk : Nat), Fr h₀ L h' (fun z => if z = b then some y else if z = a then some x else m z) → News h₀ L h' news → Q () { s with heap := h', toks := tk }) :
    wpAny (model prog w) A (assign (.Tuple [.Name a pa, .Name b pb] kk tp) env (.ref p)) Q E s := by
  subst hL
  refine kcp_assign hh ⟨_, (N _ hm).1, rfl, _, rfl⟩ ha hb hp F.ns fun h' tk hn hk => h h' tk ⟨hn, fun c o e => hk c o (fun q => ?_) (F.keep c o e), F.above⟩ fun q hq => ⟨hk _ _ (N q hq).2.1 (N q hq).1, (N q hq).2⟩
  rw [q] at e
  exact absurd (Heap.lt_size e) (Nat.not_lt.mpr F.above)
theorem callWith_kw0 {pos : Pos} {id : String} {env : Env} {v : Value} {kws : List Keyword} {Q : Value → Shared → Prop}
    (h : wpAny (model prog w) A (evalAll ((backToKw pos (keywordEach kws env)).map (·.2))) (fun kvs s₂ => wpAny (model prog w) A (call (.builtin id) [v] (((backToKw pos (keywordEach kws env)).filterMap (·.1)).zip kvs)) Q E s₂) E s)
    (hall : (backToKw pos (keywordEach kws env)).all (·.1.isSome) = true := by rfl)
    (hkw : (backToKw pos (keywordEach kws env)).any (·.1.isNone) = false := by rfl) :
    wpAny (model prog w) A (callWith pos (.builtin id) [v] (backTo pos (starEach [] env)) (backToKw pos (keywordEach kws env))) Q E s := by
  refine callWith_builtin_kwB (args := []) rfl hkw ?_
  unfold evalArgs
  show wpAny _ _ (spliced [] >>= _) _ _ _
  refine wpAny_bind (m := spliced []) (wpAny_pure ?_)
  refine wpAny_bind (wpAny_pure ?_)
  refine wpAny_holding ?_
  rw [if_pos hall]
  refine wpAny_bind (wpAny_mono h (fun kvs s₂ h₂ => ?_) fun _ _ x => x)
  exact wpAny_bind (wpAny_pure (wpAny_pure h₂))
end
end Mine

-- A2
namespace Mine
open Hp
theorem SWO.irrefl {α : Type} {lt : α → α → Bool} (W : SWO lt) (a : α) : lt a a = false := by
  cases e : lt a a with
  | false => rfl
  | true => have := W.asym a a e; rw [e] at this; exact this
theorem head_min {α : Type} {lt : α → α → Bool} (W : SWO lt) {x : α} {r : List α} (H : HeapFrom lt 0 (x :: r)) : ∀ y ∈ x :: r, lt y x = false := by
  have key : ∀ (i : Nat) (y : α), (x :: r)[i]? = some y → lt y x = false := by
    intro i
    induction i using Nat.strongRecOn with
    | ind i ih =>
      intro y hy
      by_cases h0 : i = 0
      · subst h0
        simp only [List.getElem?_cons_zero, Option.some.injEq] at hy
        subst hy; exact SWO.irrefl W x
      · have hlt : i < (x :: r).length := by
          rcases Nat.lt_or_ge i (x :: r).length with h | h
          · exact h
          · rw [List.getElem?_eq_none h] at hy; cases hy
        have hp : (i - 1) / 2 < (x :: r).length := by omega
        have e := List.getElem?_eq_getElem hp
        exact W.tr _ _ _ (ih _ (by omega) _ e) (H i _ _ (by omega) (Nat.zero_le _) e hy)
  intro y hy
  obtain ⟨i, hi⟩ := List.getElem?_of_mem hy
  exact key i y hi
theorem heap_prefix {α : Type} {lt : α → α → Bool} {l t : List α} {s : Nat} (H : HeapFrom lt s (l ++ t)) : HeapFrom lt s l := by
  intro i a b h0 hs ha hb
  have up : ∀ {j : Nat} {c : α}, l[j]? = some c → (l ++ t)[j]? = some c := fun {j c} e => by
    have hlt : j < l.length := by
      rcases Nat.lt_or_ge j l.length with h | h
      · exact h
      · rw [List.getElem?_eq_none h] at e; cases e
    rw [List.getElem?_append_left hlt]; exact e
  exact H i a b h0 hs (up ha) (up hb)
theorem push_heap {α : Type} {lt : α → α → Bool} (W : SWO lt) {l : List α} {v : α} (H : HeapFrom lt 0 l) : HeapFrom lt 0 (sd lt v 0 l.length (l ++ [v])) := by
  have e : (l ++ [v]).set l.length v = l ++ [v] := by rw [List.set_append_right _ _ (Nat.le_refl _)]; simp
  have lt' : ∀ {j : Nat} {c : α}, (l ++ [v])[j]? = some c → j ≤ l.length := fun {j c} e => by
    rcases Nat.lt_or_ge j (l ++ [v]).length with h | h
    · rw [List.length_append, List.length_singleton] at h; omega
    · rw [List.getElem?_eq_none h] at e; cases e
  have dn : ∀ {j : Nat} {c : α}, j < l.length → (l ++ [v])[j]? = some c → l[j]? = some c := fun {j c} h e => by rw [List.getElem?_append_left h] at e; exact e
  refine sd_heap W v 0 l.length (l ++ [v]) (by simp) (Desc.zero _) ?_ ?_
  · rw [e]
    intro i a b h0 hs hi ha hb
    have := lt' hb
    exact H i a b h0 hs (dn (by omega) ha) (dn (by omega) hb)
  · rw [e]
    intro i a b h0 hi hp hs ha hb
    have := lt' hb
    omega
theorem push_perm {α : Type} (lt : α → α → Bool) (l : List α) (v : α) : (sd lt v 0 l.length (l ++ [v])).Perm (l ++ [v]) := by
  have e : (l ++ [v]).set l.length v = l ++ [v] := by rw [List.set_append_right _ _ (Nat.le_refl _)]; simp
  have := sd_perm lt v 0 l.length (l ++ [v]) (by simp)
  rw [e] at this; exact this
theorem repl_heap {α : Type} {lt : α → α → Bool} (W : SWO lt) {x v : α} {r : List α} (H : HeapFrom lt 0 (x :: r)) : HeapFrom lt 0 (su lt v 0 0 (v :: r)) := by
  refine su_heap W v 0 0 (v :: r) (by simp) (Desc.zero _) ?_ ?_
  · intro i a b h0 hs hi hp ha hb
    have tl : ∀ {j : Nat} {c : α}, j ≠ 0 → (v :: r)[j]? = some c → (x :: r)[j]? = some c := fun {j c} h e => by
      cases j with
      | zero => exact absurd rfl h
      | succ j => simpa using e
    exact H i a b h0 hs (tl hp ha) (tl hi hb)
  · intro i a b h0 hi hp
    exact absurd hp (Nat.lt_irrefl _)
theorem repl_perm {α : Type} (lt : α → α → Bool) (v : α) (r : List α) : (su lt v 0 0 (v :: r)).Perm (v :: r) := by
  have := su_perm lt v 0 0 (v :: r) (by simp)
  simpa using this
theorem hfy_spec {lt : Value → Value → Bool} (W : SWO lt) : ∀ (k : Nat) (l : List Value), 2 * k ≤ l.length → HeapFrom lt k l → HeapFrom lt 0 (hfy lt k l) ∧ (hfy lt k l).Perm l
  | 0, l, _, H => ⟨H, List.Perm.refl _⟩
  | k + 1, l, hk, H => by
    have hkl : k < l.length := by omega
    have eset : l.set k (l.getD k .none) = l := by
      rw [List.getD_eq_getElem?_getD, List.getElem?_eq_getElem hkl, Option.getD_some, List.set_getElem_self]
    have h1 : HeapFrom lt k (su lt (l.getD k .none) k k l) := by
      refine su_heap W _ k k l hkl Desc.refl ?_ ?_
      · intro i a b h0 hs hi hp ha hb
        exact H i a b h0 (by omega) ha hb
      · intro i a b h0 hi hp hs
        omega
    have h2 : (su lt (l.getD k .none) k k l).Perm l := by
      have := su_perm lt (l.getD k .none) k k l hkl
      rw [eset] at this; exact this
    have h3 := hfy_spec W k (su lt (l.getD k .none) k k l) (by rw [su_length]; omega) h1
    exact ⟨h3.1, h3.2.trans h2⟩
theorem heapify_spec {lt : Value → Value → Bool} (W : SWO lt) (l : List Value) : HeapFrom lt 0 (hfy lt (l.length / 2) l) ∧ (hfy lt (l.length / 2) l).Perm l := by
  refine hfy_spec W _ l (by omega) ?_
  intro i a b h0 hs ha hb
  rw [List.getElem?_eq_none (by omega)] at hb; cases hb
theorem pop_spec {lt : Value → Value → Bool} (W : SWO lt) {x : Value} {r : List Value} (H : HeapFrom lt 0 (r ++ [x])) :
    HeapFrom lt 0 (hpop lt x r).2 ∧ ((hpop lt x r).1 :: (hpop lt x r).2).Perm (r ++ [x]) ∧ ∀ y ∈ r ++ [x], lt y (hpop lt x r).1 = false := by
  cases r with
  | nil =>
    refine ⟨fun i a b _ _ ha _ => ?_, List.Perm.refl _, ?_⟩
    · simp [hpop] at ha
    · exact head_min W (x := x) (r := []) H
  | cons y r =>
    refine ⟨repl_heap W (heap_prefix (t := [x]) H), ?_, head_min W (x := y) (r := r ++ [x]) H⟩
    show (y :: su lt x 0 0 (x :: r)).Perm (y :: (r ++ [x]))
    refine List.Perm.cons _ ((repl_perm lt x r).trans ?_)
    exact (List.perm_append_comm (l₁ := [x]) (l₂ := r))
/-- a heap stays one where the order does not tell the difference -/
theorem heap_congr {α : Type} {lt lt' : α → α → Bool} {l : List α} {s : Nat} (h : ∀ a ∈ l, ∀ b ∈ l, lt a b = lt' a b) (H : HeapFrom lt s l) : HeapFrom lt' s l := by
  intro i a b h0 hs ha hb
  rw [← h b (List.mem_of_getElem? hb) a (List.mem_of_getElem? ha)]
  exact H i a b h0 hs ha hb
end Mine

-- A3
namespace Mine
open Hp
def PairsIn (facts : List (Addr × Obj)) (its : List Value) : Prop := ∀ v ∈ its, ∃ p a b t u, v = .ref p ∧ (p, pairO (.int a t) (.int b u)) ∈ facts
def UF (facts : List (Addr × Obj)) : Prop := ∀ x ∈ facts, ∀ y ∈ facts, x.1 = y.1 → x.2 = y.2
def el (facts : List (Addr × Obj)) (its : List Value) : List Int := its.map fun v => (keyOf facts v).1
theorem UF.of_news {h₀ h : Heap} {L : Addr} {nw facts : List (Addr × Obj)} (N : News h₀ L h nw) (hm : ∀ p ∈ facts, p ∈ nw) : UF facts := fun x hx y hy e => by
  have h1 := (N x (hm x hx)).1
  have h2 := (N y (hm y hy)).1
  rw [e, h2] at h1; exact (Option.some.inj h1).symm
theorem key_more {facts : List (Addr × Obj)} {its : List Value} (P : PairsIn facts its) {q : Addr × Obj} (U : UF (q :: facts)) : ∀ v ∈ its, keyOf (q :: facts) v = keyOf facts v := by
  intro v hv
  obtain ⟨p, a, b, t, u, rfl, hm⟩ := P v hv
  rw [find_pair (List.mem_cons_of_mem _ hm) U, find_pair hm fun x hx y hy => U x (.tail _ hx) y (.tail _ hy)]
theorem PairsIn.lts {prog : Program} {w : World} {facts : List (Addr × Obj)} {its : List Value} (P : PairsIn facts its) (U : UF facts) : ∀ a ∈ its, ∀ b ∈ its, LtIs prog w facts a b (ltv facts a b) := by
  intro v hv v' hv'
  obtain ⟨p, a, b, t, u, rfl, hm⟩ := P v hv
  obtain ⟨p', a', b', t', u', rfl, hm'⟩ := P v' hv'
  exact ltIs_pair hm hm' U
theorem lt_false_le {facts : List (Addr × Obj)} {x y : Value} (h : ltv facts y x = false) : (keyOf facts x).1 ≤ (keyOf facts y).1 := by
  simp only [ltv, lex, Bool.or_eq_false_iff, decide_eq_false_iff_not] at h
  omega
def Top3 (ns : List Int) (i : Nat) (facts : List (Addr × Obj)) (its : List Value) : Prop :=
  ∃ R, (el facts its ++ R).Perm (ns.take i) ∧ ∀ a ∈ el facts its, ∀ b ∈ R, b ≤ a
theorem top3_ge {ns : List Int} {i : Nat} {facts : List (Addr × Obj)} {x : Value} {r : List Value} {e : Int} (H : HeapFrom (ltv facts) 0 (x :: r)) (T : Top3 ns i facts (x :: r)) (he : ns[i]? = some e) (h : ¬ (keyOf facts x).1 < e) : Top3 ns (i + 1) facts (x :: r) := by
  obtain ⟨R, h1, h2⟩ := T
  refine ⟨e :: R, ?_, ?_⟩
  · rw [List.take_add_one, he]
    refine List.Perm.trans ?_ (h1.append_right [e])
    rw [List.append_assoc]
    exact List.Perm.append_left _ (List.perm_append_comm (l₁ := [e]) (l₂ := R))
  · intro a ha b hb
    rcases List.mem_cons.mp hb with rfl | hb
    · obtain ⟨v, hv, rfl⟩ := List.mem_map.mp ha
      have := lt_false_le (head_min (swo_ltv facts) H v hv)
      omega
    · exact h2 a ha b hb
theorem repl_facts {facts : List (Addr × Obj)} {x : Value} {r : List Value} {T : Addr} {e o : Int} {t u : Tok} (H : HeapFrom (ltv facts) 0 (x :: r)) (P : PairsIn facts (x :: r)) (U : UF ((T, pairO (.int e t) (.int o u)) :: facts)) :
    HeapFrom (ltv ((T, pairO (.int e t) (.int o u)) :: facts)) 0 (su (ltv ((T, pairO (.int e t) (.int o u)) :: facts)) (.ref T) 0 0 (.ref T :: r)) ∧
    (su (ltv ((T, pairO (.int e t) (.int o u)) :: facts)) (.ref T) 0 0 (.ref T :: r)).Perm (.ref T :: r) ∧
    PairsIn ((T, pairO (.int e t) (.int o u)) :: facts) (.ref T :: r) := by
  have km := key_more P U
  refine ⟨repl_heap (swo_ltv _) (x := x) (heap_congr (fun a ha b hb => ?_) H), repl_perm _ _ _, ?_⟩
  · simp only [ltv, km a ha, km b hb]
  · intro v hv
    rcases List.mem_cons.mp hv with rfl | hv
    · exact ⟨T, e, o, t, u, rfl, .head _⟩
    · obtain ⟨p, a, b, t', u', e', hm⟩ := P v (.tail _ hv)
      exact ⟨p, a, b, t', u', e', .tail _ hm⟩
theorem top3_lt {ns : List Int} {i : Nat} {facts : List (Addr × Obj)} {x : Value} {r its' : List Value} {T : Addr} {e o : Int} {t u : Tok} (H : HeapFrom (ltv facts) 0 (x :: r)) (P : PairsIn facts (x :: r)) (U : UF ((T, pairO (.int e t) (.int o u)) :: facts))
    (T3 : Top3 ns i facts (x :: r)) (he : ns[i]? = some e) (h : (keyOf facts x).1 < e) (hp : its'.Perm (.ref T :: r)) : Top3 ns (i + 1) ((T, pairO (.int e t) (.int o u)) :: facts) its' := by
  have km := key_more P U
  obtain ⟨R, h1, h2⟩ := T3
  have e1 : (el ((T, pairO (.int e t) (.int o u)) :: facts) its').Perm (e :: el facts r) := by
    refine (hp.map _).trans ?_
    show ((keyOf ((T, pairO (.int e t) (.int o u)) :: facts) (.ref T)).1 :: r.map _).Perm _
    rw [find_pair (.head _) U]
    refine List.Perm.cons _ (List.Perm.of_eq ?_)
    exact List.map_congr_left fun v hv => by rw [km v (.tail _ hv)]
  refine ⟨(keyOf facts x).1 :: R, ?_, ?_⟩
  · rw [List.take_add_one, he]
    refine List.Perm.trans ?_ (h1.append_right [e])
    refine (e1.append_right _).trans ?_
    show (e :: (el facts r ++ ((keyOf facts x).1 :: R))).Perm (((keyOf facts x).1 :: el facts r ++ R) ++ [e])
    refine List.Perm.trans (List.Perm.cons _ List.perm_middle) ?_
    exact (List.perm_append_comm (l₁ := [e]) (l₂ := (keyOf facts x).1 :: el facts r ++ R))
  · intro a ha b hb
    have ha' := e1.mem_iff.mp ha
    have top_le : ∀ a ∈ el facts r, (keyOf facts x).1 ≤ a := fun a ha => by
      obtain ⟨v, hv, rfl⟩ := List.mem_map.mp ha
      exact lt_false_le (head_min (swo_ltv facts) H v (.tail _ hv))
    rcases List.mem_cons.mp ha' with rfl | ha'
    · rcases List.mem_cons.mp hb with rfl | hb
      · omega
      · have := h2 _ (.head _) b hb
        have : b ≤ (keyOf facts x).1 := this
        omega
    · rcases List.mem_cons.mp hb with rfl | hb
      · exact top_le a ha'
      · exact h2 a (.tail _ ha') b hb
end Mine

-- A4
namespace Mine
theorem asc_ex : ∀ R : List Int, ∃ S : List Int, S.Perm R ∧ S.Pairwise (· ≤ ·) := by
  intro R
  refine ⟨R.mergeSort (fun a b => decide (a ≤ b)), List.mergeSort_perm .., ?_⟩
  have := List.pairwise_mergeSort (le := fun a b : Int => decide (a ≤ b)) (fun a b c h1 h2 => by simp only [decide_eq_true_eq] at *; omega) (fun a b => by simp only [Bool.or_eq_true, decide_eq_true_eq]; omega) R
  exact this.imp fun h => by simpa using h
/-- the largest ones stand at the end of what is sorted -/
theorem top_split {K R ns p S : List Int} (h : (K ++ R).Perm ns) (hb : ∀ x ∈ K, ∀ y ∈ R, y ≤ x) (hp : p.Perm ns) (ha : p.Pairwise (· ≤ ·)) (hS : S.Perm K) (hSa : S.Pairwise (· ≤ ·)) : ∃ T, p = T ++ S ∧ T.length = R.length := by
  obtain ⟨T, hT, hTa⟩ := asc_ex R
  refine ⟨T, lks_uniq (hp.trans (h.symm.trans ?_)) ha ?_, hT.length_eq⟩
  · exact (List.perm_append_comm).trans ((hT.symm).append hS.symm)
  · rw [List.pairwise_append]
    exact ⟨hTa, hSa, fun a ha b hb' => hb b (hS.mem_iff.mp hb') a (hT.mem_iff.mp ha)⟩
theorem top_desc {K R ns p : List Int} {k : Nat} (h : (K ++ R).Perm ns) (hb : ∀ x ∈ K, ∀ y ∈ R, y ≤ x) (hd : Ordered true K) (hk : K.length = min k ns.length) (hp : p.Perm ns) (ha : p.Pairwise (· ≤ ·)) : K = p.reverse.take k := by
  have hd' : K.Pairwise (· ≥ ·) := by simpa [Ordered] using hd
  obtain ⟨T, hT, hl⟩ := top_split h hb hp ha (List.reverse_perm K) (by rw [List.pairwise_reverse]; exact hd'.imp fun h => h)
  have hlen : K.length + R.length = ns.length := by rw [← h.length_eq, List.length_append]
  rw [hT, List.reverse_append, List.reverse_reverse]
  by_cases c : k ≤ ns.length
  · rw [Nat.min_eq_left c] at hk
    rw [← hk, List.take_left]
  · have : R = [] := List.eq_nil_of_length_eq_zero (by rw [Nat.min_eq_right (by omega)] at hk; omega)
    subst this
    have : T = [] := List.eq_nil_of_length_eq_zero hl
    subst this
    simp only [List.reverse_nil, List.append_nil]
    rw [List.take_of_length_le (by omega)]
theorem top_asc {K R ns p S : List Int} {k : Nat} (h : (K ++ R).Perm ns) (hb : ∀ x ∈ K, ∀ y ∈ R, y ≤ x) (hk : K.length = min k ns.length) (hp : p.Perm ns) (ha : p.Pairwise (· ≤ ·)) (hS : S.Perm K) (hSa : S.Pairwise (· ≤ ·)) : S = p.drop (p.length - k) := by
  obtain ⟨T, hT, hl⟩ := top_split h hb hp ha hS hSa
  have hlen : K.length + R.length = ns.length := by rw [← h.length_eq, List.length_append]
  have hpl : p.length = ns.length := hp.length_eq
  have : p.length - k = T.length := by
    rw [hpl, hl]
    by_cases c : k ≤ ns.length
    · rw [Nat.min_eq_left c] at hk; omega
    · rw [Nat.min_eq_right (by omega)] at hk; omega
  rw [this, hT, List.drop_left]
theorem top_int_ge {ns : List Int} {i : Nat} {K : List Int} {m e : Int} (hm : ∀ x ∈ K, m ≤ x) (T : ∃ R, (K ++ R).Perm (ns.take i) ∧ ∀ a ∈ K, ∀ b ∈ R, b ≤ a) (he : ns[i]? = some e) (h : ¬ m < e) : ∃ R, (K ++ R).Perm (ns.take (i + 1)) ∧ ∀ a ∈ K, ∀ b ∈ R, b ≤ a := by
  obtain ⟨R, h1, h2⟩ := T
  refine ⟨e :: R, ?_, ?_⟩
  · rw [List.take_add_one, he]
    refine List.Perm.trans ?_ (h1.append_right [e])
    rw [List.append_assoc]
    exact List.Perm.append_left _ (List.perm_append_comm (l₁ := [e]) (l₂ := R))
  · intro a ha b hb
    rcases List.mem_cons.mp hb with rfl | hb
    · have := hm a ha; omega
    · exact h2 a ha b hb
theorem top_int_lt {ns : List Int} {i : Nat} {K K' : List Int} {m e : Int} (hm : ∀ x ∈ K, m ≤ x) (T : ∃ R, (m :: K ++ R).Perm (ns.take i) ∧ ∀ a ∈ m :: K, ∀ b ∈ R, b ≤ a) (he : ns[i]? = some e) (h : m < e) (hK : K'.Perm (e :: K)) : ∃ R, (K' ++ R).Perm (ns.take (i + 1)) ∧ ∀ a ∈ K', ∀ b ∈ R, b ≤ a := by
  obtain ⟨R, h1, h2⟩ := T
  refine ⟨m :: R, ?_, ?_⟩
  · rw [List.take_add_one, he]
    refine List.Perm.trans ?_ (h1.append_right [e])
    refine (hK.append_right _).trans ?_
    show (e :: (K ++ (m :: R))).Perm ((m :: K ++ R) ++ [e])
    refine List.Perm.trans (List.Perm.cons _ List.perm_middle) ?_
    exact (List.perm_append_comm (l₁ := [e]) (l₂ := m :: K ++ R))
  · intro a ha b hb
    have ha' := hK.mem_iff.mp ha
    rcases List.mem_cons.mp ha' with rfl | ha'
    · rcases List.mem_cons.mp hb with rfl | hb
      · omega
      · have := h2 m (.head _) b hb
        omega
    · rcases List.mem_cons.mp hb with rfl | hb
      · exact hm a ha'
      · exact h2 a (.tail _ ha') b hb
end Mine

-- C11
namespace Mine
theorem fillme11 (w : World) : (hd.heap_39 w.params) = (hd.heap_39 w.params) ∧ PySem.Challenge.rw_kl0171_01 = PySem.Challenge.rw_kl0171_01 := by
  k_fill
  exact ⟨rfl, rfl⟩
local macro_rules | `(tactic| walk_at "call builtin:iter") => `(tactic| refine stop_intro ?_)
local macro_rules | `(tactic| walk_at "call type:object") => `(tactic| refine stop_intro ?_)
local macro_rules | `(tactic| walk_at "call builtin:min") => `(tactic| refine stop_intro ?_)
local macro_rules | `(tactic| walk_at "compareOp Is int ref") => `(tactic| (refine wpAny_is_other (by rfl) (by intro x; cases x) ?_))
section
variable {prog : Program} {w : World} {A : Around} {s : Shared} {h₀ : Heap} {L : Addr} {m : Str → Option Value} {news : List (Addr × Obj)} {E : Value → Shared → Prop} {Q : Value → Shared → Prop}
theorem nsmallest_one {D : Addr} {v : Int} {t0 : Tok} {n : Nat} {t : Tok} (C : Here w A h₀ L) (hdp : A.depth + 3 < recursionLimit) (hun : A.units + 80 < cLine) (F : Fr h₀ L s.heap m) (N : News h₀ L s.heap news)
   (hD : (D, LO [.int v t0] n) ∈ news)
   (hQ : ∀ D' n' h' tk, Fr h₀ L h' m → News h₀ L h' ((D', LO [.int v t0] n') :: news) → (∀ p ∈ news, p.1 ≠ D') → Q (.ref D') { s with heap := h', toks := tk }) :
   wpAny (model prog w) A (call (.ref 181) [.int 1 t, .ref D]) Q E s := by
  obtain ⟨hdd, dp, frs, gs, un⟩ := A
  cases (show hdd = none from C.hh)
  have X0 := C.ex
  obtain ⟨A₀, base, outer, env, p, loose, mean, mg, mb, B, X, T, hA, hf, hke⟩ := X0
  refine' enterC [("n", .int 1 t), ("iterable", .ref D), ("key", .none)] C F N ?ho ?hcd ?hroom ?hbind ?hkind ?hnd ?hco ?hgen ?hk ?h
  (case ho => k_dflt k_is); (case hcd => k_dflt k_is); (case hroom => first | omega | (dsimp only at *; omega)); (case hbind => exact binds_K (Frag.In.keeps X F.keep) rfl (by k_dflt k_is) rfl rfl rfl); (case hkind => rfl); (case hnd => decide +kernel); (case hco => rfl); (case hgen => rfl); (case hk => rfl)
  clear X T B hA hf hke
  intro g L' h₁ tk cells C' F' N' Y' pm lt'
  obtain ⟨A₀, base, outer, env, p, loose, mean, mg, mb, B, X, T, hA, hf, hke⟩ := C'.ex
  k_cells Y'
  simp only [List.cons_append, List.nil_append] at N'
  k_steps
  unfold Stop
  refine iter_N (D := D) (vs := [.int v t0]) (n := n) ‹_› ‹_› (.tail _ hD) fun I hh FF NN oo => ?_
  k_steps
  unfold Stop

  refine object_N ‹_› ‹_› fun O hh1 FF1 NN1 oo1 => ?_
  k_steps
  unfold Stop


  refine min_one_N (D := D) (I := I) (v := .int v t0) (n := n) C'.hh ‹_› ‹_› (.tail _ (.head _)) (.tail _ (.tail _ (.tail _ hD))) fun hh2 FF2 NN2 => ?_
  have NN3 := NN2 ((O, sentObj) :: news) (by
    intro p hp
    rcases List.mem_cons.mp hp with h | h
    · rw [h]; exact ⟨.head _, Ne.symm (oo1 _ (.head _))⟩
    · exact ⟨.tail _ (.tail _ (.tail _ h)), oo _ (.tail _ h)⟩)
  clear NN2
  k_steps
  rename_i l9 h9 F9 N9 l91
  refine Ret.intro (news' := (l9, LO [.int v t0] 0) :: news) pm F9 (fun p hp => N9 p ?_) fun F6 N6 => hQ l9 0 _ _ F6 N6 ?_
  · rcases List.mem_cons.mp hp with h | h
    · rw [h]; exact .head _
    · exact .tail _ (.tail _ h)
  · intro p hp e
    have h2 := allLt_mem l91.2 p hp
    rw [e] at h2; exact absurd h2 (Nat.lt_irrefl _)
end
section
local macro_rules | `(tactic| walk_at "ite") => `(tactic| first | (refine ite_neg (by simp only [decide_eq_true_eq, beq_iff_eq]; omega) ?_) | (refine ite_pos (by simp only [decide_eq_true_eq, beq_iff_eq]; omega) ?_))
local macro_rules | `(tactic| walk_at "exec Try") => `(tactic| refine wpAny_Try_except ?_)
local macro_rules | `(tactic| walk_at "call builtin:len") => `(tactic| refine stop_intro ?_)
local macro_rules | `(tactic| walk_at "call builtin:sorted") => `(tactic| refine stop_intro ?_)
variable {prog : Program} {w : World} {A : Around} {s : Shared} {h₀ : Heap} {L : Addr} {m : Str → Option Value} {news : List (Addr × Obj)} {E : Value → Shared → Prop} {Q : Value → Shared → Prop}
theorem nsmallest_all {D : Addr} {vs : List Value} {ns : List Int} {n : Nat} {t : Tok} (C : Here w A h₀ L) (hdp : A.depth + 3 < recursionLimit) (hun : A.units + 80 < cLine) (F : Fr h₀ L s.heap m) (N : News h₀ L s.heap news)
   (hD : (D, LO vs n) ∈ news) (hi : IntsAre vs ns) (hl : vs.length < 64) (h1 : vs.length ≠ 1)
   (hQ : ∀ D' vs' ns' n' h' tk, Fr h₀ L h' m → IntsAre vs' ns' → ns'.Perm ns → Ordered false ns' → News h₀ L h' ((D', LO vs' n') :: news) → (∀ p ∈ news, p.1 ≠ D') → Q (.ref D') { s with heap := h', toks := tk }) :
   wpAny (model prog w) A (call (.ref 181) [.int (vs.length : Nat) t, .ref D]) Q E s := by
  obtain ⟨hdd, dp, frs, gs, un⟩ := A
  cases (show hdd = none from C.hh)
  have X0 := C.ex
  obtain ⟨A₀, base, outer, env, p, loose, mean, mg, mb, B, X, T, hA, hf, hke⟩ := X0
  refine' enterC [("n", .int (vs.length : Nat) t), ("iterable", .ref D), ("key", .none)] C F N ?ho ?hcd ?hroom ?hbind ?hkind ?hnd ?hco ?hgen ?hk ?h
  (case ho => k_dflt k_is); (case hcd => k_dflt k_is); (case hroom => first | omega | (dsimp only at *; omega)); (case hbind => exact binds_K (Frag.In.keeps X F.keep) rfl (by k_dflt k_is) rfl rfl rfl); (case hkind => rfl); (case hnd => decide +kernel); (case hco => rfl); (case hgen => rfl); (case hk => rfl)
  clear X T B hA hf hke
  intro g L' h₁ tk cells C' F' N' Y' pm lt'
  obtain ⟨A₀, base, outer, env, p, loose, mean, mg, mb, B, X, T, hA, hf, hke⟩ := C'.ex
  k_cells Y'
  simp only [List.cons_append, List.nil_append] at N'
  have h1' : ¬ ((vs.length : Int) = 1) := by omega
  k_steps
  unfold Stop
  refine len_N (D := D) (its := vs) (n := n) ‹_› (.tail _ hD) (by omega) ?_
  k_steps
  unfold Stop
  refine sorted_N_kw (kw := [(Str.ofString "key", .none)]) (b := false) (l := D) (vs := vs) (ns := ns) ‹_› ‹_› (PySem.IsL.isList (n := n) ((show News g L' _ _ from ‹_›) _ (.tail _ hD)).1) hi hl (ksk_s1 _ _) (fun a => ksk_l1 _ _) sort_key_none ?_
  intro D2 hh2 vs2 ns2 e2 FF2 NN2 oo2 hi2 hp2 ho2
  k_steps
  have hlen : vs2.length = vs.length := by rw [hi2.length, hp2.length_eq, hi.length]
  refine slice_N (D := D2) (vs := vs2) (n := e2) (zs := vs2) ‹_› ‹_› (.head _) .none (.int _ _) .none (by simp) (by rw [hlen, sizeLine_eq]; omega) (by rw [pick_upto, ← hlen, List.take_length]) ?_
  intro D3 hh3 FF3 NN3 oo3
  refine Ret.intro (news' := (D3, LO vs2 0) :: news) pm FF3 (fun p hp => NN3 p ?_) fun F6 N6 => hQ D3 vs2 ns2 0 _ _ F6 hi2 hp2 ho2 N6 fun p hp => oo3 p (.tail _ (.tail _ hp))
  rcases List.mem_cons.mp hp with h | h
  · rw [h]; exact .head _
  · exact .tail _ (.tail _ (.tail _ h))
theorem nsmallest_call {D : Addr} {vs : List Value} {ns : List Int} {n : Nat} {t : Tok} (C : Here w A h₀ L) (hdp : A.depth + 3 < recursionLimit) (hun : A.units + 80 < cLine) (F : Fr h₀ L s.heap m) (N : News h₀ L s.heap news)
   (hD : (D, LO vs n) ∈ news) (hi : IntsAre vs ns) (hl : vs.length < 64)
   (hQ : ∀ D' vs' ns' n' h' tk, Fr h₀ L h' m → IntsAre vs' ns' → ns'.Perm ns → Ordered false ns' → News h₀ L h' ((D', LO vs' n') :: news) → (∀ p ∈ news, p.1 ≠ D') → Q (.ref D') { s with heap := h', toks := tk }) :
   wpAny (model prog w) A (call (.ref 181) [.int (vs.length : Nat) t, .ref D]) Q E s := by
  by_cases h1 : vs.length = 1
  · cases hi with
    | nil => exact absurd h1 (by decide)
    | cons v t0 hr =>
      cases hr with
      | nil => exact nsmallest_one C hdp hun F N hD fun D' n' h' tk F' N' o' => hQ D' _ _ n' h' tk F' (.cons v t0 .nil) (List.Perm.refl _) (by simp [Ordered]) N' o'
      | cons _ _ _ => simp at h1
  · exact nsmallest_all C hdp hun F N hD hi hl h1 hQ
end
end Mine

-- C12
namespace Mine
theorem fillme12 (w : World) : (hd.heap_39 w.params) = (hd.heap_39 w.params) ∧ PySem.Challenge.rw_kl0171_01 = PySem.Challenge.rw_kl0171_01 := by
  k_fill
  exact ⟨rfl, rfl⟩
local macro_rules | `(tactic| walk_at "call builtin:iter") => `(tactic| refine stop_intro ?_)
local macro_rules | `(tactic| walk_at "exec Try") => `(tactic| refine wpAny_Try_except ?_)
local macro_rules | `(tactic| walk_at "call builtin:len") => `(tactic| refine stop_intro ?_)
local macro_rules | `(tactic| walk_at "call builtin:sorted") => `(tactic| refine stop_intro ?_)
section
variable {prog : Program} {w : World} {A : Around} {s : Shared} {h₀ : Heap} {L : Addr} {m : Str → Option Value} {news : List (Addr × Obj)} {E : Value → Shared → Prop} {Q : Value → Shared → Prop}
section
local macro_rules | `(tactic| walk_at "ite") => `(tactic| first | (refine ite_neg (by simp only [decide_eq_true_eq, beq_iff_eq]; omega) ?_) | (refine ite_pos (by simp only [decide_eq_true_eq, beq_iff_eq]; omega) ?_))
theorem nlargest_short {D : Addr} {vs : List Value} {ns : List Int} {n : Nat} {t : Tok} (C : Here w A h₀ L) (hdp : A.depth + 3 < recursionLimit) (hun : A.units + 80 < cLine) (F : Fr h₀ L s.heap m) (N : News h₀ L s.heap news)
   (hD : (D, LO vs n) ∈ news) (hi : IntsAre vs ns) (hl : vs.length ≤ 3)
   (hQ : ∀ D' vs' ns' n' h' tk, Fr h₀ L h' m → IntsAre vs' ns' → ns'.Perm ns → Ordered true ns' → News h₀ L h' ((D', LO vs' n') :: news) → (∀ p ∈ news, p.1 ≠ D') → Q (.ref D') { s with heap := h', toks := tk }) :
   wpAny (model prog w) A (call (.ref 187) [.int 3 t, .ref D]) Q E s := by
  obtain ⟨hdd, dp, frs, gs, un⟩ := A
  cases (show hdd = none from C.hh)
  have X0 := C.ex
  obtain ⟨A₀, base, outer, env, p, loose, mean, mg, mb, B, X, T, hA, hf, hke⟩ := X0
  refine' enterC [("n", .int 3 t), ("iterable", .ref D), ("key", .none)] C F N ?ho ?hcd ?hroom ?hbind ?hkind ?hnd ?hco ?hgen ?hk ?h
  (case ho => k_dflt k_is); (case hcd => k_dflt k_is); (case hroom => first | omega | (dsimp only at *; omega)); (case hbind => exact binds_K (Frag.In.keeps X F.keep) rfl (by k_dflt k_is) rfl rfl rfl); (case hkind => rfl); (case hnd => decide +kernel); (case hco => rfl); (case hgen => rfl); (case hk => rfl)
  clear X T B hA hf hke
  intro g L' h₁ tk cells C' F' N' Y' pm lt'
  obtain ⟨A₀, base, outer, env, p, loose, mean, mg, mb, B, X, T, hA, hf, hke⟩ := C'.ex
  k_cells Y'
  simp only [List.cons_append, List.nil_append] at N'
  k_steps
  unfold Stop
  refine len_N (D := D) (its := vs) (n := n) ‹_› (.tail _ hD) (by omega) ?_
  k_steps
  unfold Stop
  refine sorted_N_kw (kw := [(Str.ofString "key", .none), (Str.ofString "reverse", .bool true)]) (b := true) (l := D) (vs := vs) (ns := ns) ‹_› ‹_› (PySem.IsL.isList (n := n) ((show News g L' _ _ from ‹_›) _ (.tail _ hD)).1) hi (by omega) (ksk_s2 _ _ _) (fun a => ksk_l2 _ _ _) sort_key_rev ?_
  intro D2 hh2 vs2 ns2 e2 FF2 NN2 oo2 hi2 hp2 ho2
  k_steps
  have hlen : vs2.length = vs.length := by rw [hi2.length, hp2.length_eq, hi.length]
  refine slice_N (D := D2) (vs := vs2) (n := e2) (zs := vs2) ‹_› ‹_› (.head _) .none (.int _ _) .none (by simp) (by rw [hlen, sizeLine_eq]; omega) (by rw [show (3 : Int) = ((3 : Nat) : Int) from rfl, pick_upto, List.take_of_length_le (by omega)]) ?_
  intro D3 hh3 FF3 NN3 oo3
  refine Ret.intro (news' := (D3, LO vs2 0) :: news) pm FF3 (fun p hp => NN3 p ?_) fun F6 N6 => hQ D3 vs2 ns2 0 _ _ F6 hi2 hp2 ho2 N6 fun p hp => oo3 p (.tail _ (.tail _ hp))
  rcases List.mem_cons.mp hp with h | h
  · rw [h]; exact .head _
  · exact .tail _ (.tail _ (.tail _ h))
end
end
end Mine

-- C13
namespace Mine
theorem fillme13 (w : World) : (hd.heap_39 w.params) = (hd.heap_39 w.params) ∧ PySem.Challenge.rw_kl0171_01 = PySem.Challenge.rw_kl0171_01 := by
  k_fill
  exact ⟨rfl, rfl⟩
local macro_rules | `(tactic| walk_at "call builtin:iter") => `(tactic| refine stop_intro ?_)
local macro_rules | `(tactic| walk_at "exec Try") => `(tactic| refine wpAny_Try_except ?_)
local macro_rules | `(tactic| walk_at "call builtin:len") => `(tactic| refine stop_intro ?_)
local macro_rules | `(tactic| walk_at "call builtin:sorted") => `(tactic| refine stop_intro ?_)
local macro_rules | `(tactic| walk_at "call ref cons nil") => `(tactic| refine stop_intro ?_)
local macro_rules | `(tactic| walk_at "truthy ref") => `(tactic| refine stop_intro ?_)
local macro_rules | `(tactic| walk_at "subscriptTail") => `(tactic| refine stop_intro ?_)
local macro_rules | `(tactic| walk_at "exec For") => `(tactic| refine stop_intro ?_)
local macro_rules | `(tactic| walk_at "call builtin:list.sort") => `(tactic| refine stop_intro ?_)
local macro_rules | `(tactic| walk_at "CompEnd") => `(tactic| refine LCg.CompEnd.intro (by assumption) (by assumption) _ (fun p hp => hp) (by assumption) (.inr ⟨_, .head _, rfl, _, rfl⟩) ?_)
local macro_rules | `(tactic| walk_at "assign Tuple") => `(tactic| refine stop_intro ?_)
local macro_rules | `(tactic| walk_at "MY names") => `(tactic| (simp only [List.forall_mem_cons, List.not_mem_nil, false_implies, implies_true, and_true]; (repeat' apply And.intro) <;> first | rfl | assumption))
local macro_rules | `(tactic| walk_at "call type:zip") => `(tactic| refine stop_intro ?_)
local macro_rules | `(tactic| walk_at "exec Assign cons ListComp") => `(tactic| refine stop_intro ?_)
def Tups (vs : List Value) (ns : List Int) (tups : List (Addr × Obj)) : Prop := tups.map (fun p => (pairOf p.2).1) = ns.take 3 ∧ ∀ p ∈ tups, ∃ a b t u, p.2 = pairO (.int a t) (.int b u)
theorem int_at {vs : List Value} {ns : List Int} (hi : IntsAre vs ns) {j : Nat} {v : Value} (h : vs[j]? = some v) : ∃ x t, v = .int x t ∧ ns[j]? = some x := by
  induction hi generalizing j with
  | nil => simp at h
  | cons n t _ ih =>
    cases j with
    | zero => simp only [List.getElem?_cons_zero, Option.some.injEq] at h; exact ⟨n, t, h.symm, rfl⟩
    | succ j => simpa using ih (by simpa using h)
theorem ledger_name {h₀ h : Heap} {L : Addr} {nw : List (Addr × Obj)} (_N : News h₀ L h nw) : ∃ x, x = nw := ⟨_, rfl⟩
theorem tups_of {vs : List Value} {ns : List Int} {tups : List (Addr × Obj)} (hz : ZT vs.toArray 0 (-1) 3 tups) (hi : IntsAre vs ns) : Tups vs ns tups := by
  have key : ∀ j, j < 3 → ∃ p x t b u, tups[j]? = some p ∧ ns[j]? = some x ∧ p.2 = pairO (.int x t) (.int b u) := fun j hj => by
    obtain ⟨p, v, t, h1, h2, h3⟩ := hz.2 j hj
    obtain ⟨x, t', rfl, h4⟩ := int_at hi (by simpa using h2)
    exact ⟨p, x, t', _, t, h1, h4, h3⟩
  refine ⟨?_, fun p hp => ?_⟩
  · apply List.ext_getElem?
    intro j
    by_cases hj : j < 3
    · obtain ⟨p, x, t, b, u, h1, h2, h3⟩ := key j hj
      rw [List.getElem?_map, h1, List.getElem?_take_of_lt hj, h2, Option.map_some, h3]; rfl
    · rw [List.getElem?_map, List.getElem?_eq_none (by rw [hz.1]; omega), List.getElem?_eq_none (by rw [List.length_take]; omega)]; rfl
  · obtain ⟨j, hj⟩ := List.getElem?_of_mem hp
    have hlt : j < 3 := by
      rcases Nat.lt_or_ge j tups.length with h | h
      · rw [hz.1] at h; exact h
      · rw [List.getElem?_eq_none h] at hj; cases hj
    obtain ⟨q, x, t, b, u, h1, h2, h3⟩ := key j hlt
    rw [h1] at hj; cases hj
    exact ⟨x, b, t, u, h3⟩
theorem Tups.lts {prog : Program} {w : World} {vs : List Value} {ns : List Int} {tups nw : List (Addr × Obj)} {h₀ h : Heap} {L : Addr} (T : Tups vs ns tups) (N : News h₀ L h nw) (hm : ∀ p ∈ tups, p ∈ nw) :
    ∀ a ∈ tups.map (fun p => Value.ref p.1), ∀ b ∈ tups.map (fun p => Value.ref p.1), LtIs prog w tups a b (ltv tups a b) := by
  intro a ha b hb
  obtain ⟨p, hp, rfl⟩ := List.mem_map.mp ha
  obtain ⟨q, hq, rfl⟩ := List.mem_map.mp hb
  obtain ⟨a1, b1, t1, u1, e1⟩ := T.2 p hp
  obtain ⟨a2, b2, t2, u2, e2⟩ := T.2 q hq
  refine ltIs_pair (a := a1) (b := b1) (t := t1) (u := u1) (c := a2) (d := b2) (v := t2) (x := u2) (by rw [← e1]; exact hp) (by rw [← e2]; exact hq) fun x hx y hy e => ?_
  have h1 := (N x (hm x hx)).1
  have h2 := (N y (hm y hy)).1
  rw [e, h2] at h1; exact (Option.some.inj h1).symm
structure NL where
  its : List Value
  facts : List (Addr × Obj)
  top : Int
  tt : Tok
  ord : Int
  ot : Tok
def NLI (ns : List Int) (D2 : Addr) (news : List (Addr × Obj)) (i : Nat) (c : NL) (nx : List (Addr × Obj)) : Prop :=
  ∃ x r, c.its = x :: r ∧ c.its.length = 3 ∧ (D2, LO c.its 3) ∈ nx ∧ (∀ p ∈ c.facts, p ∈ nx ∧ p.1 ≠ D2) ∧ PairsIn c.facts c.its ∧ Hp.HeapFrom (ltv c.facts) 0 c.its ∧ (keyOf c.facts x).1 = c.top ∧ Top3 ns (i + 3) c.facts c.its ∧ ∀ p ∈ news, p ∈ nx
section
variable {prog : Program} {w : World} {A : Around} {s : Shared} {h₀ : Heap} {L : Addr} {m : Str → Option Value} {news : List (Addr × Obj)} {E : Value → Shared → Prop} {Q : Value → Shared → Prop}
theorem nlargest_long {D : Addr} {vs : List Value} {ns : List Int} {n : Nat} {t : Tok} (C : Here w A h₀ L) (hdp : A.depth + 6 < recursionLimit) (hun : A.units + 200 < cLine) (F : Fr h₀ L s.heap m) (N : News h₀ L s.heap news)
   (hD : (D, LO vs n) ∈ news) (hi : IntsAre vs ns) (hl : vs.length < 64) (h3 : 3 < vs.length)
   (hQ : ∀ D' vs' ns' n' h' tk, Fr h₀ L h' m → IntsAre vs' ns' → ns'.length = 3 → (∃ R, (ns' ++ R).Perm ns ∧ ∀ x ∈ ns', ∀ y ∈ R, y ≤ x) → Ordered true ns' → News h₀ L h' ((D', LO vs' n') :: news) → (∀ p ∈ news, p.1 ≠ D') → Q (.ref D') { s with heap := h', toks := tk }) :
   wpAny (model prog w) A (call (.ref 187) [.int 3 t, .ref D]) Q E s := by
  obtain ⟨hdd, dp, frs, gs, un⟩ := A
  cases (show hdd = none from C.hh)
  have X0 := C.ex
  obtain ⟨A₀, base, outer, env, p, loose, mean, mg, mb, B, X, T, hA, hf, hke⟩ := X0
  refine' enterC [("n", .int 3 t), ("iterable", .ref D), ("key", .none)] C F N ?ho ?hcd ?hroom ?hbind ?hkind ?hnd ?hco ?hgen ?hk ?h
  (case ho => k_dflt k_is); (case hcd => k_dflt k_is); (case hroom => first | omega | (dsimp only at *; omega)); (case hbind => exact binds_K (Frag.In.keeps X F.keep) rfl (by k_dflt k_is) rfl rfl rfl); (case hkind => rfl); (case hnd => decide +kernel); (case hco => rfl); (case hgen => rfl); (case hk => rfl)
  clear X T B hA hf hke
  intro g L' h₁ tk cells C' F' N' Y' pm lt'
  obtain ⟨A₀, base, outer, env, p, loose, mean, mg, mb, B, X, T, hA, hf, hke⟩ := C'.ex
  k_cells Y'
  simp only [List.cons_append, List.nil_append] at N'
  k_steps
  unfold Stop
  refine len_N (D := D) (its := vs) (n := n) ‹_› (.tail _ hD) (by omega) ?_
  k_steps
  unfold Stop
  refine iter_N (D := D) (vs := vs) (n := n) ‹_› ‹_› (.tail _ hD) fun I hh FF NN oo => ?_
  k_steps
  unfold Stop
  refine assign_zr (by rfl) (show Fr g L' _ _ from ‹_›) (by rfl) (by rfl) (by with_unfolding_all rfl) (by decide) (by rfl) (by decide) (by rfl) (by rfl) (by decide) (by rfl) (by rfl) (by decide) (by decide) ?_
  k_steps
  unfold Stop
  refine zr_src (nn := n) (vs := vs) ‹_› ‹_› (.tail _ hD) oo ‹_› (by omega) fun hh2 => ?_
  intro D2 oI h3 tk3 tups F3 N3 hI3 hz o1 o2 o3
  have htl : tups.length = 3 := hz.1
  have hT : Tups vs ns tups := tups_of hz hi
  obtain ⟨nw, hnw⟩ := ledger_name N3
  rw [← hnw] at N3
  have m1 : (D2, LO (tups.map fun p => Value.ref p.1) 3) ∈ nw := hnw ▸ .head _
  have m2 : (I, oI) ∈ nw := hnw ▸ .tail _ (.head _)
  have m3 : ∀ p ∈ tups, p ∈ nw ∧ p.1 ≠ D2 := fun p hp => ⟨hnw ▸ .tail _ (.tail _ (List.mem_append_left _ hp)), fun e => absurd (o1 p hp) (e ▸ Nat.lt_irrefl _)⟩
  have m4 : ∀ p ∈ news, p ∈ nw := fun p hp => hnw ▸ .tail _ (.tail _ (List.mem_append_right _ (.tail _ hp)))
  clear hnw
  k_steps
  unfold Stop
  refine truthy_N ‹_› m1 (by simp [htl]) ?_
  have hne : (tups.map fun p => Value.ref p.1) ≠ [] := by intro e; have := congrArg List.length e; simp [htl] at this
  rw [show (!(tups.map fun p => Value.ref p.1).isEmpty) = true from by simpa using hne]
  k_steps
  unfold Stop
  refine heapify_call (D := D2) (its := tups.map fun p => Value.ref p.1) (n := 3) (lt := ltv tups) (facts := tups) C' (by simp only [depth_deeper]; dsimp only at hdp; omega) (by simp only [Around.deeper_units]; dsimp only at hun; omega) ‹_› ‹_› m1 (by simp [htl]) ?lts m3 ?_
  case lts => exact hT.lts (show News g L' _ _ from ‹_›) (fun p hp => (m3 p hp).1)
  intro h4 tk4 F4 N4
  have hoI : oI.cls = .type "list_iterator" ∧ oI.data = .fields #[.ref D, .int 3 0] := by
    obtain ⟨o, e1, e2, e3⟩ := hI3
    have := (N3 _ m2).1
    rw [e1] at this; cases this; exact ⟨e2, e3⟩
  obtain ⟨H4, P4⟩ := heapify_spec (swo_ltv tups) (tups.map fun p => Value.ref p.1)
  generalize hfy (ltv tups) ((tups.map fun p => Value.ref p.1).length / 2) (tups.map fun p => Value.ref p.1) = its4 at N4 H4 P4
  have hl4 : its4.length = 3 := by rw [P4.length_eq]; simp [htl]
  obtain ⟨x0, r0, rfl⟩ : ∃ x r, its4 = x :: r := by
    cases its4 with
    | nil => simp at hl4
    | cons x r => exact ⟨x, r, rfl⟩
  have hx0 : x0 ∈ tups.map (fun p => Value.ref p.1) := P4.mem_iff.mp (.head _)
  obtain ⟨q0, hq0, rfl⟩ := List.mem_map.mp hx0
  obtain ⟨a0, b0, t0, u0, e0⟩ := hT.2 q0 hq0
  obtain ⟨nw4, hnw4⟩ := ledger_name N4
  rw [← hnw4] at N4
  have m14 : (D2, LO (.ref q0.1 :: r0) 3) ∈ nw4 := hnw4 ▸ mem_setL_self m1
  have m24 : (I, oI) ∈ nw4 := hnw4 ▸ mem_setL_ne m2 (fun e => absurd o3 (e ▸ Nat.lt_irrefl _))
  have m34 : ∀ p ∈ tups, p ∈ nw4 ∧ p.1 ≠ D2 := fun p hp => ⟨hnw4 ▸ mem_setL_ne (m3 p hp).1 (m3 p hp).2, (m3 p hp).2⟩
  have m44 : ∀ p ∈ news, p ∈ nw4 := fun p hp => hnw4 ▸ mem_setL_ne (m4 p hp) (fun e => absurd (o2 p (.tail _ hp)) (e ▸ Nat.lt_irrefl _))
  clear hnw4
  k_steps
  unfold Stop
  refine item_N ‹_› m14 0 rfl (by decide) rfl ?_
  k_steps
  unfold Stop
  refine item_T ‹_› (show (q0.1, pairO (.int a0 t0) (.int b0 u0)) ∈ nw4 from e0 ▸ (m34 q0 hq0).1) (.inl ⟨rfl, rfl⟩) ?_
  k_steps
  unfold Stop
  refine For_invV g (by rfl) (by rfl) ?_
  k_steps
  have NN := ‹News g L' _ nw4›
  have FF := ‹Fr g L' _ _›
  have hDI : D ≠ I := fun e => oo _ (.tail _ hD) e
  have hDD2 : (D, LO vs n) ∈ nw4 := m44 _ hD
  have hIit : Heap.IsListIter _ I D 3 := ⟨oI, (NN _ m24).1, hoI.1, hoI.2⟩
  refine wpAny_pyIter_listiter hIit ?_
  have W := Walks.list (prog := prog) (w := w) C'.hh I D hDI vs.toArray
  have hvl : vs.toArray.size = vs.length := by simp
  rw [hvl] at W
  refine' loop_walk (σ := NL) (Walks_shift W 3 (by omega)) [(D, LO vs n)] ?hfp ?hSI (fun c => [("result", .ref D2), ("top", .int c.top c.tt), ("order", .int c.ord c.ot), ("_heapreplace", .ref 126)]) (NLI ns D2 news) ⟨.ref q0.1 :: r0, tups, a0, t0, -3, ?ot⟩ (news₀ := nw4.filter fun p => p.1 ≠ I)
    ?hIn ?hIL ?hI0 ?hst FF ?hN ?hK ?hJ ?hk ?turn ?done
  case hk => walk_at "MY names"
  case hfp => simp
  case hSI => exact fun i h st => let ⟨o, ho, _⟩ := st.1; ⟨o, ho⟩
  case hIn => intro p hp; simpa using (List.mem_filter.mp hp).2
  case hIL => exact (NN _ m24).2.1
  case hI0 => exact (NN _ m24).2.2
  case hst => exact ⟨⟨oI, (NN _ m24).1, hoI.1, hoI.2⟩, ⟨_, (NN _ hDD2).1, rfl, _, rfl⟩⟩
  case hN => exact fun p hp => NN p (List.mem_filter.mp hp).1
  case hK => intro p hp; rw [List.mem_singleton.mp hp]; exact List.mem_filter.mpr ⟨hDD2, by simpa using hDI⟩
  case hJ =>
    have fI : ∀ p ∈ nw4, p.1 ≠ I → p ∈ nw4.filter (fun p => p.1 ≠ I) := fun p hp h => List.mem_filter.mpr ⟨hp, by simpa using h⟩
    have U0 : UF tups := UF.of_news NN fun p hp => (m34 p hp).1
    have P0 : PairsIn tups (Value.ref q0.1 :: r0) := fun v hv => by
      obtain ⟨q, hq, rfl⟩ := List.mem_map.mp (P4.mem_iff.mp hv)
      obtain ⟨a, b, t', u', e'⟩ := hT.2 q hq
      exact ⟨q.1, a, b, t', u', rfl, by rw [← e']; exact hq⟩
    refine ⟨.ref q0.1, r0, rfl, hl4, fI _ m14 (fun e => absurd o3 (e ▸ Nat.lt_irrefl _)), fun p hp => ⟨fI _ (m34 p hp).1 (fun e => ?_), (m34 p hp).2⟩, P0, H4, ?_, ⟨[], ?_, fun _ _ _ hb => (nomatch hb)⟩, fun p hp => fI _ (m44 p hp) (oo _ (.tail _ hp))⟩
    · exact absurd (Nat.lt_trans o3 (o1 p hp)) (e ▸ Nat.lt_irrefl _)
    · rw [find_pair (a := a0) (b := b0) (t := t0) (u := u0) (by rw [← e0]; exact hq0) U0]
    · rw [List.append_nil]
      refine (P4.map _).trans (List.Perm.of_eq ?_)
      rw [← hT.1, List.map_map]
      refine List.map_congr_left fun q hq => ?_
      obtain ⟨a, b, t', u', e'⟩ := hT.2 q hq
      show (keyOf tups (.ref q.1)).1 = _
      rw [find_pair (p := q.1) (by rw [← e']; exact hq) U0, e']; rfl
  case turn =>
    rintro i v ⟨its, facts, top, tt, ord, ot⟩ u oI' h tk nx hi' hP ⟨x, r, rfl, hl3, d1, d2, d3, d4, d5, d6, d7⟩ hI hK F1 N1
    dsimp only at *
    have hP' : vs[i + 3]? = some v := by simpa using hP
    obtain ⟨e, te, rfl, hne'⟩ := int_at hi hP'
    have fin0 : ∀ p ∈ news, p.1 ≠ D2 := fun p hp e => absurd (o2 p (.tail _ hp)) (e ▸ Nat.lt_irrefl _)
    have hID : I ≠ D2 := fun e => absurd o3 (e ▸ Nat.lt_irrefl _)
    k_steps
    · rename_i hlt T hh2 F2 N2 l1
      unfold Stop
      have N2' : News g L' hh2 ((T, pairO (.int e te) (.int ord ot)) :: (I, oI') :: nx) := N2
      have U2 : UF ((T, pairO (.int e te) (.int ord ot)) :: facts) := UF.of_news N2' (fun p hp => by
        rcases List.mem_cons.mp hp with rfl | hp
        · exact .head _
        · exact .tail _ (.tail _ (d2 p hp).1))
      have hTD : T ≠ D2 := fun q => absurd (allLt_mem l1.2 _ d1) (q ▸ Nat.lt_irrefl _)
      obtain ⟨Ha, Hb, Hc⟩ := repl_facts d4 d3 U2
      have hfa : ∀ p ∈ (T, pairO (.int e te) (.int ord ot)) :: facts, p ∈ (T, pairO (.int e te) (.int ord ot)) :: (I, oI') :: nx ∧ p.1 ≠ D2 := fun p hp => by
        rcases List.mem_cons.mp hp with rfl | hp
        · exact ⟨.head _, hTD⟩
        · exact ⟨.tail _ (.tail _ (d2 p hp).1), (d2 p hp).2⟩
      refine heapreplace_call (D := D2) (x := x) (r := r) (v := .ref T) (n := 3) (lt := ltv ((T, pairO (.int e te) (.int ord ot)) :: facts)) (facts := (T, pairO (.int e te) (.int ord ot)) :: facts) C' (by simp only [depth_deeper]; omega) (by simp only [Around.deeper_units]; omega)
        F2 N2' (.tail _ (.tail _ d1)) (by simp at hl3; omega) (Hc.lts U2) hfa fun h5 tk5 F5 N5 => ?_
      have T3 := top3_lt d4 d3 U2 d6 hne' (by omega) Hb
      rw [show i + 3 + 1 = i + 1 + 3 by omega] at T3
      have PI := fun v hv => Hc v (Hb.mem_iff.mp hv)
      have hl5 := Hb.length_eq
      generalize Hp.su (ltv ((T, pairO (.int e te) (.int ord ot)) :: facts)) (Value.ref T) 0 0 (Value.ref T :: r) = its5 at N5 Ha Hb T3 PI hl5
      obtain ⟨x5, r5, rfl⟩ : ∃ x r, its5 = x :: r := by
        cases its5 with
        | nil => simp at hl5
        | cons x r => exact ⟨x, r, rfl⟩
      obtain ⟨p5, a5, b5, t5, u5, rfl, hm5⟩ := PI x5 (.head _)
      obtain ⟨nx5, hnx5⟩ := ledger_name N5
      rw [← hnx5] at N5
      have n1 : (D2, LO (.ref p5 :: r5) 3) ∈ nx5 := hnx5 ▸ mem_setL_self (.tail _ (.tail _ d1))
      have n2 : (I, oI') ∈ nx5 := hnx5 ▸ mem_setL_ne (.tail _ (.head _)) hID
      have n3 : ∀ p ∈ (T, pairO (.int e te) (.int ord ot)) :: facts, p ∈ nx5 ∧ p.1 ≠ D2 := fun p hp => ⟨hnx5 ▸ mem_setL_ne (hfa p hp).1 (hfa p hp).2, (hfa p hp).2⟩
      have n4 : ∀ p ∈ news, p ∈ nx5 := fun p hp => hnx5 ▸ mem_setL_ne (.tail _ (.tail _ (d7 p hp))) (fin0 p hp)
      have n5 : ∀ p ∈ (T, pairO (.int e te) (.int ord ot)) :: facts, p.1 ≠ I := fun p hp => by
        rcases List.mem_cons.mp hp with rfl | hp
        · exact fun q => absurd l1.1 (q ▸ Nat.lt_irrefl _)
        · exact hI p (d2 p hp).1
      clear hnx5
      k_steps
      unfold Stop
      refine item_N ‹_› n1 0 rfl (by decide) rfl ?_
      k_steps
      unfold Stop
      refine assign_pair_N (by rfl) (by rfl) (show Fr g L' _ _ from ‹_›) (show News g L' _ nx5 from ‹_›) (n3 _ hm5).1 (by rfl) (by rfl) (by rfl) fun h6 tk6 F6 N6 => ?_
      k_steps
      have F7 := ‹Fr g L' _ _›
      have N7 := ‹News g L' _ nx5›
      refine' FX.intro ⟨.ref p5 :: r5, (T, pairO (.int e te) (.int ord ot)) :: facts, a5, t5, ord - 1, ?o5⟩ (nx5.filter fun p => p.1 ≠ I) F7 N7 n2 (fun p hp => (List.mem_filter.mp hp).1) (fun p hp => by simpa using (List.mem_filter.mp hp).2) ?hK7 ?hJ7 ?hp7
      case hp7 => walk_at "MY names"
      case hK7 => intro p hp; rw [List.mem_singleton.mp hp]; exact List.mem_filter.mpr ⟨n4 _ hD, by simpa using hDI⟩
      case hJ7 =>
        have fI : ∀ p ∈ nx5, p.1 ≠ I → p ∈ nx5.filter (fun p => p.1 ≠ I) := fun p hp h => List.mem_filter.mpr ⟨hp, by simpa using h⟩
        refine ⟨.ref p5, r5, rfl, by rw [hl5]; simpa using hl3, fI _ n1 (Ne.symm hID), fun p hp => ⟨fI _ (n3 p hp).1 (n5 p hp), (n3 p hp).2⟩, PI, Ha, ?_, T3, fun p hp => fI _ (n4 p hp) (oo _ (.tail _ hp))⟩
        show (keyOf ((T, pairO (.int e te) (.int ord ot)) :: facts) (.ref p5)).1 = a5
        rw [find_pair hm5 U2]
    · rename_i hge
      refine FX.intro ⟨x :: r, facts, top, tt, ord, ot⟩ nx F1 N1 (.head _) (fun p hp => .tail _ hp) hI hK ?_ ?_
      · have T3 := top3_ge d4 d6 hne' (by rw [d5]; exact hge)
        rw [show i + 3 + 1 = i + 1 + 3 by omega] at T3
        exact ⟨x, r, rfl, hl3, d1, d2, d3, d4, d5, T3, d7⟩
      · walk_at "MY names"
  case done =>
    rintro ⟨its, facts, top, tt, ord, ot⟩ u h tk nx ⟨x, r, rfl, hl3, d1, d2, d3, d4, d5, d6, d7⟩ F1 N1 hK
    dsimp only at *
    have fin0 : ∀ p ∈ news, p.1 ≠ D2 := fun p hp e => absurd (o2 p (.tail _ hp)) (e ▸ Nat.lt_irrefl _)
    rw [show vs.length - 3 + 3 = vs.length by omega] at d6
    have hns : ns.take vs.length = ns := List.take_of_length_le (by rw [hi.length]; exact Nat.le_refl _)
    obtain ⟨R, hR1, hR2⟩ := d6
    rw [hns] at hR1
    have U : UF facts := UF.of_news N1 fun p hp => (d2 p hp).1
    obtain ⟨y, z, rfl⟩ : ∃ y z, r = [y, z] := by
      match r, hl3 with
      | [y, z], _ => exact ⟨y, z, rfl⟩
    obtain ⟨p0, a0', b0', t0', u0', rfl, g0⟩ := d3 x (.head _)
    obtain ⟨p1, a1', b1', t1', u1', rfl, g1⟩ := d3 y (.tail _ (.head _))
    obtain ⟨p2, a2', b2', t2', u2', rfl, g2⟩ := d3 z (.tail _ (.tail _ (.head _)))
    have hel : el facts [.ref p0, .ref p1, .ref p2] = [a0', a1', a2'] := by
      simp only [el, List.map_cons, List.map_nil, find_pair g0 U, find_pair g1 U, find_pair g2 U]
    rw [hel] at hR1 hR2
    have NE : News g L' h ((D2, LO [.ref p0, .ref p1, .ref p2] 3) :: (p0, pairO (.int a0' t0') (.int b0' u0')) :: (p1, pairO (.int a1' t1') (.int b1' u1')) :: (p2, pairO (.int a2' t2') (.int b2' u2')) :: news) := fun p hp => by
      rcases List.mem_cons.mp hp with rfl | hp
      · exact N1 _ d1
      rcases List.mem_cons.mp hp with rfl | hp
      · exact N1 _ (d2 _ g0).1
      rcases List.mem_cons.mp hp with rfl | hp
      · exact N1 _ (d2 _ g1).1
      rcases List.mem_cons.mp hp with rfl | hp
      · exact N1 _ (d2 _ g2).1
      · exact N1 _ (d7 _ hp)
    have w0 := (d2 _ g0).2
    have w1 := (d2 _ g1).2
    have w2 := (d2 _ g2).2
    clear N1 hK
    k_steps
    refine callWith_kw0 ?_
    k_steps
    unfold Stop
    obtain ⟨ad, K, ta, tb, rfl, rfl, rfl, hPr, hKl, hnD⟩ : ∃ (ad : Nat → Addr) (K : Nat → Int × Int) (ta tb : Nat → Tok), p0 = ad 0 ∧ p1 = ad 1 ∧ p2 = ad 2 ∧
        (∀ i, i < 3 → (ad i, pairO (.int (K i).1 (ta i)) (.int (K i).2 (tb i))) ∈ (D2, LO [.ref p0, .ref p1, .ref p2] 3) :: (p0, pairO (.int a0' t0') (.int b0' u0')) :: (p1, pairO (.int a1' t1') (.int b1' u1')) :: (p2, pairO (.int a2' t2') (.int b2' u2')) :: news) ∧
        [a0', a1', a2'] = [(K 0).1, (K 1).1, (K 2).1] ∧ ∀ i, i < 3 → ad i ≠ D2 := by
      refine ⟨fun i => match i with | 0 => p0 | 1 => p1 | _ => p2, fun i => match i with | 0 => (a0', b0') | 1 => (a1', b1') | _ => (a2', b2'), fun i => match i with | 0 => t0' | 1 => t1' | _ => t2', fun i => match i with | 0 => u0' | 1 => u1' | _ => u2', rfl, rfl, rfl, ?_, rfl, ?_⟩
      · intro i hi
        match i, hi with
        | 0, _ => exact .tail _ (.head _)
        | 1, _ => exact .tail _ (.tail _ (.head _))
        | 2, _ => exact .tail _ (.tail _ (.tail _ (.head _)))
      · intro i hi
        match i, hi with
        | 0, _ => exact w0
        | 1, _ => exact w1
        | 2, _ => exact w2
    rw [hKl] at hR1 hR2
    refine sort3_N (D := D2) (n := 3) (ad := ad) (K := K) (ta := ta) (tb := tb) ‹_› NE (.head _) hPr ?_
    intro i j k e h5 hp3 le1 le2 F5 N5
    have bi : i < 3 := hp3.cases (P := fun i j k => i < 3) (by omega) (by omega) (by omega) (by omega) (by omega) (by omega)
    have bj : j < 3 := hp3.cases (P := fun i j k => j < 3) (by omega) (by omega) (by omega) (by omega) (by omega) (by omega)
    have bk : k < 3 := hp3.cases (P := fun i j k => k < 3) (by omega) (by omega) (by omega) (by omega) (by omega) (by omega)
    have NS : News g L' h5 ((D2, LO [.ref (ad i), .ref (ad j), .ref (ad k)] e) :: (ad i, pairO (.int (K i).1 (ta i)) (.int (K i).2 (tb i))) :: (ad j, pairO (.int (K j).1 (ta j)) (.int (K j).2 (tb j))) :: (ad k, pairO (.int (K k).1 (ta k)) (.int (K k).2 (tb k))) :: news) := fun p hp => by
      rcases List.mem_cons.mp hp with rfl | hp
      · exact N5 _ (mem_setL_self (.head _))
      rcases List.mem_cons.mp hp with rfl | hp
      · exact N5 _ (mem_setL_ne (hPr i bi) (hnD i bi))
      rcases List.mem_cons.mp hp with rfl | hp
      · exact N5 _ (mem_setL_ne (hPr j bj) (hnD j bj))
      rcases List.mem_cons.mp hp with rfl | hp
      · exact N5 _ (mem_setL_ne (hPr k bk) (hnD k bk))
      · exact N5 _ (mem_setL_ne (.tail _ (.tail _ (.tail _ (.tail _ hp)))) (fin0 _ hp))
    have hperm : [(K i).1, (K j).1, (K k).1].Perm [(K 0).1, (K 1).1, (K 2).1] :=
      hp3.cases (P := fun i j k => [(K i).1, (K j).1, (K k).1].Perm [(K 0).1, (K 1).1, (K 2).1]) (List.Perm.refl _) (.cons _ (.swap _ _ _)) (.swap _ _ _) (List.perm_append_comm (l₁ := [_, _]) (l₂ := [_])) (List.perm_append_comm (l₁ := [_]) (l₂ := [_, _])) (List.reverse_perm [_, _, _])
    have l1' : (K j).1 ≤ (K i).1 := by simp only [Hp.lex, Bool.or_eq_false_iff, decide_eq_false_iff_not] at le1; omega
    have l2' : (K k).1 ≤ (K j).1 := by simp only [Hp.lex, Bool.or_eq_false_iff, decide_eq_false_iff_not] at le2; omega
    have hord : Ordered true [(K i).1, (K j).1, (K k).1] := by
      simp only [Ordered, if_true, List.pairwise_cons, List.mem_cons, List.not_mem_nil, or_false, false_implies, implies_true, List.Pairwise.nil, and_true, forall_eq_or_imp, forall_eq]
      omega
    generalize ad i = qi at *
    generalize ad j = qj at *
    generalize ad k = qk at *
    clear N5 NE hPr hnD
    simp only [pairO] at NS
    generalize K i = ki at *
    generalize K j = kj at *
    generalize K k = kk at *
    k_steps
    rename_i D9 h9 tk9 F9 N9 o9
    refine Ret.intro (news' := (D9, LO [.int ki.1 (ta i), .int kj.1 (ta j), .int kk.1 (ta k)] 3) :: news) pm F9 (fun p hp => N9 p ?_) fun F6 N6 => hQ D9 _ _ 3 _ _ F6 (.cons _ _ (.cons _ _ (.cons _ _ .nil))) rfl ⟨R, (hperm.append_right R).trans hR1, fun x hx => hR2 x (hperm.mem_iff.mp hx)⟩ hord N6 (off1_ne o9.2.2.2.2)
    rcases List.mem_cons.mp hp with h | h
    · rw [h]; exact .head _
    · exact .tail _ (.tail _ (.tail _ (.tail _ (.tail _ h))))
end
end Mine

-- C14
namespace Mine
section
variable {prog : Program} {w : World} {A : Around} {s : Shared} {h₀ : Heap} {L : Addr} {m : Str → Option Value} {news : List (Addr × Obj)} {E : Value → Shared → Prop} {Q : Value → Shared → Prop}
theorem nlargest_call {D : Addr} {vs : List Value} {ns : List Int} {n : Nat} {t : Tok} (C : Here w A h₀ L) (hdp : A.depth + 6 < recursionLimit) (hun : A.units + 200 < cLine) (F : Fr h₀ L s.heap m) (N : News h₀ L s.heap news)
   (hD : (D, LO vs n) ∈ news) (hi : IntsAre vs ns) (hl : vs.length < 64)
   (hQ : ∀ D' vs' ns' n' h' tk, Fr h₀ L h' m → IntsAre vs' ns' → (∀ p : List Int, p.Perm ns → p.Pairwise (· ≤ ·) → ns' = p.reverse.take 3) → News h₀ L h' ((D', LO vs' n') :: news) → (∀ p ∈ news, p.1 ≠ D') → Q (.ref D') { s with heap := h', toks := tk }) :
   wpAny (model prog w) A (call (.ref 187) [.int 3 t, .ref D]) Q E s := by
  have hlen := hi.length
  by_cases c : vs.length ≤ 3
  · refine nlargest_short C (by omega) (by omega) F N hD hi c fun D' vs' ns' n' h' tk F' hi' hp ho N' o' => hQ D' vs' ns' n' h' tk F' hi' (fun p hpp ha => ?_) N' o'
    exact top_desc (R := []) (ns := ns) (by rw [List.append_nil]; exact hp) (fun _ _ _ hy => nomatch hy) ho (by rw [hp.length_eq, Nat.min_eq_right (by omega)]) hpp ha
  · refine nlargest_long C hdp hun F N hD hi hl (by omega) fun D' vs' ns' n' h' tk F' hi' hl' ⟨R, hR1, hR2⟩ ho N' o' => hQ D' vs' ns' n' h' tk F' hi' (fun p hpp ha => ?_) N' o'
    exact top_desc hR1 hR2 ho (by rw [hl', Nat.min_eq_left (by omega)]) hpp ha
end
end Mine

-- R13
namespace Mine
theorem law_enter {prog : Program} {w : World} {g : Heap} {env : Env} {L : Addr} {Q : Flow → Shared → Prop} {E : Value → Shared → Prop} {s : Shared} {body : List Stmt} {p : Program} {loose : List Str} {mean : ExcName → Option Value} {mg mb : Str → Option Value} {m : Str → Option Value} {news : List (Addr × Obj)} {S : Addr} {vs : Array Value} {a b : Addr}
    (K : Below callerA g [] g) (X : (hd.heap_39 w.params).In g) (T : Top p loose mean mg mb g) (F : Fr g L s.heap m) (N : News g L s.heap news) (hl : g.IsList S vs) (hc : CodeHd g a b) (hf : env.frame = some L) (hk : env.scope.kind = .function)
    (h : ∀ g', g' = g → Below callerA g' [] g' → (hd.heap_39 w.params).In g' → Top p loose mean mg mb g' → Fr g' L s.heap m → News g' L s.heap news → g'.IsList S vs → CodeHd g' a b →
      Here w (callerA.deeper env) g' L → (callerA.deeper env).depth + 10 < recursionLimit → (callerA.deeper env).units + 300 < cLine → wpAny (model prog w) (callerA.deeper env) (execs body env) Q E s) : wpAny (model prog w) (callerA.deeper env) (execs body env) Q E s :=
  h g rfl K X T F N hl hc ⟨⟨callerA, g, [], env, p, loose, mean, mg, mb, K, X, T, rfl, hf, hk⟩, rfl⟩ (by simp only [depth_deeper]; decide) (by simp only [Around.deeper_units]; decide)
section
variable {prog : Program} {w : World} {A : Around} {E : Value → Shared → Prop} {s : Shared} {h₀ : Heap} {L D : Addr} {m : Str → Option Value} {news : List (Addr × Obj)} {vs zs : List Value} {n : Nat}
theorem slice_B {value slice : Expr} {vl vu vk : Value} {lo hi st : Option Int} {ops : List Value} {Q : Value → Shared → Prop}
    (F : Fr h₀ L s.heap m) (N : News h₀ L s.heap news) (hl : h₀.IsList D vs.toArray) (pl : IsPart vl lo) (pu : IsPart vu hi) (pk : IsPart vk st) (h0 : st ≠ some 0) (hsz : vs.length ≤ sizeLine) (ez : (slicePick vs.toArray lo hi st).toList = zs)
    (h : ∀ D' h', Fr h₀ L h' m → News h₀ L h' ((D', LO zs 0) :: news) → (∀ p ∈ news, p.1 ≠ D') → Q (.ref D') { s with heap := h' })
    (hs : subscripted slice false (.ref D) (.ref s.heap.objs.size) = operate ops (getItem (.ref D) (.ref s.heap.objs.size)) := by with_unfolding_all rfl)
    (ht : ∀ r, letTemporaryGo value (.ref D) r = pure () := by intro _; with_unfolding_all rfl) :
    wpAny (model prog w) A (subscriptTail value slice (.ref D) (.ref s.heap.objs.size)) Q E { s with heap := s.heap.push { cls := .type "slice", data := .fields #[vl, vu, vk] } } := by
  refine slice_list3 (hsz := by simpa using hsz) F N (hl.at fun o e => F.keep _ o e) pl pu pk h0 (fun h' F' N' => h _ _ F' ?_ fun p hp e => ?_) hs ht
  · rw [← ez]
    have e2 : LO (slicePick vs.toArray lo hi st).toList 0 = { cls := .type "list", data := .seq (slicePick vs.toArray lo hi st) } := by simp [LO, PySem.W.listOf]
    rw [e2]; exact N'
  · have := Heap.lt_size (N p hp).1
    rw [e] at this; exact absurd (Nat.lt_of_succ_lt this) (Nat.lt_irrefl _)
end
/-- what one value of the script stands for -/
def kindN (v : Int) : Nat := (v % 5).toNat
def cntN (v : Int) : Nat := match kindN v with
  | 0 => 1
  | 1 => 2
  | 2 => 4
  | 3 => 8
  | _ => (1 + v / 5 % 3).toNat
def numN (v : Int) : Nat := v.natAbs * 7 % 256 ^ cntN v
def octs (x c : Nat) : List Int := (List.range c).map fun k => ((x / 256 ^ k % 256 : Nat) : Int)
def octN (v : Int) : List Int := (if kindN v = 4 then [(cntN v : Int)] else []) ++ octs (numN v) (cntN v)
def dueN (v : Int) : Int := if kindN v = 4 ∧ 256 ^ cntN v / 2 ≤ numN v then (numN v : Int) - ((256 ^ cntN v : Nat) : Int) else numN v
theorem fmod5 (x : Int) : x.fmod 5 = (kindN x : Int) := by
  rw [Int.fmod_eq_emod_of_nonneg _ (by decide)]; unfold kindN; omega
theorem cnt_at (x : Int) (t1 t2 t3 t4 t5 : Tok) : ∃ t, ([.int 1 t1, .int 2 t2, .int 4 t3, .int 8 t4, .int (1 + (x.fdiv 5).fmod 3) t5] : List Value)[kindN x]? = some (.int (cntN x : Nat) t) := by
  have e5 : (1 + (x.fdiv 5).fmod 3) = (((1 + x / 5 % 3).toNat : Nat) : Int) := by
    rw [Int.fmod_eq_emod_of_nonneg _ (by decide), Int.fdiv_eq_ediv_of_nonneg _ (by decide)]; omega
  have hk : kindN x < 5 := by unfold kindN; omega
  unfold cntN
  match h : kindN x, hk with
  | 0, _ => exact ⟨t1, rfl⟩
  | 1, _ => exact ⟨t2, rfl⟩
  | 2, _ => exact ⟨t3, rfl⟩
  | 3, _ => exact ⟨t4, rfl⟩
  | 4, _ => exact ⟨t5, by show some (Value.int (1 + (x.fdiv 5).fmod 3) t5) = some (Value.int (((1 + x / 5 % 3).toNat : Nat) : Int) t5); rw [e5]⟩
theorem kind_lt (v : Int) : kindN v < 5 := by unfold kindN; omega
theorem cnt_le (v : Int) : 1 ≤ cntN v ∧ cntN v ≤ 8 := by unfold cntN; split <;> omega
theorem octN_len (v : Int) : (octN v).length ≤ 9 := by
  have h := cnt_le v
  unfold octN octs
  rw [List.length_append, List.length_map, List.length_range]
  split <;> simp <;> omega
theorem flat_len (l : List Int) : (l.flatMap octN).length ≤ 9 * l.length := by
  induction l with
  | nil => simp
  | cons v r ih =>
    rw [List.flatMap_cons, List.length_append, List.length_cons]
    have := octN_len v
    omega
theorem pow_lt64 {nm c : Nat} (h : nm < 256 ^ c) (hc : c ≤ 8) : nm < 2 ^ 64 :=
  Nat.lt_of_lt_of_le h (Nat.le_trans (Nat.pow_le_pow_right (by decide) hc) (by decide))
theorem octN_range (v : Int) : ∀ n ∈ octN v, 0 ≤ n ∧ n < 256 := by
  intro n hn
  have hc := cnt_le v
  unfold octN at hn
  rcases List.mem_append.mp hn with h | h
  · split at h
    · rw [List.mem_singleton.mp h]; omega
    · exact nomatch h
  · unfold octs at h
    obtain ⟨k, _, rfl⟩ := List.mem_map.mp h
    have := Nat.mod_lt (numN v / 256 ^ k) (show 0 < 256 by decide)
    exact ⟨Int.natCast_nonneg _, by omega⟩
theorem flat_range (l : List Int) : ∀ n ∈ l.flatMap octN, 0 ≤ n ∧ n < 256 := by
  intro n hn
  obtain ⟨v, _, h⟩ := List.mem_flatMap.mp hn
  exact octN_range v n h
end Mine

-- R14
namespace Mine
def Hide (p : Prop) : Prop := p
section
variable {prog : Program} {w : World} {A : Around} {E : Value → Shared → Prop} {s : Shared} {h₀ : Heap} {L D : Addr} {m : Str → Option Value} {news : List (Addr × Obj)}
theorem mod_num {x a : Int} {cn : Nat} {t u : Tok} {Q : Value → Shared → Prop} (ha : a = (x.natAbs : Int) * 7) (h : ∀ nm : Nat, Hide (nm = x.natAbs * 7 % 256 ^ cn) → Hide (nm < 256 ^ cn) → ∀ t' tk, Q (.int (nm : Nat) t') { s with toks := tk }) :
    wpAny (model prog w) A (binaryOp .Mod (.int a t) (.int (256 ^ ((cn : Nat) : Int).toNat) u)) Q E s := by
  refine PyProof.Rows.mod_int (by rw [Int.toNat_natCast]; exact pow256_ne cn) ?_
  have e : a.fmod (256 ^ ((cn : Nat) : Int).toNat) = ((x.natAbs * 7 % 256 ^ cn : Nat) : Int) := by
    have hq : (256 : Int) ^ ((cn : Nat) : Int).toNat = ((256 ^ cn : Nat) : Int) := by rw [Int.toNat_natCast]; exact (Int.natCast_pow 256 cn).symm
    rw [ha, hq, Int.fmod_eq_emod_of_nonneg _ (Int.natCast_nonneg _)]
    show ((x.natAbs : Int) * ((7 : Nat) : Int)) % ((256 ^ cn : Nat) : Int) = _
    rw [← Int.natCast_mul, ← Int.natCast_emod]
  rw [e]
  exact h _ rfl (Nat.mod_lt _ (Nat.pow_pos (by decide))) _ _
theorem div_num {cn : Nat} {t u : Tok} {Q : Value → Shared → Prop} (hc : cn < 1000) (h : ∀ q : Nat, Hide (q = 256 ^ cn / 2) → ∀ t' tk, Q (.int (q : Nat) t') { s with toks := tk }) :
    wpAny (model prog w) A (binaryOp .FloorDiv (.int (256 ^ ((cn : Nat) : Int).toNat) t) (.int 2 u)) Q E s := by
  have hq : (256 : Int) ^ ((cn : Nat) : Int).toNat = ((256 ^ cn : Nat) : Int) := by rw [Int.toNat_natCast]; exact (Int.natCast_pow 256 cn).symm
  refine PyProof.Rows.floordiv_int (by decide) ?_ (Or.inl (PyProof.noPylong_of_log2 (by decide +kernel)))
  rw [hq]
  have e : ((256 ^ cn : Nat) : Int).fdiv 2 = ((256 ^ cn / 2 : Nat) : Int) := by
    rw [Int.fdiv_eq_ediv_of_nonneg _ (by decide)]; exact (Int.natCast_ediv _ 2).symm
  rw [e]
  exact h _ rfl _ _
theorem sub_num {cn nm : Nat} {t u : Tok} {Q : Value → Shared → Prop} (h : ∀ d : Int, Hide (d = (nm : Int) - ((256 ^ cn : Nat) : Int)) → ∀ t' tk, Q (.int d t') { s with toks := tk }) :
    wpAny (model prog w) A (binaryOp .Sub (.int (nm : Nat) t) (.int (256 ^ ((cn : Nat) : Int).toNat) u)) Q E s := by
  have hq : (256 : Int) ^ ((cn : Nat) : Int).toNat = ((256 ^ cn : Nat) : Int) := by rw [Int.toNat_natCast]; exact (Int.natCast_pow 256 cn).symm
  rw [hq]
  exact PyProof.Rows.sub_int (h _ rfl _ _)
theorem add_N {l b : Addr} {xs ys : List Value} {ns ms : List Int} {n k : Nat} {Q : Value → Shared → Prop} (F : Fr h₀ L s.heap m) (N : News h₀ L s.heap news) (hl : (l, LO xs n) ∈ news) (hb : (b, LO ys k) ∈ news) (hi : IntsAre xs ns) (hj : IntsAre ys ms)
    (hsz : ns.length + ms.length ≤ sizeLine)
    (h : ∀ D h', Fr h₀ L h' m → News h₀ L h' ((D, LO (xs ++ ys) 0) :: news) → (∀ p ∈ news, p.1 ≠ D) → Q (.ref D) { s with heap := h' }) :
    wpAny (model prog w) A (binaryOp .Add (.ref l) (.ref b)) Q E s :=
  add_lists_ints (hsz := hsz) F N (PySem.IsL.isList (n := n) (N _ hl).1) (PySem.IsL.isList (n := k) (N _ hb).1) hi hj fun h' F' N' _ => h _ h' F' N' fun p hp => Nat.ne_of_lt (Heap.lt_size (N p hp).1)
end
end Mine

-- A5
namespace Mine
open Builtin.Memoryview (littleEndian)
theorem byteArr_append (xs ys : List Int) : byteArr (xs ++ ys) = byteArr xs ++ byteArr ys := by
  simp [byteArr]
theorem ext_left (xs ys : List Int) (c : Nat) (h : xs.length = c) : (byteArr (xs ++ ys)).extract 0 c = byteArr xs := by
  apply Array.toList_inj.mp
  rw [Array.toList_extract, List.extract_eq_take_drop, List.drop_zero, Nat.sub_zero]
  unfold byteArr
  simp only [List.map_append]
  rw [List.take_left' (by simp [h])]
theorem ext_right (xs ys : List Int) (c : Nat) (h : xs.length = c) : (byteArr (xs ++ ys)).extract c (byteArr (xs ++ ys)).size = byteArr ys := by
  apply Array.toList_inj.mp
  rw [Array.toList_extract, List.extract_eq_take_drop]
  unfold byteArr
  simp only [List.map_append]
  rw [List.drop_left' (by simp [h])]
  rw [List.take_of_length_le]
  simp [h]
theorem octs_len (x c : Nat) : (octs x c).length = c := by simp [octs]
theorem octs_succ (x c : Nat) : octs x (c + 1) = ((x % 256 : Nat) : Int) :: octs (x / 256) c := by
  unfold octs
  rw [List.range_succ_eq_map, List.map_cons, List.map_map]
  have h1 : ((x / 256 ^ 0 % 256 : Nat) : Int) = ((x % 256 : Nat) : Int) := by rw [Nat.pow_zero, Nat.div_one]
  rw [h1]
  refine congrArg (List.cons _) (List.map_congr_left fun k _ => ?_)
  show ((x / 256 ^ (k + 1) % 256 : Nat) : Int) = _
  rw [Nat.pow_succ, Nat.mul_comm (256 ^ k) 256, ← Nat.div_div_eq_div_mul]
theorem le_octs : ∀ (c x : Nat), littleEndian (byteArr (octs x c)) = x % 256 ^ c
  | 0, x => by simp [octs, byteArr, littleEndian, Nat.mod_one]
  | c + 1, x => by
    have ih := le_octs c (x / 256)
    unfold littleEndian at ih ⊢
    rw [← Array.foldr_toList] at ih ⊢
    rw [octs_succ]
    unfold byteArr at ih ⊢
    simp only [List.map_cons, List.foldr_cons] at ih ⊢
    rw [ih]
    have e : (((x % 256 : Nat) : Int).toNat.toUInt8).toNat = x % 256 := by
      rw [Int.toNat_natCast]
      show (x % 256) % 256 = x % 256
      exact Nat.mod_mod _ _
    rw [e, Nat.pow_succ]
    have h1 : x % (256 ^ c * 256) = x % 256 + 256 * (x / 256 % 256 ^ c) := by rw [Nat.mul_comm, Nat.mod_mul]
    rw [h1]; omega
theorem octs_last (x c : Nat) : octs x (c + 1) = octs x c ++ [((x / 256 ^ c % 256 : Nat) : Int)] := by
  unfold octs; rw [List.range_succ, List.map_append]; rfl
theorem half_iff {x c : Nat} (h : x < 256 ^ (c + 1)) : 128 ≤ x / 256 ^ c % 256 ↔ 256 ^ (c + 1) / 2 ≤ x := by
  have hp : 0 < 256 ^ c := Nat.pow_pos (by decide)
  rw [Nat.pow_succ] at h ⊢
  generalize 256 ^ c = q at *
  have h1 : x / q < 256 := Nat.div_lt_of_lt_mul h
  rw [Nat.mod_eq_of_lt h1, Nat.le_div_iff_mul_le hp]
  omega
theorem sle_octs {x c : Nat} (hc : 1 ≤ c) (h : x < 256 ^ c) : sle (byteArr (octs x c)) = if 256 ^ c / 2 ≤ x then (x : Int) - ((256 ^ c : Nat) : Int) else x := by
  obtain ⟨d, rfl⟩ : ∃ d, c = d + 1 := ⟨c - 1, by omega⟩
  have hs : (byteArr (octs x (d + 1))).size = d + 1 := by rw [byteArr_size, octs_len]
  have hl : ((littleEndian (byteArr (octs x (d + 1))) : Nat) : Int) = (x : Int) := by rw [le_octs, Nat.mod_eq_of_lt h]
  have hh : (byteArr (octs x (d + 1))).toList.reverse.head? = some (x / 256 ^ d % 256).toUInt8 := by
    rw [octs_last]
    show (((octs x d ++ [((x / 256 ^ d % 256 : Nat) : Int)]).map fun n => n.toNat.toUInt8).toArray.toList).reverse.head? = _
    rw [List.map_append, List.toList_toArray, List.reverse_append]
    show some (((x / 256 ^ d % 256 : Nat) : Int).toNat.toUInt8) = _
    rw [Int.toNat_natCast]
  have hb : ((byteArr (octs x (d + 1))).toList.reverse.head?.any (· ≥ 128)) = true ↔ 256 ^ (d + 1) / 2 ≤ x := by
    rw [hh, ← half_iff h]
    simp only [Option.any_some, decide_eq_true_eq]
    generalize hq : x / 256 ^ d % 256 = y
    have hy : y < 256 := by rw [← hq]; exact Nat.mod_lt _ (by decide)
    show (128 : UInt8) ≤ y.toUInt8 ↔ _
    rw [UInt8.le_iff_toNat_le]
    show 128 ≤ y % 256 ↔ _
    rw [Nat.mod_eq_of_lt hy]
  unfold sle
  rw [hs, hl]
  by_cases c : 256 ^ (d + 1) / 2 ≤ x
  · rw [if_pos c, if_pos (hb.mpr c), Int.natCast_pow]; rfl
  · rw [if_neg c, if_neg (fun q => c (hb.mp q))]
theorem num_lt (v : Int) : numN v < 256 ^ cntN v := Nat.mod_lt _ (Nat.pow_pos (by decide))
theorem ext_mid (xs ys zs : List Int) (a c : Nat) (h1 : xs.length = a) (h2 : ys.length = c) : (byteArr (xs ++ (ys ++ zs))).extract a (a + c) = byteArr ys := by
  apply Array.toList_inj.mp
  rw [Array.toList_extract, List.extract_eq_take_drop]
  unfold byteArr
  simp only [List.map_append]
  rw [List.drop_left' (by simp [h1]), Nat.add_sub_cancel_left, List.take_left' (by simp [h2])]
theorem rd_plain {x : Int} (rest : List Int) (hk : kindN x ≠ 4) :
    (littleEndian ((byteArr (octN x ++ rest)).extract 0 (cntN x)) : Int) = dueN x ∧ (byteArr (octN x ++ rest)).extract (cntN x) (byteArr (octN x ++ rest)).size = byteArr rest ∧ (octN x).length = cntN x := by
  have e : octN x = octs (numN x) (cntN x) := by unfold octN; rw [if_neg hk, List.nil_append]
  have hl : (octN x).length = cntN x := by rw [e, octs_len]
  refine ⟨?_, ext_right _ _ _ hl, hl⟩
  rw [ext_left _ _ _ hl, e, le_octs, Nat.mod_eq_of_lt (num_lt x)]
  unfold dueN; rw [if_neg (fun h => hk h.1)]
theorem rd_long {x : Int} (rest : List Int) (hk : kindN x = 4) :
    (littleEndian ((byteArr (octN x ++ rest)).extract 0 1)) = cntN x ∧ sle ((byteArr (octN x ++ rest)).extract 1 (1 + cntN x)) = dueN x ∧
    (byteArr (octN x ++ rest)).extract (1 + cntN x) (byteArr (octN x ++ rest)).size = byteArr rest ∧ (octN x).length = 1 + cntN x := by
  have hc := cnt_le x
  have e : octN x = [(cntN x : Int)] ++ octs (numN x) (cntN x) := by unfold octN; rw [if_pos hk]
  have hl : (octN x).length = 1 + cntN x := by rw [e, List.length_append, octs_len]; rfl
  refine ⟨?_, ?_, ext_right _ _ _ hl, hl⟩
  · rw [e, List.append_assoc, ext_left [(cntN x : Int)] _ 1 rfl]
    show (0 * 256 + ((cntN x : Int).toNat.toUInt8).toNat) = cntN x
    rw [Int.toNat_natCast]
    show 0 * 256 + cntN x % 256 = cntN x
    omega
  · rw [e, List.append_assoc, ext_mid [(cntN x : Int)] _ _ 1 (cntN x) rfl (octs_len _ _), sle_octs hc.1 (num_lt x)]
    unfold dueN
    by_cases c : 256 ^ cntN x / 2 ≤ numN x
    · rw [if_pos c, if_pos ⟨hk, c⟩]
    · rw [if_neg c, if_neg (fun q => c q.2)]
theorem cnt_of (x : Int) : (kindN x = 0 → cntN x = 1) ∧ (kindN x = 1 → cntN x = 2) ∧ (kindN x = 2 → cntN x = 4) ∧ (kindN x = 3 → cntN x = 8) := by
  unfold cntN
  refine ⟨fun h => ?_, fun h => ?_, fun h => ?_, fun h => ?_⟩ <;> (rw [h]; rfl)
end Mine

-- C15
namespace Mine
def rdAddr : Nat → Addr
  | 0 => 49
  | 1 => 56
  | 2 => 63
  | 3 => 70
  | _ => 84
theorem fillme15 (w : World) : (hd.heap_39 w.params) = (hd.heap_39 w.params) ∧ PySem.Challenge.rw_kl0171_01 = PySem.Challenge.rw_kl0171_01 := by
  k_fill
  exact ⟨rfl, rfl⟩
theorem reader_fn {w : World} {g h : Heap} (X : (hd.heap_39 w.params).In g) (keep : ∀ b o, g.get? b = some o → h.get? b = some o) : ∀ k, k < 5 → FnAt (rdAddr k) h
  | 0, _ => ⟨_, _, _, _, keep _ _ (X _ _ (by k_dflt k_is))⟩
  | 1, _ => ⟨_, _, _, _, keep _ _ (X _ _ (by k_dflt k_is))⟩
  | 2, _ => ⟨_, _, _, _, keep _ _ (X _ _ (by k_dflt k_is))⟩
  | 3, _ => ⟨_, _, _, _, keep _ _ (X _ _ (by k_dflt k_is))⟩
  | 4, _ => ⟨_, _, _, _, keep _ _ (X _ _ (by k_dflt k_is))⟩
section
variable {prog : Program} {w : World} {A : Around} {s : Shared} {h₀ : Heap} {L : Addr} {m : Str → Option Value} {news : List (Addr × Obj)} {E : Value → Shared → Prop} {Q : Value → Shared → Prop}
/-- whichever reader the kind names, it reads the value that is due -/
theorem reader_call {S fr lL : Addr} {SF : List (Addr × Obj)} {x : Int} {rest : List Int} {t : Tok} {n : Nat} (C : Here w A h₀ L) (hdp : A.depth + 5 < recursionLimit) (hun : A.units + 100 < cLine) (F : Fr h₀ L s.heap m) (N : News h₀ L s.heap news)
   (SP : StreamSpec prog w S fr lL SF) (hSF : ∀ p ∈ SF, p ∈ news) (hD : (lL, LO [.bytes (byteArr (octN x ++ rest)) t] n) ∈ news) (hz : rest.length ≤ 1000)
   (hQ : ∀ h' tk t1 t2, Fr h₀ L h' m → News h₀ L h' (setL lL (LO [.bytes (byteArr rest) t2] n) news) → Q (.int (dueN x) t1) { s with heap := h', toks := tk }) :
   wpAny (model prog w) A (call (.ref (rdAddr (kindN x))) [.ref S]) Q E s := by
  have hlen := octN_len x
  have hsz : (byteArr (octN x ++ rest)).size = (octN x).length + rest.length := by rw [byteArr_size, List.length_append]
  have hc := cnt_le x
  obtain ⟨c0, c1, c2, c3⟩ := cnt_of x
  have plain : kindN x ≠ 4 → ∀ c, cntN x = c → (Builtin.Memoryview.littleEndian ((byteArr (octN x ++ rest)).extract 0 c) : Int) = dueN x ∧ (byteArr (octN x ++ rest)).extract c (byteArr (octN x ++ rest)).size = byteArr rest ∧ (octN x).length = c := fun hk c e => by subst e; exact rd_plain rest hk
  match hk : kindN x, kind_lt x with
  | 0, _ =>
    obtain ⟨p1, p2, p3⟩ := plain (by omega) 1 (c0 hk)
    refine read1_call C (by omega) (by omega) F N SP hSF hD (by omega) (by omega) fun h' tk t1 t2 F' N' => ?_
    rw [p2] at N'; rw [p1]; exact hQ h' tk t1 t2 F' N'
  | 1, _ =>
    obtain ⟨p1, p2, p3⟩ := plain (by omega) 2 (c1 hk)
    refine read2_call C (by omega) (by omega) F N SP hSF hD (by omega) (by omega) fun h' tk t1 t2 F' N' => ?_
    rw [p2] at N'; rw [p1]; exact hQ h' tk t1 t2 F' N'
  | 2, _ =>
    obtain ⟨p1, p2, p3⟩ := plain (by omega) 4 (c2 hk)
    refine read4_call C (by omega) (by omega) F N SP hSF hD (by omega) (by omega) fun h' tk t1 t2 F' N' => ?_
    rw [p2] at N'; rw [p1]; exact hQ h' tk t1 t2 F' N'
  | 3, _ =>
    obtain ⟨p1, p2, p3⟩ := plain (by omega) 8 (c3 hk)
    refine read8_call C (by omega) (by omega) F N SP hSF hD (by omega) (by omega) fun h' tk t1 t2 F' N' => ?_
    rw [p2] at N'; rw [p1]; exact hQ h' tk t1 t2 F' N'
  | 4, _ =>
    obtain ⟨p0, p1, p2, p3⟩ := rd_long rest hk
    refine readL_call (c := cntN x) C hdp hun F N SP hSF hD (by omega) p0 hc.2 (by omega) fun h' tk t1 t2 F' N' => ?_
    rw [p2] at N'; rw [p1]; exact hQ h' tk t1 t2 F' N'
theorem ints_mem {vs : List Value} {ns : List Int} (h : IntsAre vs ns) : ∀ v ∈ vs, ∃ k u, v = .int k u := by
  induction h with
  | nil => exact fun _ hv => nomatch hv
  | cons k u _ ih =>
    intro v hv
    rcases List.mem_cons.mp hv with e | hv
    · exact ⟨k, u, e⟩
    · exact ih v hv
theorem ints_lts {vs : List Value} {ns : List Int} (h : IntsAre vs ns) : ∀ a ∈ vs, ∀ b ∈ vs, LtIs prog w [] a b (ltv [] a b) := by
  intro a ha b hb
  obtain ⟨k, u, rfl⟩ := ints_mem h a ha
  obtain ⟨k', u', rfl⟩ := ints_mem h b hb
  exact ltIs_int
theorem ints_perm {vs vs' : List Value} {ns : List Int} (h : IntsAre vs ns) (p : vs'.Perm vs) : ∃ ns', IntsAre vs' ns' ∧ ns'.Perm ns := by
  refine ⟨vs'.map fun v => (keyOf [] v).1, ?_, ?_⟩
  · have : ∀ l : List Value, (∀ v ∈ l, ∃ k u, v = .int k u) → IntsAre l (l.map fun v => (keyOf [] v).1) := by
      intro l
      induction l with
      | nil => exact fun _ => .nil
      | cons v r ih =>
        intro hl
        obtain ⟨k, u, rfl⟩ := hl v (.head _)
        exact .cons k u (ih fun v hv => hl v (.tail _ hv))
    exact this vs' fun v hv => ints_mem h v (p.mem_iff.mp hv)
  · refine (p.map _).trans (List.Perm.of_eq ?_)
    clear p
    induction h with
    | nil => rfl
    | cons k u _ ih => exact congrArg (List.cons k) ih
end
end Mine

-- R15
namespace Mine
section
variable {prog : Program} {w : World} {A : Around} {E : Value → Shared → Prop} {s : Shared} {h₀ : Heap} {L : Addr} {m : Str → Option Value} {news : List (Addr × Obj)}
theorem ne_N {a b : Addr} {vs us : List Value} {ns ms : List Int} {n k : Nat} {Q : Value → Shared → Prop} (N : News h₀ L s.heap news) (ha : (a, LO vs n) ∈ news) (hb : (b, LO us k) ∈ news) (hi : IntsAre vs ns) (hj : IntsAre us ms) (hu : A.units + 64 < cLine)
    (h : Q (.bool (!decide (ns = ms))) s) : wpAny (model prog w) A (compareOp .NotEq (.ref a) (.ref b)) Q E s :=
  ne_intsK (PySem.IsL.isList (n := n) (N _ ha).1) hi (PySem.IsL.isList (n := k) (N _ hb).1) hj hu h
theorem eq_N {a b : Addr} {vs us : List Value} {ns ms : List Int} {n k : Nat} {Q : Value → Shared → Prop} (N : News h₀ L s.heap news) (ha : (a, LO vs n) ∈ news) (hb : (b, LO us k) ∈ news) (hi : IntsAre vs ns) (hj : IntsAre us ms) (hu : A.units + 64 < cLine)
    (h : Q (.bool (decide (ns = ms))) s) : wpAny (model prog w) A (compareOp .Eq (.ref a) (.ref b)) Q E s :=
  eq_intsK (PySem.IsL.isList (n := n) (N _ ha).1) hi (PySem.IsL.isList (n := k) (N _ hb).1) hj hu h
theorem ne_same {a b : Addr} {vs us : List Value} {ns ms : List Int} {n k : Nat} {Q : Value → Shared → Prop} (N : News h₀ L s.heap news) (ha : (a, LO vs n) ∈ news) (hb : (b, LO us k) ∈ news) (hi : IntsAre vs ns) (hj : IntsAre us ms) (e : ns = ms) (hu : A.units + 64 < cLine)
    (h : Q (.bool false) s) : wpAny (model prog w) A (compareOp .NotEq (.ref a) (.ref b)) Q E s :=
  ne_N N ha hb hi hj hu (by rw [decide_eq_true e]; exact h)
theorem ne_other {a b : Addr} {vs us : List Value} {ns ms : List Int} {n k : Nat} {Q : Value → Shared → Prop} (N : News h₀ L s.heap news) (ha : (a, LO vs n) ∈ news) (hb : (b, LO us k) ∈ news) (hi : IntsAre vs ns) (hj : IntsAre us ms) (e : ns ≠ ms) (hu : A.units + 64 < cLine)
    (h : Q (.bool true) s) : wpAny (model prog w) A (compareOp .NotEq (.ref a) (.ref b)) Q E s :=
  ne_N N ha hb hi hj hu (by rw [decide_eq_false e]; exact h)
theorem eq_same {a b : Addr} {vs us : List Value} {ns ms : List Int} {n k : Nat} {Q : Value → Shared → Prop} (N : News h₀ L s.heap news) (ha : (a, LO vs n) ∈ news) (hb : (b, LO us k) ∈ news) (hi : IntsAre vs ns) (hj : IntsAre us ms) (e : ns = ms) (hu : A.units + 64 < cLine)
    (h : Q (.bool true) s) : wpAny (model prog w) A (compareOp .Eq (.ref a) (.ref b)) Q E s :=
  eq_N N ha hb hi hj hu (by rw [decide_eq_true e]; exact h)
theorem srt_N {l : Addr} {vs : List Value} {ns : List Int} {n : Nat} {Q : Value → Shared → Prop} (F : Fr h₀ L s.heap m) (N : News h₀ L s.heap news) (hl : (l, LO vs n) ∈ news) (hi : IntsAre vs ns) (h64 : ns.length < 64)
    (h : ∀ D vs' ns' c h', Fr h₀ L h' m → News h₀ L h' ((D, LO vs' c) :: news) → (∀ p ∈ news, p.1 ≠ D) → IntsAre vs' ns' → ns'.Perm ns → ns'.Pairwise (· ≤ ·) → Q (.ref D) { s with heap := h' }) :
    wpAny (model prog w) A (call (.builtin "sorted") [.ref l]) Q E s :=
  kso_sorted F N (PySem.IsL.isList (n := n) (N _ hl).1) hi h64 fun D vs' ns' c h' F' N' lt i' _ p' o' _ => h D vs' ns' c h' F' N' (fun p hp => Nat.ne_of_lt (lt p hp)) i' p' o'
end
theorem ints_reverse {vs : List Value} {ns : List Int} (h : IntsAre vs ns) : IntsAre vs.reverse ns.reverse := by
  induction h with
  | nil => exact .nil
  | cons k t _ ih => rw [List.reverse_cons, List.reverse_cons]; exact ih.append (.cons k t .nil)
theorem ordered_asc {ns : List Int} (h : Ordered false ns) : ns.Pairwise (· ≤ ·) := by simpa [Ordered] using h
theorem IntsAre_nil_iff {vs : List Value} {ns : List Int} (h : IntsAre vs ns) : vs = [] ↔ ns = [] := by
  cases h <;> simp
end Mine

-- A6
namespace Mine
theorem ints_back {vs : List Value} {ns : List Int} (h : IntsAre vs ns) : ∀ b ∈ ns, ∃ y ∈ vs, (keyOf [] y).1 = b := by
  induction h with
  | nil => exact fun _ hb => nomatch hb
  | cons k t _ ih =>
    intro b hb
    rcases List.mem_cons.mp hb with rfl | hb
    · exact ⟨_, .head _, rfl⟩
    · obtain ⟨y, hy, e⟩ := ih b hb
      exact ⟨y, .tail _ hy, e⟩
theorem ints_min {vs : List Value} {ns : List Int} {v : Value} (h : IntsAre vs ns) (hm : ∀ y ∈ vs, ltv [] y v = false) : ∀ b ∈ ns, (keyOf [] v).1 ≤ b := by
  intro b hb
  obtain ⟨y, hy, e⟩ := ints_back h b hb
  have := lt_false_le (hm y hy)
  rw [e] at this; exact this
theorem pop_step {r : List Value} {x : Value} {hs : List Int} (hi : IntsAre (r ++ [x]) hs) (H : Hp.HeapFrom (ltv []) 0 (r ++ [x])) :
    ∃ k t hs', (hpop (ltv []) x r).1 = .int k t ∧ IntsAre (hpop (ltv []) x r).2 hs' ∧ (k :: hs').Perm hs ∧ (∀ b ∈ hs, k ≤ b) ∧ Hp.HeapFrom (ltv []) 0 (hpop (ltv []) x r).2 := by
  obtain ⟨h1, h2, h3⟩ := pop_spec (swo_ltv []) H
  obtain ⟨ns, hn, hp⟩ := ints_perm hi h2
  have hmin := ints_min hi h3
  generalize (hpop (ltv []) x r).1 = a at hn hmin
  generalize (hpop (ltv []) x r).2 = b at hn h1
  cases hn with
  | cons k t hr => exact ⟨k, t, _, rfl, hr, hp, hmin, h1⟩
/-- a heap that is being emptied -/
def Down (due : List Int) (hv dv : List Value) : Prop := ∃ hs ds, IntsAre hv hs ∧ IntsAre dv ds ∧ (ds ++ hs).Perm due ∧ ds.Pairwise (· ≤ ·) ∧ (∀ a ∈ ds, ∀ b ∈ hs, a ≤ b) ∧ Hp.HeapFrom (ltv []) 0 hv
theorem down_start {due hs : List Int} {hv : List Value} (hi : IntsAre hv hs) (hp : hs.Perm due) (H : Hp.HeapFrom (ltv []) 0 hv) : Down due hv [] :=
  ⟨hs, [], hi, .nil, hp, .nil, fun _ ha => (nomatch ha), H⟩
theorem down_step {due : List Int} {r dv : List Value} {x : Value} (D : Down due (r ++ [x]) dv) :
    ∃ k t, (hpop (ltv []) x r).1 = .int k t ∧ Down due (hpop (ltv []) x r).2 (dv ++ [.int k t]) ∧ (hpop (ltv []) x r).2.length = r.length := by
  obtain ⟨hs, ds, h1, h2, h3, h4, h5, h6⟩ := D
  obtain ⟨k, t, hs', e, i', p', m', H'⟩ := pop_step h1 h6
  have hl : hs'.length + 1 = r.length + 1 := by
    have a := p'.length_eq
    have b := h1.length
    rw [List.length_append, List.length_singleton] at b
    rw [List.length_cons] at a
    omega
  refine ⟨k, t, e, ⟨hs', ds ++ [k], i', h2.append (.cons k t .nil), ?_, ?_, ?_, H'⟩, by rw [i'.length]; omega⟩
  · rw [List.append_assoc]
    exact (List.Perm.append_left ds p').trans h3
  · rw [List.pairwise_append]
    refine ⟨h4, List.pairwise_singleton .., fun a ha b hb => ?_⟩
    rw [List.mem_singleton.mp hb]
    exact h5 a ha k (p'.mem_iff.mp (.head _))
  · intro a ha b hb
    have hb' := p'.mem_iff.mp (.tail _ hb)
    rcases List.mem_append.mp ha with ha | ha
    · exact h5 a ha b hb'
    · rw [List.mem_singleton.mp ha]; exact m' b hb'
theorem down_ne {due : List Int} {hv dv : List Value} (D : Down due hv dv) (h : hv ≠ []) : ∃ r x hs, hv = r ++ [x] ∧ IntsAre hv hs ∧ hs ≠ [] := by
  obtain ⟨hs, _, h1, _⟩ := D
  refine ⟨hv.dropLast, hv.getLast h, hs, (List.dropLast_concat_getLast h).symm, h1, fun e => ?_⟩
  subst e
  cases h1; exact h rfl
theorem down_len {due : List Int} {hv dv : List Value} (D : Down due hv dv) : dv.length + hv.length = due.length ∧ (∀ v ∈ hv, ∃ k u, v = .int k u) := by
  obtain ⟨hs, ds, h1, h2, h3, _⟩ := D
  refine ⟨by rw [h1.length, h2.length, ← h3.length_eq, List.length_append], ints_mem h1⟩
theorem down_end {due : List Int} {dv : List Value} (D : Down due [] dv) : ∃ ds, IntsAre dv ds ∧ ds.Perm due ∧ ds.Pairwise (· ≤ ·) := by
  obtain ⟨hs, ds, h1, h2, h3, h4, _⟩ := D
  cases h1
  rw [List.append_nil] at h3
  exact ⟨ds, h2, h3, h4⟩
/-- the four largest, kept in a heap -/
def Kept (due : List Int) (i : Nat) (kv : List Value) : Prop := ∃ ks, IntsAre kv ks ∧ ks.length = min 4 due.length ∧ Hp.HeapFrom (ltv []) 0 kv ∧ ∃ R, (ks ++ R).Perm (due.take (4 + i)) ∧ ∀ a ∈ ks, ∀ b ∈ R, b ≤ a
theorem kept_start {due : List Int} {vs : List Value} (hi : IntsAre vs due) : Kept due 0 (hfy (ltv []) ((vs.take 4).length / 2) (vs.take 4)) := by
  obtain ⟨h1, h2⟩ := heapify_spec (swo_ltv []) (vs.take 4)
  obtain ⟨ks, k1, k2⟩ := ints_perm (hi.take 4) h2
  refine ⟨ks, k1, by rw [k2.length_eq, List.length_take], h1, [], by rw [List.append_nil]; exact k2, fun _ _ _ hb => nomatch hb⟩
theorem kept_ge {due : List Int} {i : Nat} {m e : Int} {t : Tok} {r : List Value} (K : Kept due i (.int m t :: r)) (he : due[4 + i]? = some e) (h : ¬ m < e) : Kept due (i + 1) (.int m t :: r) := by
  obtain ⟨ks, k1, k2, k3, k4⟩ := K
  have hm := ints_min k1 (head_min (swo_ltv []) k3)
  exact ⟨ks, k1, k2, k3, top_int_ge (m := m) (i := 4 + i) hm k4 he h⟩
theorem kept_lt {due : List Int} {i : Nat} {m e : Int} {t u : Tok} {r : List Value} (K : Kept due i (.int m t :: r)) (he : due[4 + i]? = some e) (h : m < e) :
    Kept due (i + 1) (Hp.su (ltv []) (.int e u) 0 0 (.int e u :: r)) := by
  obtain ⟨ks, k1, k2, k3, k4⟩ := K
  have hm := ints_min k1 (head_min (swo_ltv []) k3)
  have hH := repl_heap (swo_ltv []) (v := Value.int e u) k3
  have hP := repl_perm (ltv []) (Value.int e u) r
  cases k1 with
  | cons _ _ kr =>
    rename_i ns
    obtain ⟨ks', j1, j2⟩ := ints_perm (IntsAre.cons e u kr) hP
    refine ⟨ks', j1, by rw [j2.length_eq]; exact k2, hH, ?_⟩
    exact top_int_lt (m := m) (i := 4 + i) (fun x hx => hm x (.tail _ hx)) k4 he h j2
theorem kept_cons {due : List Int} {i : Nat} {kv : List Value} (K : Kept due i kv) (h : 0 < due.length) : ∃ m t r, kv = .int m t :: r ∧ r.length ≤ 3 := by
  obtain ⟨ks, k1, k2, _⟩ := K
  cases k1 with
  | nil => simp only [List.length_nil] at k2; omega
  | cons m t hr =>
    refine ⟨m, t, _, rfl, ?_⟩
    rw [hr.length]
    simp only [List.length_cons] at k2
    omega
theorem kept_ints {due : List Int} {i : Nat} {kv : List Value} (K : Kept due i kv) : ∃ ks, IntsAre kv ks ∧ ks.length ≤ 4 := by
  obtain ⟨ks, k1, k2, _⟩ := K
  exact ⟨ks, k1, by omega⟩
theorem kept_end {due p S ks : List Int} {i : Nat} {kv : List Value} (K : Kept due i kv) (hi : due.length ≤ 4 + i) (hk : IntsAre kv ks) (hp : p.Perm due) (ha : p.Pairwise (· ≤ ·)) (hS : S.Perm ks) (hSa : S.Pairwise (· ≤ ·)) : S = p.drop (p.length - 4) := by
  obtain ⟨ks', k1, k2, _, R, h1, h2⟩ := K
  have e : ks' = ks := by
    rw [← k1.nums, ← hk.nums]
  subst e
  rw [List.take_of_length_le hi] at h1
  exact top_asc h1 h2 k2 hp ha hS hSa
theorem flat_nil {l : List Int} : l.flatMap octN = [] ↔ l = [] := by
  cases l with
  | nil => simp
  | cons v r =>
    have hc := cnt_le v
    have : octN v ≠ [] := fun e => by
      have := congrArg List.length e
      unfold octN octs at this
      rw [List.length_append, List.length_map, List.length_range, List.length_nil] at this
      omega
    constructor
    · intro e; rw [List.flatMap_cons] at e; exact absurd (List.append_eq_nil_iff.mp e).1 this
    · intro e; cases e
end Mine

-- C16
namespace Mine
section
variable {prog : Program} {w : World} {A : Around} {s : Shared} {h₀ : Heap} {L : Addr} {m : Str → Option Value} {news : List (Addr × Obj)} {E : Value → Shared → Prop} {Q : Value → Shared → Prop}
/-- whichever reader the kind names, it refuses what is an octet short -/
theorem reader_fail {base : Heap} {env : Env} {outer : List Env} {p : Program} {loose : List Str} {mean : ExcName → Option Value} {mg mb : Str → Option Value} {S fr lL : Addr} {SF : List (Addr × Obj)} {x : Int} {t : Tok} {n : Nat} (C : At w A h₀ L base env outer p loose mean mg mb) (hdp : A.depth + 5 < recursionLimit) (hun : A.units + 100 < cLine) (F : Fr h₀ L s.heap m) (N : News h₀ L s.heap news)
   (SP : StreamSpec prog w S fr lL SF) (hSF : ∀ p ∈ SF, p ∈ news) (hD : (lL, LO [.bytes (byteArr (octN x).dropLast) t] n) ∈ news)
   (hE : ∀ e tk h' g news', Fr h₀ L g m → g.UpToSlots h' → (∀ p ∈ news, p.1 ≠ lL → p ∈ news') → RaisedN base (env :: outer) e (.type "ValueError") news' h' → E (.ref e) { s with heap := h', toks := tk }) :
   wpAny (model prog w) A (call (.ref (rdAddr (kindN x))) [.ref S]) Q E s := by
  have hlen := octN_len x
  have hsz : (byteArr (octN x).dropLast).size = (octN x).length - 1 := by rw [byteArr_size, List.length_dropLast]
  have hc := cnt_le x
  obtain ⟨c0, c1, c2, c3⟩ := cnt_of x
  have plain : kindN x ≠ 4 → ∀ c, cntN x = c → (octN x).length = c := fun hk c e => by subst e; exact (rd_plain [] hk).2.2
  match hk : kindN x, kind_lt x with
  | 0, _ =>
    have := plain (by omega) 1 (c0 hk)
    exact read1_fail C (by omega) (by omega) F N SP hSF hD (by omega) (by omega) hE
  | 1, _ =>
    have := plain (by omega) 2 (c1 hk)
    exact read2_fail C (by omega) (by omega) F N SP hSF hD (by omega) (by omega) hE
  | 2, _ =>
    have := plain (by omega) 4 (c2 hk)
    exact read4_fail C (by omega) (by omega) F N SP hSF hD (by omega) (by omega) hE
  | 3, _ =>
    have := plain (by omega) 8 (c3 hk)
    exact read8_fail C (by omega) (by omega) F N SP hSF hD (by omega) (by omega) hE
  | 4, _ =>
    have hl := (rd_long (x := x) [] hk).2.2.2
    have e : octN x = [(cntN x : Int)] ++ octs (numN x) (cntN x) := by unfold octN; rw [if_pos hk]
    have ne : octs (numN x) (cntN x) ≠ [] := fun e9 => by have := congrArg List.length e9; rw [octs_len, List.length_nil] at this; omega
    have ed : (octN x).dropLast = [(cntN x : Int)] ++ (octs (numN x) (cntN x)).dropLast := by rw [e, List.dropLast_append_of_ne_nil ne]
    have p0 : Builtin.Memoryview.littleEndian ((byteArr (octN x).dropLast).extract 0 1) = cntN x := by
      rw [ed, ext_left [(cntN x : Int)] _ 1 rfl]
      show (0 * 256 + ((cntN x : Int).toNat.toUInt8).toNat) = cntN x
      rw [Int.toNat_natCast]
      show 0 * 256 + cntN x % 256 = cntN x
      omega
    exact readL_fail (c := cntN x) C hdp hun F N SP hSF hD (by omega) p0 hc.2 (by omega) (by omega) hE
theorem raised_sub {base h : Heap} {l : List Env} {e : Addr} {cls : Value} {news news' : List (Addr × Obj)} (R : RaisedN base l e cls news h) (hs : ∀ p ∈ news', p ∈ news) : RaisedN base l e cls news' h := by
  obtain ⟨B, a, h1, h2, h3⟩ := R
  exact ⟨B, a, h1, fun q hq => h2 q (hs q hq), h3⟩
theorem flat_cut {x : Int} {r : List Int} (h : r ≠ []) : ((x :: r).flatMap octN).dropLast = octN x ++ (r.flatMap octN).dropLast := by
  rw [List.flatMap_cons, List.dropLast_append_of_ne_nil]
  exact fun e => h (by
    cases r with
    | nil => rfl
    | cons v r =>
      have hc := cnt_le v
      rw [List.flatMap_cons] at e
      have := congrArg List.length (List.append_eq_nil_iff.mp e).1
      unfold octN octs at this
      rw [List.length_append, List.length_map, List.length_range, List.length_nil] at this
      omega)
theorem flat_one (x : Int) : ([x].flatMap octN).dropLast = (octN x).dropLast := by
  rw [List.flatMap_cons, List.flatMap_nil, List.append_nil]
end
end Mine

-- the law
namespace Mine
local macro_rules | `(tactic| walk_at "exec For") => `(tactic| refine stop_intro ?_)
local macro_rules | `(tactic| walk_at "exec For Name Name cons nil") => `(tactic| refine stop_intro ?_)
local macro_rules | `(tactic| walk_at "subscriptTail") => `(tactic| refine stop_intro ?_)
local macro_rules | `(tactic| walk_at "subscriptTail Name Slice ref ref") => `(tactic| refine stop_intro ?_)
local macro_rules | `(tactic| walk_at "pyIter ref") => `(tactic| refine stop_intro ?_)
local macro_rules | `(tactic| walk_at "call ref cons nil") => `(tactic| refine stop_intro ?_)
local macro_rules | `(tactic| walk_at "MY names") => `(tactic| (simp only [List.forall_mem_cons, List.not_mem_nil, false_implies, implies_true, and_true]; (repeat' apply And.intro) <;> first | rfl | assumption))
local macro_rules | `(tactic| walk_at "call builtin:len") => `(tactic| refine stop_intro ?_)
local macro_rules | `(tactic| walk_at "call type:bytes") => `(tactic| refine stop_intro ?_)
local macro_rules | `(tactic| walk_at "call builtin:list.append") => `(tactic| refine stop_intro ?_)
local macro_rules | `(tactic| walk_at "binaryOp Mod int int") => `(tactic| ((with_reducible show wpAny _ _ (binaryOp _ (Value.int _ _) (Value.int (256 ^ _) _)) _ _ _); refine stop_intro ?_))
local macro_rules | `(tactic| walk_at "binaryOp Pow int int") => `(tactic| refine pow_int_small (by omega) (by omega) (by decide) ?_)
local macro_rules | `(tactic| walk_at "binaryOp FloorDiv int int") => `(tactic| ((with_reducible show wpAny _ _ (binaryOp _ (Value.int (256 ^ _) _) (Value.int _ _)) _ _ _); refine div_num (by omega) ?_; intro _ _ _ _; dsimp only))
local macro_rules | `(tactic| walk_at "binaryOp Sub int int") => `(tactic| ((with_reducible show wpAny _ _ (binaryOp _ (Value.int _ _) (Value.int (256 ^ _) _)) _ _ _); refine sub_num ?_; intro _ _ _ _; dsimp only))
local macro_rules | `(tactic| walk_at "binaryOp Add ref ref") => `(tactic| refine stop_intro ?_)
theorem pow256_py' {x : Int} {n : Nat} (h : n < 1000) : Builtin.divisionGoesByPylong x (256 ^ ((n : Nat) : Int).toNat) = false := by
  rw [Int.toNat_natCast]; exact pow256_py h
local macro_rules | `(tactic| walk_at "getMethod ref") => `(tactic| (refine' listMethod_K ?N ?m PySem.F.slot_list_append PySem.F.type_list_append ?_; (case N => assumption); (case m => assumption); dsimp only))
structure S1 where
  O : Addr
  ovs : List Value
  no : Nat
  dvs : List Value
  nd : Nat
  kvs : List Value
  nk : Nat
  evs : List Value
  ne : Nat
def S1J (vals : List Int) (RD DU KI EN : Addr) (i : Nat) (c : S1) (nx : List (Addr × Obj)) : Prop :=
  (c.O, LO c.ovs c.no) ∈ nx ∧ (DU, LO c.dvs c.nd) ∈ nx ∧ (KI, LO c.kvs c.nk) ∈ nx ∧ (EN, LO c.evs c.ne) ∈ nx ∧ (RD, LO [.ref 49, .ref 56, .ref 63, .ref 70, .ref 84] 0) ∈ nx ∧ (189, tabObj #[]) ∈ nx ∧
  IntsAre c.ovs ((vals.take i).flatMap octN) ∧ IntsAre c.dvs ((vals.take i).map dueN) ∧ IntsAre c.kvs ((vals.take i).map fun v => (kindN v : Int)) ∧ c.evs.length = i + 1 ∧
  (c.O ≠ DU ∧ c.O ≠ KI ∧ c.O ≠ EN)
theorem mem3 {α : Type} {p a b c : α} {l : List α} (h : p ∈ l) : p ∈ a :: b :: c :: l := .tail _ (.tail _ (.tail _ h))
structure S3 where
  hv : List Value
  hn : Nat
  tv : List Value
  tn : Nat
  bt : Tok
  bn : Nat
def S3J (vals : List Int) (lL HP TD O DU RD cc : Addr) (SF : List (Addr × Obj)) (ovs : List Value) (no : Nat) (dvs : List Value) (nd : Nat) (i : Nat) (c : S3) (nx : List (Addr × Obj)) : Prop :=
  (HP, LO c.hv c.hn) ∈ nx ∧ (TD, LO c.tv c.tn) ∈ nx ∧ (lL, LO [.bytes (byteArr ((vals.drop i).flatMap octN)) c.bt] c.bn) ∈ nx ∧ (O, LO ovs no) ∈ nx ∧ (DU, LO dvs nd) ∈ nx ∧ (RD, LO [.ref 49, .ref 56, .ref 63, .ref 70, .ref 84] 0) ∈ nx ∧
  (∀ p ∈ SF, p ∈ nx) ∧ (189, tabObj #[rawInt 211, rawInt 4, Value.ref cc]) ∈ nx ∧ (∃ oc, (cc, oc) ∈ nx ∧ CodeObj oc) ∧
  IntsAre c.tv ((vals.take i).map dueN) ∧ (∃ hs, IntsAre c.hv hs ∧ hs.Perm ((vals.take i).map dueN)) ∧ Hp.HeapFrom (ltv []) 0 c.hv
local macro_rules | `(tactic| walk_at "compareOp NotEq ref ref") => `(tactic| refine stop_intro ?_)
local macro_rules | `(tactic| walk_at "compareOp Eq ref ref") => `(tactic| refine stop_intro ?_)
local macro_rules | `(tactic| walk_at "exec While Compare cons nil") => `(tactic| refine stop_intro ?_)
local macro_rules | `(tactic| walk_at "call builtin:sorted") => `(tactic| refine stop_intro ?_)
structure S5 where
  hv : List Value
  hn : Nat
  dv : List Value
  dn : Nat
def S5J (due : List Int) (HP DW : Addr) (RS : List (Addr × Obj)) (c : S5) (nx : List (Addr × Obj)) : Prop :=
  (HP, LO c.hv c.hn) ∈ nx ∧ (DW, LO c.dv c.dn) ∈ nx ∧ (∀ p ∈ RS, p ∈ nx) ∧ Down due c.hv c.dv
structure S6 where
  kv : List Value
  kn : Nat
def S6J (due : List Int) (KP : Addr) (RS : List (Addr × Obj)) (i : Nat) (c : S6) (nx : List (Addr × Obj)) : Prop :=
  (KP, LO c.kv c.kn) ∈ nx ∧ (∀ p ∈ RS, p ∈ nx) ∧ Kept due i c.kv
structure S9 where
  tv : List Value
  tm : Nat
  bt : Tok
  bn : Nat
def S9J (vals : List Int) (lL TD DU RD cc : Addr) (oc : Obj) (SF : List (Addr × Obj)) (dvs : List Value) (nd : Nat) (i : Nat) (c : S9) (nx : List (Addr × Obj)) : Prop :=
  i < vals.length ∧ (TD, LO c.tv c.tm) ∈ nx ∧ (lL, LO [.bytes (byteArr ((vals.drop i).flatMap octN).dropLast) c.bt] c.bn) ∈ nx ∧ (RD, LO [.ref 49, .ref 56, .ref 63, .ref 70, .ref 84] 0) ∈ nx ∧ (DU, LO dvs nd) ∈ nx ∧
  (∀ p ∈ SF, p ∈ nx) ∧ (189, tabObj #[rawInt 211, rawInt 4, Value.ref cc]) ∈ nx ∧ (cc, oc) ∈ nx ∧ IntsAre c.tv ((vals.take i).map dueN)
theorem whole : PySem.Challenge.rw_kl0171_01.Holds := hd (by
  k_go0
  dsimp only
  refine law_enter ‹_› ‹_› ‹_› ‹_› ‹_› lifted codeHd (by rfl) (by rfl) ?_
  clear lifted codeHd
  intro g hgg KK XX TT FF NN lifted codeHd C' hdp hun
  have hI := ‹IntsAre _ _›
  k_steps
  rename_i RD g1 lt1 g2 tk2 OC g3 lt3 DU g4 lt4 KI g5 lt5 EN g6 lt6 TP g7 lt7 g8 g9 g10 g11 g12 F0 N0
  unfold Stop
  refine For_invV g (by rfl) (by rfl) ?_
  k_steps
  unfold Stop
  refine slice_B ‹_› ‹_› lifted .none (.int _ _) .none (by simp) (by rw [hI.length, sizeLine_eq]; omega) (pick_upto 20) ?_
  intro SL h1 F1 N1 o1
  have ne1 : DU ≠ KI := Nat.ne_of_lt lt5.1
  have ne2 : DU ≠ EN := Nat.ne_of_lt lt6.2.1
  have ne3 : KI ≠ EN := Nat.ne_of_lt lt6.1
  have rn1 : RD ≠ DU := Nat.ne_of_lt lt4.2.1
  have rn2 : RD ≠ KI := Nat.ne_of_lt lt5.2.2.1
  have rn3 : RD ≠ EN := Nat.ne_of_lt lt6.2.2.2.1
  have tn1 : (189 : Addr) ≠ DU := Nat.ne_of_lt lt4.2.2
  have tn2 : (189 : Addr) ≠ KI := Nat.ne_of_lt lt5.2.2.2
  have tn3 : (189 : Addr) ≠ EN := Nat.ne_of_lt lt6.2.2.2.2
  have sn1 : SL ≠ DU := Ne.symm (o1 (DU, _) (.tail _ (.tail _ (.tail _ (.head _)))))
  have sn2 : SL ≠ KI := Ne.symm (o1 (KI, _) (.tail _ (.tail _ (.head _))))
  have sn3 : SL ≠ EN := Ne.symm (o1 (EN, _) (.tail _ (.head _)))
  have hI20 := hI.take 20
  generalize hivs : List.take 20 _ = ivs at hI20 N1
  generalize hvals : List.take 20 _ = vals at hI20
  have hl20 : ivs.length ≤ 20 := by rw [← hivs]; exact List.length_take_le ..
  refine' loop_list (σ := S1) (l := SL) (vs := ivs) (nn := 0) (fun c => [("readers", .ref RD), ("octets", .ref c.O), ("due", .ref DU), ("kinds", .ref KI), ("ends", .ref EN)]) (S1J vals RD DU KI EN)
    ⟨OC, [], 0, [], 0, [], 0, [.int 0 tk2], 0⟩ (by rfl) F1 N1 (.head _) ?hJ ?hk ?turn ?done
  case hk => walk_at "MY names"
  case hJ =>
    refine ⟨?a1, ?a2, ?a3, ?a4, ?a5, ?a6, .nil, .nil, .nil, rfl, ?a7⟩
    case a1 => exact .tail _ (.tail _ (.tail _ (.tail _ (.tail _ (.head _)))))
    case a2 => exact .tail _ (.tail _ (.tail _ (.tail _ (.head _))))
    case a3 => exact .tail _ (.tail _ (.tail _ (.head _)))
    case a4 => exact .tail _ (.tail _ (.head _))
    case a5 => exact .tail _ (.tail _ (.tail _ (.tail _ (.tail _ (.tail _ (.head _))))))
    case a6 => exact .tail _ (.tail _ (.tail _ (.tail _ (.tail _ (.tail _ (.tail _ (.head _)))))))
    case a7 => exact ⟨Nat.ne_of_lt lt4.1, Nat.ne_of_lt lt5.2.1, Nat.ne_of_lt lt6.2.2.1⟩
  case turn =>
    rintro i v ⟨O, ovs, no, dvs, nd, kvs, nk, evs, ne⟩ u I oI h tk nx hv ⟨d1, d2, d3, d4, d5, d6, i1, i2, i3, i4, q1, q2, q3⟩ hIn hSL F2 N2
    dsimp only at *
    obtain ⟨x, tx, rfl, hx⟩ := int_at hI20 hv
    k_steps
    unfold Stop
    rw [fmod5 x]
    obtain ⟨tc, htc⟩ := cnt_at x _ _ _ _ _
    refine item_N ‹_› (.head _) (kindN x) rfl (by have := kind_lt x; omega) htc ?_
    have hc8 := (cnt_le x).2
    have hc1 := (cnt_le x).1
    generalize hcn : cntN x = cn at *
    generalize hkn : kindN x = kn at *
    have hil : i < 20 := by
      rcases Nat.lt_or_ge i ivs.length with q | q
      · omega
      · rw [List.getElem?_eq_none q] at hv; cases hv
    have hfl : ((vals.take i).flatMap octN).length ≤ 180 := Nat.le_trans (flat_len _) (by rw [List.length_take]; omega)
    k_steps
    unfold Stop
    refine mod_num (x := x) (cn := cn) (by first | rfl | simp | omega) ?_
    intro nm hnm hnl t1 k1
    dsimp only
    have hnum : numN x = nm := by unfold numN; rw [hcn]; exact hnm.symm
    have htk : vals.take (i + 1) = vals.take i ++ [x] := by rw [List.take_add_one, hx]; rfl
    have hID : I ≠ DU ∧ I ≠ KI ∧ I ≠ EN := ⟨Ne.symm (hIn _ d2), Ne.symm (hIn _ d3), Ne.symm (hIn _ d4)⟩
    have hSI : SL ≠ I := hIn _ hSL
    have hRI : RD ≠ I := hIn _ d5
    have h189 : (189 : Addr) ≠ I := hIn _ d6
    k_steps
    · rename_i hk4 TL gT F3 N3 l3
      unfold Stop
      refine add_N (l := O) (b := TL) (xs := ovs) (ys := [.int cn tc]) (ms := [(cn : Int)]) F3 N3 (.tail _ (.tail _ (.tail _ (.tail _ d1)))) (.head _) i1 (.cons _ _ .nil) (by rw [sizeLine_eq]; show (List.flatMap octN (List.take i vals)).length + 1 ≤ _; omega) ?_
      intro A1 hA FA NA oA
      dsimp only
      k_steps
      unfold Stop
      refine octets_call (x := nm) (c := cn) C' (by omega) (by omega) ‹_› ‹_› hc8 (pow_lt64 hnl hc8) ?_
      intro B1 bvs nb hB tB FB iB NB oB
      dsimp only
      k_steps
      unfold Stop
      refine add_N (l := A1) (b := B1) (xs := ovs ++ [.int cn tc]) (ys := bvs) ‹_› ‹_› (.tail _ (.head _)) (.head _) (i1.append (.cons _ _ .nil)) iB (by rw [sizeLine_eq, List.length_append, List.length_map, List.length_range]; show (List.flatMap octN (List.take i vals)).length + 1 + cn ≤ _; omega) ?_
      intro O2 hO FO NO oO
      dsimp only
      have oO2 : ∀ p ∈ (I, oI) :: nx, p.1 ≠ O2 := fun p hp => oO p (.tail _ (.tail _ (.tail _ (.tail _ (.tail _ hp)))))
      have NO2 : News g _ hO ((O2, LO (ovs ++ [.int cn tc] ++ bvs) 0) :: (I, oI) :: nx) := News.sub NO (fun p hp => by
        rcases List.mem_cons.mp hp with rfl | hp
        · exact .head _
        · exact .tail _ (.tail _ (.tail _ (.tail _ (.tail _ (.tail _ hp))))))
      clear NO oO NB oB NA oA N3 l3
      have iO2 : IntsAre (ovs ++ [.int cn tc] ++ bvs) ((vals.take (i + 1)).flatMap octN) := by
        rw [htk, List.flatMap_append]
        have e : [x].flatMap octN = [(cn : Int)] ++ octs nm cn := by
          rw [List.flatMap_cons, List.flatMap_nil, List.append_nil, octN, hkn, hcn, hnum, if_pos (show kn = 4 by omega)]
        rw [e, ← List.append_assoc]
        exact (i1.append (.cons _ _ .nil)).append iB
      generalize ovs ++ [.int cn tc] ++ bvs = ov2 at iO2 NO2
      have mD2 : (DU, LO dvs nd) ∈ (O2, LO ov2 0) :: (I, oI) :: nx := .tail _ (.tail _ d2)
      have hO2 : O2 ≠ DU ∧ O2 ≠ KI ∧ O2 ≠ EN := ⟨Ne.symm (oO2 _ (.tail _ d2)), Ne.symm (oO2 _ (.tail _ d3)), Ne.symm (oO2 _ (.tail _ d4))⟩
      have hO2I : O2 ≠ I := Ne.symm (oO2 _ (.head _))
      k_steps
      · rename_i q hq tq kq hge d hd td kd
        have hdue : d = dueN x := by
          unfold dueN; rw [hkn, hcn, hnum, if_pos ⟨by omega, by have hq' : q = 256 ^ cn / 2 := hq; rw [← hq']; omega⟩]; exact hd
        rw [hdue]
        unfold Stop
        refine append_N (D := DU) (its := dvs) (n := nd) ‹_› (show News g _ _ ((O2, _) :: (I, oI) :: nx) from ‹_›) mD2 (by rw [sizeLine_eq, i2.length, List.length_map, List.length_take]; omega) ?_
        intro h5 F5 N5
        obtain ⟨nx5, hnx5⟩ := ledger_name N5
        rw [← hnx5] at N5
        have s1 : (O2, LO ov2 0) ∈ nx5 := hnx5 ▸ mem_setL_ne (.head _) hO2.1
        have s2 : (I, oI) ∈ nx5 := hnx5 ▸ mem_setL_ne (.tail _ (.head _)) hID.1
        have s3 : (DU, LO (dvs ++ [.int (dueN x) _]) (nd + 1)) ∈ nx5 := hnx5 ▸ mem_setL_self mD2
        have s4 : (KI, LO kvs nk) ∈ nx5 := hnx5 ▸ mem_setL_ne (.tail _ (.tail _ d3)) (Ne.symm ne1)
        have s5 : (EN, LO evs ne) ∈ nx5 := hnx5 ▸ mem_setL_ne (.tail _ (.tail _ d4)) (Ne.symm ne2)
        have s6 : (RD, LO [.ref 49, .ref 56, .ref 63, .ref 70, .ref 84] 0) ∈ nx5 := hnx5 ▸ mem_setL_ne (.tail _ (.tail _ d5)) rn1
        have s7 : (189, tabObj #[]) ∈ nx5 := hnx5 ▸ mem_setL_ne (.tail _ (.tail _ d6)) tn1
        have s8 : (SL, LO ivs 0) ∈ nx5 := hnx5 ▸ mem_setL_ne (.tail _ (.tail _ hSL)) sn1
        clear hnx5
        k_steps
        unfold Stop
        refine append_N (D := KI) (its := kvs) (n := nk) ‹_› (show News g _ _ nx5 from ‹_›) s4 (by rw [sizeLine_eq, i3.length, List.length_map, List.length_take]; omega) ?_
        intro h6 F6 N6
        obtain ⟨nx6, hnx6⟩ := ledger_name N6
        rw [← hnx6] at N6
        have r1 : (O2, LO ov2 0) ∈ nx6 := hnx6 ▸ mem_setL_ne s1 hO2.2.1
        have r2 : (I, oI) ∈ nx6 := hnx6 ▸ mem_setL_ne s2 hID.2.1
        have r3 : (DU, LO (dvs ++ [.int (dueN x) _]) (nd + 1)) ∈ nx6 := hnx6 ▸ mem_setL_ne s3 ne1
        have r4 : (KI, LO (kvs ++ [.int (kn : Nat) _]) (nk + 1)) ∈ nx6 := hnx6 ▸ mem_setL_self s4
        have r5 : (EN, LO evs ne) ∈ nx6 := hnx6 ▸ mem_setL_ne s5 (Ne.symm ne3)
        have r6 : (RD, LO [.ref 49, .ref 56, .ref 63, .ref 70, .ref 84] 0) ∈ nx6 := hnx6 ▸ mem_setL_ne s6 rn2
        have r7 : (189, tabObj #[]) ∈ nx6 := hnx6 ▸ mem_setL_ne s7 tn2
        have r8 : (SL, LO ivs 0) ∈ nx6 := hnx6 ▸ mem_setL_ne s8 sn2
        clear hnx6
        k_steps
        unfold Stop
        refine len_N (D := O2) (its := ov2) (n := 0) (show News g _ _ nx6 from ‹_›) r1 (by have h9 := flat_len (vals.take (i + 1)); rw [List.length_take] at h9; rw [iO2.length]; omega) ?_
        k_steps
        unfold Stop
        refine append_N (D := EN) (its := evs) (n := ne) ‹_› (show News g _ _ nx6 from ‹_›) r5 (by rw [sizeLine_eq, i4]; omega) ?_
        intro h7 F7 N7
        obtain ⟨nx7, hnx7⟩ := ledger_name N7
        rw [← hnx7] at N7
        have z1 : (O2, LO ov2 0) ∈ nx7 := hnx7 ▸ mem_setL_ne r1 hO2.2.2
        have z2 : (I, oI) ∈ nx7 := hnx7 ▸ mem_setL_ne r2 hID.2.2
        obtain ⟨tD, z3⟩ : ∃ tD, (DU, LO (dvs ++ [.int (dueN x) tD]) (nd + 1)) ∈ nx7 := ⟨_, hnx7 ▸ mem_setL_ne r3 ne2⟩
        obtain ⟨tK, z4⟩ : ∃ tK, (KI, LO (kvs ++ [.int (kn : Nat) tK]) (nk + 1)) ∈ nx7 := ⟨_, hnx7 ▸ mem_setL_ne r4 ne3⟩
        obtain ⟨vE, z5⟩ : ∃ vE, (EN, LO (evs ++ [vE]) (ne + 1)) ∈ nx7 := ⟨_, hnx7 ▸ mem_setL_self r5⟩
        have z6 : (RD, LO [.ref 49, .ref 56, .ref 63, .ref 70, .ref 84] 0) ∈ nx7 := hnx7 ▸ mem_setL_ne r6 rn3
        have z7 : (189, tabObj #[]) ∈ nx7 := hnx7 ▸ mem_setL_ne r7 tn3
        have z8 : (SL, LO ivs 0) ∈ nx7 := hnx7 ▸ mem_setL_ne r8 sn3
        clear hnx7
        k_steps
        have fI : ∀ p ∈ nx7, p.1 ≠ I → p ∈ nx7.filter (fun p => p.1 ≠ I) := fun p hp h => List.mem_filter.mpr ⟨hp, by simpa using h⟩
        have F8 := ‹Fr g _ _ _›
        have N8 := ‹News g _ _ nx7›
        refine' FX.intro ⟨O2, ov2, 0, dvs ++ [.int (dueN x) tD], nd + 1, kvs ++ [.int (kn : Nat) tK], nk + 1, evs ++ [vE], ne + 1⟩ (nx7.filter fun p => p.1 ≠ I) F8 N8 z2 (fun p hp => (List.mem_filter.mp hp).1) (fun p hp => by simpa using (List.mem_filter.mp hp).2) ?hK7 ?hJ7 ?hp7
        case hp7 => walk_at "MY names"
        case hK7 => intro p hp; rw [List.mem_singleton.mp hp]; exact fI _ z8 hSI
        case hJ7 =>
          exact ⟨fI _ z1 hO2I, fI _ z3 (Ne.symm hID.1), fI _ z4 (Ne.symm hID.2.1), fI _ z5 (Ne.symm hID.2.2), fI _ z6 hRI, fI _ z7 h189, iO2, by rw [htk, List.map_append]; exact i2.append (.cons _ _ .nil), by rw [htk, List.map_append]; exact i3.append (by rw [List.map_cons, List.map_nil, hkn]; exact .cons _ _ .nil), by rw [List.length_append, i4]; rfl, hO2⟩
      · rename_i q hq tq kq hge
        have hdue : (nm : Int) = dueN x := by
          unfold dueN; rw [hkn, hcn, hnum, if_neg (fun hc => by have hq' : q = 256 ^ cn / 2 := hq; have h2 := hc.2; rw [← hq'] at h2; omega)]
        rw [hdue]
        unfold Stop
        refine append_N (D := DU) (its := dvs) (n := nd) ‹_› (show News g _ _ ((O2, _) :: (I, oI) :: nx) from ‹_›) mD2 (by rw [sizeLine_eq, i2.length, List.length_map, List.length_take]; omega) ?_
        intro h5 F5 N5
        obtain ⟨nx5, hnx5⟩ := ledger_name N5
        rw [← hnx5] at N5
        have s1 : (O2, LO ov2 0) ∈ nx5 := hnx5 ▸ mem_setL_ne (.head _) hO2.1
        have s2 : (I, oI) ∈ nx5 := hnx5 ▸ mem_setL_ne (.tail _ (.head _)) hID.1
        have s3 : (DU, LO (dvs ++ [.int (dueN x) _]) (nd + 1)) ∈ nx5 := hnx5 ▸ mem_setL_self mD2
        have s4 : (KI, LO kvs nk) ∈ nx5 := hnx5 ▸ mem_setL_ne (.tail _ (.tail _ d3)) (Ne.symm ne1)
        have s5 : (EN, LO evs ne) ∈ nx5 := hnx5 ▸ mem_setL_ne (.tail _ (.tail _ d4)) (Ne.symm ne2)
        have s6 : (RD, LO [.ref 49, .ref 56, .ref 63, .ref 70, .ref 84] 0) ∈ nx5 := hnx5 ▸ mem_setL_ne (.tail _ (.tail _ d5)) rn1
        have s7 : (189, tabObj #[]) ∈ nx5 := hnx5 ▸ mem_setL_ne (.tail _ (.tail _ d6)) tn1
        have s8 : (SL, LO ivs 0) ∈ nx5 := hnx5 ▸ mem_setL_ne (.tail _ (.tail _ hSL)) sn1
        clear hnx5
        k_steps
        unfold Stop
        refine append_N (D := KI) (its := kvs) (n := nk) ‹_› (show News g _ _ nx5 from ‹_›) s4 (by rw [sizeLine_eq, i3.length, List.length_map, List.length_take]; omega) ?_
        intro h6 F6 N6
        obtain ⟨nx6, hnx6⟩ := ledger_name N6
        rw [← hnx6] at N6
        have r1 : (O2, LO ov2 0) ∈ nx6 := hnx6 ▸ mem_setL_ne s1 hO2.2.1
        have r2 : (I, oI) ∈ nx6 := hnx6 ▸ mem_setL_ne s2 hID.2.1
        have r3 : (DU, LO (dvs ++ [.int (dueN x) _]) (nd + 1)) ∈ nx6 := hnx6 ▸ mem_setL_ne s3 ne1
        have r4 : (KI, LO (kvs ++ [.int (kn : Nat) _]) (nk + 1)) ∈ nx6 := hnx6 ▸ mem_setL_self s4
        have r5 : (EN, LO evs ne) ∈ nx6 := hnx6 ▸ mem_setL_ne s5 (Ne.symm ne3)
        have r6 : (RD, LO [.ref 49, .ref 56, .ref 63, .ref 70, .ref 84] 0) ∈ nx6 := hnx6 ▸ mem_setL_ne s6 rn2
        have r7 : (189, tabObj #[]) ∈ nx6 := hnx6 ▸ mem_setL_ne s7 tn2
        have r8 : (SL, LO ivs 0) ∈ nx6 := hnx6 ▸ mem_setL_ne s8 sn2
        clear hnx6
        k_steps
        unfold Stop
        refine len_N (D := O2) (its := ov2) (n := 0) (show News g _ _ nx6 from ‹_›) r1 (by have h9 := flat_len (vals.take (i + 1)); rw [List.length_take] at h9; rw [iO2.length]; omega) ?_
        k_steps
        unfold Stop
        refine append_N (D := EN) (its := evs) (n := ne) ‹_› (show News g _ _ nx6 from ‹_›) r5 (by rw [sizeLine_eq, i4]; omega) ?_
        intro h7 F7 N7
        obtain ⟨nx7, hnx7⟩ := ledger_name N7
        rw [← hnx7] at N7
        have z1 : (O2, LO ov2 0) ∈ nx7 := hnx7 ▸ mem_setL_ne r1 hO2.2.2
        have z2 : (I, oI) ∈ nx7 := hnx7 ▸ mem_setL_ne r2 hID.2.2
        obtain ⟨tD, z3⟩ : ∃ tD, (DU, LO (dvs ++ [.int (dueN x) tD]) (nd + 1)) ∈ nx7 := ⟨_, hnx7 ▸ mem_setL_ne r3 ne2⟩
        obtain ⟨tK, z4⟩ : ∃ tK, (KI, LO (kvs ++ [.int (kn : Nat) tK]) (nk + 1)) ∈ nx7 := ⟨_, hnx7 ▸ mem_setL_ne r4 ne3⟩
        obtain ⟨vE, z5⟩ : ∃ vE, (EN, LO (evs ++ [vE]) (ne + 1)) ∈ nx7 := ⟨_, hnx7 ▸ mem_setL_self r5⟩
        have z6 : (RD, LO [.ref 49, .ref 56, .ref 63, .ref 70, .ref 84] 0) ∈ nx7 := hnx7 ▸ mem_setL_ne r6 rn3
        have z7 : (189, tabObj #[]) ∈ nx7 := hnx7 ▸ mem_setL_ne r7 tn3
        have z8 : (SL, LO ivs 0) ∈ nx7 := hnx7 ▸ mem_setL_ne r8 sn3
        clear hnx7
        k_steps
        have fI : ∀ p ∈ nx7, p.1 ≠ I → p ∈ nx7.filter (fun p => p.1 ≠ I) := fun p hp h => List.mem_filter.mpr ⟨hp, by simpa using h⟩
        have F8 := ‹Fr g _ _ _›
        have N8 := ‹News g _ _ nx7›
        refine' FX.intro ⟨O2, ov2, 0, dvs ++ [.int (dueN x) tD], nd + 1, kvs ++ [.int (kn : Nat) tK], nk + 1, evs ++ [vE], ne + 1⟩ (nx7.filter fun p => p.1 ≠ I) F8 N8 z2 (fun p hp => (List.mem_filter.mp hp).1) (fun p hp => by simpa using (List.mem_filter.mp hp).2) ?hK7 ?hJ7 ?hp7
        case hp7 => walk_at "MY names"
        case hK7 => intro p hp; rw [List.mem_singleton.mp hp]; exact fI _ z8 hSI
        case hJ7 =>
          exact ⟨fI _ z1 hO2I, fI _ z3 (Ne.symm hID.1), fI _ z4 (Ne.symm hID.2.1), fI _ z5 (Ne.symm hID.2.2), fI _ z6 hRI, fI _ z7 h189, iO2, by rw [htk, List.map_append]; exact i2.append (.cons _ _ .nil), by rw [htk, List.map_append]; exact i3.append (by rw [List.map_cons, List.map_nil, hkn]; exact .cons _ _ .nil), by rw [List.length_append, i4]; rfl, hO2⟩
      · exfalso; omega
    · rename_i hk4 TL gT F3 N3 l3
      unfold Stop
      refine add_N (l := O) (b := TL) (xs := ovs) (ys := ([] : List Value)) (ms := ([] : List Int)) F3 N3 (.tail _ (.tail _ (.tail _ (.tail _ d1)))) (.head _) i1 .nil (by rw [sizeLine_eq]; show (List.flatMap octN (List.take i vals)).length + 0 ≤ _; omega) ?_
      intro A1 hA FA NA oA
      dsimp only
      k_steps
      unfold Stop
      refine octets_call (x := nm) (c := cn) C' (by omega) (by omega) ‹_› ‹_› hc8 (pow_lt64 hnl hc8) ?_
      intro B1 bvs nb hB tB FB iB NB oB
      dsimp only
      k_steps
      unfold Stop
      refine add_N (l := A1) (b := B1) (xs := ovs ++ ([] : List Value)) (ys := bvs) ‹_› ‹_› (.tail _ (.head _)) (.head _) (i1.append .nil) iB (by rw [sizeLine_eq, List.length_append, List.length_map, List.length_range]; show (List.flatMap octN (List.take i vals)).length + 0 + cn ≤ _; omega) ?_
      intro O2 hO FO NO oO
      dsimp only
      have oO2 : ∀ p ∈ (I, oI) :: nx, p.1 ≠ O2 := fun p hp => oO p (.tail _ (.tail _ (.tail _ (.tail _ (.tail _ hp)))))
      have NO2 : News g _ hO ((O2, LO (ovs ++ ([] : List Value) ++ bvs) 0) :: (I, oI) :: nx) := News.sub NO (fun p hp => by
        rcases List.mem_cons.mp hp with rfl | hp
        · exact .head _
        · exact .tail _ (.tail _ (.tail _ (.tail _ (.tail _ (.tail _ hp))))))
      clear NO oO NB oB NA oA N3 l3
      have iO2 : IntsAre (ovs ++ ([] : List Value) ++ bvs) ((vals.take (i + 1)).flatMap octN) := by
        rw [htk, List.flatMap_append]
        have e : [x].flatMap octN = ([] : List Int) ++ octs nm cn := by
          rw [List.flatMap_cons, List.flatMap_nil, List.append_nil, octN, hkn, hcn, hnum, if_neg (show ¬ kn = 4 by omega)]
        rw [e, ← List.append_assoc]
        exact (i1.append .nil).append iB
      generalize ovs ++ ([] : List Value) ++ bvs = ov2 at iO2 NO2
      have mD2 : (DU, LO dvs nd) ∈ (O2, LO ov2 0) :: (I, oI) :: nx := .tail _ (.tail _ d2)
      have hO2 : O2 ≠ DU ∧ O2 ≠ KI ∧ O2 ≠ EN := ⟨Ne.symm (oO2 _ (.tail _ d2)), Ne.symm (oO2 _ (.tail _ d3)), Ne.symm (oO2 _ (.tail _ d4))⟩
      have hO2I : O2 ≠ I := Ne.symm (oO2 _ (.head _))
      k_steps
      · exfalso; omega
      · have hdue : (nm : Int) = dueN x := by
          unfold dueN; rw [hkn, hcn, hnum, if_neg (fun hc => by have := hc.1; omega)]
        rw [hdue]
        unfold Stop
        refine append_N (D := DU) (its := dvs) (n := nd) ‹_› (show News g _ _ ((O2, _) :: (I, oI) :: nx) from ‹_›) mD2 (by rw [sizeLine_eq, i2.length, List.length_map, List.length_take]; omega) ?_
        intro h5 F5 N5
        obtain ⟨nx5, hnx5⟩ := ledger_name N5
        rw [← hnx5] at N5
        have s1 : (O2, LO ov2 0) ∈ nx5 := hnx5 ▸ mem_setL_ne (.head _) hO2.1
        have s2 : (I, oI) ∈ nx5 := hnx5 ▸ mem_setL_ne (.tail _ (.head _)) hID.1
        have s3 : (DU, LO (dvs ++ [.int (dueN x) _]) (nd + 1)) ∈ nx5 := hnx5 ▸ mem_setL_self mD2
        have s4 : (KI, LO kvs nk) ∈ nx5 := hnx5 ▸ mem_setL_ne (.tail _ (.tail _ d3)) (Ne.symm ne1)
        have s5 : (EN, LO evs ne) ∈ nx5 := hnx5 ▸ mem_setL_ne (.tail _ (.tail _ d4)) (Ne.symm ne2)
        have s6 : (RD, LO [.ref 49, .ref 56, .ref 63, .ref 70, .ref 84] 0) ∈ nx5 := hnx5 ▸ mem_setL_ne (.tail _ (.tail _ d5)) rn1
        have s7 : (189, tabObj #[]) ∈ nx5 := hnx5 ▸ mem_setL_ne (.tail _ (.tail _ d6)) tn1
        have s8 : (SL, LO ivs 0) ∈ nx5 := hnx5 ▸ mem_setL_ne (.tail _ (.tail _ hSL)) sn1
        clear hnx5
        k_steps
        unfold Stop
        refine append_N (D := KI) (its := kvs) (n := nk) ‹_› (show News g _ _ nx5 from ‹_›) s4 (by rw [sizeLine_eq, i3.length, List.length_map, List.length_take]; omega) ?_
        intro h6 F6 N6
        obtain ⟨nx6, hnx6⟩ := ledger_name N6
        rw [← hnx6] at N6
        have r1 : (O2, LO ov2 0) ∈ nx6 := hnx6 ▸ mem_setL_ne s1 hO2.2.1
        have r2 : (I, oI) ∈ nx6 := hnx6 ▸ mem_setL_ne s2 hID.2.1
        have r3 : (DU, LO (dvs ++ [.int (dueN x) _]) (nd + 1)) ∈ nx6 := hnx6 ▸ mem_setL_ne s3 ne1
        have r4 : (KI, LO (kvs ++ [.int (kn : Nat) _]) (nk + 1)) ∈ nx6 := hnx6 ▸ mem_setL_self s4
        have r5 : (EN, LO evs ne) ∈ nx6 := hnx6 ▸ mem_setL_ne s5 (Ne.symm ne3)
        have r6 : (RD, LO [.ref 49, .ref 56, .ref 63, .ref 70, .ref 84] 0) ∈ nx6 := hnx6 ▸ mem_setL_ne s6 rn2
        have r7 : (189, tabObj #[]) ∈ nx6 := hnx6 ▸ mem_setL_ne s7 tn2
        have r8 : (SL, LO ivs 0) ∈ nx6 := hnx6 ▸ mem_setL_ne s8 sn2
        clear hnx6
        k_steps
        unfold Stop
        refine len_N (D := O2) (its := ov2) (n := 0) (show News g _ _ nx6 from ‹_›) r1 (by have h9 := flat_len (vals.take (i + 1)); rw [List.length_take] at h9; rw [iO2.length]; omega) ?_
        k_steps
        unfold Stop
        refine append_N (D := EN) (its := evs) (n := ne) ‹_› (show News g _ _ nx6 from ‹_›) r5 (by rw [sizeLine_eq, i4]; omega) ?_
        intro h7 F7 N7
        obtain ⟨nx7, hnx7⟩ := ledger_name N7
        rw [← hnx7] at N7
        have z1 : (O2, LO ov2 0) ∈ nx7 := hnx7 ▸ mem_setL_ne r1 hO2.2.2
        have z2 : (I, oI) ∈ nx7 := hnx7 ▸ mem_setL_ne r2 hID.2.2
        obtain ⟨tD, z3⟩ : ∃ tD, (DU, LO (dvs ++ [.int (dueN x) tD]) (nd + 1)) ∈ nx7 := ⟨_, hnx7 ▸ mem_setL_ne r3 ne2⟩
        obtain ⟨tK, z4⟩ : ∃ tK, (KI, LO (kvs ++ [.int (kn : Nat) tK]) (nk + 1)) ∈ nx7 := ⟨_, hnx7 ▸ mem_setL_ne r4 ne3⟩
        obtain ⟨vE, z5⟩ : ∃ vE, (EN, LO (evs ++ [vE]) (ne + 1)) ∈ nx7 := ⟨_, hnx7 ▸ mem_setL_self r5⟩
        have z6 : (RD, LO [.ref 49, .ref 56, .ref 63, .ref 70, .ref 84] 0) ∈ nx7 := hnx7 ▸ mem_setL_ne r6 rn3
        have z7 : (189, tabObj #[]) ∈ nx7 := hnx7 ▸ mem_setL_ne r7 tn3
        have z8 : (SL, LO ivs 0) ∈ nx7 := hnx7 ▸ mem_setL_ne r8 sn3
        clear hnx7
        k_steps
        have fI : ∀ p ∈ nx7, p.1 ≠ I → p ∈ nx7.filter (fun p => p.1 ≠ I) := fun p hp h => List.mem_filter.mpr ⟨hp, by simpa using h⟩
        have F8 := ‹Fr g _ _ _›
        have N8 := ‹News g _ _ nx7›
        refine' FX.intro ⟨O2, ov2, 0, dvs ++ [.int (dueN x) tD], nd + 1, kvs ++ [.int (kn : Nat) tK], nk + 1, evs ++ [vE], ne + 1⟩ (nx7.filter fun p => p.1 ≠ I) F8 N8 z2 (fun p hp => (List.mem_filter.mp hp).1) (fun p hp => by simpa using (List.mem_filter.mp hp).2) ?hK7 ?hJ7 ?hp7
        case hp7 => walk_at "MY names"
        case hK7 => intro p hp; rw [List.mem_singleton.mp hp]; exact fI _ z8 hSI
        case hJ7 =>
          exact ⟨fI _ z1 hO2I, fI _ z3 (Ne.symm hID.1), fI _ z4 (Ne.symm hID.2.1), fI _ z5 (Ne.symm hID.2.2), fI _ z6 hRI, fI _ z7 h189, iO2, by rw [htk, List.map_append]; exact i2.append (.cons _ _ .nil), by rw [htk, List.map_append]; exact i3.append (by rw [List.map_cons, List.map_nil, hkn]; exact .cons _ _ .nil), by rw [List.length_append, i4]; rfl, hO2⟩
  case done =>
    rintro ⟨O, ovs, no, dvs, nd, kvs, nk, evs, ne⟩ u h tk nx ⟨d1, d2, d3, d4, d5, d6, i1, i2, i3, i4, q1, q2, q3⟩ F2 N2 hSL
    dsimp only at *
    have hvl : ivs.length = vals.length := hI20.length
    rw [hvl, List.take_length] at i1 i2 i3
    have NL : News g _ h [(189, tabObj #[]), (O, LO ovs no), (DU, LO dvs nd), (KI, LO kvs nk), (RD, LO [.ref 49, .ref 56, .ref 63, .ref 70, .ref 84] 0)] := News.sub N2 (by
      intro p hp
      simp only [List.mem_cons, List.not_mem_nil, or_false] at hp
      rcases hp with rfl | rfl | rfl | rfl | rfl <;> assumption)
    clear N2 d1 d2 d3 d4 d5 d6
    have hfl : (vals.flatMap octN).length ≤ 180 := Nat.le_trans (flat_len _) (by omega)
    have bnd1 : (byteArr (vals.flatMap octN)).size ≤ 180 := by have := KBw.ints_length (byteArr (vals.flatMap octN)); simpa [byteArr] using hfl
    k_steps
    unfold Stop
    refine KBa.make_K (D := O) (vs := ovs) (ns := vals.flatMap octN) ‹_› NL (by rfl) (PySem.IsL.isList (n := no) (NL _ (.tail _ (.head _))).1) i1 (flat_range vals) (by omega) ?_
    intro hb tb kb FB NB _
    dsimp only
    k_steps
    unfold Stop
    refine stream_call1 (b := byteArr (vals.flatMap octN)) C' (by omega) (by omega) FB NB ?h9 ?_
    case h9 =>
      have tab : ∀ D vs n, (D, LO vs n) ∈ [(189, tabObj #[]), (O, LO ovs no), (DU, LO dvs nd), (KI, LO kvs nk), (RD, LO [.ref 49, .ref 56, .ref 63, .ref 70, .ref 84] 0)] → D ≠ 189 := fun D vs n hm e => by
        have q := congrArg Obj.data (News.uniq NB (.head _) (e ▸ hm))
        cases q
      intro p hp
      simp only [List.mem_cons, List.not_mem_nil, or_false] at hp
      rcases hp with rfl | rfl | rfl | rfl
      · exact tab O ovs no (.tail _ (.head _))
      · exact tab DU dvs nd (.tail _ (.tail _ (.head _)))
      · exact tab KI kvs nk (.tail _ (.tail _ (.tail _ (.head _))))
      · exact tab RD _ 0 (.tail _ (.tail _ (.tail _ (.tail _ (.head _)))))
    intro S fr lL SF cc hs tks ns1 spec hSF hkeep htab hcc hlL hltL hlt189 Fs Ns
    dsimp only
    have b1 : (O, LO ovs no) ∈ ns1 := hkeep _ (.head _)
    have b2 : (DU, LO dvs nd) ∈ ns1 := hkeep _ (.tail _ (.head _))
    have b3 : (KI, LO kvs nk) ∈ ns1 := hkeep _ (.tail _ (.tail _ (.head _)))
    have b4 : (RD, LO [.ref 49, .ref 56, .ref 63, .ref 70, .ref 84] 0) ∈ ns1 := hkeep _ (.tail _ (.tail _ (.tail _ (.head _))))
    clear NL NB hkeep
    k_steps
    rename_i HP e1 hp1 TD e2 hp2 TP2 e3 hp3 e4 e5 e6 e7 F3 N3
    unfold Stop
    refine For_invV g (by rfl) (by rfl) ?_
    k_steps
    unfold Stop
    refine' loop_list (σ := S3) (l := KI) (vs := kvs) (nn := nk) (fun c => [("readers", .ref RD), ("octets", .ref O), ("due", .ref DU), ("kinds", .ref KI), ("stream", .ref S), ("heap", .ref HP), ("told", .ref TD)])
      (S3J vals lL HP TD O DU RD cc SF ovs no dvs nd) ⟨[], 0, [], 0, tb, 0⟩ (by rfl) F3 N3 (.tail _ (.tail _ (.tail _ b3))) ?hJ3 ?hk3 ?turn3 ?done3
    case hk3 => walk_at "MY names"
    case hJ3 =>
      refine ⟨.tail _ (.tail _ (.head _)), .tail _ (.head _), mem3 hlL, mem3 b1, mem3 b2, mem3 b4, fun p hp => mem3 (hSF p hp), mem3 htab, ?_, .nil, ⟨[], .nil, List.Perm.refl _⟩, fun i a b _ _ ha _ => by simp at ha⟩
      obtain ⟨oc, h1, h2⟩ := hcc
      exact ⟨oc, mem3 h1, h2⟩
    case turn3 =>
      rintro i v ⟨hv3, hn3, tv3, tm3, bt3, bn3⟩ u3 I3 oI3 h3 tk3 nx3 hvi ⟨j1, j2, j3, j4, j5, j6, j7, j8, j9, j10, ⟨hs', jh, jp⟩, jH⟩ hIn3 hKI3 F4 N4
      dsimp only at *
      obtain ⟨kx, tx, rfl, hkx⟩ := int_at i3 hvi
      obtain ⟨x, hx, rfl⟩ : ∃ x, vals[i]? = some x ∧ kx = (kindN x : Int) := by
        rw [List.getElem?_map] at hkx
        cases e : vals[i]? with
        | none => rw [e] at hkx; cases hkx
        | some x => rw [e] at hkx; exact ⟨x, rfl, (Option.some.inj hkx).symm⟩
      k_steps
      unfold Stop
      have hrd : ([.ref 49, .ref 56, .ref 63, .ref 70, .ref 84] : List Value)[kindN x]? = some (.ref (rdAddr (kindN x))) := by
        match kindN x, kind_lt x with
        | 0, _ | 1, _ | 2, _ | 3, _ | 4, _ => rfl
      refine item_N ‹_› (.tail _ j6) (kindN x) rfl (by have := kind_lt x; omega) hrd ?_
      have hfn := reader_fn XX F4.keep (kindN x) (kind_lt x)
      refine callWith_F hfn ?_
      k_steps
      · exact hfn
      unfold Stop
      have hil3 : i < vals.length := by
        rcases Nat.lt_or_ge i vals.length with q | q
        · exact q
        · rw [List.getElem?_eq_none q] at hx; cases hx
      have hdrop : vals.drop i = x :: vals.drop (i + 1) := by
        rw [List.drop_eq_getElem_cons hil3]
        rw [List.getElem?_eq_getElem hil3] at hx
        rw [Option.some.inj hx]
      rw [hdrop, List.flatMap_cons] at j3
      have hrl : ((vals.drop (i + 1)).flatMap octN).length ≤ 1000 := Nat.le_trans (flat_len _) (by rw [List.length_drop]; omega)
      refine reader_call (x := x) (rest := (vals.drop (i + 1)).flatMap octN) C' (by omega) (by omega) ‹_› ‹_› spec (fun p hp => .tail _ (j7 p hp)) (.tail _ j3) hrl ?_
      intro h5 tk5 t5 t6 F5 N5
      dsimp only
      have dataNe : ∀ {a : Addr} {o : Obj} {vs : List Value} {k : Nat}, (a, o) ∈ nx3 → (∀ xs e, o.data ≠ .seq xs e) → (lL, LO vs k) ∈ nx3 → a ≠ lL := fun h1 h2 h3 e => h2 _ _ (congrArg Obj.data (News.uniq (News.sub N4 fun p hp => .tail _ hp) h1 (e ▸ h3)))
      have lO : O ≠ lL := Nat.ne_of_lt (hltL _ (.head _))
      have lDU : DU ≠ lL := Nat.ne_of_lt (hltL _ (.tail _ (.head _)))
      have lKI : KI ≠ lL := Nat.ne_of_lt (hltL _ (.tail _ (.tail _ (.head _))))
      have lRD : RD ≠ lL := Nat.ne_of_lt (hltL _ (.tail _ (.tail _ (.tail _ (.head _)))))
      have lHP : HP ≠ lL := Nat.ne_of_gt (hp1 _ hlL)
      have lTD : TD ≠ lL := Nat.ne_of_gt (allLt_mem hp2.2 _ hlL)
      obtain ⟨nx5, hnx5⟩ := ledger_name N5
      rw [← hnx5] at N5
      have w1 : (HP, LO hv3 hn3) ∈ nx5 := hnx5 ▸ mem_setL_ne (.tail _ j1) lHP
      have w2 : (TD, LO tv3 tm3) ∈ nx5 := hnx5 ▸ mem_setL_ne (.tail _ j2) lTD
      have w3 : (lL, LO [.bytes (byteArr ((vals.drop (i + 1)).flatMap octN)) t6] bn3) ∈ nx5 := hnx5 ▸ mem_setL_self (.tail _ j3)
      have w4 : (O, LO ovs no) ∈ nx5 := hnx5 ▸ mem_setL_ne (.tail _ j4) lO
      have w5 : (DU, LO dvs nd) ∈ nx5 := hnx5 ▸ mem_setL_ne (.tail _ j5) lDU
      have w6 : (RD, LO [.ref 49, .ref 56, .ref 63, .ref 70, .ref 84] 0) ∈ nx5 := hnx5 ▸ mem_setL_ne (.tail _ j6) lRD
      have w7 : ∀ p ∈ SF, p ∈ nx5 := fun p hp => hnx5 ▸ mem_setL_ne (.tail _ (j7 p hp)) (spec.off p hp)
      have w10 : (KI, LO kvs nk) ∈ nx5 := hnx5 ▸ mem_setL_ne (.tail _ hKI3) lKI
      k_steps
      unfold Stop
      have jhl : hv3.length ≤ 20 := by rw [jh.length, jp.length_eq, List.length_map, List.length_take]; omega
      refine heappush_call (D := HP) (its := hv3) (n := hn3) (v := .int (dueN x) t5) (lt := ltv []) (facts := []) C' (by omega) (by omega) ‹_› ‹_› w1 (by omega) (ints_lts (jh.append (.cons (dueN x) t5 .nil))) (fun p hp => nomatch hp) ?_
      intro h6 tk6 F6 N6
      dsimp only
      obtain ⟨nx6, hnx6⟩ := ledger_name N6
      rw [← hnx6] at N6
      have eTH : TD ≠ HP := Nat.ne_of_gt hp2.1
      have x1 : (HP, LO (Hp.sd (ltv []) (.int (dueN x) t5) 0 hv3.length (hv3 ++ [.int (dueN x) t5])) (hn3 + 1)) ∈ nx6 := hnx6 ▸ mem_setL_self w1
      have x2 : (TD, LO tv3 tm3) ∈ nx6 := hnx6 ▸ mem_setL_ne w2 eTH
      k_steps
      unfold Stop
      refine append_N (D := TD) (its := tv3) (n := tm3) ‹_› (show News g _ _ nx6 from ‹_›) x2 (by rw [sizeLine_eq, j10.length, List.length_map, List.length_take]; omega) ?_
      intro h7 F7 N7
      obtain ⟨nx7, hnx7⟩ := ledger_name N7
      rw [← hnx7] at N7
      have ltN : ∀ p ∈ ns1, p.1 ≠ HP ∧ p.1 ≠ TD := fun p hp => ⟨Nat.ne_of_lt (hp1 p hp), Nat.ne_of_lt (allLt_mem hp2.2 p hp)⟩
      have up : ∀ p ∈ nx5, p.1 ≠ HP → p.1 ≠ TD → p ∈ nx7 := fun p hp c1 c2 => hnx7 ▸ mem_setL_ne (hnx6 ▸ mem_setL_ne hp c1) c2
      have ups : ∀ p ∈ ns1, p ∈ nx3 → p.1 ≠ lL → p ∈ nx7 := fun p h1 h2 h3 => up p (hnx5 ▸ mem_setL_ne (.tail _ h2) h3) (ltN p h1).1 (ltN p h1).2
      have y1 : (HP, LO (Hp.sd (ltv []) (.int (dueN x) t5) 0 hv3.length (hv3 ++ [.int (dueN x) t5])) (hn3 + 1)) ∈ nx7 := hnx7 ▸ mem_setL_ne x1 (Ne.symm eTH)
      obtain ⟨tT, y2⟩ : ∃ tT, (TD, LO (tv3 ++ [.int (dueN x) tT]) (tm3 + 1)) ∈ nx7 := ⟨_, hnx7 ▸ mem_setL_self x2⟩
      have y3 : (lL, LO [.bytes (byteArr ((vals.drop (i + 1)).flatMap octN)) t6] bn3) ∈ nx7 := up _ w3 (Ne.symm lHP) (Ne.symm lTD)
      have y7 : ∀ p ∈ SF, p ∈ nx7 := fun p hp => up p (w7 p hp) (ltN p (hSF p hp)).1 (ltN p (hSF p hp)).2
      k_steps
      have F8 := ‹Fr g _ _ _›
      have N8 := ‹News g _ _ nx7›
      have lI : lL ≠ I3 := hIn3 _ j3
      have iHP : HP ≠ I3 := hIn3 _ j1
      have iTD : TD ≠ I3 := hIn3 _ j2
      have z2 : (I3, oI3) ∈ nx7 := up _ (hnx5 ▸ mem_setL_ne (.head _) (Ne.symm lI)) (Ne.symm iHP) (Ne.symm iTD)
      have y4 : (O, LO ovs no) ∈ nx7 := ups _ b1 j4 lO
      have y5 : (DU, LO dvs nd) ∈ nx7 := ups _ b2 j5 lDU
      have y6 : (RD, LO [.ref 49, .ref 56, .ref 63, .ref 70, .ref 84] 0) ∈ nx7 := ups _ b4 j6 lRD
      have y8 : (189, tabObj #[rawInt 211, rawInt 4, Value.ref cc]) ∈ nx7 := ups _ htab j8 (Nat.ne_of_lt hlt189)
      have y10 : (KI, LO kvs nk) ∈ nx7 := ups _ b3 hKI3 lKI
      obtain ⟨oc3, jc1, jc2⟩ := j9
      have ccl : cc ≠ lL := by
        obtain ⟨vs9, t9, hd9, _⟩ := jc2
        exact dataNe jc1 (fun xs e he => by rw [hd9] at he; cases he) j3
      have ccN : cc ≠ HP ∧ cc ≠ TD := by
        obtain ⟨oc, h1, _⟩ := hcc
        exact ltN _ h1
      have y9 : (cc, oc3) ∈ nx7 := up _ (hnx5 ▸ mem_setL_ne (.tail _ jc1) ccl) ccN.1 ccN.2
      have fI : ∀ p ∈ nx7, p.1 ≠ I3 → p ∈ nx7.filter (fun p => p.1 ≠ I3) := fun p hp h => List.mem_filter.mpr ⟨hp, by simpa using h⟩
      have hnI : ∀ {a : Addr} {o : Obj}, (a, o) ∈ nx3 → a ≠ I3 := fun h => hIn3 _ h
      have htk3 : vals.take (i + 1) = vals.take i ++ [x] := by rw [List.take_add_one, hx]; rfl
      obtain ⟨hs9, jh9, jp9⟩ := ints_perm (jh.append (.cons (dueN x) t5 .nil)) (push_perm (ltv []) hv3 (.int (dueN x) t5))
      have jH9 := push_heap (swo_ltv []) (v := Value.int (dueN x) t5) jH
      refine' FX.intro ⟨Hp.sd (ltv []) (.int (dueN x) t5) 0 hv3.length (hv3 ++ [.int (dueN x) t5]), hn3 + 1, tv3 ++ [.int (dueN x) tT], tm3 + 1, t6, bn3⟩ (nx7.filter fun p => p.1 ≠ I3) F8 N8 z2 (fun p hp => (List.mem_filter.mp hp).1) (fun p hp => by simpa using (List.mem_filter.mp hp).2) ?hK7 ?hJ7 ?hp7
      case hp7 => walk_at "MY names"
      case hK7 => intro p hp; rw [List.mem_singleton.mp hp]; exact fI _ y10 (hnI hKI3)
      case hJ7 =>
        exact ⟨fI _ y1 iHP, fI _ y2 iTD, fI _ y3 lI, fI _ y4 (hnI j4), fI _ y5 (hnI j5), fI _ y6 (hnI j6), fun p hp => fI _ (y7 p hp) (hnI (j7 p hp)), fI _ y8 (hnI j8), ⟨oc3, fI _ y9 (hnI jc1), jc2⟩,
          by rw [htk3, List.map_append]; exact j10.append (.cons _ _ .nil),
          ⟨hs9, jh9, by rw [htk3, List.map_append]; exact jp9.trans (jp.append_right _)⟩, jH9⟩
    case done3 =>
      rintro ⟨hv4, hn4, tv4, tm4, bt4, bn4⟩ u4 h4 tk4 nx4 ⟨j1, j2, j3, j4, j5, j6, j7, j8, j9, j10, ⟨hs4, jh, jp⟩, jH⟩ F4 N4 hKI4
      dsimp only at *
      have hkl : kvs.length = vals.length := by rw [i3.length, List.length_map]
      rw [hkl, List.take_length] at j10 jp
      clear j3
      obtain ⟨oc4, jc1, jc2⟩ := j9
      have lvd : (vals.map dueN).length ≤ 20 := by rw [List.length_map]; omega
      have ldv : dvs.length ≤ 20 := by rw [i2.length]; exact lvd
      have NL4 : News g _ h4 [(189, tabObj #[rawInt 211, rawInt 4, Value.ref cc]), (cc, oc4), (HP, LO hv4 hn4), (DU, LO dvs nd), (O, LO ovs no), (KI, LO kvs nk), (RD, LO [.ref 49, .ref 56, .ref 63, .ref 70, .ref 84] 0), (TD, LO tv4 tm4)] := News.sub N4 (by
        intro p hp
        simp only [List.mem_cons, List.not_mem_nil, or_false] at hp
        rcases hp with rfl | rfl | rfl | rfl | rfl | rfl | rfl | rfl <;> assumption)
      clear N4 j1 j2 j4 j5 j6 j7 j8 hKI4
      have mDU : (DU, LO dvs nd) ∈ [(189, tabObj #[rawInt 211, rawInt 4, Value.ref cc]), (cc, oc4), (HP, LO hv4 hn4), (DU, LO dvs nd), (O, LO ovs no), (KI, LO kvs nk), (RD, LO [.ref 49, .ref 56, .ref 63, .ref 70, .ref 84] 0), (TD, LO tv4 tm4)] := .tail _ (.tail _ (.tail _ (.head _)))
      k_steps
      unfold Stop
      refine ne_same NL4 (.tail _ (.tail _ (.tail _ (.tail _ (.tail _ (.tail _ (.tail _ (.head _)))))))) mDU j10 i2 rfl (by omega) ?_
      try dsimp only
      k_steps
      unfold Stop
      refine len_N (D := DU) (its := dvs) (n := nd) ‹_› mDU (by omega) ?_
      k_steps
      unfold Stop
      refine nsmallest_call (D := DU) (vs := dvs) (n := nd) C' (by omega) (by omega) ‹_› ‹_› mDU i2 (by omega) ?_
      intro D5 vs5 ns5 n5 h5 tk5 F5 v5 p5 o5 N5 e5
      try dsimp only
      k_steps
      unfold Stop
      refine srt_N (l := DU) (vs := dvs) (n := nd) ‹_› ‹_› (.tail _ mDU) i2 (by omega) ?_
      intro D6 vs6 ns6 n6 h6 F6 N6 e6 v6 p6 o6
      try dsimp only
      k_steps
      unfold Stop
      have q56 : ns5 = ns6 := lks_uniq (p5.trans p6.symm) (ordered_asc o5) o6
      refine ne_same N6 (.tail _ (.head _)) (.head _) v5 v6 q56 (by omega) ?_
      try dsimp only
      have N7 := News.sub N6 fun p hp => .tail _ (.tail _ hp)
      clear N6 N5
      k_steps
      unfold Stop
      refine nlargest_call (D := DU) (vs := dvs) (n := nd) C' (by omega) (by omega) ‹_› ‹_› mDU i2 (by omega) ?_
      intro D7 vs7 ns7 n7 h7 tk7 F7 v7 p7 N8 e7
      try dsimp only
      k_steps
      unfold Stop
      refine srt_N (l := DU) (vs := dvs) (n := nd) ‹_› ‹_› (.tail _ mDU) i2 (by omega) ?_
      intro D8 vs8 ns8 n8 h8 F8 N9 e8 v8 p8 o8
      try dsimp only
      k_steps
      unfold Stop
      have l8 : vs8.length ≤ 20 := by rw [v8.length, p8.length_eq]; exact lvd
      refine kba_turn (value' := PySem.Expr.Name (PySem.Str.ofString "_") ⟨0, 0, 0, 0⟩) (fun _ => rfl) ?_
      refine slice_N (D := D8) (vs := vs8) (n := n8) (zs := vs8.reverse) ‹_› ‹_› (.head _) .none .none (.int _ _) (by simp) (by rw [sizeLine_eq]; omega) pick_rev ?_
      intro D9 h9 F9 N10 e9
      try dsimp only
      k_steps
      unfold Stop
      refine kba_turn (value' := PySem.Expr.Name (PySem.Str.ofString "_") ⟨0, 0, 0, 0⟩) (fun _ => rfl) ?_
      refine slice_N (D := D9) (vs := vs8.reverse) (n := 0) (zs := vs8.reverse.take 3) ‹_› ‹_› (.head _) .none (.int _ _) .none (by simp) (by rw [sizeLine_eq, List.length_reverse]; omega) (pick_upto 3) ?_
      intro D10 h10 F10 N11 e10
      try dsimp only
      k_steps
      unfold Stop
      refine ne_same N11 (.tail _ (.tail _ (.tail _ (.head _)))) (.head _) v7 ((ints_reverse v8).take 3) (p7 _ p8 o8) (by omega) ?_
      try dsimp only
      have N12 := News.sub N11 fun p hp => .tail _ (.tail _ (.tail _ (.tail _ hp)))
      clear N11 N10 N9 N8
      k_steps
      rename_i tk9 DW h11 l11 h12 F11 N11
      clear e5 e6 e7 e8 e9 e10 p5 v5 o5 p6 v6 o6 q56 p7 v7 p8 v8 o8 l8
      have RSne : ∀ p ∈ [(189, tabObj #[rawInt 211, rawInt 4, Value.ref cc]), (cc, oc4), (DU, LO dvs nd), (O, LO ovs no), (KI, LO kvs nk), (RD, LO [.ref 49, .ref 56, .ref 63, .ref 70, .ref 84] 0)], p.1 ≠ HP ∧ p.1 ≠ DW := by
        intro p hp
        have k1 : ∀ {a : Addr} {o : Obj}, (a, o) ∈ ns1 → a < DW → a ≠ HP ∧ a ≠ DW := fun h1 h2 => ⟨Nat.ne_of_lt (hp1 _ h1), Nat.ne_of_lt h2⟩
        obtain ⟨oc, hc1, _⟩ := hcc
        simp only [List.mem_cons, List.not_mem_nil, or_false] at hp
        rcases hp with rfl | rfl | rfl | rfl | rfl | rfl
        · exact k1 htab l11.1
        · exact ⟨Nat.ne_of_lt (hp1 (cc, oc) hc1), Nat.ne_of_lt l11.2.1⟩
        · exact k1 b2 l11.2.2.2.1
        · exact k1 b1 l11.2.2.2.2.1
        · exact k1 b3 l11.2.2.2.2.2.1
        · exact k1 b4 l11.2.2.2.2.2.2.1
      have RSin : ∀ p ∈ [(189, tabObj #[rawInt 211, rawInt 4, Value.ref cc]), (cc, oc4), (DU, LO dvs nd), (O, LO ovs no), (KI, LO kvs nk), (RD, LO [.ref 49, .ref 56, .ref 63, .ref 70, .ref 84] 0)], p ∈ [(DW, LO [] 0), (189, tabObj #[rawInt 211, rawInt 4, Value.ref cc]), (cc, oc4), (HP, LO hv4 hn4), (DU, LO dvs nd), (O, LO ovs no), (KI, LO kvs nk), (RD, LO [.ref 49, .ref 56, .ref 63, .ref 70, .ref 84] 0), (TD, LO tv4 tm4)] := by
        intro p hp
        simp only [List.mem_cons, List.not_mem_nil, or_false] at hp ⊢
        rcases hp with rfl | rfl | rfl | rfl | rfl | rfl <;> simp
      have hHD : HP ≠ DW := Nat.ne_of_lt l11.2.2.1
      generalize hRS : [(189, tabObj #[rawInt 211, rawInt 4, Value.ref cc]), (cc, oc4), (DU, LO dvs nd), (O, LO ovs no), (KI, LO kvs nk), (RD, LO [.ref 49, .ref 56, .ref 63, .ref 70, .ref 84] 0)] = RS at RSne RSin
      unfold Stop
      refine' while_N (σ := S5) (fun c => [("octets", .ref O), ("due", .ref DU), ("kinds", .ref KI), ("readers", .ref RD), ("heap", .ref HP), ("down", .ref DW)]) (S5J (vals.map dueN) HP DW RS) (fun c nx => S5J (vals.map dueN) HP DW RS c nx ∧ c.hv = []) (fun c => c.hv.length)
        ⟨hv4, hn4, [], 0⟩ F11 (show News g _ _ [(DW, LO [] 0), (189, tabObj #[rawInt 211, rawInt 4, Value.ref cc]), (cc, oc4), (HP, LO hv4 hn4), (DU, LO dvs nd), (O, LO ovs no), (KI, LO kvs nk), (RD, LO [.ref 49, .ref 56, .ref 63, .ref 70, .ref 84] 0), (TD, LO tv4 tm4)] from N11) ?hJ5 ?hk5 ?turn5 ?done5 ?hE5
      case hJ5 => exact ⟨.tail _ (.tail _ (.tail _ (.head _))), .head _, RSin, down_start jh jp jH⟩
      case hk5 => walk_at "MY names"
      case hE5 => passes_own
      case turn5 =>
        rintro ⟨hv5, hn5, dv5, dn5⟩ u5 h5 tk5 nx5 ⟨a1, a2, a3, aD⟩ F12 N12
        dsimp only at *
        k_steps
        rename_i EL hE FE NE lE
        have NS : News g _ hE nx5 := News.sub NE fun p hp => .tail _ hp
        unfold Stop
        by_cases hv0 : hv5 = []
        · subst hv0
          refine ne_same (n := hn5) NE (.tail _ a1) (.head _) .nil .nil rfl (by omega) ?_
          try dsimp only
          k_steps
          refine WX.intro ⟨[], hn5, dv5, dn5⟩ FE NS ⟨⟨a1, a2, a3, aD⟩, rfl⟩ ?_
          walk_at "MY names"
        · obtain ⟨r5, x5, hs5, rfl, i5, n5⟩ := down_ne aD hv0
          refine ne_other (n := hn5) NE (.tail _ a1) (.head _) i5 .nil n5 (by omega) ?_
          try dsimp only
          clear NE
          have dl := down_len aD
          rw [List.length_append, List.length_singleton] at dl
          k_steps
          unfold Stop
          refine heappop_call (D := HP) (r := r5) (x := x5) (n := hn5) (lt := ltv []) (facts := []) C' (by omega) (by omega) ‹_› NS a1 (by omega) (ints_lts i5) (fun p hp => nomatch hp) ?_
          intro h6 tk6 hn6 F6 N6
          try dsimp only
          obtain ⟨kP, tP, eP, aD6, lP⟩ := down_step aD
          rw [eP]
          obtain ⟨nx6, hnx6⟩ := ledger_name N6
          rw [← hnx6] at N6
          have c1 : (HP, LO (hpop (ltv []) x5 r5).2 hn6) ∈ nx6 := hnx6 ▸ mem_setL_self a1
          have c2 : (DW, LO dv5 dn5) ∈ nx6 := hnx6 ▸ mem_setL_ne a2 (Ne.symm hHD)
          have c3 : ∀ p ∈ RS, p ∈ nx6 := fun p hp => hnx6 ▸ mem_setL_ne (a3 p hp) (RSne p hp).1
          clear hnx6
          k_steps
          unfold Stop
          refine append_N (D := DW) (its := dv5) (n := dn5) ‹_› N6 c2 (by rw [sizeLine_eq]; omega) ?_
          intro h7 F7 N7
          obtain ⟨nx7, hnx7⟩ := ledger_name N7
          rw [← hnx7] at N7
          have z1 : (HP, LO (hpop (ltv []) x5 r5).2 hn6) ∈ nx7 := hnx7 ▸ mem_setL_ne c1 hHD
          obtain ⟨tD, z2, aD7⟩ : ∃ tD, (DW, LO (dv5 ++ [.int kP tD]) (dn5 + 1)) ∈ nx7 ∧ Down (vals.map dueN) (hpop (ltv []) x5 r5).2 (dv5 ++ [.int kP tD]) := ⟨_, hnx7 ▸ mem_setL_self c2, aD6⟩
          have z3 : ∀ p ∈ RS, p ∈ nx7 := fun p hp => hnx7 ▸ mem_setL_ne (c3 p hp) (RSne p hp).2
          clear hnx7
          k_steps
          refine WX.intro ⟨(hpop (ltv []) x5 r5).2, hn6, dv5 ++ [.int kP tD], dn5 + 1⟩ ‹Fr g _ _ _› N7 ⟨⟨z1, z2, z3, aD7⟩, ?_⟩ ?_
          · show (hpop (ltv []) x5 r5).2.length < (r5 ++ [x5]).length
            rw [lP, List.length_append, List.length_singleton]; omega
          · walk_at "MY names"
      case done5 =>
        rintro ⟨hv5, hn5, dv5, dn5⟩ u5 h5 tk5 nx5 ⟨⟨a1, a2, a3, aD⟩, e0⟩ F12 N12
        dsimp only at *
        subst e0
        obtain ⟨ds, i6, p6, o6⟩ := down_end aD
        subst hRS
        have NL6 : News g _ _ [(DW, LO dv5 dn5), (189, tabObj #[rawInt 211, rawInt 4, Value.ref cc]), (cc, oc4), (DU, LO dvs nd), (O, LO ovs no), (KI, LO kvs nk), (RD, LO [.ref 49, .ref 56, .ref 63, .ref 70, .ref 84] 0)] := News.sub N12 (by
          intro p hp
          rcases List.mem_cons.mp hp with rfl | hp
          · exact a2
          · exact a3 p hp)
        clear N12 a1 a2 a3
        have mDU6 : (DU, LO dvs nd) ∈ [(DW, LO dv5 dn5), (189, tabObj #[rawInt 211, rawInt 4, Value.ref cc]), (cc, oc4), (DU, LO dvs nd), (O, LO ovs no), (KI, LO kvs nk), (RD, LO [.ref 49, .ref 56, .ref 63, .ref 70, .ref 84] 0)] := .tail _ (.tail _ (.tail _ (.head _)))
        k_steps
        unfold Stop
        refine srt_N (l := DU) (vs := dvs) (n := nd) ‹_› ‹_› mDU6 i2 (by omega) ?_
        intro D6 vs6 ns6 n6 h6 F6 N6 e6 v6 p6' o6'
        try dsimp only
        k_steps
        unfold Stop
        refine ne_same (n := dn5) (k := n6) N6 (.tail _ (.head _)) (.head _) i6 v6 (lks_uniq (p6.trans p6'.symm) o6 o6') (by omega) ?_
        try dsimp only
        have N7 := News.sub N6 fun p hp => .tail _ (.tail _ hp)
        clear N6 mDU6 e6 v6 p6' o6' p6 o6 i6 aD
        k_steps
        unfold Stop
        refine slice_N (D := DU) (vs := dvs) (n := nd) (zs := dvs.take 4) ‹_› ‹_› (.tail _ (.tail _ (.head _))) .none (.int _ _) .none (by simp) (by rw [sizeLine_eq]; omega) (pick_upto 4) ?_
        intro KP h7 F7 N8 e7
        try dsimp only
        k_steps
        unfold Stop
        refine heapify_call (D := KP) (its := dvs.take 4) (n := 0) (lt := ltv []) (facts := []) C' (by omega) (by omega) ‹_› ‹_› (.head _) (by rw [List.length_take]; omega) (ints_lts (i2.take 4)) (fun p hp => nomatch hp) ?_
        intro h8 tk8 F8 N9
        try dsimp only
        have RSk : ∀ p ∈ [(189, tabObj #[rawInt 211, rawInt 4, Value.ref cc]), (cc, oc4), (DU, LO dvs nd), (O, LO ovs no), (KI, LO kvs nk), (RD, LO [.ref 49, .ref 56, .ref 63, .ref 70, .ref 84] 0)], p.1 ≠ KP := e7
        obtain ⟨nx8, hnx8⟩ := ledger_name N9
        rw [← hnx8] at N9
        have c1 : (KP, LO (hfy (ltv []) ((dvs.take 4).length / 2) (dvs.take 4)) 0) ∈ nx8 := hnx8 ▸ mem_setL_self (.head _)
        have c3 : ∀ p ∈ [(189, tabObj #[rawInt 211, rawInt 4, Value.ref cc]), (cc, oc4), (DU, LO dvs nd), (O, LO ovs no), (KI, LO kvs nk), (RD, LO [.ref 49, .ref 56, .ref 63, .ref 70, .ref 84] 0)], p ∈ nx8 := fun p hp => hnx8 ▸ mem_setL_ne (.tail _ hp) (e7 p hp)
        have c2 : (DU, LO dvs nd) ∈ nx8 := c3 _ (.tail _ (.tail _ (.head _)))
        clear hnx8 e7
        generalize hRS : [(189, tabObj #[rawInt 211, rawInt 4, Value.ref cc]), (cc, oc4), (DU, LO dvs nd), (O, LO ovs no), (KI, LO kvs nk), (RD, LO [.ref 49, .ref 56, .ref 63, .ref 70, .ref 84] 0)] = RS at RSk c3
        have K0 := kept_start i2
        k_steps
        unfold Stop
        refine For_invV g (by rfl) (by rfl) ?_
        k_steps
        unfold Stop
        refine slice_N (D := DU) (vs := dvs) (n := nd) (zs := dvs.drop 4) ‹_› ‹_› c2 (.int _ _) .none .none (by simp) (by rw [sizeLine_eq]; omega) (pick_from 4) ?_
        intro S2 h9 F9 N10 e9
        try dsimp only
        have sKP : S2 ≠ KP := Ne.symm (e9 _ c1)
        refine' loop_list (σ := S6) (l := S2) (vs := dvs.drop 4) (nn := 0) (fun c => [("octets", .ref O), ("due", .ref DU), ("kinds", .ref KI), ("readers", .ref RD), ("kept", .ref KP)])
          (S6J (vals.map dueN) KP RS) ⟨hfy (ltv []) ((dvs.take 4).length / 2) (dvs.take 4), 0⟩ (by rfl) F9 N10 (.head _) ?hJ6 ?hk6 ?turn6 ?done6
        case hk6 => walk_at "MY names"
        case hJ6 => exact ⟨.tail _ c1, fun p hp => .tail _ (c3 p hp), K0⟩
        case turn6 =>
          rintro i v ⟨kv, kn⟩ u6 I6 oI6 h10 tk10 nx10 hv6 ⟨a1, a3, aK⟩ hIn6 hS6 F11 N11
          dsimp only at *
          obtain ⟨x, tx, rfl, hx⟩ := int_at (i2.drop 4) hv6
          rw [List.getElem?_drop] at hx
          obtain ⟨m6, t6, r6, rfl, r6l⟩ := kept_cons aK (by
            rcases Nat.lt_or_ge 0 (vals.map dueN).length with q | q
            · exact q
            · rw [List.getElem?_eq_none (by omega)] at hx; cases hx)
          k_steps
          unfold Stop
          refine item_N ‹_› (.tail _ a1) 0 (by rfl) (by decide) (by rfl) ?_
          try dsimp only
          obtain ⟨ki6, ki6h, _⟩ := kept_ints aK
          have KI6 : KP ≠ I6 := hIn6 _ a1
          have SI6 : S2 ≠ I6 := hIn6 _ hS6
          obtain ⟨ki7, ki7h⟩ : ∃ ns, IntsAre (.int x tx :: r6) ns := by cases ki6h with | cons _ _ hr => exact ⟨_, .cons x tx hr⟩
          k_steps
          · rename_i hlt6
            unfold Stop
            refine heapreplace_call (D := KP) (x := .int m6 t6) (r := r6) (n := kn) (v := .int x tx) (lt := ltv []) (facts := []) C' (by omega) (by omega) ‹_› ‹_› (.tail _ a1) (by omega) (ints_lts ki7h) (fun p hp => nomatch hp) ?_
            intro h11 tk11 F12 N12
            try dsimp only
            obtain ⟨nx11, hnx11⟩ := ledger_name N12
            rw [← hnx11] at N12
            have z0 : (I6, oI6) ∈ nx11 := hnx11 ▸ mem_setL_ne (.head _) (Ne.symm KI6)
            have z1 : (KP, LO (Hp.su (ltv []) (.int x tx) 0 0 (.int x tx :: r6)) kn) ∈ nx11 := hnx11 ▸ mem_setL_self (.tail _ a1)
            have z3 : ∀ p ∈ RS, p ∈ nx11 := fun p hp => hnx11 ▸ mem_setL_ne (.tail _ (a3 p hp)) (RSk p hp)
            have z4 : (S2, LO (dvs.drop 4) 0) ∈ nx11 := hnx11 ▸ mem_setL_ne (.tail _ hS6) sKP
            clear hnx11
            k_steps
            have fI : ∀ p ∈ nx11, p.1 ≠ I6 → p ∈ nx11.filter (fun p => p.1 ≠ I6) := fun p hp h => List.mem_filter.mpr ⟨hp, by simpa using h⟩
            have F8 := ‹Fr g _ _ _›
            refine' FX.intro ⟨Hp.su (ltv []) (.int x tx) 0 0 (.int x tx :: r6), kn⟩ (nx11.filter fun p => p.1 ≠ I6) F8 N12 z0 (fun p hp => (List.mem_filter.mp hp).1) (fun p hp => by simpa using (List.mem_filter.mp hp).2) ?hK7 ?hJ7 ?hp7
            case hp7 => walk_at "MY names"
            case hK7 => intro p hp; rw [List.mem_singleton.mp hp]; exact fI _ z4 SI6
            case hJ7 => exact ⟨fI _ z1 KI6, fun p hp => fI _ (z3 p hp) (hIn6 _ (a3 p hp)), kept_lt aK hx hlt6⟩
          · rename_i hlt6
            have F8 := ‹Fr g _ _ _›
            refine' FX.intro ⟨.int m6 t6 :: r6, kn⟩ nx10 F8 N11 (.head _) (fun p hp => .tail _ hp) hIn6 ?hK7 ?hJ7 ?hp7
            case hp7 => walk_at "MY names"
            case hK7 => intro p hp; rw [List.mem_singleton.mp hp]; exact hS6
            case hJ7 => exact ⟨a1, a3, kept_ge aK hx hlt6⟩
        case done6 =>
          rintro ⟨kv, kn⟩ u6 h10 tk10 nx10 ⟨a1, a3, aK⟩ F11 N11 hS6
          dsimp only at *
          obtain ⟨kz, kzi, kzl⟩ := kept_ints aK
          have dl4 : (vals.map dueN).length ≤ 4 + (dvs.drop 4).length := by rw [List.length_drop, i2.length]; omega
          subst hRS
          have NL7 : News g _ _ [(KP, LO kv kn), (189, tabObj #[rawInt 211, rawInt 4, Value.ref cc]), (cc, oc4), (DU, LO dvs nd), (O, LO ovs no), (KI, LO kvs nk), (RD, LO [.ref 49, .ref 56, .ref 63, .ref 70, .ref 84] 0)] := News.sub N11 (by
            intro p hp
            rcases List.mem_cons.mp hp with rfl | hp
            · exact a1
            · exact a3 p hp)
          clear N11 a1 a3 hS6
          have mDU7 : (DU, LO dvs nd) ∈ [(KP, LO kv kn), (189, tabObj #[rawInt 211, rawInt 4, Value.ref cc]), (cc, oc4), (DU, LO dvs nd), (O, LO ovs no), (KI, LO kvs nk), (RD, LO [.ref 49, .ref 56, .ref 63, .ref 70, .ref 84] 0)] := .tail _ (.tail _ (.tail _ (.head _)))
          k_steps
          unfold Stop
          refine srt_N (l := KP) (vs := kv) (n := kn) ‹_› ‹_› (.head _) kzi (by omega) ?_
          intro D7 vs7 ns7 n7 h7 F7 N7 e7 v7 p7 o7
          try dsimp only
          k_steps
          unfold Stop
          refine srt_N (l := DU) (vs := dvs) (n := nd) ‹_› ‹_› (.tail _ mDU7) i2 (by omega) ?_
          intro D8 vs8 ns8 n8 h8 F8 N8 e8 v8 p8 o8
          try dsimp only
          k_steps
          unfold Stop
          have l8 : vs8.length ≤ 20 := by rw [v8.length, p8.length_eq]; exact lvd
          refine kba_turn (value' := PySem.Expr.Name (PySem.Str.ofString "_") ⟨0, 0, 0, 0⟩) (fun _ => rfl) ?_
          refine slice_N (D := D8) (vs := vs8) (n := n8) (zs := vs8.drop (vs8.length - 4)) ‹_› ‹_› (.head _) (.int _ _) .none .none (by simp) (by rw [sizeLine_eq]; omega) (pick_last 4 (by decide)) ?_
          intro D9 h9 F9 N9 e9
          try dsimp only
          k_steps
          unfold Stop
          refine ne_same (n := n7) (k := 0) N9 (.tail _ (.tail _ (.head _))) (.head _) v7 (v8.drop (vs8.length - 4)) (by rw [v8.length]; exact kept_end aK dl4 kzi p8 o8 p7 o7) (by omega) ?_
          try dsimp only
          have NA := News.sub N9 fun p hp => .tail _ (.tail _ (.tail _ (.tail _ hp)))
          clear N9 N8 N7 NL7 mDU7 e7 e8 e9 v7 v8 p7 p8 o7 o8 l8 kzi kzl aK
          k_steps
          rename_i EL hE FE NE lE
          unfold Stop
          by_cases hv0 : vals = []
          · refine ne_same (n := no) (k := 0) NE (.tail _ (.tail _ (.tail _ (.tail _ (.head _))))) (.head _) i1 .nil (flat_nil.mpr hv0) (by omega) ?_
            try dsimp only
            k_steps
            refine goodW_bool (hgg ▸ FE) (by assumption) (raisesW_false ?_) ?_
            · wrow_none_raised
            · kc_post
          · refine ne_other (n := no) (k := 0) NE (.tail _ (.tail _ (.tail _ (.tail _ (.head _))))) (.head _) i1 .nil (fun e => hv0 (flat_nil.mp e)) (by omega) ?_
            try dsimp only
            have NB := News.sub NE fun p hp => .tail _ hp
            clear NE
            have vpos : 0 < vals.length := by
              cases vals with
              | nil => exact absurd rfl hv0
              | cons _ _ => exact Nat.succ_pos _
            k_steps
            unfold Stop
            have lov : ovs.length = (vals.flatMap octN).length := i1.length
            refine slice_N (D := O) (vs := ovs) (n := no) (zs := ovs.take (ovs.length - 1)) ‹_› NB (.tail _ (.tail _ (.tail _ (.head _)))) .none (.int _ _) .none (by simp) (by rw [sizeLine_eq]; omega) (pick_but 1 (by decide)) ?_
            intro CU hC FC NC eC
            try dsimp only
            have iC : IntsAre (ovs.take (ovs.length - 1)) (vals.flatMap octN).dropLast := by
              rw [List.dropLast_eq_take, ← lov]
              exact i1.take (ovs.length - 1)
            have lC : (vals.flatMap octN).dropLast.length ≤ 180 := by rw [List.length_dropLast]; omega
            have rC : ∀ n ∈ (vals.flatMap octN).dropLast, 0 ≤ n ∧ n < 256 := fun n hn => flat_range vals n (List.dropLast_sublist _ |>.subset hn)
            generalize hcut : (vals.flatMap octN).dropLast = cut at iC lC rC
            have bnd2 : (byteArr cut).size ≤ 180 := by rw [byteArr_size]; exact lC
            k_steps
            unfold Stop
            refine KBa.make_K (D := CU) (vs := ovs.take (ovs.length - 1)) (ns := cut) ‹_› NC (by rfl) (PySem.IsL.isList (n := 0) (NC _ (.head _)).1) iC rC (by omega) ?_
            intro hD2 tD2 kD2 FD ND _
            try dsimp only
            have NQ := News.sub (news' := [(189, tabObj #[rawInt 211, rawInt 4, Value.ref cc]), (cc, oc4), (cc, oc4), (DU, LO dvs nd), (KI, LO kvs nk), (RD, LO [.ref 49, .ref 56, .ref 63, .ref 70, .ref 84] 0)]) ND (by
              intro p hp
              simp only [List.mem_cons, List.not_mem_nil, or_false] at hp ⊢
              rcases hp with rfl | rfl | rfl | rfl | rfl | rfl <;> simp)
            clear NC ND eC
            k_steps
            unfold Stop
            refine stream_call2 (b := byteArr cut) C' (by omega) (by omega) FD NQ jc2 ?_
            intro SX fr2 lL2 SF2 h20 tk20 ns2 spec2 hSF2 hkeep2 htab2 hlL2 hltL2 hlt1892 Fs2 Ns2
            try dsimp only
            have b0 : (cc, oc4) ∈ ns2 := hkeep2 _ (.head _)
            have b2 : (DU, LO dvs nd) ∈ ns2 := hkeep2 _ (.tail _ (.head _))
            have b3 : (KI, LO kvs nk) ∈ ns2 := hkeep2 _ (.tail _ (.tail _ (.head _)))
            have b4 : (RD, LO [.ref 49, .ref 56, .ref 63, .ref 70, .ref 84] 0) ∈ ns2 := hkeep2 _ (.tail _ (.tail _ (.tail _ (.head _))))
            have n0 : cc ≠ lL2 := Nat.ne_of_lt (hltL2 _ (.head _))
            have n2 : DU ≠ lL2 := Nat.ne_of_lt (hltL2 _ (.tail _ (.head _)))
            have n3 : KI ≠ lL2 := Nat.ne_of_lt (hltL2 _ (.tail _ (.tail _ (.head _))))
            have n4 : RD ≠ lL2 := Nat.ne_of_lt (hltL2 _ (.tail _ (.tail _ (.tail _ (.head _)))))
            clear NQ hkeep2 hltL2
            k_steps
            rename_i TD2 e1 hp1b TP4 e2 hp2b e3 e4 e5 F21 N21
            have hTl : TD2 ≠ lL2 := Nat.ne_of_gt (hp1b _ hlL2)
            have ltT : ∀ p ∈ ns2, p.1 ≠ TD2 := fun p hp => Nat.ne_of_lt (hp1b p hp)
            unfold Stop
            refine For_invV g (by rfl) (by rfl) ?_
            k_steps
            unfold Stop
            refine' loop_list (σ := S9) (l := KI) (vs := kvs) (nn := nk) (fun c => [("readers", .ref RD), ("due", .ref DU), ("stream", .ref SX), ("told", .ref TD2)])
              (S9J vals lL2 TD2 DU RD cc oc4 SF2 dvs nd) ⟨[], 0, tD2, 0⟩ (by rfl) F21 N21 (.tail _ (.tail _ b3)) ?hJ9 ?hk9 ?turn9 ?done9
            case hk9 => walk_at "MY names"
            case hJ9 => exact ⟨vpos, .tail _ (.head _), .tail _ (.tail _ (hcut ▸ hlL2)), .tail _ (.tail _ b4), .tail _ (.tail _ b2), fun p hp => .tail _ (.tail _ (hSF2 p hp)), .tail _ (.tail _ htab2), .tail _ (.tail _ b0), .nil⟩
            case done9 =>
              rintro ⟨tv9, tm9, bt9, bn9⟩ u9 h21 tk21 nx9 ⟨j0, _⟩ F22 N22 hKI9
              exfalso
              rw [i3.length, List.length_map] at j0
              exact absurd j0 (Nat.lt_irrefl _)
            case turn9 =>
              rintro i v ⟨tv9, tm9, bt9, bn9⟩ u9 I9 oI9 h21 tk21 nx9 hv9 ⟨j0, j2, j3, j6, j5, j7, j8, j9, j10⟩ hIn9 hKI9 F22 N22
              dsimp only at *
              obtain ⟨kx, tx, rfl, hkx⟩ := int_at i3 hv9
              obtain ⟨x, hx, rfl⟩ : ∃ x, vals[i]? = some x ∧ kx = (kindN x : Int) := by
                rw [List.getElem?_map] at hkx
                cases e : vals[i]? with
                | none => rw [e] at hkx; cases hkx
                | some x => rw [e] at hkx; exact ⟨x, rfl, (Option.some.inj hkx).symm⟩
              have mT9 : (TD2, LO tv9 tm9) ∈ (I9, oI9) :: nx9 := .tail _ j2
              k_steps
              unfold Stop
              have hrd9 : ([.ref 49, .ref 56, .ref 63, .ref 70, .ref 84] : List Value)[kindN x]? = some (.ref (rdAddr (kindN x))) := by
                match kindN x, kind_lt x with
                | 0, _ | 1, _ | 2, _ | 3, _ | 4, _ => rfl
              refine item_N ‹_› (.tail _ j6) (kindN x) rfl (by have := kind_lt x; omega) hrd9 ?_
              have hfn9 := reader_fn XX F22.keep (kindN x) (kind_lt x)
              refine callWith_F hfn9 ?_
              k_steps
              · exact hfn9
              unfold Stop
              have hdrop9 : vals.drop i = x :: vals.drop (i + 1) := by
                rw [List.drop_eq_getElem_cons j0]
                rw [List.getElem?_eq_getElem j0] at hx
                rw [Option.some.inj hx]
              have hrl9 : ((vals.drop (i + 1)).flatMap octN).dropLast.length ≤ 1000 := by
                have := flat_len (vals.drop (i + 1))
                rw [List.length_drop] at this
                rw [List.length_dropLast]; omega
              have lTD9 : TD2 ≠ lL2 := hTl
              by_cases hlast : i + 1 < vals.length
              · have hne9 : vals.drop (i + 1) ≠ [] := fun e => by have := congrArg List.length e; rw [List.length_drop, List.length_nil] at this; omega
                rw [hdrop9, flat_cut hne9] at j3
                refine reader_call (x := x) (rest := ((vals.drop (i + 1)).flatMap octN).dropLast) C' (by omega) (by omega) ‹_› N22 spec2 (fun p hp => .tail _ (j7 p hp)) (.tail _ j3) hrl9 ?_
                intro h5 tk5 t5 t6 F5 N5
                try dsimp only
                obtain ⟨nx5, hnx5⟩ := ledger_name N5
                rw [← hnx5] at N5
                have w0 : (I9, oI9) ∈ nx5 := hnx5 ▸ mem_setL_ne (.head _) (Ne.symm (hIn9 _ j3))
                have w2 : (TD2, LO tv9 tm9) ∈ nx5 := hnx5 ▸ mem_setL_ne (.tail _ j2) hTl
                have w3 : (lL2, LO [.bytes (byteArr ((vals.drop (i + 1)).flatMap octN).dropLast) t6] bn9) ∈ nx5 := hnx5 ▸ mem_setL_self (.tail _ j3)
                have w5 : (DU, LO dvs nd) ∈ nx5 := hnx5 ▸ mem_setL_ne (.tail _ j5) n2
                have w6 : (RD, LO [.ref 49, .ref 56, .ref 63, .ref 70, .ref 84] 0) ∈ nx5 := hnx5 ▸ mem_setL_ne (.tail _ j6) n4
                have w7 : ∀ p ∈ SF2, p ∈ nx5 := fun p hp => hnx5 ▸ mem_setL_ne (.tail _ (j7 p hp)) (spec2.off p hp)
                have w8 : (189, tabObj #[rawInt 211, rawInt 4, Value.ref cc]) ∈ nx5 := hnx5 ▸ mem_setL_ne (.tail _ j8) (Nat.ne_of_lt hlt1892)
                have w9 : (cc, oc4) ∈ nx5 := hnx5 ▸ mem_setL_ne (.tail _ j9) n0
                have w10 : (KI, LO kvs nk) ∈ nx5 := hnx5 ▸ mem_setL_ne (.tail _ hKI9) n3
                clear hnx5
                k_steps
                unfold Stop
                refine append_N (D := TD2) (its := tv9) (n := tm9) ‹_› (show News g _ _ nx5 from ‹_›) w2 (by rw [sizeLine_eq, j10.length, List.length_map, List.length_take]; omega) ?_
                intro h7 F7 N7
                obtain ⟨nx7, hnx7⟩ := ledger_name N7
                rw [← hnx7] at N7
                have eT : ∀ {a : Addr} {o : Obj}, (a, o) ∈ ns2 → (a, o) ∈ nx5 → (a, o) ∈ nx7 := fun h1 h2 => hnx7 ▸ mem_setL_ne h2 (ltT _ h1)
                have y0 : (I9, oI9) ∈ nx7 := hnx7 ▸ mem_setL_ne w0 (Ne.symm (hIn9 _ j2))
                obtain ⟨tT, y2⟩ : ∃ tT, (TD2, LO (tv9 ++ [.int (dueN x) tT]) (tm9 + 1)) ∈ nx7 := ⟨_, hnx7 ▸ mem_setL_self w2⟩
                have y3 : (lL2, LO [.bytes (byteArr ((vals.drop (i + 1)).flatMap octN).dropLast) t6] bn9) ∈ nx7 := hnx7 ▸ mem_setL_ne w3 (Ne.symm hTl)
                have y5 := eT b2 w5
                have y6 := eT b4 w6
                have y7 : ∀ p ∈ SF2, p ∈ nx7 := fun p hp => eT (hSF2 p hp) (w7 p hp)
                have y8 := eT htab2 w8
                have y9 := eT b0 w9
                have y10 := eT b3 w10
                clear hnx7 eT
                k_steps
                have fI : ∀ p ∈ nx7, p.1 ≠ I9 → p ∈ nx7.filter (fun p => p.1 ≠ I9) := fun p hp h => List.mem_filter.mpr ⟨hp, by simpa using h⟩
                have hnI : ∀ {a : Addr} {o : Obj}, (a, o) ∈ nx9 → a ≠ I9 := fun h => hIn9 _ h
                have htk9 : vals.take (i + 1) = vals.take i ++ [x] := by rw [List.take_add_one, hx]; rfl
                refine' FX.intro ⟨tv9 ++ [.int (dueN x) tT], tm9 + 1, t6, bn9⟩ (nx7.filter fun p => p.1 ≠ I9) ‹Fr g _ _ _› N7 y0 (fun p hp => (List.mem_filter.mp hp).1) (fun p hp => by simpa using (List.mem_filter.mp hp).2) ?hK9 ?hJ9 ?hp9
                case hp9 => walk_at "MY names"
                case hK9 => intro p hp; rw [List.mem_singleton.mp hp]; exact fI _ y10 (hnI hKI9)
                case hJ9 =>
                  exact ⟨hlast, fI _ y2 (hnI j2), fI _ y3 (hnI j3), fI _ y6 (hnI j6), fI _ y5 (hnI j5), fun p hp => fI _ (y7 p hp) (hnI (j7 p hp)), fI _ y8 (hnI j8), fI _ y9 (hnI j9), by rw [htk9, List.map_append]; exact j10.append (.cons _ _ .nil)⟩
              · have hend9 : vals.drop (i + 1) = [] := List.drop_eq_nil_of_le (by omega)
                rw [hdrop9, hend9, flat_one] at j3
                refine' reader_fail (x := x) ?CA (by omega) (by omega) ‹_› N22 spec2 (fun p hp => .tail _ (j7 p hp)) (.tail _ j3) ?_
                case CA => exact ⟨⟨_, KK⟩, XX, TT, rfl, rfl, rfl, rfl⟩
                intro e9 tk9 h9 g9 nw9 F23 U23 keep9 R23
                try dsimp only
                have R24 := raised_sub (news' := [(189, tabObj #[rawInt 211, rawInt 4, Value.ref cc]), (cc, oc4), (DU, LO dvs nd), (TD2, LO tv9 tm9)]) R23 (by
                  intro q hq
                  simp only [List.mem_cons, List.not_mem_nil, or_false] at hq
                  rcases hq with rfl | rfl | rfl | rfl
                  · exact keep9 _ (.tail _ j8) (Nat.ne_of_lt hlt1892)
                  · exact keep9 _ (.tail _ j9) n0
                  · exact keep9 _ (.tail _ j5) n2
                  · exact keep9 _ (.tail _ j2) hTl)
                refine caught_N0 (T' := "ValueError") KK F23 U23 R24 (by k_asm) PyProof.Rows.Boot.«ValueError» PySem.F.isExc_ValueError PySem.F.notTuple_ValueError (by rw [isSubtype_type]; kernel_rfl) ?_
                clear R23 R24 keep9 U23
                intro h10 F24 N24
                k_steps
                unfold Stop
                refine slice_N (D := DU) (vs := dvs) (n := nd) (zs := dvs.take (dvs.length - 1)) ‹_› N24 (.tail _ (.tail _ (.head _))) .none (.int _ _) .none (by simp) (by rw [sizeLine_eq]; omega) (pick_but 1 (by decide)) ?_
                intro DZ h11 F25 N25 e25
                try dsimp only
                have ilast : i = dvs.length - 1 := by rw [i2.length, List.length_map]; omega
                k_steps
                unfold Stop
                refine eq_same (n := tm9) (k := 0) N25 (.tail _ (.tail _ (.tail _ (.tail _ (.head _))))) (.head _) j10 (i2.take (dvs.length - 1)) (by rw [List.map_take, ilast]) (Nat.lt_of_le_of_lt (Nat.add_le_add_left (by decide) _) hun) ?_
                try dsimp only
                have N26 := News.sub N25 fun p hp => .tail _ hp
                clear N25 e25
                k_steps
                refine goodW_bool (hgg ▸ F25) (by assumption) (raisesW_false ?_) ?_
                · wrow_none_raised
                · kc_post)
end Mine

theorem PySem.Challenge.cw_kl0171_01_holds : PySem.Challenge.rw_kl0171_01.Holds :=
  Mine.whole
