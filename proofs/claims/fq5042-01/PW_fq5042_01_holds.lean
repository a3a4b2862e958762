import PyProof.Rows.All
import Wide.All
import OpenK.AllK
import Wide.FinOn
import PySem.Challenge.RW_fq5042_01
set_option Elab.async false
section
open PySem PySem.W PyProof.Rows
set_option Elab.async false
namespace Mine
set_option maxRecDepth 100000 in
set_option maxHeartbeats 8000000 in
open_top hd for PySem.Challenge.rw_fq5042_01
theorem topOff : True := by w_top off; trivial
end Mine
end
section
open PySem PySem.W PyProof.Rows PySem.Spec PySem.Calls
set_option Elab.async false
namespace Mine
abbrev Led := List (Addr × Obj)
/-- a list of ints, by place -/
def RowObj (cols : Nat) (f : Nat → Int) (o : Obj) : Prop :=
  o.cls = .type "list" ∧ ∃ (items : Array Value) (n : Nat), o.data = .seq items n ∧ items.size = cols ∧ ∀ j, j < cols → ∃ t, items[j]? = some (.int (f j) t)
/-- a list of references -/
def TopObj (rs : List Addr) (o : Obj) : Prop :=
  o.cls = .type "list" ∧ ∃ n : Nat, o.data = .seq (rs.map Value.ref).toArray n
/-- the table: a list of rows in the ledger; the rest of the ledger lies apart from the rows -/
structure Tab (D : Addr) (rs : List Addr) (cols : Nat) (T : Nat → Nat → Int) (rest news : Led) : Prop where
  top : ∃ o, (D, o) ∈ news ∧ TopObj rs o
  row : ∀ i r, rs[i]? = some r → ∃ o, (r, o) ∈ news ∧ RowObj cols (T i) o
  nodup : rs.Nodup
  topOff : D ∉ rs
  has : ∀ p ∈ rest, p ∈ news
  hasOff : ∀ p ∈ rest, p.1 ∉ rs

theorem Tab.of_eq {D : Addr} {rs : List Addr} {cols : Nat} {T T' : Nat → Nat → Int} {rest news : Led} (h : Tab D rs cols T rest news)
    (e : ∀ i j, i < rs.length → j < cols → T i j = T' i j) : Tab D rs cols T' rest news where
  top := h.top
  row := fun i r hr => by
    obtain ⟨o, hm, hc, items, n, hd, hs, hj⟩ := h.row i r hr
    have hi : i < rs.length := (List.getElem?_eq_some_iff.mp hr).1
    exact ⟨o, hm, hc, items, n, hd, hs, fun j q => e i j hi q ▸ hj j q⟩
  nodup := h.nodup
  topOff := h.topOff
  has := h.has
  hasOff := h.hasOff

section
variable {prog : Program} {w : World} {A : Around} {E : Value → Shared → Prop} {s : Shared} {h₀ : Heap} {L : Addr} {m : Str → Option Value} {news : Led}

/-- lengths[k] : the row -/
theorem tab_row {D : Addr} {rs : List Addr} {cols : Nat} {T : Nat → Nat → Int} {rest own : Led} {value slice : PySem.Expr} {k : Int} {u : Tok} {Q : Value → Shared → Prop}
    (N : News h₀ L s.heap (own ++ news)) (hT : Tab D rs cols T rest news) (h0 : 0 ≤ k) (h1 : k < rs.length) (hfit : k < 2 ^ 63)
    (h : ∀ r, rs[k.toNat]? = some r → Q (.ref r) s)
    (hs : subscripted slice false (.ref D) (.int k u) = operate [.ref D, .int k u] (getItem (.ref D) (.int k u)) := by with_unfolding_all rfl) :
    wpAny (model prog w) A (subscriptTail value slice (.ref D) (.int k u)) Q E s := by
  obtain ⟨o, hm, hc, n, hd⟩ := hT.top
  have hl : s.heap.IsList D (rs.map Value.ref).toArray := ⟨o, (N _ (List.mem_append_right _ hm)).1, hc, n, hd⟩
  have hk : k.toNat < rs.length := by omega
  refine tail_any hl.typeIs PySem.F.slot_list_getitem.lookup (wpAny_getItem_list hl h0 hfit (x := .ref rs[k.toNat]) (by simp [hk]) ?_) hs
  exact h _ (List.getElem?_eq_getElem hk)

/-- the row's item -/
theorem tab_item {D : Addr} {rs : List Addr} {cols : Nat} {T : Nat → Nat → Int} {rest own : Led} {value slice : PySem.Expr} {r : Addr} {i : Nat} {k : Int} {u : Tok} {Q : Value → Shared → Prop}
    (N : News h₀ L s.heap (own ++ news)) (hT : Tab D rs cols T rest news) (hr : rs[i]? = some r) (h0 : 0 ≤ k) (h1 : k < cols) (hfit : k < 2 ^ 63)
    (h : ∀ t, Q (.int (T i k.toNat) t) s)
    (hs : subscripted slice false (.ref r) (.int k u) = operate [.ref r, .int k u] (getItem (.ref r) (.int k u)) := by with_unfolding_all rfl) :
    wpAny (model prog w) A (subscriptTail value slice (.ref r) (.int k u)) Q E s := by
  obtain ⟨o, hm, hc, items, n, hd, hsz, hj⟩ := hT.row i r hr
  have hl : s.heap.IsList r items := ⟨o, (N _ (List.mem_append_right _ hm)).1, hc, n, hd⟩
  obtain ⟨t, ht⟩ := hj k.toNat (by omega)
  exact tail_any hl.typeIs PySem.F.slot_list_getitem.lookup (wpAny_getItem_list hl h0 hfit ht (h t)) hs

def setT (T : Nat → Nat → Int) (i j : Nat) (v : Int) : Nat → Nat → Int := fun a b => if a = i ∧ b = j then v else T a b

/-- lengths[..][k] = v -/
theorem tab_store {D : Addr} {rs : List Addr} {cols : Nat} {T : Nat → Nat → Int} {rest own : Led} {r : Addr} {i : Nat} {k x : Int} {u t : Tok} {Q : Unit → Shared → Prop}
    (F : Fr h₀ L s.heap m) (N : News h₀ L s.heap (own ++ news)) (hown : ∀ p ∈ own, ∀ q ∈ news, p.1 ≠ q.1) (hT : Tab D rs cols T rest news) (hr : rs[i]? = some r) (h0 : 0 ≤ k) (h1 : k < cols) (hfit : k < 2 ^ 63)
    (h : ∀ h' news', Fr h₀ L h' m → News h₀ L h' (own ++ news') → Tab D rs cols (setT T i k.toNat x) rest news' → news'.map (·.1) = news.map (·.1) → Q () { s with heap := h' }) :
    wpAny (model prog w) A (setItem (.ref r) (.int k t) (.int x u)) Q E s := by
  obtain ⟨o, hm, hc, items, n, hd, hsz, hj⟩ := hT.row i r hr
  have z := N _ (List.mem_append_right own hm)
  have hl : s.heap.IsList r items := ⟨o, z.1, hc, n, hd⟩
  refine wpAny_setItem_list hl h0 hfit (by omega) fun h' hl' hs' => ?_
  obtain ⟨o', ho', hc', n', hd'⟩ := hl'
  let f : Addr × Obj → Addr × Obj := fun p => if p.1 = r then (r, o') else p
  have hf : ∀ p, (f p).1 = p.1 := fun p => by
    show (if p.1 = r then (r, o') else p).1 = p.1
    split
    · next q => exact q.symm
    · rfl
  have hmem : ∀ p ∈ news, p.1 ≠ r → p ∈ news.map f := fun p hp hn => List.mem_map.mpr ⟨p, hp, by show (if p.1 = r then (r, o') else p) = p; rw [if_neg hn]⟩
  have hmr : (r, o') ∈ news.map f := List.mem_map.mpr ⟨_, hm, by show (if r = r then (r, o') else _) = _; rw [if_pos rfl]⟩
  have hrs : r ∈ rs := List.mem_of_getElem? hr
  refine h h' (news.map f) (F.change hs' z.2.1 z.2.2) (fun p hp => ?_) ?_ ?_
  · rcases List.mem_append.mp hp with hp | hp
    · have y := N p (List.mem_append_left _ hp)
      exact ⟨hs'.extBut _ _ (hown p hp _ hm) y.1, y.2⟩
    · obtain ⟨q, hq, rfl⟩ := List.mem_map.mp hp
      have y := N q (List.mem_append_right _ hq)
      by_cases e : q.1 = r
      · have : f q = (r, o') := by show (if q.1 = r then (r, o') else q) = _; rw [if_pos e]
        rw [this]
        exact ⟨ho', z.2⟩
      · have : f q = q := by show (if q.1 = r then (r, o') else q) = _; rw [if_neg e]
        rw [this]
        exact ⟨hs'.extBut _ _ e y.1, y.2⟩
  · refine ⟨?_, ?_, hT.nodup, hT.topOff, fun p hp => hmem p (hT.has p hp) fun e => hT.hasOff p hp (e ▸ hrs), hT.hasOff⟩
    · obtain ⟨oD, hD, hTop⟩ := hT.top
      exact ⟨oD, hmem _ hD (fun e => hT.topOff (by rw [show D = r from e]; exact hrs)), hTop⟩
    · intro i' r' hr'
      by_cases e : r' = r
      · subst e
        have ei : i' = i := by
          have h1 := (List.getElem?_eq_some_iff.mp hr).1
          exact ((List.getElem?_inj h1 hT.nodup).mp (hr.trans hr'.symm)).symm
        subst ei
        refine ⟨o', hmr, hc', _, n', hd', by simp [hsz], fun j hj' => ?_⟩
        by_cases ej : j = k.toNat
        · subst ej
          refine ⟨u, ?_⟩
          have : k.toNat < items.size := by omega
          simp [setT, this]
        · obtain ⟨t', ht'⟩ := hj j hj'
          refine ⟨t', ?_⟩
          have e1 : setT T i' k.toNat x i' j = T i' j := by simp [setT, ej]
          rw [e1, Array.getElem?_setIfInBounds_ne (fun q => ej q.symm)]
          exact ht'
      · obtain ⟨o₁, hm₁, hR⟩ := hT.row i' r' hr'
        refine ⟨o₁, hmem _ hm₁ e, ?_⟩
        have ei : i' ≠ i := fun q => by subst q; rw [hr] at hr'; exact e (Option.some.inj hr').symm
        have : setT T i k.toNat x i' = T i' := by funext b; simp [setT, ei]
        rw [this]; exact hR
  · rw [List.map_map]
    exact List.map_congr_left fun p _ => hf p
end
/-- a row made by one turn of the comprehension -/
def KRow (c : Addr × Obj) (tail : Led) (cols : Nat) (f : Nat → Int) (y : Value) (news' : Led) : Prop :=
  ∃ r o, y = .ref r ∧ news' = c :: ((r, o) :: tail) ∧ (∀ p ∈ c :: tail, @LT.lt Nat _ p.1 r) ∧ RowObj cols f o
def Falls : List Addr → Prop
  | [] => True
  | a :: r => (∀ b ∈ r, @LT.lt Nat _ b a) ∧ Falls r
theorem Falls.nodup : ∀ {l : List Addr}, Falls l → l.Nodup
  | [], _ => .nil
  | a :: _, h => List.nodup_cons.mpr ⟨fun q => Nat.lt_irrefl a (h.1 a q), Falls.nodup h.2⟩
section
variable {prog : Program} {w : World} {A : Around} {h₀ : Heap} {L : Addr} {m : Str → Option Value} {env : Env} {elt : Expr} {x : Str} {scope : Scope} {cl : List (Str × Addr)} {s : Shared} {S : Led → Prop} {P : Nat → Value → Prop} {Fin : List Value → Led → Prop} {c : Addr × Obj} {news : Led}
theorem rows_rest {n : Nat} (cols : Nat) (f : Nat → Int)
    (turn : ∀ v I oI C oC D m₂ ys h tk (E' : Value → Shared → Prop) (rl : Led), LCg.NsObj oC m₂ → m₂ x = some v → Fr h₀ L h m → News h₀ L h ((I, oI) :: (C, oC) :: (D, LCg.lst ys) :: c :: (rl ++ news)) → LCg.Off3 I C D (c :: (rl ++ news)) → ((@Ne Nat I C) ∧ (@Ne Nat I D) ∧ (@Ne Nat C D)) →
      wpAny (model prog w) A (eval elt (compEnvC scope cl C env)) (LCg.CompEnd h₀ L m { s with heap := h, toks := tk } I oI C oC D (LCg.lst ys) S (KRow c (rl ++ news) cols f)) E' { s with heap := h, toks := tk })
    (fin : ∀ rl : Led, rl.length = n → (∀ p ∈ rl, RowObj cols f p.2) → Falls (rl.map (·.1)) → (∀ p ∈ rl, ∀ q ∈ c :: news, @LT.lt Nat _ q.1 p.1) → Fin (((rl.map (·.1)).reverse).map Value.ref) (c :: (rl ++ news))) :
    LCg.CompRest prog w A h₀ L m env elt x scope cl s S P Fin n 0 [] (c :: news) := by
  have key : ∀ (j i : Nat) (rl : Led), i + j = n → rl.length = i → (∀ p ∈ rl, RowObj cols f p.2) → Falls (rl.map (·.1)) → (∀ p ∈ rl, ∀ q ∈ c :: news, @LT.lt Nat _ q.1 p.1) →
      LCg.CompRest prog w A h₀ L m env elt x scope cl s S P Fin j i (((rl.map (·.1)).reverse).map Value.ref) (c :: (rl ++ news)) := by
    intro j
    induction j with
    | zero =>
      intro i rl hi hl hr hf ho
      exact LCg.CompRest.zero (fin rl (by omega) hr hf ho)
    | succ j ih =>
      intro i rl hi hl hr hf ho
      refine LCg.CompRest.succ ?_
      intro v I oI C oC D m₂ h tk E' hv hC hx F N off ne
      refine wpAny_mono (turn v I oI C oC D m₂ _ h tk E' rl hC hx F N off ne) (fun y s₂ hq => ?_) fun _ _ e => e
      obtain ⟨h', tk', nw, e, F', N', off', hS, r, o, hy, hn, hlt, hro⟩ := hq
      subst hn
      refine ⟨h', tk', _, e, F', N', off', hS, ?_⟩
      have := ih (i + 1) ((r, o) :: rl) (by omega) (by simp [hl]) (by
          intro p hp
          rcases List.mem_cons.mp hp with rfl | hp
          · exact hro
          · exact hr p hp) ⟨fun b hb => by
            obtain ⟨q, hq, rfl⟩ := List.mem_map.mp hb
            exact hlt q (List.mem_cons_of_mem _ (List.mem_append_left _ hq)), hf⟩ (by
          intro p hp q hq
          rcases List.mem_cons.mp hp with rfl | hp
          · rcases List.mem_cons.mp hq with rfl | hq
            · exact hlt _ List.mem_cons_self
            · exact hlt q (List.mem_cons_of_mem _ (List.mem_append_right _ hq))
          · exact ho p hp q hq)
      rw [hy]
      simpa using this
  exact key n 0 [] (by omega) rfl (by simp) trivial (by simp)
end
theorem allLt_mem {d : Addr} {l : List (Addr × Obj)} (h : AllLt d l) : ∀ p ∈ l, @LT.lt Nat _ p.1 d := by
  induction l with
  | nil => exact fun p hp => nomatch hp
  | cons a r ih =>
    unfold AllLt at h
    intro p hp
    rcases List.mem_cons.mp hp with e | hp
    · rw [e]; exact h.1
    · exact ih h.2 p hp
theorem off1_mem {d : Addr} {l : List (Addr × Obj)} (h : LCg.Off1 d l) : ∀ p ∈ l, @Ne Nat p.1 d := by
  induction l with
  | nil => exact fun p hp => nomatch hp
  | cons a r ih =>
    unfold LCg.Off1 at h
    intro p hp
    rcases List.mem_cons.mp hp with e | hp
    · rw [e]; exact h.1
    · exact ih h.2 p hp
/-- the table behind the comprehension -/
theorem tab_made {D : Addr} {cols n : Nat} {f : Nat → Int} {c : Addr × Obj} {rl news : Led} (hl : rl.length = n) (hr : ∀ p ∈ rl, RowObj cols f p.2) (hf : Falls (rl.map (·.1))) (ho : ∀ p ∈ rl, ∀ q ∈ c :: news, @LT.lt Nat _ q.1 p.1) (o1 : LCg.Off1 D (c :: (rl ++ news))) :
    Tab D ((rl.map (·.1)).reverse) cols (fun _ => f) (c :: news) ((D, LCg.lst (((rl.map (·.1)).reverse).map Value.ref)) :: c :: (rl ++ news)) where
  top := ⟨_, List.mem_cons_self, rfl, _, rfl⟩
  row := fun i r hi => by
    have h1 : r ∈ rl.map (·.1) := List.mem_reverse.mp (List.mem_of_getElem? hi)
    obtain ⟨p, hp, rfl⟩ := List.mem_map.mp h1
    exact ⟨p.2, List.mem_cons_of_mem _ (List.mem_cons_of_mem _ (List.mem_append_left _ hp)), hr p hp⟩
  nodup := List.pairwise_reverse.mpr (hf.nodup.imp fun h => Ne.symm h)
  topOff := fun h => by
    obtain ⟨p, hp, e⟩ := List.mem_map.mp (List.mem_reverse.mp h)
    exact off1_mem o1 p (List.mem_cons_of_mem _ (List.mem_append_left _ hp)) e
  has := fun p hp => by
    rcases List.mem_cons.mp hp with rfl | hp
    · exact List.mem_cons_of_mem _ List.mem_cons_self
    · exact List.mem_cons_of_mem _ (List.mem_cons_of_mem _ (List.mem_append_right _ hp))
  hasOff := fun p hp h => by
    obtain ⟨q, hq, e⟩ := List.mem_map.mp (List.mem_reverse.mp h)
    have := ho q hq p hp
    have e' : q.1 = p.1 := e
    rw [e'] at this
    exact Nat.lt_irrefl _ this
/-- the row that `[0] * k` makes -/
theorem row_zeros {k : Nat} {e : Int} {tk : Tok} {n : Nat} (h : e.toNat = k) : RowObj k (fun _ => 0) (listOf (List.replicate e.toNat [Value.int 0 tk]).flatten.toArray n) := by
  subst h
  refine ⟨rfl, _, _, rfl, ?_, ?_⟩
  · simp
  · intro j hj
    refine ⟨tk, ?_⟩
    have e1 : (List.replicate e.toNat [Value.int 0 tk]).flatten = List.replicate e.toNat (Value.int 0 tk) := by
      generalize e.toNat = q
      induction q with
      | zero => rfl
      | succ q ih => rw [List.replicate_succ, List.flatten_cons, ih, List.replicate_succ]; rfl
    rw [e1]
    simp [hj]
end Mine
end
section
open PySem PyProof.Rows
namespace Mine
section
variable {α : Type} [DecidableEq α]
/-- the length of the longest common subsequence of two prefixes, as the table holds it -/
def lcs (xs ys : List α) : Nat → Nat → Nat
  | 0, _ => 0
  | _ + 1, 0 => 0
  | i + 1, j + 1 => if xs[i]? = ys[j]? then lcs xs ys i j + 1 else max (lcs xs ys (i + 1) j) (lcs xs ys i (j + 1))
termination_by i j => i + j
theorem lcs_zero_left (xs ys : List α) (j : Nat) : lcs xs ys 0 j = 0 := by unfold lcs; rfl
theorem lcs_zero_right (xs ys : List α) (i : Nat) : lcs xs ys i 0 = 0 := by cases i <;> (unfold lcs; rfl)
theorem lcs_succ (xs ys : List α) (i j : Nat) : lcs xs ys (i + 1) (j + 1) = if xs[i]? = ys[j]? then lcs xs ys i j + 1 else max (lcs xs ys (i + 1) j) (lcs xs ys i (j + 1)) := by
  rw [lcs]
/-- the walk back through the table -/
def back (xs ys : List α) : Nat → Nat → List α → List α
  | 0, _, acc => acc
  | _ + 1, 0, acc => acc
  | i + 1, j + 1, acc =>
    if lcs xs ys (i + 1) (j + 1) = lcs xs ys i (j + 1) then back xs ys i (j + 1) acc
    else if lcs xs ys (i + 1) (j + 1) = lcs xs ys (i + 1) j then back xs ys (i + 1) j acc
    else back xs ys i j ((xs[i]?).toList ++ acc)
termination_by i j => i + j
theorem back_zero_left (xs ys acc : List α) (j : Nat) : back xs ys 0 j acc = acc := by unfold back; rfl
theorem back_zero_right (xs ys acc : List α) (i : Nat) : back xs ys i 0 acc = acc := by cases i <;> (unfold back; rfl)
theorem back_up {xs ys acc : List α} {i j : Nat} (h : lcs xs ys (i + 1) (j + 1) = lcs xs ys i (j + 1)) : back xs ys (i + 1) (j + 1) acc = back xs ys i (j + 1) acc := by
  rw [back, if_pos h]
theorem back_left {xs ys acc : List α} {i j : Nat} (h : lcs xs ys (i + 1) (j + 1) ≠ lcs xs ys i (j + 1)) (h' : lcs xs ys (i + 1) (j + 1) = lcs xs ys (i + 1) j) : back xs ys (i + 1) (j + 1) acc = back xs ys (i + 1) j acc := by
  rw [back, if_neg h, if_pos h']
theorem back_both {xs ys acc : List α} {i j : Nat} {c : α} (h : lcs xs ys (i + 1) (j + 1) ≠ lcs xs ys i (j + 1)) (h' : lcs xs ys (i + 1) (j + 1) ≠ lcs xs ys (i + 1) j) (hc : xs[i]? = some c) :
    back xs ys (i + 1) (j + 1) acc = back xs ys i j (c :: acc) := by
  rw [back, if_neg h, if_neg h', hc]; rfl
theorem lcs_meet {xs ys : List α} {i j : Nat} (h : lcs xs ys (i + 1) (j + 1) ≠ lcs xs ys i (j + 1)) (h' : lcs xs ys (i + 1) (j + 1) ≠ lcs xs ys (i + 1) j) : xs[i]? = ys[j]? := by
  by_cases e : xs[i]? = ys[j]?
  · exact e
  · rw [lcs_succ, if_neg e] at h h'
    omega
theorem lcs_le_left (xs ys : List α) : ∀ n i j, i + j = n → lcs xs ys i j ≤ i := by
  intro n
  induction n using Nat.strongRecOn with
  | _ n ih =>
    intro i j hn
    match i, j with
    | 0, j => rw [lcs_zero_left]; omega
    | i + 1, 0 => rw [lcs_zero_right]; omega
    | i + 1, j + 1 =>
      rw [lcs_succ]
      have h1 := ih (i + j) (by omega) i j rfl
      have h2 := ih (i + 1 + j) (by omega) (i + 1) j rfl
      have h3 := ih (i + (j + 1)) (by omega) i (j + 1) rfl
      split <;> omega

/-- the table when the rows up to i stand and the next one up to j -/
def tabAt (xs ys : List α) (i j : Nat) : Nat → Nat → Int := fun a b => if a ≤ i ∨ (a = i + 1 ∧ b ≤ j) then (lcs xs ys a b : Int) else 0
theorem tabAt_here {xs ys : List α} {i j a b : Nat} (h : a ≤ i ∨ (a = i + 1 ∧ b ≤ j)) : tabAt xs ys i j a b = (lcs xs ys a b : Int) := if_pos h
theorem tabAt_start (xs ys : List α) (a b : Nat) : (0 : Int) = tabAt xs ys 0 0 a b := by
  unfold tabAt
  split
  · next h =>
    rcases h with h | ⟨_, h⟩
    · have : a = 0 := by omega
      subst this; rw [lcs_zero_left]; rfl
    · have : b = 0 := by omega
      subst this; rw [lcs_zero_right]; rfl
  · rfl
theorem tabAt_next {xs ys : List α} {n i a b : Nat} (hb : b ≤ n) : tabAt xs ys i n a b = tabAt xs ys (i + 1) 0 a b := by
  unfold tabAt
  by_cases h : a ≤ i ∨ (a = i + 1 ∧ b ≤ n)
  · rw [if_pos h, if_pos (by omega)]
  · rw [if_neg h]
    split
    · next q =>
      have : b = 0 := by omega
      subst this; rw [lcs_zero_right]; rfl
    · rfl
end
section
variable {α : Type} [DecidableEq α]
/-- the edit distance of two prefixes, as the rows hold it -/
def lev (xs ys : List α) : Nat → Nat → Nat
  | 0, j => j
  | i + 1, 0 => i + 1
  | i + 1, j + 1 => min (min (lev xs ys i j + if xs[i]? = ys[j]? then 0 else 1) (lev xs ys i (j + 1) + 1)) (lev xs ys (i + 1) j + 1)
termination_by i j => i + j
theorem lev_zero_left (xs ys : List α) (j : Nat) : lev xs ys 0 j = j := by unfold lev; rfl
theorem lev_zero_right (xs ys : List α) (i : Nat) : lev xs ys i 0 = i := by cases i <;> (unfold lev; rfl)
theorem lev_succ (xs ys : List α) (i j : Nat) : lev xs ys (i + 1) (j + 1) = min (min (lev xs ys i j + if xs[i]? = ys[j]? then 0 else 1) (lev xs ys i (j + 1) + 1)) (lev xs ys (i + 1) j + 1) := by
  rw [lev]
end
end Mine
end
section
open PySem PySem.W PyProof.Rows PySem.Spec PySem.Calls
set_option Elab.async false
namespace Mine
/-- two frames' maps agree off these names -/
def Same (ns : List Str) (m m' : Str → Option Value) : Prop := ∀ z, z ∉ ns → m' z = m z
theorem Same.refl (ns : List Str) (m : Str → Option Value) : Same ns m m := fun _ _ => rfl
theorem Same.trans {ns : List Str} {m m' m'' : Str → Option Value} (a : Same ns m m') (b : Same ns m' m'') : Same ns m m'' := fun z h => (b z h).trans (a z h)
theorem Same.mono {ns ns' : List Str} {m m' : Str → Option Value} (a : Same ns m m') (h : ∀ x ∈ ns, x ∈ ns') : Same ns' m m' := fun z hz => a z fun q => hz (h z q)
theorem Same.put {ns : List Str} {m m' : Str → Option Value} {x : Str} {v : Option Value} (a : Same ns m m') (h : x ∈ ns) : Same ns m (fun y => if y = x then v else m' y) := fun z hz => by
  have hne : z ≠ x := fun e => hz (by rw [e]; exact h)
  show (if z = x then v else m' z) = m z
  rw [if_neg hne]
  exact a z hz
theorem Same.ex2 {a b : Str} {m m' : Str → Option Value} (h : Same [a, b] m m') : ∃ u v, m' = fun y => if y = a then u else if y = b then v else m y := by
  refine ⟨m' a, m' b, funext fun y => ?_⟩
  by_cases h1 : y = a
  · subst h1; simp
  · by_cases h2 : y = b
    · subst h2; simp [h1]
    · simp only [if_neg h1, if_neg h2]; exact h y (by simp [h1, h2])
theorem Same.ex3 {a b c : Str} {m m' : Str → Option Value} (h : Same [a, b, c] m m') : ∃ u v w, m' = fun y => if y = a then u else if y = b then v else if y = c then w else m y := by
  refine ⟨m' a, m' b, m' c, funext fun y => ?_⟩
  by_cases h1 : y = a
  · subst h1; simp
  · by_cases h2 : y = b
    · subst h2; simp [h1]
    · by_cases h3 : y = c
      · subst h3; simp [h1, h2]
      · simp only [if_neg h1, if_neg h2, if_neg h3]; exact h y (by simp [h1, h2, h3])
theorem Same.ex4 {a b c d : Str} {m m' : Str → Option Value} (h : Same [a, b, c, d] m m') : ∃ u v w x, m' = fun y => if y = a then u else if y = b then v else if y = c then w else if y = d then x else m y := by
  refine ⟨m' a, m' b, m' c, m' d, funext fun y => ?_⟩
  by_cases h1 : y = a
  · subst h1; simp
  · by_cases h2 : y = b
    · subst h2; simp [h1]
    · by_cases h3 : y = c
      · subst h3; simp [h1, h2]
      · by_cases h4 : y = d
        · subst h4; simp [h1, h2, h3]
        · simp only [if_neg h1, if_neg h2, if_neg h3, if_neg h4]; exact h y (by simp [h1, h2, h3, h4])

section
variable {prog : Program} {w : World} {A : Around} {E : Value → Shared → Prop} {s : Shared} {env : Env} {h₀ : Heap} {L : Addr} {m : Str → Option Value} {news : Led}
/-- for i, c in enumerate(x), by what holds of the frame's map and of the ledger -/
theorem pair_loop {α : Type} {K : ItemKind α} {as : List α} {xv : Value} {xi xc : Str} {body : List Stmt} {Q : Flow → Shared → Prop} (P : PairSrcL prog w A E h₀ L K as xv s m news) (J : (Str → Option Value) → Nat → (Str → Option Value) → Led → Prop)
    (hL : env.locals = L) (h0 : J m 0 m news)
    (step : ∀ (i : Nat) a t v m₁ news₁ h tk own, as[i]? = some a → K.is a v → J m i m₁ news₁ → news₁.map (·.1) = news.map (·.1) → (∀ p ∈ own, ∀ q ∈ news, p.1 ≠ q.1) →
      Fr h₀ L h (fun y => if y = xc then some v else if y = xi then some (.int i t) else m₁ y) → News h₀ L h (own ++ news₁) →
      wpAny (model prog w) A (execs body env) (LoopStep3 h₀ env.locals own news₁ (J m (i + 1)) { s with heap := h, toks := tk } (fun v s' => Q (.ret v) s') fun s' => Q .next s') E { s with heap := h, toks := tk })
    (done : ∀ h' tk m' news', Fr h₀ L h' m' → News h₀ L h' news' → J m as.length m' news' → Q .next { s with heap := h', toks := tk }) :
    wpAny (model prog w) A (pyIter xv) (fun it s₂ => PairAt3 prog w A h₀ env xi xc body Q E it s₂) E s := by
  subst hL
  refine P.at env rfl xi xc body Q (J m) h0 (fun i a t v m₁ news₁ s₁ own hs ha hv hJ hm hown F N => ?_) fun h' tk m' news' F N _ hJ => done h' tk m' news' F N hJ
  obtain ⟨h, tk, rfl⟩ := hs
  exact step i a t v m₁ news₁ h tk own ha hv hJ hm hown F N
/-- a turn's end -/
theorem pair_next {own news₁ : Led} {Jn : (Str → Option Value) → Led → Prop} {s₁ : Shared} {Qr : Value → Shared → Prop} {Qb : Shared → Prop} {h' : Heap} {tk : Nat} {m₂ : Str → Option Value} {news₂ : Led}
    (F : Fr h₀ L h' m₂) (N : News h₀ L h' (own ++ news₂)) (ha : news₂.map (·.1) = news₁.map (·.1)) (hJ : Jn m₂ news₂) : LoopStep3 h₀ L own news₁ Jn s₁ Qr Qb .next { s₁ with heap := h', toks := tk } :=
  ⟨rfl, h', tk, m₂, news₂, rfl, F, N, ha, hJ⟩
end

theorem off_same {own a b : Led} (h : ∀ p ∈ own, ∀ q ∈ a, p.1 ≠ q.1) (e : b.map (·.1) = a.map (·.1)) : ∀ p ∈ own, ∀ q ∈ b, p.1 ≠ q.1 := fun p hp q hq => by
  have : q.1 ∈ a.map (·.1) := e ▸ List.mem_map.mpr ⟨q, hq, rfl⟩
  obtain ⟨r, hr, e'⟩ := List.mem_map.mp this
  exact e' ▸ h p hp r hr

/-- a ledger that has grown an inner loop's own objects, and back -/
theorem tab_own {D : Addr} {rs : List Addr} {cols : Nat} {T : Nat → Nat → Int} {rest news own : Led} (h : Tab D rs cols T rest news) (hown : ∀ p ∈ own, ∀ q ∈ news, p.1 ≠ q.1) : Tab D rs cols T (own ++ rest) (own ++ news) where
  top := let ⟨o, hm, r⟩ := h.top; ⟨o, List.mem_append_right _ hm, r⟩
  row := fun i r hr => let ⟨o, hm, q⟩ := h.row i r hr; ⟨o, List.mem_append_right _ hm, q⟩
  nodup := h.nodup
  topOff := h.topOff
  has := fun p hp => (List.mem_append.mp hp).elim (List.mem_append_left _) fun q => List.mem_append_right _ (h.has p q)
  hasOff := fun p hp hr => by
    rcases List.mem_append.mp hp with q | q
    · obtain ⟨i, hi⟩ := List.getElem?_of_mem hr
      obtain ⟨o, hm, _⟩ := h.row i p.1 hi
      exact hown p q _ hm rfl
    · exact h.hasOff p q hr
theorem tab_split {D : Addr} {rs : List Addr} {cols : Nat} {T T' : Nat → Nat → Int} {rest news own X : Led} (h₁ : Tab D rs cols T' rest news) (hown : ∀ p ∈ own, ∀ q ∈ news, p.1 ≠ q.1) (hX : X.map (·.1) = (own ++ news).map (·.1))
    (h : Tab D rs cols T (own ++ rest) X) : ∃ news₂ : Led, news₂.map (·.1) = news.map (·.1) ∧ Tab D rs cols T rest news₂ ∧ ∀ p ∈ own ++ news₂, p ∈ X := by
  have hl : (X.drop own.length).map (·.1) = news.map (·.1) := by
    rw [List.map_drop, hX, List.map_append, List.drop_left' (by simp)]
  have ht : (X.take own.length).map (·.1) = own.map (·.1) := by
    rw [List.map_take, hX, List.map_append, List.take_left' (by simp)]
  have hX' : X = X.take own.length ++ X.drop own.length := (List.take_append_drop _ _).symm
  have key : ∀ p ∈ X, p.1 ∈ news.map (·.1) → p ∈ X.drop own.length := fun p hp hq => by
    rw [hX'] at hp
    rcases List.mem_append.mp hp with q | q
    · have : p.1 ∈ own.map (·.1) := ht ▸ List.mem_map.mpr ⟨p, q, rfl⟩
      obtain ⟨a, ha, ea⟩ := List.mem_map.mp this
      obtain ⟨b, hb, eb⟩ := List.mem_map.mp hq
      exact absurd (ea.trans eb.symm) (hown a ha b hb)
    · exact q
  refine ⟨X.drop own.length, hl, ⟨?_, ?_, h.nodup, h.topOff, ?_, fun p hp => h.hasOff p (List.mem_append_right _ hp)⟩, ?_⟩
  · obtain ⟨o, hm, r⟩ := h.top
    obtain ⟨o', hm', _⟩ := h₁.top
    exact ⟨o, key _ hm (List.mem_map.mpr ⟨_, hm', rfl⟩), r⟩
  · intro i r hr
    obtain ⟨o, hm, q⟩ := h.row i r hr
    obtain ⟨o', hm', _⟩ := h₁.row i r hr
    exact ⟨o, key _ hm (List.mem_map.mpr ⟨_, hm', rfl⟩), q⟩
  · intro p hp
    exact key p (h.has p (List.mem_append_right _ hp)) (List.mem_map.mpr ⟨p, h₁.has p hp, rfl⟩)
  · intro p hp
    rcases List.mem_append.mp hp with q | q
    · exact h.has p (List.mem_append_left _ q)
    · exact List.mem_of_mem_drop q
section
variable {prog : Program} {w : World} {A : Around} {E : Value → Shared → Prop} {s : Shared} {env : Env} {h₀ : Heap} {L : Addr} {m : Str → Option Value} {news : Led}
theorem pair_loop_tab {α : Type} {K : ItemKind α} {as : List α} {xv : Value} {xi xc : Str} {body : List Stmt} {Q : Flow → Shared → Prop} {D : Addr} {rs : List Addr} {cols : Nat} {rest : Led}
    (ns : List Str) (T : Nat → Nat → Nat → Int) (P : PairSrcL prog w A E h₀ L K as xv s m news) (hL : env.locals = L) (T0 : Tab D rs cols (T 0) rest news)
    (step : ∀ (i : Nat) a t v m₁ news₁ h tk own, as[i]? = some a → K.is a v → Same ns m m₁ → Tab D rs cols (T i) rest news₁ → news₁.map (·.1) = news.map (·.1) → (∀ p ∈ own, ∀ q ∈ news₁, p.1 ≠ q.1) →
      Fr h₀ L h (fun y => if y = xc then some v else if y = xi then some (.int i t) else m₁ y) → News h₀ L h (own ++ news₁) →
      wpAny (model prog w) A (execs body env) (LoopStep3 h₀ env.locals own news₁ (fun m' n' => Same ns m m' ∧ Tab D rs cols (T (i + 1)) rest n') { s with heap := h, toks := tk } (fun v s' => Q (.ret v) s') fun s' => Q .next s') E { s with heap := h, toks := tk })
    (done : ∀ h' tk m' news', Fr h₀ L h' m' → News h₀ L h' news' → Same ns m m' → Tab D rs cols (T as.length) rest news' → news'.map (·.1) = news.map (·.1) → Q .next { s with heap := h', toks := tk }) :
    wpAny (model prog w) A (pyIter xv) (fun it s₂ => PairAt3 prog w A h₀ env xi xc body Q E it s₂) E s := by
  refine pair_loop P (fun m i m' n' => (Same ns m m' ∧ Tab D rs cols (T i) rest n') ∧ n'.map (·.1) = news.map (·.1)) hL ⟨⟨Same.refl _ _, T0⟩, rfl⟩ (fun i a t v m₁ news₁ h tk own ha hv hJ hm hown F N => ?_) (fun h' tk m' news' F N hJ => done h' tk m' news' F N hJ.1.1 hJ.1.2 hJ.2)
  refine wpAny_mono (step i a t v m₁ news₁ h tk own ha hv hJ.1.1 hJ.1.2 hm (off_same hown hm) F N) (fun f s₂ h₂ => ?_) fun _ _ e => e
  cases f with
  | ret v => exact h₂
  | brk => exact h₂
  | cont =>
    obtain ⟨e, h', tk', m₂, news₂, e', F₂, N₂, ha₂, hJ₂⟩ := h₂
    exact ⟨e, h', tk', m₂, news₂, e', F₂, N₂, ha₂, hJ₂, ha₂.trans hm⟩
  | next =>
    obtain ⟨e, h', tk', m₂, news₂, e', F₂, N₂, ha₂, hJ₂⟩ := h₂
    exact ⟨e, h', tk', m₂, news₂, e', F₂, N₂, ha₂, hJ₂, ha₂.trans hm⟩
end
section
variable {α : Type} [DecidableEq α]
theorem tab_fill {xs ys : List α} {i j : Nat} {v : Int} (hv : v = (lcs xs ys (i + 1) (j + 1) : Int)) : setT (tabAt xs ys i j) ((i : Int) + 1).toNat ((j : Int) + 1).toNat v = tabAt xs ys i (j + 1) := by
  have e1 : ((i : Int) + 1).toNat = i + 1 := by omega
  have e2 : ((j : Int) + 1).toNat = j + 1 := by omega
  rw [e1, e2]
  funext a b
  unfold setT tabAt
  by_cases h : a = i + 1 ∧ b = j + 1
  · rw [if_pos h, if_pos (by omega), hv, h.1, h.2]
  · rw [if_neg h]
    by_cases q : a ≤ i ∨ (a = i + 1 ∧ b ≤ j)
    · rw [if_pos q, if_pos (by omega)]
    · rw [if_neg q, if_neg (by omega)]
theorem tab_eq [BEq α] [LawfulBEq α] {xs ys : List α} {i j : Nat} {a b : α} (ha : xs[i]? = some a) (hb : ys[j]? = some b) (h : (a == b) = true) :
    tabAt xs ys i j (i : Int).toNat (j : Int).toNat + 1 = (lcs xs ys (i + 1) (j + 1) : Int) := by
  have e : xs[i]? = ys[j]? := by rw [ha, hb, eq_of_beq h]
  rw [lcs_succ, if_pos e, Int.toNat_natCast, Int.toNat_natCast, tabAt_here (by omega)]
  omega
theorem tab_ne [BEq α] [LawfulBEq α] {xs ys : List α} {i j : Nat} {a b : α} (ha : xs[i]? = some a) (hb : ys[j]? = some b) (h : (a == b) = false) :
    (if tabAt xs ys i j (i : Int).toNat ((j : Int) + 1).toNat > tabAt xs ys i j ((i : Int) + 1).toNat (j : Int).toNat then tabAt xs ys i j (i : Int).toNat ((j : Int) + 1).toNat else tabAt xs ys i j ((i : Int) + 1).toNat (j : Int).toNat)
      = (lcs xs ys (i + 1) (j + 1) : Int) := by
  have e : ¬ xs[i]? = ys[j]? := by
    rw [ha, hb]
    intro q
    have q' := Option.some.inj q
    subst q'
    simp at h
  have e1 : ((i : Int) + 1).toNat = i + 1 := by omega
  have e2 : ((j : Int) + 1).toNat = j + 1 := by omega
  rw [lcs_succ, if_neg e, Int.toNat_natCast, Int.toNat_natCast, e1, e2, tabAt_here (a := i) (by omega), tabAt_here (a := i + 1) (by omega)]
  split <;> omega
end
theorem Same.at3 {a b c : Str} {m m' : Str → Option Value} {u v w : Option Value} (h : Same [a, b, c] m m') (ha : m' a = u) (hb : m' b = v) (hc : m' c = w) : m' = fun y => if y = a then u else if y = b then v else if y = c then w else m y := by
  funext y
  by_cases h1 : y = a
  · subst h1; simp [ha]
  · by_cases h2 : y = b
    · subst h2; simp [h1, hb]
    · by_cases h3 : y = c
      · subst h3; simp [h1, h2, hc]
      · simp only [if_neg h1, if_neg h2, if_neg h3]; exact h y (by simp [h1, h2, h3])
/-- the way back through the table, between two turns -/
def DynJ (x y : Str) (m₀ : Str → Option Value) (news₀ : Led) (n : Nat) (m₁ : Str → Option Value) (n₁ : Led) : Prop :=
  n₁ = news₀ ∧ ∃ (i j : Nat) (ti tj tr : Tok) (r : Str), n = i + j ∧ i ≤ x.length ∧ j ≤ y.length ∧ r.length + i ≤ x.length ∧ back (signs x) (signs y) i j (signs r) = back (signs x) (signs y) x.length y.length [] ∧
    m₁ (Str.ofString "i") = some (.int i ti) ∧ m₁ (Str.ofString "j") = some (.int j tj) ∧ m₁ (Str.ofString "result") = some (.str r tr) ∧ Same [Str.ofString "i", Str.ofString "j", Str.ofString "result"] m₀ m₁
theorem DynJ.start {x y : Str} {m₀ m₁ : Str → Option Value} {news₀ : Led} {ti tj tr : Tok} (h1 : m₁ (Str.ofString "i") = some (.int (x.length : Nat) ti)) (h2 : m₁ (Str.ofString "j") = some (.int (y.length : Nat) tj))
    (h3 : m₁ (Str.ofString "result") = some (.str (Str.ofString "") tr)) (h : Same [Str.ofString "i", Str.ofString "j", Str.ofString "result"] m₀ m₁) : DynJ x y m₀ news₀ (x.length + y.length) m₁ news₀ :=
  ⟨rfl, x.length, y.length, ti, tj, tr, _, rfl, Nat.le_refl _, Nat.le_refl _, by rw [show (Str.ofString "").length = 0 from by decide +kernel]; omega, by rw [show signs (Str.ofString "") = [] from by decide +kernel], h1, h2, h3, h⟩
def DynStep (h₀ : Heap) (L : Addr) (s : Shared) (x y : Str) (m₀ : Str → Option Value) (news₀ : Led) (n : Nat) (f : Flow) (s₃ : Shared) : Prop := WhileStep h₀ L s (DynJ x y m₀ news₀) n f s₃
theorem dyn_while {prog : Program} {w : World} {A : Around} {E : Value → Shared → Prop} {Q : Flow → Shared → Prop} {s : Shared} {env : Env} {h₀ : Heap} {L : Addr} {test : Expr} {body : List Stmt} {pos : Pos} {m m₀ : Str → Option Value} {news : Led} {x y : Str} {n₀ : Nat}
    (F : Fr h₀ L s.heap m) (N : News h₀ L s.heap news) (hJ : DynJ x y m₀ news n₀ m news)
    (turn : ∀ n m₁ h₁ tk₁, Fr h₀ L h₁ m₁ → News h₀ L h₁ news → DynJ x y m₀ news n m₁ news →
      wpAny (model prog w) A (isTrue test env (eval test env)) (fun b s₂ =>
        if b = true then wpAny (model prog w) A (execs body env) (DynStep h₀ L s x y m₀ news n) E s₂ else Q .next s₂) E { s with heap := h₁, toks := tk₁ })
    (hE : PassesOwn (model prog w) A env E := by passes_own) :
    wpAny (model prog w) A (exec (.While test body [] pos) env) Q E s :=
  While_inv (DynJ x y m₀ news) F N hJ (fun n m₁ news₁ h₁ tk₁ F₁ N₁ J => by
    obtain rfl := J.1
    exact turn n m₁ h₁ tk₁ F₁ N₁ J) hE
theorem DynStep.intro {h₀ h' : Heap} {L : Addr} {s : Shared} {x y : Str} {m₀ m₂ : Str → Option Value} {news₀ news₂ : Led} {n : Nat} {tk i j : Nat} {a b : Int} {ti tj tr : Tok} {r : Str}
    (F : Fr h₀ L h' m₂) (N : News h₀ L h' news₂) (hs : ∀ p ∈ news₀, p ∈ news₂) (h1 : m₂ (Str.ofString "i") = some (.int a ti)) (h2 : m₂ (Str.ofString "j") = some (.int b tj)) (h3 : m₂ (Str.ofString "result") = some (.str r tr))
    (hS : Same [Str.ofString "i", Str.ofString "j", Str.ofString "result"] m₀ m₂) (ha : a = (i : Int)) (hb : b = (j : Int)) (hn : i + j < n) (hi : i ≤ x.length) (hj : j ≤ y.length) (hr : r.length + i ≤ x.length)
    (hk : back (signs x) (signs y) i j (signs r) = back (signs x) (signs y) x.length y.length []) : DynStep h₀ L s x y m₀ news₀ n .next { s with heap := h', toks := tk } := by
  subst ha; subst hb
  exact WhileStep.intro F (fun p hp => N p (hs p hp)) hn ⟨rfl, i, j, ti, tj, tr, r, rfl, hi, hj, hr, hk, h1, h2, h3, hS⟩
theorem mem_tl {h₀ h : Heap} {L : Addr} {a p : Addr × Obj} {news : Led} (_ : News h₀ L h (a :: news)) (hp : p ∈ news) : p ∈ a :: news := List.mem_cons_of_mem _ hp
theorem Same.cons {a : Str} {ns : List Str} {m m' : Str → Option Value} (h : Same (a :: ns) m m') : ∃ u m'', m' = (fun y => if y = a then u else m'' y) ∧ Same ns m m'' := by
  refine ⟨m' a, fun y => if y = a then m a else m' y, funext fun y => ?_, fun z hz => ?_⟩
  · by_cases e : y = a
    · subst e; simp
    · simp [e]
  · by_cases e : z = a
    · subst e; simp
    · simp only [if_neg e]; exact h z (by simp [e, hz])
theorem Same.nil {m m' : Str → Option Value} (h : Same [] m m') : m' = m := funext fun z => h z (by simp)
end Mine
end
section
open PySem PySem.W PyProof.Rows PySem.Spec PySem.Calls
set_option Elab.async false
namespace Mine
theorem item_code {x : Str} {k : Nat} (h : k < x.length) : Txt.item x (k : Int) = ⟨#[x.cps[k]'h]⟩ := by
  have h' : k < x.cps.size := h
  unfold Txt.item Txt.charAt
  have e : seqIndex? (k : Int) x.length = some k := by
    unfold seqIndex?
    have hk : ¬ (k : Int) < 0 := by omega
    have h2 : (k : Int) < (x.length : Int) := by omega
    simp only [if_neg hk]
    simp [h2]
  rw [e]
  simp only [Option.bind_some, Array.getElem?_eq_getElem h', Option.getD_some]
  rfl
theorem item_sign {x : Str} {k : Nat} (h : k < x.length) : (signs x)[k]? = some (Txt.item x (k : Int)) := by
  have h' : k < x.cps.size := h
  rw [item_code h]
  unfold signs
  rw [List.getElem?_map, Array.getElem?_toList, Array.getElem?_eq_getElem h']
  rfl
theorem signs_item {x : Str} {k : Nat} (h : k < x.length) : signs (Txt.item x (k : Int)) = [Txt.item x (k : Int)] := by
  rw [item_code h]; rfl
theorem signs_append (a b : Str) : signs (a ++ b) = signs a ++ signs b := by
  simp [signs, Str.cps_append]
def join (l : List Str) : Str := ⟨(l.flatMap (·.cps.toList)).toArray⟩
theorem join_signs (r : Str) : join (signs r) = r := by
  obtain ⟨a⟩ := r
  obtain ⟨l⟩ := a
  unfold join signs
  congr 1
  simp [List.flatMap_map]
/-- what `_dynamic` hands back -/
def dyn (x y : Str) : Str := join (back (signs x) (signs y) x.length y.length [])

theorem dyn_up {xs ys acc R : List Str} {T : Nat → Nat → Int} (hTe : ∀ a b, T a b = (lcs xs ys a b : Int)) {i j : Nat} (hi : i ≠ 0) (hj : j ≠ 0)
    (h : T (i : Int).toNat (j : Int).toNat = T ((i : Int) - 1).toNat (j : Int).toNat) (hk : back xs ys i j acc = R) : back xs ys (i - 1) j acc = R := by
  obtain ⟨i, rfl⟩ := Nat.exists_eq_succ_of_ne_zero hi
  obtain ⟨j, rfl⟩ := Nat.exists_eq_succ_of_ne_zero hj
  have e := h
  have e1 : (((i + 1 : Nat) : Int) - 1).toNat = i := by omega
  simp only [Nat.succ_eq_add_one] at e hk ⊢
  rw [hTe, hTe, Int.toNat_natCast, Int.toNat_natCast, e1] at e
  rw [← hk, back_up (by omega)]; rfl
theorem dyn_left {xs ys acc R : List Str} {T : Nat → Nat → Int} (hTe : ∀ a b, T a b = (lcs xs ys a b : Int)) {i j : Nat} (hi : i ≠ 0) (hj : j ≠ 0)
    (h : T (i : Int).toNat (j : Int).toNat ≠ T ((i : Int) - 1).toNat (j : Int).toNat) (h' : T (i : Int).toNat (j : Int).toNat = T (i : Int).toNat ((j : Int) - 1).toNat)
    (hk : back xs ys i j acc = R) : back xs ys i (j - 1) acc = R := by
  obtain ⟨i, rfl⟩ := Nat.exists_eq_succ_of_ne_zero hi
  obtain ⟨j, rfl⟩ := Nat.exists_eq_succ_of_ne_zero hj
  have e := h
  have e' := h'
  have e1 : (((i + 1 : Nat) : Int) - 1).toNat = i := by omega
  have e2 : (((j + 1 : Nat) : Int) - 1).toNat = j := by omega
  simp only [Nat.succ_eq_add_one] at e e' hk ⊢
  rw [hTe, hTe, Int.toNat_natCast, Int.toNat_natCast, e1] at e
  rw [hTe, hTe, Int.toNat_natCast, Int.toNat_natCast, e2] at e'
  rw [← hk, back_left (by omega) (by omega)]; rfl
theorem dyn_meet {xs ys : List Str} {T : Nat → Nat → Int} (hTe : ∀ a b, T a b = (lcs xs ys a b : Int)) {i j : Nat} (hi : i ≠ 0) (hj : j ≠ 0)
    (h : T (i : Int).toNat (j : Int).toNat ≠ T ((i : Int) - 1).toNat (j : Int).toNat) (h' : T (i : Int).toNat (j : Int).toNat ≠ T (i : Int).toNat ((j : Int) - 1).toNat) :
    xs[i - 1]? = ys[j - 1]? ∧ ∀ c acc R, xs[i - 1]? = some c → back xs ys i j acc = R → back xs ys (i - 1) (j - 1) (c :: acc) = R := by
  obtain ⟨i, rfl⟩ := Nat.exists_eq_succ_of_ne_zero hi
  obtain ⟨j, rfl⟩ := Nat.exists_eq_succ_of_ne_zero hj
  have e := h
  have e' := h'
  have e1 : (((i + 1 : Nat) : Int) - 1).toNat = i := by omega
  have e2 : (((j + 1 : Nat) : Int) - 1).toNat = j := by omega
  simp only [Nat.succ_eq_add_one] at e e' ⊢
  rw [hTe, hTe, Int.toNat_natCast, Int.toNat_natCast, e1] at e
  rw [hTe, hTe, Int.toNat_natCast, Int.toNat_natCast, e2] at e'
  refine ⟨lcs_meet (i := i) (j := j) (by omega) (by omega), fun c acc R hc hk => ?_⟩
  rw [← hk, back_both (by omega) (by omega) (c := c) (by simpa using hc)]; rfl
theorem dyn_both {x y r : Str} {R : List Str} {T : Nat → Nat → Int} (hTe : ∀ a b, T a b = (lcs (signs x) (signs y) a b : Int)) {i j : Nat} (hi : i ≠ 0) (hj : j ≠ 0) (hx : i ≤ x.length)
    (h : T (i : Int).toNat (j : Int).toNat ≠ T ((i : Int) - 1).toNat (j : Int).toNat) (h' : T (i : Int).toNat (j : Int).toNat ≠ T (i : Int).toNat ((j : Int) - 1).toNat)
    (hk : back (signs x) (signs y) i j (signs r) = R) : back (signs x) (signs y) (i - 1) (j - 1) (signs (Txt.item x ((i : Int) - 1) ++ r)) = R := by
  have e : (i : Int) - 1 = ((i - 1 : Nat) : Int) := by omega
  have hl : i - 1 < x.length := by omega
  rw [e, signs_append, signs_item hl]
  exact (dyn_meet hTe hi hj h h').2 _ _ R (item_sign hl) hk
theorem dyn_assert {x y : Str} {T : Nat → Nat → Int} (hTe : ∀ a b, T a b = (lcs (signs x) (signs y) a b : Int)) {i j : Nat} (hi : i ≠ 0) (hj : j ≠ 0) (hx : i ≤ x.length) (hy : j ≤ y.length)
    (h : T (i : Int).toNat (j : Int).toNat ≠ T ((i : Int) - 1).toNat (j : Int).toNat) (h' : T (i : Int).toNat (j : Int).toNat ≠ T (i : Int).toNat ((j : Int) - 1).toNat)
    (ha : (Txt.item x ((i : Int) - 1) == Txt.item y ((j : Int) - 1)) = false) : False := by
  have e : (i : Int) - 1 = ((i - 1 : Nat) : Int) := by omega
  have e' : (j : Int) - 1 = ((j - 1 : Nat) : Int) := by omega
  have m := (dyn_meet hTe hi hj h h').1
  have hl : i - 1 < x.length := by omega
  have hl' : j - 1 < y.length := by omega
  rw [item_sign hl, item_sign hl'] at m
  rw [e, e', Option.some.inj m] at ha
  simp at ha
theorem dyn_end {x y r : Str} {i j : Nat} (h : i = 0 ∨ j = 0) (hk : back (signs x) (signs y) i j (signs r) = back (signs x) (signs y) x.length y.length []) : r = dyn x y := by
  unfold dyn
  rw [← hk]
  rcases h with rfl | rfl
  · rw [back_zero_left, join_signs]
  · rw [back_zero_right, join_signs]
theorem item_length {x : Str} {k : Int} : (Txt.item x k).length = 1 := rfl
/-- what `_cycled` hands back -/
def levD (x y : Str) : Int := (lev (signs x) (signs y) x.length y.length : Int)
end Mine
end
section
open PySem PySem.W PyProof.Rows PySem.Spec PySem.Calls
set_option Elab.async false
namespace Mine
/-- a turn's end in a loop over a range -/
def RStep (h₀ : Heap) (L : Addr) (own : Led) (J : (Str → Option Value) → Led → Prop) (s₁ : Shared) (Q : Flow → Shared → Prop) (f : Flow) (s₂ : Shared) : Prop :=
  match f with
  | .ret v => Q (.ret v) s₂
  | .brk => Q .next s₂
  | _ => ∃ h' tk m₂ news₂, s₂ = { s₁ with heap := h', toks := tk } ∧ Fr h₀ L h' m₂ ∧ News h₀ L h' (own ++ news₂) ∧ (∀ p ∈ own, ∀ q ∈ news₂, p.1 ≠ q.1) ∧ J m₂ news₂
section
variable {prog : Program} {w : World} {A : Around} {E : Value → Shared → Prop} {s : Shared} {env : Env} {h₀ : Heap} {L : Addr} {m : Str → Option Value} {news : Led}
theorem range_loop {r : Addr} {a b : Int} {t u v : Tok} {n : Nat} {x : Str} {body : List Stmt} {Q : Flow → Shared → Prop} (J : (Str → Option Value) → Nat → (Str → Option Value) → Led → Prop)
    (hh : A.handled = none) (hL : env.locals = L) (F : Fr h₀ L s.heap m) (N : News h₀ L s.heap news) (hr : IsRange s.heap r a b 1 t u v) (hsm : Builtin.Range.small a b 1 = true) (hn : Builtin.Range.rangeSize a b 1 = ((n : Nat) : Int))
    (h0 : J m 0 m news)
    (step : ∀ (i : Nat) t m₁ news₁ h tk own, i < n → J m i m₁ news₁ → (∀ p ∈ own, ∀ q ∈ news₁, p.1 ≠ q.1) →
      Fr h₀ L h (fun y => if y = x then some (.int (a + (i : Int)) t) else m₁ y) → News h₀ L h (own ++ news₁) →
      wpAny (model prog w) A (execs body env) (RStep h₀ L own (J m (i + 1)) { s with heap := h, toks := tk } Q) E { s with heap := h, toks := tk })
    (done : ∀ h' tk m' news', Fr h₀ L h' m' → News h₀ L h' news' → J m n m' news' → Q .next { s with heap := h', toks := tk }) :
    wpAny (model prog w) A (pyIter (.ref r)) (fun it s₂ => LoopAtV prog w A h₀ env x body Q E it s₂) E s := by
  subst hL
  refine wpAny_pyIter_range hr hsm ?_
  have W := LCg.range_walks (prog := prog) (w := w) (I := s.heap.objs.size) hh a n
  refine ⟨_, _, _, n, _, _, m, news, fun i m' n' => J m i m' n', rfl, W, ?_, ?_, ?_, ?_, F.push _, (fun p hp => ⟨Heap.get?_push_of_some _ (N p hp).1, (N p hp).2⟩), h0, ?_, ?_⟩
  · intro hm
    exact absurd F.ns.lt ((List.mem_singleton.mp hm) ▸ Nat.lt_irrefl _)
  · intro b hb
    rw [List.mem_singleton.mp hb]
    exact next_is_new F
  · intro p hp hI
    exact absurd (Heap.lt_size (N p hp).1) ((List.mem_singleton.mp hI) ▸ Nat.lt_irrefl _)
  · show IsRangeIter _ _ _ _ _
    rw [hn]
    simpa using Heap.get?_push_size _ rfl
  · rintro i v' m₁ news₁ s₁ own ⟨hh', tk', rfl⟩ hi ⟨t', rfl⟩ hJ hoff hsub hget hall st F₁ N₁
    have hI : ∀ p ∈ own, p.1 = s.heap.objs.size := fun p hp => List.mem_singleton.mp (hsub p hp)
    have hown : ∀ p ∈ own, ∀ q ∈ news₁, p.1 ≠ q.1 := fun p hp q hq e => hoff q hq (by rw [← e]; exact List.mem_singleton.mpr (hI p hp))
    have hIin : ∃ o, (s.heap.objs.size, o) ∈ own := ⟨_, hall _ (List.mem_singleton.mpr rfl) (next_is_new F) _ st⟩
    refine wpAny_mono (step i t' m₁ news₁ hh' tk' own hi hJ hown F₁ N₁) (fun f s₂ p => ?_) fun _ _ e => e
    have fin : (∃ h' tk m₂ news₂, s₂ = { s with heap := h', toks := tk } ∧ Fr h₀ env.locals h' m₂ ∧ News h₀ env.locals h' (own ++ news₂) ∧ (∀ p ∈ own, ∀ q ∈ news₂, p.1 ≠ q.1) ∧ J m (i + 1) m₂ news₂) →
        LoopStepU h₀ env.locals [s.heap.objs.size] own (fun m' n' => J m (i + 1) m' n') { s with heap := hh', toks := tk' } .next s₂ := by
      rintro ⟨h', tk, m', news', e, F', N', hn', hm⟩
      refine ⟨rfl, h', tk, m', news', e, F', N', fun p hp hq => ?_, hm⟩
      obtain ⟨o, ho⟩ := hIin
      exact hn' _ ho p hp (List.mem_singleton.mp hq).symm
    cases f with
    | ret v => exact .ret p
    | brk => exact .brk p
    | next => exact .next (fin p)
    | cont => exact .cont (fin p)
  · rintro h' tk m' news' F' N' _ hJ
    exact done h' tk m' news' F' N' hJ
theorem RStep.go {own news₂ : Led} {J : (Str → Option Value) → Led → Prop} {s₁ : Shared} {Q : Flow → Shared → Prop} {h' : Heap} {tk : Nat} {m₂ : Str → Option Value}
    (F : Fr h₀ L h' m₂) (N : News h₀ L h' (own ++ news₂)) (ho : ∀ p ∈ own, ∀ q ∈ news₂, p.1 ≠ q.1) (hJ : J m₂ news₂) : RStep h₀ L own J s₁ Q .next { s₁ with heap := h', toks := tk } :=
  ⟨h', tk, m₂, news₂, rfl, F, N, ho, hJ⟩

/-- one row that is written, the rest of the ledger apart from it -/
structure Row1 (c : Addr) (cols : Nat) (f : Nat → Int) (rest news : Led) : Prop where
  row : ∃ o, (c, o) ∈ news ∧ RowObj cols f o
  has : ∀ p ∈ rest, p ∈ news
  off : ∀ p ∈ rest, p.1 ≠ c
theorem Row1.of_eq {c : Addr} {cols : Nat} {f g : Nat → Int} {rest : Led} (h : Row1 c cols f rest news) (e : ∀ j, j < cols → f j = g j) : Row1 c cols g rest news where
  row := by
    obtain ⟨o, hm, hc, items, n, hd, hs, hj⟩ := h.row
    exact ⟨o, hm, hc, items, n, hd, hs, fun j q => e j q ▸ hj j q⟩
  has := h.has
  off := h.off
theorem row_get {r : Addr} {cols : Nat} {f : Nat → Int} {o : Obj} {value slice : PySem.Expr} {k : Int} {u : Tok} {Q : Value → Shared → Prop}
    (N : News h₀ L s.heap news) (hm : (r, o) ∈ news) (hR : RowObj cols f o) (h0 : 0 ≤ k) (h1 : k < cols) (hfit : k < 2 ^ 63)
    (h : ∀ t, Q (.int (f k.toNat) t) s)
    (hs : subscripted slice false (.ref r) (.int k u) = operate [.ref r, .int k u] (getItem (.ref r) (.int k u)) := by with_unfolding_all rfl) :
    wpAny (model prog w) A (subscriptTail value slice (.ref r) (.int k u)) Q E s := by
  obtain ⟨hc, items, n, hd, hsz, hj⟩ := hR
  have hl : s.heap.IsList r items := ⟨o, (N _ hm).1, hc, n, hd⟩
  obtain ⟨t, ht⟩ := hj k.toNat (by omega)
  exact tail_any hl.typeIs PySem.F.slot_list_getitem.lookup (wpAny_getItem_list hl h0 hfit ht (h t)) hs
theorem row1_get {r : Addr} {cols : Nat} {f : Nat → Int} {rest : Led} {value slice : PySem.Expr} {k : Int} {u : Tok} {Q : Value → Shared → Prop}
    (N : News h₀ L s.heap news) (hR : Row1 r cols f rest news) (h0 : 0 ≤ k) (h1 : k < cols) (hfit : k < 2 ^ 63)
    (h : ∀ t, Q (.int (f k.toNat) t) s)
    (hs : subscripted slice false (.ref r) (.int k u) = operate [.ref r, .int k u] (getItem (.ref r) (.int k u)) := by with_unfolding_all rfl) :
    wpAny (model prog w) A (subscriptTail value slice (.ref r) (.int k u)) Q E s := by
  obtain ⟨o, hm, hR⟩ := hR.row
  exact row_get N hm hR h0 h1 hfit h hs
theorem row1_last {r : Addr} {cols : Nat} {f : Nat → Int} {rest : Led} {value slice : PySem.Expr} {u : Tok} {Q : Value → Shared → Prop}
    (N : News h₀ L s.heap news) (hR : Row1 r cols f rest news) (h1 : 0 < cols)
    (h : ∀ t, Q (.int (f (cols - 1)) t) s)
    (hs : subscripted slice false (.ref r) (.int (-1) u) = operate [.ref r, .int (-1) u] (getItem (.ref r) (.int (-1) u)) := by with_unfolding_all rfl) :
    wpAny (model prog w) A (subscriptTail value slice (.ref r) (.int (-1) u)) Q E s := by
  obtain ⟨o, hm, hc, items, n, hd, hsz, hj⟩ := hR.row
  have hl : s.heap.IsList r items := ⟨o, (N _ hm).1, hc, n, hd⟩
  obtain ⟨t, ht⟩ := hj (cols - 1) (by omega)
  refine tail_any hl.typeIs PySem.F.slot_list_getitem.lookup (wpAny_getItem_list_neg hl (by omega) (by omega) (by omega) (x := .int (f (cols - 1)) t) ?_ (h t)) hs
  have e : (-1 + (items.size : Int)).toNat = cols - 1 := by omega
  rw [e]; exact ht
theorem row1_set {r : Addr} {cols : Nat} {f : Nat → Int} {rest : Led} {k x : Int} {u t : Tok} {Q : Unit → Shared → Prop}
    (F : Fr h₀ L s.heap m) (N : News h₀ L s.heap news) (hR : Row1 r cols f rest news) (h0 : 0 ≤ k) (h1 : k < cols) (hfit : k < 2 ^ 63)
    (h : ∀ h' news', Fr h₀ L h' m → News h₀ L h' news' → Row1 r cols (fun j => if j = k.toNat then x else f j) rest news' → news'.map (·.1) = news.map (·.1) → Q () { s with heap := h' }) :
    wpAny (model prog w) A (setItem (.ref r) (.int k t) (.int x u)) Q E s := by
  obtain ⟨o, hm, hc, items, n, hd, hsz, hj⟩ := hR.row
  have z := N _ hm
  have hl : s.heap.IsList r items := ⟨o, z.1, hc, n, hd⟩
  refine wpAny_setItem_list hl h0 hfit (by omega) fun h' hl' hs' => ?_
  obtain ⟨o', ho', hc', n', hd'⟩ := hl'
  let f' : Addr × Obj → Addr × Obj := fun p => if p.1 = r then (r, o') else p
  have hf : ∀ p, (f' p).1 = p.1 := fun p => by
    show (if p.1 = r then (r, o') else p).1 = p.1
    split
    · next q => exact q.symm
    · rfl
  refine h h' (news.map f') (F.change hs' z.2.1 z.2.2) (fun p hp => ?_) ⟨⟨o', ?_, hc', _, n', hd', by simp [hsz], fun j hj' => ?_⟩, fun p hp => ?_, hR.off⟩ ?_
  · obtain ⟨q, hq, rfl⟩ := List.mem_map.mp hp
    have y := N q hq
    by_cases e : q.1 = r
    · have : f' q = (r, o') := by show (if q.1 = r then (r, o') else q) = _; rw [if_pos e]
      rw [this]
      exact ⟨ho', z.2⟩
    · have : f' q = q := by show (if q.1 = r then (r, o') else q) = _; rw [if_neg e]
      rw [this]
      exact ⟨hs'.extBut _ _ e y.1, y.2⟩
  · exact List.mem_map.mpr ⟨_, hm, by show (if r = r then (r, o') else _) = _; rw [if_pos rfl]⟩
  · by_cases ej : j = k.toNat
    · subst ej
      refine ⟨u, ?_⟩
      have : k.toNat < items.size := by omega
      simp [this]
    · obtain ⟨t', ht'⟩ := hj j hj'
      refine ⟨t', ?_⟩
      have e1 : (if j = k.toNat then x else f j) = f j := if_neg ej
      show (items.setIfInBounds k.toNat (.int x u))[j]? = some (.int (if j = k.toNat then x else f j) t')
      rw [e1, Array.getElem?_setIfInBounds_ne (fun q => ej q.symm)]
      exact ht'
  · exact List.mem_map.mpr ⟨p, hR.has p hp, by show (if p.1 = r then (r, o') else p) = p; rw [if_neg (hR.off p hp)]⟩
  · rw [List.map_map]
    exact List.map_congr_left fun p _ => hf p
end
def LoopStop (prog : Program) (w : World) (A : Around) (h₀ : Heap) (env : Env) (x : Str) (body : List Stmt) (Q : Flow → Shared → Prop) (E : Value → Shared → Prop) (it : Value) (s₂ : Shared) : Prop := LoopAtV prog w A h₀ env x body Q E it s₂
theorem For_stop {prog : Program} {w : World} {A : Around} {E : Value → Shared → Prop} {s : Shared} {env : Env} {h₀ : Heap} {m : Str → Option Value} {x : Str} {body : List Stmt} {Q : Flow → Shared → Prop} {px pos : Pos} {iter : PySem.Expr} (F : Fr h₀ env.locals s.heap m) (hx : env.kindOf x = some .local)
    (hp : (env.scope.kind == .class || (env.scope.kind == .module && env.locals != env.globals)) = false)
    (h : wpAny (model prog w) A (eval iter env) (fun xv s₁ => wpAny (model prog w) A (pyIter xv) (fun it s₂ => LoopStop prog w A h₀ env x body Q E it s₂) E s₁) E s)
    (hs : ∀ x, foldedSetIterable iter env x = pure x := by intro _; rfl)
    (hE : PassesOwn (model prog w) A env E := by passes_own) :
    wpAny (model prog w) A (exec (.For (.Name x px) iter body [] pos) env) Q E s := For_invVF F hx hp h hs hE
theorem row_range {vs : List Value} {n c k : Nat} (h : IntsAre vs (rangeKs 0 n)) (hk : n = k) : RowObj k (fun j => (j : Int)) (listOf vs.toArray c) := by
  subst hk
  have hl := h.length
  rw [rangeKs_length] at hl
  refine ⟨rfl, _, _, rfl, by simpa using hl, fun j hj => ?_⟩
  obtain ⟨t, ht⟩ := h.get j (j : Int) (by simp [rangeKs, hj])
  exact ⟨t, by simpa using ht⟩
/-- the outer loop of _cycled, between two turns -/
def LevJ (x y : Str) (base : Led) (m : Str → Option Value) (i : Nat) (m₁ : Str → Option Value) (news₁ : Led) : Prop :=
  Same [Str.ofString "cur", Str.ofString "prev", Str.ofString "r", Str.ofString "c", Str.ofString "deletion", Str.ofString "insertion", Str.ofString "dist", Str.ofString "edit"] m m₁ ∧
    ∃ c, m₁ (Str.ofString "cur") = some (.ref c) ∧ Row1 c (y.length + 1) (fun j => (lev (signs x) (signs y) i j : Int)) base news₁
theorem Row1.lift {c : Addr} {cols : Nat} {f : Nat → Int} {rest news own : Led} (h : Row1 c cols f rest news) (ho : ∀ p ∈ own, ∀ q ∈ news, p.1 ≠ q.1) : Row1 c cols f (own ++ rest) (own ++ news) where
  row := let ⟨o, hm, r⟩ := h.row; ⟨o, List.mem_append_right _ hm, r⟩
  has := fun p hp => (List.mem_append.mp hp).elim (List.mem_append_left _) fun q => List.mem_append_right _ (h.has p q)
  off := fun p hp => (List.mem_append.mp hp).elim (fun q => let ⟨_, hm, _⟩ := h.row; ho p q _ hm) fun q => h.off p q
theorem Row1.pick {h₀ h : Heap} {L c : Addr} {cols : Nat} {f : Nat → Int} {rest news own : Led} (R : Row1 c cols f (own ++ rest) news) (N : News h₀ L h news) (ho : ∀ p ∈ own, ∀ q ∈ rest, p.1 ≠ q.1) :
    ∃ o, News h₀ L h (own ++ ((c, o) :: rest)) ∧ Row1 c cols f rest ((c, o) :: rest) ∧ ∀ p ∈ own, ∀ q ∈ (c, o) :: rest, p.1 ≠ q.1 := by
  obtain ⟨o, hm, hr⟩ := R.row
  refine ⟨o, fun p hp => ?_, ⟨⟨o, List.mem_cons_self, hr⟩, fun p hp => List.mem_cons_of_mem _ hp, fun p hp => R.off p (List.mem_append_right _ hp)⟩, fun p hp q hq => ?_⟩
  · rcases List.mem_append.mp hp with h1 | h1
    · exact N p (R.has p (List.mem_append_left _ h1))
    · rcases List.mem_cons.mp h1 with rfl | h1
      · exact N _ hm
      · exact N p (R.has p (List.mem_append_right _ h1))
  · rcases List.mem_cons.mp hq with rfl | hq
    · exact R.off p (List.mem_append_left _ hp)
    · exact ho p hp q hq
/-- the row that `[r] + [0] * k` makes -/
theorem row_first {ws : List Value} {k c : Nat} {r e : Int} (h : IntsAre ws ([r] ++ (List.replicate e.toNat [(0 : Int)]).flatten)) (he : e.toNat + 1 = k) : RowObj k (fun j => if j = 0 then r else 0) (listOf ws.toArray c) := by
  have e1 : (List.replicate e.toNat [(0 : Int)]).flatten = List.replicate e.toNat 0 := by
    generalize e.toNat = q
    induction q with
    | zero => rfl
    | succ q ih => rw [List.replicate_succ, List.flatten_cons, ih, List.replicate_succ]; rfl
  rw [e1] at h
  subst he
  have hl := h.length
  refine ⟨rfl, _, _, rfl, by simpa using hl, fun j hj => ?_⟩
  have hg : ([r] ++ List.replicate e.toNat (0 : Int))[j]? = some (if j = 0 then r else 0) := by
    cases j with
    | zero => rfl
    | succ j =>
      have : j < e.toNat := by omega
      simp [this]
  obtain ⟨t, ht⟩ := h.get j _ hg
  exact ⟨t, by simpa using ht⟩
/-- the inner loop of _cycled, between two turns -/
def LevK (x y : Str) (i : Nat) (c : Addr) (rest : Led) (m : Str → Option Value) (k : Nat) (m₁ : Str → Option Value) (news₁ : Led) : Prop :=
  Same [Str.ofString "c", Str.ofString "deletion", Str.ofString "insertion", Str.ofString "dist", Str.ofString "edit"] m m₁ ∧
    Row1 c (y.length + 1) (fun j => if j ≤ k then (lev (signs x) (signs y) (i + 1) j : Int) else 0) rest news₁
theorem row1_new {h₀ h : Heap} {L c : Addr} {cols : Nat} {f : Nat → Int} {o : Obj} {a b1 b2 b3 : Addr × Obj} {rest : Led} (_ : News h₀ L h (a :: (c, o) :: b1 :: b2 :: b3 :: rest)) (hr : RowObj cols f o) (lt : ∀ p ∈ rest, @LT.lt Nat _ p.1 c) : Row1 c cols f rest (a :: (c, o) :: b1 :: b2 :: b3 :: rest) where
  row := ⟨o, List.mem_cons_of_mem _ List.mem_cons_self, hr⟩
  has := fun _ hp => List.mem_cons_of_mem _ (List.mem_cons_of_mem _ (List.mem_cons_of_mem _ (List.mem_cons_of_mem _ (List.mem_cons_of_mem _ hp))))
  off := fun p hp => Nat.ne_of_lt (lt p hp)
section
variable {prog : Program} {w : World} {A : Around} {E : Value → Shared → Prop} {s : Shared} {h₀ : Heap} {L : Addr} {m : Str → Option Value} {news : Led}
theorem min_three_N {a b c : Int} {t u x : Tok} {Q : Value → Shared → Prop} (hh : A.handled = none) (F : Fr h₀ L s.heap m) (N : News h₀ L s.heap news)
    (h : ∀ h' tk t', Fr h₀ L h' m → News h₀ L h' news → Q (.int (if b < a then (if c < b then c else b) else (if c < a then c else a)) t') { s with heap := h', toks := tk }) :
    wpAny (model prog w) A (call (.builtin "min") [.int a t, .int b u, .int c x]) Q E s :=
  min_three_ints hh fun h' tk hk => by
    have key := fun t' => h h' tk t' (F.grownK hk) (N.grown hk)
    by_cases hba : b < a <;> by_cases hc1 : c < b <;> by_cases hc2 : c < a <;> simp only [hba, hc1, hc2, if_true, if_false] at key ⊢ <;> exact key _
end
theorem lev_fill {x y : Str} {i j : Nat} {v : Int} (hi : i < x.length) (hj : j < y.length)
    (hv : v = (if (lev (signs x) (signs y) i (1 + (j : Int)).toNat : Int) + 1 < (lev (signs x) (signs y) i (1 + (j : Int) - 1).toNat : Int) + (if (!Txt.item x (1 + (i : Int) - 1) == Txt.item y (1 + (j : Int) - 1)) = true then 1 else 0)
      then (if (if (1 + (j : Int) - 1).toNat ≤ j then (lev (signs x) (signs y) (i + 1) (1 + (j : Int) - 1).toNat : Int) else 0) + 1 < (lev (signs x) (signs y) i (1 + (j : Int)).toNat : Int) + 1 then (if (1 + (j : Int) - 1).toNat ≤ j then (lev (signs x) (signs y) (i + 1) (1 + (j : Int) - 1).toNat : Int) else 0) + 1 else (lev (signs x) (signs y) i (1 + (j : Int)).toNat : Int) + 1)
      else (if (if (1 + (j : Int) - 1).toNat ≤ j then (lev (signs x) (signs y) (i + 1) (1 + (j : Int) - 1).toNat : Int) else 0) + 1 < (lev (signs x) (signs y) i (1 + (j : Int) - 1).toNat : Int) + (if (!Txt.item x (1 + (i : Int) - 1) == Txt.item y (1 + (j : Int) - 1)) = true then 1 else 0) then (if (1 + (j : Int) - 1).toNat ≤ j then (lev (signs x) (signs y) (i + 1) (1 + (j : Int) - 1).toNat : Int) else 0) + 1 else (lev (signs x) (signs y) i (1 + (j : Int) - 1).toNat : Int) + (if (!Txt.item x (1 + (i : Int) - 1) == Txt.item y (1 + (j : Int) - 1)) = true then 1 else 0)))) :
    (fun j' => if j' = (1 + (j : Int)).toNat then v else if j' ≤ j then (lev (signs x) (signs y) (i + 1) j' : Int) else 0) = fun j' => if j' ≤ j + 1 then (lev (signs x) (signs y) (i + 1) j' : Int) else 0 := by
  have e1 : (1 + (j : Int)).toNat = j + 1 := by omega
  have e2 : (1 + (j : Int) - 1).toNat = j := by omega
  have e3 : (1 + (i : Int) - 1) = ((i : Nat) : Int) := by omega
  have e4 : (1 + (j : Int) - 1) = ((j : Nat) : Int) := by omega
  have hq : ((signs x)[i]? = (signs y)[j]?) = (Txt.item x (i : Int) = Txt.item y (j : Int)) := by rw [item_sign hi, item_sign hj, Option.some.injEq]
  have hlev : v = (lev (signs x) (signs y) (i + 1) (j + 1) : Int) := by
    rw [hv, e1, e2, e3, e4, if_pos (Nat.le_refl j), lev_succ]
    simp only [hq]
    by_cases q : Txt.item x (i : Int) = Txt.item y (j : Int)
    · simp only [q, beq_self_eq_true, Bool.not_true, Bool.false_eq_true, if_false, if_true]
      (repeat' split) <;> omega
    · have q' : (Txt.item x (i : Int) == Txt.item y (j : Int)) = false := by simpa using q
      simp only [q, q', Bool.not_false, if_true, if_false]
      (repeat' split) <;> omega
  funext j'
  rw [e1]
  by_cases h : j' = j + 1
  · rw [if_pos h, if_pos (by omega), hlev, h]
  · rw [if_neg h]
    by_cases h' : j' ≤ j
    · rw [if_pos h', if_pos (by omega)]
    · rw [if_neg h', if_neg (by omega)]
theorem Row1.weaken {c : Addr} {cols : Nat} {f : Nat → Int} {rest rest' news : Led} (h : Row1 c cols f rest news) (hs : ∀ p ∈ rest', p ∈ rest) : Row1 c cols f rest' news where
  row := h.row
  has := fun p hp => h.has p (hs p hp)
  off := fun p hp => h.off p (hs p hp)
end Mine
end
section
open PySem PySem.W PyProof.Rows PySem.Spec PySem.Calls
set_option Elab.async false
namespace Mine
/-- self.f where the class (or a base) holds a staticmethod -/
theorem get_sm {prog : Program} {w : World} {A : Around} {E : Value → Shared → Prop} {s : Shared} {K : Frag} {x C p L : Addr} {ox : Obj} {name : Str} {h₀ : Heap} {m : Str → Option Value} {es : List DictEntry} {n : Nat} {expr : Bool} {Q : Value → Shared → Prop} {fv : Value} {rest : List Value}
    (F : Fr h₀ L s.heap m) (X₀ : K.In h₀) (I : InstAt s.heap x ox C (some (dictOf es n))) (hg : plainGet K C name = true) (hh : hasDictIn K C = true) (ha : findIn K (.ref C) name = some (some (.ref p)))
    (hgf : specialIn K (.ref p) "__get__" = some (some (.builtin "staticmethod.__get__"))) (hts : takesIn K (.ref p) = some false) (hc : copiedNames.contains name = false) (hl : getL name es = some none) (hp : recIn K p "staticmethod" = some (fv :: rest)) (hv : handedIn fv = true)
    (h : Q fv { s with toks := s.toks + 1 }) : wpAny (model prog w) A (getAttr (.ref x) name expr) Q E s :=
  get_bind (X₀.keeps F.keep) I (plainGet_of hg).1 (findObj_fn hh ha hgf hts hc (by show lookIn name (dictOf es n) = _; rw [lookIn_dict, hl])) (plainGet_of hg).2
    (wpAny_call (sm_get (s := { s with toks := s.toks + 1 }) (X₀.keeps F.keep) hp (handed_on hv h)))
section
variable {prog : Program} {w : World} {A A₀ : Around} {s : Shared} {K : Frag} {L : Addr} {h₀ base : Heap} {m mg mb : Str → Option Value} {news : List (Addr × Obj)} {p : Program} {loose : List Str} {mean : ExcName → Option Value}
  {env : Env} {outer : List Env} {R : Result → Shared → Prop} {name qual : Str} {params : Arguments} {body : List Stmt} {scope : Scope} {dV kV doc pm cdv ct oc : Value} {an od : Option Addr} {osl : Array (Option Value)} {f : Addr} {args : Args}

/-- the frame of a def that has cells, its arguments bound -/
theorem frame_cells {E : Value → Shared → Prop} {binds : List (Str × Value)} (B : Below A₀ base outer h₀) (F : Fr h₀ L s.heap m) (N : News h₀ L s.heap news) (hlim : h₀.NoLimit) (hA : A.frames = some (env :: outer)) (hf : env.frame = some L) (hke : env.scope.kind = .function)
    (hkind : ∀ n, ∀ x ∈ binds, scope.names.lookup x.1 = some .local ∨ (scope.names.lookup x.1 = some .cell ∧ ((cellsFrom n scope.names []).lookup x.1).isSome = true))
    (hnd : ((cellsFrom 0 scope.names []).map (·.1)).Nodup)
    (h : ∀ g L' h₁ tk cells, Fr h₀ L g m → Fr g L' h₁ (bindL (envOfC qual scope L' f cdv).kindOf binds fun _ => none) → News g L' h₁ (cells ++ news) →
      CellsAre (bindC (envOfC qual scope L' f cdv).kindOf binds fun _ => none) (cellsFrom (L' + 1) scope.names []) cells → Below A base (env :: outer) g → h₀.StaysIn g → (∀ p ∈ news, p.1 < L') →
      wpAny (model prog w) (A.deeper (envOfC qual scope L' f cdv)) (execs body (envOfC qual scope L' f cdv))
        (fun fl s' => LeaveK h₀ L m g R (match fl with | .ret v => v | _ => .none) s')
        (fun e s' => wpAny (model prog w) (A.deeper (envOfC qual scope L' f cdv)) (leaving (envOfC qual scope L' f cdv) e) (fun _ s'' => R (.error e) s'') (fun e' s'' => R (.error e') s'') s')
        { s with heap := h₁, toks := tk })
    (hk : scope.kind = .function) :
    wpAny (model prog w) A.in1 (newFunctionEnv scope mainGlobals [] binds (qual ++ ".<locals>.") (some f) cdv none builtinsNs) (fun env' s₂ => s₂.heap.NoLimit ∧ codeAny (model prog w) A (.func body env') R s₂) E s := by
  obtain ⟨FG, BG, st, lv⟩ := groundX (R := R) B F N hA hf hke
  refine wpAny_newFunctionEnv_cells hk (hkind _) fun env' he s' x => ?_
  subst he
  refine ⟨(hlim.keeps F.keep).keeps x.toInCall.keep, codeAny_func ?_⟩
  obtain ⟨h₁, tk, rfl, _⟩ := x.done
  have hk₁ := x.toInCall.keep
  obtain ⟨cells, NC, Y⟩ := Cl.news (h₀ := s.heap) (Nat.le_refl _) fun n c hm => ⟨x.cell n c (lookup_of_mem_nodup (cellsFrom_names scope.names 0 (s.heap.objs.size + 1) [] [] rfl ▸ hnd) hm), x.above n c hm⟩
  refine wpAny_mono (h _ s.heap.objs.size h₁ tk cells FG ⟨x.toInCall.ns, fun b o e => hk₁ b o (of_hideAll _ e), Nat.le_of_eq (hideAll_size _ _)⟩ (fun p hp => ?_) Y BG st (fun p hp => Heap.lt_size (N p hp).1)) (fun fl s' hl => lv _ _ hl) fun _ _ y => y
  rcases List.mem_append.mp hp with hp | hp
  · refine ⟨(NC p hp).1, (NC p hp).2.1, ?_⟩
    cases q : (hideAll s.heap (news.map (·.1))).get? p.1 with
    | none => rfl
    | some o => have := of_hideAll _ q; rw [(NC p hp).2.2] at this; cases this
  · exact ⟨hk₁ _ _ (N p hp).1, Nat.ne_of_lt (Heap.lt_size (N p hp).1), hideAll_none _ (List.mem_map_of_mem hp)⟩
/-- a call of a def that has *rest and cells -/
theorem rest_cells {vs : List Value} {g₁ : Addr → Option (List (Str × Value))} {binds : Addr → List (Str × Value)}
    (B : Below A₀ base outer h₀) (F : Fr h₀ L s.heap m) (X₀ : K.In h₀) (N : News h₀ L s.heap news) (T : Top p loose mean mg mb h₀) (hA : A.frames = some (env :: outer)) (hf : env.frame = some L) (hke : env.scope.kind = .function)
    (ho : K.lookup f = some ⟨oc, od, .func (fnOf name qual params body scope dV kV doc pm an cdv ct), osl⟩) (hcd : codeIn K cdv qual = true) (hroom : A.depth < recursionLimit)
    (hv : args.pos.drop (params.posonlyargs.length + params.args.length) = vs)
    (hp : peek1 K ⟨prog, w.params⟩ (bindArgs (fnOf name qual params body scope dV kV doc pm an cdv ct) args) = some (({ cls := .type "tuple", data := .seq vs.toArray } : Obj), g₁))
    (hg : ∀ D, g₁ D = some (binds D)) (hkind : ∀ D, ((binds D).all fun y => scope.names.lookup y.1 == some .local || scope.names.lookup y.1 == some .cell) = true)
    (hnd : ((cellsFrom 0 scope.names []).map (·.1)).Nodup)
    (h : ∀ D g L' h₁ tk cells, (∀ p ∈ news, p.1 < D) → Fr h₀ L g m → Fr g L' h₁ (bindL (envOfC qual scope L' f cdv).kindOf (binds D) fun _ => none) → News g L' h₁ (cells ++ (D, ({ cls := .type "tuple", data := .seq vs.toArray } : Obj)) :: news) →
      CellsAre (bindC (envOfC qual scope L' f cdv).kindOf (binds D) fun _ => none) (cellsFrom (L' + 1) scope.names []) cells → Below A base (env :: outer) g → K.In g → Top p loose mean mg mb g → (∀ p ∈ (D, ({ cls := .type "tuple", data := .seq vs.toArray } : Obj)) :: news, p.1 < L') →
      wpAny (model prog w) (A.deeper (envOfC qual scope L' f cdv)) (execs body (envOfC qual scope L' f cdv))
        (fun fl s' => LeaveK h₀ L m g R (match fl with | .ret v => v | _ => .none) s')
        (fun e s' => wpAny (model prog w) (A.deeper (envOfC qual scope L' f cdv)) (leaving (envOfC qual scope L' f cdv) e) (fun _ s'' => R (.error e) s'') (fun e' s'' => R (.error e') s'') s')
        { s with heap := h₁, toks := tk })
    (hco : scope.isCoroutine = false) (hgen : scope.isGenerator = false) (hk : scope.kind = .function) : codeAny (model prog w) A (.call (.ref f) args) R s := by
  have _ := hv
  refine codeAny_call_function (fd := fnOf name qual params body scope dV kV doc pm an cdv ct) (body := body) hroom ((X₀.keeps F.keep) _ _ ho) rfl hco hgen rfl (codeRec_of (X₀.keeps F.keep) hcd) ?_
  refine wp_of_peek1 (o := ({ cls := .type "tuple", data := .seq vs.toArray } : Obj)) F N (X₀.keeps F.keep) rfl (r := binds) (fun D h' F' N' l => ?_) _ g₁ hp hg
  exact frame_cells (s := { s with heap := h' }) B F' N' T.nolimit hA hf hke (kindsX (hkind D)) hnd (fun g L' h₁ tk cells FG FL NG Y BG st l' => h D g L' h₁ tk cells l FG FL NG Y BG (X₀.keeps st) (T.keeps st) l') hk
end
theorem MethodStar_ {M : Model} {A : Around} {E : Value → Shared → Prop} {s : Shared} {env : Env} {x name : Str} {p1 apos pos : Pos} {args : List PySem.Expr} {Q : Value → Shared → Prop}
    (hf : methodCallForm (args.length + 0) (backTo pos (starEach args env)) [] = false)
    (h : wpAny M A (eval (.Name x p1) env) (fun ov s₁ => wpAny M A (getAttr ov name true) (fun f s₂ => wpAny M A (callWith pos f [] (backTo pos (starEach args env)) []) Q E s₂) E s₁) E s) :
    wpAny M A (eval (.Call (.Attribute (.Name x p1) name apos) args [] pos) env) Q E s := by
  show wpAny M A (do
    let ov ← attributeBase (.Name x p1) name env (eval (.Name x p1) env)
    standAt apos.atName
    methodCall (.Name x p1) name apos pos env ov (args.length + 0) (backTo pos (starEach args env)) (backToKw pos (keywordEach [] env))) Q E s
  refine wpAny_bind ?_
  show wpAny M A (eval (.Name x p1) env) _ _ _
  refine wpAny_mono h (fun ov s₁ h₁ => wpAny_bind (wpAny_standAt ?_)) fun _ _ e => e
  unfold methodCall calleeOf methodCallPos
  have e : backToKw pos (keywordEach [] env) = [] := rfl
  rw [e, hf]
  refine wpAny_bind (wpAny_holding ?_)
  simp only [Bool.false_eq_true, if_false]
  refine wpAny_bind (wpAny_mono h₁ (fun f s₂ h₂ => wpAny_pure ?_) fun _ _ e => e)
  simp only [Bool.not_false, Bool.true_or, if_true]
  refine wpAny_bind (wpAny_pure ?_)
  exact h₂
/-- q(*xs) of a bound method -/
theorem callWith_MS {M : Model} {A : Around} {E : Value → Shared → Prop} {s : Shared} {K : Frag} {env : Env} {pos p : Pos} {first : List Value} {Q : Value → Shared → Prop} {h₀ : Heap} {L : Addr} {news : List (Addr × Obj)} {q g : Addr} {self : Value} {e : PySem.Expr}
    (_X : K.In h₀) (_N : News h₀ L s.heap news) (_q : (q, methodObj (.ref g) self) ∈ news) (hf : fnIn K g = true) (h : wpAny M A (eval e env) (fun v s₁ => StarOf M A E v (fun vs s₂ => MethP K q g self s₂.heap ∧ wpAny M A (call (.ref q) (first ++ vs)) Q E s₂) s₁) E s)
    (he : starEach [.Starred e p] env = [(true, eval e env)] := by rfl) :
    wpAny M A (callWith pos (.ref q) first (backTo pos (starEach [.Starred e p] env)) []) Q E s := by
  rw [he]
  exact ks_call rfl (keeps_M hf) (ks_lone h)
end Mine
end
section
open PySem PySem.W PyProof.Rows PySem.Spec
set_option Elab.async false
namespace Mine
section
variable {prog : Program} {w : World} {A : Around} {R : Result → Shared → Prop} {s : Shared}

theorem SetOf_keep {K : Type} [DecidableEq K] {knd : KeyKind prog w K} {h h' : Heap} {a : Addr} {S : K → Bool} {n : Nat}
    (hS : h.SetOf knd a S n) (k : ∀ o, h.get? a = some o → h'.get? a = some o) : h'.SetOf knd a S n := by
  obtain ⟨o, es, ep, tb, ho, rest⟩ := hS
  exact ⟨o, es, ep, tb, k _ ho, rest⟩

/-- one turn of set(..) over a tuple that holds a str at this place -/
theorem set_turn {S I t : Addr} {i n : Nat} {items : Array Value} {k : Str} {tk : Tok} {Sf : Str → Bool}
    (hSI : S ≠ I) (htI : t ≠ I) (htS : t ≠ S) (hit : s.heap.IsTupleIter I t i) (ht : s.heap.IsTuple t items) (hv : items[i]? = some (.str k tk))
    (hS : s.heap.SetOf (strKind prog w) S Sf n) (hroom : n + 1 < scanBound)
    (next : ∀ h' tk', h'.IsTupleIter I t (i + 1) → h'.IsTuple t items → h'.SetOf (strKind prog w) S (fun k' => Sf k' || decide (k' = k)) (if Sf k then n else n + 1) →
      (∀ b o, b ≠ S → b ≠ I → s.heap.get? b = some o → h'.get? b = some o) →
      codeAny (model prog w) A (.builtin "set.update.loop" ⟨[.ref S, .ref I], []⟩) R { s with heap := h', toks := tk' }) :
    codeAny (model prog w) A (.builtin "set.update.loop" ⟨[.ref S, .ref I], []⟩) R s := by
  refine codeAny_builtin F.entry_set_update_loop ?_
  rw [Around.under_plainId F.plain_set_update_loop _]
  show wpAny _ A.in1 (pyNext (.ref I) >>= _) _ _ s
  refine wpAny_bind (wpAny_pyNext_tuple_item hit ht hv fun h₁ hit₁ hs₁ => ?_)
  have hS₁ := SetOf_keep hS fun o e => hs₁.extBut S o hSI e
  show wpAny _ A.in1 (holding [Value.str k tk] (setAdd S (.str k tk)) >>= _) _ _ _
  refine wpAny_bind (wpAny_holding ?_)
  unfold setAdd
  refine wpAny_holding ?_
  refine wpAny_bind ((strKind prog w).pyHash (k := k) (strKind_is _ _ _ _) ?_)
  refine wpAny_setAddHashed_of (knd := strKind prog w) (strKind_is _ _ _ _) rfl hS₁ hroom fun h₂ hs₂ hS₂ => ?_
  refine wpAny_pure ⟨plainId_quiet F.plain_set_update_loop _, next h₂ _ ?_ ?_ hS₂ fun b o hb hb' e => ?_⟩
  · obtain ⟨o, ho, r⟩ := hit₁
    exact ⟨o, hs₂.extBut I o (Ne.symm hSI) ho, r⟩
  · obtain ⟨o, ho, r⟩ := ht
    exact ⟨o, hs₂.extBut t o htS (hs₁.extBut t o htI ho), r⟩
  · exact hs₂.extBut b o hb (hs₁.extBut b o hb' e)
theorem set_last {S I t : Addr} {i : Nat} {items : Array Value} (hh : A.handled = none)
    (hit : s.heap.IsTupleIter I t i) (ht : s.heap.IsTuple t items) (hv : items[i]? = none)
    (done : ∀ h', (∀ b o, b ≠ I → s.heap.get? b = some o → h'.get? b = some o) → R (.ok (.ret .none)) { s with heap := h' }) :
    codeAny (model prog w) A (.builtin "set.update.loop" ⟨[.ref S, .ref I], []⟩) R s := by
  refine codeAny_builtin F.entry_set_update_loop ?_
  rw [Around.under_plainId F.plain_set_update_loop _]
  show wpAny _ A.in1 (pyNext (.ref I) >>= _) _ _ s
  refine wpAny_bind (wpAny_pyNext_tuple_end (by simp [hh]) hit ht hv fun h₁ hs₁ => ?_)
  show wpAny _ A.in1 (ret Value.none) _ _ _
  exact wpAny_pure (done h₁ fun b o hb e => hs₁ b o hb e)
end
section
variable {prog : Program} {w : World} {A : Around} {E : Value → Shared → Prop} {s : Shared}
set_option maxRecDepth 100000 in
set_option maxHeartbeats 3200000 in
/-- set((x, y)) of two strs: how many it holds -/
theorem call_set_two {t : Addr} {x y : Str} {tx ty : Tok} {Q : Value → Shared → Prop}
    (hh : A.handled = none) (ht : s.heap.IsTuple t #[.str x tx, .str y ty])
    (h : ∀ (h' : Heap) (tk : Nat) (Sf : Str → Bool), h'.SetOf (strKind prog w) s.heap.objs.size Sf (if x = y then 1 else 2) →
      (∀ b o, b < s.heap.objs.size → s.heap.get? b = some o → h'.get? b = some o) → Q (.ref s.heap.objs.size) { s with heap := h', toks := tk }) :
    wpAny (model prog w) A (call (.type "set") [.ref t]) Q E s := by
  obtain ⟨c, tl, hmro⟩ := PySem.F.called_set.mro
  have hmade := PySem.F.called_set.made
  have hsub := PySem.F.called_set.sub
  refine wpAny_call (codeAny_of_tree ?_)
  show wpAny _ _ (callAny (.type "set") _) _ _ _
  refine wpAny_pure ⟨Code.quiet_builtin _ (by decide +kernel), codeAny_builtin PySem.F.entry_type_call ?_⟩
  rw [Around.under_plain (weight_type_call_type "set" [.ref t] []) rfl]
  have h1 := PySem.F.called_set.notType
  have h2 := PySem.F.called_set.canCreate
  have hct := PySem.F.typeCall_set_1 (.ref t)
  repeat (any_goals (first | assumption | wp_step))
  refine codeAny_mono (code_set_new_1 (.ref t) (E := E) (Q₁ := fun obj s₁ => ∃ led : Bool, obj = .ref s.heap.objs.size ∧ s₁ = { s with heap := s.heap.push { cls := .type "set", dict := none, data := .set #[] 0 (.fresh 0 0 led) } }) fun led => ⟨led, rfl, rfl⟩) fun r s₁ hr => ?_
  cases r with
  | error e => exact hr
  | ok fl =>
    cases fl with
    | ret obj =>
      obtain ⟨led, rfl, rfl⟩ := hr
      have hS : (s.heap.push { cls := .type "set", dict := none, data := .set #[] 0 (.fresh 0 0 led) }).get? s.heap.objs.size = some { cls := .type "set", dict := none, data := .set #[] 0 (.fresh 0 0 led) } := Heap.get?_push_size _ rfl
      have hT : Shared.TypeIs { s with heap := s.heap.push { cls := .type "set", dict := none, data := .set #[] 0 (.fresh 0 0 led) } } (.ref s.heap.objs.size) "set" := ⟨_, hS, rfl⟩
      have hli := PySem.F.called_set.init.lookup
      have hbi := PySem.F.called_set.init.bind (.ref s.heap.objs.size)
      repeat (any_goals (first | assumption | wp_step))
      refine codeAny_mono (codeAny_call_builtin (R := wants (fun r s₂ => r = .none ∧ ∃ h' tk Sf, s₂ = { s with heap := h', toks := tk } ∧
          h'.SetOf (strKind prog w) s.heap.objs.size Sf (if x = y then 1 else 2) ∧
          (∀ b o, b < s.heap.objs.size → s.heap.get? b = some o → h'.get? b = some o)) E) PySem.F.called_set.init.plain PySem.F.entry_set_init (check_set_init_1 hT ?_)) fun r₂ s₂ hr₂ => ?_
      · obtain ⟨ol, hol, hcl, nl, hdl⟩ := id ht
        obtain ⟨ocls, odict, odata, oslots⟩ := ol
        simp only at hcl hdl
        subst hcl; subst hdl
        have hlS : t < s.heap.objs.size := Heap.lt_size hol
        have hol' : (s.heap.push { cls := .type "set", dict := none, data := .set #[] 0 (.fresh 0 0 led) }).get? t = some { cls := .type "tuple", dict := odict, data := .seq #[.str x tx, .str y ty] nl, slots := oslots } := Heap.get?_push_of_some _ hol
        have hsls := PySem.F.sub_tuple_set
        have hslf := PySem.F.sub_tuple_frozenset
        have hne : (Value.type "tuple" == Value.type "dict") = false := by decide
        have hl1 : (s.heap.push { cls := .type "set", dict := none, data := .set #[] 0 (.fresh 0 0 led) }).IsTuple t #[.str x tx, .str y ty] := ⟨_, hol', rfl, nl, rfl⟩
        unfold Builtin.«set.__init__» noKeywords Builtin.Frozenset.updateFrom
        generalize hPI : pyIter = PI
        wp_walk
        subst hPI
        refine wpAny_pyIter_tuple hl1 ?_
        refine wpAny_bind (wpAny_runValue ?_)
        have hh3 : A.in1.in1.in1.handled = none := by simp [hh]
        have hsz : (s.heap.push { cls := .type "set", dict := none, data := .set #[] 0 (.fresh 0 0 led) }).objs.size = s.heap.objs.size + 1 := Heap.size_push ..
        have hSI : s.heap.objs.size ≠ (s.heap.push { cls := .type "set", dict := none, data := .set #[] 0 (.fresh 0 0 led) }).objs.size := by
          rw [hsz]; exact Nat.ne_of_lt (Nat.lt_succ_self _)
        have htI : t ≠ (s.heap.push { cls := .type "set", dict := none, data := .set #[] 0 (.fresh 0 0 led) }).objs.size := by
          rw [hsz]; exact Nat.ne_of_lt (Nat.lt_succ_of_lt hlS)
        have hS0 : ((s.heap.push { cls := .type "set", dict := none, data := .set #[] 0 (.fresh 0 0 led) }).push { cls := .type "tuple_iterator", data := .fields #[.ref t, .int 0 0] }).SetOf (strKind prog w) s.heap.objs.size (fun _ => false) 0 :=
          (setObjOf_fresh (knd := strKind prog w) led).setOf (Heap.get?_push_of_some _ hS) (by unfold scanBound; omega)
        refine set_turn (i := 0) hSI htI (Nat.ne_of_lt hlS) ⟨_, Heap.get?_push_size _ rfl, rfl, rfl⟩ (hl1.push _) rfl hS0 (by unfold scanBound; omega) fun h₁ tk₁ it₁ ht₁ hS₁ k₁ => ?_
        refine set_turn (i := 1) hSI htI (Nat.ne_of_lt hlS) it₁ ht₁ rfl hS₁ (by unfold scanBound; simp) fun h₂ tk₂ it₂ ht₂ hS₂ k₂ => ?_
        refine set_last (i := 2) hh3 it₂ ht₂ rfl fun h₃ k₃ => ?_
        show wpAny _ _ _ _ _ _
        refine wpAny_pure ?_
        show wpAny _ _ (ret Value.none) _ _ _
        have hS₃ := SetOf_keep hS₂ fun o e => k₃ _ o hSI e
        have e : (if (false || decide (y = x)) = true then (if false = true then 0 else 0 + 1) else (if false = true then 0 else 0 + 1) + 1) = if x = y then 1 else 2 := by
          by_cases q : x = y
          · subst q; simp
          · have q' : ¬ y = x := fun z => q z.symm
            simp [q, q']
        rw [e] at hS₃
        refine wpAny_pure ⟨rfl, h₃, _, _, rfl, hS₃, fun b o hb e => ?_⟩
        · have hb1 : b ≠ s.heap.objs.size := Nat.ne_of_lt hb
          have hb2 : b ≠ (s.heap.push { cls := .type "set", dict := none, data := .set #[] 0 (.fresh 0 0 led) }).objs.size := by
            rw [hsz]; exact Nat.ne_of_lt (Nat.lt_succ_of_lt hb)
          exact k₃ b o hb2 (k₂ b o hb1 hb2 (k₁ b o hb1 hb2 (Heap.get?_push_of_some _ (Heap.get?_push_of_some _ e))))
      · cases r₂ with
        | error e => exact hr₂
        | ok fl₂ =>
          cases fl₂ with
          | ret r =>
            obtain ⟨rfl, h', tk, Sf, rfl, hS', hk'⟩ := hr₂
            repeat (any_goals (first | assumption | wp_step))
            exact h _ _ _ hS' hk'
          | _ => exact hr₂.elim
    | _ => exact hr.elim
end
section
variable {prog : Program} {w : World} {A : Around} {E : Value → Shared → Prop} {s : Shared} {h₀ : Heap} {L : Addr} {m : Str → Option Value} {news : List (Addr × Obj)}
theorem setTwo_N {t : Addr} {x y : Str} {tx ty : Tok} {n : Nat} {Q : Value → Shared → Prop} (F : Fr h₀ L s.heap m) (N : News h₀ L s.heap news)
    (hh : A.handled = none) (hm : (t, ({ cls := .type "tuple", data := .seq #[.str x tx, .str y ty] n } : Obj)) ∈ news)
    (h : ∀ h' (tk : Nat) o Sf, Fr h₀ L h' m → News h₀ L h' ((s.heap.objs.size, o) :: news) → o.SetObjOf (strKind prog w) Sf (if x = y then 1 else 2) →
      Q (.ref s.heap.objs.size) { s with heap := h', toks := tk }) :
    wpAny (model prog w) A (call (.type "set") [.ref t]) Q E s := by
  have ht : s.heap.IsTuple t #[.str x tx, .str y ty] := ⟨_, (N _ hm).1, rfl, n, rfl⟩
  refine call_set_two hh ht fun h' tk Sf hS hk => ?_
  obtain ⟨o, ho, hso⟩ := hS.objOf
  obtain ⟨oL, _, _, hL, _⟩ := F.ns
  have hLlt : L < s.heap.objs.size := Heap.lt_size hL
  refine h h' tk o Sf ⟨F.ns.at' fun o' e => hk L o' hLlt e, fun b o' e => hk b o' (Heap.lt_size (F.keep b o' e)) (F.keep b o' e), F.above⟩ (fun p hp => ?_) hso
  rcases List.mem_cons.mp hp with rfl | hp
  · refine ⟨ho, Nat.ne_of_gt hLlt, ?_⟩
    cases hq : h₀.get? s.heap.objs.size with
    | none => rfl
    | some o' => exact absurd (Heap.lt_size (F.keep _ _ hq)) (Nat.lt_irrefl _)
  · exact ⟨hk _ _ (Heap.lt_size (N p hp).1) (N p hp).1, (N p hp).2.1, (N p hp).2.2⟩
theorem lenTwo_N {sa : Addr} {so : Obj} {Sf : Str → Bool} {x y : Str} {Q : Value → Shared → Prop} (N : News h₀ L s.heap ((sa, so) :: news)) (hso : so.SetObjOf (strKind prog w) Sf (if x = y then 1 else 2))
    (h : Q (.int (if x = y then 1 else 2) (s.toks + 1)) { s with toks := s.toks + 1 + 1 }) : wpAny (model prog w) A (call (.builtin "len") [.ref sa]) Q E s := by
  refine len_sl1 (own := []) N hso (by split <;> omega) ?_
  have e : (((if x = y then 1 else 2 : Nat)) : Int) = if x = y then 1 else 2 := by split <;> rfl
  rw [e]; exact h
end
end Mine
end
section
open PySem PySem.W PyProof.Rows PySem.Spec
set_option Elab.async false
namespace Mine
section
variable {prog : Program} {w : World} {A : Around} {R : Result → Shared → Prop} {s : Shared}
/-- one turn of all(..) over a tuple that holds a str with a sign at this place -/
theorem all_turn {I t : Addr} {i : Nat} {items : Array Value} {k : Str} {tk : Tok} (htI : t ≠ I)
    (hit : s.heap.IsTupleIter I t i) (ht : s.heap.IsTuple t items) (hv : items[i]? = some (.str k tk)) (hk : 0 < k.length) (hk' : k.length < 2 ^ 62)
    (next : ∀ h' tk', h'.IsTupleIter I t (i + 1) → h'.IsTuple t items → (∀ b o, b ≠ I → s.heap.get? b = some o → h'.get? b = some o) →
      codeAny (model prog w) A (.builtin "all.loop" ⟨[.ref I], []⟩) R { s with heap := h', toks := tk' }) :
    codeAny (model prog w) A (.builtin "all.loop" ⟨[.ref I], []⟩) R s := by
  refine codeAny_builtin PySem.F.entry_all_loop ?_
  rw [Around.under_plainId PySem.F.plain_all_loop _]
  show wpAny _ A.in1 (pyNext (.ref I) >>= _) _ _ s
  refine wpAny_bind (wpAny_pyNext_tuple_item hit ht hv fun h₁ hit₁ hs₁ => ?_)
  refine wpAny_bind (wpAny_holding (P.truthy_str (by omega) ?_))
  refine wpAny_bind (wpAny_letGo ?_)
  have e : ((k.length : Int) != 0) = true := by simp; omega
  rw [e]
  simp only [if_true]
  refine wpAny_pure ⟨plainId_quiet PySem.F.plain_all_loop _, next h₁ _ hit₁ ?_ fun b o hb e => hs₁.extBut b o hb e⟩
  obtain ⟨o, ho, r⟩ := ht
  exact ⟨o, hs₁.extBut t o htI ho, r⟩
theorem all_last {I t : Addr} {i : Nat} {items : Array Value} (hh : A.handled = none)
    (hit : s.heap.IsTupleIter I t i) (ht : s.heap.IsTuple t items) (hv : items[i]? = none)
    (done : ∀ h', (∀ b o, b ≠ I → s.heap.get? b = some o → h'.get? b = some o) → R (.ok (.ret (.bool true))) { s with heap := h' }) :
    codeAny (model prog w) A (.builtin "all.loop" ⟨[.ref I], []⟩) R s := by
  refine codeAny_builtin PySem.F.entry_all_loop ?_
  rw [Around.under_plainId PySem.F.plain_all_loop _]
  show wpAny _ A.in1 (pyNext (.ref I) >>= _) _ _ s
  refine wpAny_bind (wpAny_pyNext_tuple_end (by simp [hh]) hit ht hv fun h₁ hs₁ => ?_)
  exact wpAny_bind (wpAny_rule (wpAny_pure (done h₁ fun b o hb e => hs₁ b o hb e)))
end
section
variable {prog : Program} {w : World} {A : Around} {E : Value → Shared → Prop} {s : Shared} {h₀ : Heap} {L : Addr} {m : Str → Option Value} {news : List (Addr × Obj)}
/-- all((x, y)) of two strs, none of them empty -/
theorem allTwo_N {t : Addr} {x y : Str} {tx ty : Tok} {n : Nat} {Q : Value → Shared → Prop} (F : Fr h₀ L s.heap m) (N : News h₀ L s.heap news)
    (hh : A.handled = none) (hm : (t, ({ cls := .type "tuple", data := .seq #[.str x tx, .str y ty] n } : Obj)) ∈ news)
    (hx : 0 < x.length) (hx' : x.length < 2 ^ 62) (hy : 0 < y.length) (hy' : y.length < 2 ^ 62)
    (h : ∀ h' (tk : Nat), Fr h₀ L h' m → News h₀ L h' news → Q (.bool true) { s with heap := h', toks := tk }) :
    wpAny (model prog w) A (call (.builtin "all") [.ref t]) Q E s := by
  have ht : s.heap.IsTuple t #[.str x tx, .str y ty] := ⟨_, (N _ hm).1, rfl, n, rfl⟩
  have hlt : t < s.heap.objs.size := Heap.lt_size (N _ hm).1
  refine call_function_tree PySem.F.kind_all PySem.F.plain_all PySem.F.entry_all (PySem.F.args_all1 _) ?_
  unfold Builtin.«all»
  refine wpAny_bind (m := PySem.oneArg "all" _) (wpAny_pure ?_)
  refine wpAny_bind (wpAny_pyIter_tuple ht ?_)
  refine wpAny_pure ⟨plainId_quiet PySem.F.plain_all_loop _, ?_⟩
  refine all_turn (i := 0) (Nat.ne_of_lt hlt) ⟨_, Heap.get?_push_size _ rfl, rfl, rfl⟩ (ht.push _) rfl hx hx' fun h₁ tk₁ it₁ ht₁ k₁ => ?_
  refine all_turn (i := 1) (Nat.ne_of_lt hlt) it₁ ht₁ rfl hy hy' fun h₂ tk₂ it₂ ht₂ k₂ => ?_
  refine all_last (i := 2) (by simp [hh]) it₂ ht₂ rfl fun h₃ k₃ => ?_
  have up : ∀ b o, s.heap.get? b = some o → h₃.get? b = some o := fun b o e => by
    have hb : b ≠ s.heap.objs.size := Nat.ne_of_lt (Heap.lt_size e)
    exact k₃ b o hb (k₂ b o hb (k₁ b o hb (Heap.get?_push_of_some _ e)))
  exact h h₃ _ (F.keeps up) (N.grown up)
end
end Mine
end
section
open PySem PySem.W PyProof.Rows PySem.Spec PySem.Calls
set_option Elab.async false
namespace Mine
namespace Mp
set_option maxRecDepth 100000
theorem owner_map : ".".intercalate ("map.__next__".cutAt '.').dropLast = "map" := by decide +kernel
theorem slot_init : Slot "map" "__init__" "object.__init__" :=
  .of (owner := "object") (n := "__init__") (by rw [typeLookup_type, builtinLookup_eq_fast]; kernel_rfl) (by decide +kernel) (by decide +kernel) (by decide +kernel)
    (by first | exact .inl (by decide +kernel) | exact .inr (by decide +kernel)) (by rw [isSubtype_type]; kernel_rfl)
theorem slot_iter : Slot "map" "__iter__" "map.__iter__" :=
  .of (owner := "map") (n := "__iter__") (by rw [typeLookup_type, builtinLookup_eq_fast]; kernel_rfl) (by decide +kernel) (by decide +kernel) (by decide +kernel)
    (by first | exact .inl (by decide +kernel) | exact .inr (by decide +kernel)) (by rw [isSubtype_type]; kernel_rfl)
theorem slot_next : Slot "map" "__next__" "map.__next__" :=
  .of (owner := "map") (n := "__next__") (by rw [typeLookup_type, builtinLookup_eq_fast]; kernel_rfl) (by decide +kernel) (by decide +kernel) (by decide +kernel)
    (by first | exact .inl (by decide +kernel) | exact .inr (by decide +kernel)) (by rw [isSubtype_type]; kernel_rfl)
theorem entry_next : entryFor table "map.__next__" = some Builtin.«map.__next__» := entryFor_of_tree (by kernel_rfl)
theorem entry_iter : entryFor table "map.__iter__" = some Builtin.«dict_keyiterator.__iter__» :=
  entryFor_alias (id' := "dict_keyiterator.__iter__") (by kernel_rfl) (by first | rfl | decide +kernel | (unfold String.splitOn; simp +decide [String.splitOnAux])) (by decide +kernel) (by kernel_rfl)
theorem args_iter (a : Value) : argsOk "map.__iter__" ⟨[a], []⟩ := by unfold argsOk; kernel_rfl
theorem args_next (a : Value) : argsOk "map.__next__" ⟨[a], []⟩ := by unfold argsOk; kernel_rfl
theorem mro_map : mroOf (.type "map") = pure [.type "map", .type "object"] := by rw [mroOf_type]; kernel_rfl
theorem lookup_new : typeLookup (.type "map") "__new__" = pure (some (.builtin "map.__new__")) := by rw [typeLookup_type, builtinLookup_eq_fast]; kernel_rfl
theorem called : TypeCalled "map" "map.__new__" "object.__init__" :=
  ⟨by decide +kernel, by decide +kernel, ⟨_, _, mro_map⟩, madeBy_type mro_map lookup_new (by decide +kernel), by decide +kernel, by rw [isSubtype_type]; kernel_rfl, slot_init⟩
theorem typeCall (a b : Value) : checkTypeCall "map" ⟨[a, b], []⟩ = pure () := by kernel_rfl
theorem newCall (a b : Value) : checkBuiltinCall "map.__new__" ⟨[.type "map", a, b], []⟩ = pure () := by kernel_rfl
theorem entry_new : entryFor table "map.__new__" = some Builtin.«map.__new__» := entryFor_of_tree (by kernel_rfl)
theorem args_object_init (a b c : Value) : argsOk "object.__init__" ⟨[a, b, c], []⟩ := PySem.F.args_object_init_3 a b c
theorem sub_map : isSubtype (.type "map") (.type "map") = pure true := by rw [isSubtype_type]; kernel_rfl
end Mp
end Mine
end
section
open PySem PySem.W PyProof.Rows PySem.Spec PySem.Calls
set_option Elab.async false
namespace Mine
abbrev mapH1 (h : Heap) (l : Addr) : Heap := h.push { cls := .type "list_iterator", data := .fields #[.ref l, .int 0 0] }
abbrev mapH2 (h : Heap) (l : Addr) : Heap := (mapH1 h l).push { cls := .type "tuple", data := .seq #[.ref h.objs.size] }
abbrev mapH3 (h : Heap) (l : Addr) (f : Value) : Heap := (mapH2 h l).push { cls := .type "map", data := .fields #[.ref (mapH1 h l).objs.size, f] }
theorem meets_map_new (f : Value) (l : Addr) (xs : Array Value) :
    Meets (Builtin.«map.__new__» ⟨[.type "map", f, .ref l], []⟩) (fun _ R s => s.heap.IsList l xs ∧
      R (.ok (.ret (.ref (mapH2 s.heap l).objs.size))) { s with heap := mapH3 s.heap l f }) :=
  .of_wp fun prog w A R s h => by
    obtain ⟨hp, g, d, tk, os⟩ := s; obtain ⟨hl, h⟩ := h
    have hsub := Mp.sub_map
    have hL : Heap.IsList (Shared.heap ⟨hp, g, d, tk, os⟩) l xs := hl
    wp_walk using wpAny_pyIter_list hL
    exact ⟨_, rfl, h⟩
abbrev IsMap (h : Heap) (M T : Addr) (f : Value) : Prop := h.get? M = some { cls := .type "map", dict := none, data := .fields #[.ref T, f], slots := #[] }
abbrev IsOne (h : Heap) (T : Addr) (a : Value) : Prop := h.get? T = some { cls := .type "tuple", data := .seq #[a] }
section
variable {prog : Program} {w : World} {A : Around} {E : Value → Shared → Prop} {s : Shared}
theorem call_map {f : Value} {l : Addr} {xs : Array Value} {Q : Value → Shared → Prop} (hl : s.heap.IsList l xs)
    (h : ∀ h', IsMap h' (s.heap.objs.size + 2) (s.heap.objs.size + 1) f → IsOne h' (s.heap.objs.size + 1) (.ref s.heap.objs.size) → h'.IsListIter s.heap.objs.size l 0 → h'.objs.size = s.heap.objs.size + 3 →
      (∀ c o, s.heap.get? c = some o → h'.get? c = some o) → Q (.ref (s.heap.objs.size + 2)) { s with heap := h' }) :
    wpAny (model prog w) A (call (.type "map") [f, .ref l]) Q E s := by
  refine callType_new Mp.called (by decide) (Mp.typeCall _ _) (Mp.newCall _ _) (fun obj => Mp.args_object_init obj _ _) Mp.entry_new
    (meets_map_new f l xs) ⟨hl, ?_⟩
  have z1 : (mapH1 s.heap l).objs.size = s.heap.objs.size + 1 := Heap.size_push ..
  have z2 : (mapH2 s.heap l).objs.size = s.heap.objs.size + 2 := by rw [Heap.size_push, z1]
  have z3 : (mapH3 s.heap l f).objs.size = s.heap.objs.size + 3 := by rw [Heap.size_push, z2]
  have g3 : (mapH3 s.heap l f).get? (mapH2 s.heap l).objs.size = some _ := Heap.get?_push_size _ rfl
  have g2 : (mapH3 s.heap l f).get? (mapH1 s.heap l).objs.size = some _ := Heap.get?_push_of_some _ (Heap.get?_push_size _ rfl)
  have g1 : (mapH3 s.heap l f).get? s.heap.objs.size = some _ := Heap.get?_push_of_some _ (Heap.get?_push_of_some _ (Heap.get?_push_size _ rfl))
  show _ ∧ _
  rw [z1, z2] at g3
  rw [z1] at g2
  rw [z2]
  exact ⟨⟨_, g3, rfl⟩, h _ g3 g2 ⟨_, g1, rfl, rfl⟩ z3 fun c o x => Heap.get?_push_of_some _ (Heap.get?_push_of_some _ (Heap.get?_push_of_some _ x))⟩
theorem pyIter_map {M T : Addr} {f : Value} {Q : Value → Shared → Prop} (hz : IsMap s.heap M T f) (h : Q (.ref M) s) : wpAny (model prog w) A (pyIter (.ref M)) Q E s := by
  have hT : s.TypeIs (.ref M) "map" := ⟨_, hz, rfl⟩
  refine wpAny_pyIter_slot hT Mp.slot_iter (wpAny_call_entry Mp.slot_iter hT Mp.entry_iter ?_ (Mp.args_iter _))
  show wpAny _ _ (ret (.ref M)) _ _ s
  exact wpAny_pure ⟨_, rfl, "map", _, hT, Mp.slot_next.lookup, h⟩
/-- the next of map(len, xs): a text's length -/
theorem pyNext_map_item {M T i l : Addr} {k : Nat} {xs : Array Value} {x : Str} {t : Tok} {Q : Option Value → Shared → Prop} (hiM : i ≠ M) (hiT : i ≠ T)
    (hz : IsMap s.heap M T (.builtin "len")) (hT : IsOne s.heap T (.ref i)) (hi : s.heap.IsListIter i l k) (hl : s.heap.IsList l xs) (hx : xs[k]? = some (.str x t)) (hfit : x.length < 2 ^ 62)
    (hQ : ∀ h' tk t', h'.IsListIter i l (k + 1) → (∀ c o, c ≠ i → s.heap.get? c = some o → h'.get? c = some o) → Q (some (.int x.length t')) { s with heap := h', toks := tk }) :
    wpAny (model prog w) A (pyNext (.ref M)) Q E s := by
  have hty : s.TypeIs (.ref M) "map" := ⟨_, hz, rfl⟩
  unfold pyNext
  refine wpAny_bind (wpAny_attempt (wpAny_callSpecial?_slot (name := Str.ofString "__next__") hty Mp.slot_next
    (wpAny_call_entry Mp.slot_next hty Mp.entry_next ?_ (Mp.args_next _))))
  show wpAny _ _ (field (.ref M) 0 >>= _) _ _ _
  refine wpAny_bind (wpAny_field hz rfl (x := .ref T) rfl ?_)
  refine wpAny_bind (wpAny_seqItems hT rfl ?_)
  dsimp only
  rw [show (#[Value.ref i] : Array Value) = [Value.ref i].toArray from rfl, List.forIn_toArray, List.forIn_cons]
  refine wpAny_bind (wpAny_bind (wpAny_bind (wpAny_holding (wpAny_nextOf_list_item hi hl hx fun h₁ hit₁ hs₁ => wpAny_pure ?_))))
  dsimp only
  rw [List.forIn_nil]
  have hz₁ : IsMap h₁ M T (.builtin "len") := hs₁.extBut M _ (Ne.symm hiM) hz
  refine wpAny_pure (wpAny_bind (wpAny_field hz₁ rfl (x := .builtin "len") rfl ?_))
  refine wpAny_bind (wpAny_holding ?_)
  show wpAny _ _ (call (.builtin "len") [.str x t]) _ _ _
  refine P.len_str (by omega) ?_
  refine wpAny_bind (wpAny_letGo ?_)
  refine wpAny_pure ⟨_, rfl, wpAny_pure (hQ _ _ _ hit₁ fun c o hc e => hs₁.extBut c o hc e)⟩
theorem pyNext_map_end {M T i l : Addr} {k : Nat} {xs : Array Value} {f : Value} {Q : Option Value → Shared → Prop} (hh : A.handled = none) 
    (hz : IsMap s.heap M T f) (hT : IsOne s.heap T (.ref i)) (hi : s.heap.IsListIter i l k) (hl : s.heap.IsList l xs) (hx : xs[k]? = none)
    (hQ : ∀ h', (∀ c o, c ≠ i → s.heap.get? c = some o → h'.get? c = some o) → Q none { s with heap := h' }) :
    wpAny (model prog w) A (pyNext (.ref M)) Q E s := by
  have hty : s.TypeIs (.ref M) "map" := ⟨_, hz, rfl⟩
  unfold pyNext
  refine wpAny_bind (wpAny_attempt (wpAny_callSpecial?_slot (name := Str.ofString "__next__") hty Mp.slot_next
    (wpAny_call_entry Mp.slot_next hty Mp.entry_next ?_ (Mp.args_next _))))
  show wpAny _ _ (field (.ref M) 0 >>= _) _ _ _
  refine wpAny_bind (wpAny_field hz rfl (x := .ref T) rfl ?_)
  refine wpAny_bind (wpAny_seqItems hT rfl ?_)
  dsimp only
  rw [show (#[Value.ref i] : Array Value) = [Value.ref i].toArray from rfl, List.forIn_toArray, List.forIn_cons]
  refine wpAny_bind (wpAny_bind (wpAny_bind (wpAny_holding (wpAny_nextOf_list_end (by simp [hh]) hi hl hx fun h₁ e hs₁ he => ?_))))
  obtain ⟨o, ho, hc⟩ := he
  refine wpAny_bind (wpAny_isInstance (T := "StopIteration") (b := true) ⟨o, ho, hc⟩ isSubtype_stop ?_)
  exact wpAny_pure (hQ _ fun c o hc e => hs₁ c o hc e)
/-- map(len, [x, y]) walked by a built-in -/
theorem walks_map (hh : A.handled = none) {M T i l : Addr} {x y : Str} {tx ty : Tok} (hiM : i ≠ M) (hiT : i ≠ T) (hil : i ≠ l) (hx : x.length < 2 ^ 62) (hy : y.length < 2 ^ 62) :
    Walks prog w A M [M, T, i, l] [i] 2 (fun k v => ∃ t, v = .int (([(x.length : Int), (y.length : Int)]).getD k 0) t)
      (fun k h => IsMap h M T (.builtin "len") ∧ IsOne h T (.ref i) ∧ h.IsListIter i l k ∧ h.IsList l #[.str x tx, .str y ty]) where
  sub := fun b hb => by simp at hb; simp [hb]
  frame := fun _ h h' st hk => ⟨hk M (by simp) _ st.1, hk T (by simp) _ st.2.1, st.2.2.1.at fun o e => hk i (by simp) o e, st.2.2.2.at fun o e => hk l (by simp) o e⟩
  item := fun k s Q E hk st hQ => by
    obtain ⟨z1, z2, z3, z4⟩ := st
    have up : ∀ h', (∀ c o, c ≠ i → s.heap.get? c = some o → h'.get? c = some o) → IsMap h' M T (.builtin "len") ∧ IsOne h' T (.ref i) ∧ h'.IsList l #[.str x tx, .str y ty] := fun h' e =>
      ⟨e M _ (Ne.symm hiM) z1, e T _ (Ne.symm hiT) z2, z4.at fun o q => e l o (Ne.symm hil) q⟩
    rcases (by omega : k = 0 ∨ k = 1) with rfl | rfl
    · exact pyNext_map_item hiM hiT z1 z2 z3 z4 rfl hx fun h' tk t' it e => hQ _ h' tk ⟨t', rfl⟩ ⟨(up h' e).1, (up h' e).2.1, it, (up h' e).2.2⟩ fun b o hb q => e b o (fun c => hb (by simp [c])) q
    · exact pyNext_map_item hiM hiT z1 z2 z3 z4 rfl hy fun h' tk t' it e => hQ _ h' tk ⟨t', rfl⟩ ⟨(up h' e).1, (up h' e).2.1, it, (up h' e).2.2⟩ fun b o hb q => e b o (fun c => hb (by simp [c])) q
  done := fun s Q E st hQ => by
    obtain ⟨z1, z2, z3, z4⟩ := st
    exact pyNext_map_end hh z1 z2 z3 z4 rfl fun h' e => hQ h' s.toks fun b o hb q => e b o (fun c => hb (by simp [c])) q
  self := fun _ _ _ _ st hQ => pyIter_map st.1 hQ
end
section
variable {prog : Program} {w : World} {A : Around} {E : Value → Shared → Prop} {s : Shared} {h₀ : Heap} {L : Addr} {m : Str → Option Value} {news : List (Addr × Obj)}
/-- the made map object -/
abbrev mapObj (T : Addr) : Obj := { cls := .type "map", dict := none, data := .fields #[.ref T, .builtin "len"], slots := #[] }
theorem mapLen_N {l : Addr} {x y : Str} {tx ty : Tok} {n : Nat} {Q : Value → Shared → Prop} (F : Fr h₀ L s.heap m) (N : News h₀ L s.heap news)
    (hm : (l, ({ cls := .type "list", data := .seq #[.str x tx, .str y ty] n } : Obj)) ∈ news)
    (h : ∀ h' M T i o3, Fr h₀ L h' m → News h₀ L h' ((M, mapObj T) :: (T, { cls := .type "tuple", data := .seq #[.ref i] }) :: (i, o3) :: news) → (o3.cls = .type "list_iterator" ∧ o3.data = .fields #[.ref l, .int 0 0]) → M ≠ i → T ≠ i → i ≠ l → (∀ p ∈ news, p.1 ≠ i) →
      Q (.ref M) { s with heap := h' }) :
    wpAny (model prog w) A (call (.type "map") [.builtin "len", .ref l]) Q E s := by
  have hl : s.heap.IsList l #[.str x tx, .str y ty] := ⟨_, (N _ hm).1, rfl, n, rfl⟩
  have lt : ∀ p ∈ news, p.1 < s.heap.objs.size := fun p hp => Heap.lt_size (N p hp).1
  refine call_map hl fun h' z1 z2 z3 hsz k => ?_
  obtain ⟨o3, ho3, hc3, hd3⟩ := z3
  have fr0 : ∀ a, s.heap.objs.size ≤ a → h₀.get? a = none := fun a ha => by
    cases e : h₀.get? a with
    | none => rfl
    | some o' => exact absurd (Heap.lt_size (F.keep a o' e)) (Nat.not_lt.mpr ha)
  have hLlt : L < s.heap.objs.size := F.ns.lt
  refine h h' (s.heap.objs.size + 2) (s.heap.objs.size + 1) s.heap.objs.size o3 (F.keeps k) (fun p hp => ?_) ⟨hc3, hd3⟩ (by show @Ne Nat _ _; omega) (by show @Ne Nat _ _; omega) (Nat.ne_of_gt (lt _ hm)) fun p hp => Nat.ne_of_lt (lt p hp)
  rcases List.mem_cons.mp hp with rfl | hp
  · exact ⟨z1, by show @Ne Nat (s.heap.objs.size + 2) L; have : @LT.lt Nat _ L s.heap.objs.size := hLlt; omega, fr0 _ (by show s.heap.objs.size ≤ s.heap.objs.size + 2; omega)⟩
  · rcases List.mem_cons.mp hp with rfl | hp
    · exact ⟨z2, by show @Ne Nat (s.heap.objs.size + 1) L; have : @LT.lt Nat _ L s.heap.objs.size := hLlt; omega, fr0 _ (by show s.heap.objs.size ≤ s.heap.objs.size + 1; omega)⟩
    · rcases List.mem_cons.mp hp with rfl | hp
      · exact ⟨ho3, Nat.ne_of_gt hLlt, fr0 _ (Nat.le_refl _)⟩
      · exact ⟨k _ _ (N p hp).1, (N p hp).2⟩
/-- max(map(len, [x, y])) -/
theorem maxMap_N {M T i l : Addr} {x y : Str} {tx ty : Tok} {n : Nat} {o3 : Obj} {Q : Value → Shared → Prop} (hh : A.handled = none) (F : Fr h₀ L s.heap m)
    (N : News h₀ L s.heap ((M, mapObj T) :: (T, { cls := .type "tuple", data := .seq #[.ref i] }) :: (i, o3) :: news)) (h3 : o3.cls = .type "list_iterator" ∧ o3.data = .fields #[.ref l, .int 0 0]) (hMi : M ≠ i) (hTi : T ≠ i) (hil : i ≠ l) (hn : ∀ p ∈ news, p.1 ≠ i)
    (hm : (l, ({ cls := .type "list", data := .seq #[.str x tx, .str y ty] n } : Obj)) ∈ news) (hx : x.length < 2 ^ 62) (hy : y.length < 2 ^ 62)
    (h : ∀ h' tk t, Fr h₀ L h' m → News h₀ L h' news → Q (.int (if y.length > x.length then y.length else x.length) t) { s with heap := h', toks := tk }) :
    wpAny (model prog w) A (call (.builtin "max") [.ref M]) Q E s := by
  have zM : IsMap s.heap M T (.builtin "len") := (N _ List.mem_cons_self).1
  have zT : IsOne s.heap T (.ref i) := (N _ (List.mem_cons_of_mem _ List.mem_cons_self)).1
  have ni := N _ (List.mem_cons_of_mem _ (List.mem_cons_of_mem _ List.mem_cons_self))
  have zI : s.heap.IsListIter i l 0 := ⟨o3, ni.1, h3.1, h3.2⟩
  have nl := N _ (List.mem_cons_of_mem _ (List.mem_cons_of_mem _ (List.mem_cons_of_mem _ hm)))
  have zL : s.heap.IsList l #[.str x tx, .str y ty] := ⟨_, nl.1, rfl, n, rfl⟩
  refine call_max_walk (pyIter_map zM ⟨M, _, _, 2, _, _, _, rfl, walks_map (by simp [hh]) (Ne.symm hMi) (Ne.symm hTi) hil hx hy, ⟨zM, zT, zI, zL⟩, ?_, by omega, CmpOf.ints_gt (fun k => ([(x.length : Int), (y.length : Int)]).getD k 0) (fun _ _ q => q), ?_⟩)
  · intro b hb
    simp only [List.mem_cons, List.not_mem_nil, or_false] at hb
    rcases hb with rfl | rfl | rfl | rfl
    · exact Heap.lt_size zM
    · exact Heap.lt_size zT
    · exact Heap.lt_size ni.1
    · exact Heap.lt_size nl.1
  · rintro v h' tk ⟨t, rfl⟩ hk
    have F' : Fr h₀ L h' m := ⟨F.ns.at' fun o e => hk L o (by simpa using Ne.symm ni.2.1) e, fun b o e => hk b o (fun q => by
      rw [List.mem_singleton.mp q, ni.2.2] at e; cases e) (F.keep b o e), F.above⟩
    have N' : News h₀ L h' news := fun p hp => ⟨hk _ _ (by simpa using hn p hp) (N p (List.mem_cons_of_mem _ (List.mem_cons_of_mem _ (List.mem_cons_of_mem _ hp)))).1, (N p (List.mem_cons_of_mem _ (List.mem_cons_of_mem _ (List.mem_cons_of_mem _ hp)))).2⟩
    have key := h h' tk t F' N'
    have e : ([(x.length : Int), (y.length : Int)]).getD (argBest (fun i j => decide (([(x.length : Int), (y.length : Int)]).getD i 0 > ([(x.length : Int), (y.length : Int)]).getD j 0)) (2 - 1)) 0 = ((if y.length > x.length then y.length else x.length : Nat) : Int) := by
      show ([(x.length : Int), (y.length : Int)]).getD (if decide ((y.length : Int) > (x.length : Int)) = true then 1 else 0) 0 = _
      by_cases q : y.length > x.length
      · have : (y.length : Int) > (x.length : Int) := by omega
        simp [this, q]
      · have : ¬ (y.length : Int) > (x.length : Int) := by omega
        simp [this, q]
    rw [e]
    have e2 : ((if y.length > x.length then y.length else x.length : Nat) : Int) = if y.length > x.length then (y.length : Int) else (x.length : Int) := by split <;> rfl
    rw [e2]; exact key
end
end Mine
end
section
open PySem PySem.W PyProof.Rows
set_option Elab.async false
namespace Mine
/-- what a call of the function at `f` with `vs` hands back, for every caller -/
abbrev Tells (w : World) (f : Addr) (dpn unn : Nat) (news : Led) (vs : List Value) (R : Tok → Value) : Prop :=
  ∀ (mean : ExcName → Option Value) (mg mb : Str → Option Value) (dp un : Nat) (gd : Option (List Code)) (cn : Str) (nm : List (Str × NameKind)) (ig ic : Bool) (mo : List (Str × Const)) (a : Addr) (ccd : Value) (cl : List (Str × Addr)) (outer : List Env) (A₀ : Around) (base h₀ : Heap) (L : Addr) (m : Str → Option Value) (s : Shared) (Q E : Value → Shared → Prop),
    Below A₀ base outer h₀ → Fr h₀ L s.heap m → Frag.In (hd.heap_39 w.params) h₀ → News h₀ L s.heap news →
    Top hd.view_39 (looseW hd.view_39 [Str.ofString "Base", Str.ofString "LCSSeq", Str.ofString "Hamming", Str.ofString "Levenshtein"]) mean mg mb h₀ →
    dp + dpn < recursionLimit → un + unn < cLine →
    (∀ (t : Tok) (h' : Heap) (tk' : Nat), Fr h₀ L h' m → News h₀ L h' news → Q (R t) { s with heap := h', toks := tk' }) →
      wpAny (model PySem.Challenge.pw_fq5042_01 w) (ktrTop dp un gd cn ⟨.function, nm, ig, ic, mo⟩ L a ccd cl outer) (call (.ref f) vs) Q E s
/-- an object of Levenshtein (or of another class) as its __init__ leaves it -/
abbrev obj3 (w : World) (C ob dx : Addr) (t1 t2 t3 t4 : Tok) (news : Led) : Led :=
  (ob, instObj C dx) :: (dx, dictOf [DictEntry.mk (PyData.keyHash w.params (Str.ofString "qval")) (Value.str (Str.ofString "qval") t1) (Value.int 1 t4), DictEntry.mk (PyData.keyHash w.params (Str.ofString "test_func")) (Value.str (Str.ofString "test_func") t2) (Value.ref 100), DictEntry.mk (PyData.keyHash w.params (Str.ofString "external")) (Value.str (Str.ofString "external") t3) (Value.bool true)] 3) :: news
/-- the same of the code of a def, entered by an object's own call -/
abbrev TellsC (w : World) (f : Addr) (dpn unn : Nat) (news : Led) (vs : List Value) (R : Tok → Value) : Prop :=
  ∀ (mean : ExcName → Option Value) (mg mb : Str → Option Value) (dp un : Nat) (gd : Option (List Code)) (cn : Str) (nm : List (Str × NameKind)) (ig ic : Bool) (mo : List (Str × Const)) (a : Addr) (ccd : Value) (cl : List (Str × Addr)) (outer : List Env) (A₀ : Around) (base h₀ : Heap) (L : Addr) (m : Str → Option Value) (s : Shared) (Q E : Value → Shared → Prop),
    Below A₀ base outer h₀ → Fr h₀ L s.heap m → Frag.In (hd.heap_39 w.params) h₀ → News h₀ L s.heap news →
    Top hd.view_39 (looseW hd.view_39 [Str.ofString "Base", Str.ofString "LCSSeq", Str.ofString "Hamming", Str.ofString "Levenshtein"]) mean mg mb h₀ →
    dp + dpn < recursionLimit → un + unn < cLine →
    (∀ (t : Tok) (h' : Heap) (tk' : Nat), Fr h₀ L h' m → News h₀ L h' news → Q (R t) { s with heap := h', toks := tk' }) →
      codeAny (model PySem.Challenge.pw_fq5042_01 w) (ktrTop dp un gd cn ⟨.function, nm, ig, ic, mo⟩ L a ccd cl outer) (.call (.ref f) ⟨vs, []⟩) (fun r s' => match r with | .ok (.ret v) => Q v s' | .ok _ => False | .error e => E e s') s
end Mine
end
section
open PySem PySem.W PyProof.Rows
set_option Elab.async false
namespace Mine
/-- the sum of the places, counted from 1, at which x has a b -/
def lawSum (x : Str) : Int := List.sum (List.foldl (fun l k => if Txt.item x k = "b" then l ++ [k + 1] else l) [] (rangeKs 0 (x.length - 0 : Int).toNat))
local macro_rules | `(tactic| k_room) => `(tactic| ktr_room)
local macro_rules | `(tactic| walk_at "CompEnd") => `(tactic| (
   refine' LCg.CompEnd.intro ?e1 ?e2 ?nn ?e4 ?e5 ?e6 ?e7
   (case e7 => (
     kpf_tidy
     first
     | (refine kci_el ?kce (by with_unfolding_all rfl) (by with_unfolding_all rfl); (case kce => kpf_eq))
     | (refine kci_no ?kce (by with_unfolding_all rfl); (case kce => kpf_eq))
     | (refine kcf_el ?kce (by with_unfolding_all rfl) (by with_unfolding_all rfl); (case kce => kpf_eq))
     | (refine kct_el ?kce (by with_unfolding_all rfl) (by with_unfolding_all rfl); (case kce => kpf_eq))))
   (case e1 => assumption)
   (case e2 => assumption)
   (case e4 => kcf_all)
   (case e5 => first | assumption | (simp only [LCg.Off3, and_true]; done) | (simp only [LCg.Off3, and_true]; assumption))
   (case e6 => first | lcg_src | assumption)))
set_option maxRecDepth 100000 in
theorem fillK1InC1 : True ∨ (PySem.Challenge.rw_fq5042_01 = PySem.Challenge.rw_fq5042_01 ∧ hd.heap_39 = hd.heap_39) := by w_top off; k_fill; exact .inl trivial
set_option maxRecDepth 100000 in
set_option maxHeartbeats 8000000 in
theorem law_sum_tells (w : World) (news : Led) (x : Str) (tx : Tok) (hx : x.length ≤ 8) : Tells w 298 5 20 news [.str x tx] (fun t => .int (lawSum x) t) := by
  intro mean mg mb dp un gd cn nm ig ic mo a ccd cl outer A₀ base h₀ L m s Q E B F X N T hd hu hret
  refine wpAny_call ?_
  k_dflt k_enter
  k_steps
  refine cb_retI (Q := Q) hret ?_ (by assumption) (cb_drop (by assumption) (by kcf_all))
  unfold lawSum
  congr 2
  funext l k
  by_cases q : Txt.item x k = "b"
  · rw [q]; rfl
  · simp [q]
end Mine
end
section
open PySem PySem.W PyProof.Rows
set_option Elab.async false
namespace Mine
local macro_rules | `(tactic| k_room) => `(tactic| ktr_room)
local macro_rules | `(tactic| walk_at "call type:set cons nil") => `(tactic| (k_here; k_dflt (refine setTwo_N (by k_asm) (by k_asm) (by rfl) (by k_mem) ?_); intro hS' tkS' oS' SfS' F' N' hso'))
local macro_rules | `(tactic| walk_at "call builtin:len") => `(tactic| (k_here; k_dflt (refine lenTwo_N (by k_asm) (by assumption) ?_)))
set_option maxRecDepth 100000 in
theorem fillKInC2 : True ∨ (PySem.Challenge.rw_fq5042_01 = PySem.Challenge.rw_fq5042_01 ∧ hd.heap_39 = hd.heap_39) := by w_top off; k_fill; exact .inl trivial
/-- any frame of a function on top -/
abbrev topE (dp un : Nat) (gd : Option (List Code)) (cn : Str) (cs : Scope) (lc gl : Addr) (fu : Option Addr) (L bi : Addr) (ccd : Value) (cl : List (Str × Addr)) (outer : List Env) : Around :=
  { handled := none, depth := dp, frames := some ({ scope := cs, locals := lc, globals := gl, cells := cl, qual := cn, func := fu, code := ccd, frame := some L, builtins := bi } :: outer), guards := gd, units := un }
set_option maxRecDepth 100000 in
set_option maxHeartbeats 8000000 in
theorem ident_any (w : World) (news : Led) (x y : Str) (tx ty : Tok) (mean : ExcName → Option Value) (mg mb : Str → Option Value) (dp un : Nat) (gd : Option (List Code)) (cn : Str) (nm : List (Str × NameKind)) (ig ic : Bool) (mo : List (Str × Const)) (lc gl : Addr) (fu : Option Addr) (bi : Addr) (ccd : Value) (cl : List (Str × Addr)) (outer : List Env) (A₀ : Around) (base h₀ : Heap) (L : Addr) (m : Str → Option Value) (s : Shared) (Q E : Value → Shared → Prop)
    (B : Below A₀ base outer h₀) (F : Fr h₀ L s.heap m) (X : Frag.In (hd.heap_39 w.params) h₀) (N : News h₀ L s.heap news)
    (T : Top hd.view_39 (looseW hd.view_39 [Str.ofString "Base", Str.ofString "LCSSeq", Str.ofString "Hamming", Str.ofString "Levenshtein"]) mean mg mb h₀)
    (hd : dp + 3 < recursionLimit) (hu : un + 20 < cLine) (hret : ∀ (t : Tok) (h' : Heap) (tk' : Nat), Fr h₀ L h' m → News h₀ L h' news → Q (.bool (x == y)) { s with heap := h', toks := tk' }) :
    wpAny (model PySem.Challenge.pw_fq5042_01 w) (topE dp un gd cn ⟨.function, nm, ig, ic, mo⟩ lc gl fu L bi ccd cl outer) (call (.ref 100) [.str x tx, .str y ty]) Q E s := by
  refine wpAny_call ?_
  k_dflt k_enter
  k_steps
  all_goals (refine cb_retB (Q := Q) hret ?_ (by k_asm) (cb_drop (by assumption) (by kcf_all)))
  by_cases q : x = y
  · subst q; simp
  · have q' : (x == y) = false := by simpa using q
    rw [if_neg q, q']; rfl
theorem ident_tells (w : World) (news : Led) (x y : Str) (tx ty : Tok) : Tells w 100 3 20 news [.str x tx, .str y ty] (fun _ => .bool (x == y)) := by
  intro mean mg mb dp un gd cn nm ig ic mo a ccd cl outer A₀ base h₀ L m s Q E B F X N T hd hu hret
  exact ident_any w news x y tx ty mean mg mb dp un gd _ nm ig ic mo _ _ _ _ ccd cl outer A₀ base h₀ L m s Q E B F X N T hd hu hret
end Mine
end
section
open PySem PySem.W PyProof.Rows
set_option Elab.async false
set_option hygiene false
namespace Mine
local macro_rules | `(tactic| k_room) => `(tactic| ktr_room)
local macro_rules | `(tactic| walk_at "CompSrc") => `(tactic| (k_here; (try k_fmods); (try kcf_lens); k_dflt (refine LCg.CompSrc.range (by rfl) (by k_asm) (by k_asm) (by assumption) (by first | exact small_one (by kcf_bnd) (by kcf_bnd) (by kcf_bnd) (by kcf_bnd) | decide) (by first | exact rangeSize_nat _ _ | rfl) (by first | exact Nat.le_of_ble_eq_true rfl | (rw [PySem.sizeLine_eq]; omega)) ?_; intro g'; (refine' rows_rest (y.length + 1) (fun _ => 0) (fun v' I' oI' C' oC' D' m' ys' h' tk' E' rl' hC' hx' F' N' off' ne' => ?_) (fun rl' hl' hr' hf' ho' => ?_)); (all_goals (try (simp only [LCg.Off3, and_true] at off'))); kcf_last)))
local macro_rules | `(tactic| walk_at "subscriptTail") => `(tactic| (k_here; (with_reducible show wpAny _ _ (subscriptTail _ _ (Value.ref _) (Value.int _ _)) _ _ _); first
  | (with_unfolding_all refine' tab_item ?k1 ?k2 ?k3 ?k4 ?k5 ?k6 ?_ ?k7; (case k1 => assumption); (case k2 => assumption); (case k3 => assumption); (case k4 => omega); (case k5 => omega); (case k6 => omega); (case k7 => with_unfolding_all rfl); k_whole; intro tI')
  | (with_unfolding_all refine' tab_row ?k1 ?k2 ?k4 ?k5 ?k6 ?_ ?k7; (case k1 => assumption); (case k2 => assumption); (case k4 => omega); (case k5 => omega); (case k6 => omega); (case k7 => with_unfolding_all rfl); k_whole; intro rI' hI')
  | (with_unfolding_all refine' tab_item (own := [_]) ?k1 ?k2 ?k3 ?k4 ?k5 ?k6 ?_ ?k7; (case k1 => assumption); (case k2 => assumption); (case k3 => assumption); (case k4 => omega); (case k5 => omega); (case k6 => omega); (case k7 => with_unfolding_all rfl); k_whole; intro tI')
  | (with_unfolding_all refine' tab_row (own := [_]) ?k1 ?k2 ?k4 ?k5 ?k6 ?_ ?k7; (case k1 => assumption); (case k2 => assumption); (case k4 => omega); (case k5 => omega); (case k6 => omega); (case k7 => with_unfolding_all rfl); k_whole; intro rI' hI')))
local macro_rules | `(tactic| walk_at "setItem ref int") => `(tactic| (k_here; (with_reducible show wpAny _ _ (setItem (Value.ref _) (Value.int _ _) (Value.int _ _)) _ _ _); (with_unfolding_all refine' tab_store ?k1 ?k2 ?k3 ?k4 ?k5 ?k6 ?k7 ?k8 ?_; (case k1 => assumption); (case k2 => assumption); (case k3 => assumption); (case k4 => assumption); (case k5 => assumption); (case k6 => omega); (case k7 => omega); (case k8 => omega); k_whole; intro hS' nS' F' N' hT' hm')))
local macro_rules | `(tactic| walk_at "exec While BoolOp") => `(tactic| (k_here; k_dflt (refine dyn_while (x := x) (y := y) (by assumption) (by assumption) (DynJ.start rfl rfl rfl ((((Same.refl _ _).put (by simp)).put (by simp)).put (by simp))) (fun n5 m5 h5 tk5 F' N' J5 => ?_)); obtain ⟨_, i5, j5, ti5, tj5, tr5, r5, rfl, hi5, hj5, hr5, hb5, q1, q2, q3, S5⟩ := J5; obtain rfl := S5.at3 q1 q2 q3; clear q1 q2 q3 S5; have hc5 := mem_tl N' hc1))
set_option maxRecDepth 100000 in
theorem fillKInC3 : True ∨ (PySem.Challenge.rw_fq5042_01 = PySem.Challenge.rw_fq5042_01 ∧ hd.heap_39 = hd.heap_39) := by w_top off; k_fill; exact .inl trivial
set_option maxRecDepth 100000 in
set_option maxHeartbeats 8000000 in
theorem dynamic_tells (w : World) (news : Led) (ob : Addr) (x y : Str) (tx ty : Tok) (hx : x.length ≤ 8) (hy : y.length ≤ 8) : Tells w 203 5 20 news [.ref ob, .str x tx, .str y ty] (fun t => .str (dyn x y) t) := by
  intro mean mg mb dp un gd cn nm ig ic mo a ccd cl outer A₀ base h₀ L m s Q E B F X N T hd hu hret
  refine wpAny_call ?_
  k_dflt k_enter
  k_steps
  · rename_i D1 h1 F1 N1 i1 n1 s1 e1 e2 e3 l1
    obtain ⟨_, q1, q2, q3, q4, q5⟩ := l1
    have ⟨o1, r1, N2⟩ : ∃ o, RowObj (y.length + 1) (fun _ => 0) o ∧ News _ _ _ ((D1, o) :: _) := ⟨_, row_zeros (e := ((y.length : Nat) : Int) + 1) (by omega), N1⟩
    refine LCg.CompEnd.intro F1 N2 (_ :: (D1, o1) :: (rl' ++ news)) ?_ ⟨off'.1, ⟨Nat.ne_of_gt q1, Nat.ne_of_gt q2, Nat.ne_of_gt q3⟩, off'.2⟩ trivial ⟨D1, _, rfl, rfl, fun p hp => ?_, r1⟩
    · kcf_all
    · rcases List.mem_cons.mp hp with e | hp
      · rw [e]; exact q4
      · exact allLt_mem q5 p hp
  · rename_i D1 h1 tk1 F1 N1 o1 h2 e2 F2 N2 P2
    obtain ⟨rs, hrs, T0⟩ : ∃ rs : List Addr, rs.length = x.length + 1 ∧ Tab D1 rs (y.length + 1) (tabAt (signs x) (signs y) 0 0) _ _ := ⟨_, by simp [hl'], (tab_made hl' hr' hf' ho' o1).of_eq fun i j _ _ => tabAt_start _ _ i j⟩
    refine pair_loop_tab [Str.ofString "j", Str.ofString "char2", Str.ofString "i", Str.ofString "char1"] (fun i => tabAt (signs x) (signs y) i 0) P2 rfl T0 (fun i1 a1 t1 v1 m1 news1 h1 tk1 own1 ha1 hv1 hs1 hT1 hm1 ho1 F' N' => ?_) (fun h1 tk1 m1 news1 F' N' hs1 hT1 hm1 => ?_)
    · obtain ⟨w1, w2, w3, w4, rfl⟩ := hs1.ex4
      obtain ⟨u1, rfl⟩ := ItemKind.str_is hv1
      have hc1 := List.mem_append_right own1 (hT1.has _ List.mem_cons_self)
      have hi1 : i1 < x.length := by rw [← signs_length]; exact (List.getElem?_eq_some_iff.mp ha1).1
      k_steps
      rename_i h3 e3 F3 N3 P3
      refine pair_loop_tab [Str.ofString "j", Str.ofString "char2"] (fun j => tabAt (signs x) (signs y) i1 j) P3 rfl (tab_own hT1 ho1) (fun j1 b1 t2 v2 m2 news2 h2 tk2 own2 hb1 hv2 hs2 hT2 hm2 ho2 F' N' => ?_) (fun h2 tk2 m2 news2 F' N' hs2 hT2 hm2 => ?_)
      · obtain ⟨w5, w6, rfl⟩ := hs2.ex2
        obtain ⟨u2, rfl⟩ := ItemKind.str_is hv2
        have hj1 : j1 < y.length := by rw [← signs_length]; exact (List.getElem?_eq_some_iff.mp hb1).1
        k_steps
        · rw [tab_fill (tab_eq ha1 hb1 (by assumption))] at hT'
          exact pair_next F' N' hm' ⟨((hs2.put (by simp)).put (by simp)), hT'⟩
        · rw [tab_fill (tab_ne ha1 hb1 (by assumption))] at hT'
          exact pair_next F' N' hm' ⟨((hs2.put (by simp)).put (by simp)), hT'⟩
      · obtain ⟨news3, hm3, hT3, hsub3⟩ := tab_split hT1 ho1 hm2 hT2
        k_steps
        refine pair_next F' (fun p hp => N' p (hsub3 p hp)) hm3 ⟨Same.trans (fun z hz => ?_) (hs2.mono (by simp)), hT3.of_eq fun a b _ hb => tabAt_next (by rw [signs_length]; omega)⟩
        simp only [List.mem_cons, List.not_mem_nil, or_false, not_or] at hz
        obtain ⟨z1, z2, z3, z4⟩ := hz
        simp only [z1, z2, z3, z4, if_false]
    · obtain ⟨w1, w2, w3, w4, rfl⟩ := hs1.ex4
      have hc1 := hT1.has _ List.mem_cons_self
      obtain ⟨T, hTe, hT0⟩ : ∃ T : Nat → Nat → Int, (∀ a b, T a b = (lcs (signs x) (signs y) a b : Int)) ∧ Tab D1 rs (y.length + 1) T _ news1 := ⟨fun a b => (lcs (signs x) (signs y) a b : Int), fun _ _ => rfl, hT1.of_eq fun a b ha _ => tabAt_here (by rw [signs_length]; omega)⟩
      clear hT1
      k_steps
      · rename Fr _ _ _ _ => F9
        rename News _ _ _ _ => N9
        exact DynStep.intro (i := i5 - 1) (j := j5) F9 N9 (fun _ h => h) rfl rfl rfl (by intro z hz; simp only [List.mem_cons, List.not_mem_nil, or_false, not_or] at hz; obtain ⟨z1, z2, z3⟩ := hz; simp only [z1, z2, z3, if_false]) (by omega) (by omega) (by omega) (by omega) (by omega) (by omega) (dyn_up hTe (by omega) (by omega) (by assumption) hb5)
      · rename Fr _ _ _ _ => F9
        rename News _ _ _ _ => N9
        exact DynStep.intro (i := i5) (j := j5 - 1) F9 N9 (fun _ h => h) rfl rfl rfl (by intro z hz; simp only [List.mem_cons, List.not_mem_nil, or_false, not_or] at hz; obtain ⟨z1, z2, z3⟩ := hz; simp only [z1, z2, z3, if_false]) (by omega) (by omega) (by omega) (by omega) (by omega) (by omega) (dyn_left hTe (by omega) (by omega) (by assumption) (by assumption) hb5)
      · rename Fr _ _ _ _ => F9
        rename News _ _ _ _ => N9
        exact DynStep.intro (i := i5 - 1) (j := j5 - 1) F9 N9 (fun _ h => h) rfl rfl rfl (by intro z hz; simp only [List.mem_cons, List.not_mem_nil, or_false, not_or] at hz; obtain ⟨z1, z2, z3⟩ := hz; simp only [z1, z2, z3, if_false]) (by omega) (by omega) (by omega) (by omega) (by omega) (by omega) (dyn_both hTe (by omega) (by omega) hi5 (by assumption) (by assumption) hb5)
      · exact (dyn_assert hTe (by omega) (by omega) hi5 hj5 (by assumption) (by assumption) (by assumption)).elim
      · exact cb_retS (Q := Q) hret (dyn_end (by omega) hb5) (by assumption) (cb_drop (by assumption) fun p hp => List.mem_cons_of_mem _ (hT0.has p (List.mem_cons_of_mem _ hp)))
      · exact cb_retS (Q := Q) hret (dyn_end (by omega) hb5) (by assumption) (cb_drop (by assumption) fun p hp => List.mem_cons_of_mem _ (hT0.has p (List.mem_cons_of_mem _ hp)))
end Mine
end
section
open PySem PySem.W PyProof.Rows
set_option Elab.async false
set_option hygiene false
namespace Mine
local macro_rules | `(tactic| k_room) => `(tactic| ktr_room)
local macro_rules | `(tactic| walk_at "exec For Name Call cons nil") => `(tactic| (k_here; (rename Fr _ _ _ _ => lF'); (with_unfolding_all refine' For_stop lF' ?k1 ?k2 ?_; (case k1 => exact rfl); (case k2 => exact rfl); k_whole)))
local macro_rules | `(tactic| walk_at "call ref") => `(tactic| (k_here; (with_reducible show wpAny _ _ (call (Value.ref 100) [Value.str _ _, Value.str _ _]) _ _ _); k_dflt (refine' ident_tells _ _ _ _ _ _ _ _ _ _ _ _ _ _ _ _ _ _ _ _ _ _ _ _ _ _ _ _ _ ?k1 ?k2 ?k3 ?k4 ?k5 ?k6 ?k7 ?_; (case k1 => k_asm); (case k2 => k_asm); (case k3 => k_asm); (case k4 => k_asm); (case k5 => k_asm); (case k6 => ktr_room); (case k7 => ktr_units)); intro t9 h9 tk9 F' N'; (try dsimp only); (try k_fold)))
local macro_rules | `(tactic| walk_at "subscriptTail") => `(tactic| (k_here; (with_reducible show wpAny _ _ (subscriptTail _ _ (Value.ref _) (Value.int _ _)) _ _ _); first
  | (with_unfolding_all refine' row1_get ?k1 ?k2 ?k4 ?k5 ?k6 ?_ ?k7; (case k1 => assumption); (case k2 => assumption); (case k4 => omega); (case k5 => omega); (case k6 => omega); (case k7 => with_unfolding_all rfl); k_whole; intro tI')
  | (with_unfolding_all refine' row_get ?k1 ?k2 ?k3 ?k4 ?k5 ?k6 ?_ ?k7; (case k1 => assumption); (case k2 => assumption); (case k3 => assumption); (case k4 => omega); (case k5 => omega); (case k6 => omega); (case k7 => with_unfolding_all rfl); k_whole; intro tI')))
local macro_rules | `(tactic| walk_at "setItem ref int") => `(tactic| (k_here; (with_reducible show wpAny _ _ (setItem (Value.ref _) (Value.int _ _) (Value.int _ _)) _ _ _); (with_unfolding_all refine' row1_set ?k1 ?k2 ?k4 ?k6 ?k7 ?k8 ?_; (case k1 => assumption); (case k2 => assumption); (case k4 => assumption); (case k6 => omega); (case k7 => omega); (case k8 => omega); k_whole; intro hS' nS' F' N' hT' hm')))
local macro_rules | `(tactic| walk_at "call builtin:min") => `(tactic| (k_here; (with_reducible show wpAny _ _ (call (Value.builtin _) [Value.int _ _, Value.int _ _, Value.int _ _]) _ _ _); (refine min_three_N (by rfl) (by assumption) (by assumption) ?_); intro h9 tk9 t9 F' N'))
local macro_rules | `(tactic| walk_at "subscriptTail") => `(tactic| (k_here; (with_reducible show wpAny _ _ (subscriptTail _ _ (Value.ref _) (Value.int (-1) _)) _ _ _); (with_unfolding_all refine' row1_last ?k1 ?k2 ?k4 ?_ ?k7; (case k1 => assumption); (case k2 => assumption); (case k4 => omega); (case k7 => with_unfolding_all rfl); k_whole; intro tI')))
set_option maxRecDepth 100000 in
theorem fillK4InC4 : True ∨ (PySem.Challenge.rw_fq5042_01 = PySem.Challenge.rw_fq5042_01 ∧ hd.heap_39 = hd.heap_39) := by w_top off; k_fill; exact .inl trivial
set_option maxRecDepth 100000 in
set_option maxHeartbeats 8000000 in
theorem cycled_tells (w : World) (news : Led) (ob dx : Addr) (t1 t2 t3 t4 : Tok) (x y : Str) (tx ty : Tok) (hx : x.length ≤ 8) (hy : y.length ≤ 8) : Tells w 281 8 40 (obj3 w 291 ob dx t1 t2 t3 t4 news) [.ref ob, .str x tx, .str y ty] (fun t => .int (levD x y) t) := by
  intro mean mg mb dp un gd cn nm ig ic mo a ccd cl outer A₀ base h₀ L m s Q E B F X N T hd hu hret
  refine wpAny_call ?_
  k_dflt k_enter
  k_steps
  rename_i D1 vs1 c1 h1 tk1 i1 l1 h2 F2 N2 h3 tk3 t5 u5 v5 r3 F3 N3 o3
  have hR0 : Row1 D1 (y.length + 1) (fun j => (lev (signs x) (signs y) 0 j : Int)) (obj3 w 291 ob dx t1 t2 t3 t4 news) ((D1, W.listOf vs1.toArray c1) :: obj3 w 291 ob dx t1 t2 t3 t4 news) := by
    refine Row1.of_eq (f := fun j => (j : Int)) ⟨⟨_, List.mem_cons_self, row_range i1 (by omega)⟩, fun p hp => List.mem_cons_of_mem _ hp, fun p hp => ?_⟩ fun j _ => by rw [lev_zero_left]
    obtain ⟨l2, l3, l4⟩ := l1
    rcases List.mem_cons.mp hp with e | hp
    · rw [e]; exact Nat.ne_of_lt l2
    · rcases List.mem_cons.mp hp with e | hp
      · rw [e]; exact Nat.ne_of_lt l3
      · exact Nat.ne_of_lt (allLt_mem l4 p hp)
  refine range_loop (LevJ x y (obj3 w 291 ob dx t1 t2 t3 t4 news)) rfl rfl F3 N3 r3 (small_one (by omega) (by omega) (by omega) (by omega)) (n := x.length) (by rw [rangeSize_nat]; omega) ⟨Same.refl _ _, D1, rfl, hR0⟩ (fun i6 t6 m6 news6 h6 tk6 own6 hi6 hJ6 ho6 F' N' => ?_) (fun h6 tk6 m6 news6 F' N' hJ6 => ?_)
  · obtain ⟨hs6, c6, hc6, hR6⟩ := hJ6
    obtain ⟨w1, m7, e7, q7⟩ := hs6.cons
    obtain ⟨w2, m8, e8, q8⟩ := q7.cons
    obtain ⟨w3, m9, e9, q9⟩ := q8.cons
    obtain ⟨w4, m10, e10, q10⟩ := q9.cons
    obtain ⟨w5, m11, e11, q11⟩ := q10.cons
    obtain ⟨w6, m12, e12, q12⟩ := q11.cons
    obtain ⟨w7, m13, e13, q13⟩ := q12.cons
    obtain ⟨w8, m14, e14, q14⟩ := q13.cons
    have e15 := q14.nil
    clear q7 q8 q9 q10 q11 q12 q13 q14
    subst e15 e14 e13 e12 e11 e10 e9 e8 e7
    obtain rfl : w1 = some (.ref c6) := hc6
    k_steps
    rename_i c7 ws7 h7 i7 l7 tp7 h8 l8 h9 F9 N9 h10 h11 F11 N11 h12 tk12 t12 u12 v12 r12 F12 N12 o12
    obtain ⟨o6, hm6, hr6⟩ := hR6.row
    obtain ⟨_, _, _, lt7⟩ := l7
    have hR7 : Row1 c7 (y.length + 1) (fun j => if j ≤ 0 then (lev (signs x) (signs y) (i6 + 1) j : Int) else 0) (own6 ++ news6) _ := (row1_new N12 (row_first i7 (by omega)) (allLt_mem lt7)).of_eq fun j _ => by
      by_cases e : j = 0
      · subst e; rw [if_pos rfl, if_pos (Nat.le_refl _), lev_zero_right]; omega
      · rw [if_neg e, if_neg (by omega)]
    refine range_loop (LevK x y i6 c7 (own6 ++ news6)) rfl rfl F12 N12 r12 (small_one (by omega) (by omega) (by omega) (by omega)) (n := y.length) (by rw [rangeSize_nat]; omega) ⟨Same.refl _ _, hR7⟩ (fun j7 t7 m7 news7 h7 tk7 own7 hj7 hJ7 ho7 F' N' => ?_) (fun h7 tk7 m7 news7 F' N' hJ7 => ?_)
    · obtain ⟨q6, hR8⟩ := hJ7
      obtain ⟨z1, m8, e7, q7⟩ := q6.cons
      obtain ⟨z2, m9, e8, q8⟩ := q7.cons
      obtain ⟨z3, m10, e9, q9⟩ := q8.cons
      obtain ⟨z4, m11, e10, q10⟩ := q9.cons
      obtain ⟨z5, m12, e11, q11⟩ := q10.cons
      have e12 := q11.nil
      clear q6 q7 q8 q9 q10 q11
      subst e12 e11 e10 e9 e8 e7
      have hR9 := hR8.lift ho7
      have hp7 : (c6, o6) ∈ own7 ++ news7 := List.mem_append_right _ (hR8.has _ (List.mem_append_right _ hm6))
      have hob : (ob, instObj 291 dx) ∈ own7 ++ news7 := List.mem_append_right _ (hR8.has _ (List.mem_append_right _ (hR6.has _ List.mem_cons_self)))
      have hdx := List.mem_append_right own7 (hR8.has _ (List.mem_append_right own6 (hR6.has _ (List.mem_cons_of_mem _ List.mem_cons_self))))
      k_steps
      rw [lev_fill hi6 hj7 rfl] at hT'
      obtain ⟨o9, N10, R10, ho10⟩ := hT'.pick N' (fun p hp q hq => ho7 p hp q (hR8.has q hq))
      refine RStep.go F' N10 ho10 ⟨?_, R10⟩
      intro z hz
      simp only [List.mem_cons, List.not_mem_nil, or_false, not_or] at hz
      obtain ⟨y1, y2, y3, y4, y5⟩ := hz
      simp only [y1, y2, y3, y4, y5, if_false]
    · obtain ⟨q6, hR8⟩ := hJ7
      k_steps
      obtain ⟨o9, N10, R10, ho10⟩ := (hR8.weaken (rest' := own6 ++ obj3 w 291 ob dx t1 t2 t3 t4 news) fun p hp => (List.mem_append.mp hp).elim (List.mem_append_left _) fun h => List.mem_append_right _ (hR6.has p h)).pick N' (fun p hp q hq => ho6 p hp q (hR6.has q hq))
      refine RStep.go F' N10 ho10 ⟨Same.trans (fun z hz => ?_) (q6.mono (by simp)), c7, (q6 _ (by decide)).trans rfl, R10.of_eq fun j hj => if_pos (by omega)⟩
      simp only [List.mem_cons, List.not_mem_nil, or_false, not_or] at hz
      obtain ⟨y1, y2, y3, y4, y5, y6, y7, y8⟩ := hz
      simp only [y1, y2, y3, y4, y5, y6, y7, y8, if_false]
  · obtain ⟨q6, c8, hc8, hR8⟩ := hJ6
    obtain ⟨w1, m7, e7, q7⟩ := q6.cons
    subst e7
    obtain rfl : w1 = some (.ref c8) := hc8
    clear q6 q7
    k_steps
    all_goals (refine cb_retI (Q := Q) hret ?_ (by assumption) (cb_drop (by assumption) hR8.has))
    all_goals (unfold levD; simp)
end Mine
end
section
open PySem PySem.W PyProof.Rows
set_option Elab.async false
set_option hygiene false
namespace Mine
local macro_rules | `(tactic| k_room) => `(tactic| ktr_room)
local macro_rules | `(tactic| walk_at "call ref") => `(tactic| (k_here; (with_reducible show wpAny _ _ (call (Value.ref 100) [Value.str _ _, Value.str _ _]) _ _ _); k_dflt (refine' ident_tells _ _ _ _ _ _ _ _ _ _ _ _ _ _ _ _ _ _ _ _ _ _ _ _ _ _ _ _ _ ?k1 ?k2 ?k3 ?k4 ?k5 ?k6 ?k7 ?_; (case k1 => k_asm); (case k2 => k_asm); (case k3 => k_asm); (case k4 => k_asm); (case k5 => k_asm); (case k6 => ktr_room); (case k7 => ktr_units)); intro t9 h9 tk9 F' N'; (try dsimp only); (try k_fold)))
local macro_rules | `(tactic| walk_at "call ref") => `(tactic| (k_here; (with_reducible show wpAny _ _ (call (Value.ref 281) [Value.ref _, Value.str _ _, Value.str _ _]) _ _ _); k_dflt (refine' cycled_tells w news ob dx t1 t2 t3 t4 x y _ _ hx hy _ _ _ _ _ _ _ _ _ _ _ _ _ _ _ _ _ _ _ _ _ _ _ ?k1 ?k2 ?k3 ?k4 ?k5 ?k6 ?k7 ?_; (case k1 => k_asm); (case k2 => k_asm); (case k3 => k_asm); (case k4 => exact cb_drop (by assumption) (by kcf_all)); (case k5 => k_asm); (case k6 => ktr_room); (case k7 => ktr_units)); intro t9 h9 tk9 F' N'; (try dsimp only); (try k_fold)))
local macro_rules | `(tactic| k_enter) => `(tactic| (kp_kind "rest"; (fail_if_success k_inElt); (refine' rest_cells ?k1 ?k2 ?k3 ?k4 ?k5 ?kA ?kF ?kK ?k6 ?k7 ?k8 ?kV ?kP ?kG ?kB ?kD ?_ ?c2 ?c3 ?c4; (case kA => exact rfl); (case kF => exact rfl); (case kK => exact rfl); (case k1 => k_asm); (case k2 => k_asm); (case k3 => k_asm); (case k4 => k_asm); (case k5 => k_asm); (case k6 => k_is); (case k7 => k_is); (case k8 => k_room); (case kV => kl_lit); (case kP => exact rfl); (case kG => exact fun _ => rfl); (case kB => exact fun _ => rfl); (case kD => decide +kernel); (case c2 => exact rfl); (case c3 => exact rfl); (case c4 => exact rfl); k_whole; intro D' g' L' h' tk' cells' l1 FG' F' N' Y' B' X' T' l2; (try k_lt l1); (try k_lt l2); k_cells Y'; (try simp only [List.cons_append, List.nil_append] at N'); (try dsimp only); (try k_lift B'); (try k_fold))))
local macro_rules | `(tactic| walk_at "eval Call Attribute") => `(tactic| (k_here; (with_reducible show wpAny _ _ (eval (Expr.Call (Expr.Attribute (Expr.Name _ _) _ _) (Expr.Starred _ _ :: _) [] _) _) _ _ _); refine MethodStar_ (by rfl) ?_))
local macro_rules | `(tactic| walk_at "getAttr ref") => `(tactic| (k_here; k_dflt (refine' get_sm ?k1 ?k2 ?k4 ?k5 ?k6 ?k7 ?k9 ?k10 ?k11 ?k12 ?k13 ?k14 ?_; (case k1 => k_asm); (case k2 => k_asm); (case k4 => k_inst); (case k5 => k_is); (case k6 => k_is); (case k7 => k_is); (case k9 => k_is); (case k10 => k_is); (case k11 => decide +kernel); (case k12 => k_get); (case k13 => k_is); (case k14 => k_handed); k_whole)))
local macro_rules | `(tactic| walk_at "call builtin:all") => `(tactic| (k_here; (with_reducible show wpAny _ _ (call (Value.builtin _) [Value.ref _]) _ _ _); k_dflt (refine allTwo_N (by k_asm) (by k_asm) (by rfl) (by k_mem) (by omega) (by omega) (by omega) (by omega) ?_); intro hS' tkS' F' N'))
set_option maxRecDepth 100000 in
theorem fillK6InC6 : True ∨ (PySem.Challenge.rw_fq5042_01 = PySem.Challenge.rw_fq5042_01 ∧ hd.heap_39 = hd.heap_39) := by w_top off; k_fill; exact .inl trivial
set_option maxRecDepth 100000 in
set_option maxHeartbeats 8000000 in
theorem lev_tells (w : World) (news : Led) (ob dx : Addr) (t1 t2 t3 t4 : Tok) (x y : Str) (tx ty : Tok) (hx : x.length ≤ 8) (hy : y.length ≤ 8) (hx1 : 0 < x.length) (hy1 : 0 < y.length) (hne : (x == y) = false) : TellsC w 288 16 80 (obj3 w 291 ob dx t1 t2 t3 t4 news) [.ref ob, .str x tx, .str y ty] (fun t => .int (levD x y) t) := by
  intro mean mg mb dp un gd cn nm ig ic mo a ccd cl outer A₀ base h₀ L m s Q E B F X N T hd hu hret
  k_dflt k_enter
  k_steps
  exact cb_retI (Q := Q) hret rfl (by assumption) (by assumption)
end Mine
end
section
open PySem PySem.W PyProof.Rows
set_option Elab.async false
namespace Mine
section
variable {prog : Program} {w : World} {A : Around} {E : Value → Shared → Prop} {s : Shared} {h₀ : Heap} {L : Addr} {m : Str → Option Value} {news : List (Addr × Obj)}
/-- a mark: the ledger that a turn found -/
def Before (_ : List (Addr × Obj)) : Prop := True
theorem CompRest_succ9 {env : Env} {elt : PySem.Expr} {x : Str} {scope : Scope} {cl : List (Str × Addr)} {S : List (Addr × Obj) → Prop} {P : Nat → Value → Prop} {Fin : List Value → List (Addr × Obj) → Prop} {k i : Nat} {ys : List Value}
    (h : Before news → ∀ v I oI C oC D m₂ h tk (E' : Value → Shared → Prop), P i v → LCg.NsObj oC m₂ → m₂ x = some v → Fr h₀ L h m → News h₀ L h ((I, oI) :: (C, oC) :: (D, LCg.lst ys) :: news) → LCg.Off3 I C D news → ((@Ne Nat I C) ∧ (@Ne Nat I D) ∧ (@Ne Nat C D)) →
      wpAny (model prog w) A (eval elt (compEnvC scope cl C env)) (LCg.CompEnd h₀ L m { s with heap := h, toks := tk } I oI C oC D (LCg.lst ys) S (fun y news' => LCg.CompRest prog w A h₀ L m env elt x scope cl s S P Fin k (i + 1) (ys ++ [y]) news')) E' { s with heap := h, toks := tk }) :
    LCg.CompRest prog w A h₀ L m env elt x scope cl s S P Fin (k + 1) i ys news := h trivial
theorem end_one {I C D d : Addr} {oI oC oD o : Obj} {S : List (Addr × Obj) → Prop} {rest : Value → List (Addr × Obj) → Prop} {y : Value} {h' : Heap} {tk : Nat} {before all : List (Addr × Obj)} (_mk : Before before)
    (F : Fr h₀ L h' m) (N : News h₀ L h' all) (sub : ∀ p ∈ (I, oI) :: (C, oC) :: (D, oD) :: (d, o) :: before, p ∈ all) (off : LCg.Off3 I C D before) (o1 : @Ne Nat d I) (o2 : @Ne Nat d C) (o3 : @Ne Nat d D) (hS : S ((d, o) :: before)) (r : rest y ((d, o) :: before)) :
    LCg.CompEnd h₀ L m s I oI C oC D oD S rest y { s with heap := h', toks := tk } := LCg.CompEnd.intro F N ((d, o) :: before) sub ⟨⟨o1, o2, o3⟩, off⟩ hS r
/-- [None] * 0 -/
theorem mulNone_N {b : Addr} {c : Nat} {k : Int} {t : Tok} {Q : Value → Shared → Prop} (F : Fr h₀ L s.heap m) (N : News h₀ L s.heap news) (hm : (b, W.listOf #[Value.none] c) ∈ news) (hz : k = 0)
    (h : ∀ D h', Fr h₀ L h' m → News h₀ L h' ((D, W.listOf #[] 0) :: news) → AllLt D news → Q (.ref D) { s with heap := h' }) : wpAny (model prog w) A (binaryOp .Mult (.ref b) (.int k t)) Q E s := by
  subst hz
  exact KMa.mul (vs := [Value.none]) (ws := []) F N ⟨_, (N _ hm).1, rfl, _, rfl⟩ (by decide) (by decide) (by decide) rfl fun D h' F' N' l => h D h' F' N' (allLt_of l)
/-- a list and an empty one -/
theorem addNil_N {a b : Addr} {ys : List Value} {c c' : Nat} {Q : Value → Shared → Prop} (F : Fr h₀ L s.heap m) (N : News h₀ L s.heap news) (ha : (a, W.listOf ys.toArray c) ∈ news) (hb : (b, W.listOf #[] c') ∈ news) (hn : ys.length ≤ 8)
    (h : ∀ D h', Fr h₀ L h' m → News h₀ L h' ((D, W.listOf ys.toArray 0) :: news) → AllLt D news → Q (.ref D) { s with heap := h' }) : wpAny (model prog w) A (binaryOp .Add (.ref a) (.ref b)) Q E s :=
  kmk_add_lit (zs := ys) F N ⟨_, (N _ ha).1, rfl, _, rfl⟩ ⟨_, (N _ hb).1, rfl, _, rfl⟩ (by simp) (fun D h' F' N' l => h D h' F' N' (allLt_of l)) (by rw [PySem.sizeLine_eq]; simp; omega)
theorem carried_short {ys : List Value} {x : Str} (h : CarriedAll ys ((signs x).map PyData.str)) (hx : x.length ≤ 8) : ys.length ≤ 8 := by
  rw [h.length_eq, List.length_map]
  unfold signs
  simp only [List.length_map, Array.length_toList]
  exact hx
end
end Mine
end
section
open PySem PySem.W PyProof.Rows PySem.Spec PySem.Calls
set_option Elab.async false
set_option maxRecDepth 100000
namespace Mine
/-- a zip of two, whatever its memory of the tuple that it last gave -/
abbrev ZipIs (h : Heap) (z TI TO : Addr) (f0 : Value) (fb : Bool) : Prop :=
  h.get? z = some { cls := .type "zip", dict := none, data := .fields #[f0, .bool fb, .bool false, .ref TI, .ref TO], slots := #[] }
def OwnedOk (f0 : Value) : Prop := f0 = .none ∨ ∃ T : Nat, f0 = rawInt T
section
variable {prog : Program} {w : World} {A : Around} {E : Value → Shared → Prop} {s : Shared}
theorem owned_look {z TI TO : Addr} {f0 : Value} {fb : Bool} {Q : Bool → Shared → Prop} (hz : ZipIs s.heap z TI TO f0 fb) (hf : OwnedOk f0) (free : Q true s)
    (busy : ∀ h' fb', ZipIs h' z TI TO f0 fb' → Heap.SameBut z s.heap h' → Q false { s with heap := h' }) : wpAny (model prog w) A (Builtin.SmallTypes.ownedTupleIsFree (.ref z)) Q E s := by
  unfold Builtin.SmallTypes.ownedTupleIsFree
  rcases hf with rfl | ⟨T, rfl⟩
  · exact wpAny_bind (wpAny_field hz rfl (x := .none) rfl (wpAny_pure free))
  · refine wpAny_bind (wpAny_field hz rfl (x := rawInt T) rfl ?_)
    show wpAny _ _ (.loadIfAlive (T : Int).toNat _) _ _ _
    intro Γ p hΓ
    rw [Sem.wp_loadIfAlive]
    revert Γ p hΓ
    show wpAny (model prog w) A _ _ _ _
    cases hg : s.heap.get? (T : Int).toNat with
    | none => exact wpAny_pure free
    | some o =>
      show wpAny _ _ (field (.ref z) 1 >>= _) _ _ _
      refine wpAny_bind (wpAny_field hz rfl (x := .bool fb) rfl ?_)
      cases fb with
      | true => exact wpAny_bind (wpAny_pure (wpAny_pure (busy s.heap true hz (Heap.SameBut.refl ..))))
      | false =>
        show wpAny _ _ (setField (.ref z) 1 (.bool true) >>= _) _ _ _
        exact wpAny_bind (wpAny_setField_rec hz (by simp) fun h' hz' hs' => wpAny_pure (busy h' true hz' hs'))

def ZipAt (h : Heap) (z TI TO i1 i2 l1 l2 : Addr) (xs ys : Array Value) (k : Nat) : Prop :=
  (∃ f0 fb, OwnedOk f0 ∧ ZipIs h z TI TO f0 fb) ∧ IsPair h TI (.ref i1) (.ref i2) ∧ (∃ a b, IsPair h TO a b) ∧ h.IsListIter i1 l1 k ∧ h.IsListIter i2 l2 k ∧ h.IsList l1 xs ∧ h.IsList l2 ys

theorem zip_item {z TI TO i1 i2 l1 l2 : Addr} {k : Nat} {xs ys : Array Value} {x y : Value} {Q : Value → Shared → Prop} (D : ZipApart z TI TO i1 i2 l1 l2)
    (st : ZipAt s.heap z TI TO i1 i2 l1 l2 xs ys k) (hx : xs[k]? = some x) (hy : ys[k]? = some y)
    (hQ : ∀ h' (T : Addr), ZipAt h' z TI TO i1 i2 l1 l2 xs ys (k + 1) → IsPair h' T x y → @LE.le Nat _ s.heap.objs.size T →
      (∀ c o, c ≠ z → c ≠ TO → c ≠ i1 → c ≠ i2 → s.heap.get? c = some o → h'.get? c = some o) → Q (.ref T) { s with heap := h' }) :
    wpAny (model prog w) A (Builtin.«zip.__next__» ⟨[.ref z], []⟩) (fun fin s' => ∃ v, fin = .done (.ret v) ∧ Q v s') E s := by
  obtain ⟨⟨f0, fb, hf0, hz⟩, hTI, ⟨a, b, hTO⟩, h1, h2, hl1, hl2⟩ := st
  show wpAny _ _ (field (.ref z) 2 >>= _) _ _ _
  refine wpAny_bind (wpAny_field hz rfl (x := .bool false) rfl ?_)
  show wpAny _ _ (field (.ref z) 3 >>= _) _ _ _
  refine wpAny_bind (wpAny_field hz rfl (x := .ref TI) rfl ?_)
  refine wpAny_bind (wpAny_seqItems hTI rfl ?_)
  show wpAny _ _ (Builtin.SmallTypes.ownedTupleIsFree (.ref z) >>= _) _ _ _
  refine wpAny_bind (owned_look hz hf0 ?_ fun h₀ fb' hz₀ hs₀ => ?_)
  · simp only [if_true]
    refine wpAny_bind (wpAny_rule ?_)
    refine wpAny_bind (wpAny_field hz rfl (x := .ref TO) rfl ?_)
    refine wpAny_bind (wpAny_setField_rec hz (by simp) fun h₁ hz₁ hs₁ => ?_)
    replace hz₁ : ZipIs h₁ z TI TO .ellipsis fb := hz₁
    refine wpAny_bind ?_
    simp only [List.zipIdx_cons, List.zipIdx_nil, List.forIn_cons, List.forIn_nil]
    refine wpAny_bind (wpAny_bind (wpAny_onRaise ?_))
    show wpAny _ _ (Builtin.SmallTypes.nextOf (.ref i1) >>= _) _ _ _
    refine wpAny_bind (wpAny_nextOf_list_item (h1.extBut hs₁.extBut D.i1z) (hl1.extBut hs₁.extBut D.l1z) hx fun h₂ h1₂ hs₂ => wpAny_pure ?_)
    have hTO₂ : IsPair h₂ TO a b := hs₂.extBut _ _ D.TOi1 (hs₁.extBut _ _ D.TOz hTO)
    refine wpAny_bind (wpAny_seqItems hTO₂ rfl ?_)
    refine wpAny_bind (wpAny_updateSeq_pair hTO₂ fun h₃ hTO₃ hs₃ => ?_)
    replace hTO₃ : IsPair h₃ TO x b := hTO₃
    refine wpAny_bind (wpAny_letGo (wpAny_pure ?_))
    refine wpAny_bind (wpAny_bind (wpAny_onRaise ?_))
    show wpAny _ _ (Builtin.SmallTypes.nextOf (.ref i2) >>= _) _ _ _
    refine wpAny_bind (wpAny_nextOf_list_item (((h2.extBut hs₁.extBut D.i2z).extBut hs₂.extBut D.i12.symm).extBut hs₃.extBut D.TOi2.symm)
      (((hl2.extBut hs₁.extBut D.l2z).extBut hs₂.extBut D.l2i1).extBut hs₃.extBut D.l2TO) hy fun h₄ h2₄ hs₄ => wpAny_pure ?_)
    have hTO₄ : IsPair h₄ TO x b := hs₄.extBut _ _ D.TOi2 hTO₃
    refine wpAny_bind (wpAny_seqItems hTO₄ rfl ?_)
    refine wpAny_bind (wpAny_updateSeq_pair hTO₄ fun h₅ hTO₅ hs₅ => ?_)
    replace hTO₅ : IsPair h₅ TO x y := hTO₅
    refine wpAny_bind (wpAny_letGo (wpAny_pure (wpAny_pure ?_)))
    refine wpAny_bind (wpAny_seqItems hTO₅ rfl ?_)
    refine wpAny_bind (wpAny_newTuple ?_)
    have hsz : h₅.objs.size = s.heap.objs.size := by rw [hs₅.1, hs₄.1, hs₃.1, hs₂.1, hs₁.1]
    have hz₅ : ZipIs h₅ z TI TO .ellipsis fb := hs₅.extBut _ _ D.TOz.symm (hs₄.extBut _ _ D.i2z.symm (hs₃.extBut _ _ D.TOz.symm (hs₂.extBut _ _ D.i1z.symm hz₁)))
    have hk₅ : ∀ c o, c ≠ z → c ≠ TO → c ≠ i1 → c ≠ i2 → s.heap.get? c = some o → h₅.get? c = some o := fun c o c1 c2 c3 c4 e =>
      hs₅.extBut _ _ c2 (hs₄.extBut _ _ c4 (hs₃.extBut _ _ c2 (hs₂.extBut _ _ c3 (hs₁.extBut _ _ c1 e))))
    have h1₅ : h₅.IsListIter i1 l1 (k + 1) := ((h1₂.extBut hs₃.extBut D.TOi1.symm).extBut hs₄.extBut D.i12).extBut hs₅.extBut D.TOi1.symm
    have h2₅ : h₅.IsListIter i2 l2 (k + 1) := h2₄.extBut hs₅.extBut D.TOi2.symm
    have hzlt : z < h₅.objs.size := Heap.lt_size hz₅
    have hl1₅ : h₅.IsList l1 xs := hl1.at fun o e => hk₅ _ o D.l1z D.l1TO D.l1i1 D.l1i2 e
    have hl2₅ : h₅.IsList l2 ys := hl2.at fun o e => hk₅ _ o D.l2z D.l2TO D.l2i1 D.l2i2 e
    have hTI₅ : IsPair h₅ TI (.ref i1) (.ref i2) := hk₅ _ _ D.TIz D.TITO D.TIi1 D.TIi2 hTI
    show wpAny _ _ (Builtin.SmallTypes.ownedTupleHandOut (.ref z) (.ref h₅.objs.size) >>= _) _ _ _
    refine wpAny_bind ?_
    unfold Builtin.SmallTypes.ownedTupleHandOut
    have hz₆ : ZipIs (h₅.push { cls := .type "tuple", data := .seq #[x, y] }) z TI TO .ellipsis fb := Heap.get?_push_of_some _ hz₅
    refine wpAny_bind (wpAny_setField_rec hz₆ (by simp) fun h₇ hz₇ hs₇ => ?_)
    replace hz₇ : ZipIs h₇ z TI TO (rawInt h₅.objs.size) fb := hz₇
    refine wpAny_setField_rec hz₇ (by simp) fun h₈ hz₈ hs₈ => ?_
    replace hz₈ : ZipIs h₈ z TI TO (rawInt h₅.objs.size) false := hz₈
    have up : ∀ c o, c ≠ z → h₅.get? c = some o → h₈.get? c = some o := fun c o c1 e => hs₈.extBut _ _ c1 (hs₇.extBut _ _ c1 (Heap.get?_push_of_some _ e))
    have hT₈ : IsPair h₈ h₅.objs.size x y := hs₈.extBut _ _ (Nat.ne_of_gt hzlt) (hs₇.extBut _ _ (Nat.ne_of_gt hzlt) (Heap.get?_push_size _ rfl))
    refine wpAny_pure ⟨_, rfl, ?_⟩
    show Q (.ref h₅.objs.size) _
    exact hQ h₈ _ ⟨⟨_, _, .inr ⟨_, rfl⟩, hz₈⟩, up _ _ D.TIz hTI₅, ⟨_, _, up _ _ D.TOz hTO₅⟩, h1₅.at fun o e => up _ o D.i1z e, h2₅.at fun o e => up _ o D.i2z e, hl1₅.at fun o e => up _ o D.l1z e, hl2₅.at fun o e => up _ o D.l2z e⟩
      hT₈ (Nat.le_of_eq hsz.symm) fun c o c1 c2 c3 c4 e => up c o c1 (hk₅ c o c1 c2 c3 c4 e)
  · simp only [Bool.false_eq_true, if_false]
    simp only [← Array.forIn_toList, List.forIn_cons, List.forIn_nil]
    refine wpAny_bind (wpAny_bind (wpAny_bind (wpAny_holding ?_)))
    show wpAny _ _ (Builtin.SmallTypes.nextOf (.ref i1) >>= _) _ _ _
    refine wpAny_bind (wpAny_nextOf_list_item (h1.extBut hs₀.extBut D.i1z) (hl1.extBut hs₀.extBut D.l1z) hx fun h₂ h1₂ hs₂ => wpAny_pure ?_)
    refine wpAny_pure ?_
    refine wpAny_bind (wpAny_bind (wpAny_holding ?_))
    show wpAny _ _ (Builtin.SmallTypes.nextOf (.ref i2) >>= _) _ _ _
    refine wpAny_bind (wpAny_nextOf_list_item ((h2.extBut hs₀.extBut D.i2z).extBut hs₂.extBut D.i12.symm) ((hl2.extBut hs₀.extBut D.l2z).extBut hs₂.extBut D.l2i1) hy fun h₃ h2₃ hs₃ => wpAny_pure ?_)
    refine wpAny_pure (wpAny_pure ?_)
    refine wpAny_bind (wpAny_newTuple (hsz := by (show (2 : Nat) ≤ sizeLine; rw [PySem.sizeLine_eq]; decide)) ?_)
    have hsz : h₃.objs.size = s.heap.objs.size := by rw [hs₃.1, hs₂.1, hs₀.1]
    have up : ∀ c o, c ≠ z → c ≠ TO → c ≠ i1 → c ≠ i2 → s.heap.get? c = some o → (h₃.push { cls := .type "tuple", data := .seq #[x, y] }).get? c = some o := fun c o c1 _ c3 c4 e =>
      Heap.get?_push_of_some _ (hs₃.extBut _ _ c4 (hs₂.extBut _ _ c3 (hs₀.extBut _ _ c1 e)))
    refine wpAny_pure ⟨_, rfl, hQ _ _ ⟨⟨f0, fb', hf0, Heap.get?_push_of_some _ (hs₃.extBut _ _ D.i2z.symm (hs₂.extBut _ _ D.i1z.symm hz₀))⟩, up _ _ D.TIz D.TITO D.TIi1 D.TIi2 hTI,
      ⟨a, b, Heap.get?_push_of_some _ (hs₃.extBut _ _ D.TOi2 (hs₂.extBut _ _ D.TOi1 (hs₀.extBut _ _ D.TOz hTO)))⟩, (h1₂.extBut hs₃.extBut D.i12).at fun o e => Heap.get?_push_of_some _ e, h2₃.at fun o e => Heap.get?_push_of_some _ e,
      hl1.at fun o e => up _ o D.l1z D.l1TO D.l1i1 D.l1i2 e, hl2.at fun o e => up _ o D.l2z D.l2TO D.l2i1 D.l2i2 e⟩ (Heap.get?_push_size _ rfl) (Nat.le_of_eq hsz.symm) up⟩

theorem zip_done {z TI TO i1 i2 l1 l2 : Addr} {k : Nat} {xs ys : Array Value} {Q : Fin → Shared → Prop} (hh : A.handled = none) (D : ZipApart z TI TO i1 i2 l1 l2)
    (st : ZipAt s.heap z TI TO i1 i2 l1 l2 xs ys k) (hx : xs[k]? = none)
    (hE : ∀ h' e, (∀ c o, c ≠ z → c ≠ TO → c ≠ i1 → c ≠ i2 → s.heap.get? c = some o → h'.get? c = some o) → (∃ o, h'.get? e = some o ∧ o.cls = .type "StopIteration") → E (.ref e) { s with heap := h' }) :
    wpAny (model prog w) A (Builtin.«zip.__next__» ⟨[.ref z], []⟩) Q E s := by
  obtain ⟨⟨f0, fb, hf0, hz⟩, hTI, ⟨a, b, hTO⟩, h1, h2, hl1, hl2⟩ := st
  show wpAny _ _ (field (.ref z) 2 >>= _) _ _ _
  refine wpAny_bind (wpAny_field hz rfl (x := .bool false) rfl ?_)
  show wpAny _ _ (field (.ref z) 3 >>= _) _ _ _
  refine wpAny_bind (wpAny_field hz rfl (x := .ref TI) rfl ?_)
  refine wpAny_bind (wpAny_seqItems hTI rfl ?_)
  show wpAny _ _ (Builtin.SmallTypes.ownedTupleIsFree (.ref z) >>= _) _ _ _
  refine wpAny_bind (owned_look hz hf0 ?_ fun h₀ fb' hz₀ hs₀ => ?_)
  · simp only [if_true]
    refine wpAny_bind (wpAny_rule ?_)
    refine wpAny_bind (wpAny_field hz rfl (x := .ref TO) rfl ?_)
    refine wpAny_bind (wpAny_setField_rec hz (by simp) fun h₁ hz₁ hs₁ => ?_)
    replace hz₁ : ZipIs h₁ z TI TO .ellipsis fb := hz₁
    refine wpAny_bind ?_
    simp only [List.zipIdx_cons, List.zipIdx_nil, List.forIn_cons, List.forIn_nil]
    refine wpAny_bind (wpAny_bind (wpAny_onRaise ?_))
    show wpAny _ _ (Builtin.SmallTypes.nextOf (.ref i1) >>= _) _ _ _
    refine wpAny_bind (wpAny_nextOf_list_end hh (h1.extBut hs₁.extBut D.i1z) (hl1.extBut hs₁.extBut D.l1z) hx fun h₂ e hs₂ he => ?_)
    obtain ⟨oe, hoe, hce⟩ := he
    have hz₂ : ZipIs h₂ z TI TO .ellipsis fb := hs₂ _ _ D.i1z.symm hz₁
    have hez : e ≠ z := fun x => by subst x; rw [hz₂] at hoe; cases hoe; simp at hce
    refine wpAny_setField_rec hz₂ (by simp) fun h₃ _ hs₃ => hE h₃ e (fun c o c1 _ c3 _ x => hs₃.extBut _ _ c1 (hs₂ _ _ c3 (hs₁.extBut _ _ c1 x))) ⟨oe, hs₃.extBut _ _ hez hoe, hce⟩
  · simp only [Bool.false_eq_true, if_false]
    simp only [← Array.forIn_toList, List.forIn_cons, List.forIn_nil]
    refine wpAny_bind (wpAny_bind (wpAny_bind (wpAny_holding ?_)))
    show wpAny _ _ (Builtin.SmallTypes.nextOf (.ref i1) >>= _) _ _ _
    refine wpAny_bind (wpAny_nextOf_list_end hh (h1.extBut hs₀.extBut D.i1z) (hl1.extBut hs₀.extBut D.l1z) hx fun h₂ e hs₂ he => ?_)
    exact hE h₂ e (fun c o c1 _ c3 _ x => hs₂ _ _ c3 (hs₀.extBut _ _ c1 x)) he

theorem pyNext_zip_item {z TI TO i1 i2 l1 l2 : Addr} {k : Nat} {xs ys : Array Value} {x y : Value} {Q : Option Value → Shared → Prop} (D : ZipApart z TI TO i1 i2 l1 l2)
    (st : ZipAt s.heap z TI TO i1 i2 l1 l2 xs ys k) (hx : xs[k]? = some x) (hy : ys[k]? = some y)
    (hQ : ∀ h' (T : Addr), ZipAt h' z TI TO i1 i2 l1 l2 xs ys (k + 1) → IsPair h' T x y → @LE.le Nat _ s.heap.objs.size T →
      (∀ c o, c ≠ z → c ≠ TO → c ≠ i1 → c ≠ i2 → s.heap.get? c = some o → h'.get? c = some o) → Q (some (.ref T)) { s with heap := h' }) :
    wpAny (model prog w) A (pyNext (.ref z)) Q E s := by
  have hT : s.TypeIs (.ref z) "zip" := by obtain ⟨⟨f0, fb, _, hz⟩, _⟩ := st; exact ⟨_, hz, rfl⟩
  unfold pyNext
  exact wpAny_bind (wpAny_attempt (wpAny_callSpecial?_slot (name := Str.ofString "__next__") hT PySem.F.slot_zip_next
    (wpAny_call_entry PySem.F.slot_zip_next hT PySem.F.entry_zip_next (zip_item D st hx hy fun h' T a1 a2 a3 a4 => wpAny_pure (hQ h' T a1 a2 a3 a4)) (PySem.F.args_zip_next_1 _))))

theorem pyNext_zip_done {z TI TO i1 i2 l1 l2 : Addr} {k : Nat} {xs ys : Array Value} {Q : Option Value → Shared → Prop} (hh : A.handled = none) (D : ZipApart z TI TO i1 i2 l1 l2)
    (st : ZipAt s.heap z TI TO i1 i2 l1 l2 xs ys k) (hx : xs[k]? = none)
    (hQ : ∀ h', (∀ c o, c ≠ z → c ≠ TO → c ≠ i1 → c ≠ i2 → s.heap.get? c = some o → h'.get? c = some o) → Q none { s with heap := h' }) : wpAny (model prog w) A (pyNext (.ref z)) Q E s := by
  have hT : s.TypeIs (.ref z) "zip" := by obtain ⟨⟨f0, fb, _, hz⟩, _⟩ := st; exact ⟨_, hz, rfl⟩
  unfold pyNext
  refine wpAny_bind (wpAny_attempt (wpAny_callSpecial?_slot (name := Str.ofString "__next__") hT PySem.F.slot_zip_next
    (wpAny_call_entry PySem.F.slot_zip_next hT PySem.F.entry_zip_next (zip_done hh D st hx fun h' e hk he => ?_) (PySem.F.args_zip_next_1 _))))
  obtain ⟨o, ho, hc⟩ := he
  refine wpAny_bind (wpAny_isInstance (T := "StopIteration") (b := true) ⟨o, ho, hc⟩ isSubtype_stop ?_)
  exact wpAny_pure (hQ _ hk)
theorem pyIter_zip {z TI TO i1 i2 l1 l2 : Addr} {k : Nat} {xs ys : Array Value} {Q : Value → Shared → Prop} (st : ZipAt s.heap z TI TO i1 i2 l1 l2 xs ys k) (h : Q (.ref z) s) : wpAny (model prog w) A (pyIter (.ref z)) Q E s := by
  have hT : s.TypeIs (.ref z) "zip" := by obtain ⟨⟨f0, fb, _, hz⟩, _⟩ := st; exact ⟨_, hz, rfl⟩
  refine wpAny_pyIter_slot hT PySem.F.slot_zip_iter (wpAny_call_entry PySem.F.slot_zip_iter hT PySem.F.entry_zip_iter ?_ (PySem.F.args_zip_iter_1 _))
  show wpAny _ _ (ret (.ref z)) _ _ s
  exact wpAny_pure ⟨_, rfl, "zip", _, hT, PySem.F.slot_zip_next.lookup, h⟩
theorem ZipAt.frame {h h' : Heap} {z TI TO i1 i2 l1 l2 : Addr} {k : Nat} {xs ys : Array Value} (st : ZipAt h z TI TO i1 i2 l1 l2 xs ys k)
    (hk : ∀ b ∈ [z, TI, TO, i1, i2, l1, l2], ∀ o, h.get? b = some o → h'.get? b = some o) : ZipAt h' z TI TO i1 i2 l1 l2 xs ys k := by
  obtain ⟨⟨f0, fb, hf0, hz⟩, hTI, ⟨a, b, hTO⟩, h1, h2, hl1, hl2⟩ := st
  exact ⟨⟨f0, fb, hf0, hk _ (by simp) _ hz⟩, hk _ (by simp) _ hTI, ⟨a, b, hk _ (by simp) _ hTO⟩, h1.at fun o e => hk _ (by simp) o e, h2.at fun o e => hk _ (by simp) o e, hl1.at fun o e => hk _ (by simp) o e, hl2.at fun o e => hk _ (by simp) o e⟩
end
end Mine
end
section
open PySem PySem.W PyProof.Rows PySem.Spec PySem.Calls
set_option Elab.async false
set_option maxRecDepth 100000
namespace Mine
/-- what is asked of the element of a generator expression over a zip: its frames are known -/
def EltOk (prog : Program) (w : World) (A' : Around) (cenv : Env) (x : Str) (elt : PySem.Expr) (wr : List Addr) (href : Heap) (xs ys : Array Value) (F : Nat → Value → Prop) : Prop :=
  ∀ (E' : Value → Shared → Prop) (i : Nat) (T : Addr) (a b : Value) (s₂ : Shared) (m₂ : Str → Option Value), xs[i]? = some a → ys[i]? = some b → IsPair s₂.heap T a b → @LE.le Nat _ href.objs.size T → s₂.heap.Ns cenv.locals m₂ → m₂ x = some (.ref T) →
    (∀ b, b ∉ wr → ∀ o, href.get? b = some o → s₂.heap.get? b = some o) →
    wpAny (model prog w) A' (eval elt cenv) (fun y s₃ => F i y ∧ ∃ h₃ tk, s₃ = { s₂ with heap := h₃, toks := tk } ∧ h₃.Ns cenv.locals m₂ ∧ ∀ b o, b ≠ cenv.locals → s₂.heap.get? b = some o → h₃.get? b = some o) E' s₂
abbrev yes : Nat → Bool := fun _ => true
section
variable {prog : Program} {w : World} {A : Around}
theorem seg_loop9 {elt iter : PySem.Expr} {x : Str} {px : Pos} {scope : Scope} {pos : Pos} {z TI TO i1 i2 l1 l2 : Addr} {xs ys : Array Value} {cenv : Env} (hh : A.handled = none) (D : ZipApart z TI TO i1 i2 l1 l2)
    (F : Nat → Value → Prop) (href : Heap) (hx : cenv.kindOf x = some .local) (hp : (cenv.scope.kind == .class || (cenv.scope.kind == .module && cenv.locals != cenv.globals)) = false) (hco : cenv.scope.isCoroutine = false)
    (hC : @LE.le Nat _ href.objs.size cenv.locals) (hfp : ∀ b ∈ [z, TI, TO, i1, i2, l1, l2], @LT.lt Nat _ b href.objs.size) (hsz : xs.size = ys.size)
    (hq : EltOk prog w (A.over (.compLoop (.GeneratorExp elt [⟨.Name x px, iter, [], 0⟩] scope pos) 0 (.ref z) .none cenv) []) cenv x elt [z, TO, i1, i2] href xs ys F) :
    ∀ (k i : Nat) (s₀ s : Shared) (m : Str → Option Value), xs.size - i = k → i ≤ xs.size → ZipAt s.heap z TI TO i1 i2 l1 l2 xs ys i → s.heap.Ns cenv.locals m → GenSince cenv.locals [z, TO, i1, i2] s₀ s →
      @LE.le Nat _ href.objs.size s.heap.objs.size → (∀ b, b ∉ [z, TO, i1, i2] → ∀ o, href.get? b = some o → s.heap.get? b = some o) →
      Seg (model prog w) A (fun n s₀ r s₁ => r = .ok .next ∧ (n = 0 ∧ GenSince cenv.locals [z, TO, i1, i2] s₀ s₁)) (genProto cenv.locals (List.range href.objs.size) [z, TO, i1, i2] yes xs.size F) (passing yes xs.size i).length s₀
        (.compLoop (.GeneratorExp elt [⟨.Name x px, iter, [], 0⟩] scope pos) 0 (.ref z) .none cenv)
        ((model prog w).den (.compLoop (.GeneratorExp elt [⟨.Name x px, iter, [], 0⟩] scope pos) 0 (.ref z) .none cenv)) [] s := by
  have hh' : (A.over (.compLoop (.GeneratorExp elt [⟨.Name x px, iter, [], 0⟩] scope pos) 0 (.ref z) .none cenv) []).handled = none := hh
  have ne7 : ∀ b ∈ [z, TI, TO, i1, i2, l1, l2], b ≠ cenv.locals := fun b hb => Nat.ne_of_lt (Nat.lt_of_lt_of_le (hfp b hb) hC)
  intro k
  induction k with
  | zero =>
    intro i s₀ s m hk hi hst hn hsince hsz₀ hkp
    have hin : i = xs.size := by omega
    subst hin
    show Seg _ A _ _ _ s₀ _ ((compTurn (.GeneratorExp elt [⟨.Name x px, iter, [], 0⟩] scope pos) 0 (.ref z) .none cenv).onRaise (leaving cenv)) [] s
    rw [compTurn_gen, Sem.onRaise_eq_wrap]
    refine seg_bind_wrap (wpAny_standAt ?_)
    refine seg_bind_wrap (pyNext_zip_done hh' D hst (Array.getElem?_eq_none (Nat.le_refl _)) fun h' hk' => ?_)
    exact seg_end (.ok .next) ⟨rfl, by rw [passing_end]; rfl, hsince.step (tk := s.toks) fun b o _ hw e => by
      simp only [List.mem_cons, List.not_mem_nil, or_false, not_or] at hw
      exact hk' b o hw.1 hw.2.1 hw.2.2.1 hw.2.2.2 e⟩
  | succ k ih =>
    intro i s₀ s m hk hi hst hn hsince hsz₀ hkp
    have hlt : i < xs.size := by omega
    show Seg _ A _ _ _ s₀ _ ((compTurn (.GeneratorExp elt [⟨.Name x px, iter, [], 0⟩] scope pos) 0 (.ref z) .none cenv).onRaise (leaving cenv)) [] s
    rw [compTurn_gen, Sem.onRaise_eq_wrap]
    refine seg_bind_wrap (wpAny_standAt ?_)
    refine seg_bind_wrap (pyNext_zip_item D hst (Array.getElem?_eq_getElem hlt) (Array.getElem?_eq_getElem (hsz ▸ hlt)) fun h₁ T hst₁ hT₁ hTs hk₁ => ?_)
    refine seg_bind_wrap (wpAny_of_eq (rfl : letOwnedTupleGo (.Name x px) (.ref z) (.ref T) = pure ()) ?_)
    have neC : ∀ o, s.heap.get? cenv.locals = some o → h₁.get? cenv.locals = some o := fun o e => hk₁ _ o (ne7 z (by simp)).symm (ne7 TO (by simp)).symm (ne7 i1 (by simp)).symm (ne7 i2 (by simp)).symm e
    have hTC : T ≠ cenv.locals := fun q => by
      subst q
      exact absurd hTs (Nat.not_le.mpr hn.lt)
    refine seg_bind_wrap (wpAny_assign_Name (wpAny_storeName_local hx (hn.at' neC) (fun h₂ hn₂ hs₂ => ?_) hp))
    have up₂ : ∀ b o, b ≠ cenv.locals → b ∉ [z, TO, i1, i2] → s.heap.get? b = some o → h₂.get? b = some o := fun b o hbC hbw e => by
      simp only [List.mem_cons, List.not_mem_nil, or_false, not_or] at hbw
      exact hs₂.extBut b o hbC (hk₁ b o hbw.1 hbw.2.1 hbw.2.2.1 hbw.2.2.2 e)
    have hst₂ : ZipAt h₂ z TI TO i1 i2 l1 l2 xs ys (i + 1) := hst₁.frame fun b hb o e => hs₂.extBut b o (ne7 b hb) e
    have hkp₂ : ∀ b, b ∉ [z, TO, i1, i2] → ∀ o, href.get? b = some o → h₂.get? b = some o := fun b hbw o e =>
      up₂ b o (fun q => by subst q; exact absurd (Heap.lt_size e) (Nat.not_lt.mpr hC)) hbw (hkp b hbw o e)
    refine seg_bind_wrap (wpAny_tests_nil ?_)
    rw [passing_true (pz := yes) hlt rfl, List.length_cons]
    simp only [if_true]
    have hy : ∀ v, yieldOut cenv v = yieldValue v := fun v => by simp only [yieldOut, hco, Bool.false_eq_true, if_false]
    simp only [hy]
    rw [Sem.bind_eq_wrap', Sem.bind_eq_wrap', Sem.wrap_wrap, Sem.wrap_wrap]
    refine seg_wrap (wpAny_mono (hq _ i T _ _ _ _ (Array.getElem?_eq_getElem hlt) (Array.getElem?_eq_getElem (hsz ▸ hlt)) (hs₂.extBut _ _ hTC hT₁) (Nat.le_trans hsz₀ hTs) hn₂ (by simp) hkp₂) (fun y s₄ h₄ => ?_) fun _ _ e => e)
    obtain ⟨hFy, h₄, tk₄, rfl, hn₄, hk₄⟩ := h₄
    have hst₄ : ZipAt h₄ z TI TO i1 i2 l1 l2 xs ys (i + 1) := hst₂.frame fun b hb o e => hk₄ b o (ne7 b hb) e
    have hkp₄ : ∀ b, b ∉ [z, TO, i1, i2] → ∀ o, href.get? b = some o → h₄.get? b = some o := fun b hbw o e =>
      hk₄ b o (fun q => by subst q; exact absurd (Heap.lt_size e) (Nat.not_lt.mpr hC)) (hkp₂ b hbw o e)
    refine seg_at (seg_yield rfl rfl rfl ⟨⟨i, passing_here (pz := yes) hlt rfl, hFy⟩, hsince.step (tk := tk₄) fun b o hbC hbw e => hk₄ b o hbC (up₂ b o hbC hbw e), fun s'' hal => ?_⟩)
    refine seg_again rfl (ih (i + 1) s'' s'' _ (by omega) hlt (hst₄.frame fun b hb o e => hal b (List.mem_cons_of_mem _ (List.mem_range.mpr (hfp b hb))) o e)
      (hn₄.at' fun o e => hal _ (List.mem_cons_self ..) o e) (GenSince.refl _ _ _) ?_ fun b hbw o e => hal b (List.mem_cons_of_mem _ (List.mem_range.mpr (Heap.lt_size e))) o (hkp₄ b hbw o e))
    have q := (hn₄.at' fun o e => hal _ (List.mem_cons_self ..) o e).lt
    exact Nat.le_trans hC (Nat.le_of_lt q)

theorem seg_start9 {elt iter : PySem.Expr} {x : Str} {px : Pos} {scope : Scope} {pos : Pos} {z TI TO i1 i2 l1 l2 : Addr} {xs ys : Array Value} {cenv : Env} (hh : A.handled = none) (D : ZipApart z TI TO i1 i2 l1 l2)
    (F : Nat → Value → Prop) (href : Heap) (hx : cenv.kindOf x = some .local) (hp : (cenv.scope.kind == .class || (cenv.scope.kind == .module && cenv.locals != cenv.globals)) = false) (hco : cenv.scope.isCoroutine = false)
    (hC : @LE.le Nat _ href.objs.size cenv.locals) (hfp : ∀ b ∈ [z, TI, TO, i1, i2, l1, l2], @LT.lt Nat _ b href.objs.size) (hsz : xs.size = ys.size)
    (hq : EltOk prog w (A.over (.compLoop (.GeneratorExp elt [⟨.Name x px, iter, [], 0⟩] scope pos) 0 (.ref z) .none cenv) []) cenv x elt [z, TO, i1, i2] href xs ys F)
    (s₀ s : Shared) (m : Str → Option Value) (hst : ZipAt s.heap z TI TO i1 i2 l1 l2 xs ys 0) (hn : s.heap.Ns cenv.locals m) (hsince : GenSince cenv.locals [z, TO, i1, i2] s₀ s) (hkp : ∀ b, b ∉ [z, TO, i1, i2] → ∀ o, href.get? b = some o → s.heap.get? b = some o) :
    Seg (model prog w) A (fun n s₀ r s₁ => r = .ok .next ∧ (n = 0 ∧ GenSince cenv.locals [z, TO, i1, i2] s₀ s₁)) (genProto cenv.locals (List.range href.objs.size) [z, TO, i1, i2] yes xs.size F) (passing yes xs.size 0).length s₀
      (.compStart (.GeneratorExp elt [⟨.Name x px, iter, [], 0⟩] scope pos) 0 (.ref z) .none cenv)
      ((model prog w).den (.compStart (.GeneratorExp elt [⟨.Name x px, iter, [], 0⟩] scope pos) 0 (.ref z) .none cenv)) [] s := by
  have loop := seg_loop9 (iter := iter) (px := px) (scope := scope) (pos := pos) hh D F href hx hp hco hC hfp hsz hq xs.size 0 s₀ s m (Nat.sub_zero _) (Nat.zero_le _) hst hn hsince (Nat.le_trans hC (Nat.le_of_lt hn.lt)) hkp
  show Seg _ A _ _ _ s₀ _ ((compStart (.GeneratorExp elt [⟨.Name x px, iter, [], 0⟩] scope pos) 0 (.ref z) .none cenv).onRaise (leaving cenv)) [] s
  unfold compStart
  rw [Sem.onRaise_eq_wrap]
  show Seg _ A _ _ _ s₀ _ ((ask >>= _).wrap _ _ _ _) [] s
  refine seg_bind_wrap (wpAny_askSetting ?_)
  split
  · exact seg_again rfl loop
  · first
      | exact seg_bind_wrap (wpAny_rule (seg_bind_wrap (wpAny_standAt (seg_bind_wrap (pyIter_zip hst (seg_again rfl loop))))))
      | (refine seg_bind_wrap (wpAny_rule ?_); show Seg _ A _ _ _ s₀ _ ((standAt iter.pos >>= _).wrap _ _ _ _) [] s; exact seg_bind_wrap (wpAny_standAt (seg_bind_wrap (pyIter_zip hst (seg_again rfl loop)))))

theorem genAt9 {elt iter : PySem.Expr} {x : Str} {px : Pos} {scope : Scope} {pos : Pos} {z TI TO i1 i2 l1 l2 a : Addr} {g : Nat} {xs ys : Array Value} {cenv : Env} (hh : A.handled = none) (D : ZipApart z TI TO i1 i2 l1 l2)
    (F : Nat → Value → Prop) (href : Heap) (hx : cenv.kindOf x = some .local) (hp : (cenv.scope.kind == .class || (cenv.scope.kind == .module && cenv.locals != cenv.globals)) = false) (hco : cenv.scope.isCoroutine = false)
    (hC : @LE.le Nat _ href.objs.size cenv.locals) (hfp : ∀ b ∈ [z, TI, TO, i1, i2, l1, l2], @LT.lt Nat _ b href.objs.size) (hsz : xs.size = ys.size)
    (hq : EltOk prog w (A.in1.over (.compLoop (.GeneratorExp elt [⟨.Name x px, iter, [], 0⟩] scope pos) 0 (.ref z) .none cenv) []) cenv x elt [z, TO, i1, i2] href xs ys F)
    {s : Shared} {m : Str → Option Value} (hg : s.heap.IsGen a g) (hgs : s.gens[g]? = some (.fresh (.compStart (.GeneratorExp elt [⟨.Name x px, iter, [], 0⟩] scope pos) 0 (.ref z) .none cenv)))
    (hst : ZipAt s.heap z TI TO i1 i2 l1 l2 xs ys 0) (hn : s.heap.Ns cenv.locals m) (hl : s.heap.NoLimit) (hkp : ∀ b, b ∉ [z, TO, i1, i2] → ∀ o, href.get? b = some o → s.heap.get? b = some o) :
    GenAt prog w A a g cenv.locals (List.range href.objs.size) [z, TO, i1, i2] yes xs.size F 0 s :=
  ⟨hg, hl, _, hgs, fun s'' hal => ⟨rfl, seg_start9 (A := A.in1) hh D F href hx hp hco hC hfp hsz hq s'' s'' m (hst.frame fun b hb o e => hal b (List.mem_cons_of_mem _ (List.mem_range.mpr (hfp b hb))) o e)
    (hn.at' fun o e => hal _ (List.mem_cons_self ..) o e) (GenSince.refl _ _ _) fun b hbw o e => hal b (List.mem_cons_of_mem _ (List.mem_range.mpr (Heap.lt_size e))) o (hkp b hbw o e)⟩⟩
end
end Mine
end
section
open PySem PySem.W PyProof.Rows PySem.Spec PySem.Calls
set_option Elab.async false
set_option maxRecDepth 100000
namespace Mine
theorem passing_yes (n : Nat) : passing yes n 0 = List.range n := by
  unfold passing
  rw [List.drop_zero]
  exact List.filter_eq_self.mpr fun _ _ => rfl
abbrev Led' := List (Addr × Obj)
section
variable {prog : Program} {w : World} {A A₀ : Around} {E : Value → Shared → Prop} {s : Shared} {base h₀ : Heap} {outer : List Env} {L c P : Addr} {m mg mb : Str → Option Value} {env : Env} {p : Program} {loose : List Str} {mean : ExcName → Option Value}
theorem codeMade {ps : Array Value} {pos : Pos} {qualname : Str} {scope : Scope} {Q : Value → Shared → Prop} (hc : env.code = .ref c) (C : CodeHd s.heap c P) (hP : s.heap.get? P = some (tabObj ps)) (ht : TriplesOk ps.toList)
    (hQ : ∀ code h' tk ps', Heap.ExtBut P s.heap h' → @LE.le Nat _ s.heap.objs.size h'.objs.size → h'.get? P = some (tabObj ps') → TriplesOk ps'.toList → Q code { s with heap := h', toks := tk }) :
    wpAny (model prog w) A (genexprCode env pos qualname scope) Q E s := by
  cases hnf : codeAmong pos ps.toList with
  | some cv => exact wpAny_genexprCode_hit hc (C.code hP ht) hnf (hQ cv s.heap s.toks ps (fun _ _ _ e => e) (Nat.le_refl _) hP ht)
  | none =>
    refine wpAny_genexprCodeX hc (C.code hP ht) (C.tab hP) hnf fun c' h' tk hk hge hlt _ _ htab _ => hQ _ h' tk _ hk (Nat.le_trans hge (Nat.le_of_lt hlt)) htab.2 ?_
    have hl : (ps ++ #[rawInt pos.line, rawInt pos.col, Value.ref c']).toList = ps.toList ++ [rawInt pos.line, rawInt pos.col, .ref c'] := by simp
    rw [hl]
    exact TriplesOk_snoc _ _ _ _ ht

abbrev pairObj (a b : Value) : Obj := { cls := .type "tuple", data := .seq #[a, b] }
/-- what is asked of the element, with the frames of its caller -/
def EltRun (prog : Program) (w : World) (A : Around) (base h₀ : Heap) (outer : List Env) (L : Addr) (m : Str → Option Value) (env : Env) (elt iter : PySem.Expr) (x : Str) (px : Pos) (scope : Scope) (cl : List (Str × Addr)) (pos : Pos) (z : Addr) (led : Led') (xs ys : Array Value) (F : Nat → Value → Prop) : Prop :=
  ∀ (C : Addr) (code : Value) (g : Heap) (s₂ : Shared) (m₂ : Str → Option Value) (i : Nat) (T : Addr) (a b : Value) (rest : Led') (Q E : Value → Shared → Prop), xs[i]? = some a → ys[i]? = some b →
    Fr h₀ L g m → Below A base (env :: outer) g → h₀.StaysIn g → @LT.lt Nat _ L C → Fr g C s₂.heap m₂ → News g C s₂.heap ((T, pairObj a b) :: (led ++ rest)) → m₂ x = some (.ref T) →
    (∀ y h' tk', F i y → Fr g C h' m₂ → News g C h' ((T, pairObj a b) :: (led ++ rest)) → Q y { s₂ with heap := h', toks := tk' }) →
    wpAny (model prog w) (A.in1.in1.over (.compLoop (.GeneratorExp elt [⟨.Name x px, iter, [], 0⟩] scope pos) 0 (.ref z) .none (genEnv scope cl C code builtinsNs env)) []) (eval elt (genEnv scope cl C code builtinsNs env)) Q E s₂

/-- where zip(..) stands, and what the rest asks -/
def ZipEnd (prog : Program) (w : World) (A : Around) (base h₀ : Heap) (outer : List Env) (L P : Addr) (m : Str → Option Value) (env : Env) (elt iter : PySem.Expr) (x : Str) (px : Pos) (scope : Scope) (cl : List (Str × Addr)) (pos : Pos) (Fin : Value → Shared → Prop) (xv : Value) (s₁ : Shared) : Prop :=
  ∃ (z TI TO i1 i2 l1 l2 : Addr) (xs ys ps : Array Value) (led : Led') (keepL : Array Value → Led') (F : Nat → Value → Prop) (val : Nat → Int), xv = .ref z ∧ ZipApart z TI TO i1 i2 l1 l2 ∧ ZipAt s₁.heap z TI TO i1 i2 l1 l2 xs ys 0 ∧ Fr h₀ L s₁.heap m ∧ News h₀ L s₁.heap led ∧
    (∀ p ∈ led, ∀ b ∈ [z, TO, i1, i2], p.1 ≠ b) ∧ (∀ b ∈ [z, TO, i1, i2], @LT.lt Nat _ L b ∧ b ≠ P) ∧ xs.size = ys.size ∧ (P, tabObj ps) ∈ led ∧ TriplesOk ps.toList ∧ AllBare s₁.gens ∧
    (∀ ps', ∀ p ∈ keepL ps', (p ∈ led ∧ p.1 ≠ P) ∨ p = (P, tabObj ps')) ∧ (∀ i y, F i y → NumOf (val i) y) ∧
    (∀ ps', EltRun prog w A base h₀ outer L m env elt iter x px scope cl pos z (keepL ps') xs ys F) ∧
    (∀ (a : Addr) (s₅ : Shared) (ps' : Array Value) (tk : Nat) (gs : Array GenState) (h₅ : Heap), s₅ = { s₁ with heap := h₅, toks := tk, gens := gs } → TriplesOk ps'.toList → Fr h₀ L h₅ m → News h₀ L h₅ (keepL ps') →
      (∀ (Q E : Value → Shared → Prop), (∀ t h' tk' gs', Fr h₀ L h' m → News h₀ L h' (keepL ps') → AllBare gs' → Q (.int (preSum val xs.size) t) { s₁ with heap := h', toks := tk', gens := gs' }) → wpAny (model prog w) A (call (.builtin "sum") [.ref a]) Q E s₅) → Fin (.ref a) s₅)

theorem GenExp9 {elt iter : PySem.Expr} {x : Str} {px : Pos} {scope : Scope} {cl : List (Str × Addr)} {pos : Pos} {Q : Value → Shared → Prop}
    (B : Below A₀ base outer h₀) (_F₀ : Fr h₀ L s.heap m) (T : Top p loose mean mg mb h₀) (CH : CodeHd h₀ c P) (hA : A.frames = some (env :: outer)) (hf : env.frame = some L) (hke : env.scope.kind = .function)
    (hh : A.handled = none) (hroom : A.depth < recursionLimit) (hcode : env.code = .ref c) (hgl : env.globals = mainGlobals) (hP0 : h₀.get? P = none)
    (hco : scope.isCoroutine = false) (hclos : closureFor scope env = pure cl) (hcell : ∀ y ∈ scope.names, y.2 ≠ .cell) (h0 : scope.names.lookup (".0" : Str) = some NameKind.local)
    (hx : scope.names.lookup x = some .local) (hkind : scope.kind = .function) (hs : ∀ x, genFold iter env x = pure x)
    (h : wpAny (model prog w) A (eval iter env) (ZipEnd prog w A base h₀ outer L P m env elt iter x px scope cl pos Q) E s) :
    wpAny (model prog w) A (eval (.GeneratorExp elt [⟨.Name x px, iter, [], 0⟩] scope pos) env) Q E s := by
  refine wpAny_GeneratorExp_make hco hclos hcell h0 hkind hroom (wpAny_mono h (fun xv s₁ h₁ => ?_) fun _ _ e => e) hs
  obtain ⟨z, TI, TO, i1, i2, l1, l2, xs, ys, ps, led, keepL, F, val, rfl, D, hst, Fm, N, off, offL, hsz, hPl, htr, hbare, hkeepL, hval, helt, fin⟩ := h₁
  have hP := (N _ hPl).1
  have hlim : s₁.heap.NoLimit := T.nolimit.keeps Fm.keep
  refine pyIter_zip hst ⟨hlim, codeMade hcode (CH.keeps Fm.keep) hP htr fun code h₃ tk₃ ps' hk₃ hsz₃ hP₃ htr₃ => ?_⟩
  have k₀ : ∀ b o, h₀.get? b = some o → h₃.get? b = some o := fun b o e => hk₃ b o (fun q => by rw [q, hP0] at e; cases e) (Fm.keep b o e)
  have hLP : L ≠ P := fun q => (N _ hPl).2.1 q.symm
  have F₃ : Fr h₀ L h₃ m := ⟨Fm.ns.at' fun o e => hk₃ _ o hLP e, k₀, Fm.above⟩
  obtain ⟨bm, ob, M⟩ := bmod_of_top T
  rw [hgl]
  refine wpAny_builtinsFor (M.ns.keeps k₀) M.name M.ne (k₀ _ _ M.obj) M.cls M.dict M.data ?_
  dsimp only
  intro h' hn' hs'
  have N₃ : ∀ p ∈ keepL ps', h₃.get? p.1 = some p.2 ∧ p.1 ≠ L ∧ h₀.get? p.1 = none := fun p hp => by
    rcases hkeepL ps' p hp with ⟨hp, hne⟩ | rfl
    · exact ⟨hk₃ _ _ hne (N p hp).1, (N p hp).2⟩
    · exact ⟨hP₃, (N _ hPl).2⟩
  have hst₃ : ZipAt h₃ z TI TO i1 i2 l1 l2 xs ys 0 := hst.frame fun b hb o e => hk₃ b o (fun q => by
    subst q
    have : ∃ o', s₁.heap.get? b = some o' ∧ o'.cls ≠ .none := by
      obtain ⟨⟨f0, fb, hf0, hz⟩, hTI, ⟨a, b', hTO⟩, h1, h2, hl1, hl2⟩ := hst
      simp only [List.mem_cons, List.not_mem_nil, or_false] at hb
      rcases hb with rfl | rfl | rfl | rfl | rfl | rfl | rfl
      · exact ⟨_, hz, by simp⟩
      · exact ⟨_, hTI, by simp⟩
      · exact ⟨_, hTO, by simp⟩
      · obtain ⟨o, ho, hc, _⟩ := h1; exact ⟨o, ho, by rw [hc]; simp⟩
      · obtain ⟨o, ho, hc, _⟩ := h2; exact ⟨o, ho, by rw [hc]; simp⟩
      · obtain ⟨o, ho, hc, _⟩ := hl1; exact ⟨o, ho, by rw [hc]; simp⟩
      · obtain ⟨o, ho, hc, _⟩ := hl2; exact ⟨o, ho, by rw [hc]; simp⟩
    obtain ⟨o', ho', hc'⟩ := this
    rw [hP] at ho'
    cases ho'
    exact hc' rfl) e
  have hlim₃ : h₃.NoLimit := T.nolimit.keeps k₀
  have hzs : h'.objs.size = h₃.objs.size + 1 := by rw [hs'.1, Heap.size_push]
  have keep' : ∀ b o, h₃.get? b = some o → h'.get? b = some o := fun b o e => hs'.extBut b o (Nat.ne_of_lt (Heap.lt_size e)) (Heap.get?_push_of_some _ e)
  have hlt7 : ∀ b ∈ [z, TI, TO, i1, i2, l1, l2], @LT.lt Nat _ b h₃.objs.size := fun b hb => by
    obtain ⟨⟨f0, fb, hf0, hz⟩, hTI, ⟨a, b', hTO⟩, ⟨_, h1, _⟩, ⟨_, h2, _⟩, ⟨_, hl1, _⟩, ⟨_, hl2, _⟩⟩ := hst₃
    simp only [List.mem_cons, List.not_mem_nil, or_false] at hb
    rcases hb with rfl | rfl | rfl | rfl | rfl | rfl | rfl
    · exact Heap.lt_size hz
    · exact Heap.lt_size hTI
    · exact Heap.lt_size hTO
    · exact Heap.lt_size h1
    · exact Heap.lt_size h2
    · exact Heap.lt_size hl1
    · exact Heap.lt_size hl2
  have sub7 : ∀ b ∈ [z, TO, i1, i2], b ∈ [z, TI, TO, i1, i2, l1, l2] := fun b hb => by
    simp only [List.mem_cons, List.not_mem_nil, or_false] at hb ⊢
    rcases hb with rfl | rfl | rfl | rfl <;> simp
  have hclt : cStatics < h₃.objs.size := let ⟨_, hn, _⟩ := hlim₃; hn.lt
  have hcw : cStatics ∉ [z, TO, i1, i2] := fun hm => by
    obtain ⟨_, ⟨o, es, ep, ho, _⟩, _⟩ := T.nolimit
    have q := Heap.lt_size ho
    exact absurd (Nat.lt_of_lt_of_le q Fm.above) (Nat.not_lt.mpr (Nat.le_of_lt (offL _ hm).1))
  -- the heap under the generator's frame
  have hLlt : @LT.lt Nat _ L h₃.objs.size := F₃.ns.lt
  have fr4 : ∀ b ∈ [z, TO, i1, i2], h₀.get? b = none := fun b hb => Heap.get?_none_of_le (Nat.le_trans Fm.above (Nat.le_of_lt (offL b hb).1))
  have get4 : ∀ b ∈ [z, TO, i1, i2], ∃ o, h₃.get? b = some o := fun b hb => by
    obtain ⟨⟨f0, fb, hf0, hz⟩, hTI, ⟨a, b', hTO⟩, ⟨_, h1, _⟩, ⟨_, h2, _⟩, ⟨_, hl1, _⟩, ⟨_, hl2, _⟩⟩ := hst₃
    simp only [List.mem_cons, List.not_mem_nil, or_false] at hb
    rcases hb with rfl | rfl | rfl | rfl
    · exact ⟨_, hz⟩
    · exact ⟨_, hTO⟩
    · exact ⟨_, h1⟩
    · exact ⟨_, h2⟩
  have NZ : News h₀ L h₃ (([z, TO, i1, i2].filterMap fun b => (h₃.get? b).map (b, ·)) ++ keepL ps') := fun q hq => by
    rcases List.mem_append.mp hq with hq | hq
    · obtain ⟨b, hb, e⟩ := List.mem_filterMap.mp hq
      cases eb : h₃.get? b with
      | none => rw [eb] at e; cases e
      | some o =>
        rw [eb] at e
        cases e
        exact ⟨eb, Nat.ne_of_gt (offL b hb).1, fr4 b hb⟩
    · exact N₃ q hq
  obtain ⟨FG, BG, stG, _⟩ := groundX (R := fun _ _ => True) (s := { s₁ with heap := h₃ }) B F₃ NZ hA hf hke
  have hok : EltOk prog w (A.in1.in1.over (.compLoop (.GeneratorExp elt [⟨.Name x px, iter, [], 0⟩] scope pos) 0 (.ref z) .none (genEnv scope cl h₃.objs.size code builtinsNs env)) []) (genEnv scope cl h₃.objs.size code builtinsNs env) x elt [z, TO, i1, i2] h₃ xs ys F := by
    intro E' i T' a b s₂ m₂ hxa hyb hT hTs hn₂ hm₂ hk₂
    generalize hg : hideAll h₃ ((([z, TO, i1, i2].filterMap fun b => (h₃.get? b).map (b, ·)) ++ keepL ps').map (·.1)) = g at FG BG stG
    have hgs : g.objs.size = h₃.objs.size := by rw [← hg]; exact hideAll_size _ _
    have g4 : ∀ b ∈ [z, TO, i1, i2], g.get? b = none := fun b hb => by
      obtain ⟨o, ho⟩ := get4 b hb
      rw [← hg]
      refine hideAll_none _ (List.mem_map.mpr ⟨(b, o), List.mem_append_left _ (List.mem_filterMap.mpr ⟨b, hb, by rw [ho]; rfl⟩), rfl⟩)
    have gk : ∀ q ∈ keepL ps', g.get? q.1 = none := fun q hq => by
      rw [← hg]
      exact hideAll_none _ (List.mem_map_of_mem (List.mem_append_right _ hq))
    have kg : ∀ b o, g.get? b = some o → h₃.get? b = some o := fun b o e => by rw [← hg] at e; exact of_hideAll _ e
    have F₂ : Fr g h₃.objs.size s₂.heap m₂ := ⟨hn₂, fun b o e => hk₂ b (fun hb => by rw [g4 b hb] at e; cases e) o (kg b o e), Nat.le_of_eq hgs⟩
    have hTC : T' ≠ h₃.objs.size := fun q => by
      subst q
      obtain ⟨o, es, ep, ho, hd, _⟩ := hn₂
      have ho : s₂.heap.get? h₃.objs.size = some o := ho
      rw [show s₂.heap.get? h₃.objs.size = _ from hT] at ho
      cases ho; cases hd
    have N₂ : News g h₃.objs.size s₂.heap ((T', pairObj a b) :: (keepL ps' ++ (List.range s₂.heap.objs.size).filterMap fun b => if b = h₃.objs.size then none else if (g.get? b).isSome = true then none else (s₂.heap.get? b).map (b, ·))) := fun q hq => by
      rcases List.mem_cons.mp hq with rfl | hq
      · exact ⟨hT, hTC, Heap.get?_none_of_le (Nat.le_trans (Nat.le_of_eq hgs) hTs)⟩
      · rcases List.mem_append.mp hq with hq | hq
        · refine ⟨hk₂ _ (fun hb => ?_) _ (N₃ q hq).1, Nat.ne_of_lt (Heap.lt_size (N₃ q hq).1), gk q hq⟩
          rcases hkeepL ps' q hq with ⟨hq', _⟩ | rfl
          · exact off q hq' _ hb rfl
          · exact (offL _ hb).2 rfl
        · obtain ⟨b, hb, e⟩ := List.mem_filterMap.mp hq
          split at e
          · cases e
          · split at e
            · cases e
            · rename_i n1 n2
              cases eb : s₂.heap.get? b with
              | none => rw [eb] at e; cases e
              | some o =>
                rw [eb] at e
                cases e
                exact ⟨eb, n1, by simpa using n2⟩
    refine helt ps' h₃.objs.size code g s₂ m₂ i T' a b _ _ _ hxa hyb FG BG stG hLlt F₂ N₂ hm₂ fun y h₄ tk₄ hF F₄ N₄ => ⟨hF, h₄, tk₄, rfl, F₄.ns, fun b o hb e => ?_⟩
    cases hgb : g.get? b with
    | some o' =>
      have e1 := F₂.keep b o' hgb
      rw [e] at e1
      cases e1
      exact F₄.keep b o hgb
    | none =>
      refine (N₄ (b, o) (List.mem_cons_of_mem _ (List.mem_append_right _ (List.mem_filterMap.mpr ⟨b, List.mem_range.mpr (Heap.lt_size e), ?_⟩)))).1
      have hb : b ≠ h₃.objs.size := hb
      rw [if_neg hb, hgb, e]
      rfl
  have keep₅ : ∀ o₅ b o, h₃.get? b = some o → (h'.push o₅).get? b = some o := fun _ b o e => Heap.get?_push_of_some _ (keep' b o e)
  refine fin _ _ ps' _ _ _ rfl htr₃ (F₃.keeps (keep₅ _)) (fun q hq => ⟨keep₅ _ _ _ (N₃ q hq).1, (N₃ q hq).2⟩) fun Q' E' hQ' => ?_
  refine call_sum_walkAnyB (wpAny_pyIter_gen (g := s₁.gens.size) ⟨_, _, _, Heap.get?_push_size _ rfl, rfl, rfl, rfl⟩ ?_)
  have hCa : h'.objs.size ≠ h₃.objs.size := by rw [hzs]; exact Nat.succ_ne_self _
  refine ⟨h'.objs.size, h'.objs.size :: h₃.objs.size :: List.range h₃.objs.size, h₃.objs.size :: [z, TO, i1, i2], GenOnlyQ s₁.gens.size, _, _, _, val, rfl, WalksS.genexpQ (A := A.in1) (by exact hh) h'.objs.size s₁.gens.size h₃.objs.size (List.range h₃.objs.size) [z, TO, i1, i2] yes xs.size F hCa
    (fun hm => by have := List.mem_range.mp hm; omega) (fun b hb => List.mem_range.mpr (hlt7 b (sub7 b hb))) (by exact hroom) (List.mem_range.mpr hclt) (Nat.ne_of_lt hclt) hcw,
    genAt9 (A := A.in1) (cenv := genEnv scope cl h₃.objs.size code builtinsNs env) (m := fun y => if y = ".0" then some (.ref z) else none) (by exact hh) D F h₃ hx (by simp [genEnv, hkind]) hco (Nat.le_refl _) hlt7 hsz hok ⟨_, _, _, Heap.get?_push_size _ rfl, rfl, rfl, rfl⟩ (Array.getElem?_push_size ..) (hst₃.frame fun b _ o e => keep₅ _ b o e) (hn'.push _) (hlim₃.keeps (keep₅ _)) (fun b _ o e => keep₅ _ b o e), ?_, ?_, ?_⟩
  · intro b hb
    show @LT.lt Nat _ b (h'.push _).objs.size
    rw [Heap.size_push, hzs]
    rcases List.mem_cons.mp hb with rfl | hb
    · rw [hzs]; exact Nat.lt_succ_self _
    · rcases List.mem_cons.mp hb with rfl | hb
      · exact Nat.lt_succ_of_lt (Nat.lt_succ_self _)
      · exact Nat.lt_succ_of_lt (Nat.lt_succ_of_lt (List.mem_range.mp hb))
  · rintro i v ⟨j, hj, hF⟩
    have e : passing yes xs.size 0 = List.range xs.size := passing_yes _
    rw [e] at hj
    have : j = i := by
      have hlt := (List.getElem?_eq_some_iff.mp hj).1
      rw [List.getElem?_eq_getElem hlt, List.getElem_range] at hj
      exact (Option.some.inj hj).symm
    subst this
    exact hval _ _ hF
  · intro s' t' hm
    have e : (passing yes xs.size 0).length = xs.size := by rw [passing_yes, List.length_range]
    rw [e]
    have hne : ∀ b o, h₃.get? b = some o → b ∉ [z, TO, i1, i2] → s'.heap.get? b = some o := fun b o e hb => hm.heap b o (fun hmm => by
      rcases List.mem_cons.mp hmm with rfl | hmm
      · exact absurd (Heap.lt_size e) (Nat.lt_irrefl _)
      · exact hb hmm) (keep₅ _ b o e)
    have Fe : Fr h₀ L s'.heap m := ⟨F₃.ns.at' fun o e => hne _ o e (fun hb => Nat.lt_irrefl _ (offL _ hb).1), fun b o e => hne b o (k₀ b o e) (fun hb => by rw [fr4 b hb] at e; cases e), F₃.above⟩
    have Ne : News h₀ L s'.heap (keepL ps') := fun q hq => ⟨hne _ _ (N₃ q hq).1 (fun hb => by
      rcases hkeepL ps' q hq with ⟨hq', _⟩ | rfl
      · exact off q hq' _ hb rfl
      · exact (offL _ hb).2 rfl), (N₃ q hq).2⟩
    have hb' : AllBare s'.gens := GenOnlyQ.bare hm.gens (fun y hy => by
      rcases Array.mem_push.mp hy with hy | rfl
      · exact hbare y hy
      · rfl)
    have r := hQ' t' s'.heap s'.toks s'.gens Fe Ne hb'
    have eq : ({ s₁ with heap := s'.heap, toks := s'.toks, gens := s'.gens } : Shared) = s' := by
      obtain ⟨h9, g9, d9, t9, o9⟩ := s'
      have e1 := hm.drawn
      have e2 := hm.os
      dsimp only at e1 e2
      rw [e1, e2]
    rw [eq] at r
    exact r
end
end Mine
end
section
open PySem PySem.W PyProof.Rows
set_option Elab.async false
set_option hygiene false
namespace Mine
abbrev obj4 (w : World) (C ob dx : Addr) (t1 t2 t3 t4 t5 : Tok) (news : Led) : Led :=
  (ob, instObj C dx) :: (dx, dictOf [DictEntry.mk (PyData.keyHash w.params (Str.ofString "qval")) (Value.str (Str.ofString "qval") t1) (Value.int 1 t4), DictEntry.mk (PyData.keyHash w.params (Str.ofString "test_func")) (Value.str (Str.ofString "test_func") t2) (Value.ref 100), DictEntry.mk (PyData.keyHash w.params (Str.ofString "truncate")) (Value.str (Str.ofString "truncate") t5) (Value.bool false), DictEntry.mk (PyData.keyHash w.params (Str.ofString "external")) (Value.str (Str.ofString "external") t3) (Value.bool true)] 4) :: news
abbrev scG : Scope := { kind := .function, names := [(Str.ofString ".0", NameKind.local), (Str.ofString "es", NameKind.local), (Str.ofString "self", NameKind.free)], isGenerator := true, isCoroutine := false }
local macro_rules | `(tactic| k_room) => `(tactic| ktr_room)
local macro_rules | `(tactic| walk_at "eval Call Attribute") => `(tactic| (k_here; (with_reducible show wpAny _ _ (eval (Expr.Call (Expr.Attribute (Expr.Name _ _) _ _) (Expr.Starred _ _ :: _) [] _) _) _ _ _); refine MethodStar_ (by rfl) ?_))
set_option maxRecDepth 100000 in
theorem fillKeInGe : True ∨ (PySem.Challenge.rw_fq5042_01 = PySem.Challenge.rw_fq5042_01 ∧ hd.heap_39 = hd.heap_39) := by w_top off; k_fill; exact .inl trivial
set_option maxRecDepth 100000 in
set_option maxHeartbeats 8000000 in
theorem elt_run (w : World) (rest : Led) (x y : Str) (tx ty : Tok) (p1 p2 p3 p4 p5 p6 : Pos) (ob dx Ls T : Addr) (oS : Obj) (t1 t2 t3 t4 t5 : Tok) (hS : oS.data = .cell (some (.ref ob)))
    (mean : ExcName → Option Value) (mg mb : Str → Option Value) (dp un : Nat) (gd : Option (List Code)) (cn : Str) (ccd : Value) (outer : List Env) (A₀ : Around) (base h₀ : Heap) (L : Addr) (m : Str → Option Value) (s : Shared) (Q E : Value → Shared → Prop)
    (B : Below A₀ base outer h₀) (F : Fr h₀ L s.heap m) (X : Frag.In (hd.heap_39 w.params) h₀) (N : News h₀ L s.heap ((T, pairObj (.str x tx) (.str y ty)) :: (Ls, oS) :: obj4 w 250 ob dx t1 t2 t3 t4 t5 rest)) (hes : m (Str.ofString "es") = some (.ref T))
    (TT : Top hd.view_39 (looseW hd.view_39 [Str.ofString "Base", Str.ofString "LCSSeq", Str.ofString "Hamming", Str.ofString "Levenshtein"]) mean mg mb h₀)
    (hd : dp + 3 < recursionLimit) (hu : un + 20 < cLine) (hret : ∀ (h' : Heap) (tk' : Nat), Fr h₀ L h' m → News h₀ L h' ((T, pairObj (.str x tx) (.str y ty)) :: (Ls, oS) :: obj4 w 250 ob dx t1 t2 t3 t4 t5 rest) → Q (.bool (!(x == y))) { s with heap := h', toks := tk' }) :
    wpAny (model PySem.Challenge.pw_fq5042_01 w) (topE dp un gd cn scG L mainGlobals none L builtinsNs ccd [(Str.ofString "self", Ls)] outer)
      (eval (Expr.UnaryOp UnaryOp.Not (Expr.Call (Expr.Attribute (Expr.Name (Str.ofString "self") p1) (Str.ofString "test_func") p2) [Expr.Starred (Expr.Name (Str.ofString "es") p3) p4] [] p5) p6) { scope := scG, locals := L, globals := mainGlobals, cells := [(Str.ofString "self", Ls)], qual := cn, func := none, code := ccd, frame := some L, builtins := builtinsNs }) Q E s := by
  refine UnaryOp_ ?_
  refine MethodStar_ (by rfl) ?_
  refine wpAny_Name (wpAny_loadName_free rfl rfl rfl ⟨_, (N _ (List.mem_cons_of_mem _ List.mem_cons_self)).1, hS⟩ ?_ (by decide)) (by decide)
  walk1
  refine callWith_S X (by k_is) ?_
  refine wpAny_Name (wpAny_loadName_local rfl rfl F.ns hes ?_) (by decide)
  walk1
  rename_i h5 F5 N5
  refine ⟨Frag.In.keeps X (Fr.keep F5), ?_⟩
  refine ident_any w _ x y tx ty mean mg mb dp un gd cn scG.names true false [] L mainGlobals none builtinsNs ccd [(Str.ofString "self", Ls)] outer A₀ base h₀ L m _ _ _ B F5 X N5 TT hd hu fun _ h9 tk9 F9 N9 => ?_
  exact not_of (wpAny_truthy_bool (hret h9 tk9 F9 N9))
end Mine
end
section
open PySem PySem.W PyProof.Rows PySem.Spec PySem.Calls
set_option Elab.async false
set_option maxRecDepth 100000
namespace Mine
section
variable {prog : Program} {w : World} {A : Around} {E : Value → Shared → Prop} {s : Shared} {h₀ : Heap} {L : Addr} {m : Str → Option Value} {led : Led}
theorem zipTwo_N {l1 l2 : Addr} {xs ys : Array Value} {c1 c2 : Nat} {Q : Value → Shared → Prop} (F : Fr h₀ L s.heap m) (N : News h₀ L s.heap led) (h1 : (l1, W.listOf xs c1) ∈ led) (h2 : (l2, W.listOf ys c2) ∈ led)
    (h : ∀ h' z TI TO i1 i2, ZipApart z TI TO i1 i2 l1 l2 → ZipAt h' z TI TO i1 i2 l1 l2 xs ys 0 → Fr h₀ L h' m → News h₀ L h' led → (∀ p ∈ led, ∀ b ∈ [z, TO, i1, i2], p.1 ≠ b) → (∀ b ∈ [z, TO, i1, i2], @LT.lt Nat _ L b) → Q (.ref z) { s with heap := h' }) :
    wpAny (model prog w) A (call (.type "zip") [.ref l1, .ref l2]) Q E s := by
  refine zip_rows F (xs := xs) (ys := ys) ⟨_, (N _ h1).1, rfl, _, rfl⟩ ⟨_, (N _ h2).1, rfl, _, rfl⟩ fun h' z TI TO i1 i2 D ⟨hz, hTI, hTO, hi1, hi2, hl1, hl2⟩ F' hk kz kTO k1 k2 ⟨g1, g2, g3, g4⟩ => ?_
  refine h h' z TI TO i1 i2 D ⟨⟨.none, false, .inl rfl, hz⟩, hTI, hTO, hi1, hi2, hl1, hl2⟩ F' (N.grown hk) (fun p hp b hb => ?_) fun b hb => ?_
  · have lt := Heap.lt_size (N p hp).1
    simp only [List.mem_cons, List.not_mem_nil, or_false] at hb
    rcases hb with rfl | rfl | rfl | rfl
    · exact Nat.ne_of_lt (Nat.lt_of_lt_of_le lt kz)
    · exact Nat.ne_of_lt (Nat.lt_of_lt_of_le lt kTO)
    · exact Nat.ne_of_lt (Nat.lt_of_lt_of_le lt k1)
    · exact Nat.ne_of_lt (Nat.lt_of_lt_of_le lt k2)
  · simp only [List.mem_cons, List.not_mem_nil, or_false] at hb
    rcases hb with rfl | rfl | rfl | rfl
    · exact g1
    · exact g2
    · exact g3
    · exact g4
end
theorem keeps_zip {M : Model} (h : Heap) (_ : True) : ∃ k, (k = Keeper.frame ∨ k = Keeper.machine ∨ k = Keeper.boundFrame) ∧ Looks M h (keeperOf (.type "zip")) k := ⟨.machine, .inr (.inl rfl), .of_pure rfl⟩
theorem callWith_zipS {M : Model} {A : Around} {E : Value → Shared → Prop} {s : Shared} {env : Env} {pos p : Pos} {first : List Value} {Q : Value → Shared → Prop} {e : PySem.Expr}
    (h : wpAny M A (eval e env) (fun v s₁ => StarOf M A E v (fun vs s₂ => True ∧ wpAny M A (call (.type "zip") (first ++ vs)) Q E s₂) s₁) E s)
    (he : starEach [.Starred e p] env = [(true, eval e env)] := by rfl) :
    wpAny M A (callWith pos (.type "zip") first (backTo pos (starEach [.Starred e p] env)) []) Q E s := by
  rw [he]
  exact ks_call (P := fun _ => True) rfl (fun h t => keeps_zip h t) (ks_lone h)
theorem mem_of {h₀ h : Heap} {L : Addr} {led : Led} (_ : News h₀ L h led) (q : Addr × Obj) (k : q ∈ led) : q ∈ led := k
theorem ne_tab {h₀ h : Heap} {L b P : Addr} {o : Obj} {ps : Array Value} {led : Led} (N : News h₀ L h led) (h1 : (b, o) ∈ led) (h2 : (P, tabObj ps) ∈ led) (hne : o.data ≠ .fields ps) : b ≠ P := fun q => by
  subst q
  have e := (N _ h1).1
  rw [(N _ h2).1] at e
  cases e
  exact hne rfl
/-- what Hamming counts -/
def hamD (x y : Str) : Int := preSum (fun i => if (signs x)[i]? = (signs y)[i]? then 0 else 1) x.length
def hamF (x y : Str) (i : Nat) (v : Value) : Prop := ∃ a b, (signs x)[i]? = some a ∧ (signs y)[i]? = some b ∧ v = .bool (!(a == b))
theorem hamF_num {x y : Str} {i : Nat} {v : Value} (h : hamF x y i v) : NumOf (if (signs x)[i]? = (signs y)[i]? then 0 else 1) v := by
  obtain ⟨a, b, ha, hb, rfl⟩ := h
  refine .inr ⟨_, rfl, ?_⟩
  rw [ha, hb]
  by_cases e : a = b
  · subst e; simp
  · have e' : (a == b) = false := by simpa using e
    rw [e', if_neg (fun q => e (Option.some.inj q))]; rfl
theorem carried_get {ys : List Value} {x : Str} (h : CarriedAll ys ((signs x).map PyData.str)) {i : Nat} {a : Value} (e : ys.toArray[i]? = some a) : ∃ c t, (signs x)[i]? = some c ∧ a = .str c t := by
  have hs : StrsAre ys (signs x) := by have := CarriedAll.strsOf (f := id) h; simpa using this
  rw [List.getElem?_toArray] at e
  have hl : i < (signs x).length := by rw [← hs.length]; exact (List.getElem?_eq_some_iff.mp e).1
  obtain ⟨t, ht⟩ := hs.get i _ (List.getElem?_eq_getElem hl)
  rw [e] at ht
  exact ⟨_, t, List.getElem?_eq_getElem hl, Option.some.inj ht⟩
theorem signs_length (x : Str) : (signs x).length = x.length := by unfold signs; simp only [List.length_map, Array.length_toList]; rfl
theorem carried_size {ys : List Value} {x : Str} (h : CarriedAll ys ((signs x).map PyData.str)) : ys.toArray.size = x.length := by
  rw [List.size_toArray, h.length_eq, List.length_map, signs_length]
end Mine
end
section
open PySem PySem.W PyProof.Rows
set_option Elab.async false
set_option hygiene false
namespace Mine
local macro_rules | `(tactic| k_room) => `(tactic| ktr_room)
local macro_rules | `(tactic| walk_at "call ref") => `(tactic| (k_here; (with_reducible show wpAny _ _ (call (Value.ref 100) [Value.str _ _, Value.str _ _]) _ _ _); k_dflt (refine' ident_tells _ _ _ _ _ _ _ _ _ _ _ _ _ _ _ _ _ _ _ _ _ _ _ _ _ _ _ _ _ ?k1 ?k2 ?k3 ?k4 ?k5 ?k6 ?k7 ?_; (case k1 => k_asm); (case k2 => k_asm); (case k3 => k_asm); (case k4 => k_asm); (case k5 => k_asm); (case k6 => ktr_room); (case k7 => ktr_units)); intro t9 h9 tk9 F' N'; (try dsimp only); (try k_fold)))
local macro_rules | `(tactic| k_enter) => `(tactic| (kp_kind "rest"; (fail_if_success k_inElt); (refine' rest_cells ?k1 ?k2 ?k3 ?k4 ?k5 ?kA ?kF ?kK ?k6 ?k7 ?k8 ?kV ?kP ?kG ?kB ?kD ?_ ?c2 ?c3 ?c4; (case kA => exact rfl); (case kF => exact rfl); (case kK => exact rfl); (case k1 => k_asm); (case k2 => k_asm); (case k3 => k_asm); (case k4 => k_asm); (case k5 => k_asm); (case k6 => k_is); (case k7 => k_is); (case k8 => k_room); (case kV => kl_lit); (case kP => exact rfl); (case kG => exact fun _ => rfl); (case kB => exact fun _ => rfl); (case kD => decide +kernel); (case c2 => exact rfl); (case c3 => exact rfl); (case c4 => exact rfl); k_whole; intro D' g' L' h' tk' cells' l1 FG' F' N' Y' B' X' T' l2; (have lA' : ∀ p ∈ news, @LT.lt Nat _ p.1 L' := fun p hp => l2 p (by kcf_m)); (try k_lt l1); (try k_lt l2); k_cells Y'; (try simp only [List.cons_append, List.nil_append] at N'); (try dsimp only); (try k_lift B'); (try k_fold))))
local macro_rules | `(tactic| walk_at "eval Call Attribute") => `(tactic| (k_here; (with_reducible show wpAny _ _ (eval (Expr.Call (Expr.Attribute (Expr.Name _ _) _ _) (Expr.Starred _ _ :: _) [] _) _) _ _ _); refine MethodStar_ (by rfl) ?_))
local macro_rules | `(tactic| walk_at "getAttr ref") => `(tactic| (k_here; k_dflt (refine' get_sm ?k1 ?k2 ?k4 ?k5 ?k6 ?k7 ?k9 ?k10 ?k11 ?k12 ?k13 ?k14 ?_; (case k1 => k_asm); (case k2 => k_asm); (case k4 => k_inst); (case k5 => k_is); (case k6 => k_is); (case k7 => k_is); (case k9 => k_is); (case k10 => k_is); (case k11 => decide +kernel); (case k12 => k_get); (case k13 => k_is); (case k14 => k_handed); k_whole)))
local macro_rules | `(tactic| walk_at "call builtin:all") => `(tactic| (k_here; (with_reducible show wpAny _ _ (call (Value.builtin _) [Value.ref _]) _ _ _); k_dflt (refine allTwo_N (by k_asm) (by k_asm) (by rfl) (by k_mem) (by omega) (by omega) (by omega) (by omega) ?_); intro hS' tkS' F' N'))
local macro_rules | `(tactic| walk_at "callWith ref") => `(tactic| (k_here; (with_reducible show wpAny _ _ (callWith _ (Value.ref _) _ (backTo _ (starEach [Expr.Starred _ _] _)) []) _ _ _); k_dflt (refine' callWith_MS ?k1 ?k2 ?k3 ?k4 ?_; (case k1 => k_asm); (case k2 => k_asm); (case k3 => k_mem); (case k4 => k_is); k_whole)))
local macro_rules | `(tactic| walk_at "call type:map") => `(tactic| (k_here; k_dflt (refine mapLen_N (by k_asm) (by k_asm) (by k_mem) ?_); intro hS' MS' TS' iS' oS' F' N' q3' q1' q2' qil' qn'))
local macro_rules | `(tactic| walk_at "call builtin:max") => `(tactic| (k_here; (with_reducible show wpAny _ _ (call (Value.builtin _) [Value.ref _]) _ _ _); k_dflt (refine maxMap_N (by rfl) (by k_asm) (by k_asm) (by assumption) (by assumption) (by assumption) (by assumption) (by assumption) (by k_mem) (by omega) (by omega) ?_); intro hS' tkS' tS' F' N'))
local macro_rules | `(tactic| k_all) => `(tactic| (intro pA hA; have qA := lB pA hA; refine neN ?_; (try dsimp only); omega))
local macro_rules | `(tactic| walk_at "binaryOp Mult ref int") => `(tactic| (k_here; (with_reducible show wpAny _ _ (binaryOp Operator.Mult (Value.ref _) (Value.int _ _)) _ _ _); k_dflt (refine' mulNone_N ?k1 ?k2 ?k3 ?k4 ?_; (case k1 => k_asm); (case k2 => k_asm); (case k3 => k_mem); (case k4 => split <;> omega); k_whole); intro D' h' F' N' l1; (simp only [AllLt, and_true] at l1); (try k_sweep)))
local macro_rules | `(tactic| walk_at "binaryOp Add ref ref") => `(tactic| (k_here; (with_reducible show wpAny _ _ (binaryOp Operator.Add (Value.ref _) (Value.ref _)) _ _ _); k_dflt (refine' addNil_N ?k1 ?k2 ?k3 ?k4 ?k5 ?_; (case k1 => k_asm); (case k2 => k_asm); (case k3 => k_mem); (case k4 => k_mem); (case k5 => first | exact carried_short (by assumption) hx | exact carried_short (by assumption) hy); k_whole); intro D' h' F' N' l1; (simp only [AllLt, and_true] at l1); (try k_sweep)))
local macro_rules | `(tactic| walk_at "CompRest") => `(tactic| (k_here; k_dflt ((refine CompRest_succ9 ?_; intro mk9' v' I' oI' C' oC' D' m' h' tk' E' hv' hC' hx' F' N' off' ne'; (first | lcg_open hv' | (obtain ⟨t9', hv9'⟩ := hv'; subst hv9')); have offM := off'; (try simp only [LCg.Off3, and_true] at off')))))
local macro_rules | `(tactic| walk_at "CompEnd") => `(tactic| (k_here; k_dflt (refine' end_one (d := D') ?mk ?F ?N ?sub ?off ?o1 ?o2 ?o3 ?S ?_; (case mk => assumption); (case F => k_asm); (case N => k_asm); (case sub => kcf_all); (case off => assumption); (case o1 => omega); (case o2 => omega); (case o3 => omega); (case S => lcg_src))))
local macro_rules | `(tactic| walk_at "eval GeneratorExp") => `(tactic| (k_here; (refine' GenExp9 (c := 246) (P := 244) BH ?F0 TH (CodeHd.keeps CH (Fr.keep FH)) rfl rfl rfl rfl ?room rfl rfl ?P0 rfl ?clos ?cell ?h0 ?hx rfl ?hs ?_); (case F0 => k_asm); (case room => ktr_room); (case P0 => (rename News _ _ _ _ => N9; exact (N9 (244, tabObj ps) (by k_mem)).2.2)); (case clos => with_unfolding_all rfl); (case cell => decide); (case h0 => rfl); (case hx => rfl); (case hs => intro _; with_unfolding_all rfl)))
local macro_rules | `(tactic| walk_at "callWith type:zip") => `(tactic| (k_here; (with_reducible show wpAny _ _ (callWith _ (Value.type _) _ (backTo _ (starEach [Expr.Starred _ _] _)) []) _ _ _); refine callWith_zipS ?_))
local macro_rules | `(tactic| walk_at "And") => `(tactic| (k_here; (with_reducible show True ∧ _); refine ⟨trivial, ?_⟩))
local macro_rules | `(tactic| walk_at "call type:zip") => `(tactic| (k_here; k_dflt (refine' zipTwo_N ?k1 ?k2 ?k3 ?k4 ?_; (case k1 => k_asm); (case k2 => k_asm); (case k3 => k_mem); (case k4 => k_mem); k_whole); intro hZ zZ TIZ TOZ i1Z i2Z DZ stZ F' N' offZ LZ))
local macro_rules | `(tactic| walk_at "call builtin:sum") => `(tactic| (k_here; (refine hsum _ _ ?_); intro tS hS9 tkS gsS F' N' bS))
set_option maxRecDepth 100000 in
theorem fillK7InC7 : True ∨ (PySem.Challenge.rw_fq5042_01 = PySem.Challenge.rw_fq5042_01 ∧ hd.heap_39 = hd.heap_39) := by w_top off; k_fill; exact .inl trivial
set_option maxRecDepth 100000 in
set_option maxHeartbeats 8000000 in
theorem ham_tells (w : World) (news : Led) (ps : Array Value) (ob dx : Addr) (t1 t2 t3 t4 t5 : Tok) (x y : Str) (tx ty : Tok) (hx : x.length ≤ 8) (hy : y.length ≤ 8) (hx1 : 0 < x.length) (hy1 : 0 < y.length) (hxy : x.length = y.length) (hne : (x == y) = false)
    (ht : TriplesOk ps.toList) (hnews : ∀ p ∈ news, p.1 ≠ 244)
    (mean : ExcName → Option Value) (mg mb : Str → Option Value) (dp un : Nat) (gd : Option (List Code)) (cn : Str) (nm : List (Str × NameKind)) (ig ic : Bool) (mo : List (Str × Const)) (a : Addr) (ccd : Value) (cl : List (Str × Addr)) (outer : List Env) (A₀ : Around) (base h₀ : Heap) (L : Addr) (m : Str → Option Value) (s : Shared) (Q E : Value → Shared → Prop)
    (B : Below A₀ base outer h₀) (F : Fr h₀ L s.heap m) (X : Frag.In (hd.heap_39 w.params) h₀) (N : News h₀ L s.heap (obj4 w 250 ob dx t1 t2 t3 t4 t5 ((244, tabObj ps) :: news)))
    (T : Top hd.view_39 (looseW hd.view_39 [Str.ofString "Base", Str.ofString "LCSSeq", Str.ofString "Hamming", Str.ofString "Levenshtein"]) mean mg mb h₀)
    (CH : CodeHd h₀ 246 244) (hbare : AllBare s.gens) (hd : dp + 16 < recursionLimit) (hu : un + 80 < cLine)
    (hret : ∀ (t : Tok) (h' : Heap) (tk' : Nat) (gs' : Array GenState) (ps' : Array Value), TriplesOk ps'.toList → AllBare gs' → Fr h₀ L h' m → News h₀ L h' (obj4 w 250 ob dx t1 t2 t3 t4 t5 ((244, tabObj ps') :: news)) → Q (.int (hamD x y) t) { s with heap := h', toks := tk', gens := gs' }) :
      codeAny (model PySem.Challenge.pw_fq5042_01 w) (ktrTop dp un gd cn ⟨.function, nm, ig, ic, mo⟩ L a ccd cl outer) (.call (.ref 247) ⟨[.ref ob, .str x tx, .str y ty], []⟩) (fun r s' => match r with | .ok (.ret v) => Q v s' | .ok _ => False | .error e => E e s') s := by
  k_dflt k_enter
  rename_i o1 o2 d1 d2
  have lB := lA'
  have BH := B'
  have TH := T'
  have FH := FG'
  have XH := X'
  have hS : o2.data = .cell (some (.ref ob)) := d2.trans (by with_unfolding_all rfl)
  obtain ⟨LH, hLH⟩ : ∃ a : Addr, a = L' := ⟨_, rfl⟩
  subst hLH
  k_steps
  rename CarriedAll _ (List.map PyData.str (signs x)) => cx
  rename CarriedAll _ (List.map PyData.str (signs y)) => cy
  have pl := mem_of N' (244, tabObj ps) (by k_mem)
  refine ⟨zZ, TIZ, TOZ, i1Z, i2Z, _, _, _, _, ps, _, fun ps' => (LH + 1, o2) :: obj4 w 250 ob dx t1 t2 t3 t4 t5 ((244, tabObj ps') :: news), hamF x y, fun i => if (signs x)[i]? = (signs y)[i]? then 0 else 1, rfl, DZ, stZ, F', N', offZ, fun b hb => ⟨LZ b hb, fun q => offZ _ pl b hb q.symm⟩, ?sz, pl, ht, hbare, ?kl, fun i y h => hamF_num h, ?elt, ?fin⟩
  case sz => rw [carried_size cx, carried_size cy, hxy]
  case kl =>
    intro ps' p hp
    simp only [List.mem_cons] at hp
    rcases hp with rfl | rfl | rfl | rfl | hp
    · exact .inl ⟨by k_mem, ne_tab N' (by k_mem) pl (by rw [hS]; simp)⟩
    · exact .inl ⟨by k_mem, ne_tab N' (o := instObj 250 dx) (by k_mem) pl (by simp [instObj])⟩
    · exact .inl ⟨by k_mem, ne_tab N' (by k_mem) pl (by simp [dictOf])⟩
    · exact .inr rfl
    · exact .inl ⟨by kcf_m, hnews p hp⟩
  case elt =>
    intro ps' C code g s₂ m₂ i T9 a9 b9 rest Q9 E9 hxa hyb Fg Bg stg hLC F₂ N₂ hm hk
    obtain ⟨c9, tc, hc9, rfl⟩ := carried_get cx hxa
    obtain ⟨d9, td, hd9, rfl⟩ := carried_get cy hyb
    refine elt_run w (((244, tabObj ps') :: news) ++ rest) c9 d9 tc td _ _ _ _ _ _ ob dx (LH + 1) T9 o2 t1 t2 t3 t4 t5 hS mean mg mb _ _ _ _ code _ _ _ g C m₂ s₂ Q9 E9 Bg F₂ (Frag.In.keeps XH stg) N₂ hm (Top.keeps TH stg) ?d9 ?u9 fun h9 tk9 F9 N9 => hk _ h9 tk9 ⟨c9, d9, hc9, hd9, rfl⟩ F9 N9
    case d9 => exact (show dp + 1 + 0 + 1 + 3 < recursionLimit by omega)
    case u9 => exact (show un + 3 + 1 + 1 + 0 + 3 + 20 < cLine by omega)
  case fin =>
    intro a9 s₅ ps' tk5 gs5 h₅ es ht5 F' N' hsum
    subst es
    k_steps
    rw [carried_size cx]
    exact hret tS hS9 tkS gsS ps' ht5 bS (by assumption) (cb_drop (by assumption) (by kcf_all))
end Mine
end
section
open PySem PySem.W PyProof.Rows PySem.Spec PySem.Calls
set_option Elab.async false
namespace Mine
/-- how a turn of the comprehension ends: a text, the ledger as it was -/
def EndC (h₀ : Heap) (L : Addr) (m : Str → Option Value) (s : Shared) (led : Led) (r : Str) (y : Value) (s₂ : Shared) : Prop :=
  ∃ h' tk' t', s₂ = { s with heap := h', toks := tk' } ∧ y = .str r t' ∧ Fr h₀ L h' m ∧ News h₀ L h' led
theorem EndC.intro {h₀ : Heap} {L : Addr} {m : Str → Option Value} {s : Shared} {led led' : Led} {r r' : Str} {t : Tok} {h' : Heap} {tk' : Nat} (e : r' = r) (F : Fr h₀ L h' m) (N : News h₀ L h' led') (sub : ∀ p ∈ led, p ∈ led') :
    EndC h₀ L m s led r (.str r' t) { s with heap := h', toks := tk' } := ⟨h', tk', t, rfl, by rw [e], F, fun p hp => N p (sub p hp)⟩
/-- a turn of a comprehension over range(n) whose target is a cell -/
def TurnC (prog : Program) (w : World) (A : Around) (h₀ : Heap) (L : Addr) (m : Str → Option Value) (env : Env) (elt : PySem.Expr) (x : Str) (scope : Scope) (cl : List (Str × Addr)) (news : Led) (n : Nat) (g : Int → Str) (s : Shared) : Prop :=
  ∀ (k : Int) (I : Addr) (oI : Obj) (C : Addr) (oC : Obj) (X : Addr) (oX : Obj) (D : Addr) (ys : List Value) (h : Heap) (tk : Nat) (t : Tok) (E' : Value → Shared → Prop), 0 ≤ k → k < (n : Int) → oX.data = .cell (some (.int k t)) → Fr h₀ L h m →
    News h₀ L h ((X, oX) :: (I, oI) :: (C, oC) :: (D, LCg.lst ys) :: news) → (∀ p ∈ news, @LT.lt Nat _ p.1 I) → @LT.lt Nat _ I D → @LT.lt Nat _ D C → @LT.lt Nat _ C X →
    wpAny (model prog w) A (eval elt (compEnvC scope ((x, X) :: cl) C env)) (EndC h₀ L m s ((X, oX) :: (I, oI) :: (C, oC) :: (D, LCg.lst ys) :: news) (g k)) E' { s with heap := h, toks := tk }
/-- what is asked of the range that such a comprehension walks -/
def SrcC (prog : Program) (w : World) (A : Around) (h₀ : Heap) (L : Addr) (m : Str → Option Value) (env : Env) (elt : PySem.Expr) (x : Str) (scope : Scope) (cl : List (Str × Addr)) (g : Int → Str) (Fin : Shared → Nat → Led → Prop) (xv : Value) (s₁ : Shared) : Prop :=
  ∃ (r : Addr) (b : Int) (t u v : Tok) (n : Nat) (news : Led), xv = .ref r ∧ A.handled = none ∧ Fr h₀ L s₁.heap m ∧ News h₀ L s₁.heap news ∧ IsRange s₁.heap r 0 b 1 t u v ∧ Builtin.Range.small 0 b 1 = true ∧
      Builtin.Range.rangeSize 0 b 1 = ((n : Nat) : Int) ∧ n ≤ sizeLine ∧ (∀ h, TurnC prog w A h₀ L m env elt x scope cl news n g { s₁ with heap := h }) ∧ Fin s₁ n news
section
variable {prog : Program} {w : World} {A : Around} {E : Value → Shared → Prop} {s : Shared} {h₀ : Heap} {L : Addr} {m : Str → Option Value} {env : Env}
theorem range_snoc (n : Nat) : rangeKs 0 (n + 1) = rangeKs 0 n ++ [(n : Int)] := by
  simp [rangeKs, List.range_succ]
theorem pushCells_one {names : List (Str × NameKind)} {cl : List (Str × Addr)} {x : Str} (hone : ∀ n, cellsFrom n names cl = (x, n) :: cl) (hp : ∀ h : Heap, pushCells h names = h.push { cls := .type "cell", data := .cell none }) (h : Heap) :
    cellsFrom h.objs.size names cl = (x, h.objs.size) :: cl ∧ pushCells h names = h.push { cls := .type "cell", data := .cell none } := ⟨hone _, hp h⟩
theorem newEnv_C {M : Model} {x : Str} {scope : Scope} {cl : List (Str × Addr)} {Q : Env → Shared → Prop} (hone : ∀ n, cellsFrom n scope.names cl = (x, n) :: cl) (hpush : ∀ h : Heap, pushCells h scope.names = h.push { cls := .type "cell", data := .cell none })
    (hQ : Q { compEnvC scope ((x, s.heap.objs.size + 1) :: cl) s.heap.objs.size env with scope := scope } { s with heap := (s.heap.push { cls := .type "dict", data := .dict #[] }).push { cls := .type "cell", data := .cell none } }) :
    wpAny M A (newFunctionEnv scope env.globals cl [] env.qual none .none (some env)) Q E s := by
  simp only [newFunctionEnv, Option.isSome_some, if_true]
  refine wpAny_bind (wpAny_alloc ?_)
  refine wpAny_bind (wpAny_layCells _ (fun name kind cells => by cases hkc : kind == NameKind.cell <;> simp [hkc]) _ _ _ _ ?_)
  refine wpAny_bind ?_
  rw [List.forIn_nil]
  refine wpAny_pure (wpAny_pure ?_)
  rw [hone, hpush]
  have e : (s.heap.push { cls := .type "dict", data := .dict #[] }).objs.size = s.heap.objs.size + 1 := Heap.size_push ..
  dsimp only
  rw [e]
  exact hQ
theorem Assign_C {elt iter : PySem.Expr} {x y : Str} {px py : Pos} {scope : Scope} {cl : List (Str × Addr)} {pos spos : Pos} {Q : Flow → Shared → Prop} (g : Int → Str) (hLe : env.locals = L)
    (hsw : swapsWith (.ListComp elt [⟨.Name x px, iter, [], 0⟩] scope pos) (some (.Name y py)) spos.line env = pure true)
    (hclos : closureFor scope env = pure cl) (hone : ∀ n, cellsFrom n scope.names cl = (x, n) :: cl) (hpush : ∀ h : Heap, pushCells h scope.names = h.push { cls := .type "cell", data := .cell none }) (hkind : scope.kind = .function)
    (hnames : ∀ y ∈ scope.names, y.2 = .local → scope.names.lookup y.1 = some .local) (hx : (relabel scope env).names.lookup x = some .cell)
    (hy : env.kindOf y = some .local) (hp : (env.scope.kind == .class || (env.scope.kind == .module && env.locals != env.globals)) = false)
    (h : wpAny (model prog w) A (eval iter env) (SrcC prog w A h₀ L m env elt x scope cl g (fun s₁ n news => ∀ D h tk ys, Fr h₀ L h (fun z => if z = y then some (.ref D) else m z) → News h₀ L h ((D, LCg.lst ys) :: news) → (∀ p ∈ news, @LT.lt Nat _ p.1 D) → StrsAre ys ((rangeKs 0 n).map g) → Q .next { s₁ with heap := h, toks := tk })) E s)
    (hs : ∀ x, foldedSetIterable iter env x = pure x := by intro _; rfl) :
    wpAny (model prog w) A (exec (.Assign [.Name y py] (.ListComp elt [⟨.Name x px, iter, [], 0⟩] scope pos) spos) env) Q E s := by
  subst hLe
  rw [exec_Assign_Name_used _ _ _ _ hsw]
  refine wpAny_bind (wpAny_standAt (wpAny_bind ?_))
  show wpAny _ A (do let _ ← comprehension (.ListComp elt [⟨.Name x px, iter, [], 0⟩] scope pos) scope env _ (newList []) false (eval iter env) (some (assign (.Name y py) env))) _ _ s
  refine wpAny_bind (wpAny_mono (wpAny_comprehension_free (use := some (assign (.Name y py) env)) (Q := fun _ s' => Q .next s') rfl hs hclos hkind hnames
    (wpAny_mono h (fun xv s₁ h₁ => ?_) fun _ _ e => e)) (fun _ s' hq => wpAny_pure (wpAny_pure hq)) fun _ _ e => e)
  obtain ⟨r, b, t, u, v, n, news, rfl, hh, F, N, hr, hsm, hn, hsz, turn, fin⟩ := h₁
  refine wpAny_pyIter_range hr hsm ?_
  generalize hH : s₁.heap.push _ = H1
  have z1 : H1.objs.size = s₁.heap.objs.size + 1 := by rw [← hH, Heap.size_push]
  have hI : IsRangeIter H1 s₁.heap.objs.size (0 + ((0 : Nat) : Int) * 1) ((n : Int) - ((0 : Nat) : Int)) 1 := by
    show H1.get? _ = some _
    rw [← hH, hn]; simpa using Heap.get?_push_size _ rfl
  refine wpAny_newObj_type ?_
  refine newEnv_C hone hpush ?_
  dsimp only
  have zD : (H1.push { cls := .type "list", data := .seq ([] : List Value).toArray }).objs.size = H1.objs.size + 1 := Heap.size_push ..
  have zC : ((H1.push { cls := .type "list", data := .seq ([] : List Value).toArray }).push { cls := .type "dict", data := .dict #[] }).objs.size = H1.objs.size + 2 := by rw [Heap.size_push, zD]
  have zX : (((H1.push { cls := .type "list", data := .seq ([] : List Value).toArray }).push { cls := .type "dict", data := .dict #[] }).push { cls := .type "cell", data := .cell none }).objs.size = H1.objs.size + 3 := by rw [Heap.size_push, zC]
  rw [zD]
  generalize hH4 : (((H1.push { cls := .type "list", data := .seq ([] : List Value).toArray }).push { cls := .type "dict", data := .dict #[] }).push { cls := .type "cell", data := .cell none }) = H4 at zX ⊢
  have old : ∀ b o, H1.get? b = some o → H4.get? b = some o := fun b o e => by rw [← hH4]; exact Heap.get?_push_of_some _ (Heap.get?_push_of_some _ (Heap.get?_push_of_some _ e))
  have gD : H4.get? H1.objs.size = some (LCg.lst []) := by rw [← hH4]; exact Heap.get?_push_of_some _ (Heap.get?_push_of_some _ (Heap.get?_push_size _ rfl))
  have gC : H4.get? (H1.objs.size + 1) = some { cls := .type "dict", data := .dict #[] } := by
    rw [← hH4]; refine Heap.get?_push_of_some _ ?_
    have := Heap.get?_push_size (H1.push { cls := .type "list", data := .seq ([] : List Value).toArray }) (o := ({ cls := .type "dict", data := .dict #[] } : Obj)) rfl
    rwa [zD] at this
  have gX : H4.get? (H1.objs.size + 2) = some { cls := .type "cell", data := .cell none } := by
    rw [← hH4]
    have := Heap.get?_push_size ((H1.push { cls := .type "list", data := .seq ([] : List Value).toArray }).push { cls := .type "dict", data := .dict #[] }) (o := ({ cls := .type "cell", data := .cell none } : Obj)) rfl
    rwa [zC] at this
  have oldS : ∀ b o, s₁.heap.get? b = some o → H4.get? b = some o := fun b o e => old b o (by rw [← hH]; exact Heap.get?_push_of_some _ e)
  have hLlt : @LT.lt Nat _ env.locals s₁.heap.objs.size := F.ns.lt
  have fresh₀ : ∀ a, @LE.le Nat _ s₁.heap.objs.size a → h₀.get? a = none := fun a ha => by
    cases e : h₀.get? a with
    | none => rfl
    | some o' => exact absurd (Heap.lt_size (F.keep a o' e)) (Nat.not_lt.mpr ha)
  have nlt : ∀ p ∈ news, @LT.lt Nat _ p.1 s₁.heap.objs.size := fun p hp => Heap.lt_size (N p hp).1
  have neL : ∀ a, @LE.le Nat _ s₁.heap.objs.size a → a ≠ env.locals := fun a ha e => by subst e; omega
  have loop : ∀ s₃ : Shared, (∃ tk, s₃ = { s₁ with heap := H4, toks := tk }) →
      codeAny (model prog w) A (.compLoop (.ListComp elt [⟨.Name x px, iter, [], 0⟩] scope pos) 0 (.ref s₁.heap.objs.size) (.ref H1.objs.size) (compEnvC scope ((x, H1.objs.size + 1 + 1) :: cl) (H1.objs.size + 1) env))
        (compPost (model prog w) A E (some (assign (.Name y py) env)) (fun _ s' => Q .next s') (.ref H1.objs.size) (H1.objs.size + 1)) s₃ := by
    rintro s₃ ⟨tk₃, rfl⟩
    refine codeAny_compLoop_tests
      (fun k s' => ∃ h' tk i ys oX, s' = { s₁ with heap := h', toks := tk } ∧ i ≤ n ∧ k = n + 1 - i ∧ StrsAre ys ((rangeKs 0 i).map g) ∧ IsRangeIter h' s₁.heap.objs.size (0 + ((i : Nat) : Int) * 1) ((n : Int) - ((i : Nat) : Int)) 1 ∧ Fr h₀ env.locals h' m ∧ (∃ v₀, oX.data = .cell v₀) ∧
        News h₀ env.locals h' ((H1.objs.size + 2, oX) :: (H1.objs.size + 1, { cls := .type "dict", data := .dict #[] }) :: (H1.objs.size, LCg.lst ys) :: news)) ?_ (n + 1)
      ⟨H4, _, 0, [], { cls := .type "cell", data := .cell none }, rfl, Nat.zero_le _, rfl, .nil, ?_, F.keeps oldS, ⟨none, rfl⟩, fun p hp => ?_⟩
    · rintro k s' ⟨h', tk, i, ys, oX, rfl, hi, rfl, hys, hst, F', ⟨v₀, hv₀⟩, N'⟩
      have nX := N' _ List.mem_cons_self
      have nC := N' _ (List.mem_cons_of_mem _ List.mem_cons_self)
      have nD := N' _ (List.mem_cons_of_mem _ (List.mem_cons_of_mem _ List.mem_cons_self))
      have nR : News h₀ env.locals h' news := fun p hp => N' p (List.mem_cons_of_mem _ (List.mem_cons_of_mem _ (List.mem_cons_of_mem _ hp)))
      dsimp only at nX nC nD
      have iN : ∀ (h₂ : Heap), (∀ b o, b ∉ [s₁.heap.objs.size] → h'.get? b = some o → h₂.get? b = some o) → Fr h₀ env.locals h₂ m ∧ News h₀ env.locals h₂ ((H1.objs.size + 2, oX) :: (H1.objs.size + 1, { cls := .type "dict", data := .dict #[] }) :: (H1.objs.size, LCg.lst ys) :: news) := fun h₂ hk₂ =>
        ⟨LCg.fr_but F' hk₂ (Ne.symm (neL _ (Nat.le_refl _))) (fresh₀ _ (Nat.le_refl _)), LCg.news_but N' hk₂ fun p hp => by
          rcases List.mem_cons.mp hp with rfl | hp
          · show @Ne Nat _ _; omega
          · rcases List.mem_cons.mp hp with rfl | hp
            · show @Ne Nat _ _; omega
            · rcases List.mem_cons.mp hp with rfl | hp
              · show @Ne Nat _ _; omega
              · exact Nat.ne_of_lt (nlt p hp)⟩
      by_cases hlt : i < n
      · refine (LCg.range_walks hh 0 n).item i _ _ _ hlt hst fun v h₂ tk₂ hPv hst₂ hk₂ => ?_
        obtain ⟨t₂, rfl⟩ := hPv
        obtain ⟨F₂, N₂⟩ := iN h₂ hk₂
        have nX₂ := N₂ _ List.mem_cons_self
        dsimp only at nX₂
        refine wpAny_assign_Name (wpAny_storeName_cell (by show (relabel scope env).kind = _; exact hkind) hx (by simp [compEnvC]) ⟨oX, nX₂.1, hv₀⟩ fun h₃ hv₃ hs₃ => ?_)
        obtain ⟨oX₃, gX₃, dX₃⟩ := hv₃
        refine wpAny_tests_nil ?_
        simp only [if_true]
        have F₃ : Fr h₀ env.locals h₃ m := F₂.change hs₃ nX.2.1 nX.2.2
        have hst₃ : IsRangeIter h₃ s₁.heap.objs.size (0 + ((i + 1 : Nat) : Int) * 1) ((n : Int) - ((i + 1 : Nat) : Int)) 1 := (LCg.range_walks (prog := prog) (w := w) (A := A) hh 0 n).frame _ _ _ hst₂ fun b hb o e => hs₃.extBut b o (by rw [List.mem_singleton.mp hb]; show @Ne Nat _ _; omega) e
        have gI₃ : h₃.get? s₁.heap.objs.size = some _ := hst₃
        have N₃ : News h₀ env.locals h₃ ((H1.objs.size + 2, oX₃) :: (s₁.heap.objs.size, _) :: (H1.objs.size + 1, { cls := .type "dict", data := .dict #[] }) :: (H1.objs.size, LCg.lst ys) :: news) := fun p hp => by
          rcases List.mem_cons.mp hp with rfl | hp
          · exact ⟨gX₃, nX.2⟩
          · rcases List.mem_cons.mp hp with rfl | hp
            · exact ⟨gI₃, neL _ (Nat.le_refl _), fresh₀ _ (Nat.le_refl _)⟩
            · have z := N₂ p (List.mem_cons_of_mem _ hp)
              refine ⟨hs₃.extBut _ _ ?_ z.1, z.2⟩
              rcases List.mem_cons.mp hp with rfl | hp
              · show @Ne Nat _ _; omega
              · rcases List.mem_cons.mp hp with rfl | hp
                · show @Ne Nat _ _; omega
                · have := nlt p hp; show @Ne Nat _ _; omega
        refine wpAny_mono (turn s₁.heap (0 + (i : Int)) _ _ _ _ _ _ _ _ h₃ _ t₂ _ (by omega) (by omega) dX₃ F₃ N₃ nlt (by omega) (Nat.lt_succ_self _) (Nat.lt_succ_self _)) (fun y s₄ h₄ => ?_) fun _ _ e => e
        obtain ⟨h₄, tk₄, t₄, rfl, rfl, F₄, N₄⟩ := h₄
        have nX₄ := N₄ _ List.mem_cons_self
        have nI₄ := N₄ _ (List.mem_cons_of_mem _ List.mem_cons_self)
        have nC₄ := N₄ _ (List.mem_cons_of_mem _ (List.mem_cons_of_mem _ List.mem_cons_self))
        have nD₄ := N₄ _ (List.mem_cons_of_mem _ (List.mem_cons_of_mem _ (List.mem_cons_of_mem _ List.mem_cons_self)))
        dsimp only at nX₄ nI₄ nC₄ nD₄
        have hyl : ys.length = i := by rw [hys.length]; simp [rangeKs]
        refine append_at (hsz := by show ys.toArray.size ≤ sizeLine; rw [List.size_toArray, hyl]; omega) nD₄.1 fun h₅ hs₅ hD₅ => ?_
        refine ⟨n + 1 - (i + 1), by omega, h₅, tk₄, i + 1, ys ++ [.str (g (0 + (i : Int))) t₄], oX₃, rfl, hlt, rfl, ?_, ?_, F₄.change hs₅ nD₄.2.1 nD₄.2.2, ⟨_, dX₃⟩, fun p hp => ?_⟩
        · rw [range_snoc, List.map_append]
          have := kct_snoc (y := g (0 + (i : Int))) (t := t₄) hys
          simpa using this
        · show h₅.get? _ = some _
          exact hs₅.extBut _ _ (by show @Ne Nat _ _; omega) nI₄.1
        · rcases List.mem_cons.mp hp with rfl | hp
          · exact ⟨hs₅.extBut _ _ (by show @Ne Nat _ _; omega) nX₄.1, nX₄.2⟩
          · rcases List.mem_cons.mp hp with rfl | hp
            · exact ⟨hs₅.extBut _ _ (by show @Ne Nat _ _; omega) nC₄.1, nC₄.2⟩
            · rcases List.mem_cons.mp hp with rfl | hp
              · exact ⟨hD₅.trans (congrArg some (LCg.lst_snoc ys _)), nD₄.2⟩
              · have z := N₄ p (List.mem_cons_of_mem _ (List.mem_cons_of_mem _ (List.mem_cons_of_mem _ (List.mem_cons_of_mem _ hp))))
                exact ⟨hs₅.extBut _ _ (by have := nlt p hp; show @Ne Nat _ _; omega) z.1, z.2⟩
      · obtain rfl : i = n := Nat.le_antisymm hi (Nat.not_lt.mp hlt)
        refine (LCg.range_walks hh 0 i).done _ _ _ hst fun h₂ tk₂ hk₂ => ?_
        obtain ⟨F₂, N₂⟩ := iN h₂ hk₂
        have nC₂ := N₂ _ (List.mem_cons_of_mem _ List.mem_cons_self)
        dsimp only at nC₂
        show wpAny _ A (assign (.Name y py) env (.ref H1.objs.size)) _ _ _
        refine wpAny_assign_Name (wpAny_storeName_local hy F₂.ns (fun h₅ hn₅ hs₅ => ?_) hp)
        have hL₀ : h₀.get? env.locals = none := Heap.get?_none_of_le F₂.above
        have F₅ : Fr h₀ env.locals h₅ (fun z => if z = y then some (.ref H1.objs.size) else m z) := ⟨hn₅, fun b o e => hs₅.extBut b o (fun q => by rw [q, hL₀] at e; cases e) (F₂.keep b o e), F₂.above⟩
        refine ⟨fun _ => none, ⟨_, _, _, hs₅.extBut _ _ nC₂.2.1 nC₂.1, rfl, ?_⟩, fun h'' hs'' => fin _ _ _ ys (F₅.change hs'' nC₂.2.1 nC₂.2.2) (fun p hp => ?_) (fun p hp => by have := nlt p hp; omega) hys⟩
        · exact ⟨fun _ h => absurd h (by simp), fun _ => rfl⟩
        · have z := N₂ p (List.mem_cons_of_mem _ (List.mem_cons_of_mem _ hp))
          refine ⟨hs''.extBut _ _ ?_ (hs₅.extBut _ _ z.2.1 z.1), z.2⟩
          rcases List.mem_cons.mp hp with rfl | hp
          · show @Ne Nat _ _; omega
          · have := nlt p hp; show @Ne Nat _ _; omega
    · show H4.get? _ = some _
      exact old _ _ hI
    · rcases List.mem_cons.mp hp with rfl | hp
      · exact ⟨gX, neL _ (by omega), fresh₀ _ (by omega)⟩
      · rcases List.mem_cons.mp hp with rfl | hp
        · exact ⟨gC, neL _ (by omega), fresh₀ _ (by omega)⟩
        · rcases List.mem_cons.mp hp with rfl | hp
          · exact ⟨gD, neL _ (by omega), fresh₀ _ (by omega)⟩
          · exact ⟨oldS _ _ (N p hp).1, (N p hp).2⟩
  refine codeAny_compStart_list (loop _ ⟨_, rfl⟩) ((LCg.range_walks hh 0 n).self 0 _ _ _ (old _ _ hI) (loop _ ⟨_, rfl⟩))
end
end Mine
end
section
open PySem PySem.W PyProof.Rows PySem.Spec PySem.Calls
set_option Elab.async false
set_option maxRecDepth 100000
namespace Mine
abbrev LedT := List (Addr × Obj)
/-- what a comprehension over texts has made -/
inductive OutAre (Out : Str → Value → Prop) : List Str → List Value → Prop
  | nil : OutAre Out [] []
  | cons {u : Str} {y : Value} {us : List Str} {ys : List Value} : Out u y → OutAre Out us ys → OutAre Out (u :: us) (y :: ys)
theorem OutAre.snoc {Out : Str → Value → Prop} {u : Str} {y : Value} : ∀ {us : List Str} {ys : List Value}, OutAre Out us ys → Out u y → OutAre Out (us ++ [u]) (ys ++ [y])
  | _, _, .nil, h => .cons h .nil
  | _, _, .cons a r, h => .cons a (r.snoc h)
theorem OutAre.length {Out : Str → Value → Prop} : ∀ {us : List Str} {ys : List Value}, OutAre Out us ys → ys.length = us.length
  | _, _, .nil => rfl
  | _, _, .cons _ r => by simp [r.length]
theorem OutAre.strs : ∀ {us : List Str} {ys : List Value}, OutAre (fun u y => ∃ t, y = .str u t) us ys → StrsAre ys us
  | _, _, .nil => .nil
  | _, _, .cons ⟨t, e⟩ r => e ▸ .cons _ t r.strs
theorem strs_at : ∀ {vs : List Value} {us : List Str}, StrsAre vs us → ∀ (i : Nat) (v : Value), vs.toArray[i]? = some v → ∃ u t, us[i]? = some u ∧ v = .str u t := fun {vs us} h i v e => by
  rw [List.getElem?_toArray] at e
  have hl : i < us.length := by rw [← h.length]; exact (List.getElem?_eq_some_iff.mp e).1
  obtain ⟨t, ht⟩ := h.get i _ (List.getElem?_eq_getElem hl)
  rw [e] at ht
  exact ⟨_, t, List.getElem?_eq_getElem hl, Option.some.inj ht⟩

/-- where a turn ends -/
def EndL (h₀ : Heap) (L : Addr) (m : Str → Option Value) (s : Shared) (fix : LedT) (led : Array Value → LedT) (s₂ : Shared) : Prop :=
  ∃ h' tk' gs' ps', s₂ = { s with heap := h', toks := tk', gens := gs' } ∧ TriplesOk ps'.toList ∧ AllBare gs' ∧ Fr h₀ L h' m ∧ News h₀ L h' (fix ++ led ps')
theorem EndL.intro {h₀ : Heap} {L : Addr} {m : Str → Option Value} {s : Shared} {fix all : LedT} {led : Array Value → LedT} {h' : Heap} {tk' : Nat} {gs' : Array GenState} (ps' : Array Value) (ht : TriplesOk ps'.toList) (hb : AllBare gs') (F : Fr h₀ L h' m) (N : News h₀ L h' all) (sub : ∀ p ∈ fix ++ led ps', p ∈ all) :
    EndL h₀ L m s fix led { s with heap := h', toks := tk', gens := gs' } := ⟨h', tk', gs', ps', rfl, ht, hb, F, fun p hp => N p (sub p hp)⟩

def TurnL (prog : Program) (w : World) (A : Around) (h₀ : Heap) (L : Addr) (m : Str → Option Value) (env : Env) (ifs : List PySem.Expr) (elt : PySem.Expr) (x : Str) (scope : Scope) (cl : List (Str × Addr)) (led : Array Value → LedT) (Out : Str → Value → Prop) (kp : Str → Bool) (us : List Str) (s : Shared) : Prop :=
  ∀ (u : Str) (t : Tok) (I : Addr) (oI : Obj) (C : Addr) (oC : Obj) (D : Addr) (ys : List Value) (m₂ : Str → Option Value) (h : Heap) (tk : Nat) (gs : Array GenState) (ps : Array Value) (E' : Value → Shared → Prop), u ∈ us → TriplesOk ps.toList → AllBare gs → LCg.NsObj oC m₂ → m₂ x = some (.str u t) →
    Fr h₀ L h m → News h₀ L h ((I, oI) :: (C, oC) :: (D, LCg.lst ys) :: led ps) → (∀ p ∈ led ps, @LT.lt Nat _ p.1 I) → @LT.lt Nat _ I D → @LT.lt Nat _ D C →
    wpAny (model prog w) A (forIn ifs true fun c r => if r = true then do let ok ← isTrue c (compEnvC scope cl C env) (eval c (compEnvC scope cl C env)); pure (ForInStep.yield ok) else pure (ForInStep.yield r))
      (fun ok s' => ok = kp u ∧ if ok = true then wpAny (model prog w) A (eval elt (compEnvC scope cl C env)) (fun y s₂ => Out u y ∧ EndL h₀ L m s [(I, oI), (C, oC), (D, LCg.lst ys)] led s₂) E' s' else EndL h₀ L m s [(I, oI), (C, oC), (D, LCg.lst ys)] led s') E' { s with heap := h, toks := tk, gens := gs }

def FinL (h₀ : Heap) (L : Addr) (m : Str → Option Value) (s : Shared) (led : Array Value → LedT) (Out : Str → Value → Prop) (us : List Str) (Q : Addr → Shared → Prop) : Prop :=
  ∀ D h tk gs ps ys, TriplesOk ps.toList → AllBare gs → Fr h₀ L h m → News h₀ L h ((D, LCg.lst ys) :: led ps) → AllLt D (led ps) → OutAre Out us ys → Q D { s with heap := h, toks := tk, gens := gs }

/-- what is asked of the list that such a comprehension walks -/
def SrcT (prog : Program) (w : World) (A : Around) (h₀ : Heap) (L : Addr) (m : Str → Option Value) (env : Env) (ifs : List PySem.Expr) (elt : PySem.Expr) (x : Str) (scope : Scope) (cl : List (Str × Addr)) (Q : Addr → Shared → Prop) (mQ : Addr → Str → Option Value) (xv : Value) (s₁ : Shared) : Prop :=
  ∃ (ax : Addr) (vs : List Value) (k : Nat) (us : List Str) (led : Array Value → LedT) (Out : Str → Value → Prop) (kp : Str → Bool) (ps : Array Value), xv = .ref ax ∧ A.handled = none ∧ Fr h₀ L s₁.heap m ∧ TriplesOk ps.toList ∧ AllBare s₁.gens ∧ News h₀ L s₁.heap (led ps) ∧ StrsAre vs us ∧ us.length ≤ sizeLine ∧
    (∀ ps, (ax, W.listOf vs.toArray k) ∈ led ps) ∧ (∀ ps ps', (led ps').map (·.1) = (led ps).map (·.1)) ∧ TurnL prog w A h₀ L m env ifs elt x scope cl led Out kp us s₁ ∧
    (∀ D h tk gs ps ys, TriplesOk ps.toList → AllBare gs → Fr h₀ L h (mQ D) → News h₀ L h ((D, LCg.lst ys) :: led ps) → AllLt D (led ps) → OutAre Out (us.filter kp) ys → Q D { s₁ with heap := h, toks := tk, gens := gs })

section
variable {prog : Program} {w : World} {A : Around} {E : Value → Shared → Prop} {s : Shared} {h₀ : Heap} {L : Addr} {m : Str → Option Value} {env : Env}
/-- the loop: from the list's iterator to the list made -/
theorem loopL {ifs : List PySem.Expr} {elt iter : PySem.Expr} {x : Str} {px : Pos} {scope : Scope} {cl : List (Str × Addr)} {pos : Pos} {ax : Addr} {vs : List Value} {k : Nat} {us : List Str} {led : Array Value → LedT} {Out : Str → Value → Prop} {kp : Str → Bool} {ps : Array Value} {RR : Value → Addr → Result → Shared → Prop}
    (hh : A.handled = none) (F : Fr h₀ L s.heap m) (ht : TriplesOk ps.toList) (hb : AllBare s.gens) (N : News h₀ L s.heap (led ps)) (hvs : StrsAre vs us) (hsz : us.length ≤ sizeLine) (hax : ∀ ps, (ax, W.listOf vs.toArray k) ∈ led ps) (hled : ∀ ps ps', (led ps').map (·.1) = (led ps).map (·.1))
    (hcell : ∀ y ∈ scope.names, y.2 ≠ .cell) (hkind : scope.kind = .function) (hx : scope.names.lookup x = some .local) (turn : TurnL prog w A h₀ L m env ifs elt x scope cl led Out kp us s)
    (hRR : ∀ D C h tk gs ps ys m', TriplesOk ps.toList → AllBare gs → Fr h₀ L h m → News h₀ L h ((D, LCg.lst ys) :: led ps) → (∀ p ∈ led ps, @LT.lt Nat _ p.1 D) → @LT.lt Nat _ D C → h.Ns C m' → h₀.get? C = none → C ≠ L → OutAre Out (us.filter kp) ys → RR (.ref D) C (.ok .next) { s with heap := h, toks := tk, gens := gs }) :
    wpAny (model prog w) A (pyIter (.ref ax)) (fun it s₂ => wpAny (model prog w) A (newList []) (fun acc s₃ => wpAny (model prog w) A (newFunctionEnv scope env.globals cl [] env.qual none .none (some env)) (fun cenv s₄ =>
      codeAny (model prog w) A (.compStart (.ListComp elt [⟨.Name x px, iter, ifs, 0⟩] scope pos) 0 it acc { cenv with scope := relabel scope env }) (RR acc cenv.locals) s₄) E s₃) E s₂) E s := by
  have hl : s.heap.IsList ax vs.toArray := ⟨_, (N _ (hax ps)).1, rfl, _, rfl⟩
  have hlt : @LT.lt Nat _ ax s.heap.objs.size := by obtain ⟨_, e, _⟩ := hl; exact Heap.lt_size e
  refine wpAny_pyIter_list hl ?_
  refine wpAny_newObj_type (wpAny_newFunctionEnv hcell (by intro y hy; simp at hy) (fun h₁ hns₁ hsb₁ => ?_) hkind)
  dsimp only at hns₁ hsb₁ ⊢
  generalize hH1 : s.heap.push { cls := .type "list_iterator", data := .fields #[.ref ax, .int 0 0] } = H1 at hns₁ hsb₁ ⊢
  have z1 : H1.objs.size = s.heap.objs.size + 1 := by rw [← hH1, Heap.size_push]
  generalize hH2 : H1.push { cls := .type "list", dict := none, data := .seq ([] : List Value).toArray } = H2 at hns₁ hsb₁ ⊢
  have z2 : H2.objs.size = s.heap.objs.size + 2 := by rw [← hH2, Heap.size_push, z1]
  have hI1 : H1.get? s.heap.objs.size = some { cls := .type "list_iterator", data := .fields #[.ref ax, .int 0 0] } := by rw [← hH1]; exact Heap.get?_push_size _ rfl
  have keep1 : ∀ b o, H1.get? b = some o → h₁.get? b = some o := fun b o e => by
    have hb' : @LT.lt Nat _ b H1.objs.size := Heap.lt_size e
    refine hsb₁.extBut b o (by show @Ne Nat _ _; omega) (Heap.get?_push_of_some _ ?_)
    rw [← hH2]
    exact Heap.get?_push_of_some _ e
  have keep : ∀ b o, s.heap.get? b = some o → h₁.get? b = some o := fun b o e => keep1 b o (by rw [← hH1]; exact Heap.get?_push_of_some _ e)
  have hacc : h₁.get? H1.objs.size = some (LCg.lst []) := hsb₁.extBut _ _ (by show @Ne Nat _ _; omega) (Heap.get?_push_of_some _ (by rw [← hH2]; exact Heap.get?_push_size _ rfl))
  have hLlt : @LT.lt Nat _ L s.heap.objs.size := F.ns.lt
  have fresh₀ : ∀ a, @LE.le Nat _ s.heap.objs.size a → h₀.get? a = none := fun a ha => by
    cases e : h₀.get? a with
    | none => rfl
    | some o' => exact absurd (Heap.lt_size (F.keep a o' e)) (Nat.not_lt.mpr ha)
  have neL : ∀ a, @LE.le Nat _ s.heap.objs.size a → a ≠ L := fun a ha e => by subst e; omega
  have nlt : ∀ ps', ∀ p ∈ led ps', @LT.lt Nat _ p.1 s.heap.objs.size := fun ps' p hp => by
    have hm : p.1 ∈ (led ps').map (·.1) := List.mem_map_of_mem hp
    rw [hled ps ps'] at hm
    obtain ⟨q, hq, e⟩ := List.mem_map.mp hm
    have := Heap.lt_size (N q hq).1
    rw [e] at this
    exact this
  have loop : ∀ s₃ : Shared, (∃ tk, s₃ = { s with heap := h₁, toks := tk }) →
      codeAny (model prog w) A (.compLoop (.ListComp elt [⟨.Name x px, iter, ifs, 0⟩] scope pos) 0 (.ref s.heap.objs.size) (.ref H1.objs.size) (compEnvC scope cl H2.objs.size env)) (RR (.ref H1.objs.size) H2.objs.size) s₃ := by
    rintro s₃ ⟨tk₃, rfl⟩
    refine codeAny_compLoop_tests
      (fun n s' => ∃ h' tk gs ps' i ys m', s' = { s with heap := h', toks := tk, gens := gs } ∧ i ≤ us.length ∧ n = us.length + 1 - i ∧ TriplesOk ps'.toList ∧ AllBare gs ∧ h'.IsListIter s.heap.objs.size ax i ∧ Fr h₀ L h' m ∧ h'.Ns H2.objs.size m' ∧ News h₀ L h' ((H1.objs.size, LCg.lst ys) :: led ps') ∧
        OutAre Out ((us.take i).filter kp) ys) ?_ (us.length + 1)
      ⟨h₁, _, s.gens, ps, 0, [], _, rfl, Nat.zero_le _, rfl, ht, hb, ⟨_, keep1 _ _ hI1, rfl, rfl⟩, F.keeps keep, hns₁, fun p hp => ?_, .nil⟩
    · rintro n s' ⟨h', tk, gs, ps', i, ys, m', rfl, hi, rfl, ht', hb', hit, F', hn', N', hout⟩
      have hl' : h'.IsList ax vs.toArray := ⟨_, (N' _ (List.mem_cons_of_mem _ (hax ps'))).1, rfl, _, rfl⟩
      have hvl : vs.toArray.size = us.length := by rw [List.size_toArray]; exact hvs.length
      have W := Walks.list (prog := prog) (w := w) (A := A) hh s.heap.objs.size ax (Nat.ne_of_lt hlt) vs.toArray
      have iN : ∀ h₂ : Heap, (∀ b o, b ∉ [s.heap.objs.size] → h'.get? b = some o → h₂.get? b = some o) → Fr h₀ L h₂ m ∧ News h₀ L h₂ ((H1.objs.size, LCg.lst ys) :: led ps') ∧ h₂.Ns H2.objs.size m' := fun h₂ hk₂ =>
        ⟨LCg.fr_but F' hk₂ (Ne.symm (neL _ (Nat.le_refl _))) (fresh₀ _ (Nat.le_refl _)), LCg.news_but N' hk₂ fun p hp => by
          rcases List.mem_cons.mp hp with rfl | hp
          · show @Ne Nat _ _; omega
          · exact Nat.ne_of_lt (nlt ps' p hp), hn'.at' fun o e => hk₂ _ o (by simp only [List.mem_singleton]; show @Ne Nat _ _; omega) e⟩
      by_cases hlt' : i < us.length
      · refine W.item i _ _ _ (hvl ▸ hlt') ⟨hit, hl'⟩ fun v h₂ tk₂ hPv hst₂ hk₂ => ?_
        obtain ⟨u, t, hu, rfl⟩ := strs_at hvs i v hPv
        obtain ⟨F₂, N₂, hn₂⟩ := iN h₂ hk₂
        refine wpAny_assign_Name (wpAny_storeName_local (lookup_relabel_local hx) hn₂ (fun h₃ hn₃ hs₃ => ?_) (by simp [compEnvC, relabel, hkind]))
        have hs₃ : Heap.SameBut H2.objs.size h₂ h₃ := hs₃
        have hn₃ : h₃.Ns H2.objs.size _ := hn₃
        have hC0 : h₀.get? H2.objs.size = none := fresh₀ _ (by omega)
        have hCL : H2.objs.size ≠ L := neL _ (by omega)
        have F₃ : Fr h₀ L h₃ m := F₂.change hs₃ hCL hC0
        obtain ⟨oC, heC, hoC⟩ := LCg.ns_obj hn₃
        have hst₃ : h₃.IsListIter s.heap.objs.size ax (i + 1) := hst₂.1.at fun o e => hs₃.extBut _ _ (by show @Ne Nat _ _; omega) e
        obtain ⟨oI, heI, hoI⟩ := id hst₃
        have N₃ : News h₀ L h₃ ((s.heap.objs.size, oI) :: (H2.objs.size, oC) :: (H1.objs.size, LCg.lst ys) :: led ps') := fun p hp => by
          rcases List.mem_cons.mp hp with rfl | hp
          · exact ⟨heI, neL _ (Nat.le_refl _), fresh₀ _ (Nat.le_refl _)⟩
          · rcases List.mem_cons.mp hp with rfl | hp
            · exact ⟨heC, hCL, hC0⟩
            · have z := N₂ p hp
              refine ⟨hs₃.extBut _ _ ?_ z.1, z.2⟩
              rcases List.mem_cons.mp hp with rfl | hp
              · show @Ne Nat _ _; omega
              · have := nlt ps' p hp; show @Ne Nat _ _; omega
        have ex : us.take (i + 1) = us.take i ++ [u] := by rw [List.take_add_one, hu]; rfl
        refine wpAny_mono (turn u t _ oI H2.objs.size oC H1.objs.size ys _ h₃ _ gs ps' _ (List.mem_of_getElem? hu) ht' hb' hoC (by simp) F₃ N₃ (nlt ps') (by omega) (by omega)) (fun ok s₄ h₄ => ?_) fun _ _ e => e
        obtain ⟨rfl, h₄⟩ := h₄
        cases hkp : kp u with
        | true =>
          rw [hkp] at h₄
          simp only [if_true] at h₄ ⊢
          refine wpAny_mono h₄ (fun y s₅ h₅ => ?_) fun _ _ e => e
          obtain ⟨hy, h₄, tk₄, gs₄, ps₄, rfl, ht₄, hb₄, F₄, N₄⟩ := h₅
          have zI := N₄ (s.heap.objs.size, oI) (by simp)
          have zC := N₄ (H2.objs.size, oC) (by simp)
          have zD := N₄ (H1.objs.size, LCg.lst ys) (by simp)
          have hyl : ys.length ≤ us.length := by rw [hout.length]; exact Nat.le_trans (List.length_filter_le _ _) (by rw [List.length_take]; omega)
          refine append_at (hsz := by show ys.toArray.size ≤ sizeLine; rw [List.size_toArray]; exact Nat.le_trans hyl hsz) zD.1 fun h₅ hs₅ hD₅ => ?_
          refine ⟨us.length + 1 - (i + 1), by omega, h₅, tk₄, gs₄, ps₄, i + 1, ys ++ [y], _, rfl, hlt', rfl, ht₄, hb₄, ⟨oI, hs₅.extBut _ _ (by show @Ne Nat _ _; omega) zI.1, hoI⟩, F₄.change hs₅ zD.2.1 zD.2.2, (hoC.ns zC.1).sameBut hs₅ (by show @Ne Nat _ _; omega), fun p hp => ?_, ?_⟩
          · rcases List.mem_cons.mp hp with rfl | hp
            · exact ⟨hD₅.trans (congrArg some (LCg.lst_snoc ys y)), zD.2⟩
            · have z := N₄ p (List.mem_append_right _ hp)
              exact ⟨hs₅.extBut _ _ (by have := nlt ps₄ p hp; show @Ne Nat _ _; omega) z.1, z.2⟩
          · rw [ex, List.filter_append, List.filter_cons_of_pos hkp, List.filter_nil]
            exact hout.snoc hy
        | false =>
          rw [hkp] at h₄
          simp only [Bool.false_eq_true, if_false] at h₄ ⊢
          obtain ⟨h₄, tk₄, gs₄, ps₄, rfl, ht₄, hb₄, F₄, N₄⟩ := h₄
          have zI := N₄ (s.heap.objs.size, oI) (by simp)
          have zC := N₄ (H2.objs.size, oC) (by simp)
          refine ⟨us.length + 1 - (i + 1), by omega, h₄, tk₄, gs₄, ps₄, i + 1, ys, _, rfl, hlt', rfl, ht₄, hb₄, ⟨oI, zI.1, hoI⟩, F₄, hoC.ns zC.1, fun p hp => ?_, ?_⟩
          · rcases List.mem_cons.mp hp with rfl | hp
            · exact N₄ _ (by simp)
            · exact N₄ p (List.mem_append_right _ hp)
          · rw [ex, List.filter_append, List.filter_cons_of_neg (by rw [hkp]; simp), List.filter_nil, List.append_nil]
            exact hout
      · obtain rfl : i = us.length := Nat.le_antisymm hi (Nat.not_lt.mp hlt')
        refine W.done _ _ _ (by rw [hvl]; exact ⟨hit, hl'⟩) fun h₂ tk₂ hk₂ => ?_
        obtain ⟨F₂, N₂, hn₂⟩ := iN h₂ hk₂
        rw [List.take_length] at hout
        exact hRR _ _ h₂ tk₂ gs ps' ys m' ht' hb' F₂ N₂ (fun p hp => by have := nlt ps' p hp; omega) (by omega) hn₂ (fresh₀ _ (by omega)) (neL _ (by omega)) hout
    · rcases List.mem_cons.mp hp with rfl | hp
      · exact ⟨hacc, neL _ (by omega), fresh₀ _ (by omega)⟩
      · exact ⟨keep _ _ (N p hp).1, (N p hp).2⟩
  refine codeAny_compStart_list (loop _ ⟨_, rfl⟩) (wpAny_pyIter_listiter ⟨_, keep1 _ _ hI1, rfl, rfl⟩ (loop _ ⟨_, rfl⟩))

theorem Eval_L {elt iter : PySem.Expr} {ifs : List PySem.Expr} {x : Str} {px : Pos} {scope : Scope} {cl : List (Str × Addr)} {pos : Pos} {Q : Value → Shared → Prop} (F₀ : Fr h₀ L s.heap m)
    (hclos : closureFor scope env = pure cl) (hcell : ∀ y ∈ scope.names, y.2 ≠ .cell) (hkind : scope.kind = .function) (hnames : ∀ y ∈ scope.names, y.2 = .local → scope.names.lookup y.1 = some .local) (hx : scope.names.lookup x = some .local)
    (h : wpAny (model prog w) A (eval iter env) (SrcT prog w A h₀ L m env ifs elt x scope cl (fun D => Q (.ref D)) (fun _ => m)) E s)
    (hs : ∀ x, foldedSetIterable iter env x = pure x := by intro _; rfl) :
    wpAny (model prog w) A (eval (.ListComp elt [⟨.Name x px, iter, ifs, 0⟩] scope pos) env) Q E s := by
  have _ := F₀
  rw [eval_ListComp]
  refine wpAny_comprehension_free (use := none) rfl hs hclos hkind hnames (wpAny_mono h (fun xv s₁ h₁ => ?_) fun _ _ e => e)
  obtain ⟨ax, vs, k, us, led, Out, kp, ps, rfl, hh, F, ht, hb, N, hvs, hsz, hax, hled, turn, fin⟩ := h₁
  refine loopL hh F ht hb N hvs hsz hax hled hcell hkind hx turn fun D C h' tk gs ps' ys m' ht' hb' F' N' lD lC hn hC0 hCL hout => ?_
  refine ⟨m', hn, fun h'' hs'' => fin D h'' tk gs ps' ys ht' hb' (F'.change hs'' hCL hC0) (fun p hp => ?_) (allLt_of lD) hout⟩
  refine ⟨hs''.extBut _ _ ?_ (N' p hp).1, (N' p hp).2⟩
  rcases List.mem_cons.mp hp with rfl | hp
  · exact Nat.ne_of_lt lC
  · exact Nat.ne_of_lt (Nat.lt_trans (lD p hp) lC)
theorem Assign_L {elt iter : PySem.Expr} {ifs : List PySem.Expr} {x y : Str} {px py : Pos} {scope : Scope} {cl : List (Str × Addr)} {pos spos : Pos} {Q : Flow → Shared → Prop} (F₀ : Fr h₀ L s.heap m) (hLe : env.locals = L)
    (hsw : swapsWith (.ListComp elt [⟨.Name x px, iter, ifs, 0⟩] scope pos) (some (.Name y py)) spos.line env = pure true)
    (hclos : closureFor scope env = pure cl) (hcell : ∀ y ∈ scope.names, y.2 ≠ .cell) (hkind : scope.kind = .function) (hnames : ∀ y ∈ scope.names, y.2 = .local → scope.names.lookup y.1 = some .local) (hx : scope.names.lookup x = some .local)
    (hy : env.kindOf y = some .local) (hp : (env.scope.kind == .class || (env.scope.kind == .module && env.locals != env.globals)) = false)
    (h : wpAny (model prog w) A (eval iter env) (SrcT prog w A h₀ L m env ifs elt x scope cl (fun _ => Q .next) (fun D z => if z = y then some (.ref D) else m z)) E s)
    (hs : ∀ x, foldedSetIterable iter env x = pure x := by intro _; rfl) :
    wpAny (model prog w) A (exec (.Assign [.Name y py] (.ListComp elt [⟨.Name x px, iter, ifs, 0⟩] scope pos) spos) env) Q E s := by
  have _ := F₀
  subst hLe
  rw [exec_Assign_Name_used _ _ _ _ hsw]
  refine wpAny_bind (wpAny_standAt (wpAny_bind ?_))
  show wpAny _ A (do let _ ← comprehension (.ListComp elt [⟨.Name x px, iter, ifs, 0⟩] scope pos) scope env _ (newList []) false (eval iter env) (some (assign (.Name y py) env))) _ _ s
  refine wpAny_bind (wpAny_mono (wpAny_comprehension_free (use := some (assign (.Name y py) env)) (Q := fun _ s' => Q .next s') rfl hs hclos hkind hnames
    (wpAny_mono h (fun xv s₁ h₁ => ?_) fun _ _ e => e)) (fun _ s' hq => wpAny_pure (wpAny_pure hq)) fun _ _ e => e)
  obtain ⟨ax, vs, k, us, led, Out, kp, ps, rfl, hh, F, ht, hb, N, hvs, hsz, hax, hled, turn, fin⟩ := h₁
  refine loopL hh F ht hb N hvs hsz hax hled hcell hkind hx turn fun D C h' tk gs ps' ys m' ht' hb' F' N' lD lC hn hC0 hCL hout => ?_
  show wpAny _ A (assign (.Name y py) env (.ref D)) _ _ _
  refine wpAny_assign_Name (wpAny_storeName_local hy F'.ns (fun h₂ hn₂ hs₂ => ?_) hp)
  have hL₀ : h₀.get? env.locals = none := Heap.get?_none_of_le F'.above
  have F₂ : Fr h₀ env.locals h₂ (fun z => if z = y then some (.ref D) else m z) := ⟨hn₂, fun b o e => hs₂.extBut b o (fun q => by rw [q, hL₀] at e; cases e) (F'.keep b o e), F'.above⟩
  refine ⟨m', hn.sameBut hs₂ hCL, fun h'' hs'' => fin D h'' _ gs ps' ys ht' hb' (F₂.change hs'' hCL hC0) (fun p hp => ?_) (allLt_of lD) hout⟩
  refine ⟨hs''.extBut _ _ ?_ (hs₂.extBut _ _ (N' p hp).2.1 (N' p hp).1), (N' p hp).2⟩
  rcases List.mem_cons.mp hp with rfl | hp
  · exact Nat.ne_of_lt lC
  · exact Nat.ne_of_lt (Nat.lt_trans (lD p hp) lC)
end
end Mine
end
section
open PySem PySem.W PyProof.Rows
namespace Mine
noncomputable def fragT (P : Params) : Frag := (244, tabObj #[]) :: hd.heap_39 P
end Mine
end
section
open PySem PySem.W PyProof.Rows PySem.Spec PySem.Calls
set_option Elab.async false
set_option maxRecDepth 100000
namespace Mine
section
variable {h₁ h : Heap} {tabs : List (Addr × Addr)} {mg mb : Str → Option Value} {K : Frag} {p : Program} {loose : List Str} {mean : ExcName → Option Value}
theorem tab_at {d : DefRec} {c P : Addr} (T : Top p loose mean mg mb h) (X : K.In h) (hd : d ∈ recsOf p) (ht : tabIn K d.name = some (c, P)) :
    ∃ a o fd, mg d.name = some (.ref a) ∧ h.get? a = some o ∧ o.data = .func fd ∧ fd.code = .ref c ∧ h.IsCode c P #[] ∧ h.TableAt c P #[] := by
  obtain ⟨a, o, fd, c', P', h1, h2, h3, h4, h5, h6⟩ := T.tab d hd
  unfold tabIn at ht
  split at ht
  · rename_i f hf
    have e1 := mg_of X T.g hf
    rw [e1] at h1
    cases h1
    split at ht
    · rename_i hfo
      have e2 := X _ _ hfo
      rw [h2] at e2
      cases e2
      cases h3
      split at ht
      · rename_i c₂ hc
        rw [h4] at hc
        cases hc
        split at ht
        · rename_i hco
          have e3 := X _ _ hco
          have h6' := h6
          obtain ⟨⟨oc, vs, g1, g2, g3, g4⟩, g5⟩ := h6'
          rw [e3] at g1
          cases g1
          cases g3
          split at ht
          · rename_i P₂ hv
            rw [g4] at hv
            cases hv
            cases ht
            exact ⟨_, _, _, e1, h2, rfl, h4, h5, h6⟩
          · cases ht
        · cases ht
      · cases ht
    · cases ht
  · cases ht
theorem ghost_codeRec {c : Value} {n : Str} (hT : TabsAt tabs h₁) (x : h₁.CodeRec c n) : (ghostOf h₁ tabs).CodeRec c n := by
  obtain ⟨c₂, o₂, vs₂, t₂, e₂, g₂, d₂, r₂⟩ := x
  exact ⟨c₂, o₂, vs₂, t₂, e₂, ghost_get hT g₂ (fun q => by rw [q] at d₂; cases d₂; simp at r₂), d₂, r₂⟩
theorem ghost_seer (hT : TabsAt tabs h₁) (x : h₁.NoSeer) : (ghostOf h₁ tabs).NoSeer where
  statics := let ⟨mc, a, b⟩ := x.statics; ⟨mc, ghost_ns hT a, b⟩
  mods := let ⟨mc, a, b⟩ := x.mods; ⟨mc, ghost_ns hT a, b⟩
  imp := let ⟨mc, a, b⟩ := x.imp; ⟨mc, ghost_ns hT a, b⟩
  main := let ⟨mg, bm, ob, a, b, c, d, e⟩ := x.main; ⟨mg, bm, ob, ghost_ns hT a, b, ghost_get hT c (fun q => by rw [q] at d; cases d), d, e⟩
theorem ghost_topH (hT : TabsAt tabs h₁) (T : Top p loose mean mg mb h₁) (X : K.In h₁) (hown : (ownsOf p).isEmpty = true) 
    (htab : (recsOf p).all (fun d => match tabIn K d.name with | some (_, P) => !(tabs.map (·.2)).contains P | none => false) = true) : Top p loose mean mg mb (ghostOf h₁ tabs) where
  g := ghost_ns hT T.g
  b := ghost_ns hT T.b
  nolimit := let ⟨mc, a, r⟩ := T.nolimit; ⟨mc, ghost_ns hT a, r⟩
  nodigits := let ⟨mc, a, r⟩ := T.nodigits; ⟨mc, ghost_ns hT a, r⟩
  fn := fun d hd => let ⟨a, o, pm, code, doc, g1, g2, g3, g4⟩ := T.fn d hd
    ⟨a, o, pm, code, doc, g1, ghost_get hT g2 (fun q => by rw [q] at g3; cases g3), g3, ghost_codeRec hT g4⟩
  own := fun o ho => by rw [List.isEmpty_iff.mp hown] at ho; cases ho
  const := T.const
  free := T.free
  builtins := T.builtins
  tab := fun d hd => by
    have q := List.all_eq_true.mp htab d hd
    split at q
    · rename_i c P hcP
      obtain ⟨a, o, fd, g1, g2, g3, g4, g5, g6⟩ := tab_at T X hd hcP
      have hP : P ∉ tabs.map (·.2) := fun hm => by
        rw [show (tabs.map (·.2)).contains P = true from List.contains_iff_mem.mpr hm] at q
        cases q
      refine ⟨a, o, fd, c, P, g1, ghost_get hT g2 (fun q => by rw [q] at g3; cases g3), g3, g4, ?_, ?_⟩
      · obtain ⟨o₂, vs, file, tf, flags, tg, inF, text, tt, op, a1, r1, r2, r3, r4, r5, r6, b, r7, r8, r9⟩ := g5
        refine ⟨o₂, vs, file, tf, flags, tg, inF, text, tt, op, ghost_get hT a1 (fun q => by rw [q] at r1; cases r1; simp at r2), r1, r2, r3, r4, r5, r6, ghost_ne b hP, r7, r8, r9⟩
      · obtain ⟨⟨oc, vs, a1, a2, a3, a4⟩, b⟩ := g6
        exact ⟨⟨oc, vs, ghost_get hT a1 (fun q => by rw [q] at a2; cases a2), a2, a3, a4⟩, ghost_ne b hP⟩
    · cases q
  bmain := let ⟨bm, ob, a1, a2, a3, a4, r⟩ := T.bmain; ⟨bm, ob, a1, a2, ghost_get hT a3 (fun q => by rw [q] at a4; cases a4), a4, r⟩
  seer := fun e => ghost_seer hT (T.seer e)
end
/-- where the law ends: as GoodW, but generators may have been made -/
def GoodH (c : ClaimW) (cl : Str → Option Addr) (mean : ExcName → Option Value) (args : List WData) (s₁ : Shared) (res : Result) (s' : Shared) : Prop :=
  ((∃ v d as, res = .ok (.ret v) ∧ (∀ cls, c.raises args cls = false) ∧ ReadsW c.records cl s'.heap v d as ∧ c.post args d args = true ∧
      (c.unshared = true → as.Nodup ∧ ∀ a ∈ as, s₁.heap.get? a = none)) ∨
    (∃ e ob cls, res = .error (.ref e) ∧ s'.heap.get? e = some ob ∧ mean cls = some ob.cls ∧ c.raises args cls = true ∧ s₁.heap.get? e = none)) ∧
  (∀ b o, s₁.heap.get? b = some o → s'.heap.get? b = some o) ∧ s'.os = s₁.os ∧ AllBare s'.gens
theorem post_H {M : Model} {A : Around} {cd : Code} {s s₁ : Shared} {cw : ClaimW} {cl : Str → Option Addr} {mean : ExcName → Option Value} {args : List WData} {tabs : List (Addr × Addr)} (hT : TabsAt tabs s₁.heap) (hr : ∀ a x, cw.raises a x = false)
    (h : codeAny M A cd (fun r s' => GoodH cw cl mean args { s₁ with heap := ghostOf s₁.heap tabs } r s' ∧ GrownAll tabs s'.heap) s) : codeAny M A cd (GoodWG cw cl mean args s₁) s :=
  codeAny_mono h fun r s' ⟨⟨hc, hk, hos, hg⟩, hgr⟩ => by
    have keep : ∀ b o, b ∉ tabs.map (·.2) → s₁.heap.get? b = some o → s'.heap.get? b = some o := fun b o hb e => hk b o (ghost_ne e hb)
    have grown : ∀ b o, b ∈ tabs.map (·.2) → s₁.heap.get? b = some o → isCodeTable s₁.heap b ∧ o = tabObj #[] ∧ ∃ ps, s'.heap.get? b = some (tabObj ps) := fun b o hb e => by
      obtain ⟨q, hq, rfl⟩ := List.mem_map.mp hb
      have e2 := (hT q hq).2
      rw [e] at e2
      exact ⟨((hT q hq).1.tab (hT q hq).2).isCodeTable, Option.some.inj e2, hgr.get q hq⟩
    refine ⟨?_, ⟨fun b o e => ?_, fun b o e => ?_⟩, hos, hg⟩
    · rcases hc with ⟨v, d, as, r1, r2, r3, r4, r5⟩ | ⟨e, ob, x, _, _, _, r4, _⟩
      · refine .inl ⟨v, d, as, r1, r2, r3, r4, fun q => ⟨(r5 q).1, fun a ha => ?_⟩⟩
        cases q1 : s₁.heap.get? a with
        | none => rfl
        | some o =>
          by_cases hb : a ∈ tabs.map (·.2)
          · obtain ⟨_, _, ps, hP⟩ := grown a o hb q1
            exact absurd ha (readsW_apart hP rfl r3)
          · have e3 := (r5 q).2 a ha
            rw [show (ghostOf s₁.heap tabs).get? a = some o from ghost_ne q1 hb] at e3
            cases e3
      · rw [hr] at r4; cases r4
    · by_cases hb : b ∈ tabs.map (·.2)
      · obtain ⟨ht, rfl, ps, hP⟩ := grown b o hb e
        exact .inr (.inl ⟨ht, rfl, #[], ps, rfl, by rw [Array.empty_append]; exact hP⟩)
      · exact .inl (keep b o hb e)
    · by_cases hb : b ∈ tabs.map (·.2)
      · obtain ⟨_, _, ps, hP⟩ := grown b o hb e
        exact ⟨_, hP⟩
      · exact ⟨o, keep b o hb e⟩
theorem in_tail {K : Frag} {h : Heap} {P : Addr} {o : Obj} (X : Frag.In ((P, o) :: K) h) (hn : (K.lookup P).isNone = true) : K.In h := fun a ob e => X a ob (by
  rw [List.lookup_cons]
  by_cases q : a = P
  · subst q; rw [e] at hn; cases hn
  · have q' : (a == P) = false := by simpa using q
    rw [q']; exact e)
def chk246 (K : Frag) : Bool := match K.lookup 246 with
  | some ⟨.type t, _, .fields vs, _⟩ => t == "code" && (match (vs[11]? : Option Value), vs.getD 11 .none, vs.getD 18 .none, vs.getD 7 .none, vs.getD 9 .none, vs.getD 10 .none with
    | some (.ref p), .ref q, .str _ _, .int _ _, .bool _, .int _ _ => p == 244 && q == 244
    | _, _, _, _, _, _ => false)
  | _ => false
theorem codeHd_of {K : Frag} {h : Heap} (X : K.In h) (hc : chk246 K = true) : CodeHd h 246 244 := by
  unfold chk246 at hc
  split at hc
  · rename_i t od vs sl hl
    obtain ⟨h1, h2⟩ := Bool.and_eq_true_iff.mp hc
    split at h2
    · rename_i p q f tf fl tg inF tx tt e1 e2 e3 e4 e5 e6
      obtain ⟨h3, h4⟩ := Bool.and_eq_true_iff.mp h2
      have h1 : t = "code" := by simpa using h1
      have h3 : p = 244 := by simpa using h3
      have h4 : q = 244 := by simpa using h4
      subst h1 h3 h4
      exact ⟨_, vs, _, _, _, _, _, _, _, X _ _ hl, rfl, rfl, e1, e2, e3, e4, e5, e6, by decide⟩
    · cases h2
  · cases hc
theorem head_tabs {P : Params} {h : Heap} (X : (fragT P).In h) (hc : chk246 (hd.heap_39 P) = true) (hn : ((hd.heap_39 P).lookup 244).isNone = true) : (hd.heap_39 P).In h ∧ TabsAt [(246, 244)] h := by
  have X' : (hd.heap_39 P).In h := in_tail X hn
  refine ⟨X', fun q hq => ?_⟩
  rw [List.mem_singleton] at hq
  subst hq
  exact ⟨codeHd_of X' hc, X 244 _ rfl⟩
abbrev TopH (mean : ExcName → Option Value) (mg mb : Str → Option Value) (h : Heap) : Prop := Top hd.view_39 (looseW hd.view_39 [Str.ofString "Base", Str.ofString "LCSSeq", Str.ofString "Hamming", Str.ofString "Levenshtein"]) mean mg mb h
theorem t_own : (ownsOf hd.view_39).isEmpty = true := by kernel_rfl
theorem t_tab (P : Params) : (recsOf hd.view_39).all (fun d => match tabIn (hd.heap_39 P) d.name with | some (_, P) => !([(246, 244)].map (·.2)).contains P | none => false) = true := by kernel_rfl
end Mine
end
section
open PySem PySem.W PyProof.Rows
set_option Elab.async false
set_option hygiene false
namespace Mine
abbrev lawScope : Scope := { kind := .function, names := [(Str.ofString "script", .cell), (Str.ofString "numbers", .cell), (Str.ofString "n", .cell), (Str.ofString "word", .cell), (Str.ofString "cut", .local), (Str.ofString "put", .local), (Str.ofString "short", .cell), (Str.ofString "wide", .cell), (Str.ofString "words", .local), (Str.ofString "total", .cell), (Str.ofString "near", .local), (Str.ofString "far", .local), (Str.ofString "plain", .cell), (Str.ofString "range", .globalImplicit), (Str.ofString "_law_sum", .globalImplicit), (Str.ofString "LCSSeq", .globalImplicit), (Str.ofString "all", .globalImplicit)], isGenerator := false, isCoroutine := false, more := [(Str.ofString "fast", .str (Str.ofString "script")), (Str.ofString "fast", .str (Str.ofString "k")), (Str.ofString "fast", .str (Str.ofString "numbers")), (Str.ofString "fast", .str (Str.ofString "n")), (Str.ofString "fast", .str (Str.ofString "word")), (Str.ofString "fast", .str (Str.ofString "cut")), (Str.ofString "fast", .str (Str.ofString "put")), (Str.ofString "fast", .str (Str.ofString "short")), (Str.ofString "fast", .str (Str.ofString "wide")), (Str.ofString "fast", .str (Str.ofString "mask")), (Str.ofString "fast", .str (Str.ofString "words")), (Str.ofString "fast", .str (Str.ofString "total")), (Str.ofString "fast", .str (Str.ofString "other")), (Str.ofString "fast", .str (Str.ofString "near")), (Str.ofString "fast", .str (Str.ofString "far")), (Str.ofString "fast", .str (Str.ofString "plain"))] }
abbrev scFar : Scope := { kind := .function, names := [(Str.ofString ".0", .local), (Str.ofString "other", .local), (Str.ofString "_law_sum", .globalImplicit), (Str.ofString "n", .free), (Str.ofString "total", .free), (Str.ofString "word", .free)], isGenerator := false, isCoroutine := false }
abbrev scNear : Scope := { kind := .function, names := [(Str.ofString ".0", .local), (Str.ofString "other", .local), (Str.ofString "_law_sum", .globalImplicit), (Str.ofString "n", .free), (Str.ofString "total", .free)], isGenerator := false, isCoroutine := false }
local macro_rules | `(tactic| k_room) => `(tactic| ktr_room)
local macro_rules | `(tactic| walk_at "call ref") => `(tactic| (k_here; (with_reducible show wpAny _ _ (call (Value.ref 298) [Value.str _ _]) _ _ _); k_dflt (refine' law_sum_tells _ _ _ _ ?kx _ _ _ _ _ _ _ _ _ _ _ _ _ _ _ _ _ _ _ _ _ _ _ ?k1 ?k2 ?k3 ?k4 ?k5 ?k6 ?k7 ?_; (case kx => omega); (case k1 => k_asm); (case k2 => k_asm); (case k3 => k_asm); (case k4 => k_asm); (case k5 => k_asm); (case k6 => ktr_room); (case k7 => ktr_units)); intro t9 h9 tk9 F' N'; (try dsimp only); (try k_fold)))
local macro_rules | `(tactic| walk_at "eval Name") => `(tactic| (k_here; (with_reducible show wpAny _ _ (eval (Expr.Name _ _) (compEnvC _ _ _ _)) _ _ _); k_dflt (refine kcf_cell (by k_asm) (by rfl) (by first | with_reducible assumption | k_mem) (by k_asm) ?_)))
set_option maxRecDepth 100000 in
theorem fillT1InT1 : True ∨ (PySem.Challenge.rw_fq5042_01 = PySem.Challenge.rw_fq5042_01 ∧ hd.heap_39 = hd.heap_39) := by w_top off; k_fill; exact .inl trivial
set_option maxRecDepth 100000 in
set_option maxHeartbeats 2000000 in
theorem near_turn (w : World) (rest : Led) (u : Str) (tu tn tt : Tok) (n tot : Int) (p1 p2 p3 p4 p5 p6 p7 p8 p9 p10 p11 : Pos) (k0 k1 : Nat) (C a3 a7 : Addr) (oC o3 o7 : Obj) (m₂ : Str → Option Value) (hC : LCg.NsObj oC m₂) (hm : m₂ (Str.ofString "other") = some (.str u tu)) (h3 : o3.data = .cell (some (.int n tn))) (h7 : o7.data = .cell (some (.int tot tt)))
    (hn1 : 1 ≤ n) (hn6 : n ≤ 6) (hu : u.length ≤ 8)
    (mean : ExcName → Option Value) (mg mb : Str → Option Value) (dp un : Nat) (gd : Option (List Code)) (cn : Str) (a : Addr) (ccd : Value) (cl : List (Str × Addr)) (outer : List Env) (A₀ : Around) (base h₀ : Heap) (L : Addr) (m : Str → Option Value) (s : Shared) (Q : Bool → Shared → Prop) (E : Value → Shared → Prop)
    (B : Below A₀ base outer h₀) (F : Fr h₀ L s.heap m) (X : Frag.In (hd.heap_39 w.params) h₀) (N : News h₀ L s.heap ((C, oC) :: (a3, o3) :: (a7, o7) :: rest)) (T : TopH mean mg mb h₀)
    (hd : dp + 16 < recursionLimit) (hu' : un + 80 < cLine) (hret : ∀ (h' : Heap) (tk' : Nat), Fr h₀ L h' m → News h₀ L h' ((C, oC) :: (a3, o3) :: (a7, o7) :: rest) → Q (Int.fmod (lawSum u - tot) (n + 1) == 0) { s with heap := h', toks := tk' }) :
    wpAny (model PySem.Challenge.pw_fq5042_01 w) (ktrTop dp un gd cn lawScope L a ccd cl outer)
      (isTrue (Expr.Compare (Expr.BinOp (Expr.BinOp (Expr.Call (Expr.Name (Str.ofString "_law_sum") p1) [Expr.Name (Str.ofString "other") p2] [] p3) .Sub (Expr.Name (Str.ofString "total") p4) p5) .Mod (Expr.BinOp (Expr.Name (Str.ofString "n") p6) .Add (Expr.Constant (.int 1) k0 p7) p8) p9) [CmpOp.Eq] [Expr.Constant (.int 0) k1 p10] p11)
        (compEnvC scNear [(Str.ofString "total", a7), (Str.ofString "n", a3)] C (envX cn lawScope L a ccd cl))
        (eval (Expr.Compare (Expr.BinOp (Expr.BinOp (Expr.Call (Expr.Name (Str.ofString "_law_sum") p1) [Expr.Name (Str.ofString "other") p2] [] p3) .Sub (Expr.Name (Str.ofString "total") p4) p5) .Mod (Expr.BinOp (Expr.Name (Str.ofString "n") p6) .Add (Expr.Constant (.int 1) k0 p7) p8) p9) [CmpOp.Eq] [Expr.Constant (.int 0) k1 p10] p11) (compEnvC scNear [(Str.ofString "total", a7), (Str.ofString "n", a3)] C (envX cn lawScope L a ccd cl)))) Q E s := by
  have mC := mem_of N (C, oC) (by k_mem)
  have m3 := mem_of N (a3, o3) (by k_mem)
  have m7 := mem_of N (a7, o7) (by k_mem)
  try k_fold
  k_steps
  exact hret _ _ (by k_asm) (by k_asm)
end Mine
end
section
open PySem PySem.W PyProof.Rows
set_option Elab.async false
set_option hygiene false
namespace Mine
local macro_rules | `(tactic| walk_at "no such key") => `(tactic| fail)
local macro_rules | `(tactic| walk_at "no such key") => `(tactic| fail)
local macro_rules | `(tactic| walk_at "no such key") => `(tactic| fail)
local macro_rules | `(tactic| k_room) => `(tactic| ktr_room)
local macro_rules | `(tactic| walk_at "call ref") => `(tactic| (k_here; (with_reducible show wpAny _ _ (call (Value.ref 298) [Value.str _ _]) _ _ _); k_dflt (refine' law_sum_tells _ _ _ _ ?kx _ _ _ _ _ _ _ _ _ _ _ _ _ _ _ _ _ _ _ _ _ _ _ ?k1 ?k2 ?k3 ?k4 ?k5 ?k6 ?k7 ?_; (case kx => omega); (case k1 => k_asm); (case k2 => k_asm); (case k3 => k_asm); (case k4 => k_asm); (case k5 => k_asm); (case k6 => ktr_room); (case k7 => ktr_units)); intro t9 h9 tk9 F' N'; (try dsimp only); (try k_fold)))
local macro_rules | `(tactic| walk_at "eval Name") => `(tactic| (k_here; (with_reducible show wpAny _ _ (eval (Expr.Name _ _) (compEnvC _ _ _ _)) _ _ _); k_dflt (refine kcf_cell (by k_asm) (by rfl) (by first | with_reducible assumption | k_mem) (by k_asm) ?_)))
set_option maxRecDepth 100000 in
theorem fillT2InT2 : True ∨ (PySem.Challenge.rw_fq5042_01 = PySem.Challenge.rw_fq5042_01 ∧ hd.heap_39 = hd.heap_39) := by w_top off; k_fill; exact .inl trivial
set_option maxRecDepth 100000 in
set_option maxHeartbeats 2000000 in
theorem far_turn (w : World) (rest : Led) (u : Str) (tu tn tt : Tok) (n tot : Int) (p1 p2 p3 p4 p5 p6 p7 p8 p9 p10 p11 p12 p13 p14 p15 : Pos) (k0 k1 : Nat) (C a3 a4 a7 : Addr) (oC o3 o4 o7 : Obj) (word : Str) (tw : Tok) (m₂ : Str → Option Value) (hC : LCg.NsObj oC m₂) (hm : m₂ (Str.ofString "other") = some (.str u tu)) (h3 : o3.data = .cell (some (.int n tn))) (h4 : o4.data = .cell (some (.str word tw))) (h7 : o7.data = .cell (some (.int tot tt)))
    (hn1 : 1 ≤ n) (hn6 : n ≤ 6) (hu : u.length ≤ 8)
    (mean : ExcName → Option Value) (mg mb : Str → Option Value) (dp un : Nat) (gd : Option (List Code)) (cn : Str) (a : Addr) (ccd : Value) (cl : List (Str × Addr)) (outer : List Env) (A₀ : Around) (base h₀ : Heap) (L : Addr) (m : Str → Option Value) (s : Shared) (Q : Bool → Shared → Prop) (E : Value → Shared → Prop)
    (B : Below A₀ base outer h₀) (F : Fr h₀ L s.heap m) (X : Frag.In (hd.heap_39 w.params) h₀) (N : News h₀ L s.heap ((C, oC) :: (a3, o3) :: (a4, o4) :: (a7, o7) :: rest)) (T : TopH mean mg mb h₀)
    (hd : dp + 16 < recursionLimit) (hu' : un + 80 < cLine) (hret : ∀ (h' : Heap) (tk' : Nat), Fr h₀ L h' m → News h₀ L h' ((C, oC) :: (a3, o3) :: (a4, o4) :: (a7, o7) :: rest) → Q (!(u == word) && Int.fmod (lawSum u - tot) (2 * n) == 0) { s with heap := h', toks := tk' }) :
    wpAny (model PySem.Challenge.pw_fq5042_01 w) (ktrTop dp un gd cn lawScope L a ccd cl outer)
      (isTrue (Expr.BoolOp BoolOp.And [Expr.Compare (Expr.Name (Str.ofString "other") p12) [CmpOp.NotEq] [Expr.Name (Str.ofString "word") p13] p14, Expr.Compare (Expr.BinOp (Expr.BinOp (Expr.Call (Expr.Name (Str.ofString "_law_sum") p1) [Expr.Name (Str.ofString "other") p2] [] p3) .Sub (Expr.Name (Str.ofString "total") p4) p5) .Mod (Expr.BinOp (Expr.Constant (.int 2) k0 p7) .Mult (Expr.Name (Str.ofString "n") p6) p8) p9) [CmpOp.Eq] [Expr.Constant (.int 0) k1 p10] p11] p15)
        (compEnvC scFar [(Str.ofString "word", a4), (Str.ofString "total", a7), (Str.ofString "n", a3)] C (envX cn lawScope L a ccd cl))
        (eval (Expr.BoolOp BoolOp.And [Expr.Compare (Expr.Name (Str.ofString "other") p12) [CmpOp.NotEq] [Expr.Name (Str.ofString "word") p13] p14, Expr.Compare (Expr.BinOp (Expr.BinOp (Expr.Call (Expr.Name (Str.ofString "_law_sum") p1) [Expr.Name (Str.ofString "other") p2] [] p3) .Sub (Expr.Name (Str.ofString "total") p4) p5) .Mod (Expr.BinOp (Expr.Constant (.int 2) k0 p7) .Mult (Expr.Name (Str.ofString "n") p6) p8) p9) [CmpOp.Eq] [Expr.Constant (.int 0) k1 p10] p11] p15) (compEnvC scFar [(Str.ofString "word", a4), (Str.ofString "total", a7), (Str.ofString "n", a3)] C (envX cn lawScope L a ccd cl)))) Q E s := by
  have mC := mem_of N (C, oC) (by k_mem)
  have m3 := mem_of N (a3, o3) (by k_mem)
  have m4 := mem_of N (a4, o4) (by k_mem)
  have m7 := mem_of N (a7, o7) (by k_mem)
  try k_fold
  k_steps
  all_goals (refine (fun {y : Bool} {h' : Heap} {tk' : Nat} (e : y = (!(u == word) && Int.fmod (lawSum u - tot) (2 * n) == 0)) (F9 : Fr h₀ L h' m) (N9 : News h₀ L h' ((C, oC) :: (a3, o3) :: (a4, o4) :: (a7, o7) :: rest)) => (e ▸ hret h' tk' F9 N9 : Q y { s with heap := h', toks := tk' })) ?_ (by k_asm) (by k_asm))
  all_goals simp_all
end Mine
end
section
open PySem PySem.W PyProof.Rows
set_option Elab.async false
set_option hygiene false
namespace Mine
local macro_rules | `(tactic| walk_at "no such key") => `(tactic| fail)
local macro_rules | `(tactic| walk_at "no such key") => `(tactic| fail)
local macro_rules | `(tactic| walk_at "no such key") => `(tactic| fail)
local macro_rules | `(tactic| walk_at "no such key") => `(tactic| fail)
abbrev scShort : Scope := { kind := .function, names := [(Str.ofString ".0", .local), (Str.ofString "other", .local), (Str.ofString "plain", .free), (Str.ofString "short", .free)], isGenerator := false, isCoroutine := false }
abbrev scWide : Scope := { kind := .function, names := [(Str.ofString ".0", .local), (Str.ofString "other", .local), (Str.ofString "plain", .free), (Str.ofString "wide", .free)], isGenerator := false, isCoroutine := false }
local macro_rules | `(tactic| k_room) => `(tactic| ktr_room)
local macro_rules | `(tactic| walk_at "call ref") => `(tactic| (k_here; (with_reducible show wpAny _ _ (call (Value.ref 203) [Value.ref _, Value.str _ _, Value.str _ _]) _ _ _); k_dflt (refine' dynamic_tells _ _ _ _ _ _ _ ?kx ?ky _ _ _ _ _ _ _ _ _ _ _ _ _ _ _ _ _ _ _ _ _ _ _ ?k1 ?k2 ?k3 ?k4 ?k5 ?k6 ?k7 ?_; (case kx => omega); (case ky => omega); (case k1 => k_asm); (case k2 => k_asm); (case k3 => k_asm); (case k4 => k_asm); (case k5 => k_asm); (case k6 => ktr_room); (case k7 => ktr_units)); intro t9 h9 tk9 F' N'; (try dsimp only); (try k_fold)))
local macro_rules | `(tactic| walk_at "eval Name") => `(tactic| (k_here; (with_reducible show wpAny _ _ (eval (Expr.Name _ _) (compEnvC _ _ _ _)) _ _ _); k_dflt (refine kcf_cell (by k_asm) (by rfl) (by first | with_reducible assumption | k_mem) (by k_asm) ?_)))
set_option maxRecDepth 100000 in
theorem fillT3InT3 : True ∨ (PySem.Challenge.rw_fq5042_01 = PySem.Challenge.rw_fq5042_01 ∧ hd.heap_39 = hd.heap_39) := by w_top off; k_fill; exact .inl trivial
set_option maxRecDepth 100000 in
set_option maxHeartbeats 2000000 in
theorem short_turn (w : World) (rest : Led) (u v : Str) (tu tv : Tok) (C a5 a8 ob dx : Addr) (oC o5 o8 : Obj) (t1 t2 t3 t4 : Tok) (m₂ : Str → Option Value) (hC : LCg.NsObj oC m₂) (hm : m₂ (Str.ofString "other") = some (.str u tu)) (h5 : o5.data = .cell (some (.str v tv))) (h8 : o8.data = .cell (some (.ref ob)))
    (hu : u.length ≤ 8) (hv : v.length ≤ 8)
    (mean : ExcName → Option Value) (mg mb : Str → Option Value) (dp un : Nat) (gd : Option (List Code)) (cn : Str) (a : Addr) (ccd : Value) (cl : List (Str × Addr)) (outer : List Env) (A₀ : Around) (base h₀ : Heap) (L : Addr) (m : Str → Option Value) (s : Shared) (Q : Bool → Shared → Prop) (E : Value → Shared → Prop)
    (B : Below A₀ base outer h₀) (F : Fr h₀ L s.heap m) (X : Frag.In (hd.heap_39 w.params) h₀) (N : News h₀ L s.heap ((C, oC) :: (a5, o5) :: (a8, o8) :: obj3 w 225 ob dx t1 t2 t3 t4 rest)) (T : TopH mean mg mb h₀)
    (hd : dp + 16 < recursionLimit) (hu' : un + 80 < cLine) (hret : ∀ (h' : Heap) (tk' : Nat), Fr h₀ L h' m → News h₀ L h' ((C, oC) :: (a5, o5) :: (a8, o8) :: obj3 w 225 ob dx t1 t2 t3 t4 rest) → Q (dyn u v == v) { s with heap := h', toks := tk' }) :
    wpAny (model PySem.Challenge.pw_fq5042_01 w) (ktrTop dp un gd cn lawScope L a ccd cl outer)
      (isTrue (Expr.Compare (Expr.Call (Expr.Attribute (Expr.Name (Str.ofString "plain") ⟨219, 35, 219, 40⟩) (Str.ofString "_dynamic") ⟨219, 35, 219, 49⟩) [Expr.Name (Str.ofString "other") ⟨219, 50, 219, 55⟩, Expr.Name (Str.ofString "short") ⟨219, 57, 219, 62⟩] [] ⟨219, 35, 219, 63⟩) [CmpOp.Eq] [Expr.Name (Str.ofString "short") ⟨219, 67, 219, 72⟩] ⟨219, 35, 219, 72⟩)
        (compEnvC scShort [(Str.ofString "short", a5), (Str.ofString "plain", a8)] C (envX cn lawScope L a ccd cl))
        (eval (Expr.Compare (Expr.Call (Expr.Attribute (Expr.Name (Str.ofString "plain") ⟨219, 35, 219, 40⟩) (Str.ofString "_dynamic") ⟨219, 35, 219, 49⟩) [Expr.Name (Str.ofString "other") ⟨219, 50, 219, 55⟩, Expr.Name (Str.ofString "short") ⟨219, 57, 219, 62⟩] [] ⟨219, 35, 219, 63⟩) [CmpOp.Eq] [Expr.Name (Str.ofString "short") ⟨219, 67, 219, 72⟩] ⟨219, 35, 219, 72⟩) (compEnvC scShort [(Str.ofString "short", a5), (Str.ofString "plain", a8)] C (envX cn lawScope L a ccd cl)))) Q E s := by
  have mC := mem_of N (C, oC) (by k_mem)
  have m5 := mem_of N (a5, o5) (by k_mem)
  have m8 := mem_of N (a8, o8) (by k_mem)
  have mo := mem_of N (ob, instObj 225 dx) (by k_mem)
  try k_fold
  k_steps
  exact hret _ _ (by k_asm) (by k_asm)
set_option maxRecDepth 100000 in
set_option maxHeartbeats 2000000 in
theorem wide_turn (w : World) (rest : Led) (u v : Str) (tu tv : Tok) (C a5 a8 ob dx : Addr) (oC o5 o8 : Obj) (t1 t2 t3 t4 : Tok) (m₂ : Str → Option Value) (hC : LCg.NsObj oC m₂) (hm : m₂ (Str.ofString "other") = some (.str u tu)) (h5 : o5.data = .cell (some (.str v tv))) (h8 : o8.data = .cell (some (.ref ob)))
    (hu : u.length ≤ 8) (hv : v.length ≤ 8)
    (mean : ExcName → Option Value) (mg mb : Str → Option Value) (dp un : Nat) (gd : Option (List Code)) (cn : Str) (a : Addr) (ccd : Value) (cl : List (Str × Addr)) (outer : List Env) (A₀ : Around) (base h₀ : Heap) (L : Addr) (m : Str → Option Value) (s : Shared) (Q : Bool → Shared → Prop) (E : Value → Shared → Prop)
    (B : Below A₀ base outer h₀) (F : Fr h₀ L s.heap m) (X : Frag.In (hd.heap_39 w.params) h₀) (N : News h₀ L s.heap ((C, oC) :: (a5, o5) :: (a8, o8) :: obj3 w 225 ob dx t1 t2 t3 t4 rest)) (T : TopH mean mg mb h₀)
    (hd : dp + 16 < recursionLimit) (hu' : un + 80 < cLine) (hret : ∀ (h' : Heap) (tk' : Nat), Fr h₀ L h' m → News h₀ L h' ((C, oC) :: (a5, o5) :: (a8, o8) :: obj3 w 225 ob dx t1 t2 t3 t4 rest) → Q (dyn u v == u) { s with heap := h', toks := tk' }) :
    wpAny (model PySem.Challenge.pw_fq5042_01 w) (ktrTop dp un gd cn lawScope L a ccd cl outer)
      (isTrue (Expr.Compare (Expr.Call (Expr.Attribute (Expr.Name (Str.ofString "plain") ⟨221, 35, 221, 40⟩) (Str.ofString "_dynamic") ⟨221, 35, 221, 49⟩) [Expr.Name (Str.ofString "other") ⟨221, 50, 221, 55⟩, Expr.Name (Str.ofString "wide") ⟨221, 57, 221, 61⟩] [] ⟨221, 35, 221, 62⟩) [CmpOp.Eq] [Expr.Name (Str.ofString "other") ⟨221, 66, 221, 71⟩] ⟨221, 35, 221, 71⟩)
        (compEnvC scWide [(Str.ofString "wide", a5), (Str.ofString "plain", a8)] C (envX cn lawScope L a ccd cl))
        (eval (Expr.Compare (Expr.Call (Expr.Attribute (Expr.Name (Str.ofString "plain") ⟨221, 35, 221, 40⟩) (Str.ofString "_dynamic") ⟨221, 35, 221, 49⟩) [Expr.Name (Str.ofString "other") ⟨221, 50, 221, 55⟩, Expr.Name (Str.ofString "wide") ⟨221, 57, 221, 61⟩] [] ⟨221, 35, 221, 62⟩) [CmpOp.Eq] [Expr.Name (Str.ofString "other") ⟨221, 66, 221, 71⟩] ⟨221, 35, 221, 71⟩) (compEnvC scWide [(Str.ofString "wide", a5), (Str.ofString "plain", a8)] C (envX cn lawScope L a ccd cl)))) Q E s := by
  have mC := mem_of N (C, oC) (by k_mem)
  have m5 := mem_of N (a5, o5) (by k_mem)
  have m8 := mem_of N (a8, o8) (by k_mem)
  have mo := mem_of N (ob, instObj 225 dx) (by k_mem)
  try k_fold
  k_steps
  exact hret _ _ (by k_asm) (by k_asm)
end Mine
end
section
open PySem PySem.W PyProof.Rows
set_option Elab.async false
set_option hygiene false
namespace Mine
abbrev scLast : Scope := { kind := .function, names := [(Str.ofString ".0", .local), (Str.ofString "other", .local), (Str.ofString "Levenshtein", .globalImplicit), (Str.ofString "Hamming", .globalImplicit), (Str.ofString "word", .free)], isGenerator := false, isCoroutine := false }
local macro_rules | `(tactic| k_room) => `(tactic| ktr_room)
local macro_rules | `(tactic| walk_at "getAttr ref") => `(tactic| (k_here; k_dflt (refine' get_sm ?k1 ?k2 ?k4 ?k5 ?k6 ?k7 ?k9 ?k10 ?k11 ?k12 ?k13 ?k14 ?_; (case k1 => k_asm); (case k2 => k_asm); (case k4 => k_inst); (case k5 => k_is); (case k6 => k_is); (case k7 => k_is); (case k9 => k_is); (case k10 => k_is); (case k11 => decide +kernel); (case k12 => k_get); (case k13 => k_is); (case k14 => k_handed); k_whole)))
local macro_rules | `(tactic| walk_at "eval Name") => `(tactic| (k_here; (with_reducible show wpAny _ _ (eval (Expr.Name _ _) (compEnvC _ _ _ _)) _ _ _); k_dflt (refine kcf_cell (by k_asm) (by rfl) (by first | with_reducible assumption | k_mem) (by k_asm) ?_)))
local macro_rules | `(tactic| walk_at "call ref") => `(tactic| (k_here; (with_reducible show wpAny _ _ (call (Value.ref _) [Value.str _ _, Value.str _ _]) _ _ _); k_dflt (refine wpAny_call ?_; refine' kco_code (C := 291) (f := 288) ?c1 ?c2 ?c3 ?c4 ?c5 ?c6 ?_; (case c1 => k_in); (case c2 => k_inst); (case c3 => rfl); (case c4 => k_is); (case c5 => k_is); (case c6 => k_is); (try dsimp only); (refine' lev_tells _ ((C, oC) :: (a4, o4) :: (244, tabObj ps) :: rest) _ _ _ _ _ _ _ _ _ _ hw hu hw1 hu1 hne _ _ _ _ _ _ _ _ _ _ _ _ _ _ _ _ _ _ _ _ _ _ _ ?k1 ?k2 ?k3 ?k4 ?k5 ?k6 ?k7 ?_); (case k1 => k_asm); (case k2 => k_asm); (case k3 => k_asm); (case k4 => first | k_asm | exact cb_drop (by assumption) (by kcf_all)); (case k5 => k_asm); (case k6 => ktr_room); (case k7 => ktr_units)); intro t9 h9 tk9 F' N'; (try dsimp only); (try k_fold)))
local macro_rules | `(tactic| walk_at "call ref") => `(tactic| (k_here; (with_reducible show wpAny _ _ (call (Value.ref _) [Value.str _ _, Value.str _ _]) _ _ _); k_dflt (refine wpAny_call ?_; refine' kco_code (C := 250) (f := 247) ?c1 ?c2 ?c3 ?c4 ?c5 ?c6 ?_; (case c1 => k_in); (case c2 => k_inst); (case c3 => rfl); (case c4 => k_is); (case c5 => k_is); (case c6 => k_is); (try dsimp only); (refine' ham_tells _ ((C, oC) :: (a4, o4) :: rest) ps _ _ _ _ _ _ _ _ _ _ _ hw hu hw1 hu1 huw hne ht hn9 _ _ _ _ _ _ _ _ _ _ _ _ _ _ _ _ _ _ _ _ _ _ _ ?k1 ?k2 ?k3 ?k4 ?k5 CH ?kb ?k6 ?k7 ?_); (case k1 => k_asm); (case k2 => k_asm); (case k3 => k_asm); (case k4 => exact cb_drop (by assumption) (by kcf_all)); (case k5 => k_asm); (case kb => exact hbare); (case k6 => ktr_room); (case k7 => ktr_units)); intro t9 h9 tk9 gs9 ps9 ht9 hb9 F' N'; (try dsimp only); (try k_fold)))
set_option maxRecDepth 100000 in
theorem fillT4InT4 : True ∨ (PySem.Challenge.rw_fq5042_01 = PySem.Challenge.rw_fq5042_01 ∧ hd.heap_39 = hd.heap_39) := by w_top off; k_fill; exact .inl trivial
set_option maxRecDepth 100000 in
set_option maxHeartbeats 4000000 in
theorem pair_turn (w : World) (rest : Led) (ps : Array Value) (u word : Str) (tu tw : Tok) (C a4 : Addr) (oC o4 : Obj) (m₂ : Str → Option Value) (hC : LCg.NsObj oC m₂) (hm : m₂ (Str.ofString "other") = some (.str u tu)) (h4 : o4.data = .cell (some (.str word tw)))
    (hu : u.length ≤ 8) (hw : word.length ≤ 8) (hu1 : 0 < u.length) (hw1 : 0 < word.length) (huw : word.length = u.length) (hne : (word == u) = false) (ht : TriplesOk ps.toList) (hrest : ∀ p ∈ rest, p.1 ≠ 244)
    (mean : ExcName → Option Value) (mg mb : Str → Option Value) (dp un : Nat) (gd : Option (List Code)) (cn : Str) (a : Addr) (ccd : Value) (cl : List (Str × Addr)) (outer : List Env) (A₀ : Around) (base h₀ : Heap) (L : Addr) (m : Str → Option Value) (s : Shared) (Q E : Value → Shared → Prop)
    (B : Below A₀ base outer h₀) (F : Fr h₀ L s.heap m) (X : Frag.In (hd.heap_39 w.params) h₀) (N : News h₀ L s.heap ((C, oC) :: (a4, o4) :: (244, tabObj ps) :: rest)) (T : TopH mean mg mb h₀) (CH : CodeHd h₀ 246 244) (hbare : AllBare s.gens)
    (hd : dp + 40 < recursionLimit) (hu' : un + 200 < cLine) (hret : ∀ (y : Bool) (h' : Heap) (tk' : Nat) (gs' : Array GenState) (ps' : Array Value), y = (decide (levD word u ≥ 3) && decide (hamD word u ≥ 3)) → TriplesOk ps'.toList → AllBare gs' → Fr h₀ L h' m → News h₀ L h' ((C, oC) :: (a4, o4) :: (244, tabObj ps') :: rest) → Q (.bool y) { s with heap := h', toks := tk', gens := gs' }) :
    wpAny (model PySem.Challenge.pw_fq5042_01 w) (ktrTop dp un gd cn lawScope L a ccd cl outer)
      (eval (PySem.Expr.BoolOp BoolOp.And [(((PySem.Expr.Name (Str.ofString "Levenshtein") ⟨223, 16, 223, 27⟩).Call [] [] ⟨223, 16, 223, 29⟩).Call [PySem.Expr.Name (Str.ofString "word") ⟨223, 30, 223, 34⟩, PySem.Expr.Name (Str.ofString "other") ⟨223, 36, 223, 41⟩] [] ⟨223, 16, 223, 42⟩).Compare [CmpOp.GtE] [PySem.Expr.Constant (Const.int 3) 0 ⟨223, 46, 223, 47⟩] ⟨223, 16, 223, 47⟩, (((PySem.Expr.Name (Str.ofString "Hamming") ⟨223, 52, 223, 59⟩).Call [] [] ⟨223, 52, 223, 61⟩).Call [PySem.Expr.Name (Str.ofString "word") ⟨223, 62, 223, 66⟩, PySem.Expr.Name (Str.ofString "other") ⟨223, 68, 223, 73⟩] [] ⟨223, 52, 223, 74⟩).Compare [CmpOp.GtE] [PySem.Expr.Constant (Const.int 3) 0 ⟨223, 78, 223, 79⟩] ⟨223, 52, 223, 79⟩] ⟨223, 16, 223, 79⟩)
        (compEnvC scLast [(Str.ofString "word", a4)] C (envX cn lawScope L a ccd cl))) Q E s := by
  have mC := mem_of N (C, oC) (by k_mem)
  have m4 := mem_of N (a4, o4) (by k_mem)
  have mP := mem_of N (244, tabObj ps) (by k_mem)
  have hn9 : ∀ p ∈ (C, oC) :: (a4, o4) :: rest, p.1 ≠ 244 := fun p hp => by
    rcases List.mem_cons.mp hp with rfl | hp
    · obtain ⟨es, ep, hd9, _⟩ := hC
      exact ne_tab N mC mP (by rw [hd9]; simp)
    · rcases List.mem_cons.mp hp with rfl | hp
      · exact ne_tab N m4 mP (by rw [h4]; simp)
      · exact hrest p hp
  try k_fold
  k_steps
  · rename (3 ≤ levD word u) => q9
    have e9 : decide (3 ≤ hamD word u) = (decide (levD word u ≥ 3) && decide (hamD word u ≥ 3)) := by
      rw [show decide (levD word u ≥ 3) = true from decide_eq_true q9, Bool.true_and]
    exact hret _ _ _ _ ps9 e9 ht9 hb9 (by k_asm) (cb_drop (by k_asm) (by kcf_all))
  · rename (¬ 3 ≤ levD word u) => q9
    have e9 : decide (3 ≤ levD word u) = (decide (levD word u ≥ 3) && decide (hamD word u ≥ 3)) := by
      rw [show decide (levD word u ≥ 3) = false from decide_eq_false q9, Bool.false_and]
    exact hret _ _ _ _ ps e9 ht hbare (by k_asm) (cb_drop (by k_asm) (by kcf_all))
end Mine
end
section
open PySem PySem.W PyProof.Rows
set_option Elab.async false
set_option hygiene false
namespace Mine
abbrev scWords : Scope := { kind := .function, names := [(Str.ofString ".0", .local), (Str.ofString "mask", .cell), (Str.ofString "range", .globalImplicit), (Str.ofString "n", .free)], isGenerator := false, isCoroutine := false }
abbrev scBits : Scope := { kind := .function, names := [(Str.ofString ".0", .local), (Str.ofString "k", .local), (Str.ofString "mask", .free)], isGenerator := false, isCoroutine := false }
local macro_rules | `(tactic| k_room) => `(tactic| ktr_room)
local macro_rules | `(tactic| walk_at "eval Name") => `(tactic| (k_here; (with_reducible show wpAny _ _ (eval (Expr.Name _ _) (compEnvC _ _ _ _)) _ _ _); k_dflt (refine kcf_cell (by k_asm) (by rfl) (by first | with_reducible assumption | k_mem) (by k_asm) ?_)))
local macro_rules | `(tactic| walk_at "CompSrc") => `(tactic| (k_here; (with_reducible show LCg.CompSrc _ _ _ _ _ _ _ (Expr.Subscript (Expr.Constant (Const.str _) _ _) _ _) _ _ _ _ _ _); (try k_fmods); (try kcf_lens); k_dflt (refine LCg.CompSrc.range (by rfl) (by k_asm) (by k_asm) (by assumption) (by first | exact small_one (by kcf_bnd) (by kcf_bnd) (by kcf_bnd) (by kcf_bnd) | decide) (by first | exact rangeSize_nat _ _ | rfl) (by first | exact Nat.le_of_ble_eq_true rfl | (rw [PySem.sizeLine_eq]; first | omega | ((simp only [List.size_toArray]); omega) | ((have hb9 := len_ints_list (by lay_of)); omega)) | size_fits) ?_; intro g'; (refine' kct_range _ (fun k' t' I' oI' C' oC' D' m' ys' h' tk' E' hlo' hhi' hC' hx' F' N' off' ne' hMark' => ?_) ?_); (all_goals (try (simp only [LCg.Off3, and_true] at off'))); kcf_last)))
local macro_rules | `(tactic| walk_at "CompEnd") => `(tactic| (
   refine' LCg.CompEnd.intro ?e1 ?e2 ?nn ?e4 ?e5 ?e6 ?e7
   (case e7 => (
     kpf_tidy
     first
     | (refine kci_el ?kce (by with_unfolding_all rfl) (by with_unfolding_all rfl); (case kce => kpf_eq))
     | (refine kci_no ?kce (by with_unfolding_all rfl); (case kce => kpf_eq))
     | (refine kcf_el ?kce (by with_unfolding_all rfl) (by with_unfolding_all rfl); (case kce => kpf_eq))
     | (refine kct_el ?kce (by with_unfolding_all rfl) (by with_unfolding_all rfl); (case kce => kpf_eq))))
   (case e1 => assumption)
   (case e2 => assumption)
   (case e4 => kcf_all)
   (case e5 => first | assumption | (simp only [LCg.Off3, and_true]; done) | (simp only [LCg.Off3, and_true]; assumption))
   (case e6 => first | lcg_src | assumption)))
set_option maxRecDepth 100000 in
theorem fillT5InT5 : True ∨ (PySem.Challenge.rw_fq5042_01 = PySem.Challenge.rw_fq5042_01 ∧ hd.heap_39 = hd.heap_39) := by w_top off; k_fill; exact .inl trivial
set_option maxRecDepth 100000 in
set_option maxHeartbeats 4000000 in
theorem words_turn (w : World) (rest : Led) (mask n : Int) (tm tn : Tok) (C a3 X : Addr) (o3 oX : Obj) (hX : oX.data = .cell (some (.int mask tm))) (h3 : o3.data = .cell (some (.int n tn)))
    (hm0 : 0 ≤ mask) (hm1 : mask < 64) (hn1 : 1 ≤ n) (hn6 : n ≤ 6)
    (mean : ExcName → Option Value) (mg mb : Str → Option Value) (dp un : Nat) (gd : Option (List Code)) (cn : Str) (a : Addr) (ccd : Value) (cl : List (Str × Addr)) (outer : List Env) (A₀ : Around) (base h₀ : Heap) (L : Addr) (m : Str → Option Value) (s : Shared) (Q E : Value → Shared → Prop)
    (B : Below A₀ base outer h₀) (F : Fr h₀ L s.heap m) (X' : Frag.In (hd.heap_39 w.params) h₀) (N : News h₀ L s.heap ((X, oX) :: (a3, o3) :: rest)) (T : TopH mean mg mb h₀)
    (hd : dp + 40 < recursionLimit) (hu' : un + 200 < cLine) (hret : ∀ (t : Tok) (h' : Heap) (tk' : Nat), Fr h₀ L h' m → News h₀ L h' ((X, oX) :: (a3, o3) :: rest) → Q (.str (Txt.join (Str.ofString "") ((rangeKs 0 n.toNat).map fun k => Txt.item (Str.ofString "ab") (Int.fmod (Int.fdiv mask (2 ^ k.toNat)) 2))) t) { s with heap := h', toks := tk' }) :
    wpAny (model PySem.Challenge.pw_fq5042_01 w) (ktrTop dp un gd cn lawScope L a ccd cl outer)
      (eval (((PySem.Expr.Constant (Const.str (Str.ofString "")) 0 ⟨214, 13, 214, 15⟩).Attribute (Str.ofString "join") ⟨214, 13, 214, 20⟩).Call [((PySem.Expr.Constant (Const.str (Str.ofString "ab")) 0 ⟨214, 22, 214, 26⟩).Subscript (((PySem.Expr.Name (Str.ofString "mask") ⟨214, 27, 214, 31⟩).BinOp Operator.FloorDiv ((PySem.Expr.Constant (Const.int 2) 0 ⟨214, 35, 214, 36⟩).BinOp Operator.Pow (PySem.Expr.Name (Str.ofString "k") ⟨214, 40, 214, 41⟩) ⟨214, 35, 214, 41⟩) ⟨214, 27, 214, 41⟩).BinOp Operator.Mod (PySem.Expr.Constant (Const.int 2) 0 ⟨214, 44, 214, 45⟩) ⟨214, 27, 214, 45⟩) ⟨214, 22, 214, 46⟩).ListComp [{ target := PySem.Expr.Name (Str.ofString "k") ⟨214, 51, 214, 52⟩, iter := (PySem.Expr.Name (Str.ofString "range") ⟨214, 56, 214, 61⟩).Call [PySem.Expr.Name (Str.ofString "n") ⟨214, 62, 214, 63⟩] [] ⟨214, 56, 214, 64⟩, ifs := [], is_async := 0 }] scBits ⟨214, 21, 214, 65⟩] [] ⟨214, 13, 214, 66⟩)
        (compEnvC scWords ((Str.ofString "mask", X) :: [(Str.ofString "n", a3)]) C (envX cn lawScope L a ccd cl))) Q E s := by
  have mX := mem_of N (X, oX) (by k_mem)
  have m3 := mem_of N (a3, o3) (by k_mem)
  try k_fold
  k_steps
  have e9 : (List.map (fun a => if Str.length (Txt.item (Str.ofString "ab") (Int.fmod (Int.fdiv mask (2 ^ Int.toNat a)) 2)) = 1 then Txt.item (Str.ofString "ab") (Int.fmod (Int.fdiv mask (2 ^ Int.toNat a)) 2) else Str.empty) (rangeKs 0 (Int.toNat (n - 0)))) = (rangeKs 0 n.toNat).map fun k => Txt.item (Str.ofString "ab") (Int.fmod (Int.fdiv mask (2 ^ k.toNat)) 2) := by
    rw [Int.sub_zero]
    exact List.map_congr_left fun a _ => if_pos rfl
  rw [e9]
  exact hret _ _ _ (by k_asm) (cb_drop (by assumption) (by kcf_all))
end Mine
end
section
open PySem PySem.W PyProof.Rows PySem.Spec
set_option Elab.async false
namespace Mine
/-- a word of letters a, b; true stands for b -/
def letter (b : Bool) : Nat := if b then 98 else 97
def strOf (l : List Bool) : Str := ⟨(l.map letter).toArray⟩
theorem strOf_length (l : List Bool) : (strOf l).length = l.length := by show (l.map letter).toArray.size = _; simp
theorem letter_inj {a b : Bool} (h : letter a = letter b) : a = b := by cases a <;> cases b <;> first | rfl | (exact absurd h (by decide))
theorem strOf_inj {a b : List Bool} (h : strOf a = strOf b) : a = b := by
  have e : a.map letter = b.map letter := by
    have := congrArg (fun s : Str => s.cps.toList) h
    simpa [strOf] using this
  exact (List.map_inj_right fun x y => letter_inj).mp e
theorem strOf_append (a b : List Bool) : strOf a ++ strOf b = strOf (a ++ b) := by
  show (⟨(a.map letter).toArray ++ (b.map letter).toArray⟩ : Str) = ⟨((a ++ b).map letter).toArray⟩
  simp
theorem item_ab (v : Int) : Txt.item (Str.ofString "ab") (Int.fmod v 2) = strOf [Int.fmod v 2 == 1] := by
  have h0 : 0 ≤ Int.fmod v 2 := Int.fmod_nonneg_of_pos v (by decide)
  have h1 : Int.fmod v 2 < 2 := Int.fmod_lt_of_pos v (by decide)
  have : Int.fmod v 2 = 0 ∨ Int.fmod v 2 = 1 := by omega
  rcases this with e | e <;> rw [e] <;> decide +kernel
theorem join_strs (f : Int → Bool) : ∀ ks : List Int, Txt.join (Str.ofString "") (ks.map fun k => strOf [f k]) = strOf (ks.map f)
  | [] => rfl
  | k :: ks => by
    have fold : ∀ (ks : List Int) (acc : List Bool), ((ks.map fun k => strOf [f k]).foldl (fun acc p => acc ++ (Str.ofString "").cps ++ p.cps) (strOf acc).cps) = (strOf (acc ++ ks.map f)).cps := by
      intro ks
      induction ks with
      | nil => intro acc; simp
      | cons k ks ih =>
        intro acc
        have e : (strOf acc).cps ++ (Str.ofString "").cps ++ (strOf [f k]).cps = (strOf (acc ++ [f k])).cps := by
          rw [show (Str.ofString "").cps = #[] from by decide +kernel]
          simp [strOf]
        rw [List.map_cons, List.foldl_cons, e, ih]
        simp
    show (⟨((ks.map fun k => strOf [f k]).foldl (fun acc p => acc ++ (Str.ofString "").cps ++ p.cps) (strOf [f k]).cps)⟩ : Str) = strOf (f k :: ks.map f)
    rw [fold]
    rfl
theorem slice_to {l : List Bool} {i : Int} (h0 : 0 ≤ i) (h1 : i ≤ l.length) : Txt.slice (strOf l) none (some i) = strOf (l.take i.toNat) := by
  have h := slice_closes_toL (x := strOf l) h0 (by rw [strOf_length]; exact h1)
  rw [eq_of_beq h]
  show (⟨_⟩ : Str) = ⟨_⟩
  congr 1
  have e : (0 : Int).toNat = 0 := rfl
  rw [e, List.drop_zero, Int.sub_zero]
  simp [strOf, List.map_take]
theorem slice_from {l : List Bool} {i : Int} (h0 : 0 ≤ i) (h1 : i ≤ l.length) : Txt.slice (strOf l) (some i) none = strOf (l.drop i.toNat) := by
  rw [slice_from_eq (b := (l.length : Int)) h0 (by rw [strOf_length]; exact h1) (by rw [strOf_length])]
  show (⟨_⟩ : Str) = ⟨_⟩
  congr 1
  have e : ((l.length : Int) - i).toNat = (l.drop i.toNat).length := by rw [List.length_drop]; omega
  simp only [strOf]
  rw [← List.map_drop, e, List.take_of_length_le (by simp)]
/-- what the law draws -/
structure Drawn (n : Nat) (word short wide : Str) : Prop where
  n1 : 1 ≤ n
  n6 : n ≤ 6
  ex : ∃ (l : List Bool) (i j : Nat) (b : Bool), l.length = n ∧ i < n ∧ j ≤ n ∧ word = strOf l ∧ short = strOf (l.take i ++ l.drop (i + 1)) ∧ wide = strOf (l.take j ++ b :: l.drop j)
theorem drawn_of {on ow os od : Obj} {x y y' z : Int} {X : Int → Int} {tn tw ts td : Tok} (dn : on.data = .cell (some (.int (1 + Int.fmod x 6) tn)))
    (dw : ow.data = .cell (some (.str (Txt.join (Str.ofString "") (List.map (fun a => if (Txt.item (Str.ofString "ab") (Int.fmod (X a) 2)).length = 1 then Txt.item (Str.ofString "ab") (Int.fmod (X a) 2) else Str.empty) (rangeKs 0 (Int.toNat (1 + Int.fmod x 6 - 0))))) tw)))
    (ds : os.data = .cell (some (.str (Txt.slice (Txt.join (Str.ofString "") (List.map (fun a => if (Txt.item (Str.ofString "ab") (Int.fmod (X a) 2)).length = 1 then Txt.item (Str.ofString "ab") (Int.fmod (X a) 2) else Str.empty) (rangeKs 0 (Int.toNat (1 + Int.fmod x 6 - 0))))) none (some (Int.fmod y (1 + Int.fmod x 6))) ++
      Txt.slice (Txt.join (Str.ofString "") (List.map (fun a => if (Txt.item (Str.ofString "ab") (Int.fmod (X a) 2)).length = 1 then Txt.item (Str.ofString "ab") (Int.fmod (X a) 2) else Str.empty) (rangeKs 0 (Int.toNat (1 + Int.fmod x 6 - 0))))) (some (Int.fmod y (1 + Int.fmod x 6) + 1)) none) ts)))
    (dd : od.data = .cell (some (.str (Txt.slice (Txt.join (Str.ofString "") (List.map (fun a => if (Txt.item (Str.ofString "ab") (Int.fmod (X a) 2)).length = 1 then Txt.item (Str.ofString "ab") (Int.fmod (X a) 2) else Str.empty) (rangeKs 0 (Int.toNat (1 + Int.fmod x 6 - 0))))) none (some (Int.fmod y' (1 + Int.fmod x 6 + 1))) ++
      Txt.item (Str.ofString "ab") (Int.fmod z 2) ++
      Txt.slice (Txt.join (Str.ofString "") (List.map (fun a => if (Txt.item (Str.ofString "ab") (Int.fmod (X a) 2)).length = 1 then Txt.item (Str.ofString "ab") (Int.fmod (X a) 2) else Str.empty) (rangeKs 0 (Int.toNat (1 + Int.fmod x 6 - 0))))) (some (Int.fmod y' (1 + Int.fmod x 6 + 1))) none) td))) :
    ∃ (n : Nat) (word short wide : Str) (on' ow' os' od' : Obj), on' = on ∧ ow' = ow ∧ os' = os ∧ od' = od ∧ Drawn n word short wide ∧ on.data = .cell (some (.int (n : Int) tn)) ∧ ow.data = .cell (some (.str word tw)) ∧ os.data = .cell (some (.str short ts)) ∧ od.data = .cell (some (.str wide td)) := by
  have h0 : 0 ≤ Int.fmod x 6 := Int.fmod_nonneg_of_pos x (by decide)
  have h1 : Int.fmod x 6 < 6 := Int.fmod_lt_of_pos x (by decide)
  obtain ⟨n, hn⟩ : ∃ n : Nat, 1 + Int.fmod x 6 = (n : Int) := ⟨(1 + Int.fmod x 6).toNat, by omega⟩
  rw [hn] at dn dw ds dd
  have eN : Int.toNat ((n : Int) - 0) = n := by omega
  have hl : (rangeKs 0 n).length = n := rangeKs_length 0 n
  have eW : Txt.join (Str.ofString "") (List.map (fun a => if (Txt.item (Str.ofString "ab") (Int.fmod (X a) 2)).length = 1 then Txt.item (Str.ofString "ab") (Int.fmod (X a) 2) else Str.empty) (rangeKs 0 (Int.toNat ((n : Int) - 0)))) = strOf ((rangeKs 0 n).map fun a => Int.fmod (X a) 2 == 1) := by
    rw [eN, ← join_strs]
    congr 1
    exact List.map_congr_left fun a _ => (if_pos (show (Txt.item (Str.ofString "ab") (Int.fmod (X a) 2)).length = 1 from rfl)).trans (item_ab _)
  rw [eW] at dw ds dd
  generalize hL : ((rangeKs 0 n).map fun a => Int.fmod (X a) 2 == 1) = l at dw ds dd
  have hll : l.length = n := by rw [← hL, List.length_map, hl]
  have y0 : 0 ≤ Int.fmod y n := Int.fmod_nonneg_of_pos y (by omega)
  have y1 : Int.fmod y n < n := Int.fmod_lt_of_pos y (by omega)
  have z0 : 0 ≤ Int.fmod y' (n + 1) := Int.fmod_nonneg_of_pos y' (by omega)
  have z1 : Int.fmod y' (n + 1) < n + 1 := Int.fmod_lt_of_pos y' (by omega)
  rw [slice_to y0 (by omega), slice_from (by omega) (by omega), strOf_append] at ds
  rw [slice_to z0 (by omega), slice_from z0 (by omega), item_ab, strOf_append, strOf_append] at dd
  refine ⟨n, _, _, _, on, ow, os, od, rfl, rfl, rfl, rfl, ⟨by omega, by omega, l, (Int.fmod y n).toNat, (Int.fmod y' (n + 1)).toNat, Int.fmod z 2 == 1, hll, by omega, by omega, rfl, rfl, rfl⟩, dn, dw, ?_, ?_⟩
  · rw [ds, show (Int.fmod y n + 1).toNat = (Int.fmod y n).toNat + 1 by omega]
  · rw [dd]; simp
end Mine
end
section
open PySem PySem.W PyProof.Rows PySem.Spec
set_option Elab.async false
namespace Mine
def bits (n m : Nat) : List Bool := (List.range n).map fun k => m / 2 ^ k % 2 == 1
def wordsOf (n : Nat) : List Str := (List.range (2 ^ n)).map fun m => strOf (bits n m)
def nearOf (n : Nat) (word : Str) : List Str := (wordsOf n).filter fun u => Int.fmod (lawSum u - lawSum word) ((n : Int) + 1) == 0
def farOf (n : Nat) (word : Str) : List Str := (wordsOf n).filter fun u => !(u == word) && Int.fmod (lawSum u - lawSum word) (2 * (n : Int)) == 0
theorem bits_length (n m : Nat) : (bits n m).length = n := by simp [bits]
theorem words_length {n : Nat} {u : Str} (h : u ∈ wordsOf n) : u.length = n := by
  obtain ⟨m, _, rfl⟩ := List.mem_map.mp h
  rw [strOf_length, bits_length]
theorem wordG_eq (n m : Nat) : Txt.join (Str.ofString "") ((rangeKs 0 (n : Int).toNat).map fun j => Txt.item (Str.ofString "ab") (Int.fmod (Int.fdiv (m : Int) (2 ^ j.toNat)) 2)) = strOf (bits n m) := by
  have e : ((rangeKs 0 (n : Int).toNat).map fun j => Txt.item (Str.ofString "ab") (Int.fmod (Int.fdiv (m : Int) (2 ^ j.toNat)) 2)) = (rangeKs 0 (n : Int).toNat).map fun j => strOf [Int.fmod (Int.fdiv (m : Int) (2 ^ j.toNat)) 2 == 1] :=
    List.map_congr_left fun a _ => item_ab _
  rw [e, join_strs, Int.toNat_natCast]
  congr 1
  unfold rangeKs bits
  rw [List.map_map]
  refine List.map_congr_left fun k _ => ?_
  show (Int.fmod (Int.fdiv (m : Int) (2 ^ (0 + (k : Int)).toNat)) 2 == 1) = (m / 2 ^ k % 2 == 1)
  rw [Int.zero_add, Int.toNat_natCast]
  have e1 : Int.fdiv (m : Int) (2 ^ k) = ((m / 2 ^ k : Nat) : Int) := by
    rw [show ((2 : Int) ^ k) = ((2 ^ k : Nat) : Int) by simp]
    rw [Int.fdiv_eq_ediv_of_nonneg _ (Int.natCast_nonneg _)]
    exact (Int.natCast_ediv _ _).symm
  rw [e1, Int.fmod_eq_emod_of_nonneg _ (by decide)]
  rw [show ((m / 2 ^ k : Nat) : Int) % 2 = ((m / 2 ^ k % 2 : Nat) : Int) from (Int.natCast_emod _ _).symm]
  rcases Nat.mod_two_eq_zero_or_one (m / 2 ^ k) with q | q <;> rw [q] <;> rfl
theorem words_eq (n : Nat) : ((rangeKs 0 (2 ^ n)).map fun k => Txt.join (Str.ofString "") ((rangeKs 0 (n : Int).toNat).map fun j => Txt.item (Str.ofString "ab") (Int.fmod (Int.fdiv k (2 ^ j.toNat)) 2))) = wordsOf n := by
  unfold wordsOf rangeKs
  rw [List.map_map]
  refine List.map_congr_left fun m _ => ?_
  have := wordG_eq n m
  unfold rangeKs at this
  rw [← this]
  simp
end Mine
end
section
open PySem PyProof.Rows
set_option Elab.async false
namespace Mine
/-- the sum of the places that hold true, counted from k + 1 -/
def vtAt : Nat → List Bool → Nat
  | _, [] => 0
  | k, b :: l => (if b then k + 1 else 0) + vtAt (k + 1) l
def vt (l : List Bool) : Nat := vtAt 0 l
theorem vtAt_append (a c : List Bool) : ∀ k, vtAt k (a ++ c) = vtAt k a + vtAt (k + a.length) c := by
  induction a with
  | nil => intro k; simp [vtAt]
  | cons b a ih =>
    intro k
    simp only [List.cons_append, vtAt, ih, List.length_cons]
    rw [show k + 1 + a.length = k + (a.length + 1) by omega]
    omega
theorem vtAt_succ (c : List Bool) : ∀ k, vtAt (k + 1) c = vtAt k c + c.count true := by
  induction c with
  | nil => intro k; simp [vtAt]
  | cons b c ih =>
    intro k
    simp only [vtAt, ih, List.count_cons]
    cases b <;> simp <;> omega
theorem vt_ins (a c : List Bool) (b : Bool) : vt (a ++ b :: c) = vt (a ++ c) + (c.count true + if b then a.length + 1 else 0) := by
  unfold vt
  rw [vtAt_append, vtAt_append]
  simp only [vtAt, Nat.zero_add, vtAt_succ]
  cases b <;> simp <;> omega
theorem vt_snoc (x : List Bool) (a : Bool) : vt (x ++ [a]) = vt x + if a then x.length + 1 else 0 := by
  unfold vt
  rw [vtAt_append]
  simp [vtAt]
/-- one letter of x taken out gives s -/
def Del (x s : List Bool) : Prop := ∃ a b c, x = a ++ b :: c ∧ s = a ++ c
theorem del_length {x s : List Bool} (h : Del x s) : x.length = s.length + 1 := by
  obtain ⟨a, b, c, rfl, rfl⟩ := h
  simp; omega
theorem del_of_sub {s x : List Bool} (h : s.Sublist x) : x.length = s.length + 1 → Del x s := by
  induction h with
  | slnil => intro q; simp at q
  | @cons s x a h ih =>
    intro q
    have e : s = x := h.eq_of_length (by simpa using q.symm)
    exact ⟨[], a, x, rfl, e⟩
  | @cons_cons s x a h ih =>
    intro q
    obtain ⟨p, b, c, e1, e2⟩ := ih (by simpa using q)
    exact ⟨a :: p, b, c, by rw [e1]; rfl, by rw [e2]; rfl⟩
theorem sub_of_del {x s : List Bool} (h : Del x s) : s.Sublist x := by
  obtain ⟨a, b, c, rfl, rfl⟩ := h
  exact List.Sublist.append (List.Sublist.refl a) (List.sublist_cons_self b c)
theorem shift_all {b : Bool} : ∀ {d : List Bool}, (∀ x ∈ d, b = x) → b :: d = d ++ [b]
  | [], _ => rfl
  | x :: d, h => by
    have e := h x List.mem_cons_self
    subst e
    exact congrArg (b :: ·) (shift_all fun y hy => h y (List.mem_cons_of_mem _ hy))
/-- how far an insertion moves the sum -/
theorem step_le (a c : List Bool) (b : Bool) : (c.count true + if b then a.length + 1 else 0) ≤ a.length + c.length + 1 := by
  have := List.count_le_length (a := true) (l := c)
  cases b <;> simp <;> omega
theorem ins_half {a d c : List Bool} {b b' : Bool} (h : ((d ++ c).count true + if b then a.length + 1 else 0) = (c.count true + if b' then (a ++ d).length + 1 else 0)) : a ++ b :: (d ++ c) = (a ++ d) ++ b' :: c := by
  have hd := List.count_le_length (a := true) (l := d)
  rw [List.count_append, List.length_append] at h
  cases b with
  | false =>
    cases b' with
    | false =>
      have h0 : List.count true d = 0 := by simp at h; omega
      have e : ∀ x ∈ d, false = x := fun x hx => by
        cases x with
        | false => rfl
        | true => exact absurd hx (List.count_eq_zero.mp h0)
      rw [List.append_assoc, ← List.cons_append, shift_all e, List.append_assoc]; rfl
    | true => simp at h; omega
  | true =>
    cases b' with
    | false => simp at h; omega
    | true =>
      have e : ∀ x ∈ d, true = x := by
        apply List.count_eq_length.mp; simp at h; omega
      rw [List.append_assoc, ← List.cons_append, shift_all e, List.append_assoc]; rfl
/-- two words out of one by one new letter each, their sums as far apart: the same word -/
theorem ins_same {x y s : List Bool} (hx : Del x s) (hy : Del y s) (h : vt x = vt y) : x = y := by
  obtain ⟨a, b, c, rfl, e⟩ := hx
  obtain ⟨a', b', c', rfl, e'⟩ := hy
  have q : a ++ c = a' ++ c' := e.symm.trans e'
  rw [vt_ins, vt_ins, q] at h
  have h' := Nat.add_left_cancel h
  rcases List.append_eq_append_iff.mp q with ⟨d, rfl, rfl⟩ | ⟨d, rfl, rfl⟩
  · exact ins_half h'
  · exact (ins_half h'.symm).symm
theorem del_diff {x s : List Bool} (h : Del x s) : vt s ≤ vt x ∧ vt x ≤ vt s + x.length := by
  obtain ⟨a, b, c, rfl, rfl⟩ := h
  rw [vt_ins]
  have := step_le a c b
  simp only [List.length_append, List.length_cons]
  omega
/-- two words out of one by one letter lost each: they have a word in common that each loses one letter to -/
theorem del_meet {W x y : List Bool} (hx : Del W x) (hy : Del W y) : x = y ∨ ∃ s, Del x s ∧ Del y s := by
  obtain ⟨a, b, c, e1, rfl⟩ := hx
  obtain ⟨a', b', c', e2, rfl⟩ := hy
  have q := e1.symm.trans e2
  rcases List.append_eq_append_iff.mp q with ⟨d, rfl, e⟩ | ⟨d, rfl, e⟩
  · cases d with
    | nil => simp at e; exact .inl (by rw [e.2]; simp)
    | cons z d =>
      simp at e
      obtain ⟨rfl, rfl⟩ := e
      exact .inr ⟨a ++ d ++ c', ⟨a ++ d, b', c', by simp, by simp⟩, ⟨a, b, d ++ c', by simp, by simp⟩⟩
  · cases d with
    | nil => simp at e; exact .inl (by rw [e.2]; simp)
    | cons z d =>
      simp at e
      obtain ⟨rfl, rfl⟩ := e
      exact .inr ⟨a' ++ d ++ c, ⟨a', b', d ++ c, by simp, by simp⟩, ⟨a' ++ d, b, c, by simp, by simp⟩⟩
theorem del_near {n : Nat} {x y s : List Bool} (h1 : 1 ≤ n) (h6 : n ≤ 6) (hl : x.length = n) (hl' : y.length = n) (hx : Del x s) (hy : Del y s) (h : ((vt x : Int) - vt y) % ((n : Int) + 1) = 0) : x = y := by
  refine ins_same hx hy ?_
  have a := del_diff hx
  have b := del_diff hy
  rw [hl] at a
  rw [hl'] at b
  have : n = 1 ∨ n = 2 ∨ n = 3 ∨ n = 4 ∨ n = 5 ∨ n = 6 := by omega
  rcases this with rfl | rfl | rfl | rfl | rfl | rfl <;> omega
theorem del_far {n : Nat} {x y s : List Bool} (h1 : 1 ≤ n) (h6 : n ≤ 6) (hl : x.length = n) (hl' : y.length = n) (hx : Del x s) (hy : Del y s) (h : ((vt x : Int) - vt y) % (2 * (n : Int)) = 0) : x = y := by
  refine ins_same hx hy ?_
  have a := del_diff hx
  have b := del_diff hy
  rw [hl] at a
  rw [hl'] at b
  have : n = 1 ∨ n = 2 ∨ n = 3 ∨ n = 4 ∨ n = 5 ∨ n = 6 := by omega
  rcases this with rfl | rfl | rfl | rfl | rfl | rfl <;> omega
/-- the places at which two words part, below k -/
def mis (x y : List Bool) : Nat → Nat
  | 0 => 0
  | k + 1 => mis x y k + if x[k]? = y[k]? then 0 else 1
theorem mis_prefix {x y p q : List Bool} : ∀ k, k ≤ x.length → k ≤ y.length → mis (x ++ p) (y ++ q) k = mis x y k
  | 0, _, _ => rfl
  | k + 1, hx, hy => by
    simp only [mis]
    rw [mis_prefix k (by omega) (by omega), List.getElem?_append_left (by omega), List.getElem?_append_left (by omega)]
theorem snoc_of {x : List Bool} {k : Nat} (h : x.length = k + 1) : ∃ x' a, x = x' ++ [a] ∧ x'.length = k := by
  refine ⟨x.dropLast, x.getLast (by intro q; subst q; simp at h), (List.dropLast_concat_getLast _).symm, by simp [h]⟩
theorem mis_small : ∀ (k : Nat) (x y : List Bool), x.length = k → y.length = k →
    (mis x y k = 0 → x = y) ∧ (mis x y k = 1 → ∃ p, 1 ≤ p ∧ p ≤ k ∧ (vt x = vt y + p ∨ vt y = vt x + p)) ∧
      (mis x y k = 2 → ∃ p q, 1 ≤ p ∧ p < q ∧ q ≤ k ∧ (vt x = vt y + p + q ∨ vt y = vt x + p + q ∨ vt x + p = vt y + q ∨ vt y + p = vt x + q)) := by
  intro k
  induction k with
  | zero =>
    intro x y hx hy
    have e1 := List.length_eq_zero_iff.mp hx
    have e2 := List.length_eq_zero_iff.mp hy
    subst e1 e2
    simp [mis]
  | succ k ih =>
    intro x0 y0 hx0 hy0
    obtain ⟨x, a, ex, hx⟩ := snoc_of hx0
    obtain ⟨y, b, ey, hy⟩ := snoc_of hy0
    subst ex ey
    clear hx0 hy0
    obtain ⟨i0, i1, i2⟩ := ih x y hx hy
    have em : mis (x ++ [a]) (y ++ [b]) (k + 1) = mis x y k + if a = b then 0 else 1 := by
      simp only [mis]
      rw [mis_prefix k (by omega) (by omega)]
      have e1 : (x ++ [a])[k]? = some a := by rw [List.getElem?_append_right (by omega), hx]; simp
      have e2 : (y ++ [b])[k]? = some b := by rw [List.getElem?_append_right (by omega), hy]; simp
      rw [e1, e2]
      by_cases q : a = b <;> simp [q]
    rw [em, vt_snoc, vt_snoc, hx, hy]
    by_cases q : a = b
    · subst q
      simp only [if_true, Nat.add_zero]
      refine ⟨fun h => by rw [i0 h], fun h => ?_, fun h => ?_⟩
      · obtain ⟨p, h1, h2, h3⟩ := i1 h
        exact ⟨p, h1, by omega, by omega⟩
      · obtain ⟨p, r, h1, h2, h3, h4⟩ := i2 h
        exact ⟨p, r, h1, h2, by omega, by omega⟩
    · rw [if_neg q]
      refine ⟨fun h => by omega, fun h => ?_, fun h => ?_⟩
      · have e := i0 (by omega)
        subst e
        refine ⟨k + 1, by omega, by omega, ?_⟩
        cases a <;> cases b <;> simp at q ⊢
      · obtain ⟨p, h1, h2, h3⟩ := i1 (by omega)
        refine ⟨p, k + 1, h1, by omega, by omega, ?_⟩
        cases a <;> cases b <;> simp at q ⊢ <;> omega
theorem far_mis {n : Nat} {x y : List Bool} (h1 : 1 ≤ n) (h6 : n ≤ 6) (hl : x.length = n) (hl' : y.length = n) (hne : x ≠ y) (h : ((vt x : Int) - vt y) % (2 * (n : Int)) = 0) : 3 ≤ mis x y n := by
  obtain ⟨i0, i1, i2⟩ := mis_small n x y hl hl'
  have c : mis x y n = 0 ∨ mis x y n = 1 ∨ mis x y n = 2 ∨ 3 ≤ mis x y n := by omega
  rcases c with c | c | c | c
  · exact absurd (i0 c) hne
  · obtain ⟨p, h2, h3, h4⟩ := i1 c
    have : n = 1 ∨ n = 2 ∨ n = 3 ∨ n = 4 ∨ n = 5 ∨ n = 6 := by omega
    exfalso
    rcases this with rfl | rfl | rfl | rfl | rfl | rfl <;> omega
  · obtain ⟨p, q, h2, h3, h4, h5⟩ := i2 c
    have : n = 1 ∨ n = 2 ∨ n = 3 ∨ n = 4 ∨ n = 5 ∨ n = 6 := by omega
    exfalso
    rcases this with rfl | rfl | rfl | rfl | rfl | rfl <;> omega
  · exact c
end Mine
end
section
open PySem PyProof.Rows
set_option Elab.async false
namespace Mine
section
variable {α : Type} [DecidableEq α]
theorem take_at {l : List α} {i : Nat} {c : α} (h : l[i]? = some c) : l.take (i + 1) = l.take i ++ [c] := by rw [List.take_add_one, h]; rfl
theorem get_lt {l : List α} {i : Nat} (h : i < l.length) : ∃ c, l[i]? = some c := ⟨_, List.getElem?_eq_getElem h⟩
theorem back_spec (xs ys : List α) : ∀ n i j, i + j = n → i ≤ xs.length → j ≤ ys.length → ∀ acc, ∃ r, back xs ys i j acc = r ++ acc ∧ r.Sublist (xs.take i) ∧ r.Sublist (ys.take j) ∧ r.length = lcs xs ys i j := by
  intro n
  induction n using Nat.strongRecOn with
  | _ n ih =>
    intro i j hn hi hj acc
    match i, j with
    | 0, j => exact ⟨[], by rw [back_zero_left]; rfl, List.nil_sublist _, List.nil_sublist _, by rw [lcs_zero_left]; rfl⟩
    | i + 1, 0 => exact ⟨[], by rw [back_zero_right]; rfl, List.nil_sublist _, List.nil_sublist _, by rw [lcs_zero_right]; rfl⟩
    | i + 1, j + 1 =>
      obtain ⟨c, hc⟩ := get_lt (l := xs) (i := i) (by omega)
      obtain ⟨d, hd⟩ := get_lt (l := ys) (i := j) (by omega)
      by_cases h1 : lcs xs ys (i + 1) (j + 1) = lcs xs ys i (j + 1)
      · obtain ⟨r, e, s1, s2, l⟩ := ih (i + (j + 1)) (by omega) i (j + 1) rfl (by omega) hj acc
        exact ⟨r, by rw [back_up h1, e], by rw [take_at hc]; exact s1.trans (List.sublist_append_left _ _), s2, by rw [l, h1]⟩
      · by_cases h2 : lcs xs ys (i + 1) (j + 1) = lcs xs ys (i + 1) j
        · obtain ⟨r, e, s1, s2, l⟩ := ih (i + 1 + j) (by omega) (i + 1) j rfl hi (by omega) acc
          exact ⟨r, by rw [back_left h1 h2, e], s1, by rw [take_at hd]; exact s2.trans (List.sublist_append_left _ _), by rw [l, h2]⟩
        · have m := lcs_meet h1 h2
          obtain ⟨r, e, s1, s2, l⟩ := ih (i + j) (by omega) i j rfl (by omega) (by omega) (c :: acc)
          have hd' : ys[j]? = some c := by rw [← m, hc]
          refine ⟨r ++ [c], by rw [back_both h1 h2 hc, e]; simp, by rw [take_at hc]; exact List.Sublist.append s1 (List.Sublist.refl _), by rw [take_at hd']; exact List.Sublist.append s2 (List.Sublist.refl _), ?_⟩
          rw [lcs_succ, if_pos m, List.length_append, l]; rfl
theorem sub_snoc {r l : List α} {c : α} (h : r.Sublist (l ++ [c])) : r.Sublist l ∨ ∃ r', r = r' ++ [c] ∧ r'.Sublist l := by
  obtain ⟨r1, r2, rfl, h1, h2⟩ := List.sublist_append_iff.mp h
  cases r2 with
  | nil => exact .inl (by simpa using h1)
  | cons z r2 =>
    have hl := h2.length_le
    have : r2 = [] := by cases r2 with | nil => rfl | cons _ _ => simp at hl
    subst this
    have hz : z = c := by
      have := h2.subset List.mem_cons_self
      simpa using this
    subst hz
    exact .inr ⟨r1, rfl, h1⟩
theorem lcs_ge (xs ys : List α) : ∀ n i j, i + j = n → i ≤ xs.length → j ≤ ys.length → ∀ r : List α, r.Sublist (xs.take i) → r.Sublist (ys.take j) → r.length ≤ lcs xs ys i j := by
  intro n
  induction n using Nat.strongRecOn with
  | _ n ih =>
    intro i j hn hi hj r h1 h2
    match i, j with
    | 0, j => have := h1.length_le; simp at this; subst this; simp
    | i + 1, 0 => have := h2.length_le; simp at this; subst this; simp
    | i + 1, j + 1 =>
      obtain ⟨c, hc⟩ := get_lt (l := xs) (i := i) (by omega)
      obtain ⟨d, hd⟩ := get_lt (l := ys) (i := j) (by omega)
      have h1' := h1
      have h2' := h2
      rw [take_at hc] at h1
      rw [take_at hd] at h2
      rw [lcs_succ]
      by_cases q : xs[i]? = ys[j]?
      · rw [if_pos q]
        have cd : d = c := by rw [hc, hd] at q; exact (Option.some.inj q).symm
        subst cd
        rcases sub_snoc h1 with a | ⟨r1, rfl, a⟩
        · rcases sub_snoc h2 with b | ⟨r2, rfl, b⟩
          · exact Nat.le_succ_of_le (ih (i + j) (by omega) i j rfl (by omega) (by omega) r a b)
          · have := ih (i + j) (by omega) i j rfl (by omega) (by omega) r2 ((List.sublist_append_left _ _).trans a) b
            simp; omega
        · rcases sub_snoc h2 with b | ⟨r2, e, b⟩
          · have := ih (i + j) (by omega) i j rfl (by omega) (by omega) r1 a ((List.sublist_append_left _ _).trans b)
            simp; omega
          · have e' := (List.append_inj' e rfl).1
            subst e'
            have := ih (i + j) (by omega) i j rfl (by omega) (by omega) r1 a b
            simp; omega
      · rw [if_neg q]
        rcases sub_snoc h1 with a | ⟨r1, rfl, a⟩
        · have := ih (i + (j + 1)) (by omega) i (j + 1) rfl (by omega) hj r a h2'
          omega
        · rcases sub_snoc h2 with b | ⟨r2, e, b⟩
          · have := ih (i + 1 + j) (by omega) (i + 1) j rfl hi (by omega) _ h1' b
            omega
          · have e' := (List.append_inj' e rfl).2
            have cd : c = d := by simpa using e'
            exact absurd (by rw [hc, hd, cd]) q
theorem back_whole (xs ys : List α) : ∃ r, back xs ys xs.length ys.length [] = r ∧ r.Sublist xs ∧ r.Sublist ys ∧ ∀ q : List α, q.Sublist xs → q.Sublist ys → q.length ≤ r.length := by
  obtain ⟨r, e, s1, s2, l⟩ := back_spec xs ys _ xs.length ys.length rfl (Nat.le_refl _) (Nat.le_refl _) []
  rw [List.take_length] at s1 s2
  refine ⟨r, by rw [e, List.append_nil], s1, s2, fun q a b => ?_⟩
  rw [l]
  exact lcs_ge xs ys _ xs.length ys.length rfl (Nat.le_refl _) (Nat.le_refl _) q (by rw [List.take_length]; exact a) (by rw [List.take_length]; exact b)
/-- steps from one list to another: letters put in place of others, lost, new -/
inductive Ed : List α → List α → Nat → Nat → Nat → Prop
  | nil : Ed [] [] 0 0 0
  | keep {x y : List α} {s d e : Nat} (c : α) : Ed x y s d e → Ed (x ++ [c]) (y ++ [c]) s d e
  | sub {x y : List α} {s d e : Nat} (a b : α) : Ed x y s d e → Ed (x ++ [a]) (y ++ [b]) (s + 1) d e
  | del {x y : List α} {s d e : Nat} (a : α) : Ed x y s d e → Ed (x ++ [a]) y s (d + 1) e
  | ins {x y : List α} {s d e : Nat} (b : α) : Ed x y s d e → Ed x (y ++ [b]) s d (e + 1)
theorem Ed.lengths {x y : List α} {s d e : Nat} (h : Ed x y s d e) : x.length + e = y.length + d := by
  induction h <;> simp <;> omega
theorem Ed.common {x y : List α} {s d e : Nat} (h : Ed x y s d e) : ∃ c : List α, c.Sublist x ∧ c.Sublist y ∧ c.length + s + d = x.length := by
  induction h with
  | nil => exact ⟨[], .slnil, .slnil, rfl⟩
  | keep c h ih =>
    obtain ⟨q, a, b, l⟩ := ih
    exact ⟨q ++ [c], List.Sublist.append a (List.Sublist.refl _), List.Sublist.append b (List.Sublist.refl _), by simp; omega⟩
  | sub u v h ih =>
    obtain ⟨q, a, b, l⟩ := ih
    exact ⟨q, a.trans (List.sublist_append_left _ _), b.trans (List.sublist_append_left _ _), by simp; omega⟩
  | del u h ih =>
    obtain ⟨q, a, b, l⟩ := ih
    exact ⟨q, a.trans (List.sublist_append_left _ _), b, by simp; omega⟩
  | ins u h ih =>
    obtain ⟨q, a, b, l⟩ := ih
    exact ⟨q, a, b.trans (List.sublist_append_left _ _), l⟩
theorem lev_ed (xs ys : List α) : ∀ n i j, i + j = n → i ≤ xs.length → j ≤ ys.length → ∃ s d e, s + d + e = lev xs ys i j ∧ Ed (xs.take i) (ys.take j) s d e := by
  intro n
  induction n using Nat.strongRecOn with
  | _ n ih =>
    intro i j hn hi hj
    match i, j with
    | 0, 0 => exact ⟨0, 0, 0, by rw [lev_zero_left], .nil⟩
    | 0, j + 1 =>
      obtain ⟨c, hc⟩ := get_lt (l := ys) (i := j) (by omega)
      obtain ⟨s, d, e, q, k⟩ := ih (0 + j) (by omega) 0 j rfl hi (by omega)
      rw [lev_zero_left] at q
      exact ⟨s, d, e + 1, by rw [lev_zero_left]; omega, by rw [take_at hc]; exact .ins c k⟩
    | i + 1, 0 =>
      obtain ⟨c, hc⟩ := get_lt (l := xs) (i := i) (by omega)
      obtain ⟨s, d, e, q, k⟩ := ih (i + 0) (by omega) i 0 rfl (by omega) hj
      rw [lev_zero_right] at q
      exact ⟨s, d + 1, e, by rw [lev_zero_right]; omega, by rw [take_at hc]; exact .del c k⟩
    | i + 1, j + 1 =>
      obtain ⟨c, hc⟩ := get_lt (l := xs) (i := i) (by omega)
      obtain ⟨b, hb⟩ := get_lt (l := ys) (i := j) (by omega)
      obtain ⟨s1, d1, e1, q1, k1⟩ := ih (i + j) (by omega) i j rfl (by omega) (by omega)
      obtain ⟨s2, d2, e2, q2, k2⟩ := ih (i + (j + 1)) (by omega) i (j + 1) rfl (by omega) hj
      obtain ⟨s3, d3, e3, q3, k3⟩ := ih (i + 1 + j) (by omega) (i + 1) j rfl hi (by omega)
      rw [lev_succ]
      have c3 : min (min (lev xs ys i j + if xs[i]? = ys[j]? then 0 else 1) (lev xs ys i (j + 1) + 1)) (lev xs ys (i + 1) j + 1) = (lev xs ys i j + if xs[i]? = ys[j]? then 0 else 1) ∨
          min (min (lev xs ys i j + if xs[i]? = ys[j]? then 0 else 1) (lev xs ys i (j + 1) + 1)) (lev xs ys (i + 1) j + 1) = lev xs ys i (j + 1) + 1 ∨
          min (min (lev xs ys i j + if xs[i]? = ys[j]? then 0 else 1) (lev xs ys i (j + 1) + 1)) (lev xs ys (i + 1) j + 1) = lev xs ys (i + 1) j + 1 := by omega
      rcases c3 with c3 | c3 | c3 <;> rw [c3]
      · by_cases q : xs[i]? = ys[j]?
        · have cd : b = c := by rw [hc, hb] at q; exact (Option.some.inj q).symm
          subst cd
          rw [if_pos q]
          exact ⟨s1, d1, e1, q1, by rw [take_at hc, take_at hb]; exact .keep b k1⟩
        · rw [if_neg q]
          exact ⟨s1 + 1, d1, e1, by omega, by rw [take_at hc, take_at hb]; exact .sub c b k1⟩
      · exact ⟨s2, d2 + 1, e2, by omega, by rw [take_at hc]; exact .del c k2⟩
      · exact ⟨s3, d3, e3 + 1, by omega, by rw [take_at hb]; exact .ins b k3⟩
/-- two words of one length, less than three steps apart: two places at most, or one lost and one new -/
theorem lev_small {xs ys : List α} (hl : xs.length = ys.length) (h : lev xs ys xs.length ys.length ≤ 2) :
    (∃ s, s ≤ 2 ∧ Ed xs ys s 0 0) ∨ ∃ c : List α, c.Sublist xs ∧ c.Sublist ys ∧ xs.length = c.length + 1 := by
  obtain ⟨s, d, e, q, k⟩ := lev_ed xs ys _ xs.length ys.length rfl (Nat.le_refl _) (Nat.le_refl _)
  rw [List.take_length, List.take_length] at k
  have l := k.lengths
  have de : d = e := by omega
  subst de
  rcases Nat.eq_zero_or_pos d with rfl | hd
  · exact .inl ⟨s, by omega, k⟩
  · have d1 : d = 1 := by omega
    have s0 : s = 0 := by omega
    subst d1 s0
    obtain ⟨c, a, b, l'⟩ := k.common
    exact .inr ⟨c, a, b, by omega⟩
end
end Mine
end
section
open PySem PySem.W PyProof.Rows PySem.Spec
set_option Elab.async false
namespace Mine
def one (b : Bool) : Str := strOf [b]
theorem one_inj {a b : Bool} (h : one a = one b) : a = b := by
  have := strOf_inj h
  simpa using this
theorem signs_strOf (l : List Bool) : signs (strOf l) = l.map one := by
  unfold signs strOf
  simp only [List.map_map]
  rfl
theorem sub_ones {a b : List Bool} : (a.map one).Sublist (b.map one) ↔ a.Sublist b := by
  refine ⟨fun h => ?_, fun h => h.map _⟩
  obtain ⟨l, h1, h2⟩ := List.sublist_map_iff.mp h
  have : a = l := (List.map_inj_right fun x y => one_inj).mp h2
  rw [this]; exact h1
theorem signs_of_sub {r : List Str} {x : Str} (h : r.Sublist (signs x)) : signs (join r) = r := by
  have hr : ∀ e ∈ r, ∃ c, e = (⟨#[c]⟩ : Str) := fun e he => by
    obtain ⟨c, _, rfl⟩ := List.mem_map.mp (h.subset he)
    exact ⟨c, rfl⟩
  clear h
  induction r with
  | nil => rfl
  | cons e r ih =>
    obtain ⟨c, rfl⟩ := hr e List.mem_cons_self
    have := ih fun z hz => hr z (List.mem_cons_of_mem _ hz)
    unfold signs join at this ⊢
    simp only [List.flatMap_cons, List.cons_append, List.nil_append, List.map_cons]
    rw [this]
theorem dyn_right {x y : Str} : dyn x y = y ↔ (signs y).Sublist (signs x) := by
  obtain ⟨r, e, s1, s2, big⟩ := back_whole (signs x) (signs y)
  have e' : dyn x y = join r := by unfold dyn; rw [← e, signs_length, signs_length]
  rw [e']
  refine ⟨fun h => ?_, fun h => ?_⟩
  · rw [← h, signs_of_sub s1]; exact s1
  · have := s2.eq_of_length_le (big _ h (List.Sublist.refl _))
    rw [this, join_signs]
theorem dyn_wleft {x y : Str} : dyn x y = x ↔ (signs x).Sublist (signs y) := by
  obtain ⟨r, e, s1, s2, big⟩ := back_whole (signs x) (signs y)
  have e' : dyn x y = join r := by unfold dyn; rw [← e, signs_length, signs_length]
  rw [e']
  refine ⟨fun h => ?_, fun h => ?_⟩
  · rw [← h, signs_of_sub s1]; exact s2
  · have := s1.eq_of_length_le (big _ (List.Sublist.refl _) h)
    rw [this, join_signs]
theorem fold_sum (p : Int → Prop) [DecidablePred p] : ∀ (ks acc : List Int), (ks.foldl (fun l k => if p k then l ++ [k + 1] else l) acc).sum = acc.sum + (ks.map fun k => if p k then k + 1 else 0).sum
  | [], acc => by simp
  | k :: ks, acc => by
    rw [List.foldl_cons, fold_sum p ks, List.map_cons, List.sum_cons]
    by_cases h : p k
    · rw [if_pos h, if_pos h, List.sum_append]; simp; omega
    · rw [if_neg h, if_neg h]; omega
theorem item_strOf {l : List Bool} {k : Nat} {c : Bool} (h : l[k]? = some c) : Txt.item (strOf l) (k : Int) = one c := by
  obtain ⟨hk, e⟩ := List.getElem?_eq_some_iff.mp h
  rw [item_code (x := strOf l) (k := k) (by rw [strOf_length]; exact hk)]
  show (⟨#[_]⟩ : Str) = ⟨#[_]⟩
  congr 2
  simp [strOf, e]
theorem one_b (c : Bool) : (one c = Str.ofString "b") ↔ c = true := by
  cases c <;> simp only [one] <;> decide +kernel
theorem lawSum_strOf (l : List Bool) : lawSum (strOf l) = (vt l : Int) := by
  unfold lawSum
  rw [fold_sum, strOf_length]
  have key : ∀ n, n ≤ l.length → ((rangeKs 0 n).map fun k => if Txt.item (strOf l) k = Str.ofString "b" then k + 1 else 0).sum = (vt (l.take n) : Int) := by
    intro n
    induction n with
    | zero => intro _; simp [rangeKs, vt, vtAt]
    | succ n ih =>
      intro hn
      obtain ⟨c, hc⟩ := get_lt (l := l) (i := n) (by omega)
      have er : rangeKs 0 (n + 1) = rangeKs 0 n ++ [(n : Int)] := by unfold rangeKs; rw [List.range_succ, List.map_append]; simp
      rw [er, List.map_append, List.sum_append, ih (by omega), take_at hc, vt_snoc, List.length_take, Nat.min_eq_left (by omega)]
      simp only [List.map_cons, List.map_nil, List.sum_cons, List.sum_nil]
      rw [item_strOf hc]
      cases c with
      | true => rw [if_pos ((one_b true).mpr rfl)]; simp
      | false => rw [if_neg (fun q => Bool.false_ne_true ((one_b false).mp q))]; simp
  have := key l.length (Nat.le_refl _)
  rw [List.take_length] at this
  rw [← this]
  simp
theorem bits_succ (n m : Nat) : bits (n + 1) m = (m % 2 == 1) :: bits n (m / 2) := by
  unfold bits
  rw [List.range_succ_eq_map, List.map_cons, List.map_map]
  simp only [Nat.pow_zero, Nat.div_one]
  congr 1
  refine List.map_congr_left fun k _ => ?_
  show (m / 2 ^ (k + 1) % 2 == 1) = _
  rw [Nat.pow_succ, Nat.mul_comm, ← Nat.div_div_eq_div_mul]
theorem bits_all : ∀ (n : Nat) (l : List Bool), l.length = n → ∃ m, m < 2 ^ n ∧ bits n m = l
  | 0, l, h => ⟨0, by simp, by rw [List.length_eq_zero_iff.mp h]; rfl⟩
  | n + 1, [], h => by simp at h
  | n + 1, b :: l, h => by
    obtain ⟨m, hm, e⟩ := bits_all n l (by simpa using h)
    refine ⟨2 * m + (if b then 1 else 0), by rw [Nat.pow_succ]; split <;> omega, ?_⟩
    rw [bits_succ]
    have e1 : (2 * m + if b = true then 1 else 0) / 2 = m := by split <;> omega
    have e2 : ((2 * m + if b = true then 1 else 0) % 2 == 1) = b := by cases b <;> simp <;> omega
    rw [e1, e2, e]
theorem bits_inj : ∀ (n m m' : Nat), m < 2 ^ n → m' < 2 ^ n → bits n m = bits n m' → m = m'
  | 0, m, m', h, h', _ => by simp at h h'; omega
  | n + 1, m, m', h, h', e => by
    rw [bits_succ, bits_succ] at e
    injection e with e1 e2
    have := bits_inj n (m / 2) (m' / 2) (by rw [Nat.pow_succ] at h; omega) (by rw [Nat.pow_succ] at h'; omega) e2
    have q : m % 2 = m' % 2 := by
      rcases Nat.mod_two_eq_zero_or_one m with a | a <;> rcases Nat.mod_two_eq_zero_or_one m' with b | b <;> rw [a, b] at e1 <;> first | omega | (exact absurd e1 (by decide))
    omega
theorem words_mem {n : Nat} {l : List Bool} (h : l.length = n) : strOf l ∈ wordsOf n := by
  obtain ⟨m, hm, e⟩ := bits_all n l h
  exact List.mem_map.mpr ⟨m, List.mem_range.mpr hm, by rw [e]⟩
theorem words_of {n : Nat} {u : Str} (h : u ∈ wordsOf n) : ∃ l : List Bool, l.length = n ∧ u = strOf l := by
  obtain ⟨m, _, rfl⟩ := List.mem_map.mp h
  exact ⟨_, bits_length n m, rfl⟩
theorem words_nodup (n : Nat) : (wordsOf n).Nodup := by
  unfold wordsOf
  rw [List.Nodup, List.pairwise_map]
  refine List.Pairwise.imp_of_mem (fun {a b} ha hb hne q => ?_) List.nodup_range
  exact hne (bits_inj n a b (List.mem_range.mp ha) (List.mem_range.mp hb) (strOf_inj q))
theorem filter_one {α : Type} [DecidableEq α] {p : α → Bool} {a : α} : ∀ {l : List α}, l.Nodup → a ∈ l → (∀ x ∈ l, p x = true ↔ x = a) → l.filter p = [a]
  | [], _, h, _ => by cases h
  | x :: l, hn, hm, hp => by
    have hn' := List.nodup_cons.mp hn
    by_cases q : x = a
    · subst q
      rw [List.filter_cons_of_pos ((hp x List.mem_cons_self).mpr rfl)]
      have : l.filter p = [] := List.filter_eq_nil_iff.mpr fun y hy py => hn'.1 (((hp y (List.mem_cons_of_mem _ hy)).mp py) ▸ hy)
      rw [this]
    · rw [List.filter_cons_of_neg (fun h => q ((hp x List.mem_cons_self).mp h))]
      refine filter_one hn'.2 ?_ fun y hy => hp y (List.mem_cons_of_mem _ hy)
      rcases List.mem_cons.mp hm with h | h
      · exact absurd h.symm q
      · exact h
theorem fmod_zero {a : Int} {n : Nat} (h : (Int.fmod a (n : Int) == 0) = true) : a % (n : Int) = 0 := by
  have := eq_of_beq h
  rwa [Int.fmod_eq_emod_of_nonneg _ (Int.natCast_nonneg _)] at this
theorem near_iff {n : Nat} {l : List Bool} {u : Str} (h1 : 1 ≤ n) (h6 : n ≤ 6) (hl : l.length = n) (hu : u ∈ nearOf n (strOf l)) : ∃ x : List Bool, x.length = n ∧ u = strOf x ∧ ((vt x : Int) - vt l) % ((n : Int) + 1) = 0 := by
  obtain ⟨h1, h2⟩ := List.mem_filter.mp hu
  obtain ⟨x, hx, rfl⟩ := words_of h1
  rw [lawSum_strOf, lawSum_strOf] at h2
  exact ⟨x, hx, rfl, by have := fmod_zero (n := n + 1) (by simpa using h2); simpa using this⟩
theorem near_self {n : Nat} {l : List Bool} (hl : l.length = n) : strOf l ∈ nearOf n (strOf l) := by
  refine List.mem_filter.mpr ⟨words_mem hl, ?_⟩
  rw [Int.sub_self, Int.zero_fmod]; rfl
theorem near_nodup {n : Nat} {w : Str} : (nearOf n w).Nodup := (words_nodup n).sublist List.filter_sublist
theorem plain_short {n : Nat} {word short wide : Str} (h : Drawn n word short wide) : (nearOf n word).filter (fun u => dyn u short == short) = [word] := by
  obtain ⟨l, i, j, b, hl, hi, hj, rfl, rfl, rfl⟩ := h.ex
  obtain ⟨c, hc⟩ := get_lt (l := l) (i := i) (by omega)
  have el : l = l.take i ++ c :: l.drop (i + 1) := by
    obtain ⟨hlt, e⟩ := List.getElem?_eq_some_iff.mp hc
    rw [← e, ← List.drop_eq_getElem_cons hlt, List.take_append_drop]
  have dl : Del l (l.take i ++ l.drop (i + 1)) := ⟨_, c, _, el, rfl⟩
  refine filter_one near_nodup (near_self hl) fun u hu => ?_
  obtain ⟨x, hx, rfl, hv⟩ := near_iff h.n1 h.n6 hl hu
  rw [beq_iff_eq, dyn_right, signs_strOf, signs_strOf, sub_ones]
  refine ⟨fun q => ?_, fun q => ?_⟩
  · have dx := del_of_sub q (by have := del_length dl; omega)
    rw [del_near h.n1 h.n6 hx hl dx dl hv]
  · rw [strOf_inj q]; exact sub_of_del dl
theorem plain_wide {n : Nat} {word short wide : Str} (h : Drawn n word short wide) : (nearOf n word).filter (fun u => dyn u wide == u) = [word] := by
  obtain ⟨l, i, j, b, hl, hi, hj, rfl, rfl, rfl⟩ := h.ex
  have dl : Del (l.take j ++ b :: l.drop j) l := ⟨_, b, _, rfl, (List.take_append_drop j l).symm⟩
  refine filter_one near_nodup (near_self hl) fun u hu => ?_
  obtain ⟨x, hx, rfl, hv⟩ := near_iff h.n1 h.n6 hl hu
  rw [beq_iff_eq, dyn_wleft, signs_strOf, signs_strOf, sub_ones]
  refine ⟨fun q => ?_, fun q => ?_⟩
  · have dx := del_of_sub q (by have := del_length dl; omega)
    rcases del_meet dx dl with e | ⟨s, ds, ds'⟩
    · rw [e]
    · rw [del_near h.n1 h.n6 hx hl ds ds' hv]
  · rw [strOf_inj q]; exact sub_of_del dl
theorem lev_map (x y : List Bool) : ∀ n i j, i + j = n → lev (x.map one) (y.map one) i j = lev x y i j := by
  intro n
  induction n using Nat.strongRecOn with
  | _ n ih =>
    intro i j hn
    match i, j with
    | 0, j => rw [lev_zero_left, lev_zero_left]
    | i + 1, 0 => rw [lev_zero_right, lev_zero_right]
    | i + 1, j + 1 =>
      rw [lev_succ, lev_succ, ih (i + j) (by omega) i j rfl, ih (i + (j + 1)) (by omega) i (j + 1) rfl, ih (i + 1 + j) (by omega) (i + 1) j rfl]
      have e : ((x.map one)[i]? = (y.map one)[j]?) ↔ (x[i]? = y[j]?) := by
        rw [List.getElem?_map, List.getElem?_map]
        cases x[i]? <;> cases y[j]? <;> simp
        exact ⟨one_inj, fun h => by rw [h]⟩
      by_cases q : x[i]? = y[j]?
      · rw [if_pos q, if_pos (e.mpr q)]
      · rw [if_neg q, if_neg (fun h => q (e.mp h))]
theorem ed_mis {x y : List Bool} {s d e : Nat} (h : Ed x y s d e) : d = 0 → e = 0 → mis x y x.length ≤ s := by
  induction h with
  | nil => intro _ _; simp [mis]
  | @keep x y s d e c h ih =>
    intro h1 h2
    have l := h.lengths
    have k := ih h1 h2
    rw [List.length_append, List.length_singleton]
    simp only [mis]
    rw [mis_prefix _ (Nat.le_refl _) (by omega)]
    have e1 : (x ++ [c])[x.length]? = some c := by simp
    have e2 : (y ++ [c])[x.length]? = some c := by rw [show x.length = y.length by omega]; simp
    rw [e1, e2, if_pos rfl]; omega
  | @sub x y s d e a b h ih =>
    intro h1 h2
    have l := h.lengths
    have k := ih h1 h2
    rw [List.length_append, List.length_singleton]
    simp only [mis]
    rw [mis_prefix _ (Nat.le_refl _) (by omega)]
    split <;> omega
  | del a h ih => intro h1 _; omega
  | ins b h ih => intro _ h2; omega
theorem hamD_strOf {x y : List Bool} : hamD (strOf x) (strOf y) = (mis x y x.length : Int) := by
  unfold hamD
  rw [strOf_length, signs_strOf, signs_strOf]
  generalize x.length = k
  induction k with
  | zero => rfl
  | succ k ih =>
    simp only [preSum, mis, ih]
    have e : ((x.map one)[k]? = (y.map one)[k]?) ↔ (x[k]? = y[k]?) := by
      rw [List.getElem?_map, List.getElem?_map]
      cases x[k]? <;> cases y[k]? <;> simp
      exact ⟨one_inj, fun h => by rw [h]⟩
    by_cases q : x[k]? = y[k]?
    · rw [if_pos q, if_pos (e.mpr q)]; simp
    · rw [if_neg q, if_neg (fun h => q (e.mp h))]; simp
theorem plain_far {n : Nat} {word short wide : Str} (h : Drawn n word short wide) : ∀ u ∈ farOf n word, 3 ≤ levD word u ∧ 3 ≤ hamD word u := by
  obtain ⟨l, i, j, b, hl, hi, hj, rfl, rfl, rfl⟩ := h.ex
  intro u hu
  obtain ⟨h1, h2⟩ := List.mem_filter.mp hu
  obtain ⟨x, hx, rfl⟩ := words_of h1
  obtain ⟨h3, h4⟩ := Bool.and_eq_true_iff.mp h2
  have hne : l ≠ x := fun q => by subst q; simp at h3
  rw [lawSum_strOf, lawSum_strOf] at h4
  have hv : ((vt x : Int) - vt l) % (2 * (n : Int)) = 0 := by
    have := fmod_zero (n := 2 * n) (by simpa using h4)
    simpa using this
  have hv' : ((vt l : Int) - vt x) % (2 * (n : Int)) = 0 := by
    have q : ((vt l : Int) - vt x) = -((vt x : Int) - vt l) := by omega
    rw [q]
    exact Int.emod_eq_zero_of_dvd (Int.dvd_neg.mpr (Int.dvd_of_emod_eq_zero hv))
  have hm := far_mis h.n1 h.n6 hl hx hne hv'
  refine ⟨?_, by rw [hamD_strOf, hl]; exact_mod_cast hm⟩
  unfold levD
  rw [signs_strOf, signs_strOf, strOf_length, strOf_length, lev_map l x _ _ _ rfl]
  have : ¬ lev l x l.length x.length ≤ 2 := fun q => by
    rcases lev_small (by omega) q with ⟨s, hs, k⟩ | ⟨c, a, d, k⟩
    · have := ed_mis k rfl rfl
      rw [hl] at this
      omega
    · exact hne (del_far h.n1 h.n6 hl hx (del_of_sub a k) (del_of_sub d (by omega)) hv')
  omega
end Mine
end
section
open PySem PySem.W PyProof.Rows
set_option Elab.async false
set_option hygiene false
namespace Mine
abbrev cells (L : Nat) (c8 ot od os ow on : Obj) (rest : Led) : Led := (L + 1 + 1 + 1 + 1 + 1 + 1 + 1 + 1, c8) :: (L + 1 + 1 + 1 + 1 + 1 + 1 + 1, ot) :: (L + 1 + 1 + 1 + 1 + 1 + 1, od) :: (L + 1 + 1 + 1 + 1 + 1, os) :: (L + 1 + 1 + 1 + 1, ow) :: (L + 1 + 1 + 1, on) :: rest
abbrev textOf (u : Str) (y : Value) : Prop := ∃ t, y = .str u t
/-- the end of a turn that keeps its text -/
theorem other_end {prog : Program} {w : World} {A : Around} {h₀ : Heap} {L : Addr} {m m₂ : Str → Option Value} {s : Shared} {scope : Scope} {cl : List (Str × Addr)} {C : Addr} {oC : Obj} {env : Env} {fix all : Led} {led : Array Value → Led} {u : Str} {t : Tok} {b : Bool} {E' : Value → Shared → Prop} {pos : Pos} {h' : Heap} {tk' : Nat} {gs' : Array GenState} {ps : Array Value}
    (F : Fr h₀ L h' m) (N : News h₀ L h' all) (hC : LCg.NsObj oC m₂) (hm : m₂ (Str.ofString "other") = some (.str u t)) (mC : (C, oC) ∈ all) (sub : ∀ p ∈ fix ++ led ps, p ∈ all) (ht : TriplesOk ps.toList) (hb : AllBare gs')
    (hk : (compEnvC scope cl C env).scope.kind = .function) (hl : (compEnvC scope cl C env).kindOf (Str.ofString "other") = some .local) :
    b = b ∧ if b = true then wpAny (model prog w) A (eval (PySem.Expr.Name (Str.ofString "other") pos) (compEnvC scope cl C env)) (fun y s₂ => textOf u y ∧ EndL h₀ L m s fix led s₂) E' { s with heap := h', toks := tk', gens := gs' } else EndL h₀ L m s fix led { s with heap := h', toks := tk', gens := gs' } := by
  refine ⟨rfl, ?_⟩
  split
  · exact LCgL.ld_own (s := { s with heap := h', toks := tk', gens := gs' }) N mC hC hm ⟨⟨t, rfl⟩, EndL.intro ps ht hb F N sub⟩ hk hl
  · exact EndL.intro ps ht hb F N sub
theorem map_fst_led {Ds : Led} {L : Nat} {c8 ot od os ow on : Obj} : ∀ ps ps' : Array Value, (Ds ++ cells L c8 ot od os ow on [(244, tabObj ps')]).map (·.1) = (Ds ++ cells L c8 ot od os ow on [(244, tabObj ps)]).map (·.1) := fun _ _ => by
  rw [List.map_append, List.map_append]; rfl
theorem words_count {n : Nat} (h : n ≤ 6) {q : Str → Bool} : ((wordsOf n).filter q).length ≤ sizeLine := by
  refine Nat.le_trans (List.length_filter_le _ _) ?_
  unfold wordsOf
  rw [List.length_map, List.length_range, PySem.sizeLine_eq]
  exact Nat.le_trans (Nat.pow_le_pow_right (by decide) h) (by decide)
set_option maxRecDepth 100000 in
theorem near_srcT {Q : Addr → Shared → Prop} {mQ : Addr → Str → Option Value} {p0 p1 p2 p3 p4 p5 p6 p7 p8 p9 p10 p11 : Pos} {k0 k1 : Nat} (w : World) (n : Nat) (word : Str) (tn tw tt : Tok) (hn1 : 1 ≤ n) (hn6 : n ≤ 6) (D5 : Addr) (ys5 : List Value) (Ds : Led) (c8 ot od os ow on : Obj) (ps : Array Value) (mean : ExcName → Option Value) (mg mb : Str → Option Value) (dp un : Nat) (gd : Option (List Code)) (cn : Str) (a : Addr) (ccd : Value) (cl : List (Str × Addr)) (outer : List Env) (A₀ : Around) (base h₀ : Heap) (L : Nat) (m : Str → Option Value) (s : Shared) (B : Below A₀ base outer h₀) (F : Fr h₀ L s.heap m) (X : Frag.In (hd.heap_39 w.params) h₀) (T : TopH mean mg mb h₀) (hd : dp + 40 < recursionLimit) (hu' : un + 200 < cLine)
    (hD5 : (D5, LCg.lst ys5) ∈ Ds) (N : News h₀ L s.heap (Ds ++ cells L c8 ot od os ow on [(244, tabObj ps)])) (hys : StrsAre ys5 (wordsOf n)) (dn9 : on.data = .cell (some (.int (n : Int) tn))) (dw9 : ow.data = .cell (some (.str word tw))) (dt9 : ot.data = .cell (some (.int (lawSum word) tt))) (ht : TriplesOk ps.toList) (hb : AllBare s.gens)
    (fin : ∀ D h tk gs ps ys, TriplesOk ps.toList → AllBare gs → Fr h₀ L h (mQ D) → News h₀ L h ((D, LCg.lst ys) :: (Ds ++ cells L c8 ot od os ow on [(244, tabObj ps)])) → AllLt D (Ds ++ cells L c8 ot od os ow on [(244, tabObj ps)]) → OutAre textOf (nearOf n word) ys → Q D { s with heap := h, toks := tk, gens := gs }) :
    SrcT PySem.Challenge.pw_fq5042_01 w (ktrTop dp un gd cn lawScope L a ccd cl outer) h₀ L m (envX cn lawScope L a ccd cl) [(PySem.Expr.Compare (PySem.Expr.BinOp (PySem.Expr.BinOp (PySem.Expr.Call (PySem.Expr.Name (Str.ofString "_law_sum") p1) [PySem.Expr.Name (Str.ofString "other") p2] [] p3) .Sub (PySem.Expr.Name (Str.ofString "total") p4) p5) .Mod (PySem.Expr.BinOp (PySem.Expr.Name (Str.ofString "n") p6) .Add (PySem.Expr.Constant (.int 1) k0 p7) p8) p9) [CmpOp.Eq] [PySem.Expr.Constant (.int 0) k1 p10] p11)] (PySem.Expr.Name (Str.ofString "other") p0) (Str.ofString "other") scNear [(Str.ofString "total", L + 1 + 1 + 1 + 1 + 1 + 1 + 1), (Str.ofString "n", L + 1 + 1 + 1)] Q mQ (.ref D5) s := by
  refine ⟨D5, ys5, _, wordsOf n, fun ps => Ds ++ cells L c8 ot od os ow on [(244, tabObj ps)], textOf, fun u => Int.fmod (lawSum u - lawSum word) ((n : Int) + 1) == 0, ps, rfl, rfl, F, ht, hb, N, hys, ?hsz, fun _ => List.mem_append_left _ hD5, map_fst_led, ?turn, fin⟩
  case hsz => exact Nat.le_trans (Nat.le_of_eq (by rw [List.filter_eq_self.mpr fun _ _ => rfl])) (words_count hn6 (q := fun _ => true))
  case turn =>
    intro u t I oI C oC D ys m₂ h tk gs ps E' hu ht' hb' hC hm F' N' lI lD lC
    have hul := words_length hu
    refine wpAny_tests_one ?_
    refine near_turn w ((I, oI) :: (C, oC) :: (D, LCg.lst ys) :: (Ds ++ cells L c8 ot od os ow on [(244, tabObj ps)])) u t tn tt (n : Int) (lawSum word) p1 p2 p3 p4 p5 p6 p7 p8 p9 p10 p11 k0 k1 C (L + 1 + 1 + 1) (L + 1 + 1 + 1 + 1 + 1 + 1 + 1) oC on ot m₂ hC hm dn9 dt9 (by omega) (by omega) (by omega) mean mg mb dp un gd cn a ccd cl outer A₀ base h₀ L m _ _ _ B F' X (cb_drop N' (by kcf_all)) T (by omega) (by omega) fun h9 tk9 F9 N9 => ?_
    exact other_end (s := s) (gs' := gs) (ps := ps) F9 N9 hC hm (by kcf_m) (fun p hp => by kcf_m) ht' hb' rfl rfl
set_option maxRecDepth 100000 in
theorem far_srcT {Q : Addr → Shared → Prop} {mQ : Addr → Str → Option Value} {p0 p1 p2 p3 p4 p5 p6 p7 p8 p9 p10 p11 p12 p13 p14 p15 : Pos} {k0 k1 : Nat} (w : World) (n : Nat) (word : Str) (tn tw tt : Tok) (hn1 : 1 ≤ n) (hn6 : n ≤ 6) (D5 : Addr) (ys5 : List Value) (Ds : Led) (c8 ot od os ow on : Obj) (ps : Array Value) (mean : ExcName → Option Value) (mg mb : Str → Option Value) (dp un : Nat) (gd : Option (List Code)) (cn : Str) (a : Addr) (ccd : Value) (cl : List (Str × Addr)) (outer : List Env) (A₀ : Around) (base h₀ : Heap) (L : Nat) (m : Str → Option Value) (s : Shared) (B : Below A₀ base outer h₀) (F : Fr h₀ L s.heap m) (X : Frag.In (hd.heap_39 w.params) h₀) (T : TopH mean mg mb h₀) (hd : dp + 40 < recursionLimit) (hu' : un + 200 < cLine)
    (hD5 : (D5, LCg.lst ys5) ∈ Ds) (N : News h₀ L s.heap (Ds ++ cells L c8 ot od os ow on [(244, tabObj ps)])) (hys : StrsAre ys5 (wordsOf n)) (dn9 : on.data = .cell (some (.int (n : Int) tn))) (dw9 : ow.data = .cell (some (.str word tw))) (dt9 : ot.data = .cell (some (.int (lawSum word) tt))) (ht : TriplesOk ps.toList) (hb : AllBare s.gens)
    (fin : ∀ D h tk gs ps ys, TriplesOk ps.toList → AllBare gs → Fr h₀ L h (mQ D) → News h₀ L h ((D, LCg.lst ys) :: (Ds ++ cells L c8 ot od os ow on [(244, tabObj ps)])) → AllLt D (Ds ++ cells L c8 ot od os ow on [(244, tabObj ps)]) → OutAre textOf (farOf n word) ys → Q D { s with heap := h, toks := tk, gens := gs }) :
    SrcT PySem.Challenge.pw_fq5042_01 w (ktrTop dp un gd cn lawScope L a ccd cl outer) h₀ L m (envX cn lawScope L a ccd cl) [(PySem.Expr.BoolOp BoolOp.And [PySem.Expr.Compare (PySem.Expr.Name (Str.ofString "other") p12) [CmpOp.NotEq] [PySem.Expr.Name (Str.ofString "word") p13] p14, PySem.Expr.Compare (PySem.Expr.BinOp (PySem.Expr.BinOp (PySem.Expr.Call (PySem.Expr.Name (Str.ofString "_law_sum") p1) [PySem.Expr.Name (Str.ofString "other") p2] [] p3) .Sub (PySem.Expr.Name (Str.ofString "total") p4) p5) .Mod (PySem.Expr.BinOp (PySem.Expr.Constant (.int 2) k0 p7) .Mult (PySem.Expr.Name (Str.ofString "n") p6) p8) p9) [CmpOp.Eq] [PySem.Expr.Constant (.int 0) k1 p10] p11] p15)] (PySem.Expr.Name (Str.ofString "other") p0) (Str.ofString "other") scFar [(Str.ofString "word", L + 1 + 1 + 1 + 1), (Str.ofString "total", L + 1 + 1 + 1 + 1 + 1 + 1 + 1), (Str.ofString "n", L + 1 + 1 + 1)] Q mQ (.ref D5) s := by
  refine ⟨D5, ys5, _, wordsOf n, fun ps => Ds ++ cells L c8 ot od os ow on [(244, tabObj ps)], textOf, fun u => !(u == word) && Int.fmod (lawSum u - lawSum word) (2 * (n : Int)) == 0, ps, rfl, rfl, F, ht, hb, N, hys, ?hsz, fun _ => List.mem_append_left _ hD5, map_fst_led, ?turn, fin⟩
  case hsz => exact Nat.le_trans (Nat.le_of_eq (by rw [List.filter_eq_self.mpr fun _ _ => rfl])) (words_count hn6 (q := fun _ => true))
  case turn =>
    intro u t I oI C oC D ys m₂ h tk gs ps E' hu ht' hb' hC hm F' N' lI lD lC
    have hul := words_length hu
    refine wpAny_tests_one ?_
    refine far_turn w ((I, oI) :: (C, oC) :: (D, LCg.lst ys) :: (Ds ++ cells L c8 ot od os ow on [(244, tabObj ps)])) u t tn tt (n : Int) (lawSum word) p1 p2 p3 p4 p5 p6 p7 p8 p9 p10 p11 p12 p13 p14 p15 k0 k1 C (L + 1 + 1 + 1) (L + 1 + 1 + 1 + 1) (L + 1 + 1 + 1 + 1 + 1 + 1 + 1) oC on ow ot word tw m₂ hC hm dn9 dw9 dt9 (by omega) (by omega) (by omega) mean mg mb dp un gd cn a ccd cl outer A₀ base h₀ L m _ _ _ B F' X (cb_drop N' (by kcf_all)) T (by omega) (by omega) fun h9 tk9 F9 N9 => ?_
    exact other_end (s := s) (gs' := gs) (ps := ps) F9 N9 hC hm (by kcf_m) (fun p hp => by kcf_m) ht' hb' rfl rfl
end Mine
end
section
open PySem PySem.W PyProof.Rows
set_option Elab.async false
set_option hygiene false
namespace Mine
set_option maxRecDepth 100000 in
theorem short_srcT {Q : Addr → Shared → Prop} {mQ : Addr → Str → Option Value} {p0 : Pos} (w : World) (n : Nat) (word v : Str) (tv t1 t2 t3 t4 : Tok) (hn6 : n ≤ 6) (hv : v.length ≤ 8) (Dn ob dx : Addr) (yn : List Value) (Ds : Led) (c8 ot od os ow on : Obj) (ps : Array Value) (mean : ExcName → Option Value) (mg mb : Str → Option Value) (dp un : Nat) (gd : Option (List Code)) (cn : Str) (a : Addr) (ccd : Value) (cl : List (Str × Addr)) (outer : List Env) (A₀ : Around) (base h₀ : Heap) (L : Nat) (m : Str → Option Value) (s : Shared) (B : Below A₀ base outer h₀) (F : Fr h₀ L s.heap m) (X : Frag.In (hd.heap_39 w.params) h₀) (T : TopH mean mg mb h₀) (hd : dp + 40 < recursionLimit) (hu' : un + 200 < cLine)
    (hDn : (Dn, LCg.lst yn) ∈ Ds) (hob : ∀ p ∈ obj3 w 225 ob dx t1 t2 t3 t4 [], p ∈ Ds) (N : News h₀ L s.heap (Ds ++ cells L c8 ot od os ow on [(244, tabObj ps)])) (hyn : StrsAre yn (nearOf n word)) (d8 : c8.data = .cell (some (.ref ob))) (dv : os.data = .cell (some (.str v tv))) (ht : TriplesOk ps.toList) (hb : AllBare s.gens)
    (fin : ∀ D h tk gs ps ys, TriplesOk ps.toList → AllBare gs → Fr h₀ L h (mQ D) → News h₀ L h ((D, LCg.lst ys) :: (Ds ++ cells L c8 ot od os ow on [(244, tabObj ps)])) → AllLt D (Ds ++ cells L c8 ot od os ow on [(244, tabObj ps)]) → OutAre textOf ((nearOf n word).filter fun u => dyn u v == v) ys → Q D { s with heap := h, toks := tk, gens := gs }) :
    SrcT PySem.Challenge.pw_fq5042_01 w (ktrTop dp un gd cn lawScope L a ccd cl outer) h₀ L m (envX cn lawScope L a ccd cl) [(PySem.Expr.Compare (PySem.Expr.Call (PySem.Expr.Attribute (PySem.Expr.Name (Str.ofString "plain") ⟨219, 35, 219, 40⟩) (Str.ofString "_dynamic") ⟨219, 35, 219, 49⟩) [PySem.Expr.Name (Str.ofString "other") ⟨219, 50, 219, 55⟩, PySem.Expr.Name (Str.ofString "short") ⟨219, 57, 219, 62⟩] [] ⟨219, 35, 219, 63⟩) [CmpOp.Eq] [PySem.Expr.Name (Str.ofString "short") ⟨219, 67, 219, 72⟩] ⟨219, 35, 219, 72⟩)] (PySem.Expr.Name (Str.ofString "other") p0) (Str.ofString "other") scShort [(Str.ofString "short", L + 1 + 1 + 1 + 1 + 1), (Str.ofString "plain", L + 1 + 1 + 1 + 1 + 1 + 1 + 1 + 1)] Q mQ (.ref Dn) s := by
  refine ⟨Dn, yn, _, nearOf n word, fun ps => (Ds ++ cells L c8 ot od os ow on [(244, tabObj ps)]), textOf, fun u => dyn u v == v, ps, rfl, rfl, F, ht, hb, N, hyn, words_count hn6, fun _ => List.mem_append_left _ hDn, map_fst_led, ?turn, fin⟩
  intro u t I oI C oC D ys m₂ h tk gs ps E' hu ht' hb' hC hm F' N' lI lD lC
  have hul := words_length (List.mem_filter.mp hu).1
  refine wpAny_tests_one ?_
  have o1 : (ob, instObj 225 dx) ∈ Ds := hob _ List.mem_cons_self
  have o2 := hob _ (List.mem_cons_of_mem _ List.mem_cons_self)
  refine short_turn w ((I, oI) :: (C, oC) :: (D, LCg.lst ys) :: (Ds ++ cells L c8 ot od os ow on [(244, tabObj ps)])) u v t tv C (L + 1 + 1 + 1 + 1 + 1) (L + 1 + 1 + 1 + 1 + 1 + 1 + 1 + 1) ob dx oC os c8 t1 t2 t3 t4 m₂ hC hm dv d8 (by omega) hv mean mg mb dp un gd cn a ccd cl outer A₀ base h₀ L m _ _ _ B F' X (cb_drop N' (by kcf_all)) T (by omega) (by omega) fun h9 tk9 F9 N9 => ?_
  exact other_end (s := s) (gs' := gs) (ps := ps) F9 N9 hC hm (by kcf_m) (fun p hp => by kcf_m) ht' hb' rfl rfl
set_option maxRecDepth 100000 in
theorem wide_srcT {Q : Addr → Shared → Prop} {mQ : Addr → Str → Option Value} {p0 : Pos} (w : World) (n : Nat) (word v : Str) (tv t1 t2 t3 t4 : Tok) (hn6 : n ≤ 6) (hv : v.length ≤ 8) (Dn ob dx : Addr) (yn : List Value) (Ds : Led) (c8 ot od os ow on : Obj) (ps : Array Value) (mean : ExcName → Option Value) (mg mb : Str → Option Value) (dp un : Nat) (gd : Option (List Code)) (cn : Str) (a : Addr) (ccd : Value) (cl : List (Str × Addr)) (outer : List Env) (A₀ : Around) (base h₀ : Heap) (L : Nat) (m : Str → Option Value) (s : Shared) (B : Below A₀ base outer h₀) (F : Fr h₀ L s.heap m) (X : Frag.In (hd.heap_39 w.params) h₀) (T : TopH mean mg mb h₀) (hd : dp + 40 < recursionLimit) (hu' : un + 200 < cLine)
    (hDn : (Dn, LCg.lst yn) ∈ Ds) (hob : ∀ p ∈ obj3 w 225 ob dx t1 t2 t3 t4 [], p ∈ Ds) (N : News h₀ L s.heap (Ds ++ cells L c8 ot od os ow on [(244, tabObj ps)])) (hyn : StrsAre yn (nearOf n word)) (d8 : c8.data = .cell (some (.ref ob))) (dv : od.data = .cell (some (.str v tv))) (ht : TriplesOk ps.toList) (hb : AllBare s.gens)
    (fin : ∀ D h tk gs ps ys, TriplesOk ps.toList → AllBare gs → Fr h₀ L h (mQ D) → News h₀ L h ((D, LCg.lst ys) :: (Ds ++ cells L c8 ot od os ow on [(244, tabObj ps)])) → AllLt D (Ds ++ cells L c8 ot od os ow on [(244, tabObj ps)]) → OutAre textOf ((nearOf n word).filter fun u => dyn u v == u) ys → Q D { s with heap := h, toks := tk, gens := gs }) :
    SrcT PySem.Challenge.pw_fq5042_01 w (ktrTop dp un gd cn lawScope L a ccd cl outer) h₀ L m (envX cn lawScope L a ccd cl) [(PySem.Expr.Compare (PySem.Expr.Call (PySem.Expr.Attribute (PySem.Expr.Name (Str.ofString "plain") ⟨221, 35, 221, 40⟩) (Str.ofString "_dynamic") ⟨221, 35, 221, 49⟩) [PySem.Expr.Name (Str.ofString "other") ⟨221, 50, 221, 55⟩, PySem.Expr.Name (Str.ofString "wide") ⟨221, 57, 221, 61⟩] [] ⟨221, 35, 221, 62⟩) [CmpOp.Eq] [PySem.Expr.Name (Str.ofString "other") ⟨221, 66, 221, 71⟩] ⟨221, 35, 221, 71⟩)] (PySem.Expr.Name (Str.ofString "other") p0) (Str.ofString "other") scWide [(Str.ofString "wide", L + 1 + 1 + 1 + 1 + 1 + 1), (Str.ofString "plain", L + 1 + 1 + 1 + 1 + 1 + 1 + 1 + 1)] Q mQ (.ref Dn) s := by
  refine ⟨Dn, yn, _, nearOf n word, fun ps => (Ds ++ cells L c8 ot od os ow on [(244, tabObj ps)]), textOf, fun u => dyn u v == u, ps, rfl, rfl, F, ht, hb, N, hyn, words_count hn6, fun _ => List.mem_append_left _ hDn, map_fst_led, ?turn, fin⟩
  intro u t I oI C oC D ys m₂ h tk gs ps E' hu ht' hb' hC hm F' N' lI lD lC
  have hul := words_length (List.mem_filter.mp hu).1
  refine wpAny_tests_one ?_
  have o1 : (ob, instObj 225 dx) ∈ Ds := hob _ List.mem_cons_self
  have o2 := hob _ (List.mem_cons_of_mem _ List.mem_cons_self)
  refine wide_turn w ((I, oI) :: (C, oC) :: (D, LCg.lst ys) :: (Ds ++ cells L c8 ot od os ow on [(244, tabObj ps)])) u v t tv C (L + 1 + 1 + 1 + 1 + 1 + 1) (L + 1 + 1 + 1 + 1 + 1 + 1 + 1 + 1) ob dx oC od c8 t1 t2 t3 t4 m₂ hC hm dv d8 (by omega) hv mean mg mb dp un gd cn a ccd cl outer A₀ base h₀ L m _ _ _ B F' X (cb_drop N' (by kcf_all)) T (by omega) (by omega) fun h9 tk9 F9 N9 => ?_
  exact other_end (s := s) (gs' := gs) (ps := ps) F9 N9 hC hm (by kcf_m) (fun p hp => by kcf_m) ht' hb' rfl rfl
abbrev pairOf (word u : Str) (y : Value) : Prop := y = .bool (decide (levD word u ≥ 3) && decide (hamD word u ≥ 3))
set_option maxRecDepth 100000 in
theorem last_srcT {Q : Addr → Shared → Prop} {mQ : Addr → Str → Option Value} (w : World) (n : Nat) (word : Str) (tw : Tok) (hn1 : 1 ≤ n) (hn6 : n ≤ 6) (hwl : word.length = n) (Df : Addr) (yf : List Value) (Ds : Led) (c8 ot od os ow on : Obj) (ps : Array Value) (mean : ExcName → Option Value) (mg mb : Str → Option Value) (dp un : Nat) (gd : Option (List Code)) (cn : Str) (a : Addr) (ccd : Value) (cl : List (Str × Addr)) (outer : List Env) (A₀ : Around) (base h₀ : Heap) (L : Nat) (m : Str → Option Value) (s : Shared) (B : Below A₀ base outer h₀) (F : Fr h₀ L s.heap m) (X : Frag.In (hd.heap_39 w.params) h₀) (T : TopH mean mg mb h₀) (hd : dp + 40 < recursionLimit) (hu' : un + 200 < cLine) (CH : CodeHd h₀ 246 244) (l0 : 244 < L) (hDs : ∀ p ∈ Ds, p.1 ≠ 244)
    (hDf : (Df, LCg.lst yf) ∈ Ds) (N : News h₀ L s.heap (Ds ++ cells L c8 ot od os ow on [(244, tabObj ps)])) (hyf : StrsAre yf (farOf n word)) (dw9 : ow.data = .cell (some (.str word tw))) (ht : TriplesOk ps.toList) (hb : AllBare s.gens)
    (fin : ∀ D h tk gs ps ys, TriplesOk ps.toList → AllBare gs → Fr h₀ L h (mQ D) → News h₀ L h ((D, LCg.lst ys) :: (Ds ++ cells L c8 ot od os ow on [(244, tabObj ps)])) → AllLt D (Ds ++ cells L c8 ot od os ow on [(244, tabObj ps)]) → OutAre (pairOf word) (farOf n word) ys → Q D { s with heap := h, toks := tk, gens := gs }) :
    SrcT PySem.Challenge.pw_fq5042_01 w (ktrTop dp un gd cn lawScope L a ccd cl outer) h₀ L m (envX cn lawScope L a ccd cl) [] (PySem.Expr.BoolOp BoolOp.And [(((PySem.Expr.Name (Str.ofString "Levenshtein") ⟨223, 16, 223, 27⟩).Call [] [] ⟨223, 16, 223, 29⟩).Call [PySem.Expr.Name (Str.ofString "word") ⟨223, 30, 223, 34⟩, PySem.Expr.Name (Str.ofString "other") ⟨223, 36, 223, 41⟩] [] ⟨223, 16, 223, 42⟩).Compare [CmpOp.GtE] [PySem.Expr.Constant (Const.int 3) 0 ⟨223, 46, 223, 47⟩] ⟨223, 16, 223, 47⟩, (((PySem.Expr.Name (Str.ofString "Hamming") ⟨223, 52, 223, 59⟩).Call [] [] ⟨223, 52, 223, 61⟩).Call [PySem.Expr.Name (Str.ofString "word") ⟨223, 62, 223, 66⟩, PySem.Expr.Name (Str.ofString "other") ⟨223, 68, 223, 73⟩] [] ⟨223, 52, 223, 74⟩).Compare [CmpOp.GtE] [PySem.Expr.Constant (Const.int 3) 0 ⟨223, 78, 223, 79⟩] ⟨223, 52, 223, 79⟩] ⟨223, 16, 223, 79⟩) (Str.ofString "other") scLast [(Str.ofString "word", L + 1 + 1 + 1 + 1)] Q mQ (.ref Df) s := by
  refine ⟨Df, yf, _, farOf n word, fun ps => (Ds ++ cells L c8 ot od os ow on [(244, tabObj ps)]), pairOf word, fun _ => true, ps, rfl, rfl, F, ht, hb, N, hyf, words_count hn6, fun _ => List.mem_append_left _ hDf, map_fst_led, ?turn, fun D h tk gs ps ys a1 a2 a3 a4 a5 a6 => fin D h tk gs ps ys a1 a2 a3 a4 a5 (by rw [List.filter_eq_self.mpr fun _ _ => rfl] at a6; exact a6)⟩
  intro u t I oI C oC D ys m₂ h tk gs ps E' hu ht' hb' hC hm F' N' lI lD lC
  obtain ⟨hu1, hu2⟩ := List.mem_filter.mp hu
  have hul := words_length hu1
  have hne : (word == u) = false := by
    have q := (Bool.and_eq_true_iff.mp hu2).1
    have q' : (u == word) = false := by simpa using q
    rw [Bool.beq_comm] at q'
    exact q'
  have h244 : @LT.lt Nat _ 244 I := lI (244, tabObj ps) (by kcf_m)
  refine wpAny_tests_nil ⟨rfl, ?_⟩
  rw [if_pos rfl]
  refine pair_turn w ((I, oI) :: (D, LCg.lst ys) :: (Ds ++ cells L c8 ot od os ow on [])) ps u word t tw C (L + 1 + 1 + 1 + 1) oC ow m₂ hC hm dw9 (by omega) (by omega) (by omega) (by omega) (by omega) hne ht' ?rest mean mg mb dp un gd cn a ccd cl outer A₀ base h₀ L m _ _ _ B F' X (cb_drop N' (by kcf_all)) T CH hb' (by omega) (by omega) fun y h9 tk9 gs9 ps9 hy ht9 hb9 F9 N9 => ⟨by rw [hy], EndL.intro ps9 ht9 hb9 F9 N9 ?sub⟩
  case rest =>
    intro p hp
    rcases List.mem_cons.mp hp with rfl | hp
    · show @Ne Nat _ _; omega
    · rcases List.mem_cons.mp hp with rfl | hp
      · show @Ne Nat _ _; omega
      · rcases List.mem_append.mp hp with hp | hp
        · exact hDs p hp
        · simp only [List.mem_cons, List.not_mem_nil, or_false] at hp
          rcases hp with rfl | rfl | rfl | rfl | rfl | rfl <;> (show @Ne Nat _ _; omega)
  case sub =>
    intro p hp
    rcases List.mem_append.mp hp with hp | hp
    · simp only [List.mem_cons, List.not_mem_nil, or_false] at hp
      rcases hp with rfl | rfl | rfl <;> kcf_m
    · rcases List.mem_append.mp hp with hp | hp
      · kcf_m
      · simp only [List.mem_cons, List.not_mem_nil, or_false] at hp
        rcases hp with rfl | rfl | rfl | rfl | rfl | rfl | rfl <;> kcf_m
end Mine
end
section
open PySem PySem.W PyProof.Rows PySem.Spec PyProof.V PySem.SeqAt PySem.Calls
set_option Elab.async false
set_option maxRecDepth 100000
namespace Mine
section
variable {prog : Program} {w : World} {A : Around} {E : Value → Shared → Prop} {s : Shared} {h₀ : Heap} {L : Addr} {m : Str → Option Value} {led : List (Addr × Obj)}
theorem ne_text1 {a b : Addr} {x : Str} {t u : Tok} {k k' : Nat} {Q : Value → Shared → Prop} (N : News h₀ L s.heap led) (h1 : (a, W.listOf #[Value.str x t] k) ∈ led) (h2 : (b, W.listOf #[Value.str x u] k') ∈ led) (hok : PyData.strOk x = true) (hu : A.units + 64 < cLine) (h : Q (.bool false) s) :
    wpAny (model prog w) A (compareOp .NotEq (.ref a) (.ref b)) Q E s := by
  have r1 : Reads s.heap (.ref a) (.list [.str x]) _ := Reads.list (N _ h1).1 rfl rfl (.cons (.str _ _) .nil)
  have r2 : Reads s.heap (.ref b) (.list [.str x]) _ := Reads.list (N _ h2).1 rfl rfl (.cons (.str _ _) .nil)
  refine ne_dataH_same r1 r2 ?_ ?_ hu ?_ ?_
  · (show (PyData.canLay0 (.list [.str x]) && decide (PyData.depth (.list [.str x]) ≤ 64)) = true); simp [PyData.canLay0, PyData.canLayAll0, PyData.depth, PyData.depthAll, hok]
  · (show (PyData.canLay0 (.list [.str x]) && decide (PyData.depth (.list [.str x]) ≤ 64)) = true); simp [PyData.canLay0, PyData.canLayAll0, PyData.depth, PyData.depthAll, hok]
  · simp [noMix, noMixAll]
  · rw [same_refl]; exact h
end
end Mine
end
section
open PySem PySem.W PyProof.Rows
set_option Elab.async false
set_option hygiene false
namespace Mine
/-- a tuple at the head of the ledger that nobody asks for any more -/
theorem news_no_tuple {h₀ h : Heap} {L a : Addr} {d : Data} {news : Led} (N : News h₀ L h ((a, ({ cls := .type "tuple", data := d } : Obj)) :: news)) : News h₀ L h news := fun p hp => N p (List.mem_cons_of_mem _ hp)
local macro_rules | `(tactic| walk_at "storeName") => `(tactic| (k_here; (with_reducible show wpAny _ _ (storeName _ _ (Value.str _ _)) _ _ _); (with_reducible rename News _ _ _ ((_, Obj.mk (Value.type "tuple") _ _ _) :: _) => NqT); (have NqU := news_no_tuple NqT); clear NqT; walk_at "storeName"))
local macro_rules | `(tactic| walk_at "CompSrc") => `(tactic| (k_here; (with_reducible show LCg.CompSrc _ _ _ _ _ _ _ (Expr.Subscript (Expr.Constant (Const.str _) _ _) _ _) _ _ _ _ _ _); (try k_fmods); (try kcf_lens); k_dflt (refine LCg.CompSrc.range (by rfl) (by k_asm) (by k_asm) (by assumption) (by first | exact small_one (by kcf_bnd) (by kcf_bnd) (by kcf_bnd) (by kcf_bnd) | decide) (by first | exact rangeSize_nat _ _ | rfl) (by first | exact Nat.le_of_ble_eq_true rfl | (rw [PySem.sizeLine_eq]; first | omega | ((simp only [List.size_toArray]); omega) | ((have hb9 := len_ints_list (by lay_of)); omega)) | size_fits) ?_; intro g'; (refine' kct_range _ (fun k' t' I' oI' C' oC' D' m' ys' h' tk' E' hlo' hhi' hC' hx' F' N' off' ne' hMark' => ?_) ?_); (all_goals (try (simp only [LCg.Off3, and_true] at off'))); kcf_last)))
theorem News.sub9 {h₀ h : Heap} {L : Addr} {led : Led} (N : News h₀ L h led) (l : Led) (k : ∀ p ∈ l, p ∈ led) : News h₀ L h l := fun p hp => N p (k p hp)
/-- a mark: here the walk stands still -/
def Stand (p : Prop) : Prop := p
theorem stand {p : Prop} (h : Stand p) : p := h
local macro_rules | `(tactic| walk_at "execs cons") => `(tactic| (k_here; (with_reducible show wpAny _ _ (execs (Stmt.Assign [Expr.Name _ _] (Expr.ListComp (Expr.Call (Expr.Attribute _ _ _) _ _ _) _ _ _) _ :: _) _) _ _ _); refine stand ?_))
theorem out_one {u : Str} {ys : List Value} (h : OutAre textOf [u] ys) : ∃ t, ys = [Value.str u t] := by
  cases h with
  | cons a r => cases r with
    | nil => obtain ⟨t, rfl⟩ := a; exact ⟨t, rfl⟩
theorem strOf_ok (l : List Bool) : PyData.strOk (strOf l) = true := by
  unfold PyData.strOk strOf
  rw [Array.all_eq_true']
  intro x hx
  simp only [List.mem_toArray, List.mem_map] at hx
  obtain ⟨b, _, rfl⟩ := hx
  cases b <;> decide
theorem drawn_ok {n : Nat} {word short wide : Str} (h : Drawn n word short wide) : PyData.strOk word = true := by
  obtain ⟨l, i, j, b, hl, hi, hj, e1, e2, e3⟩ := h.ex
  rw [e1]; exact strOf_ok l
theorem post_true (x : WData) : (RowW.claim (OpenRow.toRowW (OpenLaw.row PySem.Challenge.rw_fq5042_01))).post [x] (.bool true) [x] = true := by
  exact postW_of (by wrow_shape) (by wtm_val) (by first | rfl | (str_meet; first | done | w_fin))
theorem out_true {word : Str} {us : List Str} {ys : List Value} (o : OutAre (pairOf word) us ys) : (∀ u ∈ us, 3 ≤ levD word u ∧ 3 ≤ hamD word u) → PyProof.Rows.LSm.BoolsAre ys (us.map fun _ => true) := by
  induction o with
  | nil => intro _; exact .nil
  | @cons u y us ys a r ih =>
    intro h
    have q := h u List.mem_cons_self
    have e : (decide (levD word u ≥ 3) && decide (hamD word u ≥ 3)) = true := by rw [Bool.and_eq_true]; exact ⟨decide_eq_true q.1, decide_eq_true q.2⟩
    have a' : y = Value.bool true := by rw [show y = Value.bool (decide (levD word u ≥ 3) && decide (hamD word u ≥ 3)) from a, e]
    subst a'
    exact .cons true (ih fun v hv => h v (List.mem_cons_of_mem _ hv))
theorem all_trues (us : List Str) : (us.map fun _ => true).all id = true := by simp
theorem drawn_len {n : Nat} {word short wide : Str} (h : Drawn n word short wide) : word.length = n ∧ short.length ≤ 8 ∧ wide.length ≤ 8 := by
  obtain ⟨l, i, j, b, hl, hi, hj, e1, e2, e3⟩ := h.ex
  have := h.n6
  rw [e1, e2, e3, strOf_length, strOf_length, strOf_length]
  simp only [List.length_append, List.length_cons, List.length_take, List.length_drop]
  omega
theorem ex_obj {w : World} {h₀ h : Heap} {L x d : Addr} {t1 t2 t3 t4 : Tok} {rest : Led} (N : News h₀ L h (obj3 w 225 x d t1 t2 t3 t4 rest)) : ∃ ob dx u1 u2 u3 u4, ob = x ∧ dx = d ∧ News h₀ L h (obj3 w 225 ob dx u1 u2 u3 u4 rest) := ⟨x, d, t1, t2, t3, t4, rfl, rfl, N⟩
theorem name_obj {o : Obj} {d : Data} (h : o.data = d) : ∃ o', o' = o ∧ o'.data = d := ⟨o, rfl, h⟩
theorem News.front {h₀ h : Heap} {L : Addr} {p0 : Addr × Obj} {led : Led} (N : News h₀ L h (p0 :: led)) (q : Addr × Obj) (hq : q ∈ led) : News h₀ L h (p0 :: q :: led) := fun p hp => by
  rcases List.mem_cons.mp hp with rfl | hp
  · exact N _ List.mem_cons_self
  · rcases List.mem_cons.mp hp with rfl | hp
    · exact N _ (List.mem_cons_of_mem _ hq)
    · exact N _ (List.mem_cons_of_mem _ hp)
theorem words_one (cl : List (Str × Addr)) : ∀ n, cellsFrom n scWords.names cl = (Str.ofString "mask", n) :: cl := fun _ => rfl
theorem words_push : ∀ h : Heap, pushCells h scWords.names = h.push { cls := .type "cell", data := .cell none } := fun _ => rfl
theorem words_names : ∀ y ∈ scWords.names, y.2 = .local → scWords.names.lookup y.1 = some .local := by decide
abbrev wordG (n : Nat) (k : Int) : Str := Txt.join (Str.ofString "") ((rangeKs 0 (n : Int).toNat).map fun j => Txt.item (Str.ofString "ab") (Int.fmod (Int.fdiv k (2 ^ j.toNat)) 2))
local macro_rules | `(tactic| walk_at "exec Assign cons ListComp") => `(tactic| (k_here; (with_reducible show wpAny _ _ (exec (Stmt.Assign [Expr.Name _ _] (Expr.ListComp (Expr.Call (Expr.Attribute _ _ _) _ _ _) _ _ _) _) _) _ _ _); (refine' Assign_C (m := m9) (h₀ := ghostOf s₁.heap [(246, 244)]) (L := s₁.heap.objs.size) (cl := [(Str.ofString "n", s₁.heap.objs.size + 1 + 1 + 1)]) (wordG n) rfl ?c1 ?c2 (words_one _) words_push rfl words_names ?c3 ?c4 ?c5 ?_ ?c6); (case c1 => with_unfolding_all rfl); (case c2 => with_unfolding_all rfl); (case c3 => rfl); (case c4 => rfl); (case c5 => rfl); (case c6 => intro _; rfl)))
local macro_rules | `(tactic| k_room) => `(tactic| ktr_room)
local macro_rules | `(tactic| walk_at "call ref") => `(tactic| (k_here; (with_reducible show wpAny _ _ (call (Value.ref 298) [Value.str _ _]) _ _ _); k_dflt (refine' law_sum_tells _ _ _ _ hwl _ _ _ _ _ _ _ _ _ _ _ _ _ _ _ _ _ _ _ _ _ _ _ ?k1 ?k2 ?k3 ?k4 ?k5 ?k6 ?k7 ?_; (case k1 => k_asm); (case k2 => k_asm); (case k3 => k_asm); (case k4 => k_asm); (case k5 => k_asm); (case k6 => ktr_room); (case k7 => ktr_units)); intro t9 h9 tk9 F' N'; (try dsimp only); (try k_fold)))
local macro_rules | `(tactic| walk_at "exec Assign cons ListComp") => `(tactic| (k_here; (with_reducible show wpAny _ _ (exec (Stmt.Assign [Expr.Name _ _] (Expr.ListComp (Expr.Name _ _) _ _ _) _) _) _ _ _); k_dflt ((refine' Assign_L ?c0 rfl ?c1 ?c2 ?c7 rfl ?c8 ?c3 ?c4 ?c5 ?_ ?c6); (case c0 => k_asm); (case c1 => with_unfolding_all rfl); (case c2 => with_unfolding_all rfl); (case c3 => rfl); (case c4 => rfl); (case c5 => rfl); (case c6 => intro _; rfl); (case c7 => decide); (case c8 => decide))))
local macro_rules | `(tactic| walk_at "eval ListComp") => `(tactic| (k_here; (with_reducible show wpAny _ _ (eval (Expr.ListComp _ [Comprehension.mk (Expr.Name _ _) (Expr.Name _ _) _ _] _ _) _) _ _ _); k_dflt ((refine' Eval_L ?c0 ?c2 ?c7 rfl ?c8 ?c3 ?_ ?c6); (case c0 => k_asm); (case c2 => with_unfolding_all rfl); (case c3 => rfl); (case c6 => intro _; rfl); (case c7 => decide); (case c8 => decide))))
local macro_rules | `(tactic| walk_at "getAttr ref") => `(tactic| (k_here; k_dflt (refine' get_sm ?k1 ?k2 ?k4 ?k5 ?k6 ?k7 ?k9 ?k10 ?k11 ?k12 ?k13 ?k14 ?_; (case k1 => k_asm); (case k2 => k_asm); (case k4 => k_inst); (case k5 => k_is); (case k6 => k_is); (case k7 => k_is); (case k9 => k_is); (case k10 => k_is); (case k11 => decide +kernel); (case k12 => k_get); (case k13 => k_is); (case k14 => k_handed); k_whole)))
local macro_rules | `(tactic| walk_at "compareOp NotEq ref ref") => `(tactic| (k_here; (with_reducible show wpAny _ _ (compareOp CmpOp.NotEq (Value.ref _) (Value.ref _)) _ _ _); k_dflt (refine' ne_text1 (x := word) ?k1 ?k2 ?k3 hok ?k4 ?_; (case k1 => k_asm); (case k2 => k_mem); (case k3 => k_mem); (case k4 => (show callerA.units + 3 + 64 < cLine; decide)))))
set_option maxRecDepth 100000 in
theorem fillLInLaw : True ∨ (PySem.Challenge.rw_fq5042_01 = PySem.Challenge.rw_fq5042_01 ∧ hd.heap_39 = hd.heap_39) := by w_top off; k_fill; exact .inl trivial
set_option maxRecDepth 100000 in
set_option maxHeartbeats 8000000 in
theorem law_holds : PySem.Challenge.rw_fq5042_01.Holds := by
  w_on
  o_law
  o_head (kHook fragT (244 :: [2, 3, 15, 17, 18, 20, 21, 22, 25, 26, 34, 35, 37, 38, 40, 41, 42, 44, 45, 47, 48, 49, 51, 52, 54, 55, 56, 57, 58, 59, 61, 62, 64, 65, 66, 68, 69, 71, 72, 73, 75, 76, 78, 79, 80, 82, 83, 85, 86, 87, 89, 90, 92, 93, 94, 96, 97, 99, 100, 101, 102, 103, 104, 107, 108, 109, 111, 112, 114, 115, 116, 118, 119, 121, 122, 123, 125, 126, 128, 129, 130, 132, 133, 135, 136, 137, 139, 140, 142, 143, 144, 145, 146, 147, 148, 151, 158, 160, 161, 163, 164, 165, 167, 168, 170, 171, 172, 174, 175, 177, 178, 179, 180, 181, 184, 191, 192, 194, 195, 197, 198, 199, 202, 203, 204, 207, 208, 209, 211, 212, 214, 215, 216, 218, 219, 221, 222, 223, 224, 225, 228, 235, 236, 238, 239, 241, 242, 243, 246, 247, 248, 249, 250, 253, 260, 261, 263, 264, 266, 267, 268, 270, 271, 273, 274, 275, 277, 278, 280, 281, 282, 284, 285, 287, 288, 289, 290, 291, 294, 297, 298, 299, 302, 303]) (fun _ => by kernel_rfl))
  case hw => w_witness2
  intro w s₀ s₁ mg mb G Y fa o pm cd doc dV kV ho hd hcd hD hmg hg args vals as hpre hlay hrd hwl hlo
  have KT := kIn_of Y
  obtain ⟨KX, hT9⟩ := head_tabs KT (by kernel_rfl) (by kernel_rfl)
  clear KT
  have V := (Ground.X G).2
  try w_nolog (first | (have GL := glob_more (Ground.glob G (by first | k_qdec | decide +kernel) (by first | k_qdec | decide +kernel)) V) | (have GL := glob_more (Ground.glob G (by decide +kernel)) V))
  refine Ground.open G ?_
  intro T B D TE TW
  try (refine guard_noD D (by decide +kernel) ?_; clear D)
  clear hmg
  wrow_args hpre hlay hrd hwl hlo
  first | refine callC_kw (enter_call ?_) | refine enter_call ?_ | refine callC_kw (enter_callW ?_) | refine enter_callW ?_ | w_how
  w_top on
  have T9 : TopH (ExcName.means s₀.heap) mg mb s₁.heap := T
  refine post_H hT9 (fun _ _ => rfl) ?_
  have TG := ghost_topH hT9 T9 KX t_own (t_tab _)
  w_call any ho hd hcd hD T F
  clear hd
  rename_i c8 c7 c6 c5 c4 c3 c2 c1 e8 e7 e6 e5 e4 e3 e2 e1 N0 X0
  clear ho hD hcd Y G
  rename News _ _ _ _ => N
  have l0 := ghost_lt hT9 F
  have CH := (ghost_code hT9).1
  have X' := ghost_K hT9 KX (by kernel_rfl)
  have K' := ghost_below hT9
  have N' := ghost_news hT9 F N
  have F' := ghost_fr hT9 F
  kn_lists hT9
  simp only [tabNews, List.map_cons, List.map_nil, List.nil_append, List.cons_append] at N'
  simp only [tabNews, List.map_cons, List.map_nil] at l0
  replace l0 := allLt_of l0
  simp only [AllLt, and_true] at l0
  clear N F T T9 B TE TW V GL KX
  try k_fold
  k_steps
  unfold Stand
  rename Obj.data _ = Data.cell (some (Value.str (_ ++ _ ++ _) _)) => dd
  rename Obj.data _ = Data.cell (some (Value.str (Txt.slice _ _ _ ++ Txt.slice _ _ _) _)) => ds
  rename Obj.data _ = Data.cell (some (Value.str (Txt.join _ _) _)) => dw
  rename Obj.data _ = Data.cell (some (Value.int (1 + _) _)) => dn
  obtain ⟨n, word, short, wide, on, ow, os, od, rfl, rfl, rfl, rfl, hdr, dn9, dw9, ds9, dd9⟩ := drawn_of dn dw ds dd
  clear dn dw ds dd
  rename Fr _ _ _ _ => F9
  rename News _ _ _ _ => N9
  obtain ⟨m9, F8⟩ : ∃ m9, Fr _ _ _ m9 := ⟨_, F9⟩
  have N8 := News.sub9 N9 [(s₁.heap.objs.size + 1 + 1 + 1 + 1 + 1 + 1 + 1 + 1, c8), (s₁.heap.objs.size + 1 + 1 + 1 + 1 + 1 + 1 + 1, c7), (s₁.heap.objs.size + 1 + 1 + 1 + 1 + 1 + 1, od), (s₁.heap.objs.size + 1 + 1 + 1 + 1 + 1, os), (s₁.heap.objs.size + 1 + 1 + 1 + 1, ow), (s₁.heap.objs.size + 1 + 1 + 1, on), (244, tabObj #[])] (by kcf_all)
  clear N9 F9
  dsimp only
  have hn1 := hdr.n1
  have hn6 := hdr.n6
  obtain ⟨hwn, hsl, hdl⟩ := drawn_len hdr
  have hwl : word.length ≤ 8 := by omega
  have hok := drawn_ok hdr
  refine wpAny_execs_cons ?_
  try dsimp only
  k_steps
  rename Fr _ _ _ _ => F7
  rename News _ _ _ _ => N7
  rename IsRange _ _ _ _ _ _ _ _ => hr7
  obtain ⟨N2, pI, p64, eN2⟩ : ∃ N2 : Nat, (2 : Int) ^ ((n : Int).toNat) = (N2 : Int) ∧ N2 ≤ 64 ∧ N2 = 2 ^ n := ⟨2 ^ n, by rw [Int.toNat_natCast]; simp, Nat.pow_le_pow_right (by decide) hn6, rfl⟩
  refine ⟨_, _, _, _, _, N2, _, rfl, rfl, F7, N7, hr7, ?small, ?rsize, ?hle, ?turn, ?fin⟩
  case small => rw [pI]; exact small_one (by decide) (by decide) (by omega) (by omega)
  case rsize => rw [pI]; exact rangeSize_nat _ _
  case hle => rw [PySem.sizeLine_eq]; omega
  case turn =>
    intro h5 k5 I5 oI5 C5 oC5 X5 oX5 D5 ys5 h6 tk6 t6 E6 hk0 hk1 hX5 F6 N6 lI5 lID lDC lCX
    refine words_turn w _ k5 (n : Int) t6 _ C5 _ X5 on oX5 hX5 dn9 hk0 (by omega) (by omega) (by omega) (ExcName.means s₀.heap) mg mb _ _ _ _ _ _ _ _ _ _ _ _ _ _ _ _ K' F6 X' (News.front N6 (s₁.heap.objs.size + 1 + 1 + 1, on) (by kcf_m)) TG ?d9 ?u9 fun t9 h9 tk9 F9 N9 => EndC.intro rfl F9 N9 (by kcf_all)
    case d9 => exact (by decide)
    case u9 => exact (by decide)
  case fin =>
    intro D5 h5 tk5 ys5 F' N' lD hys
    rw [eN2, words_eq] at hys
    k_lt lD
    k_steps
    rename Fr _ _ _ _ => F7
    rename News _ _ _ _ => N7
    rename Obj.data _ = Data.cell (some (Value.int (lawSum word) _)) => dt8
    obtain ⟨ot, rfl, dt9⟩ := name_obj dt8
    clear dt8
    refine near_srcT w n word _ _ _ hn1 hn6 D5 ys5 [(D5, LCg.lst ys5)] c8 ot od os ow on #[] (ExcName.means s₀.heap) mg mb _ _ _ _ _ _ _ _ _ _ _ _ _ _ K' F7 X' TG ?d ?u List.mem_cons_self N7 hys dn9 dw9 dt9 trivial (AllBare.of_eq hg) ?fin2
    case d => exact (by decide)
    case u => exact (by decide)
    case fin2 =>
      intro Dn h5 tk5 gsn psn yn htn hbn F' N' lD hyn0
      have hyn := OutAre.strs hyn0
      clear hyn0
      simp only [List.cons_append, List.nil_append, cells] at N' lD
      simp only [AllLt, and_true] at lD
      k_steps
      rename Fr _ _ _ _ => F7
      rename News _ _ _ _ => N7
      refine far_srcT w n word _ _ _ hn1 hn6 D5 ys5 [(Dn, LCg.lst yn), (D5, LCg.lst ys5)] c8 ot od os ow on psn (ExcName.means s₀.heap) mg mb _ _ _ _ _ _ _ _ _ _ _ _ _ _ K' F7 X' TG ?d ?u (by simp) N7 hys dn9 dw9 dt9 htn hbn ?fin3
      case d => exact (by decide)
      case u => exact (by decide)
      case fin3 =>
        intro Df h6 tk6 gsf psf yf htf hbf F' N' lDf hyf0
        have hyf := OutAre.strs hyf0
        clear hyf0
        simp only [List.cons_append, List.nil_append, cells] at N' lDf
        simp only [AllLt, and_true] at lDf
        k_steps
        rename Fr _ _ _ _ => F7
        rename News _ _ _ _ => N7
        rename Obj.data _ = Data.cell (some (Value.ref _)) => dp8
        obtain ⟨op, rfl, d8⟩ := name_obj dp8
        clear dp8
        obtain ⟨ob, dx, u1, u2, u3, u4, rfl, rfl, N6⟩ := ex_obj N7
        clear N7
        refine short_srcT w n word short _ u1 u2 u3 u4 hn6 hsl Dn ob dx yn (obj3 w 225 ob dx u1 u2 u3 u4 [(Df, LCg.lst yf), (Dn, LCg.lst yn), (D5, LCg.lst ys5)]) op ot od os ow on psf (ExcName.means s₀.heap) mg mb _ _ _ _ _ _ _ _ _ _ _ _ _ _ K' F7 X' TG ?d ?u ?hDn ?hob N6 hyn d8 ds9 htf hbf ?fin4
        case d => exact (by decide)
        case u => exact (by decide)
        case hDn => simp
        case hob => intro p hp; simp only [List.mem_cons, List.not_mem_nil, or_false] at hp ⊢; rcases hp with rfl | rfl <;> simp
        case fin4 =>
          intro D7 h7 tk7 gs7 ps7 ys7 ht7 hb7 F' N' lD7 hy7
          rw [plain_short hdr] at hy7
          obtain ⟨t7, rfl⟩ := out_one hy7
          clear hy7
          simp only [List.cons_append, List.nil_append, cells] at N' lD7
          simp only [AllLt, and_true] at lD7
          dsimp only
          k_steps
          rename Fr _ _ _ _ => F7
          rename News _ _ _ _ => N7
          refine wide_srcT w n word wide _ u1 u2 u3 u4 hn6 hdl Dn ob dx yn (obj3 w 225 ob dx u1 u2 u3 u4 [(Df, LCg.lst yf), (Dn, LCg.lst yn), (D5, LCg.lst ys5)]) op ot od os ow on ps7 (ExcName.means s₀.heap) mg mb _ _ _ _ _ _ _ _ _ _ _ _ _ _ K' F7 X' TG ?d ?u ?hDn ?hob (cb_drop N7 (by kcf_all)) hyn d8 dd9 ht7 hb7 ?fin5
          case d => exact (by decide)
          case u => exact (by decide)
          case hDn => simp
          case hob => intro p hp; simp only [List.mem_cons, List.not_mem_nil, or_false] at hp ⊢; rcases hp with rfl | rfl <;> simp
          case fin5 =>
            intro D8 h8 tk8 gs8 ps8 ys8 ht8 hb8 F' N' lD8 hy8
            rw [plain_wide hdr] at hy8
            obtain ⟨t8, rfl⟩ := out_one hy8
            clear hy8
            simp only [List.cons_append, List.nil_append, cells] at N' lD8
            simp only [AllLt, and_true] at lD8
            dsimp only
            k_steps
            rename Fr _ _ _ _ => F7
            rename News _ _ _ _ => N7
            refine last_srcT w n word _ hn1 hn6 hwn Df yf [(Df, LCg.lst yf)] op ot od os ow on ps8 (ExcName.means s₀.heap) mg mb _ _ _ _ _ _ _ _ _ _ _ _ _ _ K' F7 X' TG ?d ?u CH l0 ?hDs List.mem_cons_self (cb_drop N7 (by kcf_all)) hyf dw9 ht8 hb8 ?fin6
            case d => exact (by decide)
            case u => exact (by decide)
            case hDs => intro p hp; rw [List.mem_singleton] at hp; subst hp; show @Ne Nat _ _; omega
            case fin6 =>
              intro D9 h9 tk9 gs9 ps9 ys9 ht9 hb9 F' N' lD9 hy9
              have hyb := out_true hy9 (plain_far hdr)
              clear hy9
              simp only [List.cons_append, List.nil_append, cells] at N' lD9
              simp only [AllLt, and_true] at lD9
              dsimp only
              k_steps
              rename Fr _ _ _ _ => FA
              rename News _ _ _ _ => NA
              refine PyProof.Rows.LSm.all_bools FA NA rfl ⟨_, (NA (D9, LCg.lst ys9) (by k_mem)).1, rfl, _, rfl⟩ hyb ?_
              intro hA tkA FB NB
              rw [all_trues]
              dsimp only
              refine ⟨⟨.inl ⟨_, WData.bool true, [], rfl, fun _ => rfl, .bool true, post_true _, fun _ => ⟨List.nodup_nil, fun _ h => nomatch h⟩⟩, FB.keep, rfl, hb9⟩, GrownAt.of (ps := ps9) NB (by k_mem), trivial⟩
end Mine
end
theorem PySem.Challenge.cw_fq5042_01_holds : PySem.Challenge.rw_fq5042_01.Holds := by
  exact Mine.law_holds
