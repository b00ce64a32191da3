import PyProof.Rows.All
import Wide.All
import OpenK.AllK
import Wide.FinOn
import Lean
import PySem.Challenge.RW_wy0062_01
open PySem PySem.W PyProof PyProof.Rows
set_option Elab.async false
set_option linter.unusedVariables false
set_option linter.unusedSimpArgs false
set_option maxRecDepth 100000
set_option maxHeartbeats 8000000
/- Top -/
namespace Mine
open_top hd for PySem.Challenge.rw_wy0062_01
end Mine
/- Plain1 -/
namespace Mine
/-- how many of the first n signs are blanks, from the beginning -/
def lead : Nat → List Nat → Nat
  | 0, _ => 0
  | _ + 1, [] => 0
  | n + 1, c :: r => if c = 32 then lead n r + 1 else 0

theorem lead_uniq : ∀ (n : Nat) (l : List Nat) (i : Nat), i ≤ n → i ≤ l.length → (∀ j, j < i → l[j]? = some 32) → (i = n ∨ l[i]? ≠ some 32) → lead n l = i
  | 0, l, i, h, _, _, _ => by unfold lead; omega
  | n + 1, [], i, _, h, _, _ => by simp only [List.length_nil] at h; unfold lead; omega
  | n + 1, c :: r, 0, _, _, _, h => by
    have hc : c ≠ 32 := by
      rcases h with h | h
      · omega
      · intro e; subst e; exact h rfl
    unfold lead; rw [if_neg hc]
  | n + 1, c :: r, i + 1, h1, h2, h3, h4 => by
    have hc : c = 32 := by have := h3 0 (by omega); simpa using this
    have h5 : i = n ∨ r[i]? ≠ some 32 := by
      rcases h4 with h | h
      · left; omega
      · right; simpa using h
    unfold lead
    rw [if_pos hc, lead_uniq n r i (by omega) (by simpa using h2) (fun j hj => by have := h3 (j + 1) (by omega); simpa using this) h5]

def past : Str := Str.ofString "past the end"
def stripped (x : Str) (n : Int) : Str :=
  if lead n.toNat x.cps.toList = x.length ∧ (lead n.toNat x.cps.toList : Int) < n then past
  else Txt.slice x (some (lead n.toNat x.cps.toList : Int)) (some ((x.length : Int) - (lead (n.toNat - lead n.toNat x.cps.toList) x.cps.toList.reverse : Int)))

theorem item_blank {x : Str} {i : Int} (h0 : 0 ≤ i) (h1 : i < x.length) : (Txt.item x i == Str.ofString " ") = true ↔ x.cps[i.toNat]? = some 32 := by
  have hlt : i.toNat < x.cps.size := by show i.toNat < x.length; omega
  rw [item_meets h0 (Array.getElem?_eq_getElem hlt), Array.getElem?_eq_getElem hlt, show Str.ofString " " = ⟨#[32]⟩ from by decide +kernel]
  simp [beq_iff_eq]

theorem getL {x : Str} {j : Nat} : x.cps.toList[j]? = x.cps[j]? := by simp

theorem lead_first {x : Str} {n i : Int} (h0 : 0 ≤ i) (h1 : i ≤ n) (h2 : i ≤ x.length) (h3 : ∀ j : Nat, (j : Int) < i → x.cps[j]? = some 32) (h4 : i = n ∨ x.cps[i.toNat]? ≠ some 32) : (lead n.toNat x.cps.toList : Int) = i := by
  have := lead_uniq n.toNat x.cps.toList i.toNat (by omega) (by rw [Array.length_toList]; show i.toNat ≤ x.length; omega) (fun j hj => by rw [getL]; exact h3 j (by omega)) (by
    rcases h4 with h | h
    · left; rw [h]
    · right; rw [getL]; exact h)
  omega

/-- both ends told by their places -/
theorem stripped_at {x : Str} {n i r am am' : Int} (h0 : 0 ≤ i) (hn : i + am = n) (ha : 0 ≤ am) (h2 : i ≤ x.length) (h3 : ∀ j : Nat, (j : Int) < i → x.cps[j]? = some 32) (h4 : am = 0 ∨ (i < x.length ∧ x.cps[i.toNat]? ≠ some 32))
    (r1 : r ≤ x.length - 1) (r0 : am = 0 ∨ i ≤ r) (ra : x.length - 1 - r + am' = am) (rb : 0 ≤ am') (r3 : ∀ j : Nat, r < (j : Int) → (j : Int) < x.length → x.cps[j]? = some 32) (r4 : am' = 0 ∨ x.cps[r.toNat]? ≠ some 32) :
    stripped x n = Txt.slice x (some i) (some (r + 1)) := by
  have e1 := lead_first h0 (n := n) (by omega) h2 h3 (by rcases h4 with h | h; exact .inl (by omega); exact .inr h.2)
  have e1' : lead n.toNat x.cps.toList = i.toNat := by omega
  have hl : x.cps.toList.length = x.length := Array.length_toList
  have e2 : lead (n.toNat - lead n.toNat x.cps.toList) x.cps.toList.reverse = (x.length - 1 - r).toNat := by
    rw [e1']
    by_cases hz : am = 0
    · have : n.toNat - i.toNat = 0 := by omega
      rw [this]
      have : (x.length - 1 - r).toNat = 0 := by omega
      rw [this]
      cases x.cps.toList.reverse <;> rfl
    · refine lead_uniq _ _ _ (by omega) (by rw [List.length_reverse, hl]; omega) (fun j hj => ?_) ?_
      · rw [List.getElem?_reverse (by rw [hl]; omega), getL, hl]
        exact r3 _ (by omega) (by omega)
      · rcases r4 with h | h
        · left; omega
        · right
          have hr : i ≤ r := by omega
          by_cases hq : (x.length - 1 - r).toNat < x.cps.toList.length
          · rw [List.getElem?_reverse hq, getL, hl]
            have : x.length - 1 - (x.length - 1 - r).toNat = r.toNat := by omega
            rw [this]; exact h
          · rw [hl] at hq; omega
  unfold stripped
  rw [if_neg, e1, e2]
  · have : (x.length : Int) - ((x.length - 1 - r).toNat : Int) = r + 1 := by omega
    rw [this]
  · rintro ⟨h5, h6⟩
    omega
theorem stripped_past {x : Str} {n i : Int} (h0 : 0 ≤ i) (hn : i < n) (h2 : i = x.length) (h3 : ∀ j : Nat, (j : Int) < i → x.cps[j]? = some 32) : stripped x n = past := by
  have e1 := lead_first h0 (n := n) (by omega) (by omega) h3 (by right; rw [Array.getElem?_eq_none (by show x.length ≤ _; omega)]; simp)
  unfold stripped
  rw [if_pos ⟨by omega, by omega⟩]
end Mine
/- Plain2 -/
namespace Mine
def okSize (v : Int) : Bool := v != 0 && v != 127
def refused : Str := Str.ofString "refused"
/-- what the grouping gives, nine at most: the sizes up to 127, the last again and again from a nought on -/
def sizesD (ns : List Int) : List PyData :=
  let p := ns.takeWhile okSize
  if ns[p.length]? = some 0 then (if p.length = 0 then [PyData.str refused] else ((p ++ List.replicate 9 (p.getD (p.length - 1) 0)).take 9).map PyData.int)
  else (p.take 9).map PyData.int

theorem takeWhile_at : ∀ (k : Nat) (ns : List Int), k ≤ ns.length → (∀ j : Nat, j < k → ns[j]? ≠ some 127 ∧ ns[j]? ≠ some 0) → (k = ns.length ∨ ns[k]? = some 127 ∨ ns[k]? = some 0) → ns.takeWhile okSize = ns.take k
  | 0, [], _, _, _ => rfl
  | 0, v :: r, _, _, h => by
    have hv : okSize v = false := by
      rcases h with h | h | h
      · simp at h
      · simp at h; subst h; rfl
      · simp at h; subst h; rfl
    simp [List.takeWhile_cons, hv]
  | k + 1, [], h, _, _ => by simp at h
  | k + 1, v :: r, h, h1, h2 => by
    have hv : okSize v = true := by
      have := h1 0 (by omega)
      simp at this
      simp [okSize, this.1, this.2]
    have ih := takeWhile_at k r (by simpa using h) (fun j hj => by have := h1 (j + 1) (by omega); simpa using this) (by simpa using h2)
    simp [List.takeWhile_cons, hv, ih]

theorem sizesD_stop {ns : List Int} {k : Nat} (h : k ≤ ns.length) (h1 : ∀ j : Nat, j < k → ns[j]? ≠ some 127 ∧ ns[j]? ≠ some 0) (h2 : k = ns.length ∨ ns[k]? = some 127) :
    sizesD ns = ((ns.take k).take 9).map PyData.int := by
  have e := takeWhile_at k ns h h1 (by rcases h2 with h2 | h2 <;> simp [h2])
  have hl : (ns.take k).length = k := by simp; omega
  unfold sizesD
  simp only [e, hl]
  rw [if_neg]
  rcases h2 with h2 | h2
  · rw [h2, List.getElem?_eq_none (Nat.le_refl _)]; simp
  · rw [h2]; simp
theorem sizesD_refused {ns : List Int} (h : ns[0]? = some 0) : sizesD ns = [PyData.str refused] := by
  have e := takeWhile_at 0 ns (by omega) (fun j hj => absurd hj (by omega)) (.inr (.inr h))
  unfold sizesD
  simp [e, h]
theorem sizesD_rep {ns : List Int} {k : Nat} (hk : k < ns.length) (h0 : 0 < k) (h1 : ∀ j : Nat, j < k → ns[j]? ≠ some 127 ∧ ns[j]? ≠ some 0) (h2 : ns[k]? = some 0) :
    sizesD ns = ((ns.take k ++ List.replicate 9 (ns.getD (k - 1) 0)).take 9).map PyData.int := by
  have e := takeWhile_at k ns (by omega) h1 (.inr (.inr h2))
  have hl : (ns.take k).length = k := by simp; omega
  unfold sizesD
  simp only [e, hl]
  rw [if_pos h2, if_neg (by omega)]
  have : (ns.take k).getD (k - 1) 0 = ns.getD (k - 1) 0 := by
    rw [List.getD_eq_getElem?_getD, List.getD_eq_getElem?_getD, List.getElem?_take, if_pos (by omega)]
  rw [this]
theorem getD_some {ns : List Int} {k : Nat} (h : k < ns.length) : ns[k]? = some (ns.getD k 0) := by
  rw [List.getD_eq_getElem?_getD, List.getElem?_eq_getElem h]; rfl
theorem sizes_step {ns pre found : List Int} {k : Int} (h1 : found.length = pre.length) (h2 : found = ns.take pre.length) (h3 : ∀ j : Nat, j < pre.length → ns[j]? ≠ some 127 ∧ ns[j]? ≠ some 0) (kEq : k = 0 + (pre.length : Int)) (kLt : pre.length < ((ns.length : Int) - 0).toNat)
    (n1 : ns.getD k.toNat 0 ≠ 127) (n0 : ns.getD k.toNat 0 ≠ 0) :
    (found ++ [ns.getD k.toNat 0]).length = (pre ++ [k]).length ∧ found ++ [ns.getD k.toNat 0] = ns.take (pre ++ [k]).length ∧ ∀ j : Nat, j < (pre ++ [k]).length → ns[j]? ≠ some 127 ∧ ns[j]? ≠ some 0 := by
  have hk : k.toNat = pre.length := by omega
  have hlt : pre.length < ns.length := by omega
  have hg := getD_some (ns := ns) hlt
  rw [hk] at n1 n0 ⊢
  refine ⟨by simp [h1], ?_, fun j hj => ?_⟩
  · rw [List.length_append, List.length_singleton, List.take_add_one, hg, h2]; rfl
  · rw [List.length_append, List.length_singleton] at hj
    by_cases q : j < pre.length
    · exact h3 j q
    · have : j = pre.length := by omega
      subst this
      rw [hg]
      exact ⟨fun q => n1 (Option.some.inj q), fun q => n0 (Option.some.inj q)⟩

section
variable {h₀ h' : Heap} {L D : Addr} {m : Str → Option Value} {news nn : List (Addr × Obj)} {x : Addr × Obj} {s : Shared} {Q : Value → Shared → Prop} {ys : List Value} {its : Array Value} {ds : List PyData} {tk' : Nat}
theorem sz_ret (ret : ∀ (D : Addr) (ys : List Value) (h' : Heap) (tk' : Nat), CarriedAll ys ds → Fr h₀ L h' m → News h₀ L h' ((D, PySem.W.listOf ys.toArray 0) :: x :: news) → Q (.ref D) { s with heap := h', toks := tk' })
    (F : Fr h₀ L h' m) (N : News h₀ L h' nn) (hD : (D, PySem.W.listOf its 0) ∈ nn) (e : its = ys.toArray) (c : CarriedAll ys ds) (hx : x ∈ nn) (hn : ∀ p ∈ news, p ∈ nn) : Q (.ref D) { s with heap := h', toks := tk' } := by
  subst e
  refine ret D ys h' tk' c F fun p hp => N p ?_
  rcases List.mem_cons.mp hp with rfl | hp
  · exact hD
  · rcases List.mem_cons.mp hp with rfl | hp
    · exact hx
    · exact hn p hp
end
theorem carried_of {ws : List Value} {ns : List Int} {ds : List PyData} (h : IntsAre ws ns) (e : ns.map PyData.int = ds) : CarriedAll ws ds := by
  subst e; exact ke_carried h
end Mine
/- Plain3 -/
namespace Mine
/-- the order by the first unlike sign or the length -/
def ordL : List Nat → List Nat → Int
  | [], [] => 0
  | [], _ :: _ => -1
  | _ :: _, [] => 1
  | a :: r, b :: t => if a = b then ordL r t else if b < a then 1 else -1

theorem ordL_self : ∀ l, ordL l l = 0
  | [] => rfl
  | a :: r => by unfold ordL; rw [if_pos rfl, ordL_self r]

theorem ordL_at : ∀ (i : Nat) (x y : List Nat) (a b : Nat), (∀ j, j < i → x[j]? = y[j]?) → x[i]? = some a → y[i]? = some b → a ≠ b → ordL x y = if b < a then 1 else -1
  | 0, c :: r, d :: t, a, b, _, hx, hy, hab => by
    simp at hx hy; subst hx hy
    unfold ordL; rw [if_neg hab]
  | i + 1, c :: r, d :: t, a, b, h, hx, hy, hab => by
    have hc : c = d := by have := h 0 (by omega); simpa using this
    unfold ordL
    rw [if_pos hc]
    exact ordL_at i r t a b (fun j hj => by have := h (j + 1) (by omega); simpa using this) (by simpa using hx) (by simpa using hy) hab
  | _, [], _, _, _, _, hx, _, _ => by simp at hx
  | _, _ :: _, [], _, _, _, _, hy, _ => by simp at hy

theorem ordL_len : ∀ (x y : List Nat), (∀ j, j < min x.length y.length → x[j]? = y[j]?) → ordL x y = b2i (decide (y.length < x.length)) - b2i (decide (x.length < y.length))
  | [], [], _ => rfl
  | [], _ :: _, _ => by simp [ordL, b2i]
  | _ :: _, [], _ => by simp [ordL, b2i]
  | c :: r, d :: t, h => by
    have hc : c = d := by have := h 0 (by simp); simpa using this
    unfold ordL
    rw [if_pos hc, ordL_len r t (fun j hj => by have := h (j + 1) (by simp; omega); simpa using this)]
    simp

theorem ordL_lt : ∀ x y : List Nat, ordL x y = b2i (decide (y < x)) - b2i (decide (x < y))
  | [], [] => by simp [ordL, b2i]
  | [], b :: t => by
    have h1 : ([] : List Nat) < b :: t := List.nil_lt_cons b t
    have h2 : ¬ (b :: t) < ([] : List Nat) := List.not_lt_nil _
    simp [ordL, b2i, h1, h2]
  | a :: r, [] => by
    have h1 : ([] : List Nat) < a :: r := List.nil_lt_cons a r
    have h2 : ¬ (a :: r) < ([] : List Nat) := List.not_lt_nil _
    simp [ordL, b2i, h1, h2]
  | a :: r, b :: t => by
    unfold ordL
    by_cases h : a = b
    · subst h
      rw [if_pos rfl, ordL_lt r t]
      simp [List.cons_lt_cons_iff]
    · rw [if_neg h]
      by_cases h' : b < a
      · have h1 : (b :: t) < (a :: r) := List.cons_lt_cons_iff.mpr (.inl h')
        have h2 : ¬ (a :: r) < (b :: t) := fun q => by
          rcases List.cons_lt_cons_iff.mp q with q | q
          · omega
          · omega
        simp [h', b2i, h1, h2]
      · have h1 : (a :: r) < (b :: t) := List.cons_lt_cons_iff.mpr (.inl (by omega))
        have h2 : ¬ (b :: t) < (a :: r) := fun q => by
          rcases List.cons_lt_cons_iff.mp q with q | q
          · omega
          · omega
        simp [h', b2i, h1, h2]

theorem item_ne {x y : Str} {i : Int} (e : (Txt.item x i != Txt.item y i) = true) (h0 : 0 ≤ i) (hx : i < x.length) (hy : i < y.length) :
    ∃ a b, x.cps.toList[i.toNat]? = some a ∧ y.cps.toList[i.toNat]? = some b ∧ a ≠ b ∧ Txt.item x i = ⟨#[a]⟩ ∧ Txt.item y i = ⟨#[b]⟩ := by
  have hx' : i.toNat < x.cps.size := by show i.toNat < x.length; omega
  have hy' : i.toNat < y.cps.size := by show i.toNat < y.length; omega
  have ex := item_meets h0 (Array.getElem?_eq_getElem hx')
  have ey := item_meets h0 (Array.getElem?_eq_getElem hy')
  refine ⟨x.cps[i.toNat], y.cps[i.toNat], by simp [Array.getElem?_eq_getElem hx'], by simp [Array.getElem?_eq_getElem hy'], fun q => ?_, ex, ey⟩
  rw [ex, ey, q] at e
  simp at e
theorem item_eq {x y : Str} {i : Int} (e : (Txt.item x i != Txt.item y i) = false) (h0 : 0 ≤ i) (hx : i < x.length) (hy : i < y.length) : x.cps.toList[i.toNat]? = y.cps.toList[i.toNat]? := by
  have hx' : i.toNat < x.cps.size := by show i.toNat < x.length; omega
  have hy' : i.toNat < y.cps.size := by show i.toNat < y.length; omega
  have ex := item_meets h0 (Array.getElem?_eq_getElem hx')
  have ey := item_meets h0 (Array.getElem?_eq_getElem hy')
  rw [ex, ey] at e
  simp at e
  simp [Array.getElem?_eq_getElem hx', Array.getElem?_eq_getElem hy', e]
theorem order_gt {x y : Str} {i : Int} (e : (Txt.item x i != Txt.item y i) = true) (h0 : 0 ≤ i) (hx : i < x.length) (hy : i < y.length) (h : ∀ j : Nat, (j : Int) < i → x.cps.toList[j]? = y.cps.toList[j]?)
    (hlt : (((Txt.item y i).cps.getD 0 0 : Nat) : Int) < (((Txt.item x i).cps.getD 0 0 : Nat) : Int)) : ordL x.cps.toList y.cps.toList = 1 := by
  obtain ⟨a, b, h1, h2, h3, h4, h5⟩ := item_ne e h0 hx hy
  rw [ordL_at i.toNat _ _ a b (fun j hj => h j (by omega)) h1 h2 h3, if_pos]
  rw [h4, h5] at hlt
  simp at hlt; exact hlt
theorem order_le {x y : Str} {i : Int} (e : (Txt.item x i != Txt.item y i) = true) (h0 : 0 ≤ i) (hx : i < x.length) (hy : i < y.length) (h : ∀ j : Nat, (j : Int) < i → x.cps.toList[j]? = y.cps.toList[j]?)
    (hlt : ¬ (((Txt.item y i).cps.getD 0 0 : Nat) : Int) < (((Txt.item x i).cps.getD 0 0 : Nat) : Int)) : ordL x.cps.toList y.cps.toList = 0 - 1 := by
  obtain ⟨a, b, h1, h2, h3, h4, h5⟩ := item_ne e h0 hx hy
  rw [ordL_at i.toNat _ _ a b (fun j hj => h j (by omega)) h1 h2 h3, if_neg]
  · rfl
  rw [h4, h5] at hlt
  simp at hlt; omega
end Mine
/- C1 -/
namespace Mine
section
variable {w : World} {gd : Option (List Code)} {cn : Str} {cs : Scope} {a : Addr} {ccd : Value} {cl : List (Str × Addr)} {outer : List Env} {A₀ : Around} {base h₀ : Heap} {L : Addr} {m : Str → Option Value} {news : List (Addr × Obj)} {s : Shared} {Q E : Value → Shared → Prop} {mean : ExcName → Option Value} {mg mb : Str → Option Value}

theorem fr_back {h₀ g h : Heap} {L : Addr} {m : Str → Option Value} (T : KtsTurn [] h₀ g) (F : Fr g L h m) : Fr h₀ L h m :=
  ⟨F.ns, fun b o e => F.keep b o (T.other b o e (fun q => nomatch q)), by rw [← T.size]; exact F.above⟩
theorem news_back {h₀ g h : Heap} {L : Addr} {news : List (Addr × Obj)} (T : KtsTurn [] h₀ g) (N : News g L h news) : News h₀ L h news := fun p hp => by
  refine ⟨(N p hp).1, (N p hp).2.1, ?_⟩
  cases q : h₀.get? p.1 with
  | none => rfl
  | some o => have := T.other _ o q (fun q => nomatch q); rw [(N p hp).2.2] at this; cases this
theorem item_sp {x : Str} {i : Int} (e : (Txt.item x i == Str.ofString " ") = true) (h0 : 0 ≤ i) (h1 : i < x.length) : x.cps[i.toNat]? = some 32 := (item_blank h0 h1).mp e
theorem item_nsp {x : Str} {i : Int} (e : (Txt.item x i == Str.ofString " ") = false) (h0 : 0 ≤ i) (h1 : i < x.length) : x.cps[i.toNat]? ≠ some 32 := fun q => by
  have := (item_blank h0 h1).mpr q
  rw [e] at this; cases this

local macro_rules | `(tactic| walk_at "exec While BoolOp") => `(tactic| k_extra "w1")

theorem law_stripped_call {x : Str} {n : Int} {tx tn : Tok} (B : Below callerA h₀ [] h₀) (F : Fr h₀ L s.heap m) (X : (Mine.hd.heap_39 w.params).In h₀) (N : News h₀ L s.heap news) (T : Top Mine.hd.view_39 (looseW Mine.hd.view_39 []) mean mg mb h₀) (hk : cs.kind = .function)
   (h0 : 0 ≤ n) (hn63 : n < 1000) (hx : x.length ≤ 1000)
   (ret : ∀ (t : Tok) (h' : Heap) (tk' : Nat), Fr h₀ L h' m → News h₀ L h' news → Q (.str (stripped x n) t) { s with heap := h', toks := tk' }) :
   wpAny (model PySem.Challenge.rw_wy0062_01.row.prog w) (callerA.deeper (envOf cn cs L a ccd)) (call (.ref 49) [.str x tx, .int n tn]) Q E s := by
  revert X; k_fill; intro X
  k_with_none
  w_top off
  refine wpAny_call ?_
  k_dflt (refine' code_defS0 B F X N T rfl ?k6 ?k7 ?k8 ?k9 ?kB ?_ hk ?c2 ?c3 ?c4 ?c5; (case k6 => k_is); (case k7 => k_is); (case k8 => k_room); (case k9 => exact BindsTo.of_eq rfl); (case kB => exact locs rfl); (case c2 => exact rfl); (case c3 => exact rfl); (case c4 => exact rfl); (case c5 => decide); k_whole; intro g' L' h' FG' F' N' B' X' T' D'; (try dsimp only); (try k_lift B'); (try k_fold))
  k_with "w1" => (
  (with_reducible show wpAny _ _ (exec (Stmt.While (Expr.BoolOp _ [_, Expr.Compare (Expr.Subscript _ (Expr.Name (Str.ofString "lpos") _) _) _ _ _] _) _ _ _) _) _ _ _);
  (rename Fr _ _ _ _ => lF'); (rename News _ _ _ _ => lN');
  (with_unfolding_all refine' ksw_while (σ := Int × Int × Tok × Tok) (fun _ => news) (fun c => [(Str.ofString "lpos", .int c.1 c.2.2.1), (Str.ofString "amount", .int c.2.1 c.2.2.2)]) (fun _ => True) [] (fun c => 0 ≤ c.1 ∧ 0 ≤ c.2.1 ∧ c.1 + c.2.1 = n ∧ c.1 ≤ x.length ∧ (∀ j : Nat, (j : Int) < c.1 → x.cps[j]? = some 32)) (fun c => c.2.1.toNat) (0, n, _, _) lF' lN' trivial ?kk ?kp ?_);
  (case kk => kst_all);
  (case kp => refine ⟨?_, ?_, ?_, ?_, ?_⟩ <;> (try dsimp only) <;> first | omega | (intro j hj; omega));
  clear lF' lN';
  intro kc kU kH kTk kFacts kInv kFr kNews;
  obtain ⟨i, am, ti, ta⟩ := kc;
  dsimp only at kInv kFr kNews;
  obtain ⟨I0, I1, I2, I3, I4⟩ := kInv)
  k_with "w1" => (
  (with_reducible show wpAny _ _ (exec (Stmt.While (Expr.BoolOp _ [_, Expr.Compare (Expr.Subscript _ (Expr.Name (Str.ofString "rpos") _) _) _ _ _] _) _ _ _) _) _ _ _);
  (have hEnd : am = 0 ∨ (i < x.length ∧ x.cps[i.toNat]? ≠ some 32) := by first | (left; omega) | (left; simp_all; done) | (right; refine ⟨by omega, fun e => ?_⟩; (have e1 := (item_blank I0 (by omega)).mpr e); simp_all));
  (rename Fr _ _ _ _ => lF'); (rename News _ _ _ _ => lN');
  (with_unfolding_all refine' ksw_while (σ := Int × Int × Tok × Tok) (fun _ => news) (fun c => [(Str.ofString "rpos", .int c.1 c.2.2.1), (Str.ofString "amount", .int c.2.1 c.2.2.2)]) (fun _ => True) [] (fun c => c.1 ≤ (x.length : Int) - 1 ∧ (am = 0 ∨ i ≤ c.1) ∧ (x.length : Int) - 1 - c.1 + c.2.1 = am ∧ 0 ≤ c.2.1 ∧ (∀ j : Nat, c.1 < (j : Int) → (j : Int) < x.length → x.cps[j]? = some 32)) (fun c => c.2.1.toNat) ((x.length : Int) - 1, am, _, _) lF' lN' trivial ?kk ?kp ?_);
  (case kk => kst_all);
  (case kp => refine ⟨?_, ?_, ?_, ?_, ?_⟩ <;> (try dsimp only) <;> first | omega | (intro j hj hj2; omega));
  clear lF' lN';
  intro kc kU kH kTk kFacts kInv kFr kNews;
  obtain ⟨r, am', ti, ta⟩ := kc;
  dsimp only at kInv kFr kNews;
  obtain ⟨J0, J1, J2, J3, J4⟩ := kInv)
  k_steps
  all_goals first
  | (exfalso; omega)
  | (refine cb_retS ret ?_ ?_ ?_
     rotate_left
     · assumption
     · assumption
     exact (stripped_past I0 (by omega) (by omega) I4).symm)
  | (rename (Txt.item x r == Str.ofString " ") = true => e9
     have e7 := hEnd.resolve_left (by omega)
     have e6 := J1.resolve_left (by omega)
     have e8 := item_sp e9 (by omega) (by omega)
     have e5 : i ≠ r := fun q => e7.2 (by rw [q]; exact e8)
     refine ksw_end (r - 1, am' - 1, _, _) (by assumption) (by assumption) (fun p hp => hp) trivial (by kst_all) (fun z h2 h3 => by have a1 := h2 (Str.ofString "rpos", _) (List.Mem.head _); have a2 := h2 _ (List.Mem.tail _ (List.Mem.head _)); dsimp only at a1 a2; simp [kstB, a1, a2]) ?_ ?_
     · refine ⟨by dsimp only; omega, by dsimp only; omega, by dsimp only; omega, by dsimp only; omega, fun j hj hj2 => ?_⟩
       dsimp only at hj
       by_cases hji : r < (j : Int)
       · exact J4 j hji hj2
       · have : j = r.toNat := by omega
         rw [this]; exact e8
     · dsimp only; omega)
  | (rename (Txt.item x i == Str.ofString " ") = true => e9
     have e8 := item_sp e9 I0 (by omega)
     refine ksw_end (i + 1, am - 1, _, _) (by assumption) (by assumption) (fun p hp => hp) trivial (by kst_all) (fun z h2 h3 => by have a1 := h2 (Str.ofString "lpos", _) (List.Mem.head _); have a2 := h2 _ (List.Mem.tail _ (List.Mem.head _)); dsimp only at a1 a2; simp [kstB, a1, a2]) ?_ ?_
     · refine ⟨by dsimp only; omega, by dsimp only; omega, by dsimp only; omega, by dsimp only; omega, fun j hj => ?_⟩
       dsimp only at hj
       by_cases hji : (j : Int) < i
       · exact I4 j hji
       · have : j = i.toNat := by omega
         rw [this]; exact e8
     · dsimp only; omega)
  | (rename (Txt.item x r == Str.ofString " ") = false => e9
     refine cb_retS ret ?_ ?_ ?_
     rotate_left
     · assumption
     · assumption
     have e6 := J1.resolve_left (by omega)
     exact (stripped_at I0 I2 I1 I3 I4 hEnd J0 J1 J2 J3 J4 (.inr (item_nsp e9 (by omega) (by omega)))).symm)
  | (refine cb_retS ret ?_ ?_ ?_
     rotate_left
     · assumption
     · assumption
     exact (stripped_at I0 I2 I1 I3 I4 hEnd J0 J1 J2 J3 J4 (.inl (by omega))).symm)
end
end Mine
/- C2 -/
namespace Mine
section
variable {w : World} {cn : Str} {cs : Scope} {a : Addr} {ccd : Value} {cl : List (Str × Addr)} {outer : List Env} {A₀ : Around} {base h₀ : Heap} {L : Addr} {m : Str → Option Value} {news : List (Addr × Obj)} {s : Shared} {Q E : Value → Shared → Prop} {mean : ExcName → Option Value} {mg mb : Str → Option Value}

theorem law_order_call {x y : Str} {tx ty : Tok} (B : Below callerA h₀ [] h₀) (F : Fr h₀ L s.heap m) (X : (Mine.hd.heap_39 w.params).In h₀) (N : News h₀ L s.heap news) (T : Top Mine.hd.view_39 (looseW Mine.hd.view_39 []) mean mg mb h₀) (hk : cs.kind = .function)
   (hx : x.length ≤ 1000) (hy : y.length ≤ 1000) 
   (ret : ∀ (t : Tok) (h' : Heap) (tk' : Nat), Fr h₀ L h' m → News h₀ L h' news → Q (.int (ordL x.cps.toList y.cps.toList) t) { s with heap := h', toks := tk' }) :
   wpAny (model PySem.Challenge.rw_wy0062_01.row.prog w) (callerA.deeper (envOf cn cs L a ccd)) (call (.ref 70) [.str x tx, .str y ty]) Q E s := by
  revert X; k_fill; intro X
  k_with_none
  w_top off
  refine wpAny_call ?_
  k_with "pyIter ref" => k_search (fun pre => ∀ j : Nat, j < pre.length → x.cps.toList[j]? = y.cps.toList[j]?)
  k_with "state" => (intro j hj; exact absurd hj (Nat.not_lt_zero j))
  k_with "state" => (
    intro j hj
    by_cases hji : j < kPre.length
    · exact kInv j hji
    · (rename (Txt.item x kN != Txt.item y kN) = false => e9)
      have e1 := item_eq e9 (by omega) (by split at kLt <;> omega) (by split at kLt <;> omega)
      have e2 : j = kN.toNat := by
        rw [List.length_append, List.length_cons, List.length_nil] at hj
        omega
      rw [e2]
      exact e1)
  k_dflt (refine' code_def B F X N T rfl rfl hk ?k6 ?k7 ?k8 ?k9 ?kB ?_ ?c2 ?c3 ?c4 ?c5; (case k6 => k_is); (case k7 => k_is); (case k8 => k_room); (case k9 => exact BindsTo.of_eq rfl); (case kB => exact locs rfl); (case c2 => exact rfl); (case c3 => exact rfl); (case c4 => exact rfl); (case c5 => decide); k_whole; intro g' L' h' FG' F' N' B' X' T'; (try dsimp only); (try k_lift B'); (try k_fold))
  k_steps
  all_goals first
  | (refine cb_retI ret ?_ ?_ ?_
     rotate_left
     · assumption
     · exact cb_drop (by assumption) (fun p hp => List.mem_append_left _ hp)
     first
     | exact (order_gt (by assumption) (by omega) (by split at kLt <;> omega) (by split at kLt <;> omega) (fun j hj => kInv j (by omega)) (by assumption)).symm
     | exact (order_le (by assumption) (by omega) (by split at kLt <;> omega) (by split at kLt <;> omega) (fun j hj => kInv j (by omega)) (by assumption)).symm)
  | (refine cb_retI ret ?_ ?_ ?_
     rotate_left
     · assumption
     · assumption
     · rw [ordL_len _ _ (fun j hj => kInv j (by rw [rangeKs_length]; rw [Array.length_toList, Array.length_toList] at hj; (have hj' : j < min x.length y.length := hj); split <;> omega))]
       rw [Array.length_toList, Array.length_toList]
       show b2i (decide ((y.length : Int) < x.length)) - b2i (decide ((x.length : Int) < y.length)) = b2i (decide (y.length < x.length)) - b2i (decide (x.length < y.length))
       simp)
end
end Mine
/- C3 -/
namespace Mine
section
variable {w : World} {cn : Str} {cs : Scope} {a : Addr} {ccd : Value} {cl : List (Str × Addr)} {outer : List Env} {A₀ : Around} {base h₀ : Heap} {L : Addr} {m : Str → Option Value} {news : List (Addr × Obj)} {s : Shared} {Q E : Value → Shared → Prop} {mean : ExcName → Option Value} {mg mb : Str → Option Value}

theorem strcoll_call {x y : Str} {tx ty : Tok} (B : Below callerA h₀ [] h₀) (F : Fr h₀ L s.heap m) (X : (Mine.hd.heap_39 w.params).In h₀) (N : News h₀ L s.heap news) (T : Top Mine.hd.view_39 (looseW Mine.hd.view_39 []) mean mg mb h₀) (hk : cs.kind = .function)
   (hx : x.length ≤ 1000) (hy : y.length ≤ 1000) 
   (ret : ∀ (t : Tok) (h' : Heap) (tk' : Nat), Fr h₀ L h' m → News h₀ L h' news → Q (.int (ordL x.cps.toList y.cps.toList) t) { s with heap := h', toks := tk' }) :
   wpAny (model PySem.Challenge.rw_wy0062_01.row.prog w) (callerA.deeper (envOf cn cs L a ccd)) (call (.ref 21) [.str x tx, .str y ty]) Q E s := by
  revert X; k_fill; intro X
  k_with_none
  w_top off
  refine wpAny_call ?_
  k_dflt (refine' code_def B F X N T rfl rfl hk ?k6 ?k7 ?k8 ?k9 ?kB ?_ ?c2 ?c3 ?c4 ?c5; (case k6 => k_is); (case k7 => k_is); (case k8 => k_room); (case k9 => exact BindsTo.of_eq rfl); (case kB => exact locs rfl); (case c2 => exact rfl); (case c3 => exact rfl); (case c4 => exact rfl); (case c5 => decide); k_whole; intro g' L' h' FG' F' N' B' X' T'; (try dsimp only); (try k_lift B'); (try k_fold))
  k_steps
  refine cb_retI ret (ordL_lt _ _).symm ?_ ?_
  · assumption
  · assumption
end
end Mine
/- C4 -/
namespace Mine
section
variable {w : World} {cn : Str} {cs : Scope} {a : Addr} {ccd : Value} {cl : List (Str × Addr)} {outer : List Env} {A₀ : Around} {base h₀ : Heap} {L : Addr} {m : Str → Option Value} {news : List (Addr × Obj)} {s : Shared} {Q E : Value → Shared → Prop} {mean : ExcName → Option Value} {mg mb : Str → Option Value}

local macro_rules | `(tactic| walk_at "binaryOp Add ref ref") => `(tactic| (k_here; (with_reducible show wpAny _ _ (binaryOp _ (Value.ref _) (Value.ref _)) _ _ _); k_extra "addlists"))
local macro_rules | `(tactic| walk_at "subscriptTail Name Slice ref ref") => `(tactic| (k_here; k_extra "slicelist"))
local macro_rules | `(tactic| walk_at "subscriptTail BinOp Slice ref ref") => `(tactic| (k_here; k_extra "slicelist"))

theorem law_sizes_call {l : Addr} {vs : List Value} {n : Nat} {ns : List Int} (B : Below callerA h₀ [] h₀) (F : Fr h₀ L s.heap m) (X : (Mine.hd.heap_39 w.params).In h₀) (N : News h₀ L s.heap ((l, PySem.W.listOf vs.toArray n) :: news)) (T : Top Mine.hd.view_39 (looseW Mine.hd.view_39 []) mean mg mb h₀) (hk : cs.kind = .function)
   (hv : IntsAre vs ns) (hn : ns.length ≤ 63) 
   (ret : ∀ (D : Addr) (ys : List Value) (h' : Heap) (tk' : Nat), CarriedAll ys (sizesD ns) → Fr h₀ L h' m → News h₀ L h' ((D, PySem.W.listOf ys.toArray 0) :: (l, PySem.W.listOf vs.toArray n) :: news) → Q (.ref D) { s with heap := h', toks := tk' }) :
   wpAny (model PySem.Challenge.rw_wy0062_01.row.prog w) (callerA.deeper (envOf cn cs L a ccd)) (call (.ref 63) [.ref l]) Q E s := by
  revert X; k_fill; intro X
  k_with_none
  w_top off
  refine wpAny_call ?_
  k_dflt (refine' code_def B F X N T rfl rfl hk ?k6 ?k7 ?k8 ?k9 ?kB ?_ ?c2 ?c3 ?c4 ?c5; (case k6 => k_is); (case k7 => k_is); (case k8 => k_room); (case k9 => exact BindsTo.of_eq rfl); (case kB => exact locs rfl); (case c2 => exact rfl); (case c3 => exact rfl); (case c4 => exact rfl); (case c5 => decide); k_whole; intro g' L' h' FG' F' N' B' X' T'; (try dsimp only); (try k_lift B'); (try k_fold))
  k_with "pyIter ref" => k_state (fun pre found => found.length = pre.length ∧ found = ns.take pre.length ∧ ∀ j : Nat, j < pre.length → ns[j]? ≠ some 127 ∧ ns[j]? ≠ some 0) "found"
  k_with "addlists" => (
    k_dflt (refine' kmk_add_lit ?F ?N ?a ?b rfl ?_ ?z; (case F => k_asm); (case N => k_asm); (case a => kmk_list); (case b => kmk_list); (case z => (simp only [sizeLine_eq, List.size_toArray, List.length_cons, List.length_nil, List.toList_toArray]; omega)));
    intro D' h' F' N' l1; (try k_lt l1); (try k_sweep))
  k_with "slicelist" => (
    k_dflt (refine' kmk_slice ?F ?N ?l ?p ?q ?_ ?s ?t ?z; (case F => k_asm); (case N => k_asm); (case l => kmk_list); (case p => kmk_part); (case q => kmk_part); (case s => with_unfolding_all rfl); (case t => kmk_pure); (case z => (simp only [sizeLine_eq, List.size_toArray, List.length_cons, List.length_append, List.length_nil, List.toList_toArray]; omega)));
    intro D' h' F' N' l1; (try k_lt l1); (try k_sweep))
  k_steps
  k_with "state" => exact sizes_step (by assumption) (by assumption) (by assumption) kEq kLt (by assumption) (by assumption)
  all_goals (try k_unmd)
  k_steps
  -- up to 127
  · (rename News h₀ L _ _ => kN9)
    (rename IntsAre _ (List.take 9 _) => hI9)
    (rename _ = List.take kPre.length ns => e9)
    (rename ns.getD kN.toNat 0 = 127 => g9)
    have hk : kN.toNat = kPre.length := by omega
    have hlt : kPre.length < ns.length := by omega
    rw [hk] at g9
    refine sz_ret ret (by assumption) kN9 (List.Mem.head _) rfl (carried_of hI9 ?_) (by simp) (fun p hp => by simp [hp])
    rw [sizesD_stop (Nat.le_of_lt hlt) (by assumption) (.inr (by rw [getD_some hlt, g9])), e9]
  -- refused
  · (rename News h₀ L _ _ => kN9)
    (rename IntsAre _ _ => hI9)
    (rename _ = List.take kPre.length ns => e9)
    (rename ns.getD kN.toNat 0 = 0 => g9)
    (rename kN = 0 => z9)
    have hk : kPre.length = 0 := by omega
    have hlt : 0 < ns.length := by omega
    rw [z9] at g9
    rw [hk, List.take_zero] at e9
    subst e9
    cases hI9
    refine sz_ret (ys := [Value.str (Str.ofString "refused") _]) ret (by assumption) kN9 (List.Mem.head _) (by with_unfolding_all rfl) ?_ (by simp) (fun p hp => by simp [hp])
    rw [sizesD_refused (by rw [getD_some hlt]; exact congrArg some g9)]
    exact CarriedAll.cons (Carried.str _ _) CarriedAll.nil
  -- the last again
  · (rename News h₀ L _ _ => kN9)
    (rename IntsAre _ (List.take 9 _) => hI9)
    (rename _ = List.take kPre.length ns => e9)
    (rename ns.getD kN.toNat 0 = 0 => g9)
    (rename kN ≠ 0 => z9)
    have hk : kN.toNat = kPre.length := by omega
    have hk1 : (kN - 1).toNat = kPre.length - 1 := by omega
    have hlt : kPre.length < ns.length := by omega
    rw [hk] at g9
    refine sz_ret ret (by assumption) kN9 (List.Mem.head _) rfl (carried_of hI9 ?_) (by simp) (fun p hp => by simp [hp])
    rw [sizesD_rep hlt (by omega) (by assumption) (by rw [getD_some hlt, g9]), e9, hk1]
    rfl
  -- to the end
  · (rename News h₀ L _ _ => kN9)
    (rename IntsAre _ (List.take 9 _) => hI9)
    (rename _ = List.take _ ns => e9)
    have hl : (rangeKs 0 ((ns.length : Int) - 0).toNat).length = ns.length := by rw [rangeKs_length]; omega
    refine sz_ret ret (by assumption) kN9 (List.Mem.head _) rfl (carried_of hI9 ?_) (by simp) (fun p hp => by simp [hp])
    rw [sizesD_stop (k := (rangeKs 0 ((ns.length : Int) - 0).toNat).length) (by omega) (by assumption) (.inl hl), e9]
end
end Mine
/- Gen1 -/
namespace Mine

section heap
/-- the part of a heap that lies below an address -/
def cutAt (h : Heap) (n : Nat) : Heap := ⟨h.objs.extract 0 n, h.life⟩
theorem cutAt_lt {h : Heap} {n b : Nat} (hb : b < n) : (cutAt h n).get? b = h.get? b := by
  have e : (h.objs.extract 0 n)[b]? = h.objs[b]? := by
    rw [Array.getElem?_extract]
    by_cases hs : b < h.objs.size
    · rw [if_pos (by omega), Nat.zero_add]
    · rw [if_neg (by omega), Array.getElem?_eq_none (by omega)]
  unfold Heap.get? cutAt
  dsimp only
  rw [e]
theorem cutAt_ge {h : Heap} {n b : Nat} (hb : n ≤ b) : (cutAt h n).get? b = none := by
  have e : (h.objs.extract 0 n)[b]? = none := Array.getElem?_eq_none (by rw [Array.size_extract]; omega)
  unfold Heap.get? cutAt
  dsimp only
  rw [e]
theorem cutAt_of {h : Heap} {n b : Nat} {o : Obj} (e : (cutAt h n).get? b = some o) : b < n ∧ h.get? b = some o := by
  by_cases hb : b < n
  · exact ⟨hb, by rw [← cutAt_lt hb]; exact e⟩
  · rw [cutAt_ge (by omega)] at e; cases e
theorem cutAt_size (h : Heap) (n : Nat) : (cutAt h n).objs.size ≤ n := by
  show (h.objs.extract 0 n).size ≤ n
  rw [Array.size_extract]; omega
theorem cutAt_fr {h : Heap} {n : Nat} {m : Str → Option Value} (x : h.Ns n m) : Fr (cutAt h n) n h m := ⟨x, fun _ _ e => (cutAt_of e).2, cutAt_size h n⟩
theorem cutAt_stays {h₀ h : Heap} {n : Nat} (hn : h₀.objs.size ≤ n) (k : ∀ b o, h₀.get? b = some o → h.get? b = some o) : h₀.StaysIn (cutAt h n) :=
  fun b o e => by rw [cutAt_lt (Nat.lt_of_lt_of_le (Heap.lt_size e) hn)]; exact k b o e
end heap

section segs
variable {prog : Program} {w : World} {A : Around} {R : GenEnd} {Y : Protocol} {n : Nat} {s₀ : Shared} {c : Code} {fs : List Frame} {s : Shared} {env : Env}
  {K : Flow → Sem Fin} {H : Value → Sem Fin} {gd : Bool → Bool} {lv : List Value → List Value}

theorem seg_exec {st : Stmt} (h : wpAny (model prog w) (A.over c fs) (exec st env) (fun f s' => Seg (model prog w) A R Y n s₀ c (K f) fs s') (fun x s' => Seg (model prog w) A R Y n s₀ c (H x) fs s') s) :
    Seg (model prog w) A R Y n s₀ c ((exec st env).wrap K H gd lv) fs s := seg_wrap h

theorem seg_If {test : Expr} {body orelse : List Stmt} {pos : Pos}
    (h : wpAny (model prog w) (A.over c fs) (isTrue test env (eval test env)) (fun b s' =>
      if b = true then Seg (model prog w) A R Y n s₀ c ((execs body env).wrap K H gd lv) fs s' else Seg (model prog w) A R Y n s₀ c ((execs orelse env).wrap K H gd lv) fs s')
      (fun x s' => Seg (model prog w) A R Y n s₀ c (H x) fs s') s) :
    Seg (model prog w) A R Y n s₀ c ((exec (.If test body orelse pos) env).wrap K H gd lv) fs s := by
  rw [exec_If]
  show Seg _ A R Y n s₀ c (.at pos fun _ => (isTrue test env (eval test env) >>= fun b => if b = true then execs body env else execs orelse env).wrap K H gd lv) fs s
  refine seg_at ?_
  rw [Sem.bind_eq_wrap', Sem.wrap_wrap]
  refine seg_wrap (wpAny_mono h (fun b s' hb => ?_) fun _ _ x => x)
  cases b with
  | true => simpa using hb
  | false => simpa using hb

theorem seg_For {target iter : Expr} {body orelse : List Stmt} {pos : Pos} (hs : ∀ x, foldedSetIterable iter env x = pure x)
    (h : wpAny (model prog w) (A.over c fs) (eval iter env) (fun x s' => wpAny (model prog w) (A.over c fs) (pyIter x) (fun it s'' =>
      ∀ p l, Seg (model prog w) A R Y n s₀ (.forLoop target it body orelse env) ((model prog w).den (.forLoop target it body orelse env))
        (.ret (fun r => ((match r with | .ok f => (.pure f : Sem Flow) | .error e => .raise e).onRaise fun (x : Value) => do
        if (← field x 1) == Value.none then unsupported "frame.own-activation:exception-without-traceback"
        setFlight x env.frame).wrap K H gd lv) none (gd false) l c p [] :: fs) s'') (fun x s' => Seg (model prog w) A R Y n s₀ c (H x) fs s') s')
      (fun x s' => Seg (model prog w) A R Y n s₀ c (H x) fs s') s) :
    Seg (model prog w) A R Y n s₀ c ((exec (.For target iter body orelse pos) env).wrap K H gd lv) fs s := by
  rw [exec_For]
  show Seg _ A R Y n s₀ c (.at pos fun _ => (eval iter env >>= fun y => foldedSetIterable iter env y >>= fun x => (standAt iter.pos >>= fun _ => (holding [x] (pyIter x) >>= fun it => runOwn (.forLoop target it body orelse env) env))).wrap K H gd lv) fs s
  refine seg_at ?_
  rw [Sem.bind_eq_wrap', Sem.wrap_wrap]
  refine seg_wrap (wpAny_mono h (fun x s' hx => ?_) fun _ _ x => x)
  rw [hs x]
  show Seg _ A R Y n s₀ c (.at iter.pos fun _ => (holding [x] (pyIter x) >>= fun it => runOwn (.forLoop target it body orelse env) env).wrap K H _ _) fs s'
  refine seg_at ?_
  rw [Sem.bind_eq_wrap', Sem.wrap_wrap]
  refine seg_wrap (wpAny_holding (wpAny_mono hx (fun it s'' hit => ?_) fun _ _ x => x))
  exact seg_call fun p => hit p _

theorem seg_forLoop {target it : _} {body orelse : List Stmt} (ht : ∀ v, letOwnedTupleGo target it v = pure ())
    (h : wpAny (model prog w) (A.over (.forLoop target it body orelse env) fs) (pyNext it) (fun r s' => match r with
      | none => Seg (model prog w) A R Y n s₀ (.forLoop target it body orelse env) (.pure (.again (.block orelse env))) fs s'
      | some v => wpAny (model prog w) (A.over (.forLoop target it body orelse env) fs) (assign target env v) (fun _ s'' =>
          Seg (model prog w) A R Y n s₀ (.forLoop target it body orelse env) ((execs body env).wrap (fun f => match f with
            | .next | .cont => .pure (.again (.forLoop target it body orelse env))
            | .brk => .pure (.done .next)
            | .ret v => .pure (.done (.ret v))) (fun e => (do noteFrame e env; theTreesLotGoes e : Sem Unit).wrap (fun _ => .raise e) .raise id id) id id) fs s'')
          (fun x s'' => False) s')
      (fun _ _ => False) s) :
    Seg (model prog w) A R Y n s₀ (.forLoop target it body orelse env) ((model prog w).den (.forLoop target it body orelse env)) fs s := by
  show Seg _ A R Y n s₀ _ ((forTurn target it body orelse env).onRaise (fun x => do noteFrame x env; theTreesLotGoes x)) fs s
  unfold forTurn
  show Seg _ A R Y n s₀ _ (.at target.pos fun _ => (((pyNext it).onRaise (fun _ => standAt { target.pos with line := 0 }) >>= fun r => match r with
    | none => again (.block orelse env)
    | some v => (letOwnedTupleGo target it v >>= fun _ => assign target env v >>= fun _ => execs body env >>= fun f => match f with
      | .next | .cont => again (.forLoop target it body orelse env)
      | .brk => pure (.done .next)
      | .ret v => pure (.done (.ret v)))).onRaise (fun x => do noteFrame x env; theTreesLotGoes x))) fs s
  refine seg_at ?_
  rw [Sem.onRaise_eq_wrap, Sem.bind_eq_wrap', Sem.wrap_wrap, Sem.onRaise_eq_wrap, Sem.wrap_wrap]
  refine seg_wrap (wpAny_mono h (fun r s' hr => ?_) fun _ _ x => x.elim)
  cases r with
  | none => exact hr
  | some v =>
    show Seg _ A R Y n s₀ _ ((letOwnedTupleGo target it v >>= fun _ => assign target env v >>= fun _ => execs body env >>= fun f => match f with
      | .next | .cont => again (.forLoop target it body orelse env)
      | .brk => pure (.done .next)
      | .ret v => pure (.done (.ret v))).wrap _ _ _ _) fs s'
    rw [ht v]
    show Seg _ A R Y n s₀ _ ((assign target env v >>= fun _ => execs body env >>= fun f => match f with
      | .next | .cont => again (.forLoop target it body orelse env)
      | .brk => pure (.done .next)
      | .ret v => pure (.done (.ret v))).wrap _ _ _ _) fs s'
    rw [Sem.bind_eq_wrap', Sem.wrap_wrap]
    refine seg_wrap (wpAny_mono hr (fun _ s'' h2 => ?_) fun _ _ x => x.elim)
    rw [Sem.bind_eq_wrap', Sem.wrap_wrap]
    rw [Sem.wrap_congr (execs body env) _ _ (K' := fun f => match f with
            | .next | .cont => .pure (.again (.forLoop target it body orelse env))
            | .brk => .pure (.done .next)
            | .ret v => .pure (.done (.ret v))) (H' := (fun e => (do noteFrame e env; theTreesLotGoes e : Sem Unit).wrap (fun _ => .raise e) .raise id id))
        (fun f => by cases f <;> rfl)
        (fun e => by first | exact Sem.bind_eq_wrap _ _ | (show (do noteFrame e env; theTreesLotGoes e : Sem Unit).bind (fun _ => .raise e) = _; rw [Sem.bind_eq_wrap]))]
    exact h2
end segs

section first
variable {prog : Program} {w : World} {A : Around} {E : Value → Shared → Prop} {s : Shared} {env : Env} {h₀ : Heap} {L : Addr} {m : Str → Option Value} {news : List (Addr × Obj)}
/-- a loop over a list that leaves in its first turn -/
theorem for_first {x : Str} {px pos : Pos} {iter : Expr} {body : List Stmt} {l : Addr} {its : Array Value} {v : Value} {Q : Flow → Shared → Prop} (F : Fr h₀ L s.heap m) (N : News h₀ L s.heap news) (hl : s.heap.IsList l its) (h0 : its[0]? = some v)
    (hi : wpAny (model prog w) A (eval iter env) (fun y s' => y = .ref l ∧ s' = s) E s) (hs : ∀ x, foldedSetIterable iter env x = pure x)
    (hst : ∀ (s' : Shared) (nw : List (Addr × Obj)) (Q' : Unit → Shared → Prop) (E' : Value → Shared → Prop), Fr h₀ L s'.heap m → News h₀ L s'.heap nw → (∀ h', Fr h₀ L h' (fun y => if y = x then some v else m y) → News h₀ L h' nw → Q' () { s' with heap := h', toks := s'.toks + 1 }) → wpAny (model prog w) A (storeName env x v) Q' E' s')
    (turn : ∀ h', Fr h₀ L h' (fun y => if y = x then some v else m y) → News h₀ L h' news →
      wpAny (model prog w) A (execs body env) (fun f s' => match f with | .ret v => Q (.ret v) s' | .brk => Q .next s' | _ => False) E { s with heap := h', toks := s.toks + 1 })
    (hE : PassesOwn (model prog w) A env E) :
    wpAny (model prog w) A (exec (.For (.Name x px) iter body [] pos) env) Q E s := by
  refine wpAny_For (wpAny_mono hi (fun y s' hy => ?_) fun _ _ e => e) hs
  obtain ⟨rfl, rfl⟩ := hy
  refine wpAny_pyIter_list hl ?_
  have hfr : ∀ b, s'.heap.objs.size ≤ b → h₀.get? b = none := fun b hb => by
    cases e : h₀.get? b with
    | none => rfl
    | some o => exact absurd (Heap.lt_size (F.keep b o e)) (Nat.not_lt.mpr hb)
  have hlt : ∀ {b o}, s'.heap.get? b = some o → b ≠ s'.heap.objs.size := fun e => Nat.ne_of_lt (Heap.lt_size e)
  refine codeAny_forLoop (fun _ s'' => s'' = { s' with heap := s'.heap.push { cls := .type "list_iterator", data := .fields #[.ref l, .int 0 0] } }) (fun k s'' hI => ?_) 0 rfl
  subst hI
  refine wpAny_pyNext_list_item ⟨_, Heap.get?_push_size _ rfl, rfl, rfl⟩ (hl.push _) h0 fun h1 hit1 hsb1 => ?_
  have keep1 : ∀ b o, b ≠ s'.heap.objs.size → s'.heap.get? b = some o → h1.get? b = some o := fun b o hb e => hsb1.extBut b o hb (Heap.get?_push_of_some _ e)
  have F1 : Fr h₀ L h1 m := F.keeps fun b o e => keep1 b o (hlt e) e
  have N1 : News h₀ L h1 news := fun p hp => ⟨keep1 _ _ (hlt (N p hp).1) (N p hp).1, (N p hp).2⟩
  refine wpAny_assign_Name (hst { s' with heap := h1 } news _ _ F1 N1 fun h2 F2 N2 => ?_)
  refine wpAny_mono (turn h2 F2 N2) (fun f s'' hf => ?_) (fun e s'' he => hE e s'' he)
  cases f with
  | next => exact hf.elim
  | cont => exact hf.elim
  | brk => exact hf
  | ret v => exact hf
end first

section next
variable {prog : Program} {w : World} {A : Around} {E : Value → Shared → Prop} {s : Shared}

/-- the next of a generator function's generator, its ends told bare -/
theorem pyNext_fgen {a : Addr} {g n : Nat} {gs : GenState} {P : Nat → Shared → Shared → Prop} {Y : Protocol} {Q : Option Value → Shared → Prop} (hh : A.handled = none)
    (hl : s.heap.NoLimit) (hroom : A.depth < recursionLimit)
    (hg : s.heap.IsGen a g) (hgs : s.gens[g]? = some gs)
    (hgo : gs.Goes (model prog w) A.in1 (fun n s₀ r s₁ => r = .ok (.ret .none) ∧ P n s₀ s₁) Y n (.send .none) (s.setGen g .running))
    (hY : ∀ v s₁ gs', gs'.bare = true → Y (n - 1) (s.setGen g .running) v s₁ (fun r' s'' => match n with
        | 0 => False
        | m + 1 => gs'.Goes (model prog w) A.in1 (fun n s₀ r s₁ => r = .ok (.ret .none) ∧ P n s₀ s₁) Y m r' s'') → Q (some v) (s₁.setGen g gs'))
    (hP : ∀ s₁, P n (s.setGen g .running) s₁ → ∀ h', (∀ b o, s₁.heap.get? b = some o → h'.get? b = some o) → Q none { s₁.setGen g .finished with heap := h' }) :
    wpAny (model prog w) A (pyNext (.ref a)) Q E s := by
  unfold pyNext
  refine wpAny_bind (wpAny_attempt (wpAny_callSpecial?_slot (name := Str.ofString "__next__") hg.typeIs slot_gen_next
    (wpAny_call_entry slot_gen_next hg.typeIs entry_gen_next ?_ (args_gen_next _))))
  show wpAny _ _ (Builtin.Generator.genWake (.ref a) (.send .none)) _ _ s
  unfold Builtin.Generator.genWake
  refine wpAny_bind (wpAny_holding (wpAny_genNumber hg (wpAny_bind (wpAny_genState hgs ?_))))
  cases gs with
  | running => exact hgo.elim
  | finished => exact hgo.elim
  | _ =>
    refine wpAny_bind (wpAny_roomToWake hl hroom ?_)
    show wpAny _ _ (.resume g (.send .none) [] _) _ _ s
    refine wpAny_resumeQ hgs hgo (fun x s₁ hx => ?_) (fun v s₁ gs' hb hv => ?_)
    · obtain ⟨rfl, hp⟩ := hx
      show wpAny _ _ (newExc (.type "StopIteration") [] >>= _) _ _ _
      refine wpAny_bind ?_
      simp only [newExc, newTuple]
      refine wpAny_bind (wpAny_newObj_type ?_ (by size_fits))
      refine wpAny_bind (m := firstArgMember _ _) (wpAny_of_eq (a := Value.none) (by first | rfl | (simp only [firstArgMember]; rfl)) ?_)
      refine wpAny_newObj_type ?_ (by size_fits)
      simp only [raiseNew]
      refine wpAny_bind (wpAny_bind (wpAny_handled ?_))
      rw [show A.in1.handled = none from hh]
      refine wpAny_throw ?_
      refine wpAny_bind (wpAny_isInstance (T := "StopIteration") (b := true) ⟨_, Heap.get?_push_size _ rfl, rfl⟩ isSubtype_stop ?_)
      exact wpAny_pure (hP s₁ hp _ fun b o hb => Heap.get?_push_of_some _ (Heap.get?_push_of_some _ hb))
    · exact wpAny_pure ⟨v, rfl, wpAny_pure (hY v s₁ gs' hb hv)⟩

theorem notStop : isSubtype (.type "ValueError") (.type "StopIteration") = pure false := by rw [isSubtype_type]; kernel_rfl

/-- the first next of a generator that raises a ValueError ahead of any yield -/
theorem pyNext_fgenE {a : Addr} {g : Nat} {c : Code} {P : Addr → Shared → Prop} {Q : Option Value → Shared → Prop}
    (hl : s.heap.NoLimit) (hroom : A.depth < recursionLimit) (hg : s.heap.IsGen a g) (hgs : s.gens[g]? = some (.fresh c))
    (hgo : Seg (model prog w) A.in1 (fun _ _ r s₁ => ∃ ea, r = .error (.ref ea) ∧ P ea s₁) (fun _ _ _ _ _ => False) 0 (s.setGen g .running) c ((model prog w).den c) [] (s.setGen g .running))
    (hE : ∀ ea s₁, P ea s₁ → s₁.heap.IsGen a g ∧ (∃ o, s₁.heap.get? ea = some o ∧ o.cls = .type "ValueError") ∧ E (.ref ea) (s₁.setGen g .finished)) :
    wpAny (model prog w) A (pyNext (.ref a)) Q E s := by
  unfold pyNext
  refine wpAny_bind (wpAny_attempt (wpAny_callSpecial?_slot (name := Str.ofString "__next__") hg.typeIs slot_gen_next
    (wpAny_call_entry slot_gen_next hg.typeIs entry_gen_next ?_ (args_gen_next _))))
  show wpAny _ _ (Builtin.Generator.genWake (.ref a) (.send .none)) _ _ s
  unfold Builtin.Generator.genWake
  refine wpAny_bind (wpAny_holding (wpAny_genNumber hg (wpAny_bind (wpAny_genState hgs ?_))))
  refine wpAny_bind (wpAny_roomToWake hl hroom ?_)
  show wpAny _ _ (.resume g (.send .none) [] _) _ _ s
  refine wpAny_resumeQ (n := 0) hgs ⟨rfl, hgo⟩ (fun x s₁ hx => ?_) (fun v s₁ gs' hb hv => hv.elim)
  obtain ⟨ea, rfl, hp⟩ := hx
  obtain ⟨⟨o, nm, qn, ho, hcls, hdat, hsl⟩, hty, hEe⟩ := hE ea s₁ hp
  show wpAny _ _ (Builtin.Generator.genLeft (.ref a) (.ref ea)) _ _ _
  unfold Builtin.Generator.genLeft Builtin.Generator.madeByALambda
  refine wpAny_bind (wpAny_bind (wpAny_load ho ?_))
  refine wpAny_pure ?_
  refine wpAny_bind (wpAny_isInstance (T := "ValueError") (b := false) hty notStop ?_)
  rw [hdat, hcls]
  show wpAny _ _ (Builtin.Generator.genEscaped (.ref ea)) _ _ _
  unfold Builtin.Generator.genEscaped
  refine wpAny_bind (wpAny_isInstance (T := "ValueError") (b := false) hty notStop ?_)
  refine wpAny_throw ?_
  refine wpAny_bind (wpAny_isInstance (T := "ValueError") (b := false) hty notStop ?_)
  exact wpAny_throw hEe
end next
end Mine
/- Gen2 -/
namespace Mine

def gDef : Stmt := (PySem.Challenge.rw_wy0062_01.row.prog.main.body.drop 4).headD (.Pass ⟨0, 0, 0, 0⟩)
def gBody : List Stmt := match gDef with
  | .FunctionDef _ _ b _ _ _ _ _ _ _ => b
  | _ => []
def gScope : Scope := match gDef with
  | .FunctionDef _ _ _ _ _ _ sc _ _ _ => sc
  | _ => default
abbrev gEnv (Lg : Addr) : Env := envOf (Str.ofString "_grouping_intervals") gScope Lg 35 (.ref 34)
abbrev gObj (g t u : Nat) : Obj := { cls := .type "generator", data := .fields #[.int g 0, .str (Str.ofString "_grouping_intervals") t, .str (Str.ofString "_grouping_intervals") u] }
/-- the generator's names -/
def gMap (l : Addr) (last cur : Option Value) : Str → Option Value := fun y =>
  if y = Str.ofString "interval" then cur else if y = Str.ofString "last_interval" then last else if y = Str.ofString "grouping" then some (.ref l) else none

section
variable {w : World} {A : Around} {g₀ : Heap} {L : Addr} {m : Str → Option Value} {news : List (Addr × Obj)} {s : Shared} {Q E : Value → Shared → Prop} {mean : ExcName → Option Value} {mg mb : Str → Option Value} {l : Addr}

theorem gen_call (F : Fr g₀ L s.heap m) (X : (Mine.hd.heap_39 w.params).In g₀) (N : News g₀ L s.heap news) (T : Top Mine.hd.view_39 (looseW Mine.hd.view_39 []) mean mg mb g₀) (hroom : A.depth < recursionLimit)
    (h : ∀ Lg G oL t u h' tk, Fr g₀ L h' m → News g₀ L h' ((G, gObj s.gens.size t u) :: (Lg, oL) :: news) → LCg.NsObj oL (gMap l none none) → Lg = s.heap.objs.size → G = Lg + 1 → h'.objs.size = G + 1 →
      Q (.ref G) { s with heap := h', gens := s.gens.push (.fresh (.func gBody (gEnv Lg))), toks := tk }) :
    wpAny (model PySem.Challenge.rw_wy0062_01.row.prog w) A (call (.ref 35) [.ref l]) Q E s := by
  revert X; k_fill; intro X
  k_with_none
  w_top off
  refine wpAny_call ?_
  have X' := X.keeps F.keep
  have hlim := T.nolimit.keeps F.keep
  refine codeAny_call_generator (fd := _) (o := _) (body := gBody) hroom (X' 35 _ (by exact rfl)) rfl rfl rfl rfl (codeRec_of X' (by with_unfolding_all rfl)) ?_
  refine (BindsTo.of_eq (binds := [(Str.ofString "grouping", .ref l)]) (by with_unfolding_all rfl)) _ _ _ _ ?_
  refine wpAny_newFunctionEnv (by with_unfolding_all decide) (fun x hx => by
    rcases List.mem_cons.mp hx with rfl | hx
    · with_unfolding_all rfl
    · cases hx) (fun h' hns hsb => ?_) (by with_unfolding_all rfl)
  have keep : ∀ b o, s.heap.get? b = some o → h'.get? b = some o := fun b o e => hsb.extBut b o (Nat.ne_of_lt (Heap.lt_size e)) (Heap.get?_push_of_some _ e)
  have hL0 : ∀ b, s.heap.objs.size ≤ b → g₀.get? b = none := fun b hb => by
    cases e : g₀.get? b with
    | none => rfl
    | some o => exact absurd (Heap.lt_size (F.keep b o e)) (Nat.not_lt.mpr hb)
  have hsz : h'.objs.size = s.heap.objs.size + 1 := by rw [hsb.1, Heap.size_push]
  obtain ⟨oL, e1, e2⟩ := LCg.ns_obj hns
  refine ⟨hlim.keeps keep, ?_⟩
  have hlt : ∀ b o, s.heap.get? b = some o → b < s.heap.objs.size := fun b o e => Heap.lt_size e
  have keep2 : ∀ ob b o, h'.get? b = some o → (h'.push ob).get? b = some o := fun ob b o e => Heap.get?_push_of_some _ e
  have hLL : L < s.heap.objs.size := F.ns.lt
  have F2 : ∀ ob, Fr g₀ L (h'.push ob) m := fun ob => F.keeps fun b o e => keep2 ob b o (keep b o e)
  have N2 : ∀ t u, News g₀ L (h'.push (gObj s.gens.size t u)) ((h'.objs.size, gObj s.gens.size t u) :: (s.heap.objs.size, oL) :: news) := fun t u p hp => by
    rcases List.mem_cons.mp hp with rfl | hp
    · exact ⟨Heap.get?_push_size _ rfl, by show h'.objs.size ≠ L; rw [hsz]; exact Ne.symm (Nat.ne_of_lt (Nat.lt_succ_of_lt hLL)), hL0 _ (by rw [hsz]; exact Nat.le_succ _)⟩
    · rcases List.mem_cons.mp hp with rfl | hp
      · exact ⟨keep2 _ _ _ e1, Ne.symm (Nat.ne_of_lt hLL), hL0 _ (Nat.le_refl _)⟩
      · exact ⟨keep2 _ _ _ (keep _ _ (N p hp).1), (N p hp).2⟩
  have hm : LCg.NsObj oL (gMap l none none) := by
    obtain ⟨es, ep, d1, d2, d3⟩ := e2
    refine ⟨es, ep, d1, d2, fun name => (d3 name).trans ?_⟩
    unfold gMap
    by_cases h1 : name = Str.ofString "grouping"
    · subst h1; rw [if_neg (by decide +kernel), if_neg (by decide +kernel), if_pos rfl]; with_unfolding_all rfl
    · have h2 : (name == Str.ofString "grouping") = false := by simp [h1]
      simp [List.lookup_cons, h1, h2]
  have q := h s.heap.objs.size h'.objs.size oL (s.toks + 1) (s.toks + 1 + 1) _ (s.toks + 1 + 1 + 1) (F2 _) (N2 _ _) hm rfl hsz (by rw [Heap.size_push])
  exact q
end
end Mine
/- Gen3 -/
namespace Mine
/-- the ground of the generator's frame: what lies below it, but for the ledger's objects -/
def gnd (h : Heap) (n : Nat) (as : List Addr) : Heap := hideAll (cutAt h n) as
theorem gnd_of {h : Heap} {n : Nat} {as : List Addr} {b : Addr} {o : Obj} (e : (gnd h n as).get? b = some o) : b < n ∧ h.get? b = some o := cutAt_of (of_hideAll as e)
theorem gnd_get {h : Heap} {n : Nat} {as : List Addr} {b : Addr} {o : Obj} (e : h.get? b = some o) (hb : b < n) (ha : b ∉ as) : (gnd h n as).get? b = some o :=
  hideAll_get as (by rw [cutAt_lt hb]; exact e) ha
theorem gnd_ge {h : Heap} {n : Nat} {as : List Addr} {b : Addr} (hb : n ≤ b) : (gnd h n as).get? b = none := by
  cases e : (gnd h n as).get? b with
  | none => rfl
  | some o => exact absurd (gnd_of e).1 (Nat.not_lt.mpr hb)
theorem gnd_in {h : Heap} {n : Nat} {as : List Addr} {b : Addr} (hb : b ∈ as) : (gnd h n as).get? b = none := hideAll_none as hb
theorem gnd_size (h : Heap) (n : Nat) (as : List Addr) : (gnd h n as).objs.size ≤ n := by
  unfold gnd; rw [hideAll_size]; exact cutAt_size h n

section
variable {h g : Heap} {L Lg : Addr} {m mG : Str → Option Value} {nw more : List (Addr × Obj)}
theorem gnd_fr (x : h.Ns Lg mG) : Fr (gnd h Lg (nw.map (·.1))) Lg h mG := ⟨x, fun _ _ e => (gnd_of e).2, gnd_size _ _ _⟩
theorem gnd_news (N : News g L h nw) (hn : ∀ p ∈ nw, p.1 < Lg) : News (gnd h Lg (nw.map (·.1))) Lg h nw := fun p hp =>
  ⟨(N p hp).1, Nat.ne_of_lt (hn p hp), gnd_in (List.mem_map_of_mem hp)⟩
theorem gnd_stays (F : Fr g L h m) (N : News g L h nw) (hL : L < Lg) : g.StaysIn (gnd h Lg (nw.map (·.1))) := fun b o e => by
  refine gnd_get (F.keep b o e) (Nat.lt_of_lt_of_le (Heap.lt_size e) (Nat.le_trans F.above (Nat.le_of_lt hL))) fun q => ?_
  obtain ⟨p, hp, rfl⟩ := List.mem_map.mp q
  rw [(N p hp).2.2] at e; cases e
theorem gnd_back (F : Fr g L h m) (N : News g L h nw) (hL : L < Lg) : Fr g L (gnd h Lg (nw.map (·.1))) m :=
  ⟨F.ns.at' fun o e => gnd_get e hL fun q => by
      obtain ⟨p, hp, e'⟩ := List.mem_map.mp q
      exact (N p hp).2.1 e', gnd_stays F N hL, F.above⟩
end

def GenRaised (base g' : Heap) (envs : List Env) (nw : List (Addr × Obj)) (s : Shared) (e : Value) (s₁ : Shared) : Prop :=
  ∃ ea, e = .ref ea ∧ (∃ t' vs', RaisedS base g' envs ea (.type "ValueError") t' vs' nw s₁.heap) ∧ g'.UpToSlots s₁.heap ∧ ∃ h' tk, s₁ = { s with heap := h', toks := tk }

section
variable {w : World} {cn : Str} {cs : Scope} {Lc ac : Addr} {ccd : Value} {base g₀ : Heap} {outer : List Env} {tn : Str} {ts : Scope} {L ta : Addr} {tcd : Value} {m : Str → Option Value} {news : List (Addr × Obj)} {s : Shared} {Q : Option Value → Shared → Prop} {E : Value → Shared → Prop} {mean : ExcName → Option Value} {mg mb : Str → Option Value}
  {l Lg G Fd : Addr} {gi t u n : Nat} {oL : Obj} {vs : List Value} {ns : List Int}

theorem gen_refused (B : Below (callerA.deeper (envOf cn cs Lc ac ccd)) base outer g₀) (F : Fr g₀ L s.heap m) (X : (Mine.hd.heap_39 w.params).In g₀) (N : News g₀ L s.heap ((Fd, PySem.W.listOf #[] 0) :: (l, PySem.W.listOf vs.toArray n) :: news)) (N2 : News g₀ L s.heap [(G, gObj gi t u), (Lg, oL)])
    (T : Top Mine.hd.view_39 (looseW Mine.hd.view_39 []) mean mg mb g₀) (hts : ts.kind = .function)
    (hL : L < Lg) (hn : ∀ p ∈ (Fd, PySem.W.listOf #[] 0) :: (l, PySem.W.listOf vs.toArray n) :: news, p.1 < Lg) (hG : Lg < G) (hns : LCg.NsObj oL (gMap l none none)) (hv : IntsAre vs ns) (h0 : ns[0]? = some 0) (hlen : ns.length ≤ 63)
    (hgs : s.gens[gi]? = some (.fresh (.func gBody (gEnv Lg))))
    (hE : ∀ ea g' h' tk t' vs', RaisedS base g' (envOf tn ts L ta tcd :: outer) ea (.type "ValueError") t' vs' ((Fd, PySem.W.listOf #[] 0) :: (l, PySem.W.listOf vs.toArray n) :: news) h' → Fr g₀ L g' m → g'.UpToSlots h' →
      E (.ref ea) { s with heap := h', gens := s.gens.setIfInBounds gi .finished, toks := tk }) :
    wpAny (model PySem.Challenge.rw_wy0062_01.row.prog w) ((callerA.deeper (envOf cn cs Lc ac ccd)).deeper (envOf tn ts L ta tcd)) (pyNext (.ref G)) Q E s := by
  revert X; k_fill; intro X
  k_with_none
  w_top off
  have eG := (N2 _ (List.Mem.head _)).1
  have eL := (N2 _ (List.Mem.tail _ (List.Mem.head _))).1
  have st := gnd_stays F N hL
  have FB := gnd_back F N hL
  have FG : Fr _ Lg _ _ := gnd_fr (nw := (Fd, PySem.W.listOf #[] 0) :: (l, PySem.W.listOf vs.toArray n) :: news) (hns.ns eL)
  have NG := gnd_news N hn
  have BG := B.push (name := tn) (a := ta) (cd := tcd) FB hts
  have BG1 : Below ((callerA.deeper (envOf cn cs Lc ac ccd)).deeper (envOf tn ts L ta tcd)).in1 base (envOf tn ts L ta tcd :: outer) _ := ⟨BG.stack, BG.stays, BG.frames⟩
  have XG := X.keeps st
  have TG := T.keeps st
  generalize hg : gnd s.heap Lg _ = g' at FB FG NG BG BG1 XG TG
  refine pyNext_fgenE (c := .func gBody (gEnv Lg)) (P := fun ea s₁ => (∃ t' vs', RaisedS base g' (envOf tn ts L ta tcd :: outer) ea (.type "ValueError") t' vs' ((G, gObj gi t u) :: (Fd, PySem.W.listOf #[] 0) :: (l, PySem.W.listOf vs.toArray n) :: news) s₁.heap) ∧ g'.UpToSlots s₁.heap ∧ ∃ h' tk, s₁ = { s.setGen gi .running with heap := h', toks := tk })
    (T.nolimit.keeps F.keep) (by show callerA.depth + 1 + 1 < recursionLimit; decide) ⟨_, _, _, eG, rfl, rfl, rfl⟩ hgs ?_ ?_
  · have NG2 : News g' Lg s.heap ((G, gObj gi t u) :: (Fd, PySem.W.listOf #[] 0) :: (l, PySem.W.listOf vs.toArray n) :: news) := fun p hp => by
      rcases List.mem_cons.mp hp with rfl | hp
      · exact ⟨eG, Ne.symm (Nat.ne_of_lt hG), by rw [← hg]; exact gnd_ge (Nat.le_of_lt hG)⟩
      · exact NG p hp
    have kd : KtsDicts [] g' := ktsDicts_nil
    refine seg_func ?_
    refine seg_wrap ?_
    have walk : wpAny (model PySem.Challenge.rw_wy0062_01.row.prog w) (((callerA.deeper (envOf cn cs Lc ac ccd)).deeper (envOf tn ts L ta tcd)).in1.deeper (gEnv Lg)) (execs gBody (gEnv Lg)) (fun _ _ => False)
        (fun e s' => wpAny (model PySem.Challenge.rw_wy0062_01.row.prog w) (((callerA.deeper (envOf cn cs Lc ac ccd)).deeper (envOf tn ts L ta tcd)).in1.deeper (gEnv Lg)) (leaving (gEnv Lg) e) (fun _ s₁ => GenRaised base g' (envOf tn ts L ta tcd :: outer) ((G, gObj gi t u) :: (Fd, PySem.W.listOf #[] 0) :: (l, PySem.W.listOf vs.toArray n) :: news) (s.setGen gi .running) e s₁) (fun _ _ => False) s') (s.setGen gi .running) := by
      clear hE hgs
      show wpAny _ _ _ _ _ { s with gens := s.gens.setIfInBounds gi .running }
      with_unfolding_all k_fold
      clear B F N N2 T BG FB eG eL st NG X
      obtain ⟨v0, vs', rfl⟩ : ∃ t0 vs', vs = Value.int 0 t0 :: vs' := by
        cases hv with
        | nil => simp at h0
        | cons i tk r => simp at h0; subst h0; exact ⟨tk, _, rfl⟩
      iterate 5 (with_unfolding_all walk1)
      (rename Fr _ _ _ _ => fF9); (rename News _ _ _ _ => fN9)
      (with_unfolding_all refine' for_first (l := l) (v := Value.int 0 v0) (its := (Value.int 0 v0 :: vs').toArray) fF9 fN9 ?q1 rfl ?q2 ?q3 ?q4 ?_ ?q5)
      (case q1 => exact News.isList fN9 (by k_mem))
      (case q2 => exact ld fF9 (by with_unfolding_all rfl) ⟨rfl, rfl⟩)
      (case q3 => (intro _; with_unfolding_all rfl))
      (case q4 => exact fun s9 nw9 Q9 E9 F9 N9 h9 => stN F9 N9 (fun h10 F10 N10 => h9 h10 F10 N10) (by with_unfolding_all rfl) (by with_unfolding_all rfl))
      (case q5 => with_unfolding_all passes_own)
      clear fF9 fN9
      intro h' F' N'
      with_unfolding_all k_steps
      exact ⟨_, rfl, ⟨_, _, by assumption⟩, by assumption, _, _, rfl⟩
    refine wpAny_mono walk (fun _ _ x => x.elim) (fun e s' he => ?_)
    refine seg_wrap (wpAny_mono he (fun _ s'' hp => ?_) (fun _ _ x => x.elim))
    obtain ⟨ea, rfl, hp⟩ := hp
    exact seg_end (.error (.ref ea)) ⟨ea, rfl, hp⟩
  · rintro ea s₁ ⟨⟨t', vs', R⟩, U, h', tk, rfl⟩
    obtain ⟨⟨B', hB, hBG, hl, hfl, hnew⟩, htup⟩ := id R
    refine ⟨⟨_, _, _, hfl.1 _ _ (hl _ (List.Mem.head _)).1, rfl, rfl, rfl⟩, hfl.there, ?_⟩
    have e1 : ({ s.setGen gi .running with heap := h', toks := tk } : Shared).setGen gi .finished = { s with heap := h', gens := s.gens.setIfInBounds gi .finished, toks := tk } := by
      simp [Shared.setGen]
    rw [e1]
    exact hE ea g' h' tk t' vs' ⟨⟨B', hB, hBG, fun q hq => hl q (List.Mem.tail _ hq), hfl, hnew⟩, htup⟩ FB U
end
end Mine
/- Gen4 -/
namespace Mine
def cutN (ns : List Int) : Nat := (ns.takeWhile okSize).length
def stream (ns : List Int) (j : Nat) : Int := if j < cutN ns then ns.getD j 0 else ns.getD (cutN ns - 1) 0

theorem cutN_at {ns : List Int} {k : Nat} (h : k ≤ ns.length) (h1 : ∀ j : Nat, j < k → ns[j]? ≠ some 127 ∧ ns[j]? ≠ some 0) (h2 : k = ns.length ∨ ns[k]? = some 127 ∨ ns[k]? = some 0) : cutN ns = k := by
  unfold cutN
  rw [takeWhile_at k ns h h1 h2, List.length_take]; omega
theorem cutN_lt {ns : List Int} {k : Nat} (h1 : ∀ j : Nat, j < k → ns[j]? ≠ some 127 ∧ ns[j]? ≠ some 0) (hk : k ≤ ns.length) : k ≤ cutN ns := by
  induction ns generalizing k with
  | nil => simp at hk; omega
  | cons v r ih =>
    cases k with
    | zero => omega
    | succ k =>
      have hv : okSize v = true := by
        have := h1 0 (by omega)
        simp at this
        simp [okSize, this.1, this.2]
      have := ih (k := k) (fun j hj => by have := h1 (j + 1) (by omega); simpa using this) (by simpa using hk)
      unfold cutN at this ⊢
      simp [List.takeWhile_cons, hv]; omega

/-- what the generator leaves as it was -/
def KeptL (Lg : Addr) (s₀ s₁ : Shared) : Prop := ∃ h tk, s₁ = { s₀ with heap := h, toks := tk } ∧ ∀ b o, b < Lg → s₀.heap.get? b = some o → h.get? b = some o
theorem KeptL.refl {Lg : Addr} {s : Shared} : KeptL Lg s s := ⟨s.heap, s.toks, rfl, fun _ _ _ e => e⟩
theorem KeptL.to {Lg : Addr} {s₀ s₁ : Shared} {h' : Heap} {tk' : Nat} (x : KeptL Lg s₀ s₁) (k : ∀ b o, b < Lg → s₁.heap.get? b = some o → h'.get? b = some o) : KeptL Lg s₀ { s₁ with heap := h', toks := tk' } := by
  obtain ⟨h, tk, rfl, hk⟩ := x
  exact ⟨h', tk', rfl, fun b o hb e => k b o hb (hk b o hb e)⟩

structure GV (h₀ : Heap) (l : Addr) (vs : List Value) (Lg G It : Addr) (oG oL oI : Obj) (h : Heap) : Prop where
  base : ∀ b o, h₀.get? b = some o → h.get? b = some o
  lst : h.IsList l vs.toArray
  loc : h.get? Lg = some oL
  gen : h.get? G = some oG
  it : h.get? It = some oI

structure Rdy (h₀ : Heap) (l : Addr) (vs : List Value) (Lg G It : Addr) (oG : Obj) (last cur : Option Value) (i : Nat) (h : Heap) : Prop where
  base : ∀ b o, h₀.get? b = some o → h.get? b = some o
  lst : h.IsList l vs.toArray
  ns : h.Ns Lg (gMap l last cur)
  gen : h.get? G = some oG
  it : h.IsListIter It l i

def gP (ns : List Int) (Lg G : Addr) (oG : Obj) (n : Nat) (s₀ s₁ : Shared) : Prop := (9 - n = cutN ns ∧ ns[cutN ns]? ≠ some 0) ∧ KeptL Lg s₀ s₁ ∧ s₁.heap.get? G = some oG
def gR (ns : List Int) (Lg G : Addr) (oG : Obj) : GenEnd := fun n s₀ r s₁ => r = .ok (.ret .none) ∧ gP ns Lg G oG n s₀ s₁
def gY (ns : List Int) (h₀ : Heap) (l : Addr) (vs : List Value) (Lg G : Addr) (oG : Obj) : Protocol := fun m s₀ v s kap =>
  (∃ t, v = .int (stream ns (8 - m)) t) ∧ (8 - m < cutN ns ∨ ns[cutN ns]? = some 0) ∧ KeptL Lg s₀ s ∧ s.heap.get? G = some oG ∧ ∃ It oL oI, Lg < It ∧ It ≠ G ∧ s.heap.get? Lg = some oL ∧ s.heap.get? It = some oI ∧
    (0 < m → ∀ s'', GV h₀ l vs Lg G It oG oL oI s''.heap → kap (.send .none) s'')

section
variable {h₀ h h' : Heap} {l Lg G It : Addr} {vs : List Value} {oG oI : Obj} {last cur last' cur' : Option Value} {i : Nat} {s₀ s : Shared} {tk' : Nat}
theorem Rdy.of_gv {oL : Obj} (v : GV h₀ l vs Lg G It oG oL oI h) (hL : LCg.NsObj oL (gMap l last cur)) (hI : oI.cls = .type "list_iterator" ∧ oI.data = .fields #[.ref l, .int i 0]) : Rdy h₀ l vs Lg G It oG last cur i h :=
  ⟨v.base, v.lst, hL.ns v.loc, v.gen, _, v.it, hI.1, hI.2⟩
theorem Rdy.fr (x : Rdy h₀ l vs Lg G It oG last cur i h) : Fr (cutAt h Lg) Lg h (gMap l last cur) := cutAt_fr x.ns
theorem Rdy.stays (x : Rdy h₀ l vs Lg G It oG last cur i h) (hn : h₀.objs.size ≤ Lg) : h₀.StaysIn (cutAt h Lg) := cutAt_stays hn x.base
theorem Rdy.list (x : Rdy h₀ l vs Lg G It oG last cur i h) (hl : l < Lg) : (cutAt h Lg).IsList l vs.toArray := by
  obtain ⟨o, e, r⟩ := x.lst
  exact ⟨o, by rw [cutAt_lt hl]; exact e, r⟩
theorem Rdy.news (x : Rdy h₀ l vs Lg G It oG last cur i h) (h1 : Lg < It) (h2 : Lg < G) : ∃ oI : Obj, (oI.cls = .type "list_iterator" ∧ oI.data = .fields #[.ref l, .int i 0]) ∧ News (cutAt h Lg) Lg h [(It, oI), (G, oG)] := by
  obtain ⟨oI, e, r⟩ := x.it
  refine ⟨oI, r, fun p hp => ?_⟩
  rcases List.mem_cons.mp hp with rfl | hp
  · exact ⟨e, Ne.symm (Nat.ne_of_lt h1), cutAt_ge (Nat.le_of_lt h1)⟩
  · rcases List.mem_cons.mp hp with rfl | hp
    · exact ⟨x.gen, Ne.symm (Nat.ne_of_lt h2), cutAt_ge (Nat.le_of_lt h2)⟩
    · cases hp
/-- a walk's end is ready again -/
theorem Rdy.again (x : Rdy h₀ l vs Lg G It oG last cur i h) (hn : h₀.objs.size ≤ Lg) (hl : l < Lg) (hI : oI.cls = .type "list_iterator" ∧ oI.data = .fields #[.ref l, .int i 0]) {m' : Str → Option Value} (F : Fr (cutAt h Lg) Lg h' m') (N : News (cutAt h Lg) Lg h' [(It, oI), (G, oG)])
    (e : ∀ y, m' y = gMap l last' cur' y) : Rdy h₀ l vs Lg G It oG last' cur' i h' := by
  obtain rfl : m' = gMap l last' cur' := funext e
  refine ⟨fun b o q => F.keep b o (x.stays hn b o q), ?_, F.ns, (N _ (List.Mem.tail _ (List.Mem.head _))).1, _, (N _ (List.Mem.head _)).1, hI.1, hI.2⟩
  obtain ⟨o, q, r⟩ := x.list hl
  exact ⟨o, F.keep _ _ q, r⟩
theorem cut_kept {m' : Str → Option Value} (F : Fr (cutAt h Lg) Lg h' m') : ∀ b o, b < Lg → h.get? b = some o → h'.get? b = some o := fun b o hb e => F.keep b o (by rw [cutAt_lt hb]; exact e)
end
end Mine
/- Gen5 -/
namespace Mine
section
variable {w : World} {cn tn : Str} {cs ts : Scope} {Lc ac L ta : Addr} {ccd tcd : Value} {h₀ : Heap} {l Lg G It : Addr} {vs : List Value} {ns : List Int} {oG : Obj} {mean : ExcName → Option Value} {mg mb : Str → Option Value}

theorem over_while {A : Around} {test : Expr} {body orelse : List Stmt} {env env' : Env} {k1 k2 : Result → Sem Fin} {l1 l2 : List Value} {p1 p2 : Pos} {t it : _} {b o : List Stmt} {g1 g2 : List Value} {b0 : List Stmt} :
    A.over (.whileLoop test body orelse env') [.ret k1 none false l1 (.forLoop t it b o env') p1 g1, .ret k2 none false l2 (.func b0 env) p2 g2] = A.deeper env := by
  obtain ⟨hd, d, fr, gs, u⟩ := A
  cases fr <;> rfl
theorem over_for {A : Around} {env env' : Env} {k2 : Result → Sem Fin} {l2 : List Value} {p2 : Pos} {t it : _} {b o : List Stmt} {g2 : List Value} {b0 : List Stmt} :
    A.over (.forLoop t it b o env') [.ret k2 none false l2 (.func b0 env) p2 g2] = A.deeper env := by
  obtain ⟨hd, d, fr, gs, u⟩ := A
  cases fr <;> rfl
theorem over_func {A : Around} {env : Env} {b0 : List Stmt} : A.over (.func b0 env) [] = A.deeper env := by
  obtain ⟨hd, d, fr, gs, u⟩ := A
  cases fr <;> rfl
theorem over_seg {A : Around} {c : Code} {fs : List Frame} {A' : Around} {R : GenEnd} (h : A.over c fs = A') {α : Type} {m : Sem α} {Q : α → Shared → Prop} {E : Value → Shared → Prop} {s : Shared} (x : wpAny (model PySem.Challenge.rw_wy0062_01.row.prog w) A' m Q E s) : wpAny (model PySem.Challenge.rw_wy0062_01.row.prog w) (A.over c fs) m Q E s := h ▸ x

theorem seg_wh {q p1 p2 p3 pr1 pr2 : Pos} {k1 k2 : Result → Sem Fin} {l1 l2 g1 g2 : List Value} {t it : _} {b : List Stmt} (hn0 : h₀.objs.size ≤ Lg) (hl : l < Lg) (hIt : Lg < It) (hG : Lg < G) (hne : It ≠ G) (XK : (Mine.hd.heap_39 w.params).In h₀) (inf : ns[cutN ns]? = some 0) :
    ∀ n, 0 < n → n ≤ 9 → cutN ns ≤ 9 - n → ∀ (s s₀ : Shared) (i : Nat) (tl : Tok) (cur : Option Value), KeptL Lg s₀ s → Rdy h₀ l vs Lg G It oG (some (.int (ns.getD (cutN ns - 1) 0) tl)) cur i s.heap →
      Seg (model PySem.Challenge.rw_wy0062_01.row.prog w) ((callerA.deeper (envOf cn cs Lc ac ccd)).deeper (envOf tn ts L ta tcd)).in1 (gR ns Lg G oG) (gY ns h₀ l vs Lg G oG) n s₀ (.whileLoop (.Constant (.bool true) 0 q) [.Expr (.Yield (some (.Name (Str.ofString "last_interval") p1)) p2) p3] [] (gEnv Lg))
        ((model PySem.Challenge.rw_wy0062_01.row.prog w).den (.whileLoop (.Constant (.bool true) 0 q) [.Expr (.Yield (some (.Name (Str.ofString "last_interval") p1)) p2) p3] [] (gEnv Lg)))
        [.ret k1 none false l1 (.forLoop t it b [] (gEnv Lg)) pr1 g1, .ret k2 none false l2 (.func gBody (gEnv Lg)) pr2 g2] s := by
  intro n
  induction n with
  | zero => intro h; omega
  | succ n ih =>
    intro _ hn9 hc s s₀ i tl cur hk x
    refine seg_whileLoop ?_
    rw [over_while]
    have F := x.fr
    obtain ⟨oI, hI, N⟩ := x.news hIt hG
    have X := XK.keeps (x.stays hn0)
    refine isTrue_plain ?_
    k_steps
    refine seg_execs_cons ?_
    refine seg_Expr_Yield rfl rfl rfl ?_
    rw [over_while]
    refine ld F (by with_unfolding_all rfl) ?_
    intro kap hkap
    obtain ⟨oL, eL, hL⟩ := LCg.ns_obj x.ns
    have h8 : 8 - n = 9 - (n + 1) := by omega
    refine ⟨⟨tl, ?_⟩, .inr inf, hk, x.gen, It, oL, oI, hIt, hne, eL, (N _ (List.Mem.head _)).1, fun hpos s'' v => ?_⟩
    · unfold stream
      rw [if_neg (by omega)]
    · refine hkap .none s'' ?_
      refine seg_execs_nil ?_
      refine seg_again rfl ?_
      exact ih hpos (by omega) (by omega) s'' s'' i tl cur KeptL.refl (Rdy.of_gv v hL hI)

def gFor : Stmt := gBody.getD 1 (.Pass ⟨0, 0, 0, 0⟩)
def gForBody : List Stmt := match gFor with
  | .For _ _ b _ _ => b
  | _ => []
def gForVar : Expr := match gFor with
  | .For t _ _ _ _ => t
  | _ => .Name (Str.ofString "interval") ⟨0, 0, 0, 0⟩

theorem intsAt {vs : List Value} {ns : List Int} (h : IntsAre vs ns) {i : Nat} (hi : i < ns.length) : ∃ t, vs.toArray[i]? = some (.int (ns.getD i 0) t) := by
  have hv : i < vs.length := by rw [h.length]; exact hi
  obtain ⟨k, t, e, hk⟩ := IntsAre.at h i vs[i] (List.getElem?_eq_getElem hv)
  refine ⟨t, ?_⟩
  rw [List.getElem?_toArray, List.getElem?_eq_getElem hv, e, List.getD_eq_getElem?_getD, hk]
  rfl

theorem gMap_set {l : Addr} {last cur v : Option Value} (y : Str) : (if y = Str.ofString "interval" then v else gMap l last cur y) = gMap l last v y := by
  unfold gMap
  by_cases h : y = Str.ofString "interval"
  · rw [if_pos h, if_pos h]
  · rw [if_neg h, if_neg h, if_neg h]
theorem gMap_last {l : Addr} {last cur v : Option Value} (y : Str) : (if y = Str.ofString "last_interval" then v else gMap l last cur y) = gMap l v cur y := by
  unfold gMap
  by_cases h : y = Str.ofString "last_interval"
  · subst h
    rw [if_pos rfl, if_neg (by decide +kernel), if_pos rfl]
  · simp only [if_neg h]

theorem seg_for {pr2 : Pos} {k2 : Result → Sem Fin} {l2 g2 : List Value} (hn0 : h₀.objs.size ≤ Lg) (hl : l < Lg) (hIt : Lg < It) (hG : Lg < G) (hne : It ≠ G) (XK : (Mine.hd.heap_39 w.params).In h₀)
    (T : Top Mine.hd.view_39 (looseW Mine.hd.view_39 []) mean mg mb h₀) (hv : IntsAre vs ns) (hlen : ns.length ≤ 63) (h00 : ns[0]? ≠ some 0) (hk1 : k2 (.ok .next) = .pure (.done (.ret .none))) (hk2 : k2 (.ok (.ret .none)) = .pure (.done (.ret .none))) :
    ∀ n, 0 < n → n ≤ 9 → ∀ i, i + n = 9 → i ≤ ns.length → (∀ j : Nat, j < i → ns[j]? ≠ some 127 ∧ ns[j]? ≠ some 0) → ∀ (s s₀ : Shared) (last : Value) (cur : Option Value), (i = 0 → last = .none) → (0 < i → ∃ tl, last = .int (ns.getD (i - 1) 0) tl) → KeptL Lg s₀ s → Rdy h₀ l vs Lg G It oG (some last) cur i s.heap →
      Seg (model PySem.Challenge.rw_wy0062_01.row.prog w) ((callerA.deeper (envOf cn cs Lc ac ccd)).deeper (envOf tn ts L ta tcd)).in1 (gR ns Lg G oG) (gY ns h₀ l vs Lg G oG) n s₀ (.forLoop gForVar (.ref It) gForBody [] (gEnv Lg))
        ((model PySem.Challenge.rw_wy0062_01.row.prog w).den (.forLoop gForVar (.ref It) gForBody [] (gEnv Lg))) [.ret k2 none false l2 (.func gBody (gEnv Lg)) pr2 g2] s := by
  revert XK; k_fill; intro XK
  k_with_none
  w_top off
  intro n
  induction n with
  | zero => intro h; omega
  | succ n ih =>
    intro _ hn9 i hin hile hgood s s₀ last cur hlast0 hlast hk x
    refine seg_forLoop (fun v => by with_unfolding_all rfl) ?_
    rw [over_for]
    by_cases hi : i < ns.length
    · obtain ⟨ti, hx⟩ := intsAt hv hi
      refine wpAny_pyNext_list_item x.it x.lst hx fun h1 hit1 hsb1 => ?_
      have ne1 : ∀ b, b < Lg → b ≠ It := fun b hb => Nat.ne_of_lt (Nat.lt_trans hb hIt)
      have x1 : Rdy h₀ l vs Lg G It oG (some last) cur (i + 1) h1 := ⟨fun b o e => hsb1.extBut b o (ne1 b (Nat.lt_of_lt_of_le (Heap.lt_size e) hn0)) (x.base b o e), x.lst.extBut hsb1.extBut (ne1 l hl),
        x.ns.sameBut hsb1 (Nat.ne_of_lt hIt), hsb1.extBut _ _ (Ne.symm hne) x.gen, hit1⟩
      have hk1' : KeptL Lg s₀ { s with heap := h1 } := hk.to (tk' := s.toks) fun b o hb e => hsb1.extBut b o (ne1 b hb) e
      obtain ⟨oI, hI, N1⟩ := x1.news hIt hG
      have F1 := x1.fr
      show wpAny _ _ (assign (.Name (Str.ofString "interval") _) _ _) _ _ _
      refine wpAny_assign_Name (stN F1 N1 (fun h2 F2 N2 => ?_) (by with_unfolding_all rfl) (by with_unfolding_all rfl))
      have x2 := x1.again (last' := some last) (cur' := some (.int (ns.getD i 0) ti)) hn0 hl hI F2 N2 gMap_set
      have hk2' : KeptL Lg s₀ { s with heap := h2, toks := s.toks + 1 } := hk1'.to (cut_kept F2)
      clear F1 N1 F2 N2 hk1' hI oI x1 hit1 hsb1 x hx hk
      have F := x2.fr
      obtain ⟨oI, hI, N⟩ := x2.news hIt hG
      have X := XK.keeps (x2.stays hn0)
      have TT := T.keeps (x2.stays hn0)
      generalize hg : cutAt h2 Lg = g at F N X TT
      with_unfolding_all refine seg_execs_cons ?_
      with_unfolding_all refine seg_If ?_
      rw [over_for]
      k_steps
      · -- CHAR_MAX
        (rename ns.getD i 0 = 127 => e9)
        refine seg_execs_cons ?_
        refine seg_exec ?_
        rw [over_for]
        k_steps
        refine seg_leaf (.ok (.ret .none)) ?_
        rw [hk2]
        refine seg_end (.ok (.ret .none)) ⟨rfl, ?_⟩
        have hc := cutN_at hile hgood (.inr (.inl (by rw [getD_some hi, e9])))
        exact ⟨⟨by omega, by rw [hc, getD_some hi, e9]; simp⟩, hk2'.to (fun b o _ e => e), x2.gen⟩
      · (rename ns.getD i 0 ≠ 127 => e9)
        refine seg_execs_nil ?_
        refine seg_execs_cons ?_
        refine seg_If ?_
        rw [over_for]
        k_steps
        · -- a nought
          (rename ns.getD i 0 = 0 => e8)
          refine seg_execs_cons ?_
          refine seg_If ?_
          rw [over_for]
          have hi0 : 0 < i := by
            rcases Nat.eq_zero_or_pos i with h | h
            · subst h
              exact absurd (by rw [getD_some hi, e8]) h00
            · exact h
          obtain ⟨tl, rfl⟩ := hlast hi0
          k_steps
          have hc := cutN_at hile hgood (.inr (.inr (by rw [getD_some hi, e8])))
          refine seg_execs_nil ?_
          refine seg_execs_cons ?_
          refine seg_While (fun p => ?_)
          refine seg_wh hn0 hl hIt hG hne XK (by rw [hc, getD_some hi, e8]) (n + 1) (by omega) hn9 (by omega) _ _ (i + 1) tl (some (.int (ns.getD i 0) ti)) (hk2'.to (fun b o _ e => e)) ?_
          rw [hc]
          exact x2
        · -- the size itself
          (rename ns.getD i 0 ≠ 0 => e8)
          refine seg_execs_nil ?_
          refine seg_execs_cons ?_
          refine seg_Expr_Yield rfl rfl rfl ?_
          rw [over_for]
          refine ld F (by with_unfolding_all rfl) ?_
          intro kap hkap
          have hgood' : ∀ j : Nat, j < i + 1 → ns[j]? ≠ some 127 ∧ ns[j]? ≠ some 0 := fun j hj => by
            by_cases q : j < i
            · exact hgood j q
            · have : j = i := by omega
              subst this
              rw [getD_some hi]
              exact ⟨fun q => e9 (Option.some.inj q), fun q => e8 (Option.some.inj q)⟩
          have hlt : i < cutN ns := cutN_lt hgood' (by omega)
          have h8 : 8 - n = i := by omega
          obtain ⟨oL, eL, hL⟩ := LCg.ns_obj x2.ns
          refine ⟨⟨ti, ?_⟩, .inl (by omega), hk2'.to (fun b o _ e => e), x2.gen, It, oL, oI, hIt, hne, eL, (N _ (List.Mem.head _)).1, fun hpos s'' v => ?_⟩
          · unfold stream
            rw [h8, if_pos hlt]
          · refine hkap .none s'' ?_
            have x3 : Rdy h₀ l vs Lg G It oG (some last) (some (.int (ns.getD i 0) ti)) (i + 1) s''.heap := Rdy.of_gv v hL hI
            clear F N X TT hg hk2' x2 hI eL
            have F := x3.fr
            obtain ⟨oI, hI, N⟩ := x3.news hIt hG
            have X := XK.keeps (x3.stays hn0)
            have TT := T.keeps (x3.stays hn0)
            generalize hg : cutAt s''.heap Lg = g at F N X TT
            refine seg_execs_cons ?_
            refine seg_exec ?_
            rw [over_for]
            k_steps
            (rename Fr g Lg _ _ => F9)
            (rename News g Lg _ _ => N9)
            subst hg
            have x4 := x3.again (last' := some (.int (ns.getD i 0) ti)) (cur' := some (.int (ns.getD i 0) ti)) hn0 hl hI F9 N9 gMap_last
            refine seg_execs_nil ?_
            refine seg_again rfl ?_
            exact ih hpos (by omega) (i + 1) (by omega) (by omega) hgood' _ _ (.int (ns.getD i 0) ti) _ (by omega) (fun _ => ⟨ti, by rw [Nat.add_sub_cancel]⟩) (KeptL.refl.to (cut_kept F9)) x4
    · have hie : i = ns.length := by omega
      refine wpAny_pyNext_list_end rfl x.it x.lst (by rw [List.getElem?_toArray, List.getElem?_eq_none (by rw [hv.length]; omega)]) fun h' hx => ?_
      refine seg_again rfl ?_
      refine seg_leaf (.ok .next) ?_
      rw [hk1]
      refine seg_end (.ok (.ret .none)) ⟨rfl, ?_⟩
      have hc := cutN_at hile hgood (.inl hie)
      refine ⟨⟨by omega, by rw [hc, hie, List.getElem?_eq_none (Nat.le_refl _)]; simp⟩, hk.to (fun b o hb e => hx b o (Nat.ne_of_lt (Nat.lt_trans hb hIt)) e), hx _ _ (Ne.symm hne) x.gen⟩
end
end Mine
/- Gen6 -/
namespace Mine
section
variable {w : World} {cn tn : Str} {cs ts : Scope} {Lc ac L ta : Addr} {ccd tcd : Value} {h₀ : Heap} {l Lg G : Addr} {vs : List Value} {ns : List Int} {oG : Obj} {mean : ExcName → Option Value} {mg mb : Str → Option Value}

theorem seg_start (hn0 : h₀.objs.size ≤ Lg) (hl : l < Lg) (hG : Lg < G) (XK : (Mine.hd.heap_39 w.params).In h₀)
    (T : Top Mine.hd.view_39 (looseW Mine.hd.view_39 []) mean mg mb h₀) (hv : IntsAre vs ns) (hlen : ns.length ≤ 63) (h00 : ns[0]? ≠ some 0) (s : Shared)
    (base : ∀ b o, h₀.get? b = some o → s.heap.get? b = some o) (lst : s.heap.IsList l vs.toArray) (loc : s.heap.Ns Lg (gMap l none none)) (gen : s.heap.get? G = some oG) :
      Seg (model PySem.Challenge.rw_wy0062_01.row.prog w) ((callerA.deeper (envOf cn cs Lc ac ccd)).deeper (envOf tn ts L ta tcd)).in1 (gR ns Lg G oG) (gY ns h₀ l vs Lg G oG) 9 s (.func gBody (gEnv Lg))
        ((model PySem.Challenge.rw_wy0062_01.row.prog w).den (.func gBody (gEnv Lg))) [] s := by
  revert XK; k_fill; intro XK
  k_with_none
  w_top off
  have F : Fr (cutAt s.heap Lg) Lg s.heap (gMap l none none) := cutAt_fr loc
  have st := cutAt_stays hn0 base
  have X := XK.keeps st
  have TT := T.keeps st
  have N : News (cutAt s.heap Lg) Lg s.heap [(G, oG)] := fun p hp => by
    rcases List.mem_cons.mp hp with rfl | hp
    · exact ⟨gen, Ne.symm (Nat.ne_of_lt hG), cutAt_ge (Nat.le_of_lt hG)⟩
    · cases hp
  refine seg_func ?_
  with_unfolding_all refine seg_execs_cons ?_
  refine seg_exec ?_
  rw [over_func]
  generalize hg : cutAt s.heap Lg = g at F N X TT
  k_steps
  (rename Fr g Lg _ _ => F9)
  (rename News g Lg _ _ => N9)
  have hm : ∀ y, (if y = Str.ofString "last_interval" then some Value.none else gMap l none none y) = gMap l (some .none) none y := gMap_last
  rw [funext hm] at F9
  subst hg
  refine seg_execs_cons ?_
  refine seg_For (fun _ => by with_unfolding_all rfl) ?_
  rw [over_func]
  refine ld F9 (by with_unfolding_all rfl) ?_
  have ll := (show ∀ {h' : Heap}, Fr (cutAt s.heap Lg) Lg h' (gMap l (some .none) none) → h'.IsList l vs.toArray from fun F => by
    obtain ⟨o, e, r⟩ := lst
    exact ⟨o, F.keep _ _ (by rw [cutAt_lt hl]; exact e), r⟩) F9
  have gG := (N9 _ (List.Mem.head _)).1
  have hGlt := Heap.lt_size gG
  refine wpAny_pyIter_list ll ?_
  intro p l3
  refine seg_for hn0 hl (Nat.lt_trans hG hGlt) hG (Ne.symm (Nat.ne_of_lt hGlt)) XK T hv hlen h00 rfl rfl 9 (by omega) (by omega) 0 rfl (Nat.zero_le _) (fun j hj => absurd hj (Nat.not_lt_zero j)) _ _ .none none (fun _ => rfl) (fun h => absurd h (Nat.lt_irrefl 0)) ?_ ?_
  · exact ⟨_, _, rfl, fun b o hb e => Heap.get?_push_of_some _ (F9.keep b o (by rw [cutAt_lt hb]; exact e))⟩
  · exact ⟨fun b o e => Heap.get?_push_of_some _ (F9.keep b o (st b o e)), ll.push _, F9.ns.push _, Heap.get?_push_of_some _ gG, _, Heap.get?_push_size _ rfl, rfl, rfl⟩
end
end Mine
/- Tak1 -/
namespace Mine
def tDef : Stmt := (PySem.Challenge.rw_wy0062_01.row.prog.main.body.drop 8).headD (.Pass ⟨0, 0, 0, 0⟩)
def tScope : Scope := match tDef with
  | .FunctionDef _ _ _ _ _ _ sc _ _ _ => sc
  | _ => default
def tFor : Stmt := match tDef with
  | .FunctionDef _ _ [_, .Try [f] _ _ _ _, _] _ _ _ _ _ _ _ => f
  | _ => .Pass ⟨0, 0, 0, 0⟩
def tBody : List Stmt := match tFor with
  | .For _ _ b _ _ => b
  | _ => []
def tVar : Expr := match tFor with
  | .For t _ _ _ _ => t
  | _ => .Name (Str.ofString "size") ⟨0, 0, 0, 0⟩
abbrev tEnv (L : Addr) : Env := envOf (Str.ofString "_law_taken") tScope L 56 (.ref 55)
def tMap (l Fd : Addr) (cur : Option Value) : Str → Option Value := fun y =>
  if y = Str.ofString "size" then cur else if y = Str.ofString "found" then some (.ref Fd) else if y = Str.ofString "grouping" then some (.ref l) else none
theorem tMap_set {l Fd : Addr} {cur v : Option Value} (y : Str) : (if y = Str.ofString "size" then v else tMap l Fd cur y) = tMap l Fd v y := by
  unfold tMap
  by_cases h : y = Str.ofString "size"
  · rw [if_pos h, if_pos h]
  · simp only [if_neg h]

local macro_rules | `(tactic| walk_at "call builtin:list.append") => `(tactic| k_extra "app")
local macro_rules | `(tactic| walk_at "call builtin:len") => `(tactic| k_extra "len")

section
variable {w : World} {A : Around} {cn : Str} {cs : Scope} {Lc ac L : Addr} {ccd : Value} {g₀ : Heap} {l Fd : Addr} {m : Str → Option Value} {rest : List (Addr × Obj)} {s : Shared} {mean : ExcName → Option Value} {mg mb : Str → Option Value}

theorem app_K {its : Array Value} {n : Nat} {x : Value} {Q : Value → Shared → Prop} {E : Value → Shared → Prop} (F : Fr g₀ L s.heap m) (N : News g₀ L s.heap ((Fd, PySem.W.listOf its n) :: rest)) (hd : ∀ p ∈ rest, p.1 ≠ Fd) (hsz : its.size ≤ sizeLine)
    (h : ∀ h', Fr g₀ L h' m → News g₀ L h' ((Fd, PySem.W.listOf (its.push x) (n + 1)) :: rest) → Q .none { s with heap := h' }) : wpAny (model PySem.Challenge.rw_wy0062_01.row.prog w) A (call (.builtin "list.append") [.ref Fd, x]) Q E s := by
  have z := N _ (List.Mem.head _)
  refine append_at (hsz := hsz) z.1 fun h' hs ho' => h h' (F.change hs z.2.1 z.2.2) fun p hp => ?_
  rcases List.mem_cons.mp hp with rfl | hp
  · exact ⟨ho', z.2⟩
  · have zp := N p (List.Mem.tail _ hp)
    exact ⟨hs.extBut _ _ (hd p hp) zp.1, zp.2⟩

theorem taken_body {xs : List Value} {kk : Nat} {v : Value} {Q : Flow → Shared → Prop} {E : Value → Shared → Prop} (F : Fr g₀ L s.heap (tMap l Fd (some v))) (N : News g₀ L s.heap ((Fd, PySem.W.listOf xs.toArray kk) :: rest)) (hd : ∀ p ∈ rest, p.1 ≠ Fd)
    (X : (Mine.hd.heap_39 w.params).In g₀) (T : Top Mine.hd.view_39 (looseW Mine.hd.view_39 []) mean mg mb g₀) (hx : xs.length ≤ 8)
    (hnext : xs.length + 1 ≠ 9 → ∀ h' tk', Fr g₀ L h' (tMap l Fd (some v)) → News g₀ L h' ((Fd, PySem.W.listOf (xs ++ [v]).toArray (kk + 1)) :: rest) → Q .next { s with heap := h', toks := tk' })
    (hbrk : xs.length + 1 = 9 → ∀ h' tk', Fr g₀ L h' (tMap l Fd (some v)) → News g₀ L h' ((Fd, PySem.W.listOf (xs ++ [v]).toArray (kk + 1)) :: rest) → Q .brk { s with heap := h', toks := tk' }) :
    wpAny (model PySem.Challenge.rw_wy0062_01.row.prog w) ((callerA.deeper (envOf cn cs Lc ac ccd)).deeper (tEnv L)) (execs tBody (tEnv L)) Q E s := by
  revert X; k_fill; intro X
  k_with_none
  w_top off
  k_with "app" => (
    refine app_K (by assumption) (by assumption) hd (by rw [sizeLine_eq, List.size_toArray]; omega) (fun h' F' N' => ?_);
    (rw [List.push_toArray] at N'))
  k_with "len" => (
    refine len_list (News.isList (by assumption) (List.Mem.head _)) (by rw [List.size_toArray, List.length_append, List.length_singleton]; omega) ?_;
    (rw [List.size_toArray, List.length_append, List.length_singleton]))
  with_unfolding_all k_steps
  all_goals (try k_unmd)
  with_unfolding_all k_steps
  · exact hbrk (by omega) _ _ F' N'
  · exact hnext (by omega) _ _ F' N'
end
end Mine
/- Plain4 -/
namespace Mine
theorem takeW (ns : List Int) : ns.takeWhile okSize = (List.range (cutN ns)).map fun j => ns.getD j 0 := by
  refine List.ext_getElem (by simp [cutN]) fun j h1 h2 => ?_
  have hp := List.takeWhile_prefix (l := ns) okSize
  have := hp.getElem h1
  have h3 : j < ns.length := Nat.lt_of_lt_of_le h1 hp.length_le
  simp [this, h3]
theorem cutN_le (ns : List Int) : cutN ns ≤ ns.length := (List.takeWhile_prefix (l := ns) okSize).length_le
theorem sizes_end {ns : List Int} (h : ns[cutN ns]? ≠ some 0) (h8 : cutN ns ≤ 9) : sizesD ns = ((List.range (cutN ns)).map (stream ns)).map PyData.int := by
  unfold sizesD
  dsimp only
  rw [show (ns.takeWhile okSize).length = cutN ns from rfl, if_neg h, takeW, List.take_of_length_le (by simp; exact h8)]
  congr 1
  refine List.map_congr_left fun j hj => ?_
  unfold stream
  rw [if_pos (List.mem_range.mp hj)]
theorem sizes_nine {ns : List Int} (h : 8 < cutN ns ∨ ns[cutN ns]? = some 0) (h0 : ns[0]? ≠ some 0) : sizesD ns = ((List.range 9).map (stream ns)).map PyData.int := by
  unfold sizesD
  dsimp only
  rw [show (ns.takeWhile okSize).length = cutN ns from rfl]
  by_cases hz : ns[cutN ns]? = some 0
  · have hk : cutN ns ≠ 0 := fun q => by rw [q] at hz; exact h0 hz
    rw [if_pos hz, if_neg hk, takeW]
    congr 1
    refine List.ext_getElem (by simp) fun j h1 h2 => ?_
    simp at h1 h2
    have hk0 : cutN ns - 1 < cutN ns := by omega
    by_cases hj : j < cutN ns
    · simp [List.getElem_append, hj, stream]
    · rw [List.getElem_take, List.getElem_append_right (by simp; omega), List.getElem_replicate, List.getElem_map, List.getElem_range]
      unfold stream
      rw [if_neg hj]
      simp [List.getD_eq_getElem?_getD, hk0]
  · have h8 := h.resolve_right hz
    rw [if_neg hz, takeW]
    congr 1
    refine List.ext_getElem (by simp; omega) fun j h1 h2 => ?_
    simp at h1 h2
    have hj : j < cutN ns := by omega
    simp [stream, hj]
theorem allBare_set {gens : Array GenState} {i : Nat} {x : GenState} (h : AllBare gens) (hx : x.bare = true) : AllBare (gens.setIfInBounds i x) := fun y hy => by
  rcases Array.mem_or_eq_of_mem_setIfInBounds hy with q | q
  · exact h y q
  · rw [q]; exact hx
theorem gens_set {gens : Array GenState} {i : Nat} {a b x : GenState} (h : gens[i]? = some a) : ((gens.setIfInBounds i b).setIfInBounds i x)[i]? = some x := by
  have hi : i < gens.size := (Array.getElem?_eq_some_iff.mp h).1
  simp [Array.getElem?_setIfInBounds, hi]
end Mine
/- Tak2 -/
namespace Mine
section
variable {w : World} {cn : Str} {cs : Scope} {Lc ac L : Addr} {ccd : Value} {g₀ : Heap} {l Fd Lg G : Addr} {news : List (Addr × Obj)} {s : Shared} {mean : ExcName → Option Value} {mg mb : Str → Option Value} {vs : List Value} {ns : List Int} {n : Nat}

/-- what a generator asks of the heap to go on -/
structure Ask (g₀ : Heap) (l : Addr) (vs : List Value) (W : List (Addr × Obj)) (h : Heap) : Prop where
  base : ∀ b o, g₀.get? b = some o → h.get? b = some o
  lst : h.IsList l vs.toArray
  own : ∀ p ∈ W, h.get? p.1 = some p.2

def takI (w : World) (A : Around) (g₀ : Heap) (L l Fd Lg G gi t u n : Nat) (vs : List Value) (ns : List Int) (news : List (Addr × Obj)) (s : Shared) (k : Nat) (s' : Shared) : Prop :=
  0 < k ∧ ∃ j, j + k = 9 ∧ ∃ h tk gens cur xs kk gst W, s' = { s with heap := h, gens := gens, toks := tk } ∧ AllBare gens ∧ gens[gi]? = some gst ∧ IntsAre xs ((List.range j).map (stream ns)) ∧
    Fr g₀ L h (tMap l Fd cur) ∧ News g₀ L h ((Fd, PySem.W.listOf xs.toArray kk) :: (l, PySem.W.listOf vs.toArray n) :: (news ++ W)) ∧ (G, gObj gi t u) ∈ W ∧ (∀ p ∈ W, Lg ≤ p.1) ∧ (j < cutN ns ∨ ns[cutN ns]? = some 0 ∨ j = cutN ns) ∧
    ∀ s'', Ask g₀ l vs W s''.heap → gst.Goes (model PySem.Challenge.rw_wy0062_01.row.prog w) A.in1 (gR ns Lg G (gObj gi t u)) (gY ns g₀ l vs Lg G (gObj gi t u)) k (.send .none) s''

theorem taken_loop {gi t u : Nat} {cur : Option Value} {gs0 : Array GenState} {oL : Obj} {Q : Flow → Shared → Prop} {E : Value → Shared → Prop} (F : Fr g₀ L s.heap (tMap l Fd cur))
    (N : News g₀ L s.heap ((G, gObj gi t u) :: (Lg, oL) :: (Fd, PySem.W.listOf #[] 0) :: (l, PySem.W.listOf vs.toArray n) :: news)) (X : (Mine.hd.heap_39 w.params).In g₀)
    (T : Top Mine.hd.view_39 (looseW Mine.hd.view_39 []) mean mg mb g₀) (hgi : gi = gs0.size) (hgs : s.gens = gs0.push (.fresh (.func gBody (gEnv Lg)))) (hbare : AllBare gs0)
    (hns : LCg.NsObj oL (gMap l none none)) (hL : L < Lg) (hG : Lg < G) (hn : ∀ p ∈ (Fd, PySem.W.listOf #[] 0) :: (l, PySem.W.listOf vs.toArray n) :: news, p.1 < Lg) (hFd : ∀ p ∈ (l, PySem.W.listOf vs.toArray n) :: news, p.1 ≠ Fd)
    (hv : IntsAre vs ns) (hlen : ns.length ≤ 63) (h00 : ns[0]? ≠ some 0)
    (hQ : ∀ xs kk h' tk gens' cur', AllBare gens' → CarriedAll xs (sizesD ns) → Fr g₀ L h' (tMap l Fd cur') → News g₀ L h' ((Fd, PySem.W.listOf xs.toArray kk) :: (l, PySem.W.listOf vs.toArray n) :: news) → Q .next { s with heap := h', gens := gens', toks := tk })
    (ht : ∀ v, letOwnedTupleGo tVar (.ref G) v = pure ()) :
    codeAny (model PySem.Challenge.rw_wy0062_01.row.prog w) ((callerA.deeper (envOf cn cs Lc ac ccd)).deeper (tEnv L)) (.forLoop tVar (.ref G) tBody [] (tEnv L)) (fun r s' => match r with
      | .ok f => Q f s'
      | .error e => E e s') s := by
  have hL0 : g₀.objs.size ≤ Lg := Nat.le_trans F.above (Nat.le_of_lt hL)
  have hlL : l < Lg := hn (l, _) (List.Mem.tail _ (List.Mem.head _))
  refine codeAny_forLoop (takI w ((callerA.deeper (envOf cn cs Lc ac ccd)).deeper (tEnv L)) g₀ L l Fd Lg G gi t u n vs ns news s) ?_ 9 ?_ ht
  · rintro k s' ⟨hk, j, hjk, h, tk, gens, cur, xs, kk, gst, W, rfl, hb, hg, hxs, F', N', hGW, hWl, hj, hgo⟩
    have hlenx : xs.length = j := by rw [hxs.length]; simp
    have memW : ∀ p ∈ W, p ∈ (Fd, PySem.W.listOf xs.toArray kk) :: (l, PySem.W.listOf vs.toArray n) :: (news ++ W) := fun p hp => List.mem_cons_of_mem _ (List.mem_cons_of_mem _ (List.mem_append_right _ hp))
    have hlst : h.IsList l vs.toArray := News.isList N' (List.Mem.tail _ (List.Mem.head _))
    have hFdL : Fd < Lg := hn (Fd, _) (List.Mem.head _)
    have low : ∀ p ∈ (Fd, PySem.W.listOf xs.toArray kk) :: (l, PySem.W.listOf vs.toArray n) :: news, p.1 < Lg := fun p hp => by
      rcases List.mem_cons.mp hp with rfl | hp
      · exact hFdL
      · exact hn p (List.mem_cons_of_mem _ hp)
    refine pyNext_fgen (n := k) (P := gP ns Lg G (gObj gi t u)) (Y := gY ns g₀ l vs Lg G (gObj gi t u)) rfl (T.nolimit.keeps F'.keep) (by show callerA.depth + 1 + 1 < recursionLimit; decide)
      ⟨_, _, _, (N' _ (memW _ hGW)).1, rfl, rfl, rfl⟩ hg (hgo _ ⟨F'.keep, hlst, fun p hp => (N' _ (memW _ hp)).1⟩) (fun v s₁ gs' hb' hy => ?_) (fun s₁ hp h' hk' => ?_)
    · obtain ⟨⟨t', rfl⟩, hidx, ⟨h1, tk1, rfl, hk1⟩, hGm, It, oL', oI', hLI, hIG, eL, eI, hkap⟩ := hy
      dsimp only at hGm eL eI hkap hk1
      have h8 : 8 - (k - 1) = j := by omega
      rw [h8] at hidx ⊢
      have low1 : ∀ p ∈ (Fd, PySem.W.listOf xs.toArray kk) :: (l, PySem.W.listOf vs.toArray n) :: news, h1.get? p.1 = some p.2 ∧ p.1 ≠ L ∧ g₀.get? p.1 = none := fun p hp => by
        have hp' : p ∈ (Fd, PySem.W.listOf xs.toArray kk) :: (l, PySem.W.listOf vs.toArray n) :: (news ++ W) := by
          rcases List.mem_cons.mp hp with rfl | hp
          · exact List.Mem.head _
          · rcases List.mem_cons.mp hp with rfl | hp
            · exact List.Mem.tail _ (List.Mem.head _)
            · exact List.mem_cons_of_mem _ (List.mem_cons_of_mem _ (List.mem_append_left _ hp))
        exact ⟨hk1 _ _ (low p hp) (N' p hp').1, (N' p hp').2⟩
      have F1 : Fr g₀ L h1 (tMap l Fd cur) := ⟨F'.ns.at' fun o e => hk1 _ _ hL e, fun b o e => hk1 _ _ (Nat.lt_of_lt_of_le (Heap.lt_size e) hL0) (F'.keep b o e), F'.above⟩
      have hnone : ∀ b, Lg ≤ b → g₀.get? b = none := fun b hb => by
        cases e : g₀.get? b with
        | none => rfl
        | some o => exact absurd (Nat.lt_of_lt_of_le (Heap.lt_size e) hL0) (Nat.not_lt.mpr hb)
      have N1 : News g₀ L h1 ((Fd, PySem.W.listOf xs.toArray kk) :: (l, PySem.W.listOf vs.toArray n) :: (news ++ [(G, gObj gi t u), (Lg, oL'), (It, oI')])) := fun p hp => by
        rcases List.mem_cons.mp hp with rfl | hp
        · exact low1 _ (List.Mem.head _)
        · rcases List.mem_cons.mp hp with rfl | hp
          · exact low1 _ (List.Mem.tail _ (List.Mem.head _))
          · rcases List.mem_append.mp hp with hp | hp
            · exact low1 _ (List.mem_cons_of_mem _ (List.mem_cons_of_mem _ hp))
            · rcases List.mem_cons.mp hp with rfl | hp
              · exact ⟨hGm, Ne.symm (Nat.ne_of_lt (Nat.lt_trans hL hG)), hnone _ (Nat.le_of_lt hG)⟩
              · rcases List.mem_cons.mp hp with rfl | hp
                · exact ⟨eL, Ne.symm (Nat.ne_of_lt hL), hnone _ (Nat.le_refl _)⟩
                · rcases List.mem_cons.mp hp with rfl | hp
                  · exact ⟨eI, Ne.symm (Nat.ne_of_lt (Nat.lt_trans hL hLI)), hnone _ (Nat.le_of_lt hLI)⟩
                  · cases hp
      have hW' : ∀ p ∈ [(G, gObj gi t u), (Lg, oL'), (It, oI')], Lg ≤ p.1 := fun p hp => by
        rcases List.mem_cons.mp hp with rfl | hp
        · exact Nat.le_of_lt hG
        · rcases List.mem_cons.mp hp with rfl | hp
          · exact Nat.le_refl _
          · rcases List.mem_cons.mp hp with rfl | hp
            · exact Nat.le_of_lt hLI
            · cases hp
      have hd1 : ∀ p ∈ (l, PySem.W.listOf vs.toArray n) :: (news ++ [(G, gObj gi t u), (Lg, oL'), (It, oI')]), p.1 ≠ Fd := fun p hp => by
        rcases List.mem_cons.mp hp with rfl | hp
        · exact hFd _ (List.Mem.head _)
        · rcases List.mem_append.mp hp with hp | hp
          · exact hFd p (List.mem_cons_of_mem _ hp)
          · exact Ne.symm (Nat.ne_of_lt (Nat.lt_of_lt_of_le hFdL (hW' p hp)))
      have hxs' : ∀ t0, IntsAre (xs ++ [Value.int (stream ns j) t0]) ((List.range (j + 1)).map (stream ns)) := fun t0 => by
        rw [List.range_succ, List.map_append]
        exact IntsAre.append hxs (.cons _ t0 .nil)
      have hbb : AllBare ((gens.setIfInBounds gi .running).setIfInBounds gi gs') := allBare_set (allBare_set hb rfl) hb'
      show wpAny _ _ (assign (.Name (Str.ofString "size") _) _ _) _ _ _
      refine wpAny_assign_Name (stN F1 N1 (fun h2 F2 N2 => ?_) (by with_unfolding_all rfl) (by with_unfolding_all rfl))
      rw [funext tMap_set] at F2
      refine wpAny_mono (taken_body (Q := fun f s₃ => match f with
          | .next | .cont => ∃ m, m < k ∧ takI w ((callerA.deeper (envOf cn cs Lc ac ccd)).deeper (tEnv L)) g₀ L l Fd Lg G gi t u n vs ns news s m s₃
          | .brk => Q .next s₃
          | .ret v => Q (.ret v) s₃) (E := fun _ _ => False) F2 N2 hd1 X T (by omega) (fun hne h3 tk3 F3 N3 => ?_) (fun heq h3 tk3 F3 N3 => ?_)) (fun f s₃ hf => ?_) (fun _ _ x => x.elim)
      · refine ⟨k - 1, by omega, by omega, j + 1, by omega, h3, tk3, _, _, xs ++ [Value.int (stream ns j) t'], kk + 1, gs', [(G, gObj gi t u), (Lg, oL'), (It, oI')], rfl, hbb, gens_set hg, hxs' t', F3, N3, List.Mem.head _, hW', ?_, ?_⟩
        · rcases hidx with q | q
          · rcases Nat.lt_or_ge (j + 1) (cutN ns) with z | z
            · exact .inl z
            · exact .inr (.inr (by omega))
          · exact .inr (.inl q)
        · intro s'' ask
          obtain ⟨k', rfl⟩ : ∃ k', k = k' + 1 := ⟨k - 1, by omega⟩
          have := hkap (by omega) s'' ⟨ask.base, ask.lst, ask.own (Lg, oL') (List.Mem.tail _ (List.Mem.head _)), ask.own (G, _) (List.Mem.head _), ask.own (It, oI') (List.Mem.tail _ (List.Mem.tail _ (List.Mem.head _)))⟩
          exact this
      · have hj9 : j = 8 := by omega
        refine hQ (xs ++ [Value.int (stream ns j) t']) (kk + 1) h3 tk3 _ (some (.int (stream ns j) t')) hbb ?_ F3 fun p hp => N3 p ?_
        · refine carried_of (hxs' t') ?_
          rw [hj9]
          refine (sizes_nine ?_ h00).symm
          rw [hj9] at hidx
          exact hidx
        · rcases List.mem_cons.mp hp with rfl | hp
          · exact List.Mem.head _
          · rcases List.mem_cons.mp hp with rfl | hp
            · exact List.Mem.tail _ (List.Mem.head _)
            · exact List.mem_cons_of_mem _ (List.mem_cons_of_mem _ (List.mem_append_left _ hp))
      · cases f with
        | next => exact hf
        | cont => exact hf
        | brk => exact hf
        | ret v => exact hf
    · obtain ⟨⟨hc, hnz⟩, ⟨h1, tk1, rfl, hk1⟩, hGm⟩ := hp
      dsimp only at hk' hk1
      have h9 : j = cutN ns := by omega
      refine wpAny_execs_nil (hQ xs kk h' tk1 _ cur (allBare_set (allBare_set hb rfl) rfl) ?_ ?_ ?_)
      · refine carried_of hxs ?_
        rw [h9]
        exact (sizes_end hnz (by omega)).symm
      · exact ⟨F'.ns.at' fun o e => hk' _ _ (hk1 _ _ hL e), fun b o e => hk' _ _ (hk1 _ _ (Nat.lt_of_lt_of_le (Heap.lt_size e) hL0) (F'.keep b o e)), F'.above⟩
      · intro p hp
        have hp' : p ∈ (Fd, PySem.W.listOf xs.toArray kk) :: (l, PySem.W.listOf vs.toArray n) :: (news ++ W) := by
          rcases List.mem_cons.mp hp with rfl | hp
          · exact List.Mem.head _
          · rcases List.mem_cons.mp hp with rfl | hp
            · exact List.Mem.tail _ (List.Mem.head _)
            · exact List.mem_cons_of_mem _ (List.mem_cons_of_mem _ (List.mem_append_left _ hp))
        exact ⟨hk' _ _ (hk1 _ _ (low p hp) (N' p hp').1), (N' p hp').2⟩
  · refine ⟨by omega, 0, rfl, s.heap, s.toks, s.gens, cur, [], 0, .fresh (.func gBody (gEnv Lg)), [(G, gObj gi t u), (Lg, oL)], rfl, ?_, ?_, .nil, F, fun p hp => N p ?_, List.Mem.head _, ?_, ?_, ?_⟩
    · rw [hgs]; exact hbare.push rfl
    · rw [hgs, hgi]; exact Array.getElem?_push_size ..
    · rcases List.mem_cons.mp hp with rfl | hp
      · exact List.Mem.tail _ (List.Mem.tail _ (List.Mem.head _))
      · rcases List.mem_cons.mp hp with rfl | hp
        · exact List.Mem.tail _ (List.Mem.tail _ (List.Mem.tail _ (List.Mem.head _)))
        · rcases List.mem_append.mp hp with hp | hp
          · exact List.mem_cons_of_mem _ (List.mem_cons_of_mem _ (List.mem_cons_of_mem _ (List.mem_cons_of_mem _ hp)))
          · rcases List.mem_cons.mp hp with rfl | hp
            · exact List.Mem.head _
            · rcases List.mem_cons.mp hp with rfl | hp
              · exact List.Mem.tail _ (List.Mem.head _)
              · cases hp
    · intro p hp
      rcases List.mem_cons.mp hp with rfl | hp
      · exact Nat.le_of_lt hG
      · rcases List.mem_cons.mp hp with rfl | hp
        · exact Nat.le_refl _
        · cases hp
    · rcases Nat.eq_zero_or_pos (cutN ns) with z | z
      · exact .inr (.inr z.symm)
      · exact .inl z
    · intro s'' ask
      exact ⟨rfl, seg_start hL0 hlL hG X T hv hlen h00 s'' ask.base ask.lst (hns.ns (ask.own (Lg, oL) (List.Mem.tail _ (List.Mem.head _)))) (ask.own (G, _) (List.Mem.head _))⟩
end
end Mine
/- Tak3 -/
namespace Mine
section
variable {w : World} {cn : Str} {cs : Scope} {Lc ac L : Addr} {ccd : Value} {base g₀ : Heap} {outer : List Env} {l Fd : Addr} {news : List (Addr × Obj)} {s : Shared} {mean : ExcName → Option Value} {mg mb : Str → Option Value} {vs : List Value} {ns : List Int} {n : Nat}

theorem taken_for {cur : Option Value} {Q : Flow → Shared → Prop} {E : Value → Shared → Prop} (B : Below (callerA.deeper (envOf cn cs Lc ac ccd)) base outer g₀) (F : Fr g₀ L s.heap (tMap l Fd cur))
    (N : News g₀ L s.heap ((Fd, PySem.W.listOf #[] 0) :: (l, PySem.W.listOf vs.toArray n) :: news)) (X : (Mine.hd.heap_39 w.params).In g₀)
    (T : Top Mine.hd.view_39 (looseW Mine.hd.view_39 []) mean mg mb g₀) (hbare : AllBare s.gens) (hFd : ∀ p ∈ (l, PySem.W.listOf vs.toArray n) :: news, p.1 ≠ Fd)
    (hv : IntsAre vs ns) (hlen : ns.length ≤ 63) (hPE : PassesOwn (model PySem.Challenge.rw_wy0062_01.row.prog w) ((callerA.deeper (envOf cn cs Lc ac ccd)).deeper (tEnv L)) (tEnv L) E)
    (hQ : ∀ xs kk h' tk gens' cur', AllBare gens' → CarriedAll xs (sizesD ns) → Fr g₀ L h' (tMap l Fd cur') → News g₀ L h' ((Fd, PySem.W.listOf xs.toArray kk) :: (l, PySem.W.listOf vs.toArray n) :: news) → Q .next { s with heap := h', gens := gens', toks := tk })
    (hE : ns[0]? = some 0 → ∀ ea g' h' tk t' vs' gens', AllBare gens' → RaisedS base g' (tEnv L :: outer) ea (.type "ValueError") t' vs' ((Fd, PySem.W.listOf #[] 0) :: (l, PySem.W.listOf vs.toArray n) :: news) h' → Fr g₀ L g' (tMap l Fd cur) → g'.UpToSlots h' →
      E (.ref ea) { s with heap := h', gens := gens', toks := tk }) :
    wpAny (model PySem.Challenge.rw_wy0062_01.row.prog w) ((callerA.deeper (envOf cn cs Lc ac ccd)).deeper (tEnv L)) (call (.ref 35) [.ref l]) (fun x s₁ =>
      wpAny (model PySem.Challenge.rw_wy0062_01.row.prog w) ((callerA.deeper (envOf cn cs Lc ac ccd)).deeper (tEnv L)) (pyIter x) (fun it s₂ =>
        codeAny (model PySem.Challenge.rw_wy0062_01.row.prog w) ((callerA.deeper (envOf cn cs Lc ac ccd)).deeper (tEnv L)) (.forLoop tVar it tBody [] (tEnv L)) (fun r s' => match r with
          | .ok f => Q f s'
          | .error e => cameBackBy (model PySem.Challenge.rw_wy0062_01.row.prog w) ((callerA.deeper (envOf cn cs Lc ac ccd)).deeper (tEnv L)) (tEnv L) E e s') s₂) E s₁) E s := by
  have hlow : ∀ p ∈ (Fd, PySem.W.listOf #[] 0) :: (l, PySem.W.listOf vs.toArray n) :: news, p.1 < s.heap.objs.size := fun p hp => Heap.lt_size (N p hp).1
  have hLs : L < s.heap.objs.size := F.ns.lt
  refine gen_call F X N T (by show callerA.depth + 1 + 1 < recursionLimit; decide) fun Lg G oL t u h' tk F' N' hm e1 e2 e3 => ?_
  refine wpAny_pyIter_gen ⟨_, _, _, (N' _ (List.Mem.head _)).1, rfl, rfl, rfl⟩ ?_
  have hL : L < Lg := by rw [e1]; exact hLs
  have hG : Lg < G := by rw [e2]; exact Nat.lt_succ_self _
  have hn : ∀ p ∈ (Fd, PySem.W.listOf #[] 0) :: (l, PySem.W.listOf vs.toArray n) :: news, p.1 < Lg := by rw [e1]; exact hlow
  have ht : ∀ v, letOwnedTupleGo tVar (.ref G) v = pure () := fun v => by with_unfolding_all rfl
  by_cases h00 : ns[0]? = some 0
  · refine codeAny_forLoop (fun _ s' => s' = { s with heap := h', gens := s.gens.push (.fresh (.func gBody (gEnv Lg))), toks := tk }) (fun k s' hs => ?_) 0 rfl ht
    subst hs
    refine gen_refused (base := base) (outer := outer) (gi := s.gens.size) (t := t) (u := u) (n := n) (vs := vs) (oL := oL) B F' X (fun p hp => N' p ?_) (fun p hp => N' p ?_) T (by with_unfolding_all rfl) hL hn hG hm hv h00 hlen (Array.getElem?_push_size ..) (fun ea g' h'' tk' t' vs' R FB U => ?_)
    · exact List.mem_cons_of_mem _ (List.mem_cons_of_mem _ hp)
    · rcases List.mem_cons.mp hp with rfl | hp
      · exact List.Mem.head _
      · rcases List.mem_cons.mp hp with rfl | hp
        · exact List.Mem.tail _ (List.Mem.head _)
        · cases hp
    · refine hPE _ _ ?_
      exact hE h00 ea g' h'' tk' t' vs' _ (allBare_set (hbare.push rfl) rfl) R FB U
  · refine taken_loop (gs0 := s.gens) F' N' X T rfl rfl hbare hm hL hG hn hFd hv hlen h00 (fun xs kk h'' tk' gens' cur' hb hc F3 N3 => ?_) ht
    exact hQ xs kk h'' tk' gens' cur' hb hc F3 N3
end
end Mine
/- C5 -/
namespace Mine
section
variable {w : World} {cn : Str} {cs : Scope} {a : Addr} {ccd : Value} {h₀ : Heap} {L : Addr} {m : Str → Option Value} {news : List (Addr × Obj)} {s : Shared} {Q E : Value → Shared → Prop} {mean : ExcName → Option Value} {mg mb : Str → Option Value}

theorem tMap_start {l Fd : Addr} (y : Str) : (if y = Str.ofString "found" then some (Value.ref Fd) else List.lookup y [(Str.ofString "grouping", Value.ref l)]) = tMap l Fd none y := by
  unfold tMap
  by_cases h : y = Str.ofString "size"
  · subst h
    rw [if_pos rfl, if_neg (by decide +kernel)]
    with_unfolding_all rfl
  · rw [if_neg h]
    by_cases h2 : y = Str.ofString "found"
    · rw [if_pos h2, if_pos h2]
    · rw [if_neg h2, if_neg h2]
      by_cases h3 : y = Str.ofString "grouping"
      · subst h3; rw [if_pos rfl]; with_unfolding_all rfl
      · have h4 : (y == Str.ofString "grouping") = false := by simp [h3]
        simp [List.lookup_cons, h3, h4]
theorem allLt_mem {d : Addr} : ∀ {nw : List (Addr × Obj)}, AllLt d nw → ∀ p ∈ nw, p.1 < d
  | [], _, _, h => nomatch h
  | q :: r, h, p, hp => by
    rcases List.mem_cons.mp hp with rfl | hp
    · exact h.1
    · exact allLt_mem h.2 p hp

local macro_rules | `(tactic| walk_at "exec For Name Call cons nil") => `(tactic| k_extra "genfor")
local macro_rules | `(tactic| walk_at "call ref") => `(tactic| k_extra "gencall")

theorem law_taken_call {l : Addr} {vs : List Value} {n : Nat} {ns : List Int} (B : Below callerA h₀ [] h₀) (F : Fr h₀ L s.heap m) (X : (Mine.hd.heap_39 w.params).In h₀) (N : News h₀ L s.heap ((l, PySem.W.listOf vs.toArray n) :: news)) (T : Top Mine.hd.view_39 (looseW Mine.hd.view_39 []) mean mg mb h₀) (hk : cs.kind = .function)
   (hv : IntsAre vs ns) (hn : ns.length ≤ 63) (hbare : AllBare s.gens)
   (ret : ∀ (D : Addr) (ys : List Value) (kk : Nat) (h' : Heap) (tk' : Nat) (gens' : Array GenState), AllBare gens' → CarriedAll ys (sizesD ns) → Fr h₀ L h' m → News h₀ L h' ((D, PySem.W.listOf ys.toArray kk) :: (l, PySem.W.listOf vs.toArray n) :: news) → Q (.ref D) { s with heap := h', gens := gens', toks := tk' }) :
   wpAny (model PySem.Challenge.rw_wy0062_01.row.prog w) (callerA.deeper (envOf cn cs L a ccd)) (call (.ref 56) [.ref l]) Q E s := by
  revert X; k_fill; intro X
  k_with_none
  w_top off
  refine wpAny_call ?_
  k_dflt (refine' code_defS0 B F X N T rfl ?k6 ?k7 ?k8 ?k9 ?kB ?_ hk ?c2 ?c3 ?c4 ?c5; (case k6 => k_is); (case k7 => k_is); (case k8 => k_room); (case k9 => exact BindsTo.of_eq rfl); (case kB => exact locs rfl); (case c2 => exact rfl); (case c3 => exact rfl); (case c4 => exact rfl); (case c5 => decide); k_whole; intro g' L' h' FG' F' N' B' X' T' D'; (try dsimp only); (try k_lift B'); (try k_fold))
  k_with "genfor" => (with_unfolding_all refine wpAny_For (hs := fun _ => rfl) ?_)
  k_with "gencall" => (
    (rename Fr g' L' _ _ => cF);
    (rename News g' L' _ _ => cN);
    (rename _ < _ ∧ AllLt _ _ => cl);
    (have cF2 := (show Fr g' L' _ (fun y => if y = Str.ofString "found" then some (Value.ref _) else List.lookup y [(Str.ofString "grouping", Value.ref l)]) from cF));
    (rw [funext tMap_start] at cF2);
    (have cd := allLt_mem (nw := (l, PySem.W.listOf vs.toArray n) :: news) ⟨cl.1, cl.2⟩);
    (with_unfolding_all refine taken_for (cur := none) B' cF2 cN X' T' hbare (fun p hp => Nat.ne_of_lt (cd p hp)) hv hn (by with_unfolding_all passes_own) (fun xs kk h9 tk9 gens9 cur9 hb9 hc9 F9 N9 => ?_) (fun h00 ea g9 h9 tk9 t9 vs9 gens9 hb9 R9 FB9 U9 => ?_));
    (all_goals clear cF cN cF2))
  k_steps
  all_goals (try k_unmd)
  k_steps
  · exact ret _ xs kk h9 tk9 gens9 hb9 hc9 (by assumption) (by assumption)
  · (rename News h₀ L _ _ => kN9)
    refine ret _ [Value.str (Str.ofString "refused") _] 1 _ _ gens9 hb9 ?_ (by assumption) kN9
    rw [sizesD_refused h00]
    exact CarriedAll.cons (Carried.str _ _) CarriedAll.nil
end
end Mine
/- Plain5 -/
namespace Mine
/-- a text of n blanks -/
def blanks (n : Nat) : Str := ⟨(List.replicate n 32).toArray⟩
theorem lead_blanks : ∀ (n b : Nat) (y : List Nat), lead n (List.replicate b 32 ++ y) = min n b + lead (n - b) y
  | 0, b, y => by
    have h0 : ∀ l : List Nat, lead 0 l = 0 := fun l => by cases l <;> rfl
    rw [h0, Nat.zero_sub, h0]; omega
  | n + 1, 0, y => by simp
  | n + 1, b + 1, y => by
    rw [List.replicate_succ, List.cons_append]
    show (if 32 = 32 then lead n (List.replicate b 32 ++ y) + 1 else 0) = _
    rw [if_pos rfl, lead_blanks n b y]
    have : n + 1 - (b + 1) = n - b := by omega
    rw [this]; omega
theorem lead_bare (n c : Nat) (r : List Nat) (h : c ≠ 32) : lead n (c :: r) = 0 := by
  cases n with
  | zero => rfl
  | succ n => unfold lead; rw [if_neg h]
theorem lead_nil (n : Nat) : lead n [] = 0 := by cases n <;> rfl
theorem cut_blanks (b c u v : Nat) (cs : List Nat) (hu : u ≤ b) (hv : v ≤ c) : ((List.replicate b 32 ++ (cs ++ List.replicate c 32)).drop u).take (b + cs.length + c - v - u) = List.replicate (b - u) 32 ++ (cs ++ List.replicate (c - v) 32) := by
  rw [List.drop_append_of_le_length (by simpa using hu), List.drop_replicate]
  have e : b + cs.length + c - v - u = (b - u) + (cs.length + (c - v)) := by omega
  rw [e]
  have e1 : (List.replicate (b - u) 32).length = b - u := by simp
  rw [List.take_append, e1, Nat.add_sub_cancel_left, List.take_of_length_le (by simp), List.take_append, Nat.add_sub_cancel_left, List.take_of_length_le (by simp), List.take_replicate]
  congr 3
  omega
theorem text_list (b c : Nat) (core : Str) : (blanks b ++ core ++ blanks c).cps.toList = List.replicate b 32 ++ (core.cps.toList ++ List.replicate c 32) := by
  show ((blanks b).cps ++ core.cps ++ (blanks c).cps).toList = _
  simp [blanks]
theorem blanks_length (n : Nat) : (blanks n).length = n := by simp [blanks, Str.length]
theorem str_of_list {x y : Str} (h : x.cps.toList = y.cps.toList) : x = y := by
  cases x with | mk a => cases y with | mk b => exact congrArg Str.mk (Array.ext' h)
theorem slice_cut {x : Str} {i j : Int} (h0 : 0 ≤ i) (h1 : i ≤ j) (h2 : j ≤ x.length) : (Txt.slice x (some i) (some j)).cps.toList = (x.cps.toList.drop i.toNat).take (j - i).toNat := by
  rw [eq_of_beq (slice_closesL h0 h1 h2)]
/-- a text with a core: so many blanks from the beginning, the rest from the end -/
theorem stripped_core {core : Str} (b c n : Int) (hb : 0 ≤ b) (hc : 0 ≤ c) (hn : 0 ≤ n) {p q : Nat} {r t : List Nat} (h1 : core.cps.toList = p :: r) (h2 : core.cps.toList.reverse = q :: t) (hp : p ≠ 32) (hq : q ≠ 32) :
    stripped (blanks b.toNat ++ core ++ blanks c.toNat) n = blanks (b - (if n < b then n else b)).toNat ++ core ++ blanks (c - (if n - (if n < b then n else b) < c then n - (if n < b then n else b) else c)).toNat := by
  have hx := text_list b.toNat c.toNat core
  have e1 : lead n.toNat (blanks b.toNat ++ core ++ blanks c.toNat).cps.toList = min n.toNat b.toNat := by
    rw [hx, lead_blanks, h1, List.cons_append, lead_bare _ _ _ hp]; rfl
  have e2 : ∀ m, lead m (blanks b.toNat ++ core ++ blanks c.toNat).cps.toList.reverse = min m c.toNat := fun m => by
    rw [hx, List.reverse_append, List.reverse_append, List.reverse_replicate, List.append_assoc, lead_blanks, h2, List.cons_append, lead_bare _ _ _ hq]; rfl
  have hl : (blanks b.toNat ++ core ++ blanks c.toNat).length = b.toNat + core.length + c.toNat := by
    rw [Str.length_append, Str.length_append, blanks_length, blanks_length]
  have hcl : core.cps.toList.length = core.length := Array.length_toList
  have hpos : 0 < core.length := by rw [← hcl, h1]; simp
  unfold stripped
  rw [e1, e2, if_neg (by rw [hl]; omega)]
  refine str_of_list ?_
  rw [slice_cut (by omega) (by rw [hl]; omega) (by omega), hx, text_list]
  have := cut_blanks b.toNat c.toNat (min n.toNat b.toNat) (min (n.toNat - min n.toNat b.toNat) c.toNat) core.cps.toList (by omega) (by omega)
  rw [hcl] at this
  rw [show ((((blanks b.toNat ++ core ++ blanks c.toNat).length : Int) - ((min (n.toNat - min n.toNat b.toNat) c.toNat : Nat) : Int)) - ((min n.toNat b.toNat : Nat) : Int)).toNat = b.toNat + core.length + c.toNat - min (n.toNat - min n.toNat b.toNat) c.toNat - min n.toNat b.toNat from by rw [hl]; omega, Int.toNat_natCast, this]
  have i1 : (if n < b then n else b) = ((min n.toNat b.toNat : Nat) : Int) := by split <;> omega
  rw [i1]
  have i2 : (if n - ((min n.toNat b.toNat : Nat) : Int) < c then n - ((min n.toNat b.toNat : Nat) : Int) else c) = ((min (n.toNat - min n.toNat b.toNat) c.toNat : Nat) : Int) := by split <;> omega
  rw [i2]
  congr 2
  · congr 1; omega
  · congr 2; omega
theorem bare_list {core : Str} (b c : Nat) (h : core.cps.toList = []) : (blanks b ++ core ++ blanks c).cps.toList = List.replicate (b + c) 32 := by
  rw [text_list, h, List.nil_append, List.replicate_append_replicate]
theorem stripped_bare {core : Str} (b c n : Int) (hb : 0 ≤ b) (hc : 0 ≤ c) (hn : 0 ≤ n) (h : core.cps.toList = []) (hle : n ≤ b + c) :
    stripped (blanks b.toNat ++ core ++ blanks c.toNat) n = blanks (b + c - n).toNat := by
  have hx := bare_list b.toNat c.toNat h
  have e1 : lead n.toNat (blanks b.toNat ++ core ++ blanks c.toNat).cps.toList = n.toNat := by
    have := lead_blanks n.toNat (b.toNat + c.toNat) []
    rw [List.append_nil, lead_nil] at this
    rw [hx, this]; omega
  have h0 : ∀ l : List Nat, lead 0 l = 0 := fun l => by cases l <;> rfl
  have hl : (blanks b.toNat ++ core ++ blanks c.toNat).length = b.toNat + c.toNat := by
    rw [show (blanks b.toNat ++ core ++ blanks c.toNat).length = (blanks b.toNat ++ core ++ blanks c.toNat).cps.toList.length from Array.length_toList.symm, hx, List.length_replicate]
  unfold stripped
  rw [e1, Nat.sub_self, h0, if_neg (by omega)]
  refine str_of_list ?_
  rw [slice_cut (by omega) (by rw [hl]; omega) (by omega), hx, hl, List.drop_replicate, List.take_replicate]
  show _ = List.replicate _ 32
  congr 1
  omega
theorem stripped_bare_past {core : Str} (b c n : Int) (hb : 0 ≤ b) (hc : 0 ≤ c) (h : core.cps.toList = []) (hlt : b + c < n) :
    stripped (blanks b.toNat ++ core ++ blanks c.toNat) n = Str.ofString "past the end" := by
  have hx := bare_list b.toNat c.toNat h
  have e1 : lead n.toNat (blanks b.toNat ++ core ++ blanks c.toNat).cps.toList = b.toNat + c.toNat := by
    have := lead_blanks n.toNat (b.toNat + c.toNat) []
    rw [List.append_nil, lead_nil] at this
    rw [hx, this]; omega
  have hl : (blanks b.toNat ++ core ++ blanks c.toNat).length = b.toNat + c.toNat := by
    rw [show (blanks b.toNat ++ core ++ blanks c.toNat).length = (blanks b.toNat ++ core ++ blanks c.toNat).cps.toList.length from Array.length_toList.symm, hx, List.length_replicate]
  unfold stripped
  rw [e1, if_pos ⟨by omega, by omega⟩]
  rfl
end Mine
/- L0 -/
namespace Mine
def lDef : Stmt := (PySem.Challenge.rw_wy0062_01.row.prog.main.body.drop 11).headD (.Pass ⟨0, 0, 0, 0⟩)
def lScope : Scope := match lDef with
  | .FunctionDef _ _ _ _ _ _ sc _ _ _ => sc
  | _ => default
def lBody : List Stmt := match lDef with
  | .FunctionDef _ _ b _ _ _ _ _ _ _ => b
  | _ => []
def lStmt (k : Nat) : Stmt := (lBody.drop k).headD (.Pass ⟨0, 0, 0, 0⟩)
abbrev lEnv (L fa : Addr) (cd : Value) : Env := envOf (Str.ofString "law") lScope L fa cd
/-- what law's names hold past the for -/
def lNames (l : Addr) (u : Str → Option Value) : Str → Option Value := fun y => if y = Str.ofString "number" then u y else if [Str.ofString "before", Str.ofString "core", Str.ofString "behind", Str.ofString "many", Str.ofString "text", Str.ofString "due"].contains y then u y else List.lookup y [(Str.ofString "script", .ref l)]
end Mine
/- M2 -/
namespace Mine
theorem menu4 (x : Int) : Int.fmod x 4 = 0 ∨ Int.fmod x 4 = 1 ∨ Int.fmod x 4 = 2 ∨ Int.fmod x 4 = 3 := by
  rw [Int.fmod_eq_emod_of_nonneg x (by decide)]; omega

theorem len_sp : (Str.ofString " ").length = 1 := by decide +kernel
theorem len_e : (Str.ofString "").length = 0 := by decide +kernel
theorem len_x : (Str.ofString "x").length = 1 := by decide +kernel
theorem len_12 : (Str.ofString "1 2").length = 3 := by decide +kernel
theorem len_t : (Str.ofString "\t").length = 1 := by decide +kernel
theorem fold_blank : ∀ n (acc : Array Nat), (List.replicate n #[32]).foldl (· ++ ·) acc = acc ++ (List.replicate n 32).toArray
  | 0, acc => by simp
  | n + 1, acc => by
    rw [List.replicate_succ, List.foldl_cons, fold_blank n, List.replicate_succ]
    apply Array.ext'
    simp
theorem mul_blanks (n : Int) : Txt.mul (Str.ofString " ") n = blanks n.toNat := by
  have e : Str.ofString " " = ⟨#[32]⟩ := by decide +kernel
  unfold Txt.mul
  by_cases h : n < 1
  · rw [if_pos h]
    have : n.toNat = 0 := by omega
    rw [this]; rfl
  · rw [if_neg h]
    by_cases h1 : n = 1
    · subst h1; rw [if_pos (by simp)]; rw [e]; rfl
    · rw [if_neg (by simp [h1, len_sp]), e]
      show (⟨(List.replicate n.toNat #[32]).foldl (· ++ ·) #[]⟩ : Str) = _
      rw [fold_blank]
      simp [blanks]
theorem fmod_b (x : Int) (k : Int) (hk : 0 < k) : 0 ≤ Int.fmod x k ∧ Int.fmod x k < k := by
  rw [Int.fmod_eq_emod_of_nonneg x (Int.le_of_lt hk)]
  exact ⟨Int.emod_nonneg _ (by omega), Int.emod_lt_of_pos _ hk⟩

local macro_rules | `(tactic| walk_at "binaryOp Mult str int") => `(tactic| k_extra "mul")
local macro_rules | `(tactic| walk_at "binaryOp Add str str") => `(tactic| k_extra "add")
local macro_rules | `(tactic| walk_at "last subscriptTail") => `(tactic| k_extra "menu")
local macro_rules | `(tactic| walk_at "call ref") => `(tactic| k_extra "calls")

section
variable {w : World} {A : Around} {s : Shared} {E : Value → Shared → Prop}
theorem mul_sp {n : Int} {t u : Tok} {Q : Value → Shared → Prop} (h0 : -1000 ≤ n) (h1 : n ≤ 1000) (h : ∀ t' k, Q (.str (blanks n.toNat) t') { s with toks := k }) :
    wpAny (model PySem.Challenge.rw_wy0062_01.row.prog w) A (binaryOp .Mult (.str (Str.ofString " ") t) (.int n u)) Q E s := by
  rw [← mul_blanks] at h
  exact SB.mul (mulOk_of 16 1048576 (by rw [len_sp]; omega) (by omega) (by omega) (by decide) (by decide)) h
end
section
variable {w : World} {fa : Addr} {cd : Value} {g : Heap} {L l : Addr} {m : Str → Option Value} {s : Shared} {RE : Value → Shared → Prop} {mean : ExcName → Option Value} {mg mb : Str → Option Value} {vs : List Value} {ns : List Int}

theorem law_for {Q : Flow → Shared → Prop} (B : Below callerA g [] g) (F : Fr g L s.heap (fun y => List.lookup y [(Str.ofString "script", .ref l)])) (X : (Mine.hd.heap_39 w.params).In g) (N : News g L s.heap [])
    (T : Top Mine.hd.view_39 (looseW Mine.hd.view_39 []) mean mg mb g) (hl : g.IsList l vs.toArray) (hv : IntsAre vs ns) (hlen : ns.length ≤ 63)
    (h : ∀ h' tk u, Fr g L h' (lNames l u) → News g L h' [] → Q .next { s with heap := h', toks := tk }) :
    wpAny (model PySem.Challenge.rw_wy0062_01.row.prog w) (callerA.deeper (lEnv L fa cd)) (exec (lStmt 0) (lEnv L fa cd)) Q (fun e s' => wpAny (model PySem.Challenge.rw_wy0062_01.row.prog w) (callerA.deeper (lEnv L fa cd)) (leaving (lEnv L fa cd) e) (fun _ s'' => RE e s'') (fun e' s'' => RE e' s'') s') s := by
  revert X; k_fill; intro X
  k_with_none
  w_top off
  k_with "pyIter ref" => k_of "number" => k_search (fun pre => True)
  k_with "menu" => (
    have hb7 := fmod_b kN 7 (by decide);
    have hc7 := fmod_b (kN.fdiv 28) 7 (by decide);
    have hm15 := fmod_b (kN.fdiv 196) 15 (by decide);
    rcases menu4 (kN.fdiv 7) with h4 | h4 | h4 | h4 <;> rw [h4])
  k_with "mul" => (refine mul_sp (by omega) (by omega) (fun t' k' => ?_))
  k_with "add" => (refine add_str (fun t' k' => ?_) (by simp only [Str.length_append, blanks_length, len_e, len_x, len_12, len_t, sizeLine_eq]; omega))
  k_with "calls" => (
    (rename Fr g L _ _ => cF); (rename News g L _ _ => cN);
    refine law_stripped_call B cF X cN T (by with_unfolding_all rfl) (by omega) (by omega) (by simp only [Str.length_append, blanks_length, len_e, len_x, len_12, len_t]; omega) (fun t' h' tk' F' N' => ?_);
    clear cF cN)
  conv in lStmt 0 => whnf
  with_unfolding_all k_steps
  all_goals (try k_unmd)
  with_unfolding_all k_steps
  rotate_right
  · exact h _ _ kU (by assumption) (by assumption)
  all_goals (exfalso; apply bne_iff_ne.mp ‹(stripped _ _ != _) = true›)
  · exact stripped_bare _ _ _ (by omega) (by omega) (by omega) (by decide +kernel) (by omega)
  · exact stripped_bare_past _ _ _ (by omega) (by omega) (by decide +kernel) (by omega)
  · exact stripped_core _ _ _ (by omega) (by omega) (by omega) (p := 120) (q := 120) (r := []) (t := []) (by decide +kernel) (by decide +kernel) (by decide) (by decide)
  · exact stripped_core _ _ _ (by omega) (by omega) (by omega) (p := 49) (q := 50) (r := [32, 50]) (t := [32, 49]) (by decide +kernel) (by decide +kernel) (by decide) (by decide)
  · exact stripped_core _ _ _ (by omega) (by omega) (by omega) (p := 9) (q := 9) (r := []) (t := []) (by decide +kernel) (by decide +kernel) (by decide) (by decide)
end
end Mine
/- M3 -/
namespace Mine
local macro_rules | `(tactic| walk_at "exec Assign cons ListComp") => `(tactic| k_extra "sizes")
local macro_rules | `(tactic| walk_at "CompSrc") => `(tactic| k_extra "src")
local macro_rules | `(tactic| walk_at "last subscriptTail") => `(tactic| k_extra "menu")
def size5 (k : Int) : Int := if k.fmod 5 = 0 then 0 else if k.fmod 5 = 1 then 1 else if k.fmod 5 = 2 then 3 else if k.fmod 5 = 3 then 4 else 127
theorem menu5 (x : Int) : Int.fmod x 5 = 0 ∨ Int.fmod x 5 = 1 ∨ Int.fmod x 5 = 2 ∨ Int.fmod x 5 = 3 ∨ Int.fmod x 5 = 4 := by
  rw [Int.fmod_eq_emod_of_nonneg x (by decide)]; omega
section
variable {w : World} {fa : Addr} {cd : Value} {g : Heap} {L l : Addr} {m : Str → Option Value} {s : Shared} {RE : Value → Shared → Prop} {mean : ExcName → Option Value} {mg mb : Str → Option Value} {vs : List Value} {ns : List Int} {u : Str → Option Value}
theorem law_sz {Q : Flow → Shared → Prop} (B : Below callerA g [] g) (F : Fr g L s.heap (lNames l u)) (X : (Mine.hd.heap_39 w.params).In g) (N : News g L s.heap [])
    (T : Top Mine.hd.view_39 (looseW Mine.hd.view_39 []) mean mg mb g) (hl : g.IsList l vs.toArray) (hv : IntsAre vs ns) (hlen : ns.length ≤ 63)
    (h : ∀ (D : Addr) (ys : List Value) (h' : Heap) (tk : Nat), IntsAre ys (ns.map size5) → Fr g L h' (fun z => if z = Str.ofString "sizes" then some (.ref D) else lNames l u z) → News g L h' [(D, PySem.W.listOf ys.toArray ys.length)] → Q .next { s with heap := h', toks := tk }) :
    wpAny (model PySem.Challenge.rw_wy0062_01.row.prog w) (callerA.deeper (lEnv L fa cd)) (exec (lStmt 1) (lEnv L fa cd)) Q (fun e s' => wpAny (model PySem.Challenge.rw_wy0062_01.row.prog w) (callerA.deeper (lEnv L fa cd)) (leaving (lEnv L fa cd) e) (fun _ s'' => RE e s'') (fun e' s'' => RE e' s'') s') s := by
  unfold lNames at F
  revert X; k_fill; intro X
  k_with_none
  w_top off
  k_with "sizes" => (refine LCg.Assign_ListComp_U (F₀ := by k_asm) (by rfl) (by with_unfolding_all rfl) (by with_unfolding_all rfl) (by decide) (by rfl) (by decide) (by rfl) (by rfl) (by rfl) ?_)
  k_with "src" => (refine LCg.CompSrc.base (by rfl) (by k_asm) (by k_asm) (by assumption) (by size_fits) ?_; intro g'; refine' kcf_list size5 (by assumption) (fun k' t' I' oI' C' oC' D' m' ys' h' tk' E' hk' hC' hx' F' N' off' ne' hMark' => ?_) ?_; (all_goals (try (simp only [LCg.Off3, and_true] at off'))); kcf_last)
  k_with "menu" => (rcases menu5 k' with h4 | h4 | h4 | h4 | h4 <;> rw [h4])
  conv in lStmt 1 => whnf
  with_unfolding_all k_steps
  exact h _ _ _ _ (by assumption) (by assumption) (by assumption)
end
end Mine
/- M4 -/
namespace Mine
local macro_rules | `(tactic| walk_at "call ref") => `(tactic| k_extra "calls")
local macro_rules | `(tactic| walk_at "compareOp NotEq ref ref") => `(tactic| k_extra "cmp")
theorem news_swap {h₀ h : Heap} {L : Addr} {x y : Addr × Obj} {news : List (Addr × Obj)} (N : News h₀ L h (x :: y :: news)) : News h₀ L h (y :: x :: news) := fun p hp => N p (by
  rcases List.mem_cons.mp hp with rfl | hp
  · exact List.mem_cons_of_mem _ List.mem_cons_self
  · rcases List.mem_cons.mp hp with rfl | hp
    · exact List.mem_cons_self
    · exact List.mem_cons_of_mem _ (List.mem_cons_of_mem _ hp))
theorem news_nil {h₀ h : Heap} {L : Addr} : News h₀ L h [] := fun _ hp => nomatch hp
theorem sizesD_form (ns : List Int) : (∃ l : List Int, sizesD ns = l.map PyData.int) ∨ sizesD ns = [PyData.str refused] := by
  unfold sizesD
  dsimp only
  split
  · split
    · exact .inr rfl
    · exact .inl ⟨_, rfl⟩
  · exact .inl ⟨_, rfl⟩
theorem sizesD_can (ns : List Int) : PyData.canLayAll0 (sizesD ns) = true := by
  rcases sizesD_form ns with ⟨l, e⟩ | e <;> rw [e]
  · exact ke_canLayAll0 l
  · decide +kernel
theorem sizesD_shaped (ns : List Int) : SeqAt.shaped (.list (sizesD ns)) = true := by
  rcases sizesD_form ns with ⟨l, e⟩ | e <;> rw [e]
  · exact ke_shaped_ints l
  · decide +kernel
theorem sizesD_eqv (ns : List Int) : PyData.eqv (.list (sizesD ns)) (.list (sizesD ns)) = true := by
  rw [PyData.eqv]; exact SeqAt.eqvAll_refl _ (sizesD_can ns)
section
variable {prog : Program} {w : World} {A : Around} {E : Value → Shared → Prop} {s : Shared} {a b : Addr} {h₀ : Heap} {L : Addr} {news : List (Addr × Obj)} {ys zs : List Value} {i j : Nat} {ns : List Int} {Q : Value → Shared → Prop}
theorem cmp_sizes (N : News h₀ L s.heap news) (ha : (a, PySem.W.listOf ys.toArray i) ∈ news) (hb : (b, PySem.W.listOf zs.toArray j) ∈ news) (hy : CarriedAll ys (sizesD ns)) (hz : CarriedAll zs (sizesD ns)) (hu : A.units + 64 < cLine) (h : Q (.bool false) s) :
    wpAny (model prog w) A (compareOp .NotEq (.ref a) (.ref b)) Q E s := by
  refine ne_dataH (reads_newData ⟨_, N.get ha, rfl, _, rfl⟩ hy) (reads_newData ⟨_, N.get hb, rfl, _, rfl⟩ hz) (sizesD_shaped ns) (sizesD_shaped ns) hu ?_
  rw [sizesD_eqv]; exact h
end
section
variable {w : World} {fa : Addr} {cd : Value} {g : Heap} {L l D : Addr} {m : Str → Option Value} {s : Shared} {RE : Value → Shared → Prop} {mean : ExcName → Option Value} {mg mb : Str → Option Value} {vs ys : List Value} {ns : List Int} {u : Str → Option Value}
theorem law_cmp {Q : Flow → Shared → Prop} (B : Below callerA g [] g) (F : Fr g L s.heap (fun z => if z = Str.ofString "sizes" then some (.ref D) else lNames l u z)) (X : (Mine.hd.heap_39 w.params).In g) (N : News g L s.heap [(D, PySem.W.listOf ys.toArray ys.length)])
    (T : Top Mine.hd.view_39 (looseW Mine.hd.view_39 []) mean mg mb g) (hv : IntsAre ys ns) (hlen : ns.length ≤ 63) (hbare : AllBare s.gens)
    (h : ∀ (h' : Heap) (tk : Nat) (gens' : Array GenState), AllBare gens' → Fr g L h' (fun z => if z = Str.ofString "sizes" then some (.ref D) else lNames l u z) → News g L h' [] → Q .next { s with heap := h', gens := gens', toks := tk }) :
    wpAny (model PySem.Challenge.rw_wy0062_01.row.prog w) (callerA.deeper (lEnv L fa cd)) (exec (lStmt 2) (lEnv L fa cd)) Q (fun e s' => wpAny (model PySem.Challenge.rw_wy0062_01.row.prog w) (callerA.deeper (lEnv L fa cd)) (leaving (lEnv L fa cd) e) (fun _ s'' => RE e s'') (fun e' s'' => RE e' s'') s') s := by
  unfold lNames at F h
  revert X; k_fill; intro X
  k_with_none
  w_top off
  k_with "calls" => (first
    | (with_reducible show wpAny _ _ (call (.ref 56) _) _ _ _; refine law_taken_call B F X N T (by with_unfolding_all rfl) hv hlen hbare (fun D1 ys1 k1 h1 tk1 gens1 hb1 c1 F1 N1 => ?_))
    | (refine law_sizes_call B F1 X (news_swap N1) T (by with_unfolding_all rfl) hv hlen (fun D2 ys2 h2 tk2 c2 F2 N2 => ?_)))
  k_with "cmp" => (refine cmp_sizes N2 (List.Mem.tail _ (List.Mem.tail _ (List.Mem.head _))) (List.Mem.head _) c1 c2 (by ke_room) ?_)
  conv in lStmt 2 => whnf
  with_unfolding_all k_steps
  exact h _ _ _ hb1 F2 news_nil
end
end Mine
/- M5 -/
namespace Mine
section
variable {w : World} {fa : Addr} {cd : Value} {g : Heap} {L l D : Addr} {m : Str → Option Value} {s : Shared} {RE : Value → Shared → Prop} {mean : ExcName → Option Value} {mg mb : Str → Option Value} {vs ys : List Value} {ns : List Int} {u : Str → Option Value}
theorem law_one {Q : Flow → Shared → Prop} (B : Below callerA g [] g) (F : Fr g L s.heap (fun z => if z = Str.ofString "sizes" then some (.ref D) else lNames l u z)) (X : (Mine.hd.heap_39 w.params).In g) (N : News g L s.heap [])
    (T : Top Mine.hd.view_39 (looseW Mine.hd.view_39 []) mean mg mb g) (hl : g.IsList l vs.toArray) (hv : IntsAre vs ns) (hlen : ns.length ≤ 63)
    (h : ∀ (x : Str) (t : Tok) (h' : Heap) (tk : Nat), x.length ≤ 63 → Fr g L h' (fun y => if y = Str.ofString "one" then some (.str x t) else if y = Str.ofString "sizes" then some (.ref D) else lNames l u y) → Q .next { s with heap := h', toks := tk }) :
    wpAny (model PySem.Challenge.rw_wy0062_01.row.prog w) (callerA.deeper (lEnv L fa cd)) (exec (lStmt 3) (lEnv L fa cd)) Q (fun e s' => wpAny (model PySem.Challenge.rw_wy0062_01.row.prog w) (callerA.deeper (lEnv L fa cd)) (leaving (lEnv L fa cd) e) (fun _ s'' => RE e s'') (fun e' s'' => RE e' s'') s') s := by
  unfold lNames at F
  revert X; k_fill; intro X
  k_with_none
  w_top off
  conv in lStmt 3 => whnf
  with_unfolding_all k_steps
  rename (Txt.join _ _).length = _ => hj
  exact h _ _ _ _ (by rw [hj]; exact Nat.le_trans (List.length_filter_le _ _) hlen) (by assumption)
end
end Mine
/- M6 -/
namespace Mine
local macro_rules | `(tactic| walk_at "CompSrc") => `(tactic| k_extra "src")
/-- the sign that a number stands for in other -/
def sign2 (k : Int) : Str := Txt.item (Str.ofString "aAbé") ((k.fdiv 4).fmod 4)
section
variable {w : World} {fa : Addr} {cd : Value} {g : Heap} {L l D : Addr} {m : Str → Option Value} {s : Shared} {RE : Value → Shared → Prop} {mean : ExcName → Option Value} {mg mb : Str → Option Value} {vs ys : List Value} {ns : List Int} {u : Str → Option Value} {x : Str} {tx : Tok}
theorem law_other {Q : Flow → Shared → Prop} (B : Below callerA g [] g) (F : Fr g L s.heap (fun z => if z = Str.ofString "one" then some (.str x tx) else if z = Str.ofString "sizes" then some (.ref D) else lNames l u z)) (X : (Mine.hd.heap_39 w.params).In g) (N : News g L s.heap [])
    (T : Top Mine.hd.view_39 (looseW Mine.hd.view_39 []) mean mg mb g) (hl : g.IsList l vs.toArray) (hv : IntsAre vs ns) (hlen : ns.length ≤ 63)
    (h : ∀ (y : Str) (t : Tok) (h' : Heap) (tk : Nat), y.length ≤ 63 → Fr g L h' (fun z => if z = Str.ofString "other" then some (.str y t) else if z = Str.ofString "one" then some (.str x tx) else if z = Str.ofString "sizes" then some (.ref D) else lNames l u z) → Q .next { s with heap := h', toks := tk }) :
    wpAny (model PySem.Challenge.rw_wy0062_01.row.prog w) (callerA.deeper (lEnv L fa cd)) (exec (lStmt 4) (lEnv L fa cd)) Q (fun e s' => wpAny (model PySem.Challenge.rw_wy0062_01.row.prog w) (callerA.deeper (lEnv L fa cd)) (leaving (lEnv L fa cd) e) (fun _ s'' => RE e s'') (fun e' s'' => RE e' s'') s') s := by
  unfold lNames at F
  revert X; k_fill; intro X
  k_with_none
  w_top off
  have hfd : 0 ≤ ((ns.length : Int)).fdiv 2 ∧ ((ns.length : Int)).fdiv 2 ≤ (ns.length : Int) := by
    rw [Int.fdiv_eq_ediv_of_nonneg _ (by decide)]; omega
  k_with "src" => (first
    | (exfalso; omega)
    | (refine LCg.CompSrc.ledger (by with_unfolding_all rfl) (by k_asm) (by k_asm) (by with_unfolding_all exact List.Mem.head _) (by kcf_size) ?_; intro g'; (refine' kct_list sign2 (by first | assumption | l_ints) (fun k' t' I' oI' C' oC' D' m' ys' h' tk' E' hk' hC' hx' F' N' off' ne' => ?_) ?_); (all_goals (try (simp only [LCg.Off3, and_true] at off'))); (all_goals (try ((show KPfMark → _); intro hMark'))); kcf_last))
  conv in lStmt 4 => whnf
  with_unfolding_all k_steps
  · exact kct_el rfl rfl rfl
  · rename (Txt.join _ _).length = _ => hj
    exact h _ _ _ _ (by rw [hj, List.length_take]; omega) (by assumption)
end
end Mine
/- M7 -/
namespace Mine
local macro_rules | `(tactic| walk_at "call ref") => `(tactic| k_extra "calls")
section
variable {w : World} {fa : Addr} {cd : Value} {g : Heap} {L l D : Addr} {m : Str → Option Value} {s : Shared} {RE : Value → Shared → Prop} {mean : ExcName → Option Value} {mg mb : Str → Option Value} {u : Str → Option Value} {x y : Str} {tx ty : Tok}
theorem law_ord {Q : Flow → Shared → Prop} (B : Below callerA g [] g) (F : Fr g L s.heap (fun z => if z = Str.ofString "other" then some (.str y ty) else if z = Str.ofString "one" then some (.str x tx) else if z = Str.ofString "sizes" then some (.ref D) else lNames l u z)) (X : (Mine.hd.heap_39 w.params).In g) (N : News g L s.heap [])
    (T : Top Mine.hd.view_39 (looseW Mine.hd.view_39 []) mean mg mb g) (hx : x.length ≤ 63) (hy : y.length ≤ 63)
    (h : ∀ (h' : Heap) (tk : Nat), Fr g L h' (fun z => if z = Str.ofString "other" then some (.str y ty) else if z = Str.ofString "one" then some (.str x tx) else if z = Str.ofString "sizes" then some (.ref D) else lNames l u z) → Q .next { s with heap := h', toks := tk }) :
    wpAny (model PySem.Challenge.rw_wy0062_01.row.prog w) (callerA.deeper (lEnv L fa cd)) (exec (lStmt 5) (lEnv L fa cd)) Q (fun e s' => wpAny (model PySem.Challenge.rw_wy0062_01.row.prog w) (callerA.deeper (lEnv L fa cd)) (leaving (lEnv L fa cd) e) (fun _ s'' => RE e s'') (fun e' s'' => RE e' s'') s') s := by
  unfold lNames at F h
  revert X; k_fill; intro X
  k_with_none
  w_top off
  k_with "calls" => (
    (rename Fr g L _ _ => cF); (rename News g L _ _ => cN);
    first
    | (with_reducible show wpAny _ _ (call (.ref 21) _) _ _ _; refine strcoll_call B cF X cN T (by with_unfolding_all rfl) (by omega) (by omega) (fun t' h' tk' F' N' => ?_))
    | (with_reducible show wpAny _ _ (call (.ref 70) _) _ _ _; refine law_order_call B cF X cN T (by with_unfolding_all rfl) (by omega) (by omega) (fun t' h' tk' F' N' => ?_)))
  conv in lStmt 5 => whnf
  with_unfolding_all k_steps
  all_goals first
    | exact absurd rfl ‹ordL x.cps.toList y.cps.toList ≠ ordL x.cps.toList y.cps.toList›
    | exact absurd rfl ‹ordL y.cps.toList x.cps.toList ≠ ordL y.cps.toList x.cps.toList›
    | exact h _ _ (by assumption)
theorem law_ret {Q : Flow → Shared → Prop} (B : Below callerA g [] g) (F : Fr g L s.heap (fun z => if z = Str.ofString "other" then some (.str y ty) else if z = Str.ofString "one" then some (.str x tx) else if z = Str.ofString "sizes" then some (.ref D) else lNames l u z)) (X : (Mine.hd.heap_39 w.params).In g) (N : News g L s.heap [])
    (T : Top Mine.hd.view_39 (looseW Mine.hd.view_39 []) mean mg mb g) (hx : x.length ≤ 63) (hy : y.length ≤ 63)
    (h : ∀ (h' : Heap) (tk : Nat), Fr g L h' (fun z => if z = Str.ofString "other" then some (.str y ty) else if z = Str.ofString "one" then some (.str x tx) else if z = Str.ofString "sizes" then some (.ref D) else lNames l u z) → Q (.ret (.bool true)) { s with heap := h', toks := tk }) :
    wpAny (model PySem.Challenge.rw_wy0062_01.row.prog w) (callerA.deeper (lEnv L fa cd)) (exec (lStmt 6) (lEnv L fa cd)) Q (fun e s' => wpAny (model PySem.Challenge.rw_wy0062_01.row.prog w) (callerA.deeper (lEnv L fa cd)) (leaving (lEnv L fa cd) e) (fun _ s'' => RE e s'') (fun e' s'' => RE e' s'') s') s := by
  unfold lNames at F h
  revert X; k_fill; intro X
  k_with_none
  w_top off
  k_with "calls" => (
    (rename Fr g L _ _ => cF); (rename News g L _ _ => cN);
    first
    | (with_reducible show wpAny _ _ (call (.ref 21) _) _ _ _; refine strcoll_call B cF X cN T (by with_unfolding_all rfl) (by omega) (by omega) (fun t' h' tk' F' N' => ?_))
    | (with_reducible show wpAny _ _ (call (.ref 70) _) _ _ _; refine law_order_call B cF X cN T (by with_unfolding_all rfl) (by omega) (by omega) (fun t' h' tk' F' N' => ?_)))
  conv in lStmt 6 => whnf
  with_unfolding_all k_steps
  · rw [show (ordL x.cps.toList x.cps.toList == 0) = true from by rw [ordL_self]; rfl]
    exact h _ _ F'
  · exact absurd rfl ‹ordL x.cps.toList y.cps.toList ≠ ordL x.cps.toList y.cps.toList›
end
end Mine
/- M8 -/
namespace Mine
section
variable {w : World} {fa : Addr} {cd : Value} {g : Heap} {L l : Addr} {s : Shared} {RE : Value → Shared → Prop} {mean : ExcName → Option Value} {mg mb : Str → Option Value} {vs : List Value} {ns : List Int}
theorem body_is : lBody = [lStmt 0, lStmt 1, lStmt 2, lStmt 3, lStmt 4, lStmt 5, lStmt 6] := rfl
theorem law_all {Q : Flow → Shared → Prop} (B : Below callerA g [] g) (F : Fr g L s.heap (fun y => List.lookup y [(Str.ofString "script", .ref l)])) (X : (Mine.hd.heap_39 w.params).In g) (N : News g L s.heap [])
    (T : Top Mine.hd.view_39 (looseW Mine.hd.view_39 []) mean mg mb g) (hl : g.IsList l vs.toArray) (hv : IntsAre vs ns) (hlen : ns.length ≤ 63) (hbare : AllBare s.gens)
    (ret : ∀ (h' : Heap) (tk : Nat) (gens' : Array GenState) (m' : Str → Option Value), AllBare gens' → Fr g L h' m' → Q (.ret (.bool true)) { s with heap := h', gens := gens', toks := tk }) :
    wpAny (model PySem.Challenge.rw_wy0062_01.row.prog w) (callerA.deeper (lEnv L fa cd)) (execs lBody (lEnv L fa cd)) Q (fun e s' => wpAny (model PySem.Challenge.rw_wy0062_01.row.prog w) (callerA.deeper (lEnv L fa cd)) (leaving (lEnv L fa cd) e) (fun _ s'' => RE e s'') (fun e' s'' => RE e' s'') s') s := by
  rw [body_is]
  refine wpAny_execs_cons (law_for B F X N T hl hv hlen (fun h1 tk1 u F1 N1 => ?_))
  refine wpAny_execs_cons (law_sz B F1 X N1 T hl hv hlen (fun D ys h2 tk2 hy F2 N2 => ?_))
  refine wpAny_execs_cons (law_cmp B F2 X N2 T hy (by rw [List.length_map]; exact hlen) hbare (fun h3 tk3 gens3 hb3 F3 N3 => ?_))
  refine wpAny_execs_cons (law_one B F3 X N3 T hl hv hlen (fun x tx h4 tk4 hx F4 => ?_))
  refine wpAny_execs_cons (law_other B F4 X news_nil T hl hv hlen (fun y ty h5 tk5 hy F5 => ?_))
  refine wpAny_execs_cons (law_ord B F5 X news_nil T hx hy (fun h6 tk6 F6 => ?_))
  refine wpAny_execs_cons (law_ret B F6 X news_nil T hx hy (fun h7 tk7 F7 => ?_))
  exact ret h7 tk7 gens3 _ hb3 F7
end
theorem law_holds : PySem.Challenge.rw_wy0062_01.Holds := Mine.hd (by
  k_fill
  k_with_none
  w_top off
  intro w s₀ s₁ mg mb G Y fa o pm cd doc dV kV ho hd hcd hD hmg hg args vals as hpre hlay hrd hwl hlo
  have KX := kIn_of Y
  have X := (Ground.X G).1
  have V := (Ground.X G).2
  try w_nolog (first | (have GL := glob_more (Ground.glob G (by first | k_qdec | decide +kernel) (by first | k_qdec | decide +kernel)) V) | (have GL := glob_more (Ground.glob G (by decide +kernel)) V))
  refine Ground.open G ?_
  intro T B D TE TW
  try (refine guard_noD D (by decide +kernel) ?_; clear D)
  obtain ⟨_, _, M⟩ := bmod_of_top T
  have TA := at_of_top T
  try (obtain ⟨_, _, he, B0⟩ := based_of_top T rfl hmg ho hd; have he' : cd = _ := he; subst he'; clear he)
  clear hmg
  wrow_args hpre hlay hrd hwl hlo
  first | refine callC_kw (enter_call ?_) | refine enter_call ?_ | refine callC_kw (enter_callW ?_) | refine enter_callW ?_ | w_how
  w_top on
  have K0 := below_caller (Top.heap T)
  w_call any ho hd hcd hD T F
  clear hd TA
  k_drop
  try k_unmd
  k_fold
  with_unfolding_all refine law_all K0 F KX news_nil T (by assumption) (by assumption) (by omega) (by rw [hg]; exact AllBare.empty) (fun h' tk gens' m' hb' F' => ?_)
  refine ⟨.inl ⟨_, _, [], rfl, fun _ => rfl, ReadsW.bool true, ?_, fun _ => ⟨List.nodup_nil, fun _ hm => (nomatch hm)⟩⟩, OldK.of_keep F'.keep, rfl, hb'⟩
  first | rfl | wrow_post)
end Mine
theorem PySem.Challenge.cw_wy0062_01_holds : PySem.Challenge.rw_wy0062_01.Holds := by
  exact Mine.law_holds
