import PyProof.Rows.All
import Wide.All
import OpenK.AllK
import Wide.FinOn
import PySem.Challenge.RW_nb0056_01

set_option Elab.async false

section -- Hd
open PySem PySem.W PyProof.Rows
namespace Mine
set_option maxRecDepth 100000 in
set_option maxHeartbeats 8000000 in
open_top hd for PySem.Challenge.rw_nb0056_01
end Mine
end

section -- Tx
open PySem PySem.W PyProof.Rows PySem.Builtin PySem.Builtin.Str
namespace Mine

theorem gives_find4 (x y : Str) (i : Int) (t u v v' : Tok) : Gives («str.find» ⟨[.str x t, .str y u, .int i v, .int (x.length : Int) v'], []⟩) (.int (Txt.find3 x y i)) := by
  show Gives (match occurrences x y (fromIndex x.length i) (min (fromIndex x.length (x.length : Int)) x.length) 1 with | k :: _ => retInt k | [] => (do rule "str.find.not-found"; retInt (-1))) _
  have e : min (fromIndex x.length (x.length : Int)) x.length = x.length := by
    unfold fromIndex
    omega
  rw [e]
  unfold Txt.find3
  cases occurrences x y (fromIndex x.length i) x.length 1 with
  | nil => exact .rule (.of_eq rfl)
  | cons k _ => exact .of_eq rfl

theorem call_find4 {prog : Program} {w : World} {A : Around} {E : Value → Shared → Prop} {s : Shared} {x y : Str} {t u v v' : Tok} {i j : Int} {Q : Value → Shared → Prop} (hj : j = (x.length : Int))
    (hq : Q (.int (Txt.find3 x y i) s.toks) { s with toks := s.toks + 1 }) : wpAny (model prog w) A (call (.builtin "str.find") [.str x t, .str y u, .int i v, .int j v']) Q E s := by
  subst hj
  exact call_gives F.slot_str_find (typeIs_str _ _ _) F.entry_str_find (F.args_str_find_4 _ _ _ _) (gives_find4 x y i t u v v') hq

theorem fromIndex_nat (n p : Nat) : fromIndex n (p : Int) = p := by
  unfold fromIndex; omega

theorem find_empty (x : Str) (p : Nat) (hp : p ≤ x.length) : Txt.find3 x (Str.ofString "") (p : Int) = (p : Int) := by
  rw [show Str.ofString "" = ⟨#[]⟩ from by decide]
  unfold Txt.find3
  rw [fromIndex_nat]
  have hat : StrLaws.At x ⟨#[]⟩ x.length p := ⟨by simpa [PySem.Str.length] using hp, by rw [StrLaws.subAt_eq]; simp [PySem.Str.length]⟩
  rcases StrLaws.occ_head_from x ⟨#[]⟩ p 1 (Nat.le_refl 1) with ⟨_, hn⟩ | ⟨k, r, h0, hlo, _, hn⟩
  · exact absurd hat (hn p (Nat.le_refl p))
  · rw [h0]
    rcases Nat.lt_or_eq_of_le hlo with h | h
    · exact absurd hat (hn p (Nat.le_refl p) h)
    · show (k : Int) = p
      omega

/-- one step of the greedy search -/
theorem find_one (x : Str) (c p : Nat) (r : List Nat) :
    (Txt.find3 x ⟨#[c]⟩ (p : Int) = -1 ∧ ¬ (c :: r).Sublist (x.cps.toList.drop p)) ∨
    ∃ k : Nat, Txt.find3 x ⟨#[c]⟩ (p : Int) = (k : Int) ∧ k + 1 ≤ x.length ∧ ((c :: r).Sublist (x.cps.toList.drop p) ↔ r.Sublist (x.cps.toList.drop (k + 1))) := by
  have h := StrLaws.find3_spec x c (p : Int)
  rw [fromIndex_nat] at h
  have key : ∀ v, x.cps.getD v 0 = x.cps.toList.getD v 0 := fun v => by
    simp [Array.getD, List.getD]
    split
    · rename_i h; simp [h]
    · rename_i h; simp [h]
  simp only [key] at h
  have hlen : x.length = x.cps.toList.length := by simp [PySem.Str.length]
  rw [hlen] at h ⊢
  generalize Txt.find3 x ⟨#[c]⟩ (p : Int) = z at h
  generalize x.cps.toList = l at h ⊢
  rcases h with ⟨h0, hn⟩ | ⟨k, h0, hlo, hk, hc, hn⟩
  · refine .inl ⟨h0, fun hs => ?_⟩
    have hm : c ∈ l.drop p := hs.subset (List.mem_cons_self ..)
    obtain ⟨i, hi, e⟩ := List.mem_iff_getElem.mp hm
    rw [List.getElem_drop] at e
    have hi' : p + i < l.length := by simp at hi; omega
    refine hn (p + i) (by omega) hi' ?_
    simp [List.getD, List.getElem?_eq_getElem hi', e]
  · refine .inr ⟨k, h0, hk, ?_⟩
    obtain ⟨d, rfl⟩ : ∃ d, k = p + d := ⟨k - p, by omega⟩
    clear h0 hlo
    induction d generalizing p with
    | zero =>
      have e : l.drop p = c :: l.drop (p + 1) := by
        rw [List.drop_eq_getElem_cons (by omega)]
        congr 1
        simpa [List.getD, List.getElem?_eq_getElem (show p < l.length by omega)] using hc
      rw [e]
      exact List.cons_sublist_cons
    | succ d ih =>
      have hp : p < l.length := by omega
      have e : l.drop p = l[p] :: l.drop (p + 1) := List.drop_eq_getElem_cons hp
      have hne : l[p] ≠ c := by
        have := hn p (Nat.le_refl p) (by omega)
        simpa [List.getD, List.getElem?_eq_getElem hp] using this
      have h2 := ih (p + 1) (by omega) (by rw [show p + 1 + d = p + (d + 1) by omega]; exact hc) (fun v h1 h2 => hn v (by omega) (by omega))
      rw [show p + 1 + d = p + (d + 1) by omega] at h2
      rw [← h2, e]
      constructor
      · intro h
        cases h with
        | cons _ h => exact h
        | cons_cons _ h => exact absurd rfl hne
      · exact fun h => .cons _ h
end Mine
end

section -- Wd
open PySem PySem.W PyProof.Rows PySem.Builtin PySem.Builtin.Str
namespace Mine
abbrev S (l : List Nat) : Str := ⟨l.toArray⟩
def letters : List Nat := [97, 98, 99]
def others (one : Nat) : List Nat := letters.filter (· != one)
def tailW (size one many other : Nat) (n : Nat) : List (List Nat) := (List.range n).map fun j => List.replicate many one ++ List.replicate (j + 1) other
def block (size one many : Nat) : List (List Nat) := List.replicate many one :: (others one).flatMap fun other => tailW size one many other (size - many)
/-- the words of _law_words, as codes -/
def wordsL (size : Nat) : List (List Nat) := letters.flatMap fun one => (List.range size).flatMap fun i => block size one (i + 1)
def wantL (word : List Nat) : List Nat := [46, 46, 46] ++ word.flatMap fun c => [c, 46, 46, 46]
theorem want_facts : ∀ word ∈ wordsL 4, (occurrences (S (wantL word)) (Str.ofString "...") 0 (S (wantL word)).length 1).isEmpty = false ∧
    Txt.split (S (wantL word)) (Str.ofString "...") = Str.ofString "" :: (word.map fun c => S [c]) ++ [Str.ofString ""] ∧
    Str.ofString "..." ++ Txt.join (Str.ofString "...") (signs (S word)) ++ Str.ofString "..." = S (wantL word) ∧ (S (wantL word)).length ≤ 19 := by
  decide +kernel
theorem words_sub : ∀ k, k ≤ 4 → ∀ w ∈ wordsL k, w ∈ wordsL 4 := by
  have h : ∀ k ∈ List.range 5, ∀ w ∈ wordsL k, w ∈ wordsL 4 := by decide +kernel
  intro k hk
  exact h k (List.mem_range.mpr (by omega))
end Mine
end

section -- Lp
open PySem PySem.W PyProof.Rows
set_option maxRecDepth 100000
namespace Mine
section
variable {σ : Type} {prog : Program} {w : World} {A : Around} {E : Value → Shared → Prop} {s : Shared} {env : Env} {h₀ : Heap} {x : Str} {body : List Stmt} {Q : Flow → Shared → Prop} {m₀ : Str → Option Value}

/-- the frame's map inside a loop: the letters ps, the stored names unknown (u), the rest as before the loop -/
def mapOf (stored : List Str) (u m₀ : Str → Option Value) (ps : List (Str × Value)) : Str → Option Value := kstB (fun z => if stored.contains z then u z else m₀ z) ps

def TEnd (h₀ : Heap) (L : Addr) (Led : σ → List (Addr × Obj)) (ps : σ → List (Str × Value)) (x : Str) (stored : List Str) (m₀ : Str → Option Value) (P : σ → Prop) (own : List (Addr × Obj)) (adr : List Addr) (s₁ s₂ : Shared) : Prop :=
  ∃ c h' tk m' news', s₂ = { s₁ with heap := h', toks := tk } ∧ Fr h₀ L h' m' ∧ News h₀ L h' news' ∧ (∀ p ∈ Led c, p ∈ news') ∧ (∀ p ∈ own, p ∈ news') ∧ (Led c).map (·.1) = adr ∧
    (∀ p ∈ ps c, m' p.1 = some p.2) ∧ (∀ z, z ≠ x → (∀ p ∈ ps c, z ≠ p.1) → stored.contains z = false → m' z = m₀ z) ∧ P c
def TPost (h₀ : Heap) (L : Addr) (Led : σ → List (Addr × Obj)) (ps : σ → List (Str × Value)) (x : Str) (stored : List Str) (m₀ : Str → Option Value) (P : σ → Prop) (own : List (Addr × Obj)) (adr : List Addr) (s₁ : Shared) (Q : Flow → Shared → Prop) (f : Flow) (s₂ : Shared) : Prop :=
  match f with
  | .ret v => Q (.ret v) s₂
  | .brk => Q .next s₂
  | _ => TEnd h₀ L Led ps x stored m₀ P own adr s₁ s₂

theorem TEnd.intro {L : Addr} {Led : σ → List (Addr × Obj)} {ps : σ → List (Str × Value)} {stored : List Str} {P : σ → Prop} {own news' : List (Addr × Obj)} {adr : List Addr} {s₁ : Shared} {h' : Heap} {tk : Nat} {m' : Str → Option Value} (c : σ)
    (F : Fr h₀ L h' m') (N : News h₀ L h' news') (hn : ∀ p ∈ Led c, p ∈ news') (ho : ∀ p ∈ own, p ∈ news') (ha : (Led c).map (·.1) = adr) (hk : ∀ p ∈ ps c, m' p.1 = some p.2)
    (hr : ∀ z, z ≠ x → (∀ p ∈ ps c, z ≠ p.1) → stored.contains z = false → m' z = m₀ z) (hp : P c) : TEnd h₀ L Led ps x stored m₀ P own adr s₁ { s₁ with heap := h', toks := tk } :=
  ⟨c, h', tk, m', news', rfl, F, N, hn, ho, ha, hk, hr, hp⟩

theorem TEnd.toN {L : Addr} {Led : σ → List (Addr × Obj)} {ps : σ → List (Str × Value)} {stored : List Str} {P : σ → Prop} {P' : List Int → σ → Prop} {pre : List Int} {own : List (Addr × Obj)} {adr : List Addr} {s₁ s₂ : Shared}
    (h : TEnd h₀ L Led ps x stored m₀ P own adr s₁ s₂) (hP : ∀ c, P c → P' pre c) : InvEndN h₀ L (KstS Led ps (fun _ => True) x stored m₀ P' pre) own adr s₁ s₂ := by
  obtain ⟨c, h', tk, m', news', e, F, N, hn, ho, ha, hk, hr, hp⟩ := h
  exact ⟨h', tk, m', news', Led c, e, F, N, hn, ho, ha, c, rfl, trivial, hk, hr, hP c hp⟩
theorem TPost.toN {L : Addr} {Led : σ → List (Addr × Obj)} {ps : σ → List (Str × Value)} {stored : List Str} {P : σ → Prop} {P' : List Int → σ → Prop} {pre : List Int} {own : List (Addr × Obj)} {adr : List Addr} {s₁ s₂ : Shared} {f : Flow}
    (h : TPost h₀ L Led ps x stored m₀ P own adr s₁ Q f s₂) (hP : ∀ c, P c → P' pre c) : InvPostN h₀ L (KstS Led ps (fun _ => True) x stored m₀ P' pre) own adr s₁ Q f s₂ := by
  cases f with
  | ret v => exact h
  | brk => exact h
  | next => exact TEnd.toN h hP
  | cont => exact TEnd.toN h hP

theorem loop_range {r : Addr} {a₀ b₀ : Int} {t₀ u₀ v₀ : Tok} {n : Nat} (Led : σ → List (Addr × Obj)) (ps : σ → List (Str × Value)) (stored : List Str) (P : Nat → σ → Prop) (c₀ : σ)
    (hh : A.handled = none) (hr : IsRange s.heap r a₀ b₀ 1 t₀ u₀ v₀) (hsmall : Builtin.Range.small a₀ b₀ 1 = true) (hn : Builtin.Range.rangeSize a₀ b₀ 1 = (n : Int)) (F : Fr h₀ env.locals s.heap m₀) (N : News h₀ env.locals s.heap (Led c₀)) (hk : ∀ p ∈ ps c₀, m₀ p.1 = some p.2) (hp : P 0 c₀)
    (turn : ∀ (c : σ) (i : Nat) t (u : Str → Option Value) h tk own, i < n → OwnOff own ((Led c₀).map (·.1)) → P i c →
      Fr h₀ env.locals h (fun y => if y = x then some (.int (a₀ + (i : Int)) t) else mapOf stored u m₀ (ps c) y) → News h₀ env.locals h (Led c ++ own) →
      wpAny (model prog w) A (execs body env) (TPost h₀ env.locals Led ps x stored m₀ (P (i + 1)) own ((Led c₀).map (·.1)) { s with heap := h, toks := tk } Q) E { s with heap := h, toks := tk })
    (done : ∀ (c : σ) (u : Str → Option Value) h tk, P n c → Fr h₀ env.locals h (fun y => if y = x then u y else mapOf stored u m₀ (ps c) y) → News h₀ env.locals h (Led c) → Q .next { s with heap := h, toks := tk }) :
    wpAny (model prog w) A (pyIter (.ref r)) (fun it s₂ => LoopAtV prog w A h₀ env x body Q E it s₂) E s := by
  refine kst_range Led ps (fun _ => True) stored (fun pre c => P pre.length c) c₀ hh hr hsmall hn F N trivial hk hp ?_ ?_
  · intro c pre k t u h tk own hk hlt off _ hP F₁ N₁
    subst hk
    refine wpAny_mono (turn c pre.length t u h tk own hlt off hP F₁ N₁) (fun f s₂ p => TPost.toN p fun c' hc => ?_) fun _ _ e => e
    rw [List.length_append]
    exact hc
  · intro c u h tk _ hP F₁ N₁
    rw [rangeKs_length] at hP
    exact done c u h tk hP F₁ N₁

theorem loop_range1 {D : Addr} {rest : List (Addr × Obj)} {r : Addr} {a₀ b₀ : Int} {t₀ u₀ v₀ : Tok} {n : Nat} (obj : σ → Obj) (ps : σ → List (Str × Value)) (stored : List Str) (P : Nat → σ → Prop) (c₀ : σ)
    (hh : A.handled = none) (hr : IsRange s.heap r a₀ b₀ 1 t₀ u₀ v₀) (hsmall : Builtin.Range.small a₀ b₀ 1 = true) (hn : Builtin.Range.rangeSize a₀ b₀ 1 = (n : Int)) (F : Fr h₀ env.locals s.heap m₀) (N : News h₀ env.locals s.heap ((D, obj c₀) :: rest)) (hk : ∀ p ∈ ps c₀, m₀ p.1 = some p.2) (hp : P 0 c₀)
    (turn : ∀ (c : σ) (i : Nat) t (u : Str → Option Value) h tk own, i < n → OwnOff own (((D, obj c₀) :: rest).map (·.1)) → P i c →
      Fr h₀ env.locals h (fun y => if y = x then some (.int (a₀ + (i : Int)) t) else mapOf stored u m₀ (ps c) y) → News h₀ env.locals h (((D, obj c) :: rest) ++ own) →
      wpAny (model prog w) A (execs body env) (TPost h₀ env.locals (fun c => (D, obj c) :: rest) ps x stored m₀ (P (i + 1)) own (((D, obj c₀) :: rest).map (·.1)) { s with heap := h, toks := tk } Q) E { s with heap := h, toks := tk })
    (done : ∀ (c : σ) (u : Str → Option Value) h tk, P n c → Fr h₀ env.locals h (fun y => if y = x then u y else mapOf stored u m₀ (ps c) y) → News h₀ env.locals h ((D, obj c) :: rest) → Q .next { s with heap := h, toks := tk }) :
    wpAny (model prog w) A (pyIter (.ref r)) (fun it s₂ => LoopAtV prog w A h₀ env x body Q E it s₂) E s :=
  loop_range (fun c => (D, obj c) :: rest) ps stored P c₀ hh hr hsmall hn F N hk hp turn done

theorem loop_text {xt : Str} {tx : Tok} (Led : σ → List (Addr × Obj)) (ps : σ → List (Str × Value)) (stored : List Str) (P : Nat → σ → Prop) (c₀ : σ)
    (hh : A.handled = none) (F : Fr h₀ env.locals s.heap m₀) (N : News h₀ env.locals s.heap (Led c₀)) (hk : ∀ p ∈ ps c₀, m₀ p.1 = some p.2) (hp : P 0 c₀)
    (turn : ∀ (c : σ) (i n : Nat) t (u : Str → Option Value) h tk own, xt.cps.toList[i]? = some n → OwnOff own ((Led c₀).map (·.1)) → P i c →
      Fr h₀ env.locals h (fun y => if y = x then some (.str ⟨#[n]⟩ t) else mapOf stored u m₀ (ps c) y) → News h₀ env.locals h (Led c ++ own) →
      wpAny (model prog w) A (execs body env) (TPost h₀ env.locals Led ps x stored m₀ (P (i + 1)) own ((Led c₀).map (·.1)) { s with heap := h, toks := tk } Q) E { s with heap := h, toks := tk })
    (done : ∀ (c : σ) (u : Str → Option Value) h tk, P xt.length c → Fr h₀ env.locals h (fun y => if y = x then u y else mapOf stored u m₀ (ps c) y) → News h₀ env.locals h (Led c) → Q .next { s with heap := h, toks := tk }) :
    wpAny (model prog w) A (pyIter (.str xt tx)) (fun it s₂ => LoopAtV prog w A h₀ env x body Q E it s₂) E s := by
  refine KStt.kst_text Led ps (fun _ => True) stored (fun pre c => P pre.length c) c₀ hh F N trivial hk hp ?_ ?_
  · intro c pre post n t u h tk own hk off _ hP F₁ N₁
    have hi : xt.cps.toList[pre.length]? = some n := by
      have h1 : (KStt.codes xt)[pre.length]? = some (n : Int) := by rw [hk]; simp
      unfold KStt.codes at h1
      rw [List.getElem?_map] at h1
      cases h2 : xt.cps.toList[pre.length]? with
      | none => rw [h2] at h1; cases h1
      | some v => rw [h2] at h1; simp at h1; congr 1; omega
    refine wpAny_mono (turn c pre.length n t u h tk own hi off hP F₁ N₁) (fun f s₂ p => TPost.toN p fun c' hc => ?_) fun _ _ e => e
    rw [List.length_append]
    exact hc
  · intro c u h tk _ hP F₁ N₁
    rw [KStt.codes_length] at hP
    exact done c u h tk hP F₁ N₁

theorem mapOf_off {stored : List Str} {u m₀ : Str → Option Value} {z : Str} : ∀ {ps : List (Str × Value)}, (∀ p ∈ ps, z ≠ p.1) → stored.contains z = false → mapOf stored u m₀ ps z = m₀ z
  | [], _, h3 => by
    show (if stored.contains z = true then u z else m₀ z) = m₀ z
    rw [h3]
    rfl
  | p :: r, h2, h3 => by
    show (if z = p.1 then some p.2 else mapOf stored u m₀ r z) = m₀ z
    rw [if_neg (h2 p (List.Mem.head _))]
    exact mapOf_off (fun q hq => h2 q (List.Mem.tail _ hq)) h3
theorem ne_stored {stored : List Str} {z n : Str} (h3 : stored.contains z = false) (hn : n ∈ stored) : z ≠ n := by
  rintro rfl
  rw [List.contains_iff_mem.mpr hn] at h3
  cases h3

theorem ne_ps {ps : List (Str × Value)} {z n : Str} (h2 : ∀ p ∈ ps, z ≠ p.1) (hn : n ∈ ps.map (·.1)) : z ≠ n := by
  obtain ⟨q, hq, e⟩ := List.mem_map.mp hn
  exact e ▸ h2 q hq

theorem sub_contains {st st' : List Str} {z : Str} (h : ∀ n ∈ st', n ∈ st) (h3 : st.contains z = false) : st'.contains z = false := by
  cases h' : st'.contains z with
  | false => rfl
  | true => rw [List.contains_iff_mem.mpr (h z (List.contains_iff_mem.mp h'))] at h3; cases h3
theorem names_of {ps ps' : List (Str × Value)} {z : Str} (h2 : ∀ p ∈ ps, z ≠ p.1) (e : ps'.map (·.1) = ps.map (·.1)) : ∀ p ∈ ps', z ≠ p.1 := fun p hp => by
  have h : p.1 ∈ ps.map (·.1) := e ▸ List.mem_map.mpr ⟨p, hp, rfl⟩
  obtain ⟨q, hq, e'⟩ := List.mem_map.mp h
  exact e' ▸ h2 q hq

/-- over a list of the ledger, whatever its items -/
theorem loop_vals {l : Addr} {vs : List Value} {nn : Nat} (Led : σ → List (Addr × Obj)) (ps : σ → List (Str × Value)) (stored : List Str) (P : Nat → σ → Prop) (c₀ : σ)
    (hh : A.handled = none) (hl : ∀ c : σ, (l, listOf vs.toArray nn) ∈ Led c) (hadr : ∀ c, (Led c).map (·.1) = (Led c₀).map (·.1)) (F : Fr h₀ env.locals s.heap m₀) (N : News h₀ env.locals s.heap (Led c₀)) (hk : ∀ p ∈ ps c₀, m₀ p.1 = some p.2) (hp : P 0 c₀)
    (turn : ∀ (c : σ) (i : Nat) v (u : Str → Option Value) h tk own, vs[i]? = some v → OwnOff own ((Led c₀).map (·.1)) → P i c →
      Fr h₀ env.locals h (fun y => if y = x then some v else mapOf stored u m₀ (ps c) y) → News h₀ env.locals h (Led c ++ own) →
      wpAny (model prog w) A (execs body env) (TPost h₀ env.locals Led ps x stored m₀ (P (i + 1)) own ((Led c₀).map (·.1)) { s with heap := h, toks := tk } Q) E { s with heap := h, toks := tk })
    (done : ∀ (c : σ) (u : Str → Option Value) h tk, P vs.length c → Fr h₀ env.locals h (fun y => if y = x then u y else mapOf stored u m₀ (ps c) y) → News h₀ env.locals h (Led c) → Q .next { s with heap := h, toks := tk }) :
    wpAny (model prog w) A (pyIter (.ref l)) (fun it s₂ => LoopAtV prog w A h₀ env x body Q E it s₂) E s := by
  refine kdl_iter (fun i m nx => ∃ c, nx = Led c ∧ (∀ p ∈ ps c, m p.1 = some p.2) ∧ (∀ z, z ≠ x → (∀ p ∈ ps c, z ≠ p.1) → stored.contains z = false → m z = m₀ z) ∧ P i c) hh (hl c₀) F N ⟨c₀, rfl, hk, fun _ _ _ _ => rfl, hp⟩ ?_ ?_
  · rintro i v m₁ nx h tk own hv hoff _ ⟨c, rfl, h1, h2, hp'⟩ F₁ N₁
    rw [hadr c] at hoff
    refine wpAny_mono (turn c i v m₁ h tk own hv hoff hp' (kst_fr h1 h2 F₁) N₁) (fun f s₂ p => ?_) fun _ _ e => e
    have up : TEnd h₀ env.locals Led ps x stored m₀ (P (i + 1)) own ((Led c₀).map (·.1)) { s with heap := h, toks := tk } s₂ →
        InvEndG h₀ env.locals (fun m' nx => (l, listOf vs.toArray nn) ∈ nx ∧ ∃ c, nx = Led c ∧ (∀ p ∈ ps c, m' p.1 = some p.2) ∧ (∀ z, z ≠ x → (∀ p ∈ ps c, z ≠ p.1) → stored.contains z = false → m' z = m₀ z) ∧ P (i + 1) c) own { s with heap := h, toks := tk } s₂ := by
      rintro ⟨c', h', tk', m', news', e, F', N', hn, ho, ha, hk', hr', hp''⟩
      refine ⟨h', tk', m', news', Led c', e, F', N', hn, ho, ?_, hl c', c', rfl, hk', hr', hp''⟩
      rw [hadr c']
      exact hoff
    cases f with
    | ret v => exact p
    | brk => exact p
    | next => exact up p
    | cont => exact up p
  · rintro m₁ nx h tk ⟨c, rfl, h1, h2, hp'⟩ F₁ N₁
    exact done c m₁ h tk hp' (kst_frOut h1 h2 F₁) N₁

theorem loop_vals1 {D : Addr} {rest : List (Addr × Obj)} {l : Addr} {vs : List Value} {nn : Nat} (obj : σ → Obj) (ps : σ → List (Str × Value)) (stored : List Str) (P : Nat → σ → Prop) (c₀ : σ)
    (hh : A.handled = none) (hl : (l, listOf vs.toArray nn) ∈ rest) (F : Fr h₀ env.locals s.heap m₀) (N : News h₀ env.locals s.heap ((D, obj c₀) :: rest)) (hk : ∀ p ∈ ps c₀, m₀ p.1 = some p.2) (hp : P 0 c₀)
    (turn : ∀ (c : σ) (i : Nat) v (u : Str → Option Value) h tk own, vs[i]? = some v → OwnOff own (((D, obj c₀) :: rest).map (·.1)) → P i c →
      Fr h₀ env.locals h (fun y => if y = x then some v else mapOf stored u m₀ (ps c) y) → News h₀ env.locals h (((D, obj c) :: rest) ++ own) →
      wpAny (model prog w) A (execs body env) (TPost h₀ env.locals (fun c => (D, obj c) :: rest) ps x stored m₀ (P (i + 1)) own (((D, obj c₀) :: rest).map (·.1)) { s with heap := h, toks := tk } Q) E { s with heap := h, toks := tk })
    (done : ∀ (c : σ) (u : Str → Option Value) h tk, P vs.length c → Fr h₀ env.locals h (fun y => if y = x then u y else mapOf stored u m₀ (ps c) y) → News h₀ env.locals h ((D, obj c) :: rest) → Q .next { s with heap := h, toks := tk }) :
    wpAny (model prog w) A (pyIter (.ref l)) (fun it s₂ => LoopAtV prog w A h₀ env x body Q E it s₂) E s :=
  loop_vals (fun c => (D, obj c) :: rest) ps stored P c₀ hh (fun _ => List.Mem.tail _ hl) (fun _ => rfl) F N hk hp turn done
theorem pick7 {g h : Heap} {L : Addr} {a b c d e f k : Addr × Obj} (N : News g L h [a, b, c, d, e, f, k]) : News g L h [a, b, f, k] := fun p hp => N p (by
  simp only [List.mem_cons, List.not_mem_nil, or_false] at hp ⊢
  rcases hp with h | h | h | h <;> simp [h])
theorem pick5 {g h : Heap} {L : Addr} {a b c d e : Addr × Obj} (N : News g L h [a, b, c, d, e]) : News g L h [b, d, e] := fun p hp => N p (by
  simp only [List.mem_cons, List.not_mem_nil, or_false] at hp ⊢
  rcases hp with h | h | h <;> simp [h])
theorem pick6 {g h : Heap} {L : Addr} {a b c d e f : Addr × Obj} (N : News g L h [a, b, c, d, e, f]) : News g L h [b, a, e, f] := fun p hp => N p (by
  simp only [List.mem_cons, List.not_mem_nil, or_false] at hp ⊢
  rcases hp with h | h | h | h <;> simp [h])
end
end Mine
end

section -- E1
open PySem PySem.W PyProof.Rows
namespace Mine
abbrev Con (d : Nat) (f : Addr) (news : List (Addr × Obj)) (vs : List Value) (R : Tok → Value) : Prop :=
  ∀ (w : World) (mean : ExcName → Option Value) (mg mb : Str → Option Value)
    (dp un : Nat) (gd : Option (List Code)) (cn : Str) (cs : Scope) (a : Addr) (ccd : Value) (cl : List (Str × Addr)) (outer : List Env) (A₀ : Around) (base h₀ : Heap) (L : Addr) (m : Str → Option Value) (s : Shared) (Q E : Value → Shared → Prop),
    Below A₀ base outer h₀ → Fr h₀ L s.heap m → (hd.heap_39 w.params).In h₀ → News h₀ L s.heap news → Top hd.view_39 (looseW hd.view_39 []) mean mg mb h₀ → cs.kind = .function →
    dp + d < recursionLimit → un + 8 * d < cLine → (∀ (t : Tok) (h' : Heap) (tk' : Nat), Fr h₀ L h' m → News h₀ L h' news → Q (R t) { s with heap := h', toks := tk' }) →
      wpAny (model PySem.Challenge.rw_nb0056_01.row.prog w) (ktrTop dp un gd cn cs L a ccd cl outer) (call (.ref f) vs) Q E s

local macro_rules | `(tactic| kst_same) => `(tactic| (intro z h1 h2 h3; (try dsimp only at h2); (try dsimp only); (repeat (first | exact mapOf_off (names_of h2 rfl) h3 | (with_reducible refine (if_neg h1).trans ?_) | ((with_reducible refine (if_neg (ne_ps h2 ?_)).trans ?_); (· k_mem)) | ((with_reducible refine (if_neg (ne_stored h3 ?_)).trans ?_); (· k_mem)))); done))

theorem truthy_empty {prog : Program} {w : World} {A : Around} {E : Value → Shared → Prop} {s : Shared} {z : Str} {t : Tok} {Q : Bool → Shared → Prop} (hz : z = Str.ofString "") (hq : ∀ k, Q false { s with toks := k }) : wpAny (model prog w) A (truthy (.str z t)) Q E s := by
  subst hz
  exact P.truthy_str (by decide) (hq _)
theorem fr_int {h₀ h : Heap} {L : Addr} {m : Str → Option Value} (_F : Fr h₀ L h m) (n : Str) (z : Int) (hv : ∃ t, m n = some (.int z t)) : ∃ t, m n = some (.int z t) := hv

theorem last_empty (l : List Str) : (Str.ofString "" :: l ++ [Str.ofString ""]).getD (-1 + ((Str.ofString "" :: l ++ [Str.ofString ""]).length : Int)).toNat Str.empty = Str.ofString "" := by
  have e : (-1 + ((Str.ofString "" :: l ++ [Str.ofString ""]).length : Int)).toNat = l.length + 1 := by simp; omega
  rw [e]
  simp

theorem fr_int' {h₀ h : Heap} {L : Addr} {m : Str → Option Value} (_F : Fr h₀ L h m) (n : Str) (z z' : Int) (e : z' = z) (hv : ∃ t, m n = some (.int z' t)) : ∃ t, m n = some (.int z t) := e ▸ hv

theorem call_find4' {prog : Program} {w : World} {A : Around} {E : Value → Shared → Prop} {s : Shared} {x y : Str} {t u v v' : Tok} {i j z : Int} {Q : Value → Shared → Prop} (hj : j = (x.length : Int)) (hf : Txt.find3 x y i = z)
    (hq : ∀ t k, Q (.int z t) { s with toks := k }) : wpAny (model prog w) A (call (.builtin "str.find") [.str x t, .str y u, .int i v, .int j v']) Q E s := by
  subst hf
  exact call_find4 hj (hq _ _)
local macro_rules | `(tactic| walk_at "call builtin:str.find") => `(tactic| (k_here; refine call_find4' (by rfl) (by assumption) ?_; intro ft9 fk9; (try dsimp only)))

theorem item_cases {word : List Nat} {vs : List Value} (hs : StrsAre vs (Str.ofString "" :: (word.map fun c => S [c]) ++ [Str.ofString ""])) {i : Nat} {v : Value} (hv : vs[i]? = some v) :
    ∃ it t, v = .str it t ∧ ((it = Str.ofString "" ∧ word.drop (i + 1 - 1) = word.drop (i - 1)) ∨ ∃ c, it = ⟨#[c]⟩ ∧ word.drop (i - 1) = c :: word.drop (i + 1 - 1)) := by
  obtain ⟨it, t, rfl, hi⟩ := hs.item i v hv
  refine ⟨it, t, rfl, ?_⟩
  rcases i with _ | i
  · left
    simp at hi
    exact ⟨hi.symm, rfl⟩
  · simp only [List.cons_append, List.getElem?_cons_succ] at hi
    by_cases h : i < word.length
    · right
      rw [List.getElem?_append_left (by simpa using h)] at hi
      simp [h] at hi
      refine ⟨word[i], hi.symm, ?_⟩
      simp only [Nat.add_sub_cancel]
      exact List.drop_eq_getElem_cons h
    · left
      rw [List.getElem?_append_right (by simp; omega)] at hi
      simp only [List.length_map] at hi
      have h0 : i - word.length = 0 := by
        rcases Nat.eq_zero_or_pos (i - word.length) with h0 | h0
        · exact h0
        · rw [List.getElem?_eq_none (by simp; omega)] at hi; cases hi
      rw [h0] at hi
      simp at hi
      refine ⟨hi.symm, ?_⟩
      simp only [Nat.add_sub_cancel]
      rw [List.drop_of_length_le (by omega), List.drop_of_length_le (by omega)]

set_option maxRecDepth 100000 in
set_option maxHeartbeats 8000000 in
theorem ell (news : List (Addr × Obj)) (word : List Nat) (x y : Str) (t u : Tok)
    (h1 : (Builtin.Str.occurrences x (Str.ofString "...") 0 x.length 1).isEmpty = false)
    (h2 : Txt.split x (Str.ofString "...") = Str.ofString "" :: (word.map fun c => S [c]) ++ [Str.ofString ""])
    (h3 : x.length ≤ 19) (h4 : y.length ≤ 100) : Con 1 21 news [.str x t, .str y u] (fun _ => .bool (decide (word.Sublist y.cps.toList))) := by
  unfold Con; w_top off; k_fill
  intros; rename_i hret
  refine wpAny_call ?_
  k_dflt cell_enter
  k_steps
  · rename List.map _ _ = Txt.split _ _ => hsp
    rename_i y' t' hy hh FF NN
    rw [h2] at hsp
    refine truthy_empty (by rw [hsp] at hy; exact (Option.some.inj hy).symm) ?_
    intro tk
    dsimp only
    k_steps
    refine truthy_empty (by rw [hsp]; exact last_empty _) ?_
    intro tk
    dsimp only
    k_steps
    rename StrsAre _ _ => hstrs
    rw [hsp] at hstrs
    (rename Fr _ _ _ _ => lF'); (rename News _ _ _ _ => lN'); (with_unfolding_all refine' For_invVF lF' ?k1 ?k2 ?_; (case k1 => exact rfl); (case k2 => exact rfl))
    k_dflt (refine ld lF' (by rfl) ?_)
    obtain ⟨t0, ht0⟩ := fr_int lF' (Str.ofString "startpos") 0 ⟨_, rfl⟩
    refine loop_vals (σ := Nat × Tok) (fun _ => _) (fun c => [(Str.ofString "startpos", .int (c.1 : Int) c.2)]) [] (fun i c => c.1 ≤ y.length ∧ (word.Sublist y.cps.toList ↔ (word.drop (i - 1)).Sublist (y.cps.toList.drop c.1))) ⟨0, t0⟩ rfl
      (fun _ => List.Mem.tail _ (List.Mem.head _)) (fun _ => rfl) lF' lN' ?hk ?hp ?turn ?done
    case hk => exact List.forall_mem_cons.mpr ⟨ht0, List.forall_mem_nil _⟩
    case hp => exact ⟨Nat.zero_le _, Iff.rfl⟩
    case turn =>
      rintro ⟨p, tp⟩ i v u h tk own hv hoff ⟨hle, hiff⟩ F' N'
      dsimp only at hle hiff F' N'
      clear lF' lN'
      obtain ⟨it, ti, rfl, ⟨rfl, hd⟩ | ⟨c, rfl, hd⟩⟩ := item_cases hstrs hv
      · have hf : Txt.find3 y (Str.ofString "") (p : Int) = (p : Int) := find_empty y p hle
        k_steps
        dsimp only [TPost]
        (rename Fr _ _ _ _ => eF); (rename News _ _ _ _ => eN)
        obtain ⟨t1, ht1⟩ := fr_int' eF (Str.ofString "startpos") (p : Int) ((p : Int) + ((Str.ofString "").length : Int)) (by rw [show (Str.ofString "").length = 0 from by decide]; omega) ⟨_, rfl⟩
        refine TEnd.intro (p, t1) eF eN ?_ ?_ rfl ?_ ?_ ?_
        · exact fun p hp => List.mem_append.mpr (.inl hp)
        · exact fun p hp => List.mem_append.mpr (.inr hp)
        · exact List.forall_mem_cons.mpr ⟨ht1, List.forall_mem_nil _⟩
        · kst_same
        · exact ⟨hle, by rw [hd]; exact hiff⟩
      · rcases find_one y c p (word.drop (i + 1 - 1)) with ⟨hf, hn⟩ | ⟨k, hf, hk, hn⟩
        · k_steps
          dsimp only [TPost]
          k_steps
          refine cb_retB hret ?_ (by assumption) (cb_drop (by assumption) ?_)
          · refine (decide_eq_false fun hc => ?_).symm
            rw [hiff, hd] at hc
            exact hn hc
          · exact fun p hp => List.mem_append.mpr (.inl (List.Mem.tail _ (List.Mem.tail _ hp)))
        · k_steps
          dsimp only [TPost]
          (rename Fr _ _ _ _ => eF); (rename News _ _ _ _ => eN)
          obtain ⟨t1, ht1⟩ := fr_int' eF (Str.ofString "startpos") ((k + 1 : Nat) : Int) ((k : Int) + ((1 : Nat) : Int)) (by omega) ⟨_, rfl⟩
          refine TEnd.intro (k + 1, t1) eF eN ?_ ?_ rfl ?_ ?_ ?_
          · exact fun p hp => List.mem_append.mpr (.inl hp)
          · exact fun p hp => List.mem_append.mpr (.inr hp)
          · exact List.forall_mem_cons.mpr ⟨ht1, List.forall_mem_nil _⟩
          · kst_same
          · exact ⟨hk, by rw [hiff, hd, hn]⟩
    case done =>
      rintro ⟨p, tp⟩ u h tk ⟨hle, hiff⟩ F' N'
      dsimp only
      k_steps
      refine cb_retB hret ?_ (by assumption) (cb_drop (by assumption) ?_)
      · rw [hstrs.length, List.drop_of_length_le (by simp)] at hiff
        exact (decide_eq_true (hiff.mpr (List.nil_sublist _))).symm
      · exact fun p hp => List.Mem.tail _ (List.Mem.tail _ hp)
  · rename ¬ 2 ≤ _ => hle
    rename List.map _ _ = Txt.split _ _ => hsp
    have := congrArg List.length hsp
    rw [h2] at this
    simp at this
    omega
end Mine
end

section -- F1
open PySem PySem.W PyProof.Rows
namespace Mine
theorem Con.use {d : Nat} {f : Addr} {news : List (Addr × Obj)} {vs : List Value} {R : Tok → Value} (c : Con d f news vs R) {w : World} {mean : ExcName → Option Value} {mg mb : Str → Option Value}
    {dp un : Nat} {gd : Option (List Code)} {cn : Str} {cs : Scope} {a : Addr} {ccd : Value} {cl : List (Str × Addr)} {outer : List Env} {A₀ : Around} {base h₀ : Heap} {L : Addr} {m : Str → Option Value} {s : Shared} {Q E : Value → Shared → Prop}
    (B : Below A₀ base outer h₀) (F : Fr h₀ L s.heap m) (X : (hd.heap_39 w.params).In h₀) (N : News h₀ L s.heap news) (T : Top hd.view_39 (looseW hd.view_39 []) mean mg mb h₀) (hk : cs.kind = .function) (hd : dp + d < recursionLimit) (hu : un + 8 * d < cLine)
    (ret : ∀ (t : Tok) (h' : Heap) (tk' : Nat), Fr h₀ L h' m → News h₀ L h' news → Q (R t) { s with heap := h', toks := tk' }) :
    wpAny (model PySem.Challenge.rw_nb0056_01.row.prog w) (ktrTop dp un gd cn cs L a ccd cl outer) (call (.ref f) vs) Q E s :=
  c w mean mg mb dp un gd cn cs a ccd cl outer A₀ base h₀ L m s Q E B F X N T hk hd hu ret

/-- a wall: the walk stops at it -/
def Stop (P : Prop) : Prop := P
theorem Stop.out {P : Prop} (h : Stop P) : P := h

theorem strs_signs {ys : List Value} {x : Str} (hc : CarriedAll ys (List.map PyData.str (signs x))) : StrsAre ys (signs x) := by
  have h := CarriedAll.strsOf (f := fun a : Str => a) hc
  rwa [List.map_id'] at h
theorem join_signs {prog : Program} {w : World} {A : Around} {E : Value → Shared → Prop} {s : Shared} {sep x : Str} {t : Tok} {Q : Value → Shared → Prop} {D : Addr} {ys : List Value} (hl : s.heap.IsList D ys.toArray) (hc : CarriedAll ys (List.map PyData.str (signs x))) (hs : sep.length ≤ 16) (hx : x.length ≤ 4)
    (h : ∀ z t' k, z = Txt.join sep (signs x) → z.length ≤ 100 → Q (.str z t') { s with toks := k }) : wpAny (model prog w) A (call (.builtin "str.join") [.str sep t, .ref D]) Q E s := by
  have e : ((signs x).map (·.length)).sum = x.length := by
    have : (signs x).map (·.length) = List.replicate x.length 1 := by
      unfold signs
      rw [List.map_map]
      refine List.ext_getElem (by simp [PySem.Str.length]) ?_
      intro i h1 h2
      simp
      rfl
    rw [this]
    simp
  refine join_listW hl (by simpa using strs_signs hc) hs ?_ (fun t' k => h _ t' k rfl ?_)
  · rw [e, signs_length]
    omega
  · have h1 := StrLaws.join_length_le sep (signs x)
    rw [← StrLaws.glued_eq_join, e, signs_length] at h1
    have h2 : x.length * sep.length ≤ 4 * 16 := Nat.mul_le_mul hx hs
    unfold Txt.join
    omega
local macro_rules | `(tactic| walk_at "call builtin:str.join") => `(tactic| (k_here; refine join_signs (by assumption) (by assumption) (by decide) (by assumption) ?_; intro jz9 jt9 jk9 je9 jl9; (try dsimp only)))
local macro_rules | `(tactic| walk_at "call ref") => `(tactic| (k_here; refine Stop.out ?_))

set_option maxRecDepth 100000 in
set_option maxHeartbeats 8000000 in
theorem fits (news : List (Addr × Obj)) (word : List Nat) (x y : Str) (t u : Tok) (hx : x = S word) (hw : word ∈ wordsL 4) (hl : x.length ≤ 4) (h4 : y.length ≤ 100) :
    Con 2 35 news [.str x t, .str y u] (fun _ => .bool (decide (word.Sublist y.cps.toList))) := by
  unfold Con; w_top off; k_fill
  intros; rename_i hret
  refine wpAny_call ?_
  k_dflt cell_enter
  k_steps
  unfold Stop
  rename _ = Txt.join _ _ => je
  subst je
  subst hx
  obtain ⟨h1, h2, hj, h3⟩ := want_facts word hw
  refine' Con.use (ell _ word _ _ _ _ ?h1 ?h2 ?h3 h4) ?B ?F ?X ?N ?T ?hk ?hd ?hu ?ret
  case h1 => rw [hj]; exact h1
  case h2 => rw [hj]; exact h2
  case h3 => rw [hj]; exact h3
  case B => k_asm
  case F => k_asm
  case X => k_asm
  case N => k_asm
  case T => k_asm
  case hk => rfl
  case hd => ktr_room
  case hu => ktr_units
  case ret =>
    intro t9 h9 tk9 F9 N9
    (try dsimp only)
    k_steps
    exact cb_retB hret rfl (by assumption) (by assumption)
end Mine
end

section -- Du
open PySem PySem.W PyProof.Rows PySem.Builtin PySem.Builtin.Str
namespace Mine
theorem cnt_count (c : Nat) : ∀ l : List Nat, cnt c l = (l.count c : Int)
  | [] => rfl
  | n :: r => by
    rw [cnt_cons, cnt_count c r, List.count_cons]
    by_cases h : n = c <;> simp [h] <;> omega
theorem count_nat (y : Str) (c : Nat) : Txt.count y ⟨#[c]⟩ = (y.cps.toList.count c : Int) := by
  rw [count_is]
  exact cnt_count c _
theorem slice_text (x : Str) (l u : Option Int) : Txt.slice x l u = StrLaws.sliceText x l u := rfl
theorem slice_to (y : Str) (k : Nat) (hk : k ≤ y.length) : (Txt.slice y none (some (k : Int))).cps.toList = y.cps.toList.take k := by
  rw [slice_text, StrLaws.sliceText_to ⟨by omega, by simp [PySem.Str.length] at hk; simpa using hk⟩]
  simp
theorem slice_from (y : Str) (k : Nat) (hk : k ≤ y.length) : (Txt.slice y (some (k : Int)) none).cps.toList = y.cps.toList.drop k := by
  rw [slice_text, StrLaws.sliceText_from ⟨by omega, by simp [PySem.Str.length] at hk; simpa using hk⟩]
  simp
  exact List.take_of_length_le (by simp)
theorem word_facts : ∀ word ∈ wordsL 4, Txt.item (S word) 0 = ⟨#[word.headD 0]⟩ ∧ Txt.item (S word) (-1) = ⟨#[word.getLastD 0]⟩ ∧
    word = List.replicate (word.count (word.headD 0)) (word.headD 0) ++ List.replicate (word.length - word.count (word.headD 0)) (word.getLastD 0) ∧ 1 ≤ word.length ∧ word.length ≤ 4 := by
  decide +kernel
theorem sub_cut (i j a b : Nat) (l : List Nat) : (List.replicate i a ++ List.replicate j b).Sublist l ↔ ∃ k, k ≤ l.length ∧ i ≤ (l.take k).count a ∧ j ≤ (l.drop k).count b := by
  rw [List.append_sublist_iff]
  constructor
  · rintro ⟨r₁, r₂, rfl, h1, h2⟩
    refine ⟨r₁.length, by simp, ?_, ?_⟩
    · simpa using List.replicate_sublist_iff.mp h1
    · simpa using List.replicate_sublist_iff.mp h2
  · rintro ⟨k, _, h1, h2⟩
    exact ⟨l.take k, l.drop k, (List.take_append_drop k l).symm, List.replicate_sublist_iff.mpr h1, List.replicate_sublist_iff.mpr h2⟩
theorem cond1 {word : List Nat} {y : Str} {i : Nat} (hw : word ∈ wordsL 4) (hi : i ≤ y.length) :
    Txt.count (S word) (Txt.item (S word) 0) ≤ Txt.count (Txt.slice y none (some (0 + (i : Int)))) (Txt.item (S word) 0) ↔ word.count (word.headD 0) ≤ (y.cps.toList.take i).count (word.headD 0) := by
  obtain ⟨e0, e1, _, _, _⟩ := word_facts word hw
  rw [e0, count_nat, count_nat, show (0 + (i : Int)) = (i : Int) by omega, slice_to y i hi]
  simp
theorem cond2 {word : List Nat} {y : Str} {i : Nat} (hw : word ∈ wordsL 4) (hi : i ≤ y.length) :
    ((S word).length : Int) - Txt.count (S word) (Txt.item (S word) 0) ≤ Txt.count (Txt.slice y (some (0 + (i : Int))) none) (Txt.item (S word) (-1)) ↔ word.length - word.count (word.headD 0) ≤ (y.cps.toList.drop i).count (word.getLastD 0) := by
  obtain ⟨e0, e1, _, _, _⟩ := word_facts word hw
  rw [e0, e1, count_nat, count_nat, show (0 + (i : Int)) = (i : Int) by omega, slice_from y i hi]
  simp [PySem.Str.length]
  omega
theorem sub_word {word : List Nat} (hw : word ∈ wordsL 4) (y : Str) : word.Sublist y.cps.toList ↔ ∃ k, k ≤ y.length ∧ word.count (word.headD 0) ≤ (y.cps.toList.take k).count (word.headD 0) ∧ word.length - word.count (word.headD 0) ≤ (y.cps.toList.drop k).count (word.getLastD 0) := by
  obtain ⟨_, _, ew, _, _⟩ := word_facts word hw
  have h := sub_cut (word.count (word.headD 0)) (word.length - word.count (word.headD 0)) (word.headD 0) (word.getLastD 0) y.cps.toList
  rw [← ew] at h
  rw [h]
  simp [PySem.Str.length]
end Mine
end

section -- D1
open PySem PySem.W PyProof.Rows
namespace Mine
local macro_rules | `(tactic| kst_same) => `(tactic| (intro z h1 h2 h3; (try dsimp only at h2); (try dsimp only); (repeat (first | exact mapOf_off (names_of h2 rfl) h3 | (with_reducible refine (if_neg h1).trans ?_) | ((with_reducible refine (if_neg (ne_ps h2 ?_)).trans ?_); (· k_mem)) | ((with_reducible refine (if_neg (ne_stored h3 ?_)).trans ?_); (· k_mem)))); done))
local macro_rules | `(tactic| walk_at "mine pad") => `(tactic| skip)
local macro_rules | `(tactic| walk_at "pyIter ref") => `(tactic| (k_here; refine Stop.out ?_))
local macro_rules | `(tactic| walk_at "exec For Name Call cons nil") => `(tactic| (k_here; (rename Fr _ _ _ _ => lF'); (with_unfolding_all refine' For_invVF lF' ?k1 ?k2 ?_; (case k1 => exact rfl); (case k2 => exact rfl); k_whole)))
set_option maxRecDepth 100000 in
set_option maxHeartbeats 8000000 in
theorem due (news : List (Addr × Obj)) (word : List Nat) (x y : Str) (t u : Tok) (hx : x = S word) (hw : word ∈ wordsL 4) (hl : x.length ≤ 4) (hl1 : 1 ≤ x.length) (h4 : y.length ≤ 100) :
    Con 1 42 news [.str x t, .str y u] (fun _ => .bool (decide (word.Sublist y.cps.toList))) := by
  unfold Con; w_top off; k_fill
  intros; rename_i hret
  refine wpAny_call ?_
  k_dflt cell_enter
  k_steps
  unfold Stop
  subst hx
  (rename Fr _ _ _ _ => lF'); (rename News _ _ _ _ => lN')
  refine loop_range (σ := Unit) (n := y.length + 1) (fun _ => _) (fun _ => []) [] (fun i _ => ∀ k, k < i → ¬ (word.count (word.headD 0) ≤ (y.cps.toList.take k).count (word.headD 0) ∧ word.length - word.count (word.headD 0) ≤ (y.cps.toList.drop k).count (word.getLastD 0))) () rfl
    (by assumption) (small_one (by omega) (by omega) (by omega) (by omega)) ?hn lF' lN' (List.forall_mem_nil _) ?hp ?turn ?done
  case hn => rw [rangeSize_nat]; omega
  case hp => exact fun k hk => absurd hk (Nat.not_lt_zero _)
  case turn =>
    rintro _ i ti u h tk own hi hoff hP F' N'
    have c1 := cond1 (y := y) hw (Nat.le_of_lt_succ hi)
    have c2 := cond2 (y := y) hw (Nat.le_of_lt_succ hi)
    k_steps
    · dsimp only [TPost]
      k_steps
      refine cb_retB hret ?_ (by assumption) (cb_drop (by assumption) ?_)
      · exact (decide_eq_true ((sub_word hw y).mpr ⟨i, Nat.le_of_lt_succ hi, c1.mp (by assumption), c2.mp (by assumption)⟩)).symm
      · exact fun p hp => List.mem_append.mpr (.inl hp)
    · dsimp only [TPost]
      refine TEnd.intro () (by assumption) (by assumption) ?_ ?_ rfl (List.forall_mem_nil _) (by kst_same) ?_
      · exact fun p hp => List.mem_append.mpr (.inl hp)
      · exact fun p hp => List.mem_append.mpr (.inr hp)
      · intro k hk hc
        rcases Nat.lt_or_eq_of_le (Nat.le_of_lt_succ hk) with h | rfl
        · exact hP k h hc
        · exact absurd (c2.mpr hc.2) (by assumption)
    · dsimp only [TPost]
      refine TEnd.intro () (by assumption) (by assumption) ?_ ?_ rfl (List.forall_mem_nil _) (by kst_same) ?_
      · exact fun p hp => List.mem_append.mpr (.inl hp)
      · exact fun p hp => List.mem_append.mpr (.inr hp)
      · intro k hk hc
        rcases Nat.lt_or_eq_of_le (Nat.le_of_lt_succ hk) with h | rfl
        · exact hP k h hc
        · exact absurd (c1.mpr hc.1) (by assumption)
  case done =>
    rintro _ u h tk hP F' N'
    k_steps
    refine cb_retB hret ?_ (by assumption) (by assumption)
    refine (decide_eq_false fun hs => ?_).symm
    obtain ⟨k, hk, hc⟩ := (sub_word hw y).mp hs
    exact hP k (Nat.lt_succ_of_le hk) hc
end Mine
end

section -- Rp
open PySem PySem.W PyProof.Rows PySem.Builtin PySem.Builtin.Str
namespace Mine
theorem join_filter (c : Nat) : ∀ parts : List Str, (∀ p ∈ parts, c ∉ p.cps.toList) → (Str.join ⟨#[c]⟩ parts).cps.toList.filter (· != c) = (Str.join Str.empty parts).cps.toList
  | [], _ => rfl
  | [p], h => by
    show p.cps.toList.filter (· != c) = p.cps.toList
    exact List.filter_eq_self.mpr fun a ha => by
      have := h p (List.Mem.head _)
      simp
      rintro rfl
      exact this ha
  | p :: q :: r, h => by
    have ih := join_filter c (q :: r) fun p hp => h p (List.Mem.tail _ hp)
    show ((p ++ ⟨#[c]⟩ ++ Str.join ⟨#[c]⟩ (q :: r)).cps.toList).filter (· != c) = ((p ++ Str.empty ++ Str.join Str.empty (q :: r)).cps.toList)
    rw [PySem.Str.cps_append, PySem.Str.cps_append, PySem.Str.cps_append, PySem.Str.cps_append, Array.toList_append, Array.toList_append, Array.toList_append, Array.toList_append, List.filter_append, List.filter_append, ih]
    have e : p.cps.toList.filter (· != c) = p.cps.toList := List.filter_eq_self.mpr fun a ha => by
      have := h p (List.Mem.head _)
      simp
      rintro rfl
      exact this ha
    rw [e]
    simp [Str.empty]
theorem join_weight (c : Nat) : ∀ (p : Str) (parts : List Str), ((p :: parts).map (·.length)).sum + parts.length = (Str.join ⟨#[c]⟩ (p :: parts)).length
  | p, [] => by
    show _ = p.length
    simp
  | p, q :: r => by
    have ih := join_weight c q r
    show _ = (p ++ ⟨#[c]⟩ ++ Str.join ⟨#[c]⟩ (q :: r)).length
    rw [PySem.Str.length_append, PySem.Str.length_append, ← ih]
    simp only [List.map_cons, List.sum_cons, List.length_cons]
    have : (⟨#[c]⟩ : Str).length = 1 := rfl
    omega
theorem split_weight1 (x : Str) (c : Nat) : ((Txt.split x ⟨#[c]⟩).map (·.length)).sum + (Txt.split x ⟨#[c]⟩).length ≤ x.length + 1 := by
  have h := StrLaws.join_split x ⟨#[c]⟩
  cases hp : Txt.split x ⟨#[c]⟩ with
  | nil => simp
  | cons p r =>
    rw [hp] at h
    have := join_weight c p r
    rw [h] at this
    simp only [List.length_cons]
    omega
theorem split_filter (x : Str) (c : Nat) : Txt.join (Str.ofString "") (Txt.split x ⟨#[c]⟩) = S (x.cps.toList.filter (· != c)) := by
  have h := join_filter c _ (StrLaws.split_free x c)
  rw [StrLaws.join_split] at h
  unfold Txt.join
  rw [StrLaws.glued_eq_join, show Str.ofString "" = Str.empty from by decide, h]
end Mine
end

section -- R1
open PySem PySem.W PyProof.Rows
namespace Mine
local macro_rules | `(tactic| walk_at "exec") => `(tactic| (k_here; (with_reducible show wpAny _ _ (exec (Stmt.While _ _ _ _) _) _ _ _); k_dflt (refine whl_start 100 ?_)))
set_option maxRecDepth 100000 in
set_option maxHeartbeats 8000000 in
theorem repl (news : List (Addr × Obj)) (c : Nat) (x : Str) (t u v : Tok) (h4 : x.length ≤ 100) :
    Con 1 28 news [.str x t, .str ⟨#[c]⟩ u, .str (Str.ofString "") v] (fun t => .str (S (x.cps.toList.filter (· != c))) t) := by
  unfold Con; w_top off; k_fill
  intros; rename_i hret
  refine wpAny_call ?_
  k_dflt (refine' kp_rest ?k1 ?k2 ?k3 ?k4 ?k5 ?kA ?kF ?kK ?k6 ?k7 ?k8 ?kV ?kP ?kG ?kB ?_ ?c2 ?c3 ?c4 ?c5; (case kA => exact rfl); (case kF => exact rfl); (case kK => assumption); (case k1 => k_asm); (case k2 => k_asm); (case k3 => k_asm); (case k4 => k_asm); (case k5 => k_asm); (case k6 => k_is); (case k7 => k_is); (case k8 => ktr_room); (case kV => kl_lit); (case kP => exact rfl); (case kG => exact fun _ => rfl); (case kB => exact fun _ => locs rfl); (case c5 => decide); (case c2 => exact rfl); (case c3 => exact rfl); (case c4 => exact rfl); k_whole; intro D' g' L' h' l1 FG' F' N' B' X' T'; (try k_lt l1); (try dsimp only); (try k_lift B'); (try k_fold))
  k_steps
  rename List.map _ _ = Txt.split _ _ => hsp
  rename StrsAre _ _ => hstrs
  rw [hsp] at hstrs
  have hwt := split_weight1 x c
  refine join_listW (by assumption) hstrs (by decide) (by omega) ?_
  rw [split_filter]
  intro jt jk
  dsimp only
  have hz : (S (x.cps.toList.filter (· != c))).length ≤ 100 := by
    have := List.length_filter_le (· != c) x.cps.toList
    simp [PySem.Str.length] at this h4 ⊢
    omega
  k_steps
  (rename Fr _ _ _ _ => eF); (rename News _ _ _ _ => eN)
  (with_unfolding_all refine slice_tuple_from (a := 2) eF eN (News.isTup eN (by k_mem)) (by decide) (by exact Nat.le_refl 2) ?_ (hsz := Nat.le_of_ble_eq_true rfl))
  intro h5 F5 N5
  simp only [List.drop_succ_cons, List.drop_zero] at N5
  clear eF eN
  k_steps
  exact cb_retS hret rfl (by assumption) (cb_drop (by assumption) fun p hp => List.Mem.tail _ (List.Mem.tail _ (List.Mem.tail _ hp)))
end Mine
end

section -- Mu
open PySem PySem.W PyProof.Rows PySem.Builtin PySem.Builtin.Str
namespace Mine
theorem foldl_rep (c : Nat) : ∀ (n : Nat) (acc : Array Nat), ((List.replicate n #[c]).foldl (· ++ ·) acc).toList = acc.toList ++ List.replicate n c
  | 0, acc => by simp
  | n + 1, acc => by
    rw [List.replicate_succ, List.foldl_cons, foldl_rep c n]
    simp [List.replicate_succ]
theorem mul_rep (c j : Nat) : Txt.mul ⟨#[c]⟩ (1 + (j : Int)) = S (List.replicate (j + 1) c) := by
  unfold Txt.mul
  rw [if_neg (by omega)]
  by_cases h : j = 0
  · subst h
    rfl
  · have e : ((1 + (j : Int)) == 1 || (⟨#[c]⟩ : Str).length == 0) = false := by
      have h1 : ((1 + (j : Int)) == 1) = false := by simp; omega
      rw [h1]; rfl
    rw [e]
    simp only [Bool.false_eq_true, if_false]
    apply PySem.Str.ext'
    apply Array.toList_inj.mp
    rw [foldl_rep]
    simp
    omega
theorem mul_sign {prog : Program} {w : World} {A : Around} {E : Value → Shared → Prop} {s : Shared} {c j : Nat} {t u : Tok} {Q : Value → Shared → Prop} (hj : j ≤ 10)
    (h : ∀ z t' k, z = S (List.replicate (j + 1) c) → z.length ≤ 11 → Q (.str z t') { s with toks := k }) : wpAny (model prog w) A (binaryOp .Mult (.str ⟨#[c]⟩ t) (.int (1 + (j : Int)) u)) Q E s := by
  refine SB.mul (mulOk_of 16 1048576 (by show 1 ≤ 16; omega) (by omega) (by omega) (by decide) (by decide)) fun t' k => h _ t' k (mul_rep c j) ?_
  rw [mul_rep]
  simp [PySem.Str.length]
  omega
end Mine
end

section -- W1
open PySem PySem.W PyProof.Rows
namespace Mine
abbrev ConL (d : Nat) (f : Addr) (news : List (Addr × Obj)) (vs : List Value) (ws : List Str) : Prop :=
  ∀ (w : World) (mean : ExcName → Option Value) (mg mb : Str → Option Value)
    (dp un : Nat) (gd : Option (List Code)) (cn : Str) (cs : Scope) (a : Addr) (ccd : Value) (cl : List (Str × Addr)) (outer : List Env) (A₀ : Around) (base h₀ : Heap) (L : Addr) (m : Str → Option Value) (s : Shared) (Q E : Value → Shared → Prop),
    Below A₀ base outer h₀ → Fr h₀ L s.heap m → (hd.heap_39 w.params).In h₀ → News h₀ L s.heap news → Top hd.view_39 (looseW hd.view_39 []) mean mg mb h₀ → cs.kind = .function →
    dp + d < recursionLimit → un + 8 * d < cLine → (∀ (D : Addr) (us : List Value) (n : Nat) (h' : Heap) (tk' : Nat), (∀ p ∈ news, p.1 < D) → StrsAre us ws → Fr h₀ L h' m → News h₀ L h' ((D, listOf us.toArray n) :: news) → Q (.ref D) { s with heap := h', toks := tk' }) →
      wpAny (model PySem.Challenge.rw_nb0056_01.row.prog w) (ktrTop dp un gd cn cs L a ccd cl outer) (call (.ref f) vs) Q E s

theorem off_app {D : Addr} {o : Obj} {rest own : List (Addr × Obj)} (h1 : ∀ p ∈ rest, p.1 ≠ D) (h2 : OwnOff own (((D, o) :: rest).map (·.1))) : ∀ p ∈ rest ++ own, p.1 ≠ D := fun p hp =>
  (List.mem_append.mp hp).elim (h1 p) fun h => h2 p h D (List.Mem.head _)
theorem append_v {prog : Program} {w : World} {A : Around} {E : Value → Shared → Prop} {s : Shared} {h₀ : Heap} {L D : Addr} {m : Str → Option Value} {rest : List (Addr × Obj)} {us : List Value} {n : Nat} {x : Value} {Q : Value → Shared → Prop} (F : Fr h₀ L s.heap m) (N : News h₀ L s.heap ((D, listOf us.toArray n) :: rest)) (off : ∀ p ∈ rest, p.1 ≠ D) (hsz : us.length ≤ 10000)
    (h : ∀ h' v, v = x → Fr h₀ L h' m → News h₀ L h' ((D, listOf (us ++ [v]).toArray (n + 1)) :: rest) → Q .none { s with heap := h' }) : wpAny (model prog w) A (call (.builtin "list.append") [.ref D, x]) Q E s := by
  refine append_K F N (Upd.head off) (fun h' F' N' => h h' x rfl F' ?_) (by rw [sizeLine_eq]; simp; omega)
  simpa only [List.push_toArray] using N'
theorem snoc_strs {us : List Value} {ws : List Str} {z : Str} {t : Tok} (h : StrsAre us ws) : StrsAre (us ++ [.str z t]) (ws ++ [z]) := KStt.strs_snoc h

local macro_rules | `(tactic| kst_same) => `(tactic| (intro z h1 h2 h3; (try dsimp only at h2); (try dsimp only); (repeat (first | exact mapOf_off (names_of h2 rfl) h3 | ((with_reducible refine (mapOf_off (List.forall_mem_nil _) (sub_contains ?_ h3)).trans ?_); (· decide +kernel)) | (with_reducible refine (if_neg h1).trans ?_) | ((with_reducible refine (if_neg (ne_ps h2 ?_)).trans ?_); (· k_mem)) | ((with_reducible refine (if_neg (ne_stored h3 ?_)).trans ?_); (· k_mem)))); done))
local macro_rules | `(tactic| walk_at "pyIter ref") => `(tactic| (k_here; refine Stop.out ?_))
local macro_rules | `(tactic| walk_at "pyIter str") => `(tactic| (k_here; refine Stop.out ?_))
local macro_rules | `(tactic| walk_at "call ref") => `(tactic| (k_here; refine Stop.out ?_))
local macro_rules | `(tactic| walk_at "call builtin:list.append") => `(tactic| (k_here; refine Stop.out ?_))
local macro_rules | `(tactic| walk_at "exec For Name Constant cons nil") => `(tactic| (k_here; (rename Fr _ _ _ _ => lF'); (with_unfolding_all refine' For_invVF lF' ?k1 ?k2 ?_; (case k1 => exact rfl); (case k2 => exact rfl); k_whole)))
local macro_rules | `(tactic| walk_at "exec For Name Call cons nil") => `(tactic| (k_here; (rename Fr _ _ _ _ => lF'); (with_unfolding_all refine' For_invVF lF' ?k1 ?k2 ?_; (case k1 => exact rfl); (case k2 => exact rfl); k_whole)))
local macro_rules | `(tactic| walk_at "call type:range") => `(tactic| ((rename Fr _ _ _ _ => F'); (rename News _ _ _ _ => N'); first
  | (with_unfolding_all refine range1_rows F' N' ?_; intro _ _ _ _ _ hR9 F9 N9 _; clear F' N')
  | (with_unfolding_all refine range2_rows F' N' ?_; intro _ _ _ _ _ hR9 F9 N9 _; clear F' N')))
local macro_rules | `(tactic| walk_at "binaryOp Mult str int") => `(tactic| (k_here; refine mul_sign (by omega) ?_; intro mz9 mt9 mk9 me9 ml9; (try dsimp only)))
set_option maxRecDepth 100000 in
set_option maxHeartbeats 8000000 in
theorem words (news : List (Addr × Obj)) (size : Nat) (t : Tok) (h4 : size ≤ 4) :
    ConL 2 49 news [.int (size : Int) t] ((wordsL size).map S) := by
  unfold ConL; w_top off; k_fill
  intros; rename_i hret
  refine wpAny_call ?_
  k_dflt cell_enter
  k_steps
  unfold Stop
  rename ∀ p ∈ news, p.1 < _ => l1
  have off0 := fun p hp => Nat.ne_of_lt (l1 p hp)
  (rename Fr _ _ _ _ => lF'); (rename News _ _ _ _ => lN')
  refine loop_text (σ := List Value × Nat) (fun c => (_, listOf c.1.toArray c.2) :: news) (fun _ => []) [Str.ofString "many", Str.ofString "other", Str.ofString "more"]
    (fun i c => StrsAre c.1 (((letters.take i).flatMap fun one => (List.range size).flatMap fun i => block size one (i + 1)).map S) ∧ c.1.length ≤ 100 * i) ([], 0) rfl lF' lN' (List.forall_mem_nil _) ?hp ?turn ?done
  case hp => exact ⟨StrsAre.nil, by simp⟩
  case turn =>
    rintro ⟨us, ne⟩ i one ti u h tk own hi hoff ⟨hP, hL⟩ F' N'
    have hone : letters[i]? = some one := hi
    have hi3 : i < 3 := (List.getElem?_eq_some_iff.mp hone).1
    dsimp only at hP N' F' hL
    have off1 := off_app off0 hoff
    clear lF' lN'
    k_steps
    unfold Stop
    (rename Fr _ _ _ _ => lF'); (rename News _ _ _ _ => lN')
    generalize hb : ((letters.take i).flatMap fun one => (List.range size).flatMap fun i => block size one (i + 1)) = acc at hP
    refine loop_range (σ := List Value × Nat) (n := size) (fun c => (_, listOf c.1.toArray c.2) :: (news ++ own)) (fun _ => []) [Str.ofString "other", Str.ofString "more"]
      (fun j c => StrsAre c.1 ((acc ++ (List.range j).flatMap fun i => block size one (i + 1)).map S) ∧ c.1.length ≤ 100 * i + 25 * j) (us, ne) rfl (by assumption) (small_one (by omega) (by omega) (by omega) (by omega)) (by rw [rangeSize_nat]; omega) lF' lN' (List.forall_mem_nil _) ?hp2 ?turn2 ?done2
    case hp2 => exact ⟨by simpa using hP, by simpa using hL⟩
    case turn2 =>
      clear hP hL
      rintro ⟨us, ne⟩ j tj u1 h tk own1 hj hoff1 ⟨hP, hL⟩ F' N'
      dsimp only at hP N' F' hL
      have off2 := off_app off1 hoff1
      clear lF' lN'
      k_steps
      unfold Stop
      rename _ = S _ => hz
      subst hz
      (rename Fr _ _ _ _ => eF); (rename News _ _ _ _ => eN)
      refine append_v (rest := news ++ own ++ own1) eF eN off2 (by omega) ?_
      intro h8 v8 hv8 F8 N8
      clear eF eN
      k_steps
      unfold Stop
      refine' Con.use (repl _ one _ _ _ _ ?h4) ?B ?F ?X ?N ?T ?hk ?hd ?hu ?ret
      case h4 => decide
      case B => k_asm
      case F => k_asm
      case X => k_asm
      case N => k_asm
      case T => k_asm
      case hk => rfl
      case hd => ktr_room
      case hu => ktr_units
      case ret =>
      intro t9 h9 tk9 F9 N9
      (try dsimp only)
      k_steps
      unfold Stop
      (rename Fr _ _ _ _ => lF'); (rename News _ _ _ _ => lN')
      have hoth : (S (List.filter (fun x => x != one) (Str.ofString "abc").cps.toList)).cps.toList = others one := rfl
      generalize hb2 : (acc ++ (List.range j).flatMap fun i => block size one (i + 1)) = acc2 at hP
      refine loop_text (σ := List Value × Nat) (fun c => (_, listOf c.1.toArray c.2) :: (news ++ own ++ own1)) (fun _ => []) [Str.ofString "more"]
        (fun k c => StrsAre c.1 ((acc2 ++ [List.replicate (j + 1) one] ++ ((others one).take k).flatMap fun other => tailW size one (j + 1) other (size - (j + 1))).map S) ∧ c.1.length ≤ 100 * i + 25 * j + 1 + 10 * k) (us ++ [v8], ne + 1) rfl lF' lN' (List.forall_mem_nil _) ?hp3 ?turn3 ?done3
      case hp3 => exact ⟨by subst hv8; simpa using snoc_strs hP, by simp; omega⟩
      case turn3 =>
        clear hP hL
        rintro ⟨us, ne⟩ k other tk3 u3 h tk own2 hk hoff2 ⟨hP, hL⟩ F' N'
        rw [hoth] at hk
        have hk2 : k < 2 := by
          have h1 : k < (others one).length := (List.getElem?_eq_some_iff.mp hk).1
          have h2 : ∀ c ∈ letters, (others c).length = 2 := by decide
          rw [h2 one (List.mem_of_getElem? hone)] at h1
          exact h1
        dsimp only at hP N' F' hL
        have off3 := off_app off2 hoff2
        clear lF' lN'
        k_steps
        unfold Stop
        (rename Fr _ _ _ _ => lF'); (rename News _ _ _ _ => lN')
        generalize hb3 : (acc2 ++ [List.replicate (j + 1) one] ++ ((others one).take k).flatMap fun other => tailW size one (j + 1) other (size - (j + 1))) = acc3 at hP
        refine loop_range (σ := List Value × Nat) (n := size - (j + 1)) (fun c => (_, listOf c.1.toArray c.2) :: (news ++ own ++ own1 ++ own2)) (fun _ => []) []
          (fun l c => StrsAre c.1 ((acc3 ++ tailW size one (j + 1) other l).map S) ∧ c.1.length ≤ 100 * i + 25 * j + 1 + 10 * k + l) (us, ne) rfl (by assumption) (small_one (by omega) (by omega) (by omega) (by omega)) (by rw [rangeSize_nat]; omega) lF' lN' (List.forall_mem_nil _) ?hp4 ?turn4 ?done4
        case hp4 => exact ⟨by simpa [tailW] using hP, by simpa using hL⟩
        case turn4 =>
          clear hP hL
          rintro ⟨us, ne⟩ l tl u4 h tk own3 hl hoff3 ⟨hP, hL⟩ F' N'
          dsimp only at hP N' F' hL
          have off4 := off_app off3 hoff3
          clear lF' lN'
          k_steps
          unfold Stop
          rename _ = S (List.replicate (l + 1) other) => hz2
          rename _ = S (List.replicate (j + 1) one) => hz1
          subst hz1 hz2
          (rename Fr _ _ _ _ => eF); (rename News _ _ _ _ => eN)
          refine append_v (rest := news ++ own ++ own1 ++ own2 ++ own3) eF eN off4 (by omega) ?_
          intro h8 v8 hv8 F8 N8
          clear eF eN
          k_steps
          dsimp only [TPost]
          refine TEnd.intro (us ++ [v8], ne + 1) F8 N8 ?_ ?_ rfl (List.forall_mem_nil _) (by kst_same) ?_
          · intro p hp
            rcases List.mem_cons.mp hp with rfl | hp
            · exact List.Mem.head _
            · exact List.Mem.tail _ (List.mem_append.mpr (.inl hp))
          · exact fun p hp => List.Mem.tail _ (List.mem_append.mpr (.inr hp))
          · refine ⟨?_, by simp; omega⟩
            have e : S (List.replicate (j + 1) one) ++ S (List.replicate (l + 1) other) = S (List.replicate (j + 1) one ++ List.replicate (l + 1) other) := by
              apply PySem.Str.ext'
              rw [PySem.Str.cps_append]
              simp
            rw [e] at hv8
            subst hv8
            have h := fun t => snoc_strs (z := S (List.replicate (j + 1) one ++ List.replicate (l + 1) other)) (t := t) hP
            simpa [tailW, List.range_succ] using h _
        case done4 =>
          rintro ⟨us1, ne1⟩ u1 h1 tk1 ⟨hP1, hL1⟩ F1 N1
          dsimp only at hP1 hL1 F1 N1
          k_steps
          dsimp only [TPost]
          refine TEnd.intro (us1, ne1) F1 N1 ?_ ?_ rfl (List.forall_mem_nil _) (by kst_same) ?_
          · intro p hp
            rcases List.mem_cons.mp hp with rfl | hp
            · exact List.Mem.head _
            · exact List.Mem.tail _ (List.mem_append.mpr (.inl hp))
          · exact fun p hp => List.Mem.tail _ (List.mem_append.mpr (.inr hp))
          · refine ⟨?_, by show us1.length ≤ _; omega⟩
            rw [List.take_add_one, hk]
            simpa [← hb3] using hP1
      case done3 =>
        rintro ⟨us1, ne1⟩ u1 h1 tk1 ⟨hP1, hL1⟩ F1 N1
        dsimp only at hP1 hL1 F1 N1
        k_steps
        dsimp only [TPost]
        refine TEnd.intro (us1, ne1) F1 N1 ?_ ?_ rfl (List.forall_mem_nil _) (by kst_same) ?_
        · intro p hp
          rcases List.mem_cons.mp hp with rfl | hp
          · exact List.Mem.head _
          · exact List.Mem.tail _ (List.mem_append.mpr (.inl hp))
        · exact fun p hp => List.Mem.tail _ (List.mem_append.mpr (.inr hp))
        · have hlen : (S (List.filter (fun x => x != one) (Str.ofString "abc").cps.toList)).length = 2 := by
            have h2 : ∀ c ∈ letters, (others c).length = 2 := by decide
            exact h2 one (List.mem_of_getElem? hone)
          rw [hlen] at hP1 hL1
          refine ⟨?_, by show us1.length ≤ _; omega⟩
          rw [List.take_of_length_le (by have h2 : ∀ c ∈ letters, (others c).length = 2 := by decide
                                         rw [h2 one (List.mem_of_getElem? hone)]; exact Nat.le_refl 2)] at hP1
          rw [List.range_succ]
          simpa [block, ← hb2] using hP1
    case done2 =>
      rintro ⟨us1, ne1⟩ u1 h1 tk1 ⟨hP1, hL1⟩ F1 N1
      dsimp only at hP1 hL1 F1 N1
      k_steps
      dsimp only [TPost]
      refine TEnd.intro (us1, ne1) F1 N1 ?_ ?_ rfl (List.forall_mem_nil _) (by kst_same) ?_
      · intro p hp
        rcases List.mem_cons.mp hp with rfl | hp
        · exact List.Mem.head _
        · exact List.Mem.tail _ (List.mem_append.mpr (.inl hp))
      · exact fun p hp => List.Mem.tail _ (List.mem_append.mpr (.inr hp))
      · refine ⟨?_, by show us1.length ≤ _; omega⟩
        rw [List.take_add_one, hone]
        simpa [hb] using hP1
  case done =>
    rintro ⟨us, ne⟩ u h tk ⟨hP, hL⟩ F' N'
    k_steps
    exact hret _ us ne _ _ l1 hP (by assumption) (by assumption)
end Mine
end

section -- Ha
open PySem PySem.W PyProof.Rows
namespace Mine
/-- a wall inside a tree: the walk stops at it -/
def halt {α : Type} (t : Sem α) : Sem α := t
theorem halt_out {α : Type} {M : Model} {A : Around} {t : Sem α} {Q : α → Shared → Prop} {E : Value → Shared → Prop} {s : Shared} (h : wpAny M A (halt t) Q E s) : wpAny M A t Q E s := h
end Mine
end

section -- Jn
open PySem PySem.W PyProof.Rows PySem.Builtin PySem.Builtin.Str
namespace Mine
def Letters (ss : List Str) : Prop := ∀ z ∈ ss, ∃ c, c ∈ letters ∧ z = S [c]
theorem item_letter (k : Int) : ∃ c, c ∈ letters ∧ Txt.item (Str.ofString "abc") (Int.fmod k 3) = S [c] := by
  have h0 : 0 ≤ Int.fmod k 3 := Int.fmod_nonneg_of_pos _ (by omega)
  have h1 : Int.fmod k 3 < 3 := Int.fmod_lt_of_pos _ (by omega)
  have hc : Int.fmod k 3 = 0 ∨ Int.fmod k 3 = 1 ∨ Int.fmod k 3 = 2 := by omega
  rcases hc with h | h | h <;> rw [h]
  · exact ⟨97, by decide, by decide⟩
  · exact ⟨98, by decide, by decide⟩
  · exact ⟨99, by decide, by decide⟩
theorem letters_map (ns : List Int) : Letters (ns.map fun k => Txt.item (Str.ofString "abc") (Int.fmod k 3)) := fun z hz => by
  obtain ⟨k, _, rfl⟩ := List.mem_map.mp hz
  exact item_letter k
theorem join_letters : ∀ (ss : List Str), Letters ss → ∃ l : List Nat, Str.join (Str.ofString "") ss = S l ∧ l.length = ss.length ∧ (∀ c ∈ l, c ∈ letters) ∧ (ss.map (·.length)).sum = ss.length
  | [], _ => ⟨[], rfl, rfl, (fun _ h => nomatch h), rfl⟩
  | [z], h => by
    obtain ⟨c, hc, rfl⟩ := h z (List.Mem.head _)
    exact ⟨[c], rfl, rfl, fun d hd => by rw [List.mem_singleton.mp hd]; exact hc, rfl⟩
  | z :: y :: r, h => by
    obtain ⟨c, hc, rfl⟩ := h z (List.Mem.head _)
    obtain ⟨l, e, hl, hm, hs⟩ := join_letters (y :: r) fun x hx => h x (List.Mem.tail _ hx)
    refine ⟨c :: l, ?_, by simp [hl], ?_, ?_⟩
    · show (S [c] ++ Str.ofString "" ++ Str.join (Str.ofString "") (y :: r)) = S (c :: l)
      rw [e]
      apply PySem.Str.ext'
      rw [PySem.Str.cps_append, PySem.Str.cps_append, show (Str.ofString "").cps = #[] from by decide]
      simp
    · intro d hd
      rcases List.mem_cons.mp hd with rfl | hd
      · exact hc
      · exact hm d hd
    · rw [List.map_cons, List.sum_cons, hs]
      have e1 : (S [c]).length = 1 := rfl
      rw [e1]
      simp
      omega
theorem join_call {prog : Program} {w : World} {A : Around} {E : Value → Shared → Prop} {s : Shared} {t : Tok} {Q : Value → Shared → Prop} {D : Addr} {us : List Value} {ss : List Str} (hl : s.heap.IsList D us.toArray) (hs : StrsAre us ss) (hL : Letters ss) (hlen : ss.length ≤ 7)
    (h : ∀ (l : List Nat) t' k, l.length = ss.length → (∀ c ∈ l, c ∈ letters) → Q (.str (S l) t') { s with toks := k }) : wpAny (model prog w) A (call (.builtin "str.join") [.str (Str.ofString "") t, .ref D]) Q E s := by
  obtain ⟨l, e, hl', hm, hsum⟩ := join_letters ss hL
  refine join_listW hl (by simpa using hs) (by decide) (by rw [hsum]; omega) fun t' k => ?_
  unfold Txt.join
  rw [StrLaws.glued_eq_join, e]
  exact h l t' k hl' hm
end Mine
end

section -- It
open PySem PySem.W PyProof.Rows PySem.SeqAt
namespace Mine
section
variable {prog : Program} {w : World} {A : Around} {E : Value → Shared → Prop} {s : Shared} {h₀ : Heap} {L D : Addr} {m : Str → Option Value} {news rest : List (Addr × Obj)} {value slice : Expr} {us : List Value} {ss : List Str} {ns : List Int} {n : Nat} {k : Int} {u : Tok}
theorem get_any {Q : Value → Shared → Prop} (N : News h₀ L s.heap news) (hm : (D, listOf us.toArray n) ∈ news) (h0 : -(us.length : Int) ≤ k) (h1 : k < us.length) (h7 : us.length ≤ 7) (h : ∀ v ∈ us, Q v s)
    (hs : subscripted slice false (.ref D) (.int k u) = operate [.ref D, .int k u] (getItem (.ref D) (.int k u)) := by with_unfolding_all rfl) (hg : ∀ r, letTemporaryGo value (.ref D) r = pure () := by intro _; with_unfolding_all rfl) :
    wpAny (model prog w) A (subscriptTail value slice (.ref D) (.int k u)) Q E s := by
  by_cases hk : 0 ≤ k
  · obtain ⟨j, rfl⟩ := Int.eq_ofNat_of_zero_le hk
    have hj : j < us.length := by omega
    exact kim_list N hm rfl rfl hk (by omega) (List.getElem?_eq_getElem hj) (h _ (List.getElem_mem hj)) hs hg
  · have hj : (k + (us.length : Int)).toNat < us.length := by omega
    exact kim_back N hm rfl rfl (by omega) h0 (by omega) (List.getElem?_eq_getElem hj) (h _ (List.getElem_mem hj)) hs hg
theorem mem_ints : ∀ {us : List Value} {ns : List Int}, IntsAre us ns → ∀ v ∈ us, ∃ x t, v = .int x t
  | _, _, .nil, _, h => nomatch h
  | _, _, .cons x t r, v, h => by
    rcases List.mem_cons.mp h with rfl | h
    · exact ⟨x, t, rfl⟩
    · exact mem_ints r v h
theorem mem_strs : ∀ {us : List Value} {ss : List Str}, StrsAre us ss → ∀ v ∈ us, ∃ z t, v = .str z t ∧ z ∈ ss
  | _, _, .nil, _, h => nomatch h
  | _, _, .cons x t r, v, h => by
    rcases List.mem_cons.mp h with rfl | h
    · exact ⟨x, t, rfl, List.Mem.head _⟩
    · obtain ⟨z, t', e, hz⟩ := mem_strs r v h
      exact ⟨z, t', e, List.Mem.tail _ hz⟩
theorem get_num {Q : Value → Shared → Prop} (N : News h₀ L s.heap news) (hm : (D, listOf us.toArray n) ∈ news) (hi : IntsAre us ns) (h0 : 0 ≤ k) (h1 : k < ns.length) (h7 : ns.length ≤ 7) (h : ∀ x t, Q (.int x t) s)
    (hs : subscripted slice false (.ref D) (.int k u) = operate [.ref D, .int k u] (getItem (.ref D) (.int k u)) := by with_unfolding_all rfl) (hg : ∀ r, letTemporaryGo value (.ref D) r = pure () := by intro _; with_unfolding_all rfl) :
    wpAny (model prog w) A (subscriptTail value slice (.ref D) (.int k u)) Q E s := by
  have hl := hi.length
  refine get_any N hm (by omega) (by omega) (by omega) (fun v hv => ?_) hs hg
  obtain ⟨x, t, rfl⟩ := mem_ints hi v hv
  exact h x t
theorem get_str {Q : Value → Shared → Prop} (N : News h₀ L s.heap news) (hm : (D, listOf us.toArray n) ∈ news) (hi : StrsAre us ss) (hL : Letters ss) (h0 : -(ss.length : Int) ≤ k) (h1 : k < ss.length) (h7 : ss.length ≤ 7) (h : ∀ c t, c ∈ letters → Q (.str (S [c]) t) s)
    (hs : subscripted slice false (.ref D) (.int k u) = operate [.ref D, .int k u] (getItem (.ref D) (.int k u)) := by with_unfolding_all rfl) (hg : ∀ r, letTemporaryGo value (.ref D) r = pure () := by intro _; with_unfolding_all rfl) :
    wpAny (model prog w) A (subscriptTail value slice (.ref D) (.int k u)) Q E s := by
  have hl := hi.length
  refine get_any N hm (by omega) (by omega) (by omega) (fun v hv => ?_) hs hg
  obtain ⟨z, t, rfl, hz⟩ := mem_strs hi v hv
  obtain ⟨c, hc, rfl⟩ := hL z hz
  exact h c t hc
theorem strs_set {z : Str} {t : Tok} : ∀ {us : List Value} {ss : List Str}, StrsAre us ss → ∀ j, StrsAre (us.set j (.str z t)) (ss.set j z)
  | _, _, .nil, _ => .nil
  | _, _, .cons _ _ h, 0 => .cons z t h
  | _, _, .cons x t' h, j + 1 => .cons x t' (strs_set h j)
theorem letters_set {c : Nat} (hc : c ∈ letters) {ss : List Str} (hL : Letters ss) (j : Nat) : Letters (ss.set j (S [c])) := fun z hz => by
  rcases List.mem_or_eq_of_mem_set hz with h | h
  · exact hL z h
  · exact ⟨c, hc, h⟩
theorem set_str {c : Nat} {t t' : Tok} {Q : Unit → Shared → Prop} (F : Fr h₀ L s.heap m) (N : News h₀ L s.heap ((D, listOf us.toArray n) :: rest)) (off : ∀ p ∈ rest, p.1 ≠ D) (hi : StrsAre us ss) (hL : Letters ss) (hc : c ∈ letters)
    (h0 : -(ss.length : Int) ≤ k) (h1 : k < ss.length) (h7 : ss.length ≤ 7)
    (h : ∀ h' us' ss', StrsAre us' ss' → ss'.length = ss.length → Letters ss' → Fr h₀ L h' m → News h₀ L h' ((D, listOf us'.toArray n) :: rest) → Q () { s with heap := h' }) :
    wpAny (model prog w) A (setItem (.ref D) (.int k t) (.str (S [c]) t')) Q E s := by
  have hl := hi.length
  have z := N (D, listOf us.toArray n) (List.Mem.head _)
  have key : ∀ j : Nat, Q () { s with heap := s.heap.update D (Obj.mapSeq (·.setIfInBounds j (.str (S [c]) t'))) } := fun j => by
    refine h _ (us.set j (.str (S [c]) t')) (ss.set j (S [c])) (strs_set hi j) (by simp) (letters_set hc hL j) (F.change (Heap.SameBut.update ..) z.2.1 z.2.2) ?_
    refine ki_turn (pre := []) _ N (fun _ hp => nomatch hp) off ?_ ?_
    · show us.toArray.setIfInBounds j (.str (S [c]) t') = (us.set j (.str (S [c]) t')).toArray
      apply Array.toList_inj.mp
      simp
    · simp
  by_cases hk : 0 ≤ k
  · exact ki_setAt z.1 hk (by omega) (by rw [List.size_toArray]; omega) (key _)
  · exact ki_setBack z.1 (by omega) (by rw [List.size_toArray]; omega) (by omega) (key _)
theorem off_three {g h : Heap} {a b c d e f : Addr} {o oa oe of : Obj} (_N : News g L h [(D, o), (a, oa), (e, oe), (f, of)]) (x : a ≠ D ∧ b ≠ D ∧ c ≠ D ∧ d ≠ D ∧ e ≠ D ∧ f ≠ D) : ∀ p ∈ [(a, oa), (e, oe), (f, of)], p.1 ≠ D := by
  intro p hp
  simp only [List.mem_cons, List.not_mem_nil, or_false] at hp
  rcases hp with rfl | rfl | rfl
  · exact x.1
  · exact x.2.2.2.2.1
  · exact x.2.2.2.2.2
theorem half_eq (n : Nat) : (n : Int).fdiv 2 = ((n / 2 : Nat) : Int) := by
  rw [Int.fdiv_eq_ediv_of_nonneg _ (by omega)]
  omega
theorem off_words {g h : Heap} {a b e f : Addr} {oa ob oe of : Obj} (_N : News g L h [(b, ob), (a, oa), (e, oe), (f, of)]) (x1 : b < a) (x2 : e < b) (x3 : f < b) : ∀ p ∈ [(a, oa), (e, oe), (f, of)], p.1 ≠ b := by
  intro p hp
  simp only [List.mem_cons, List.not_mem_nil, or_false] at hp
  rcases hp with rfl | rfl | rfl
  · exact Nat.ne_of_gt x1
  · exact Nat.ne_of_lt x2
  · exact Nat.ne_of_lt x3
theorem ne_same {a b : Bool} {Q : Value → Shared → Prop} (e : a = b) (h : Q (.bool false) s) : wpAny (model prog w) A (compareOp .NotEq (.bool a) (.bool b)) Q E s := by
  subst e
  exact ne_bool (by simpa using h)
theorem eq_nil {l b : Addr} {Q : Value → Shared → Prop} (hl : s.heap.IsList l us.toArray) (hb : s.heap.IsList b #[]) (hu : A.units < cLine) (h : Q (.bool (decide (us = []))) s) : wpAny (model prog w) A (compareOp .Eq (.ref l) (.ref b)) Q E s := by
  cases us with
  | nil => exact eq_listAt (e := fun _ => true) hl hb rfl hu (fun j h1 _ => absurd h1 (Nat.not_lt_zero _)) h
  | cons v r => exact eq_list_lengthsAt hl hb (by simp) hu (by simpa using h)
theorem strs_nil {us : List Value} {ss : List Str} (hi : StrsAre us ss) : decide (us = []) = decide (ss = []) := by
  cases hi <;> rfl
end
end Mine
end

section -- Cu
open PySem PySem.W PyProof.Rows
namespace Mine
theorem fitsS (news : List (Addr × Obj)) (word l : List Nat) (t u : Tok) (hw : word ∈ wordsL 4) (hl : (S word).length ≤ 4) (h4 : (S l).length ≤ 100) :
    Con 2 35 news [.str (S word) t, .str (S l) u] (fun _ => .bool (decide (word.Sublist l))) := fits news word (S word) (S l) t u rfl hw hl h4
theorem dueS (news : List (Addr × Obj)) (word l : List Nat) (t u : Tok) (hw : word ∈ wordsL 4) (hl : (S word).length ≤ 4) (hl1 : 1 ≤ (S word).length) (h4 : (S l).length ≤ 100) :
    Con 1 42 news [.str (S word) t, .str (S l) u] (fun _ => .bool (decide (word.Sublist l))) := due news word (S word) (S l) t u rfl hw hl hl1 h4
theorem replS (news : List (Addr × Obj)) (c : Nat) (l : List Nat) (t u v : Tok) (h4 : (S l).length ≤ 100) :
    Con 1 28 news [.str (S l) t, .str ⟨#[c]⟩ u, .str (Str.ofString "") v] (fun t => .str (S (l.filter (· != c))) t) := repl news c (S l) t u v h4
end Mine
end

section -- Tt
open PySem PySem.W PyProof.Rows
set_option maxRecDepth 100000
namespace Mine
section
variable {σ : Type} {prog : Program} {w : World} {A : Around} {E : Value → Shared → Prop} {s : Shared} {env : Env} {h₀ : Heap} {x : Str} {px : Pos} {body : List Stmt} {Q : Flow → Shared → Prop} {m₀ : Str → Option Value}

/-- over a text, whatever name the turn is bound to (a captured one too) -/
theorem turns_text {xt : Str} {tx : Tok} (Led : σ → List (Addr × Obj)) (ps : σ → List (Str × Value)) (stored : List Str) (P : Nat → σ → Prop) (c₀ : σ) (dm : Str)
    (hh : A.handled = none) (F : Fr h₀ env.locals s.heap m₀) (N : News h₀ env.locals s.heap (Led c₀)) (hadr : ∀ c, (Led c).map (·.1) = (Led c₀).map (·.1)) (hk : ∀ p ∈ ps c₀, m₀ p.1 = some p.2) (hp : P 0 c₀)
    (turn : ∀ (c : σ) (i n : Nat) t (u : Str → Option Value) h tk own, xt.cps.toList[i]? = some n → OwnOff own ((Led c₀).map (·.1)) → P i c →
      Fr h₀ env.locals h (fun y => if y = dm then u y else mapOf stored u m₀ (ps c) y) → News h₀ env.locals h (Led c ++ own) →
      wpAny (model prog w) A (assign (.Name x px) env (.str ⟨#[n]⟩ t)) (fun _ s₃ => wpAny (model prog w) A (execs body env) (TPost h₀ env.locals Led ps dm stored m₀ (P (i + 1)) own ((Led c₀).map (·.1)) { s with heap := h, toks := tk } Q) E s₃) E { s with heap := h, toks := tk })
    (done : ∀ (c : σ) (u : Str → Option Value) h tk, P xt.length c → Fr h₀ env.locals h (fun y => if y = dm then u y else mapOf stored u m₀ (ps c) y) → News h₀ env.locals h (Led c) → Q .next { s with heap := h, toks := tk }) :
    wpAny (model prog w) A (pyIter (.str xt tx)) (fun it s₂ => TurnsAt prog w A h₀ env (.Name x px) body Q E it s₂) E s := by
  refine wpAny_pyIter_str fun o St hW hst => ?_
  have W := hW A hh
  have off : ∀ c, ∀ p ∈ Led c, p.1 ∉ [s.heap.objs.size] := fun c p hp hI => by
    have h1 : p.1 ∈ (Led c₀).map (·.1) := hadr c ▸ List.mem_map.mpr ⟨p, hp, rfl⟩
    obtain ⟨q, hq, e⟩ := List.mem_map.mp h1
    exact absurd (Heap.lt_size (N q hq).1) (by rw [e, List.mem_singleton.mp hI]; exact Nat.lt_irrefl _)
  refine ⟨_, _, _, _, _, _, St, m₀, Led c₀, (fun i m nx => ∃ c, nx = Led c ∧ (∀ p ∈ ps c, m p.1 = some p.2) ∧ (∀ z, z ≠ dm → (∀ p ∈ ps c, z ≠ p.1) → stored.contains z = false → m z = m₀ z) ∧ P i c), rfl,
    KTurns.ofWalks W (fun i v s Q E _ q => wpAny_pure q), ?_, ?_, off c₀, hst, F.push _, (fun p hp => ⟨Heap.get?_push_of_some _ (N p hp).1, (N p hp).2⟩), ⟨c₀, rfl, hk, fun _ _ _ _ => rfl, hp⟩, ?_, ?_⟩
  · intro hm
    exact absurd F.ns.lt ((List.mem_singleton.mp hm) ▸ Nat.lt_irrefl _)
  · intro b hb
    rw [List.mem_singleton.mp hb]
    exact next_is_new F
  · rintro i v m₁ nx h₁ tk₁ own hi hP ⟨c, rfl, h1, h2, hp'⟩ hnw hown hget _ _ F₁ N₁
    obtain ⟨n, t, hn, rfl⟩ := hP
    have hsep : OwnOff own ((Led c₀).map (·.1)) := by
      intro p hp b hb e
      obtain ⟨q, hq, rfl⟩ := List.mem_map.mp hb
      exact off c₀ q hq (e ▸ hown p hp)
    have F₂ : Fr h₀ env.locals h₁ (fun y => if y = dm then m₁ y else mapOf stored m₁ m₀ (ps c) y) := kst_frOut h1 h2 F₁
    have N₂ : News h₀ env.locals h₁ (Led c ++ own) := fun p hp => N₁ p ((List.mem_append.mp hp).elim (fun h => List.mem_append.mpr (.inr h)) fun h => List.mem_append.mpr (.inl h))
    have hn' : xt.cps.toList[i]? = some n := by simpa using hn
    refine wpAny_mono (turn c i n t m₁ h₁ tk₁ own hn' hsep hp' F₂ N₂) (fun _ s₃ h₃ => wpAny_mono h₃ (fun f s₄ p => ?_) fun _ _ e => e) fun _ _ e => e
    have up : TEnd h₀ env.locals Led ps dm stored m₀ (P (i + 1)) own ((Led c₀).map (·.1)) { s with heap := h₁, toks := tk₁ } s₄ →
        LoopStepU h₀ env.locals [s.heap.objs.size] own (fun m nx => ∃ c, nx = Led c ∧ (∀ p ∈ ps c, m p.1 = some p.2) ∧ (∀ z, z ≠ dm → (∀ p ∈ ps c, z ≠ p.1) → stored.contains z = false → m z = m₀ z) ∧ P (i + 1) c) { s with heap := h₁, toks := tk₁ } .next s₄ := by
      rintro ⟨c', h', tk', m', news', e, F', N', hn, ho, ha, hk', hr', hp''⟩
      exact ⟨rfl, h', tk', m', Led c', e, F', fun p hp => N' p ((List.mem_append.mp hp).elim (ho p) (hn p)), off c', c', rfl, hk', hr', hp''⟩
    cases f with
    | ret v => exact p
    | brk => exact p
    | next => exact up p
    | cont => exact up p
  · rintro h' tk m' nx F' N' _ ⟨c, rfl, h1, h2, hp'⟩
    exact done c m' h' tk hp' (kst_frOut h1 h2 F') N'
end
end Mine
end

section -- Cf
open PySem PySem.W PyProof.Rows
set_option maxRecDepth 100000
namespace Mine
section
variable {prog : Program} {w : World} {A : Around} {h₀ : Heap} {L : Addr} {m : Str → Option Value} {env : Env} {ct elt : Expr} {x : Str} {scope : Scope} {cl : List (Str × Addr)} {s : Shared} {Sr : List (Addr × Obj) → Prop} {Fin : List Value → List (Addr × Obj) → Prop} {news : List (Addr × Obj)}
def ElY (news : List (Addr × Obj)) (q : List Nat → Bool) (wd : List Nat) (y : Value) (news' : List (Addr × Obj)) : Prop := news' = news ∧ q wd = true ∧ ∃ t : Tok, y = .str (S wd) t
def ElN (news : List (Addr × Obj)) (q : List Nat → Bool) (wd : List Nat) (news' : List (Addr × Obj)) : Prop := news' = news ∧ q wd = false
theorem rest_filter {vs : List Value} {ws : List (List Nat)} (hs : StrsAre vs (ws.map S)) (q : List Nat → Bool)
    (turn : ∀ wd t I oI C oC D m₂ ys h tk (E' : Value → Shared → Prop), wd ∈ ws → LCg.NsObj oC m₂ → m₂ x = some (.str (S wd) t) → Fr h₀ L h m → News h₀ L h ((I, oI) :: (C, oC) :: (D, LCg.lst ys) :: news) → LCg.Off3 I C D news → ((@Ne Nat I C) ∧ (@Ne Nat I D) ∧ (@Ne Nat C D)) →
      wpAny (model prog w) A (isTrue ct (compEnvC scope cl C env) (eval ct (compEnvC scope cl C env))) (fun ok s' => if ok = true then
        wpAny (model prog w) A (eval elt (compEnvC scope cl C env)) (LCg.CompEnd h₀ L m { s with heap := h, toks := tk } I oI C oC D (LCg.lst ys) Sr (ElY news q wd)) E' s'
        else LCg.CompEnd h₀ L m { s with heap := h, toks := tk } I oI C oC D (LCg.lst ys) Sr (fun _ news' => ElN news q wd news') Value.none s') E' { s with heap := h, toks := tk })
    (fin : ∀ ys, StrsAre ys ((ws.filter q).map S) → Fin ys news) : LCt.CompRestT prog w A h₀ L m env ct elt x scope cl s Sr (fun i v => vs.toArray[i]? = some v) Fin vs.toArray.size 0 [] news := by
  have hlen : vs.toArray.size = ws.length := by have h := hs.length; simp at h ⊢; exact h
  have key : ∀ (j i : Nat) (ys : List Value), i + j = ws.length → StrsAre ys (((ws.take i).filter q).map S) → LCt.CompRestT prog w A h₀ L m env ct elt x scope cl s Sr (fun i v => vs.toArray[i]? = some v) Fin j i ys news := by
    intro j
    induction j with
    | zero =>
      intro i ys hi hy
      have e : i = ws.length := by omega
      subst e
      rw [List.take_length] at hy
      exact LCt.CompRestT.zero (fin ys hy)
    | succ j ih =>
      intro i ys hi hy
      refine LCt.CompRestT.succ ?_
      intro v I oI C oC D m₂ h tk E' hv hC hx F N off ne
      have hv' : vs[i]? = some v := by simpa using hv
      obtain ⟨z, t, rfl, hz⟩ := hs.item i v hv'
      rw [List.getElem?_map] at hz
      obtain ⟨wd, hwd, rfl⟩ := Option.map_eq_some_iff.mp hz
      have ht : ws.take (i + 1) = ws.take i ++ [wd] := by rw [List.take_add_one, hwd]; rfl
      refine wpAny_mono (turn wd t I oI C oC D m₂ ys h tk E' (List.mem_of_getElem? hwd) hC hx F N off ne) (fun ok s₂ hq => ?_) fun _ _ e => e
      cases ok with
      | true =>
        have hq' := hq
        simp only [if_true] at hq' ⊢
        refine wpAny_mono hq' (fun y s₃ h₃ => ?_) fun _ _ e => e
        obtain ⟨h', tk', nw, e, F', N', off', hS, hn, hqt, t', hy'⟩ := h₃
        rw [hn] at N' off' hS
        refine ⟨h', tk', news, e, F', N', off', hS, ih (i + 1) _ (by omega) ?_⟩
        rw [hy', ht, List.filter_append]
        simpa [hqt] using KStt.strs_snoc hy
      | false =>
        have hq' := hq
        simp only [Bool.false_eq_true, if_false] at hq' ⊢
        obtain ⟨h', tk', nw, e, F', N', off', hS, hn, hqf⟩ := hq'
        rw [hn] at N' off' hS
        refine ⟨h', tk', news, e, F', N', off', hS, ih (i + 1) _ (by omega) ?_⟩
        rw [ht, List.filter_append]
        simpa [hqf] using hy
  rw [hlen]
  exact key ws.length 0 [] (by omega) StrsAre.nil
end
/-- what a turn over the letters may turn: the two cells -/
theorem turns_cells {prog : Program} {w : World} {A : Around} {E : Value → Shared → Prop} {s : Shared} {env : Env} {h₀ : Heap} {x : Str} {px : Pos} {body : List Stmt} {Q : Flow → Shared → Prop} {m₀ : Str → Option Value} {xt : Str} {tx : Tok} {D cA cB : Addr} {oD oA oB : Obj} {va vb : Option Value} (stored : List Str) (dm : Str)
    (hh : A.handled = none) (F : Fr h₀ env.locals s.heap m₀) (N : News h₀ env.locals s.heap [(D, oD), (cA, oA), (cB, oB)]) (ha : oA.data = .cell va) (hb : oB.data = .cell vb)
    (turn : ∀ (a b : Obj) (va vb : Option Value) (i n : Nat) t (u : Str → Option Value) h tk own, a.data = .cell va → b.data = .cell vb → xt.cps.toList[i]? = some n → OwnOff own [D, cA, cB] →
      Fr h₀ env.locals h (fun y => if y = dm then u y else mapOf stored u m₀ [] y) → News h₀ env.locals h ([(D, oD), (cA, a), (cB, b)] ++ own) →
      wpAny (model prog w) A (assign (.Name x px) env (.str ⟨#[n]⟩ t)) (fun _ s₃ => wpAny (model prog w) A (execs body env) (TPost (σ := Obj × Obj) h₀ env.locals (fun c => [(D, oD), (cA, c.1), (cB, c.2)]) (fun _ => []) dm stored m₀ (fun c => (∃ v, c.1.data = .cell v) ∧ ∃ v, c.2.data = .cell v) own [D, cA, cB] { s with heap := h, toks := tk } Q) E s₃) E { s with heap := h, toks := tk })
    (done : ∀ (a b : Obj) (u : Str → Option Value) h tk, Fr h₀ env.locals h (fun y => if y = dm then u y else mapOf stored u m₀ [] y) → News h₀ env.locals h [(D, oD), (cA, a), (cB, b)] → Q .next { s with heap := h, toks := tk }) :
    wpAny (model prog w) A (pyIter (.str xt tx)) (fun it s₂ => TurnsAt prog w A h₀ env (.Name x px) body Q E it s₂) E s := by
  refine turns_text (σ := Obj × Obj) (fun c => [(D, oD), (cA, c.1), (cB, c.2)]) (fun _ => []) stored (fun _ c => (∃ v, c.1.data = .cell v) ∧ ∃ v, c.2.data = .cell v) (oA, oB) dm hh F N (fun _ => rfl) (List.forall_mem_nil _) ⟨⟨va, ha⟩, vb, hb⟩ ?_ ?_
  · rintro ⟨a, b⟩ i n t u h tk own hi hoff ⟨⟨v1, h1⟩, v2, h2⟩ F' N'
    exact turn a b v1 v2 i n t u h tk own h1 h2 hi hoff F' N'
  · rintro ⟨a, b⟩ u h tk _ F' N'
    exact done a b u h tk F' N'
theorem TEnd_cells {h₀ h' : Heap} {L D cA cB : Addr} {oD a b : Obj} {va vb : Option Value} {stored : List Str} {dm : Str} {m₀ m' : Str → Option Value} {own : List (Addr × Obj)} {s₁ : Shared} {tk : Nat} (pre : List (Addr × Obj))
    (F : Fr h₀ L h' m') (N : News h₀ L h' (pre ++ ((D, oD) :: (cA, a) :: (cB, b) :: own))) (ha : a.data = .cell va) (hb : b.data = .cell vb)
    (hr : ∀ z, z ≠ dm → (∀ p ∈ ([] : List (Str × Value)), z ≠ p.1) → stored.contains z = false → m' z = m₀ z) :
    TEnd (σ := Obj × Obj) h₀ L (fun c => [(D, oD), (cA, c.1), (cB, c.2)]) (fun _ => []) dm stored m₀ (fun c => (∃ v, c.1.data = .cell v) ∧ ∃ v, c.2.data = .cell v) own [D, cA, cB] s₁ { s₁ with heap := h', toks := tk } := by
  refine ⟨(a, b), h', tk, m', _, rfl, F, N, ?_, ?_, rfl, List.forall_mem_nil _, hr, ⟨va, ha⟩, vb, hb⟩
  · intro p hp
    refine List.mem_append.mpr (.inr ?_)
    simp only [List.mem_cons, List.not_mem_nil, or_false] at hp ⊢
    rcases hp with h | h | h <;> simp [h]
  · intro p hp
    exact List.mem_append.mpr (.inr (List.Mem.tail _ (List.Mem.tail _ (List.Mem.tail _ hp))))
theorem in_word (wd : List Nat) (c : Nat) : (Builtin.Str.occurrences (S wd) ⟨#[c]⟩ 0 (S wd).length 1).isEmpty = !(wd.contains c) := by
  have h := StrLaws.found_one (S wd) c
  have e : decide (c ∈ (S wd).cps.toList) = wd.contains c := by simp
  rw [e] at h
  rw [← h]
  simp
end Mine
end

section -- Pu
open PySem PySem.W PyProof.Rows
namespace Mine
def apartL (n : Nat) (l1 l2 : List Nat) : List (List Nat) := (wordsL (n / 2 + 1)).filter fun w => decide (w.Sublist l1) != decide (w.Sublist l2)
def toldL (n c m : Nat) (l1 l2 : List Nat) : List (List Nat) := (apartL n l1 l2).filter fun w => !(w.contains c) && decide (w.length ≤ m / 2 + 1)

theorem mem_run {k i a : Nat} (ha : a ∈ letters) (h1 : 1 ≤ i) (hk : i ≤ k) : List.replicate i a ∈ wordsL k := by
  refine List.mem_flatMap.mpr ⟨a, ha, List.mem_flatMap.mpr ⟨i - 1, List.mem_range.mpr (by omega), ?_⟩⟩
  rw [show i - 1 + 1 = i by omega]
  exact List.Mem.head _
theorem mem_runs {k i j a b : Nat} (ha : a ∈ letters) (hb : b ∈ letters) (hab : a ≠ b) (h1 : 1 ≤ i) (h2 : 1 ≤ j) (hk : i + j ≤ k) : List.replicate i a ++ List.replicate j b ∈ wordsL k := by
  refine List.mem_flatMap.mpr ⟨a, ha, List.mem_flatMap.mpr ⟨i - 1, List.mem_range.mpr (by omega), ?_⟩⟩
  rw [show i - 1 + 1 = i by omega]
  refine List.Mem.tail _ (List.mem_flatMap.mpr ⟨b, List.mem_filter.mpr ⟨hb, by simpa using fun h => hab h.symm⟩, List.mem_map.mpr ⟨j - 1, List.mem_range.mpr (by omega), ?_⟩⟩)
  rw [show j - 1 + 1 = j by omega]

theorem two_counts {a b : Nat} (hab : a ≠ b) : ∀ l : List Nat, l.count a + l.count b ≤ l.length
  | [] => by simp
  | x :: r => by
    have ih := two_counts hab r
    simp only [List.count_cons, List.length_cons]
    by_cases h1 : x = a
    · have h2 : ¬ x = b := fun h => hab (h1.symm.trans h)
      simp [h1, hab]
      omega
    · by_cases h2 : x = b
      · simp [h2, Ne.symm hab]
        omega
      · simp [h1, h2]
        omega
theorem all_counts : ∀ l : List Nat, (∀ x ∈ l, x ∈ letters) → l.count 97 + l.count 98 + l.count 99 = l.length
  | [], _ => by simp
  | x :: r, h => by
    have ih := all_counts r fun y hy => h y (List.Mem.tail _ hy)
    have hx := h x (List.Mem.head _)
    simp only [letters, List.mem_cons, List.not_mem_nil, or_false] at hx
    simp only [List.count_cons, List.length_cons]
    rcases hx with rfl | rfl | rfl <;> simp <;> omega

theorem split_ne : ∀ {u v : List Nat}, u.length = v.length → u ≠ v → ∃ p a b s t, u = p ++ a :: s ∧ v = p ++ b :: t ∧ a ≠ b
  | [], [], _, h => absurd rfl h
  | [], _ :: _, h, _ => by simp at h
  | _ :: _, [], h, _ => by simp at h
  | x :: r, y :: q, hl, hne => by
    by_cases h : x = y
    · subst h
      obtain ⟨p, a, b, s, t, rfl, rfl, hab⟩ := split_ne (u := r) (v := q) (by simpa using hl) fun e => hne (by rw [e])
      exact ⟨x :: p, a, b, s, t, rfl, rfl, hab⟩
    · exact ⟨[], x, y, r, q, rfl, rfl, h⟩

theorem fit_one (p s : List Nat) {a b : Nat} : (List.replicate (p.count a + 1) a ++ List.replicate (s.count b) b).Sublist (p ++ a :: s) := by
  refine (sub_cut _ _ _ _ _).mpr ⟨p.length + 1, by simp, ?_, ?_⟩
  · have e : (p ++ a :: s).take (p.length + 1) = p ++ [a] := by
      rw [List.take_append, List.take_of_length_le (by omega)]
      simp
    rw [e]
    simp
  · have e : (p ++ a :: s).drop (p.length + 1) = s := by
      rw [List.drop_append]
      simp
    rw [e]
    exact Nat.le_refl _
theorem fit_not (p t : List Nat) {a b k : Nat} (hab : a ≠ b) (hk : t.count b < k) : ¬ (List.replicate (p.count a + 1) a ++ List.replicate k b).Sublist (p ++ b :: t) := by
  intro h
  obtain ⟨d, _, h1, h2⟩ := (sub_cut _ _ _ _ _).mp h
  by_cases hd : d ≤ p.length + 1
  · have hs : ((p ++ b :: t).take d).Sublist (p ++ [b]) := by
      have e : (p ++ [b]) = (p ++ b :: t).take (p.length + 1) := by rw [List.take_append, List.take_of_length_le (by omega)]; simp
      rw [e]
      exact List.take_sublist_take_left hd
    have := hs.count_le a
    rw [List.count_append, List.count_singleton] at this
    have hba : (b == a) = false := by simpa using fun h => hab h.symm
    rw [hba] at this
    simp at this
    omega
  · obtain ⟨e, rfl⟩ : ∃ e, d = p.length + 1 + e := ⟨d - (p.length + 1), by omega⟩
    have e1 : (p ++ b :: t).drop (p.length + 1 + e) = t.drop e := by
      rw [List.drop_append]
      have : p.length + 1 + e - p.length = e + 1 := by omega
      rw [List.drop_of_length_le (by omega), this]
      simp
    rw [e1] at h2
    have := (List.drop_sublist e t).count_le b
    omega

theorem run_iff (i a : Nat) (l : List Nat) : (List.replicate i a).Sublist l ↔ i ≤ l.count a := List.replicate_sublist_iff

theorem main_eq {u v : List Nat} {n : Nat} (hu : u.length = n) (hv : v.length = n) (mu : ∀ x ∈ u, x ∈ letters) (mv : ∀ x ∈ v, x ∈ letters)
    (A1 : ∀ a ∈ letters, ∀ i, 1 ≤ i → i ≤ n / 2 + 1 → ((List.replicate i a).Sublist u ↔ (List.replicate i a).Sublist v))
    (A2 : ∀ a ∈ letters, ∀ b ∈ letters, a ≠ b → ∀ i j, 1 ≤ i → 1 ≤ j → i + j ≤ n / 2 + 1 → ((List.replicate i a ++ List.replicate j b).Sublist u ↔ (List.replicate i a ++ List.replicate j b).Sublist v)) : u = v := by
  have one : ∀ a ∈ letters, u.count a = v.count a ∨ (n / 2 + 1 ≤ u.count a ∧ n / 2 + 1 ≤ v.count a) := by
    intro a ha
    by_cases h1 : n / 2 + 1 ≤ u.count a
    · have := (A1 a ha (n / 2 + 1) (by omega) (Nat.le_refl _)).mp ((run_iff _ _ _).mpr h1)
      exact .inr ⟨h1, (run_iff _ _ _).mp this⟩
    · by_cases h2 : n / 2 + 1 ≤ v.count a
      · have := (A1 a ha (n / 2 + 1) (by omega) (Nat.le_refl _)).mpr ((run_iff _ _ _).mpr h2)
        exact absurd ((run_iff _ _ _).mp this) h1
      · left
        have h3 : u.count a ≤ v.count a := by
          rcases Nat.eq_zero_or_pos (u.count a) with h | h
          · omega
          · exact (run_iff _ _ _).mp ((A1 a ha (u.count a) h (by omega)).mp ((run_iff _ _ _).mpr (Nat.le_refl _)))
        have h4 : v.count a ≤ u.count a := by
          rcases Nat.eq_zero_or_pos (v.count a) with h | h
          · omega
          · exact (run_iff _ _ _).mp ((A1 a ha (v.count a) h (by omega)).mpr ((run_iff _ _ _).mpr (Nat.le_refl _)))
        omega
  have su := all_counts u mu
  have sv := all_counts v mv
  have cnt : ∀ a ∈ letters, u.count a = v.count a := by
    have o1 := one 97 (by decide)
    have o2 := one 98 (by decide)
    have o3 := one 99 (by decide)
    intro a ha
    simp only [letters, List.mem_cons, List.not_mem_nil, or_false] at ha
    rcases ha with rfl | rfl | rfl <;> omega
  apply Classical.byContradiction
  intro hne
  obtain ⟨p, a, b, s, t, rfl, rfl, hab⟩ := split_ne (hu.trans hv.symm) hne
  have ha : a ∈ letters := mu a (by simp)
  have hb : b ∈ letters := mv b (by simp)
  have ca := cnt a ha
  have cb := cnt b hb
  have hba : (b == a) = false := by simpa using fun h => hab h.symm
  have hab' : (a == b) = false := by simpa using hab
  simp only [List.count_append, List.count_cons, hba, hab', beq_self_eq_true, if_true, Bool.false_eq_true, if_false, Nat.add_zero] at ca cb
  have tp := two_counts hab p
  have ts := two_counts hab s
  simp at hu hv
  by_cases hlen : p.count a + 1 + s.count b ≤ n / 2 + 1
  · have h := (A2 a ha b hb hab (p.count a + 1) (s.count b) (by omega) (by omega) hlen).mp (fit_one p s)
    exact fit_not p t hab (by omega) h
  · have h := (A2 b hb a ha (Ne.symm hab) (p.count b + 1) (t.count a) (by omega) (by omega) (by omega)).mpr (fit_one p t)
    exact fit_not p s (Ne.symm hab) (by omega) h

theorem S_beq (l1 l2 : List Nat) : (S l1 == S l2) = decide (l1 = l2) := by
  by_cases h : l1 = l2
  · subst h
    simp
  · rw [decide_eq_false h]
    apply Bool.eq_false_iff.mpr
    intro e
    have := eq_of_beq e
    exact h (by simpa [S] using this)

theorem text_eq {n : Nat} {l1 l2 : List Nat} (h1 : l1.length = n) (h2 : l2.length = n) (m1 : ∀ c ∈ l1, c ∈ letters) (m2 : ∀ c ∈ l2, c ∈ letters) :
    (S l1 == S l2) = decide (List.map S (apartL n l1 l2) = []) := by
  rw [S_beq, decide_eq_decide]
  constructor
  · rintro rfl
    simp [apartL]
  · intro h
    have hn : apartL n l1 l2 = [] := List.map_eq_nil_iff.mp h
    have agree : ∀ w ∈ wordsL (n / 2 + 1), (w.Sublist l1 ↔ w.Sublist l2) := by
      intro w hw
      have := List.filter_eq_nil_iff.mp hn w hw
      simpa using this
    exact main_eq h1 h2 m1 m2 (fun a ha i hi hk => agree _ (mem_run ha hi hk)) fun a ha b hb hab i j hi hj hk => agree _ (mem_runs ha hb hab hi hj hk)

theorem sub_filter {w l : List Nat} {c : Nat} (hc : c ∉ w) : w.Sublist l ↔ w.Sublist (l.filter (· != c)) := by
  constructor
  · intro h
    have := h.filter (· != c)
    rwa [List.filter_eq_self.mpr fun x hx => by simp; rintro rfl; exact hc hx] at this
  · exact fun h => h.trans List.filter_sublist
theorem no_filter {w l : List Nat} {c : Nat} (hc : c ∈ w) : ¬ w.Sublist (l.filter (· != c)) := fun h => by
  have := List.mem_filter.mp (h.subset hc)
  simp at this

theorem part_eq {n c : Nat} {l1 l2 : List Nat} (h1 : l1.length = n) (h2 : l2.length = n) (m1 : ∀ c ∈ l1, c ∈ letters) (m2 : ∀ c ∈ l2, c ∈ letters) (hc : c ∈ letters)
    (he : (l1.filter (· != c)).length = (l2.filter (· != c)).length) :
    (S (l1.filter (· != c)) == S (l2.filter (· != c))) = decide (List.map S (toldL n c (l1.filter (· != c)).length l1 l2) = []) := by
  rw [S_beq, decide_eq_decide]
  have hm : (l1.filter (· != c)).length ≤ n := by rw [← h1]; exact List.length_filter_le _ _
  constructor
  · intro e
    rw [List.map_eq_nil_iff]
    refine List.filter_eq_nil_iff.mpr fun w hw hq => ?_
    have hq' : c ∉ w := by
      simp at hq
      exact hq.1
    have hw' := (List.mem_filter.mp hw).2
    have hs : w.Sublist l1 ↔ w.Sublist l2 := by rw [sub_filter hq', sub_filter (l := l2) hq', e]
    have hd : decide (w.Sublist l1) = decide (w.Sublist l2) := decide_eq_decide.mpr hs
    simp [hd] at hw'
  · intro h
    have hn : toldL n c (l1.filter (· != c)).length l1 l2 = [] := List.map_eq_nil_iff.mp h
    have agree : ∀ w ∈ wordsL (n / 2 + 1), w.length ≤ (l1.filter (· != c)).length / 2 + 1 → (w.Sublist (l1.filter (· != c)) ↔ w.Sublist (l2.filter (· != c))) := by
      intro w hw hl
      by_cases hcw : c ∈ w
      · exact ⟨fun h => absurd h (no_filter hcw), fun h => absurd h (no_filter hcw)⟩
      · rw [← sub_filter hcw, ← sub_filter hcw]
        apply Classical.byContradiction
        intro hne
        have hmem : w ∈ apartL n l1 l2 := List.mem_filter.mpr ⟨hw, by simpa using fun h => hne h⟩
        have := List.filter_eq_nil_iff.mp hn w hmem
        apply this
        simp [hcw, hl]
    have ml : ∀ l : List Nat, (∀ x ∈ l, x ∈ letters) → ∀ x ∈ l.filter (· != c), x ∈ letters := fun l hl x hx => hl x (List.mem_filter.mp hx).1
    exact main_eq rfl he.symm (ml l1 m1) (ml l2 m2) (fun a ha i hi hk => agree _ (mem_run ha hi (by omega)) (by simpa using hk))
      fun a ha b hb hab i j hi hj hk => agree _ (mem_runs ha hb hab hi hj (by omega)) (by simpa using hk)
end Mine
end

section -- Pl
open PySem PySem.W PyProof.Rows
namespace Mine
def plainL (n : Nat) : List Nat := (List.replicate (n / 2) [97, 98]).flatten ++ List.replicate (n % 2) 97
def turnedL (n : Nat) : List Nat := (List.replicate (n / 2 - 1) [97, 98]).flatten ++ [98, 97] ++ List.replicate (n % 2) 97
theorem plain_all : ∀ n ∈ [2, 3, 4, 5, 6, 7], Txt.mul (Str.ofString "ab") ((n / 2 : Nat) : Int) ++ Txt.mul (Str.ofString "a") ((n % 2 : Nat) : Int) = S (plainL n) ∧
    Txt.mul (Str.ofString "ab") (((n / 2 : Nat) : Int) - 1) ++ Str.ofString "ba" ++ Txt.mul (Str.ofString "a") ((n % 2 : Nat) : Int) = S (turnedL n) ∧
    (S (plainL n)).length ≤ 100 ∧ (S (turnedL n)).length ≤ 100 ∧ ∀ w ∈ wordsL (n / 2), w.contains 99 = true ∨ (decide (w.Sublist (plainL n)) = true ∧ decide (w.Sublist (turnedL n)) = true) := by decide +kernel
theorem mod_eq (n : Nat) : (n : Int).fmod 2 = ((n % 2 : Nat) : Int) := by
  rw [Int.fmod_eq_emod_of_nonneg _ (by omega)]
  omega
theorem mul_len (x : Str) (k : Int) : (Txt.mul x k).length ≤ x.length * k.toNat := by
  unfold Txt.mul
  split
  · simp [PySem.Str.empty, PySem.Str.length]
  · rename_i h
    split
    · have : 1 ≤ k.toNat := by omega
      exact Nat.le_mul_of_pos_right _ this
    · have key : ∀ (n : Nat) (acc : Array Nat), ((List.replicate n x.cps).foldl (· ++ ·) acc).size = acc.size + n * x.cps.size := by
        intro n
        induction n with
        | zero => intro acc; simp
        | succ n ih => intro acc; rw [List.replicate_succ, List.foldl_cons, ih]; simp [Nat.succ_mul]; omega
      show ((List.replicate k.toNat x.cps).foldl (· ++ ·) #[]).size ≤ x.cps.size * k.toNat
      rw [key]
      simp [Nat.mul_comm]
theorem mul_z {prog : Program} {w : World} {A : Around} {E : Value → Shared → Prop} {s : Shared} {x : Str} {k : Int} {t u : Tok} {Q : Value → Shared → Prop} (hx : x.length ≤ 2) (hk : k ≤ 10) (hk0 : -10 ≤ k)
    (h : ∀ z t' n, z = Txt.mul x k → z.length ≤ 20 → Q (.str z t') { s with toks := n }) : wpAny (model prog w) A (binaryOp .Mult (.str x t) (.int k u)) Q E s := by
  refine SB.mul (mulOk_of 16 1048576 (by omega) (by omega) (by omega) (by decide) (by decide)) fun t' n => h _ t' n rfl ?_
  have h1 := mul_len x k
  have h2 : x.length * k.toNat ≤ 2 * 10 := Nat.mul_le_mul hx (by omega)
  omega
end Mine
end

section -- L1
open PySem PySem.W PyProof.Rows
namespace Mine
theorem ConL.use {d : Nat} {f : Addr} {news : List (Addr × Obj)} {vs : List Value} {ws : List Str} (c : ConL d f news vs ws) {w : World} {mean : ExcName → Option Value} {mg mb : Str → Option Value}
    {dp un : Nat} {gd : Option (List Code)} {cn : Str} {cs : Scope} {a : Addr} {ccd : Value} {cl : List (Str × Addr)} {outer : List Env} {A₀ : Around} {base h₀ : Heap} {L : Addr} {m : Str → Option Value} {s : Shared} {Q E : Value → Shared → Prop}
    (B : Below A₀ base outer h₀) (F : Fr h₀ L s.heap m) (X : (hd.heap_39 w.params).In h₀) (N : News h₀ L s.heap news) (T : Top hd.view_39 (looseW hd.view_39 []) mean mg mb h₀) (hk : cs.kind = .function) (hd : dp + d < recursionLimit) (hu : un + 8 * d < cLine)
    (ret : ∀ (D : Addr) (us : List Value) (n : Nat) (h' : Heap) (tk' : Nat), (∀ p ∈ news, p.1 < D) → StrsAre us ws → Fr h₀ L h' m → News h₀ L h' ((D, listOf us.toArray n) :: news) → Q (.ref D) { s with heap := h', toks := tk' }) :
    wpAny (model PySem.Challenge.rw_nb0056_01.row.prog w) (ktrTop dp un gd cn cs L a ccd cl outer) (call (.ref f) vs) Q E s :=
  c w mean mg mb dp un gd cn cs a ccd cl outer A₀ base h₀ L m s Q E B F X N T hk hd hu ret
local macro_rules | `(tactic| kst_same) => `(tactic| (intro z h1 h2 h3; (try dsimp only at h2); (try dsimp only); (repeat (first | exact mapOf_off (names_of h2 rfl) h3 | ((with_reducible refine (mapOf_off (List.forall_mem_nil _) (sub_contains ?_ h3)).trans ?_); (· decide +kernel)) | (with_reducible refine (if_neg h1).trans ?_) | ((with_reducible refine (if_neg (ne_ps h2 ?_)).trans ?_); (· k_mem)) | ((with_reducible refine (if_neg (ne_stored h3 ?_)).trans ?_); (· k_mem)))); done))
local macro_rules | `(tactic| walk_at "CompSrc") => `(tactic| (k_here; k_dflt (refine LCg.CompSrc.ledger (by rfl) (by k_asm) (by k_asm) (by k_mem) (by kcf_size) ?_; intro g'; (refine' kct_list (fun k => Txt.item (Str.ofString "abc") (Int.fmod k 3)) (by first | assumption | l_ints) (fun k' t' I' oI' C' oC' D' m' ys' h' tk' E' hk' hC' hx' F' N' off' ne' hMark' => ?_) ?_); (all_goals (try (simp only [LCg.Off3, and_true] at off'))); (all_goals (try k_fold)))))
local macro_rules | `(tactic| walk_at "pyIter ref") => `(tactic| (k_here; refine halt_out ?_))
local macro_rules | `(tactic| walk_at "pyIter str") => `(tactic| (k_here; refine halt_out ?_))
local macro_rules | `(tactic| walk_at "call ref") => `(tactic| (k_here; (with_reducible show wpAny _ _ (call (Value.ref 49) _) _ _ _); refine halt_out ?_))
local macro_rules | `(tactic| walk_at "call ref") => `(tactic| (k_here; (with_reducible show wpAny _ _ (call (Value.ref 35) _) _ _ _); k_dflt (refine' Con.use (fitsS _ _ _ _ _ ?f1 ?f2 ?f3) ?B ?F ?X ?N ?T ?hk ?hd ?hu ?_; (case F => k_asm); (case B => k_asm); (case X => k_asm); (case N => k_asm); (case T => k_asm); (case hk => rfl); (case hd => ktr_room); (case hu => ktr_units); (case f1 => assumption); (case f2 => omega); (case f3 => omega)); intro t9 h9 tk9 F9 N9; (try dsimp only); (try k_sweep)))
local macro_rules | `(tactic| walk_at "call ref") => `(tactic| (k_here; (with_reducible show wpAny _ _ (call (Value.ref 42) _) _ _ _); k_dflt (refine' Con.use (dueS _ _ _ _ _ ?f1 ?f2 ?f3 ?f4) ?B ?F ?X ?N ?T ?hk ?hd ?hu ?_; (case F => k_asm); (case B => k_asm); (case X => k_asm); (case N => k_asm); (case T => k_asm); (case hk => rfl); (case hd => ktr_room); (case hu => ktr_units); (case f1 => assumption); (case f2 => omega); (case f3 => omega); (case f4 => omega)); intro t9 h9 tk9 F9 N9; (try dsimp only); (try k_sweep)))
local macro_rules | `(tactic| walk_at "call ref") => `(tactic| (k_here; (with_reducible show wpAny _ _ (call (Value.ref 28) _) _ _ _); k_dflt (refine' Con.use (replS _ _ _ _ _ _ ?f1) ?B ?F ?X ?N ?T ?hk ?hd ?hu ?_; (case F => k_asm); (case B => k_asm); (case X => k_asm); (case N => k_asm); (case T => k_asm); (case hk => rfl); (case hd => ktr_room); (case hu => ktr_units); (case f1 => omega)); intro t9 h9 tk9 F9 N9; (try dsimp only); (try k_sweep)))
local macro_rules | `(tactic| walk_at "compareOp NotEq bool bool") => `(tactic| (k_here; k_dflt (refine ne_same (by with_reducible first | rfl | assumption) ?_)))
local macro_rules | `(tactic| walk_at "exec For Name Constant cons nil") => `(tactic| (k_here; (rename Fr _ _ _ _ => lF'); (with_unfolding_all refine For_turns lF' ?_)))
local macro_rules | `(tactic| walk_at "CompSrcT") => `(tactic| (k_here; refine Stop.out ?_))
local macro_rules | `(tactic| walk_at "binaryOp Mult str int") => `(tactic| (k_here; k_dflt (refine mul_z (by decide) (by omega) (by omega) ?_); intro mz9 mt9 mk9 me9 ml9; (try dsimp only)))
local macro_rules | `(tactic| walk_at "compareOp Eq ref ref") => `(tactic| (k_here; refine halt_out ?_))
local macro_rules | `(tactic| walk_at "pyIter") => `(tactic| (k_here; refine halt_out ?_))
local macro_rules | `(tactic| walk_at "call builtin:list.append") => `(tactic| (k_here; refine halt_out ?_))
local macro_rules | `(tactic| walk_at "call builtin:str.join") => `(tactic| (k_here; refine halt_out ?_))
local macro_rules | `(tactic| walk_at "subscriptTail BinOp") => `(tactic| (k_here; k_dflt (refine kba_turn (value' := PySem.Expr.Name (PySem.Str.ofString "_") ⟨0, 0, 0, 0⟩) (fun _ => rfl) ?_)))
local macro_rules | `(tactic| walk_at "subscriptTail Name Name ref int") => `(tactic| (k_here; k_dflt (first | (refine get_num (by k_asm) (by k_mem) (by assumption) (by omega) (by omega) (by omega) ?_; intro gx9 gt9) | (refine get_str (by k_asm) (by k_mem) (by assumption) (by assumption) (by omega) (by omega) (by omega) ?_; intro gc9 gt9 gm9))))
local macro_rules | `(tactic| walk_at "subscriptTail Name BinOp ref int") => `(tactic| (k_here; k_dflt (refine get_str (by k_asm) (by k_mem) (by assumption) (by assumption) (by omega) (by omega) (by omega) ?_; intro gc9 gt9 gm9)))
local macro_rules | `(tactic| walk_at "setItem ref int") => `(tactic| (k_here; refine halt_out ?_))
set_option maxRecDepth 100000 in
set_option maxHeartbeats 8000000 in
theorem holds : PySem.Challenge.rw_nb0056_01.Holds := hd (by
  k_go0; (all_goals try k_fold)
  k_steps
  unfold halt
  rename CarriedAll _ _ => hcar
  have hss := CarriedAll.strsOf hcar
  rename IntsAre _ (List.take 7 (_ ++ [1, 5])) => hnum
  rename List Int => script
  have hn7 : (List.take 7 (List.take 7 script ++ [1, 5])).length ≤ 7 := by simp; omega
  have hn2 : 2 ≤ (List.take 7 (List.take 7 script ++ [1, 5])).length := by simp; omega
  generalize hns : List.take 7 (List.take 7 script ++ [1, 5]) = nums at *
  (rename News _ _ _ _ => lN')
  refine join_call (News.isList lN' (List.Mem.head _)) hss (letters_map nums) (by simpa using hn7) ?_
  intro l1 jt jk hl1 hm1
  (try dsimp only)
  rw [List.length_map] at hl1
  k_steps
  unfold halt
  (rename Fr _ _ _ _ => lF'); (rename News _ _ _ _ => lN')
  rename List Value => ys
  replace lN' := pick7 lN'
  rename _ ≠ _ ∧ _ => o1
  have off0 := off_three lN' o1
  refine loop_range1 (σ := List Value × Nat × List Str) (n := nums.length) (fun c => listOf c.1.toArray c.2.1) (fun _ => []) [Str.ofString "held"]
    (fun i c => StrsAre c.1 c.2.2 ∧ c.2.2.length = nums.length ∧ Letters c.2.2) (ys, ys.length, nums.map fun k => Txt.item (Str.ofString "abc") (Int.fmod k 3)) rfl (by assumption) (small_one (by omega) (by omega) (by omega) (by omega)) (by rw [rangeSize_nat]; omega) lF' lN' (List.forall_mem_nil _) ?hp ?turn ?done
  case hp => exact ⟨hss, by simp, letters_map nums⟩
  case turn =>
    rintro ⟨us, ne, ss⟩ i ti u h tk own hi hoff ⟨hP, hP2, hP3⟩ F' N'
    dsimp only at hP hP2 hP3 N' F'
    clear lF' lN'
    --[A
    have off1 := off_app off0 hoff
    k_steps
    · unfold halt
      obtain ⟨c, hc, e⟩ := item_letter (_ + 1)
      (rename Fr _ _ _ _ => eF); (rename News _ _ _ _ => eN)
      rw [e]
      refine set_str eF eN off1 hP hP3 hc (by omega) (by omega) (by omega) ?_
      intro h8 us8 ss8 hs8 hl8 hL8 F8 N8
      clear eF eN
      k_steps
      dsimp only [TPost]
      refine TEnd.intro (us8, ne, ss8) F8 N8 ?_ ?_ rfl (List.forall_mem_nil _) (by kst_same) ⟨hs8, by rw [← hP2]; exact hl8, hL8⟩
      · exact fun p hp => List.mem_append.mpr (.inl hp)
      · exact fun p hp => List.Mem.tail _ (List.mem_append.mpr (.inr hp))
    · unfold halt
      (rename Fr _ _ _ _ => eF); (rename News _ _ _ _ => eN)
      refine set_str eF eN off1 hP hP3 (by assumption) (by omega) (by omega) (by omega) ?_
      intro h8 us8 ss8 hs8 hl8 hL8 F8 N8
      clear eF eN
      k_steps
      unfold halt
      (rename Fr _ _ _ _ => eF); (rename News _ _ _ _ => eN)
      refine set_str eF eN off1 hs8 hL8 (by assumption) (by omega) (by omega) (by omega) ?_
      intro h9 us9 ss9 hs9 hl9 hL9 F9 N9
      clear eF eN
      k_steps
      dsimp only [TPost]
      refine TEnd.intro (us9, ne, ss9) F9 N9 ?_ ?_ rfl (List.forall_mem_nil _) (by kst_same) ⟨hs9, by show ss9.length = nums.length; omega, hL9⟩
      · exact fun p hp => List.mem_append.mpr (.inl hp)
      · exact fun p hp => List.Mem.tail _ (List.mem_append.mpr (.inr hp))
    · dsimp only [TPost]
      refine TEnd.intro (us, ne, ss) F' N' ?_ ?_ rfl (List.forall_mem_nil _) (by kst_same) ⟨hP, hP2, hP3⟩
      · exact fun p hp => List.mem_append.mpr (.inl hp)
      · exact fun p hp => List.mem_append.mpr (.inr hp)
    --A]
  case done =>
    rintro ⟨us, ne, ss⟩ u h tk ⟨hP, hP2, hP3⟩ F' N'
    dsimp only at hP hP2 hP3 N' F'
    clear lF' lN' hss hcar
    k_steps
    unfold halt
    (rename News _ _ _ _ => lN')
    refine join_call (News.isList lN' (List.Mem.head _)) hP hP3 (by omega) ?_
    intro l2 jt2 jk2 hl2 hm2
    (try dsimp only)
    rw [hP2] at hl2
    have hb1 : (S l1).length = nums.length := by rw [← hl1]; simp [PySem.Str.length]
    have hb2 : (S l2).length = nums.length := by rw [← hl2]; simp [PySem.Str.length]
    k_steps
    unfold halt
    rw [show ((S l1).length : Int).fdiv 2 + 1 = ((nums.length / 2 + 1 : Nat) : Int) from by rw [hb1, half_eq]; rfl]
    refine' ConL.use (words _ (nums.length / 2 + 1) _ (by omega)) ?wB ?wF ?wX ?wN ?wT ?wk ?wd ?wu ?wret
    case wF => k_asm
    case wB => k_asm
    case wX => k_asm
    case wN => k_asm
    case wT => k_asm
    case wk => rfl
    case wd => ktr_room
    case wu => ktr_units
    case wret =>
    intro Dw uw nw hw tkw lw hsw Fw Nw
    (try dsimp only)
    k_steps
    unfold halt
    (rename Fr _ _ _ _ => lF'); (rename News _ _ _ _ => lN')
    rename _ < _ ∧ _ < _ ∧ _ < _ ∧ _ < _ => o2
    replace lN' := pick6 lN'
    have off2 := off_words lN' (lw _ (List.Mem.head _)) o2.2.2.1 o2.2.2.2
    refine loop_vals1 (σ := List Value × Nat) (fun c => listOf c.1.toArray c.2) (fun _ => []) [Str.ofString "fits"]
      (fun i c => StrsAre c.1 ((((wordsL (nums.length / 2 + 1)).take i).filter fun w => decide (w.Sublist l1) != decide (w.Sublist l2)).map S) ∧ c.1.length ≤ i) ([], 0) rfl (List.Mem.head _) lF' lN' (List.forall_mem_nil _) ?hp3 ?turn3 ?done3
    case hp3 => exact ⟨StrsAre.nil, Nat.le_refl 0⟩
    case turn3 =>
      rintro ⟨ua, na⟩ i v u h tk own hi hoff ⟨hP, hPl⟩ F' N'
      dsimp only at hP hPl N' F'
      clear lF' lN'
      --[B
      obtain ⟨z, tz, rfl, hz⟩ := hsw.item i v hi
      rw [List.getElem?_map] at hz
      obtain ⟨wd, hwd, rfl⟩ := Option.map_eq_some_iff.mp hz
      have hmem : wd ∈ wordsL 4 := words_sub _ (by omega) wd (List.mem_of_getElem? hwd)
      obtain ⟨_, _, _, hw1, hw4⟩ := word_facts wd hmem
      have hwl : (S wd).length = wd.length := by simp [PySem.Str.length]
      have hi48 : i < 48 := by
        have h1 := (List.getElem?_eq_some_iff.mp hwd).1
        have h2 : ∀ k ∈ List.range 5, (wordsL k).length ≤ 48 := by decide +kernel
        have h3 := h2 (nums.length / 2 + 1) (List.mem_range.mpr (by omega))
        omega
      have off3 := off_app off2 hoff
      k_steps
      · unfold halt
        rename (decide (wd.Sublist l1) != decide (wd.Sublist l2)) = true => hne
        (rename Fr _ _ _ _ => eF); (rename News _ _ _ _ => eN)
        refine append_v eF eN off3 (by omega) ?_
        intro h8 v8 hv8 F8 N8
        clear eF eN
        k_steps
        dsimp only [TPost]
        refine TEnd.intro (ua ++ [v8], na + 1) F8 N8 ?_ ?_ rfl (List.forall_mem_nil _) (by kst_same) ?_
        · exact fun p hp => List.mem_append.mpr (.inl hp)
        · exact fun p hp => List.Mem.tail _ (List.mem_append.mpr (.inr hp))
        · subst hv8
          refine ⟨?_, by simp; omega⟩
          rw [List.take_add_one, hwd, List.filter_append]
          simpa [hne] using snoc_strs hP
      · dsimp only [TPost]
        rename (decide (wd.Sublist l1) != decide (wd.Sublist l2)) = false => hne
        (rename Fr _ _ _ _ => eF); (rename News _ _ _ _ => eN)
        refine TEnd.intro (ua, na) eF eN ?_ ?_ rfl (List.forall_mem_nil _) (by kst_same) ?_
        · exact fun p hp => List.mem_append.mpr (.inl hp)
        · exact fun p hp => List.mem_append.mpr (.inr hp)
        · refine ⟨?_, Nat.le_succ_of_le hPl⟩
          rw [List.take_add_one, hwd, List.filter_append]
          simpa [hne] using hP
      --B]
    case done3 =>
      rintro ⟨ua, na⟩ u h tk ⟨hP, hPl⟩ F' N'
      dsimp only at hP hPl N' F'
      rw [hsw.length, List.length_map, List.take_length] at hP
      rw [hsw.length, List.length_map] at hPl
      have hw48 : (wordsL (nums.length / 2 + 1)).length ≤ 48 := by
        have h2 : ∀ k ∈ List.range 5, (wordsL k).length ≤ 48 := by decide +kernel
        exact h2 (nums.length / 2 + 1) (List.mem_range.mpr (by omega))
      clear lF' lN'
      k_steps
      unfold halt
      (rename News _ _ _ _ => eN)
      refine eq_nil (News.isList eN (List.Mem.tail _ (List.Mem.head _))) (News.isList eN (List.Mem.head _)) (by k_units) ?_
      have hkey := text_eq hl1 hl2 hm1 hm2
      change StrsAre ua (List.map S (apartL nums.length l1 l2)) at hP
      rw [strs_nil hP]
      k_steps
      unfold halt
      (rename Fr _ _ _ _ => lF')
      replace eN := pick5 eN
      refine turns_cells [Str.ofString "right", Str.ofString "told"] (Str.ofString "") rfl lF' eN (by assumption) (by assumption) ?turn4 ?done4
      case turn4 =>
        intro ca cb va vb i c tc u h tk own hca hcb hc hoff F' N'
        --[C
        have hcl : c ∈ letters := by
          have h1 : letters[i]? = some c := hc
          exact List.mem_of_getElem? h1
        clear lF' eN
        have hf1 : (S (List.filter (fun x => x != c) l1)).length = (List.filter (fun x => x != c) l1).length := by simp [PySem.Str.length]
        have hf2 : (S (List.filter (fun x => x != c) l2)).length = (List.filter (fun x => x != c) l2).length := by simp [PySem.Str.length]
        have hg1 : (List.filter (fun x => x != c) l1).length ≤ nums.length := by rw [← hl1]; exact List.length_filter_le _ _
        have hg2 : (List.filter (fun x => x != c) l2).length ≤ nums.length := by rw [← hl2]; exact List.length_filter_le _ _
        k_steps
        · unfold Stop
          rename StrsAre ua _ => hPa
          (rename Fr _ _ _ _ => eF); (rename News _ _ _ _ => eN)
          refine LCt.CompSrcT.ledger rfl eF eN (List.Mem.head _) (by rw [sizeLine_eq]; simp; omega) ?_
          intro g
          refine rest_filter hPa (fun w => !(w.contains c) && decide (w.length ≤ (l1.filter (· != c)).length / 2 + 1)) ?turn5 ?fin5
          case turn5 =>
            intro wd t I oI C oC D m₂ ys h tk E' hwd hC hx F N off ne
            have hmem : wd ∈ wordsL 4 := words_sub _ (by omega) wd (List.mem_filter.mp hwd).1
            obtain ⟨_, _, _, hw1, hw4⟩ := word_facts wd hmem
            have hwl : (S wd).length = wd.length := by simp [PySem.Str.length]
            clear eF eN
            k_steps
            · rename (Builtin.Str.occurrences _ _ _ _ _).isEmpty = true => hoc
              rename _ ≤ Int.fdiv _ 2 + 1 => hle
              rw [in_word] at hoc
              rw [hf1, half_eq, hwl] at hle
              exact LCg.CompEnd.intro F N _ (fun p hp => hp) off (.inr ⟨_, List.Mem.head _, rfl, _, rfl⟩) ⟨rfl, by show (!(wd.contains c) && decide (wd.length ≤ (l1.filter (· != c)).length / 2 + 1)) = true; rw [hoc]; simp; omega, t, rfl⟩
            · rename (Builtin.Str.occurrences _ _ _ _ _).isEmpty = true => hoc
              rename ¬ (_ ≤ Int.fdiv _ 2 + 1) => hle
              rw [hf1, half_eq, hwl] at hle
              refine LCg.CompEnd.intro F N _ (fun p hp => hp) off (.inr ⟨_, List.Mem.head _, rfl, _, rfl⟩) ⟨rfl, ?_⟩
              show (!(wd.contains c) && decide (wd.length ≤ (l1.filter (· != c)).length / 2 + 1)) = false
              rw [decide_eq_false (by omega), Bool.and_false]
            · rename (Builtin.Str.occurrences _ _ _ _ _).isEmpty = false => hoc
              rw [in_word] at hoc
              refine LCg.CompEnd.intro F N _ (fun p hp => hp) off (.inr ⟨_, List.Mem.head _, rfl, _, rfl⟩) ⟨rfl, ?_⟩
              show (!(wd.contains c) && decide (wd.length ≤ (l1.filter (· != c)).length / 2 + 1)) = false
              rw [hoc, Bool.false_and]
          case fin5 =>
            intro ys hys
            rename ((S _).length : Int) = ((S _).length : Int) => hel
            have hkey2 : (S (List.filter (fun x => x != c) l1) == S (List.filter (fun x => x != c) l2)) = decide (List.map S (List.filter (fun w => !w.contains c && decide (w.length ≤ (List.filter (fun x => x != c) l1).length / 2 + 1)) (apartL nums.length l1 l2)) = []) :=
              part_eq hl1 hl2 hm1 hm2 hcl (by omega)
            clear eF eN
            k_steps
            unfold halt
            (rename News _ _ _ _ => eN)
            refine eq_nil (News.isList eN (List.Mem.tail _ (List.Mem.head _))) (News.isList eN (List.Mem.head _)) (by k_units) ?_
            rw [strs_nil hys]
            k_steps
            dsimp only [TPost]
            (rename Fr _ _ _ _ => eF)
            exact TEnd_cells [_, _] eF eN (by assumption) (by assumption) (by kst_same)
        · dsimp only [TPost]
          (rename Fr _ _ _ _ => eF); (rename News _ _ _ _ => eN)
          exact TEnd_cells [] eF eN (by assumption) (by assumption) (by kst_same)
        --C]
      case done4 =>
        intro ca cb u h tk F' N'
        clear lF' eN
        have hfd : ((S l1).length : Int).fdiv 2 = ((nums.length / 2 : Nat) : Int) := by rw [hb1, half_eq]
        have hmd : ((S l1).length : Int).fmod 2 = ((nums.length % 2 : Nat) : Int) := by rw [hb1, mod_eq]
        obtain ⟨ep, et, hp100, ht100, hpt⟩ := plain_all nums.length (by
          have : nums.length = 2 ∨ nums.length = 3 ∨ nums.length = 4 ∨ nums.length = 5 ∨ nums.length = 6 ∨ nums.length = 7 := by omega
          rcases this with h | h | h | h | h | h <;> rw [h] <;> decide)
        k_steps
        unfold halt
        (rename Fr _ _ _ _ => eF); (rename News _ _ _ _ => eN)
        rename _ = Txt.mul (Str.ofString "a") _ => mm
        subst mm
        rename _ = Txt.mul (Str.ofString "a") _ => mm
        subst mm
        rename _ = Txt.mul (Str.ofString "ab") _ => mm
        subst mm
        rename _ = Txt.mul (Str.ofString "ab") _ => mm
        subst mm
        rw [hfd, hmd, ep, et] at eF
        rw [hfd]
        refine' ConL.use (words _ (nums.length / 2) _ (by omega)) ?xB ?xF ?xX ?xN ?xT ?xk ?xd ?xu ?xret
        case xF => exact eF
        case xB => k_asm
        case xX => k_asm
        case xN => exact eN
        case xT => k_asm
        case xk => rfl
        case xd => ktr_room
        case xu => ktr_units
        case xret =>
        intro Dv uv nv hv tkv lv hsv Fv Nv
        (try dsimp only)
        clear eF eN
        k_steps
        unfold halt
        (rename Fr _ _ _ _ => lF'); (rename News _ _ _ _ => lN')
        refine loop_vals (σ := Unit) (fun _ => _) (fun _ => []) [] (fun _ _ => True) () rfl (fun _ => List.Mem.head _) (fun _ => rfl) lF' lN' (List.forall_mem_nil _) trivial ?turn6 ?done6
        case turn6 =>
          rintro _ i v u h tk own hi hoff _ F' N'
          clear lF' lN'
          obtain ⟨z, tz, rfl, hz⟩ := hsv.item i v hi
          rw [List.getElem?_map] at hz
          obtain ⟨wd, hwd, rfl⟩ := Option.map_eq_some_iff.mp hz
          have hwm := List.mem_of_getElem? hwd
          have hmem : wd ∈ wordsL 4 := words_sub _ (by omega) wd hwm
          obtain ⟨_, _, _, hw1, hw4⟩ := word_facts wd hmem
          have hwl : (S wd).length = wd.length := by simp [PySem.Str.length]
          have hin : (Builtin.Str.occurrences (S wd) (Str.ofString "c") 0 (S wd).length 1).isEmpty = !(wd.contains 99) := in_word wd 99
          rcases hpt wd hwm with hct | ⟨hd1, hd2⟩
          · rw [hct] at hin
            k_steps
            all_goals (
              dsimp only [TPost]
              (rename Fr _ _ _ _ => eF); (rename News _ _ _ _ => eN)
              refine TEnd.intro () eF eN ?_ ?_ rfl (List.forall_mem_nil _) (by kst_same) trivial
              · exact fun p hp => List.mem_append.mpr (.inl hp)
              · exact fun p hp => List.mem_append.mpr (.inr hp))
          · clear hin
            k_steps
            all_goals (
              dsimp only [TPost]
              (rename Fr _ _ _ _ => eF); (rename News _ _ _ _ => eN)
              refine TEnd.intro () eF eN ?_ ?_ rfl (List.forall_mem_nil _) (by kst_same) trivial
              · exact fun p hp => List.mem_append.mpr (.inl hp)
              · exact fun p hp => List.mem_append.mpr (.inr hp))
        case done6 =>
          rintro _ u h tk _ F' N'
          clear lF' lN'
          k_steps)
end Mine
end

theorem PySem.Challenge.cw_nb0056_01_holds : PySem.Challenge.rw_nb0056_01.Holds :=
  Mine.holds
