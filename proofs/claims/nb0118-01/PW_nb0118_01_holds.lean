import PyProof.Rows.All
import Wide.All
import OpenK.AllK
import Wide.FinOn
import PySem.Challenge.RW_nb0118_01
open PySem PySem.W PyProof.Rows
set_option Elab.async false
set_option maxRecDepth 100000
-- part Hd
namespace Mine
set_option maxHeartbeats 8000000 in
open_top hd for PySem.Challenge.rw_nb0118_01
end Mine
-- part P1
namespace Mine
def lead (x : Str) : Nat := (x.cps.toList.takeWhile (· == 32)).length
def trail (x : Str) : Nat := (x.cps.toList.reverse.takeWhile (· == 32)).length
def stripPad (x : Str) (a : Int) : Str := Txt.slice x (some (min a (lead x))) (some ((x.length : Int) - min (a - min a (lead x)) (trail x)))

theorem tw_step (p : Nat → Bool) : ∀ (l : List Nat) (i c : Nat), i ≤ (l.takeWhile p).length → l[i]? = some c → p c = true → i + 1 ≤ (l.takeWhile p).length
  | [], i, c, _, h, _ => by simp at h
  | a :: r, 0, c, _, h, hp => by
    simp at h; subst h; simp [List.takeWhile_cons, hp]
  | a :: r, i + 1, c, hi, h, hp => by
    simp only [List.getElem?_cons_succ] at h
    rw [List.takeWhile_cons] at hi ⊢
    split at hi
    · rename_i ha
      simp only [ha, if_true, List.length_cons] at hi ⊢
      have := tw_step p r i c (by omega) h hp
      omega
    · simp at hi
theorem tw_stop (p : Nat → Bool) : ∀ (l : List Nat) (i c : Nat), l[i]? = some c → p c = false → (l.takeWhile p).length ≤ i
  | [], i, c, h, _ => by simp at h
  | a :: r, 0, c, h, hp => by
    simp at h; subst h; simp [List.takeWhile_cons, hp]
  | a :: r, i + 1, c, h, hp => by
    simp only [List.getElem?_cons_succ] at h
    rw [List.takeWhile_cons]
    split
    · have := tw_stop p r i c h hp
      simp only [List.length_cons]; omega
    · simp

theorem item_at {x : Str} {i : Int} (h0 : 0 ≤ i) (h1 : i < x.length) : ∃ c, x.cps.toList[i.toNat]? = some c ∧ Txt.item x i = ⟨#[c]⟩ := by
  obtain ⟨c, hc⟩ := StrLaws.some_at h0 h1
  refine ⟨c, by simpa using hc, ?_⟩
  unfold Txt.item Txt.charAt
  rw [StrLaws.at_nonneg h0 hc]
  rfl
theorem blank_is : Str.ofString " " = ⟨#[32]⟩ := by decide +kernel
theorem item_blank {x : Str} {i : Int} (h0 : 0 ≤ i) (h1 : i < x.length) {b : Bool} (h : (Txt.item x i == Str.ofString " ") = b) :
    ∃ c, x.cps.toList[i.toNat]? = some c ∧ (c == 32) = b := by
  obtain ⟨c, hc, e⟩ := item_at h0 h1
  refine ⟨c, hc, ?_⟩
  rw [e, blank_is] at h
  rw [← h]
  cases hb : (c == 32) with
  | true => simp at hb; subst hb; symm; exact beq_self_eq_true _
  | false =>
    symm
    refine beq_eq_false_iff_ne.mpr fun e => ?_
    have := congrArg (fun s : Str => s.cps.toList) e
    simp at this
    simp [this] at hb
theorem lead_step {x : Str} {i : Int} (h0 : 0 ≤ i) (h1 : i < x.length) (hi : i ≤ lead x) (h : (Txt.item x i == Str.ofString " ") = true) : i + 1 ≤ lead x := by
  obtain ⟨c, hc, hp⟩ := item_blank h0 h1 h
  have := tw_step (· == 32) _ i.toNat c (by unfold lead at hi; omega) hc hp
  unfold lead
  omega
theorem lead_stop {x : Str} {i : Int} (h0 : 0 ≤ i) (h1 : i < x.length) (h : (Txt.item x i == Str.ofString " ") = false) : (lead x : Int) ≤ i := by
  obtain ⟨c, hc, hp⟩ := item_blank h0 h1 h
  have := tw_stop (· == 32) _ i.toNat c hc hp
  unfold lead
  omega
theorem rev_at {l : List Nat} {i c : Nat} (hi : i < l.length) (h : l[i]? = some c) : l.reverse[l.length - 1 - i]? = some c := by
  rw [List.getElem?_reverse (by omega)]
  rw [show l.length - 1 - (l.length - 1 - i) = i by omega]
  exact h
theorem len_list (x : Str) : x.cps.toList.length = x.length := by simp [Str.length]
theorem trail_step {x : Str} {i : Int} (h0 : 0 ≤ i) (h1 : i < x.length) (hi : (x.length : Int) - 1 - i ≤ trail x) (h : (Txt.item x i == Str.ofString " ") = true) : (x.length : Int) - i ≤ trail x := by
  obtain ⟨c, hc, hp⟩ := item_blank h0 h1 h
  have hl := len_list x
  have := tw_step (· == 32) _ (x.cps.toList.length - 1 - i.toNat) c (by unfold trail at hi; omega) (rev_at (by omega) hc) hp
  unfold trail
  omega
theorem trail_stop {x : Str} {i : Int} (h0 : 0 ≤ i) (h1 : i < x.length) (h : (Txt.item x i == Str.ofString " ") = false) : (trail x : Int) ≤ x.length - 1 - i := by
  obtain ⟨c, hc, hp⟩ := item_blank h0 h1 h
  have hl := len_list x
  have := tw_stop (· == 32) _ (x.cps.toList.length - 1 - i.toNat) c (rev_at (by omega) hc) hp
  unfold trail
  omega
theorem strip_end {x : Str} {a i j : Int} (h : i = min a (lead x)) (k : j = (x.length : Int) - min (a - i) (trail x)) : Txt.slice x (some i) (some j) = stripPad x a := by
  subst h; subst k; rfl
end Mine
-- part S1
namespace Mine
abbrev Ct (w : World) (mean : ExcName → Option Value) (mg mb : Str → Option Value) (f : Addr) (news : List (Addr × Obj)) (pre : Prop) (vs : List Value) (R : Tok → Value) : Prop :=
  CbClaim Challenge.rw_nb0118_01.row.prog w (Mine.hd.heap_39 w.params) Mine.hd.view_39 (looseW Mine.hd.view_39 []) mean mg mb f news [] pre vs R
theorem turn1 {x : Str} {a l m : Int} (h0 : 0 ≤ l) (h1 : 0 ≤ m) (h2 : l + m = a) (h3 : l ≤ lead x) (hp : a = 0 ∨ lead x < x.length ∧ trail x < x.length) (hm : m ≠ 0) (h : (Txt.item x l == Str.ofString " ") = true) :
    0 ≤ l + 1 ∧ 0 ≤ m - 1 ∧ l + 1 + (m - 1) = a ∧ l + 1 ≤ lead x := by
  have := lead_step h0 (by omega) h3 h
  omega
theorem turn2 {x : Str} {a a0 r m : Int} (h1 : 0 ≤ m) (h2 : (x.length : Int) - 1 - r + m = a) (h3 : r < x.length) (h4 : (x.length : Int) - 1 - r ≤ trail x) (h5 : a ≤ a0) (hp : a0 = 0 ∨ lead x < x.length ∧ trail x < x.length) (hm : m ≠ 0) (h : (Txt.item x r == Str.ofString " ") = true) :
    0 ≤ m - 1 ∧ (x.length : Int) - 1 - (r - 1) + (m - 1) = a ∧ r - 1 < x.length ∧ (x.length : Int) - 1 - (r - 1) ≤ trail x := by
  have := trail_step (by omega) h3 h4 h
  omega
theorem strip_fin {x : Str} {a i m r m' : Int} (h2 : i + m = a) (g2 : (x.length : Int) - 1 - r + m' = m) (h0 : 0 ≤ i) (h1 : 0 ≤ m) (h3 : i ≤ lead x) (g1 : 0 ≤ m') (g3 : r < x.length) (g4 : (x.length : Int) - 1 - r ≤ trail x)
    (hp : a = 0 ∨ lead x < x.length ∧ trail x < x.length) (e1 : m = 0 ∨ (Txt.item x i == Str.ofString " ") = false) (e2 : m' = 0 ∨ (Txt.item x r == Str.ofString " ") = false) : Txt.slice x (some i) (some (r + 1)) = stripPad x a := by
  have q1 : m = 0 ∨ (lead x : Int) ≤ i := by
    by_cases hm : m = 0
    · exact .inl hm
    · exact .inr (lead_stop h0 (by omega) (e1.resolve_left hm))
  have q2 : m' = 0 ∨ (trail x : Int) ≤ x.length - 1 - r := by
    by_cases hm : m' = 0
    · exact .inl hm
    · exact .inr (trail_stop (by omega) g3 (e2.resolve_left hm))
  exact strip_end (by omega) (by omega)
set_option maxHeartbeats 8000000 in
theorem strip_spec (w : World) (mean : ExcName → Option Value) (mg mb : Str → Option Value) (news : List (Addr × Obj)) (x : Str) (t : Tok) (a : Int) (u : Tok) :
    Ct w mean mg mb 21 news (x.length ≤ 100000 ∧ 0 ≤ a ∧ (a = 0 ∨ lead x < x.length ∧ trail x < x.length)) [.str x t, .int a u] (fun t => .str (stripPad x a) t) := by
  dsimp only [Ct, CbClaim, CbLists, CbRet]
  k_with_none
  w_top off
  k_fill
  intro dp un gd cn cs ad ccd cl outer A₀ base h₀ L m s Q E B F X N T hk hpre hd hu hret
  obtain ⟨hp1, hp2, hp3⟩ := hpre
  k_with "exec While BoolOp cons nil" => k_while_given ["s", "amount!"] (fun x a0 _ lpos amount => 0 ≤ lpos ∧ 0 ≤ amount ∧ lpos + amount = a0 ∧ lpos ≤ lead x) (fun _ _ _ _ amount => amount.toNat) "lpos" "amount"
  k_with "exec While BoolOp cons nil" => k_while_given ["s", "amount!"] (fun x a0 _ rpos amount => 0 ≤ amount ∧ (x.length : Int) - 1 - rpos + amount = a0 ∧ rpos < x.length ∧ (x.length : Int) - 1 - rpos ≤ trail x) (fun _ _ _ _ amount => amount.toNat) "rpos" "amount"
  k_with "state" => first
    | omega
    | exact turn1 (by omega) (by omega) (by omega) (by omega) hp3 (by assumption) (by assumption)
    | exact turn2 (by omega) (by omega) (by omega) (by omega) (by omega) hp3 (by assumption) (by assumption)
  refine wpAny_call ?_
  k_dflt cell_enter
  k_steps
  all_goals refine cb_retS (Q := Q) hret ?_ (by k_asm) (by k_asm)
  all_goals exact strip_fin (by assumption) (by assumption) (by omega) (by omega) (by omega) (by omega) (by omega) (by omega) hp3 (by first | exact .inl (by assumption) | exact .inr (by assumption)) (by first | exact .inl (by assumption) | exact .inr (by assumption))
end Mine
-- part P2
namespace Mine
def flatS (f : Nat → List Nat) (x : Str) : Str := ⟨(x.cps.toList.flatMap f).toArray⟩
def one (k : Nat) : List Nat := [k]
def rep (c z : Str) (j : Nat) : List Nat := if [j] = c.cps.toList then z.cps.toList else [j]
def comp (f : Nat → List Nat) (c z : Str) (k : Nat) : List Nat := (f k).flatMap (rep c z)
theorem flat_one (x : Str) : flatS one x = x := by
  refine Str.ext' ?_
  show (x.cps.toList.flatMap one).toArray = x.cps
  have : x.cps.toList.flatMap one = x.cps.toList := List.flatMap_singleton' _
  rw [this]
theorem flat_list (f : Nat → List Nat) (x : Str) : (flatS f x).cps.toList = x.cps.toList.flatMap f := rfl
theorem flat_comp (f : Nat → List Nat) (c z : Str) (x : Str) : flatS (rep c z) (flatS f x) = flatS (comp f c z) x := by
  unfold flatS comp
  simp only [List.flatMap_assoc]
theorem flatMap_free {c : Nat} {z : Str} : ∀ l : List Nat, c ∉ l → l.flatMap (rep ⟨#[c]⟩ z) = l
  | [], _ => rfl
  | k :: r, h => by
    have h1 : ¬ [k] = [c] := fun e => h (by simp at e; subst e; simp)
    rw [List.flatMap_cons, flatMap_free r fun m => h (List.mem_cons_of_mem _ m)]
    unfold rep
    rw [if_neg h1]
    rfl
theorem flatMap_join {c : Nat} {z : Str} : ∀ parts : List Str, (∀ p ∈ parts, c ∉ p.cps.toList) → (Str.join ⟨#[c]⟩ parts).cps.toList.flatMap (rep ⟨#[c]⟩ z) = (Str.join z parts).cps.toList
  | [], _ => rfl
  | [p], h => flatMap_free _ (h p (List.mem_singleton.mpr rfl))
  | p :: q :: r, h => by
    have ih := flatMap_join (c := c) (z := z) (q :: r) fun a ha => h a (List.mem_cons_of_mem _ ha)
    show (p ++ ⟨#[c]⟩ ++ Str.join ⟨#[c]⟩ (q :: r)).cps.toList.flatMap (rep ⟨#[c]⟩ z) = (p ++ z ++ Str.join z (q :: r)).cps.toList
    simp only [Str.cps_append, Array.toList_append, List.flatMap_append]
    rw [ih, flatMap_free _ (h p List.mem_cons_self)]
    simp [rep]
theorem replace_flat (x z : Str) (c : Nat) : Txt.replace x ⟨#[c]⟩ z = flatS (rep ⟨#[c]⟩ z) x := by
  rw [StrLaws.replace_one]
  have h := flatMap_join (c := c) (z := z) (Txt.split x ⟨#[c]⟩) (StrLaws.split_free x c)
  rw [StrLaws.join_split] at h
  refine Str.ext' ?_
  show _ = (x.cps.toList.flatMap (rep ⟨#[c]⟩ z)).toArray
  rw [h]
theorem replace_comp (f : Nat → List Nat) (x c z : Str) (h1 : c.length = 1) : Txt.replace (flatS f x) c z = flatS (comp f c z) x := by
  obtain ⟨k, hk⟩ : ∃ k, c = ⟨#[k]⟩ := by
    obtain ⟨a⟩ := c
    obtain ⟨k, hk⟩ := Array.size_eq_one_iff.mp h1
    exact ⟨k, Str.ext' hk⟩
  subst hk
  rw [replace_flat, flat_comp]
theorem free_comp (f : Nat → List Nat) (x c z : Str) (h1 : c.length = 1) (h : Txt.contains (flatS f x) c = false) : flatS (comp f c z) x = flatS f x := by
  obtain ⟨k, hk⟩ : ∃ k, c = ⟨#[k]⟩ := by
    obtain ⟨a⟩ := c
    obtain ⟨k, hk⟩ := Array.size_eq_one_iff.mp h1
    exact ⟨k, Str.ext' hk⟩
  subst hk
  unfold Txt.contains at h
  rw [StrLaws.found_one, decide_eq_false_iff_not] at h
  rw [← flat_comp]
  refine Str.ext' ?_
  show ((flatS f x).cps.toList.flatMap _).toArray = _
  rw [flatMap_free _ h]
theorem flat_len {f : Nat → List Nat} {n : Nat} (h : ∀ k, (f k).length ≤ n) (x : Str) : (flatS f x).length ≤ n * x.length := by
  show (x.cps.toList.flatMap f).toArray.size ≤ n * x.length
  rw [List.size_toArray, ← len_list x]
  generalize x.cps.toList = l
  induction l with
  | nil => simp
  | cons a r ih =>
    rw [List.flatMap_cons, List.length_append, List.length_cons, Nat.mul_succ]
    have := h a
    omega

-- the spelling tables
def tab (which : Int) (k : Nat) : List Nat :=
  if k = 38 then [38, 97, 109, 112, 59]
  else if which = 0 then (if k = 60 then [38, 108, 116, 59] else if k = 62 then [38, 103, 116, 59] else [k])
  else if which = 1 then (if k = 60 then [38, 108, 116, 59] else if k = 62 then [38, 103, 116, 59] else if k = 34 then [38, 113, 117, 111, 116, 59] else if k = 13 then [38, 35, 49, 51, 59] else if k = 10 then [38, 35, 49, 48, 59] else if k = 9 then [38, 35, 48, 57, 59] else [k])
  else if which = 2 then (if k = 62 then [38, 103, 116, 59] else if k = 34 then [38, 113, 117, 111, 116, 59] else [k])
  else if which = 3 then (if k = 60 then [38, 108, 116, 59] else if k = 62 then [38, 103, 116, 59] else if k = 13 then [38, 35, 120, 68, 59] else [k])
  else (if k = 60 then [38, 108, 116, 59] else if k = 34 then [38, 113, 117, 111, 116, 59] else if k = 9 then [38, 35, 120, 57, 59] else if k = 10 then [38, 35, 120, 65, 59] else if k = 13 then [38, 35, 120, 68, 59] else [k])
def spell (x : Str) (which : Int) : Str := flatS (tab which) x
theorem tab_len (w : Int) (k : Nat) : (tab w k).length ≤ 6 := by
  unfold tab
  repeat' split
  all_goals simp
theorem tab_pos (w : Int) (k : Nat) : 1 ≤ (tab w k).length := by
  unfold tab
  repeat' split
  all_goals simp
theorem spell_len (x : Str) (w : Int) : (spell x w).length ≤ 6 * x.length := flat_len (tab_len w) x
theorem amp_is : Str.ofString "&" = ⟨#[38]⟩ := by decide +kernel
theorem lt_is : Str.ofString "<" = ⟨#[60]⟩ := by decide +kernel
theorem gt_is : Str.ofString ">" = ⟨#[62]⟩ := by decide +kernel
theorem qu_is : Str.ofString "\"" = ⟨#[34]⟩ := by decide +kernel
theorem cr_is : Str.ofString "\x0d" = ⟨#[13]⟩ := by decide +kernel
theorem nl_is : Str.ofString "\n" = ⟨#[10]⟩ := by decide +kernel
theorem tb_is : Str.ofString "\t" = ⟨#[9]⟩ := by decide +kernel
theorem zamp_is : Str.ofString "&amp;" = ⟨#[38, 97, 109, 112, 59]⟩ := by decide +kernel
theorem zlt_is : Str.ofString "&lt;" = ⟨#[38, 108, 116, 59]⟩ := by decide +kernel
theorem zgt_is : Str.ofString "&gt;" = ⟨#[38, 103, 116, 59]⟩ := by decide +kernel
theorem zqu_is : Str.ofString "&quot;" = ⟨#[38, 113, 117, 111, 116, 59]⟩ := by decide +kernel
theorem z13_is : Str.ofString "&#13;" = ⟨#[38, 35, 49, 51, 59]⟩ := by decide +kernel
theorem z10_is : Str.ofString "&#10;" = ⟨#[38, 35, 49, 48, 59]⟩ := by decide +kernel
theorem z09_is : Str.ofString "&#09;" = ⟨#[38, 35, 48, 57, 59]⟩ := by decide +kernel
theorem zxD_is : Str.ofString "&#xD;" = ⟨#[38, 35, 120, 68, 59]⟩ := by decide +kernel
theorem zx9_is : Str.ofString "&#x9;" = ⟨#[38, 35, 120, 57, 59]⟩ := by decide +kernel
theorem zxA_is : Str.ofString "&#xA;" = ⟨#[38, 35, 120, 65, 59]⟩ := by decide +kernel
/-- what a chain of replacements makes of a sign -/
def chain : (Nat → List Nat) → List (Str × Str) → Nat → List Nat
  | f, [] => f
  | f, (c, z) :: r => chain (comp f c z) r
end Mine
-- part E1
namespace Mine
theorem gen_toks {α : Type} {M : Model} {A : Around} {tr : Sem α} {Q : α → Shared → Prop} {E : Value → Shared → Prop} {h : Heap} {g d o} {n : Nat}
    (H : ∀ tk : Nat, 0 < tk → wpAny M A tr Q E (Shared.mk h g d tk o)) : wpAny M A tr Q E (Shared.mk h g d (n + 1) o) := H (n + 1) (Nat.succ_pos n)
def EscEnd (h₀ : Heap) (L : Addr) (m : Str → Option Value) (news : List (Addr × Obj)) (s : Shared) (y : Str) (f : Flow) (s' : Shared) : Prop :=
  f = .next ∧ ∃ h' tk t', s' = { s with heap := h', toks := tk } ∧ Fr h₀ L h' (fun z => if z = Str.ofString "text" then some (.str y t') else m z) ∧ News h₀ L h' news
theorem esc_if {prog : Program} {w : World} {A : Around} {E : Value → Shared → Prop} {Q : Flow → Shared → Prop} {s : Shared} {h₀ : Heap} {L : Addr} {m : Str → Option Value} {news : List (Addr × Obj)} {env : Env}
    {c c' z : Str} {k1 k2 k3 : Nat} {p1 p2 p3 p4 p5 p6 p7 : Pos} {nm : PySem.Expr} {tg : PySem.Expr} {fn : PySem.Expr} (f : Nat → List Nat) (x : Str) (t : Tok)
    (_F : Fr h₀ L s.heap m) (_N : News h₀ L s.heap news) (_hm : m (Str.ofString "text") = some (.str (flatS f x) t))
    (h1 : wpAny (model prog w) A (isTrue (.Compare (.Constant (.str c) k1 p1) [.In] [nm] p2) env (eval (.Compare (.Constant (.str c) k1 p1) [.In] [nm] p2) env))
      (fun b s₂ => if b then wpAny (model prog w) A (execs [.Assign [tg] (.Call fn [.Constant (.str c') k2 p3, .Constant (.str z) k3 p4] [] p5) p6] env) (EscEnd h₀ L m news s (flatS (comp f c z) x)) E s₂ else wpAny (model prog w) A (execs [] env) (EscEnd h₀ L m news s (flatS (comp f c z) x)) E s₂) E s)
    (h2 : ∀ h' tk t', Fr h₀ L h' (fun y => if y = Str.ofString "text" then some (.str (flatS (comp f c z) x) t') else m y) → News h₀ L h' news → Q .next { s with heap := h', toks := tk }) :
    wpAny (model prog w) A (exec (.If (.Compare (.Constant (.str c) k1 p1) [.In] [nm] p2) [.Assign [tg] (.Call fn [.Constant (.str c') k2 p3, .Constant (.str z) k3 p4] [] p5) p6] [] p7) env) Q E s := by
  refine wpAny_mono (wpAny_If h1) (fun fl s' h => ?_) fun _ _ e => e
  obtain ⟨rfl, h', tk, t', rfl, F', N'⟩ := h
  exact h2 h' tk t' F' N'
theorem fr_same {h₀ h : Heap} {L : Addr} {m : Str → Option Value} {v : Value} {n : Str} (F : Fr h₀ L h m) (e : m n = some v) : Fr h₀ L h (fun z => if z = n then some v else m z) := by
  have : (fun z => if z = n then some v else m z) = m := by
    funext z
    by_cases hz : z = n
    · rw [if_pos hz, hz, e]
    · rw [if_neg hz]
  rw [this]
  exact F
theorem fr_eq {h₀ h : Heap} {L : Addr} {m : Str → Option Value} {n y y' : Str} {t : Tok} (F : Fr h₀ L h (fun z => if z = n then some (.str y t) else m z)) (e : y = y') : Fr h₀ L h (fun z => if z = n then some (.str y' t) else m z) := e ▸ F
theorem esc_in {h₀ : Heap} {L : Addr} {m : Str → Option Value} {news : List (Addr × Obj)} {s : Shared} {x : Str} {f : Nat → List Nat} {c z : Str} {h' : Heap} {tk : Nat} {t' : Tok} (h1 : c.length = 1)
    (F : Fr h₀ L h' (fun y => if y = Str.ofString "text" then some (.str (Txt.replace (flatS f x) c z) t') else m y)) (N : News h₀ L h' news) : EscEnd h₀ L m news s (flatS (comp f c z) x) .next { s with heap := h', toks := tk } :=
  ⟨rfl, h', tk, t', rfl, fr_eq F (replace_comp f x c z h1), N⟩
theorem esc_out {h₀ : Heap} {L : Addr} {m : Str → Option Value} {news : List (Addr × Obj)} {s : Shared} {x : Str} {f : Nat → List Nat} {c z : Str} {h' : Heap} {tk : Nat} {t' : Tok} (h1 : c.length = 1)
    (hc : (Builtin.Str.occurrences (flatS f x) c 0 (flatS f x).length 1).isEmpty = true) (F : Fr h₀ L h' m) (e : m (Str.ofString "text") = some (.str (flatS f x) t')) (N : News h₀ L h' news) : EscEnd h₀ L m news s (flatS (comp f c z) x) .next { s with heap := h', toks := tk } :=
  ⟨rfl, h', tk, t', rfl, fr_eq (fr_same F e) (free_comp f x c z h1 (by unfold Txt.contains; rw [hc]; rfl)).symm, N⟩
theorem flat_room {f : Nat → List Nat} {x : Str} (h : ∀ k, (f k).length ≤ 6) (hx : x.length ≤ 100000) : (flatS f x).length ≤ 1048576 := by
  have := flat_len h x
  omega
local macro_rules | `(tactic| walk_at "esc_bound") => `(tactic| (intro k; (try simp only [comp, one, amp_is, lt_is, gt_is, qu_is, cr_is, nl_is, tb_is, zamp_is, zlt_is, zgt_is, zqu_is, z13_is, z10_is, z09_is, zxD_is, zx9_is, zxA_is]); (by_cases h38 : k = 38; (focus (subst h38; decide))); (by_cases h60 : k = 60; (focus (subst h60; decide))); (by_cases h62 : k = 62; (focus (subst h62; decide))); (by_cases h34 : k = 34; (focus (subst h34; decide))); (by_cases h13 : k = 13; (focus (subst h13; decide))); (by_cases h10 : k = 10; (focus (subst h10; decide))); (by_cases h9 : k = 9; (focus (subst h9; decide))); simp [rep, h38, h60, h62, h34, h13, h10, h9]))
local macro_rules | `(tactic| walk_at "execs cons") => `(tactic| (k_here; with_reducible refine gen_toks ?_; intro tk htk))
local macro_rules | `(tactic| walk_at "execs nil") => `(tactic| (k_here; with_reducible refine gen_toks ?_; intro tk htk))
local macro_rules | `(tactic| walk_at "exec If") => `(tactic| (k_here; k_dflt (refine' esc_if _ _ _ ?k1 ?k2 ?k3 ?_ ?_; (case k1 => k_asm); (case k2 => k_asm); (case k3 => exact rfl); (rotate_left 1); (intro h' tk' t' F' N'); (try dsimp only); (rotate_right 1))))
local macro_rules | `(tactic| walk_at "call builtin:str.replace") => `(tactic| (k_here; k_dflt (refine SC.replaceW (by (show @Ne Nat _ _); omega) (by (show @Ne Nat _ _); omega) (by (show @Ne Nat _ _); omega) (by decide +kernel) (flat_room (by walk_at "esc_bound") (by omega)) (by decide +kernel) ?_; intro _ _)))
local macro_rules | `(tactic| walk_at "esc_same") => `(tactic| (funext k; (try simp only [comp, one, amp_is, lt_is, gt_is, qu_is, cr_is, nl_is, tb_is, zamp_is, zlt_is, zgt_is, zqu_is, z13_is, z10_is, z09_is, zxD_is, zx9_is, zxA_is]); (by_cases h38 : k = 38; (focus (subst h38; decide))); (by_cases h60 : k = 60; (focus (subst h60; decide))); (by_cases h62 : k = 62; (focus (subst h62; decide))); (by_cases h34 : k = 34; (focus (subst h34; decide))); (by_cases h13 : k = 13; (focus (subst h13; decide))); (by_cases h10 : k = 10; (focus (subst h10; decide))); (by_cases h9 : k = 9; (focus (subst h9; decide))); simp [rep, tab, h38, h60, h62, h34, h13, h10, h9]))
set_option maxHeartbeats 8000000 in
theorem esc0 (w : World) (mean : ExcName → Option Value) (mg mb : Str → Option Value) (news : List (Addr × Obj)) (x : Str) (t : Tok) :
    Ct w mean mg mb 35 news (x.length ≤ 100000) [.str x t] (fun t => .str (spell x 0) t) := by
  dsimp only [Ct, CbClaim, CbLists, CbRet]
  k_with_none
  w_top off
  k_fill
  intro dp un gd cn cs ad ccd cl outer A₀ base h₀ L m s Q E B F X N T hk hpre hd hu hret
  rw [show Value.str x t = Value.str (flatS one x) t by rw [flat_one]]
  refine wpAny_call ?_
  k_dflt cell_enter
  k_steps
  all_goals first
    | exact esc_in rfl (by assumption) (by assumption)
    | exact esc_out rfl (by assumption) (by assumption) rfl (by assumption)
    | (refine cb_retS (Q := Q) hret ?_ (by k_asm) (by k_asm); (refine congrArg (fun f => flatS f x) ?_); walk_at "esc_same")
set_option maxHeartbeats 8000000 in
theorem esc1 (w : World) (mean : ExcName → Option Value) (mg mb : Str → Option Value) (news : List (Addr × Obj)) (x : Str) (t : Tok) :
    Ct w mean mg mb 42 news (x.length ≤ 100000) [.str x t] (fun t => .str (spell x 1) t) := by
  dsimp only [Ct, CbClaim, CbLists, CbRet]
  k_with_none
  w_top off
  k_fill
  intro dp un gd cn cs ad ccd cl outer A₀ base h₀ L m s Q E B F X N T hk hpre hd hu hret
  rw [show Value.str x t = Value.str (flatS one x) t by rw [flat_one]]
  refine wpAny_call ?_
  k_dflt cell_enter
  k_steps
  all_goals first
    | exact esc_in rfl (by assumption) (by assumption)
    | exact esc_out rfl (by assumption) (by assumption) rfl (by assumption)
    | (refine cb_retS (Q := Q) hret ?_ (by k_asm) (by k_asm); (refine congrArg (fun f => flatS f x) ?_); walk_at "esc_same")
set_option maxHeartbeats 8000000 in
theorem esc2 (w : World) (mean : ExcName → Option Value) (mg mb : Str → Option Value) (news : List (Addr × Obj)) (x : Str) (t : Tok) :
    Ct w mean mg mb 49 news (x.length ≤ 100000) [.str x t] (fun t => .str (spell x 2) t) := by
  dsimp only [Ct, CbClaim, CbLists, CbRet]
  k_with_none
  w_top off
  k_fill
  intro dp un gd cn cs ad ccd cl outer A₀ base h₀ L m s Q E B F X N T hk hpre hd hu hret
  rw [show Value.str x t = Value.str (flatS one x) t by rw [flat_one]]
  refine wpAny_call ?_
  k_dflt cell_enter
  k_steps
  all_goals first
    | exact esc_in rfl (by assumption) (by assumption)
    | exact esc_out rfl (by assumption) (by assumption) rfl (by assumption)
    | (refine cb_retS (Q := Q) hret ?_ (by k_asm) (by k_asm); (refine congrArg (fun f => flatS f x) ?_); walk_at "esc_same")
set_option maxHeartbeats 8000000 in
theorem esc3 (w : World) (mean : ExcName → Option Value) (mg mb : Str → Option Value) (news : List (Addr × Obj)) (x : Str) (t : Tok) :
    Ct w mean mg mb 56 news (x.length ≤ 100000) [.str x t] (fun t => .str (spell x 3) t) := by
  dsimp only [Ct, CbClaim, CbLists, CbRet]
  k_with_none
  w_top off
  k_fill
  intro dp un gd cn cs ad ccd cl outer A₀ base h₀ L m s Q E B F X N T hk hpre hd hu hret
  rw [show Value.str x t = Value.str (flatS one x) t by rw [flat_one]]
  refine wpAny_call ?_
  k_dflt cell_enter
  k_steps
  all_goals first
    | exact esc_in rfl (by assumption) (by assumption)
    | exact esc_out rfl (by assumption) (by assumption) rfl (by assumption)
    | (refine cb_retS (Q := Q) hret ?_ (by k_asm) (by k_asm); (refine congrArg (fun f => flatS f x) ?_); walk_at "esc_same")
set_option maxHeartbeats 8000000 in
theorem esc4 (w : World) (mean : ExcName → Option Value) (mg mb : Str → Option Value) (news : List (Addr × Obj)) (x : Str) (t : Tok) :
    Ct w mean mg mb 63 news (x.length ≤ 100000) [.str x t] (fun t => .str (spell x 4) t) := by
  dsimp only [Ct, CbClaim, CbLists, CbRet]
  k_with_none
  w_top off
  k_fill
  intro dp un gd cn cs ad ccd cl outer A₀ base h₀ L m s Q E B F X N T hk hpre hd hu hret
  rw [show Value.str x t = Value.str (flatS one x) t by rw [flat_one]]
  refine wpAny_call ?_
  k_dflt cell_enter
  k_steps
  all_goals first
    | exact esc_in rfl (by assumption) (by assumption)
    | exact esc_out rfl (by assumption) (by assumption) rfl (by assumption)
    | (refine cb_retS (Q := Q) hret ?_ (by k_asm) (by k_asm); (refine congrArg (fun f => flatS f x) ?_); walk_at "esc_same")
end Mine
-- part D1
namespace Mine
/-- a contract: n frames of room -/
def Cl (w : World) (mean : ExcName → Option Value) (mg mb : Str → Option Value) (f : Addr) (n : Nat) (news : List (Addr × Obj)) (pre : Prop) (vs : List Value) (R : Tok → Value) : Prop :=
  ∀ (dp un : Nat) (gd : Option (List Code)) (cn : Str) (cs : Scope) (a : Addr) (ccd : Value) (cl : List (Str × Addr)) (outer : List Env) (A₀ : Around) (base h₀ : Heap) (L : Addr) (m : Str → Option Value) (s : Shared) (Q E : Value → Shared → Prop),
    Below A₀ base outer h₀ → Fr h₀ L s.heap m → (Mine.hd.heap_39 w.params).In h₀ → News h₀ L s.heap news → Top Mine.hd.view_39 (looseW Mine.hd.view_39 []) mean mg mb h₀ → cs.kind = .function →
    pre → dp + n < recursionLimit → un + 8 * n < cLine → CbRet h₀ L m news s Q R →
      wpAny (model Challenge.rw_nb0118_01.row.prog w) (ktrTop dp un gd cn cs L a ccd cl outer) (call (.ref f) vs) Q E s
theorem Cl.of {w : World} {mean : ExcName → Option Value} {mg mb : Str → Option Value} {f : Addr} {news : List (Addr × Obj)} {pre : Prop} {vs : List Value} {R : Tok → Value} (h : Ct w mean mg mb f news pre vs R) : Cl w mean mg mb f 1 news pre vs R :=
  fun dp un gd cn cs a ccd cl outer A₀ base h₀ L m s Q E B F X N T hk hp hd hu hr => h dp un gd cn cs a ccd cl outer A₀ base h₀ L m s Q E B F X N T hk hp hd hu hr
theorem Cl.use {w : World} {mean : ExcName → Option Value} {mg mb : Str → Option Value} {f : Addr} {n : Nat} {news : List (Addr × Obj)} {pre : Prop} {vs : List Value} {R : Tok → Value} (C : Cl w mean mg mb f n news pre vs R)
    {dp un : Nat} {gd : Option (List Code)} {cn : Str} {cs : Scope} {a : Addr} {ccd : Value} {cl : List (Str × Addr)} {outer : List Env} {A₀ : Around} {base h₀ : Heap} {L : Addr} {m : Str → Option Value} {s : Shared} {Q E : Value → Shared → Prop}
    (B : Below A₀ base outer h₀) (F : Fr h₀ L s.heap m) (X : (Mine.hd.heap_39 w.params).In h₀) (N : News h₀ L s.heap news) (T : Top Mine.hd.view_39 (looseW Mine.hd.view_39 []) mean mg mb h₀) (hk : cs.kind = .function)
    (hp : pre) (hd : dp + n < recursionLimit) (hu : un + 8 * n < cLine) (hr : ∀ (t : Tok) (h' : Heap) (tk' : Nat), Fr h₀ L h' m → News h₀ L h' news → Q (R t) { s with heap := h', toks := tk' }) :
      wpAny (model Challenge.rw_nb0118_01.row.prog w) (ktrTop dp un gd cn cs L a ccd cl outer) (call (.ref f) vs) Q E s :=
  C dp un gd cn cs a ccd cl outer A₀ base h₀ L m s Q E B F X N T hk hp hd hu hr
theorem strip_cl (w : World) (mean : ExcName → Option Value) (mg mb : Str → Option Value) (news : List (Addr × Obj)) (x : Str) (t : Tok) (a : Int) (u : Tok) :
    Cl w mean mg mb 21 1 news (x.length ≤ 100000 ∧ 0 ≤ a ∧ (a = 0 ∨ lead x < x.length ∧ trail x < x.length)) [.str x t, .int a u] (fun t => .str (stripPad x a) t) := Cl.of (strip_spec w mean mg mb news x t a u)
theorem room_lt {a b : Nat} (h : a < b) : a < b := h
local macro_rules | `(tactic| walk_at "cl_use") => `(tactic| (
  (case k1 => k_asm); (case k2 => k_asm); (case k3 => k_asm); (case k4 => k_asm); (case k5 => k_asm); (case kK => first | exact rfl | assumption);
  (case kd => first | ktr_room | ((simp only [depth_deeper, recursionLimit] at *); omega)); (case ku => first | ktr_units | ((have hcL9 := cLine_is); (simp only [units_deeper, cLine] at *); omega));
  (intro t9 h9 tk9 F9 N9); (try dsimp only); (try k_fold)))
local macro_rules | `(tactic| walk_at "call ref") => `(tactic| (k_here; k_dflt (first
  | (refine' Cl.use (Cl.of (esc0 _ _ _ _ _ _ _)) ?k1 ?k2 ?k3 ?k4 ?k5 ?kK ?kp ?kd ?ku ?_; (case kp => assumption); walk_at "cl_use")
  | (refine' Cl.use (Cl.of (esc1 _ _ _ _ _ _ _)) ?k1 ?k2 ?k3 ?k4 ?k5 ?kK ?kp ?kd ?ku ?_; (case kp => assumption); walk_at "cl_use")
  | (refine' Cl.use (Cl.of (esc2 _ _ _ _ _ _ _)) ?k1 ?k2 ?k3 ?k4 ?k5 ?kK ?kp ?kd ?ku ?_; (case kp => assumption); walk_at "cl_use")
  | (refine' Cl.use (Cl.of (esc3 _ _ _ _ _ _ _)) ?k1 ?k2 ?k3 ?k4 ?k5 ?kK ?kp ?kd ?ku ?_; (case kp => assumption); walk_at "cl_use")
  | (refine' Cl.use (Cl.of (esc4 _ _ _ _ _ _ _)) ?k1 ?k2 ?k3 ?k4 ?k5 ?kK ?kp ?kd ?ku ?_; (case kp => assumption); walk_at "cl_use"))))
set_option maxHeartbeats 8000000 in
theorem esc_cl (w : World) (mean : ExcName → Option Value) (mg mb : Str → Option Value) (news : List (Addr × Obj)) (x : Str) (t : Tok) (k : Int) (u : Tok) :
    Cl w mean mg mb 75 2 news (x.length ≤ 100000 ∧ 0 ≤ k ∧ k < 5) [.str x t, .int k u] (fun t => .str (spell x k) t) := by
  unfold Cl
  dsimp only [CbRet]
  k_with_none
  w_top off
  k_fill
  intro dp un gd cn cs ad ccd cl outer A₀ base h₀ L m s Q E B F X N T hk hpre hd hu hret
  obtain ⟨hp1, hp2, hp3⟩ := hpre
  refine wpAny_call ?_
  k_dflt cell_enter
  k_steps
  all_goals refine cb_retS (Q := Q) hret ?_ (by k_asm) (by k_asm)
  all_goals (refine congrArg (spell x) ?_; omega)
end Mine
-- part G1
namespace Mine
open PySem.Calls PySem.Spec
section
variable {prog : Program} {w : World} {A : Around} {E : Value → Shared → Prop} {h₀ : Heap} {L : Addr} {m : Str → Option Value} {env : Env} {elt iter : PySem.Expr} {x : Str} {px pos : Pos} {scope : Scope} {cl : List (Str × Addr)} {s : Shared} {news : List (Addr × Obj)}
theorem cs_rest {xt : Str} (g : Nat → Str) {S : List (Addr × Obj) → Prop} {Fin : List Value → List (Addr × Obj) → Prop}
    (turn : ∀ c t I oI C oC D m₂ ys h tk (E' : Value → Shared → Prop), c ∈ xt.cps.toList → LCg.NsObj oC m₂ → m₂ x = some (.str ⟨#[c]⟩ t) → Fr h₀ L h m → News h₀ L h ((I, oI) :: (C, oC) :: (D, LCg.lst ys) :: news) → LCg.Off3 I C D news → ((@Ne Nat I C) ∧ (@Ne Nat I D) ∧ (@Ne Nat C D)) →
      wpAny (model prog w) A (eval elt (compEnvC scope cl C env)) (LCg.CompEnd h₀ L m { s with heap := h, toks := tk } I oI C oC D (LCg.lst ys) S (fun y news' => KCtEl news (g c) y news')) E' { s with heap := h, toks := tk })
    (fin : ∀ ys, StrsAre ys (xt.cps.toList.map g) → Fin ys news) : LCg.CompRest prog w A h₀ L m env elt x scope cl s S (SignAt xt) Fin xt.cps.size 0 [] news := by
  have key : ∀ (j i : Nat) (ys : List Value), i + j = xt.cps.size → StrsAre ys ((xt.cps.toList.take i).map g) → LCg.CompRest prog w A h₀ L m env elt x scope cl s S (SignAt xt) Fin j i ys news := by
    intro j
    induction j with
    | zero =>
      intro i ys hi hy
      have e : i = xt.cps.toList.length := by simp at hi ⊢; omega
      subst e
      rw [List.take_length] at hy
      exact LCg.CompRest.zero (fin ys hy)
    | succ j ih =>
      intro i ys hi hy
      refine LCg.CompRest.succ ?_
      intro v I oI C oC D m₂ h tk E' hv hC hx F N off ne
      obtain ⟨c, t, hc, hv'⟩ := hv
      rw [hv'] at hx
      have hc' : xt.cps.toList[i]? = some c := by simpa using hc
      refine wpAny_mono (turn c t I oI C oC D m₂ ys h tk E' (List.mem_of_getElem? hc') hC hx F N off ne) (fun y s₂ hq => ?_) fun _ _ e => e
      obtain ⟨h', tk', nw, e, F', N', off', hS, hn, t', hy'⟩ := hq
      rw [hn] at N' off' hS
      refine ⟨h', tk', news, e, F', N', off', hS, ?_⟩
      rw [hy']
      refine ih (i + 1) _ (by omega) ?_
      rw [List.take_add_one, hc']
      simpa using kct_snoc hy
  exact key _ 0 [] (by omega) (by simp only [List.take_zero, List.map_nil]; exact .nil)

def SrcS (h₀ : Heap) (L : Addr) (m : Str → Option Value) (news : List (Addr × Obj)) (s : Shared) (xt : Str) (v : Value) (s₁ : Shared) : Prop :=
  ∃ tx h tk, v = .str xt tx ∧ s₁ = { s with heap := h, toks := tk } ∧ Fr h₀ L h m ∧ News h₀ L h news
theorem comp_block {xt : Str} (g : Nat → Str) {ty : String} {tx : Tok} {s₁ : Shared} {Q : Value → Shared → Prop} {o : Obj}
    (W : Walks prog w A s₁.heap.objs.size [s₁.heap.objs.size] [s₁.heap.objs.size] xt.cps.size (SignAt xt) (fun i h => h.IsStrIter s₁.heap.objs.size ty xt tx i))
    (hcell : ∀ y ∈ scope.names, y.2 ≠ .cell) (hkind : scope.kind = .function)
    (hx : scope.names.lookup x = some .local) (hsz : xt.length ≤ sizeLine) (hst : (s₁.heap.push o).IsStrIter s₁.heap.objs.size ty xt tx 0)
    (F : Fr h₀ L s₁.heap m) (N : News h₀ L s₁.heap news)
    (turn : ∀ c t I oI C oC D m₂ ys h tk (E' : Value → Shared → Prop), c ∈ xt.cps.toList → LCg.NsObj oC m₂ → m₂ x = some (.str ⟨#[c]⟩ t) → Fr h₀ L h m → News h₀ L h ((I, oI) :: (C, oC) :: (D, LCg.lst ys) :: news) → LCg.Off3 I C D news → ((@Ne Nat I C) ∧ (@Ne Nat I D) ∧ (@Ne Nat C D)) →
      wpAny (model prog w) A (eval elt (compEnvC scope cl C env)) (LCg.CompEnd h₀ L m { s₁ with heap := h, toks := tk } I oI C oC D (LCg.lst ys) (fun _ => True) (fun y news' => KCtEl news (g c) y news')) E' { s₁ with heap := h, toks := tk })
    (fin : ∀ D ys h tk, StrsAre ys (xt.cps.toList.map g) → Fr h₀ L h m → News h₀ L h ((D, LCg.lst ys) :: news) → LCg.Off1 D news → Q (.ref D) { s₁ with heap := h, toks := tk }) :
    wpAny (model prog w) A (newList []) (fun acc s₃ => wpAny (model prog w) A (newFunctionEnv scope env.globals cl [] env.qual none .none (some env)) (fun cenv s₄ =>
      codeAny (model prog w) A (.compStart (.ListComp elt [⟨.Name x px, iter, [], 0⟩] scope pos) 0 (.ref s₁.heap.objs.size) acc { cenv with scope := relabel scope env }) (compPost (model prog w) A E none Q acc cenv.locals) s₄) E s₃) E { s₁ with heap := s₁.heap.push o } := by
  have up : ∀ b o', s₁.heap.get? b = some o' → (s₁.heap.push o).get? b = some o' := fun b o' e => Heap.get?_push_of_some _ e
  refine LCg.block_U (RR := compPost (model prog w) A E none Q) W hsz (fun i h st => by obtain ⟨o, e, _⟩ := st; exact ⟨o, e⟩)
    (fun i h h' o nw st e e' _ _ _ => by obtain ⟨o', q, r⟩ := st; rw [e] at q; cases q; exact ⟨o, e', r⟩) hcell hkind hx hst (fun b hb => ?_)
    (F.keeps up) (N.grown up) (Nat.ne_of_lt F.ns.lt) (next_is_new F) (fun p hp => Nat.ne_of_lt (Heap.lt_size (N p hp).1)) trivial
    (cs_rest (s := { s₁ with heap := s₁.heap.push o }) (S := fun _ => True) (Fin := fun ys nw => StrsAre ys (xt.cps.toList.map g) ∧ nw = news) g (fun c t I oI C oC D m₂ ys h tk E' h1 h2 h3 h4 h5 h6 h7 => turn c t I oI C oC D m₂ ys h tk E' h1 h2 h3 h4 h5 h6 h7) (fun ys h => ⟨h, rfl⟩)) ?_
  · rw [List.mem_singleton.mp hb]
    show s₁.heap.objs.size < (s₁.heap.push _).objs.size
    rw [Heap.size_push]; exact Nat.lt_succ_self _
  · rintro D C h tk m' ys news' F' N' o1 hn hC₀ hD₀ hCL hDL hCD offC ⟨hy, rfl⟩
    refine ⟨m', hn, fun h'' hs'' => fin D ys h'' tk hy (F'.change hs'' hCL hC₀) (fun p hp => ?_) o1⟩
    refine ⟨hs''.extBut _ _ ?_ (N' p hp).1, (N' p hp).2⟩
    rcases List.mem_cons.mp hp with rfl | hp
    · exact Ne.symm hCD
    · exact offC p hp

theorem comp_str {xt : Str} (g : Nat → Str) {Q : Value → Shared → Prop} (hh : A.handled = none)
    (hclos : closureFor scope env = pure cl) (hcell : ∀ y ∈ scope.names, y.2 ≠ .cell) (hkind : scope.kind = .function)
    (hnames : ∀ y ∈ scope.names, y.2 = .local → scope.names.lookup y.1 = some .local) (hx : scope.names.lookup x = some .local) (hsz : xt.length ≤ sizeLine)
    (hsrc : wpAny (model prog w) A (eval iter env) (SrcS h₀ L m news s xt) E s)
    (turn : ∀ c t I oI C oC D m₂ ys h tk (E' : Value → Shared → Prop), c ∈ xt.cps.toList → LCg.NsObj oC m₂ → m₂ x = some (.str ⟨#[c]⟩ t) → Fr h₀ L h m → News h₀ L h ((I, oI) :: (C, oC) :: (D, LCg.lst ys) :: news) → LCg.Off3 I C D news → ((@Ne Nat I C) ∧ (@Ne Nat I D) ∧ (@Ne Nat C D)) →
      wpAny (model prog w) A (eval elt (compEnvC scope cl C env)) (LCg.CompEnd h₀ L m { s with heap := h, toks := tk } I oI C oC D (LCg.lst ys) (fun _ => True) (fun y news' => KCtEl news (g c) y news')) E' { s with heap := h, toks := tk })
    (fin : ∀ D ys h tk, StrsAre ys (xt.cps.toList.map g) → Fr h₀ L h m → News h₀ L h ((D, LCg.lst ys) :: news) → LCg.Off1 D news → Q (.ref D) { s with heap := h, toks := tk })
    (hs : ∀ x, foldedSetIterable iter env x = pure x := by intro _; rfl) :
    wpAny (model prog w) A (eval (.ListComp elt [⟨.Name x px, iter, [], 0⟩] scope pos) env) Q E s := by
  rw [eval_ListComp]
  refine wpAny_comprehension_free (use := none) rfl hs hclos hkind hnames (wpAny_mono hsrc (fun xv s₁ h₁ => ?_) fun _ _ e => e)
  obtain ⟨tx, h, tk, rfl, rfl, F, N⟩ := h₁
  cases ha : xt.cps.all (· < 128)
  · exact wpAny_pyIter_wide ha (comp_block g (ty := "str_iterator") (Walks.strWide hh _ xt tx) hcell hkind hx hsz ⟨_, Heap.get?_push_size _ rfl, rfl, rfl⟩ F N turn fin)
  · exact wpAny_pyIter_ascii ha (comp_block g (ty := "str_ascii_iterator") (Walks.strAscii hh _ xt tx) hcell hkind hx hsz ⟨_, Heap.get?_push_size _ rfl, rfl, rfl⟩ F N turn fin)
end
end Mine
-- part L0
namespace Mine
def tabS (k : Int) (c : Nat) : Str := ⟨(tab k c).toArray⟩
structure Mark (x : Str) (k : Int) : Prop where
  mark :: (one : True)
theorem sign_eq (a c : Nat) : ((⟨#[a]⟩ : Str) == ⟨#[c]⟩) = decide (c = a) := by
  by_cases h : c = a
  · subst h; simp
  · rw [decide_eq_false h]
    refine beq_eq_false_iff_ne.mpr fun e => h ?_
    have := congrArg (fun s : Str => s.cps.toList) e
    simpa using this.symm
section
variable {prog : Program} {w : World} {A : Around} {E : Value → Shared → Prop} {s : Shared} {Q : Value → Shared → Prop}
theorem get_rule {d : Addr} {D : List (PyData × PyData)} {x z r : Str} {t tz : Tok} (T : StrTab prog w s.heap d D) (e : (Spec.lookup (.str x) D).getD (.str z) = .str r) (h : ∀ t', Q (.str r t') { s with toks := s.toks + 1 }) :
    wpAny (model prog w) A (call (.builtin "dict.get") [.ref d, .str x t, .str z tz]) Q E s :=
  call_get2_strTab T (PyProof.V.Flat.str z tz) fun v hv => by
    rw [e] at hv
    obtain ⟨t', rfl⟩ := PyProof.V.Flat.str_inv hv
    exact h t'
theorem join_flat (f : Nat → Str) (l : List Nat) : (Txt.join (Str.ofString "") (l.map f)).cps.toList = l.flatMap fun c => (f c).cps.toList := by
  show (Builtin.Str.glued (Str.ofString "") (l.map f)).cps.toList = _
  rw [StrLaws.glued_eq_join]
  have e0 : (Str.ofString "").cps.toList = [] := by decide +kernel
  induction l with
  | nil => rfl
  | cons a r ih =>
    cases r with
    | nil => simp [Str.join]
    | cons b r' =>
      show (f a ++ Str.ofString "" ++ Str.join (Str.ofString "") ((b :: r').map f)).cps.toList = _
      simp only [Str.cps_append, Array.toList_append]
      rw [ih, e0, List.append_nil]
      rfl
theorem join_spell (x : Str) (k : Int) : Txt.join (Str.ofString "") (x.cps.toList.map (tabS k)) = spell x k := by
  refine Str.ext' ?_
  have := join_flat (tabS k) x.cps.toList
  show _ = (x.cps.toList.flatMap (tab k)).toArray
  rw [← Array.toArray_toList (xs := (Txt.join (Str.ofString "") (x.cps.toList.map (tabS k))).cps), this]
  rfl
theorem join_sp {x : Str} {k : Int} {D : Addr} {ys : List Value} {t : Tok} (_mk : Mark x k) (hl : s.heap.IsList D ys.toArray) (hs : StrsAre ys (x.cps.toList.map (tabS k))) (hx : x.length ≤ 100000)
    (h : ∀ t' tk, Q (.str (spell x k) t') { s with toks := tk }) : wpAny (model prog w) A (call (.builtin "str.join") [.str (Str.ofString "") t, .ref D]) Q E s := by
  have hc := hs.carried
  rw [List.map_map] at hc
  refine KT.join_B 6 hl hc (fun a _ => ?_) (by rw [len_list]; omega) (by decide +kernel) fun t' tk => ?_
  · show (tab k a).toArray.size ≤ 6
    rw [List.size_toArray]
    exact tab_len k a
  · rw [join_spell]; exact h t' tk
end
theorem get_none (c : Nat) : ((none : Option PyData).getD (.str ⟨#[c]⟩)) = PyData.str ⟨#[c]⟩ := rfl
theorem get_tab0 (c : Nat) {t0 u0 t1 u1 t2 u2 : Tok} : (Spec.lookup (.str ⟨#[c]⟩) (strData [(.str (Str.ofString "&") t0, .str (Str.ofString "&amp;") u0), (.str (Str.ofString "<") t1, .str (Str.ofString "&lt;") u1), (.str (Str.ofString ">") t2, .str (Str.ofString "&gt;") u2)])).getD (.str ⟨#[c]⟩) = .str (tabS 0 c) := by
  simp only [strData, datumOf, Option.getD_some, Spec.lookup, Spec.same, amp_is, lt_is, gt_is, qu_is, cr_is, nl_is, tb_is, zamp_is, zlt_is, zgt_is, zqu_is, z13_is, z10_is, z09_is, zxD_is, zx9_is, zxA_is, sign_eq, decide_eq_true_eq]
  by_cases h38 : c = 38
  · subst h38; rfl
  by_cases h60 : c = 60
  · subst h60; rfl
  by_cases h62 : c = 62
  · subst h62; rfl
  by_cases h34 : c = 34
  · subst h34; rfl
  by_cases h13 : c = 13
  · subst h13; rfl
  by_cases h10 : c = 10
  · subst h10; rfl
  by_cases h9 : c = 9
  · subst h9; rfl
  simp [tabS, tab, h38, h60, h62, h34, h13, h10, h9]
theorem get_tab1 (c : Nat) {t0 u0 t1 u1 t2 u2 t3 u3 t4 u4 t5 u5 t6 u6 : Tok} : (Spec.lookup (.str ⟨#[c]⟩) (strData [(.str (Str.ofString "&") t0, .str (Str.ofString "&amp;") u0), (.str (Str.ofString "<") t1, .str (Str.ofString "&lt;") u1), (.str (Str.ofString ">") t2, .str (Str.ofString "&gt;") u2), (.str (Str.ofString "\"") t3, .str (Str.ofString "&quot;") u3), (.str (Str.ofString "\x0d") t4, .str (Str.ofString "&#13;") u4), (.str (Str.ofString "\n") t5, .str (Str.ofString "&#10;") u5), (.str (Str.ofString "\t") t6, .str (Str.ofString "&#09;") u6)])).getD (.str ⟨#[c]⟩) = .str (tabS 1 c) := by
  simp only [strData, datumOf, Option.getD_some, Spec.lookup, Spec.same, amp_is, lt_is, gt_is, qu_is, cr_is, nl_is, tb_is, zamp_is, zlt_is, zgt_is, zqu_is, z13_is, z10_is, z09_is, zxD_is, zx9_is, zxA_is, sign_eq, decide_eq_true_eq]
  by_cases h38 : c = 38
  · subst h38; rfl
  by_cases h60 : c = 60
  · subst h60; rfl
  by_cases h62 : c = 62
  · subst h62; rfl
  by_cases h34 : c = 34
  · subst h34; rfl
  by_cases h13 : c = 13
  · subst h13; rfl
  by_cases h10 : c = 10
  · subst h10; rfl
  by_cases h9 : c = 9
  · subst h9; rfl
  simp [tabS, tab, h38, h60, h62, h34, h13, h10, h9]
theorem get_tab2 (c : Nat) {t0 u0 t1 u1 t2 u2 : Tok} : (Spec.lookup (.str ⟨#[c]⟩) (strData [(.str (Str.ofString "&") t0, .str (Str.ofString "&amp;") u0), (.str (Str.ofString ">") t1, .str (Str.ofString "&gt;") u1), (.str (Str.ofString "\"") t2, .str (Str.ofString "&quot;") u2)])).getD (.str ⟨#[c]⟩) = .str (tabS 2 c) := by
  simp only [strData, datumOf, Option.getD_some, Spec.lookup, Spec.same, amp_is, lt_is, gt_is, qu_is, cr_is, nl_is, tb_is, zamp_is, zlt_is, zgt_is, zqu_is, z13_is, z10_is, z09_is, zxD_is, zx9_is, zxA_is, sign_eq, decide_eq_true_eq]
  by_cases h38 : c = 38
  · subst h38; rfl
  by_cases h60 : c = 60
  · subst h60; rfl
  by_cases h62 : c = 62
  · subst h62; rfl
  by_cases h34 : c = 34
  · subst h34; rfl
  by_cases h13 : c = 13
  · subst h13; rfl
  by_cases h10 : c = 10
  · subst h10; rfl
  by_cases h9 : c = 9
  · subst h9; rfl
  simp [tabS, tab, h38, h60, h62, h34, h13, h10, h9]
theorem get_tab3 (c : Nat) {t0 u0 t1 u1 t2 u2 t3 u3 : Tok} : (Spec.lookup (.str ⟨#[c]⟩) (strData [(.str (Str.ofString "&") t0, .str (Str.ofString "&amp;") u0), (.str (Str.ofString "<") t1, .str (Str.ofString "&lt;") u1), (.str (Str.ofString ">") t2, .str (Str.ofString "&gt;") u2), (.str (Str.ofString "\x0d") t3, .str (Str.ofString "&#xD;") u3)])).getD (.str ⟨#[c]⟩) = .str (tabS 3 c) := by
  simp only [strData, datumOf, Option.getD_some, Spec.lookup, Spec.same, amp_is, lt_is, gt_is, qu_is, cr_is, nl_is, tb_is, zamp_is, zlt_is, zgt_is, zqu_is, z13_is, z10_is, z09_is, zxD_is, zx9_is, zxA_is, sign_eq, decide_eq_true_eq]
  by_cases h38 : c = 38
  · subst h38; rfl
  by_cases h60 : c = 60
  · subst h60; rfl
  by_cases h62 : c = 62
  · subst h62; rfl
  by_cases h34 : c = 34
  · subst h34; rfl
  by_cases h13 : c = 13
  · subst h13; rfl
  by_cases h10 : c = 10
  · subst h10; rfl
  by_cases h9 : c = 9
  · subst h9; rfl
  simp [tabS, tab, h38, h60, h62, h34, h13, h10, h9]
theorem get_tab4 (c : Nat) {t0 u0 t1 u1 t2 u2 t3 u3 t4 u4 t5 u5 : Tok} : (Spec.lookup (.str ⟨#[c]⟩) (strData [(.str (Str.ofString "&") t0, .str (Str.ofString "&amp;") u0), (.str (Str.ofString "<") t1, .str (Str.ofString "&lt;") u1), (.str (Str.ofString "\"") t2, .str (Str.ofString "&quot;") u2), (.str (Str.ofString "\t") t3, .str (Str.ofString "&#x9;") u3), (.str (Str.ofString "\n") t4, .str (Str.ofString "&#xA;") u4), (.str (Str.ofString "\x0d") t5, .str (Str.ofString "&#xD;") u5)])).getD (.str ⟨#[c]⟩) = .str (tabS 4 c) := by
  simp only [strData, datumOf, Option.getD_some, Spec.lookup, Spec.same, amp_is, lt_is, gt_is, qu_is, cr_is, nl_is, tb_is, zamp_is, zlt_is, zgt_is, zqu_is, z13_is, z10_is, z09_is, zxD_is, zx9_is, zxA_is, sign_eq, decide_eq_true_eq]
  by_cases h38 : c = 38
  · subst h38; rfl
  by_cases h60 : c = 60
  · subst h60; rfl
  by_cases h62 : c = 62
  · subst h62; rfl
  by_cases h34 : c = 34
  · subst h34; rfl
  by_cases h13 : c = 13
  · subst h13; rfl
  by_cases h10 : c = 10
  · subst h10; rfl
  by_cases h9 : c = 9
  · subst h9; rfl
  simp [tabS, tab, h38, h60, h62, h34, h13, h10, h9]
end Mine
-- part L1
namespace Mine
theorem comp_sp {prog : Program} {w : World} {A : Around} {E : Value → Shared → Prop} {h₀ : Heap} {L : Addr} {m : Str → Option Value} {env : Env} {elt iter : PySem.Expr} {x : Str} {px pos : Pos} {scope : Scope} {cl : List (Str × Addr)} {s : Shared} {news : List (Addr × Obj)}
    {xt : Str} {k : Int} {Q : Value → Shared → Prop} (_mk : Mark xt k) (_F : Fr h₀ L s.heap m) (_N : News h₀ L s.heap news) (hh : A.handled = none)
    (hclos : closureFor scope env = pure cl) (hcell : ∀ y ∈ scope.names, y.2 ≠ .cell) (hkind : scope.kind = .function)
    (hnames : ∀ y ∈ scope.names, y.2 = .local → scope.names.lookup y.1 = some .local) (hx : scope.names.lookup x = some .local) (hsz : xt.length ≤ 100000)
    (hsrc : wpAny (model prog w) A (eval iter env) (SrcS h₀ L m news s xt) E s)
    (turn : ∀ c t I oI C oC D m₂ ys h tk (E' : Value → Shared → Prop), LCg.NsObj oC m₂ → m₂ x = some (.str ⟨#[c]⟩ t) → Fr h₀ L h m → News h₀ L h ((I, oI) :: (C, oC) :: (D, LCg.lst ys) :: news) → LCg.Off3 I C D news → ((@Ne Nat I C) ∧ (@Ne Nat I D) ∧ (@Ne Nat C D)) →
      wpAny (model prog w) A (eval elt (compEnvC scope cl C env)) (LCg.CompEnd h₀ L m { s with heap := h, toks := tk } I oI C oC D (LCg.lst ys) (fun _ => True) (fun y news' => KCtEl news (tabS k c) y news')) E' { s with heap := h, toks := tk })
    (fin : ∀ D ys h tk, StrsAre ys (xt.cps.toList.map (tabS k)) → Fr h₀ L h m → News h₀ L h ((D, LCg.lst ys) :: news) → LCg.Off1 D news → Q (.ref D) { s with heap := h, toks := tk })
    (hs : ∀ x, foldedSetIterable iter env x = pure x := by intro _; rfl) :
    wpAny (model prog w) A (eval (.ListComp elt [⟨.Name x px, iter, [], 0⟩] scope pos) env) Q E s :=
  comp_str (tabS k) hh hclos hcell hkind hnames hx (by rw [sizeLine_eq]; omega) hsrc (fun c t I oI C oC D m₂ ys h tk E' _ => turn c t I oI C oC D m₂ ys h tk E') fin hs
local macro_rules | `(tactic| walk_at "eval ListComp") => `(tactic| (k_here; k_dflt (refine' comp_sp ?mk ?kF ?kN ?c1 ?c2 ?c3 ?c4 ?c5 ?c6 ?c7 ?_ ?_ ?_ ; (case mk => assumption); (case kF => k_asm); (case kN => k_asm); (case c1 => rfl); (case c2 => with_unfolding_all rfl); (case c3 => decide); (case c4 => rfl); (case c5 => decide); (case c6 => rfl); (case c7 => assumption))))
local macro_rules | `(tactic| walk_at "call builtin:dict.get") => `(tactic| (k_here; k_dflt (refine get_rule (by k_tabat) (by first | exact get_tab0 _ | exact get_tab1 _ | exact get_tab2 _ | exact get_tab3 _ | exact get_tab4 _) ?_; intro t9)))
local macro_rules | `(tactic| walk_at "call builtin:str.join") => `(tactic| (k_here; k_dflt (refine' join_sp ?mk ?kl ?ks ?kx ?_; (case mk => assumption); (case kl => exact News.isList (by k_asm) (by k_mem)); (case ks => assumption); (case kx => assumption); (intro t9 tk9))))
set_option maxHeartbeats 8000000 in
theorem spl_cl (w : World) (mean : ExcName → Option Value) (mg mb : Str → Option Value) (news : List (Addr × Obj)) (x : Str) (t : Tok) (k : Int) (u : Tok) :
    Cl w mean mg mb 68 1 news (x.length ≤ 100000 ∧ 0 ≤ k ∧ k < 5) [.str x t, .int k u] (fun t => .str (spell x k) t) := by
  unfold Cl
  dsimp only [CbRet]
  k_with_none
  w_top off
  k_fill
  intro dp un gd cn cs ad ccd cl outer A₀ base h₀ L m s Q E B F X N T hk hpre hd hu hret
  obtain ⟨hp1, hp2, hp3⟩ := hpre
  have mk : Mark x k := ⟨trivial⟩
  refine wpAny_call ?_
  k_dflt (refine' code_defC ?k1 ?k2 ?k3 ?k4 ?k5 ?kA ?kF ?kK ?k6 ?k7 ?k8 ?k9 ?kB ?kD ?_ ?c2 ?c3 ?c4; (case kA => exact rfl); (case kF => exact rfl); (case kK => assumption); (case k1 => k_asm); (case k2 => k_asm); (case k3 => k_asm); (case k4 => k_asm); (case k5 => k_asm); (case k6 => k_is); (case k7 => k_is); (case k8 => ktr_room); (case k9 => exact BindsTo.of_eq rfl); (case kB => exact rfl); (case kD => decide +kernel); (case c2 => exact rfl); (case c3 => exact rfl); (case c4 => exact rfl); k_whole; intro g' L' h' tk' cells' FG' F' N' Y' B' X' T' l1; (try k_lt l1); k_cells Y'; (try simp only [List.cons_append, List.nil_append] at N'); (try dsimp only); (try k_lift B'); (try k_fold))
  have hMk := kstMark
  have l2 : ∀ p ∈ news, p.1 < L' + 1 := fun p hp => Nat.lt_succ_of_lt (l1 p hp)
  have l3 : ∀ p ∈ news, p.1 < L' + 1 + 1 := fun p hp => Nat.lt_succ_of_lt (l2 p hp)
  k_steps
  · exact ⟨_, _, _, rfl, rfl, by assumption, by assumption⟩
  · have hw : k = 0 ∨ k = 1 ∨ k = 2 ∨ k = 3 ∨ k = 4 := by omega
    rcases hw with rfl | rfl | rfl | rfl | rfl
    all_goals k_steps
    all_goals exact ⟨_, _, _, rfl, by assumption, by assumption, by assumption, trivial, rfl, _, rfl⟩
  · exact cb_retS (Q := Q) hret rfl (by k_asm) (cb_drop (by assumption) (fun p hp => by repeat (first | exact hp | apply List.mem_cons_of_mem)))
end Mine
-- part P3
namespace Mine
def core0 (line : Str) : Str := Txt.stripChars line (Str.ofString " ")
def behind (line : Str) : Int := (line.length : Int) - ((Txt.rstripChars line (Str.ofString " ")).length : Int)
def roomOf (line core : Str) : Int := if 0 > (line.length : Int) - (core.length : Int) then 0 else (line.length : Int) - (core.length : Int)
def keptOf (line core : Str) : Int := if roomOf line core < behind line then roomOf line core else behind line
def fieldOf (line core : Str) : Str := Txt.mul (Str.ofString " ") (roomOf line core - keptOf line core) ++ core ++ Txt.mul (Str.ofString " ") (keptOf line core)
def coreOf (line : Str) (pre : List Int) : Str := pre.foldl spell (core0 line)
def wideOf (line : Str) (pre : List Int) : Str := pre.foldl spell line
def narrowOf (line : Str) (pre : List Int) : Str := fieldOf line (coreOf line pre)
def itemD (s : Str) : Dat := .list [.str s, .str s]
def dueD (line : Str) (pre : List Int) : List Dat := (List.range pre.length).map fun i => itemD (narrowOf line (pre.take (i + 1)))
theorem dueD_nil (line : Str) : dueD line [] = [] := rfl
theorem dueD_snoc (line : Str) (pre : List Int) (n : Int) : dueD line (pre ++ [n]) = dueD line pre ++ [itemD (narrowOf line (pre ++ [n]))] := by
  unfold dueD
  rw [List.length_append, List.length_singleton, List.range_succ, List.map_append, List.map_singleton]
  congr 1
  · refine List.map_congr_left fun i hi => ?_
    rw [List.mem_range] at hi
    rw [List.take_append_of_le_length (by omega)]
  · rw [List.take_of_length_le (by simp)]
theorem dueD_len (line : Str) (pre : List Int) : (dueD line pre).length = pre.length := by simp [dueD]
theorem coreOf_snoc (line : Str) (pre : List Int) (n : Int) : coreOf line (pre ++ [n]) = spell (coreOf line pre) n := by simp [coreOf]
theorem wideOf_snoc (line : Str) (pre : List Int) (n : Int) : wideOf line (pre ++ [n]) = spell (wideOf line pre) n := by simp [wideOf]
theorem fold_len : ∀ (pre : List Int) (c : Str), (pre.foldl spell c).length ≤ 6 ^ pre.length * c.length
  | [], c => by simp
  | n :: r, c => by
    have h1 := fold_len r (spell c n)
    have h2 := spell_len c n
    have h3 : 6 ^ r.length * (spell c n).length ≤ 6 ^ r.length * (6 * c.length) := Nat.mul_le_mul_left _ h2
    rw [List.foldl_cons, List.length_cons, Nat.pow_succ, Nat.mul_assoc]
    exact Nat.le_trans h1 h3
theorem fold_len3 {pre : List Int} {c : Str} (hp : pre.length ≤ 3) (hc : c.length ≤ 40) : (pre.foldl spell c).length ≤ 8640 := by
  have h := fold_len pre c
  have h1 : 6 ^ pre.length ≤ 6 ^ 3 := Nat.pow_le_pow_right (by decide) hp
  have h2 : 6 ^ pre.length * c.length ≤ 6 ^ 3 * 40 := Nat.mul_le_mul h1 hc
  omega
theorem fold_len4 {pre : List Int} {c : Str} (hp : pre.length ≤ 4) (hc : c.length ≤ 40) : (pre.foldl spell c).length ≤ 51840 := by
  have h := fold_len pre c
  have h1 : 6 ^ pre.length ≤ 6 ^ 4 := Nat.pow_le_pow_right (by decide) hp
  have h2 : 6 ^ pre.length * c.length ≤ 6 ^ 4 * 40 := Nat.mul_le_mul h1 hc
  omega
theorem due_start {line : Str} (hl : line.length ≤ 40) (hc : (Txt.stripChars line (Str.ofString " ")).length ≤ line.length) :
    Txt.stripChars line (Str.ofString " ") = coreOf line [] ∧ ([] : List Dat) = dueD line [] ∧ ([] : List Dat).length = ([] : List Int).length ∧ (([] : List Int).length ≤ 3 → (Txt.stripChars line (Str.ofString " ")).length ≤ 8640) :=
  ⟨rfl, rfl, rfl, fun _ => by omega⟩
theorem due_step {line core : Str} {pre : List Int} {n : Int} (hc : core = coreOf line pre) (hl : line.length ≤ 40) (hs : (Txt.stripChars line (Str.ofString " ")).length ≤ line.length) :
    spell core n = coreOf line (pre ++ [n]) ∧ dueD line pre ++ [Dat.list [Dat.str (fieldOf line (spell core n)), Dat.str (fieldOf line (spell core n))]] = dueD line (pre ++ [n]) ∧
    (dueD line pre ++ [Dat.list [Dat.str (fieldOf line (spell core n)), Dat.str (fieldOf line (spell core n))]]).length = (pre ++ [n]).length ∧ ((pre ++ [n]).length ≤ 3 → (spell core n).length ≤ 8640) := by
  have e : spell core n = coreOf line (pre ++ [n]) := by rw [hc, coreOf_snoc]
  refine ⟨e, ?_, ?_, fun h => ?_⟩
  · rw [dueD_snoc, e]; rfl
  · rw [List.length_append, dueD_len, List.length_append]; rfl
  · rw [e]; exact fold_len3 h (Nat.le_trans hs hl)
end Mine
-- part U1
namespace Mine
/-- a contract that hands back a list of data -/
def ClD (w : World) (mean : ExcName → Option Value) (mg mb : Str → Option Value) (f : Addr) (n : Nat) (news : List (Addr × Obj)) (pre : Prop) (vs : List Value) (ds : List Dat) : Prop :=
  ∀ (dp un : Nat) (gd : Option (List Code)) (cn : Str) (cs : Scope) (a : Addr) (ccd : Value) (cl : List (Str × Addr)) (outer : List Env) (A₀ : Around) (base h₀ : Heap) (L : Addr) (m : Str → Option Value) (s : Shared) (Q E : Value → Shared → Prop),
    Below A₀ base outer h₀ → Fr h₀ L s.heap m → (Mine.hd.heap_39 w.params).In h₀ → News h₀ L s.heap news → Top Mine.hd.view_39 (looseW Mine.hd.view_39 []) mean mg mb h₀ → cs.kind = .function →
    pre → dp + n < recursionLimit → un + 8 * n < cLine →
    (∀ (r : Addr) (xs : List Value) (k : Nat) (tl : List (Addr × Obj)) (h' : Heap) (tk' : Nat), Fr h₀ L h' m → News h₀ L h' ((r, W.listOf xs.toArray k) :: (tl ++ news)) → DatAll tl xs ds → Q (.ref r) { s with heap := h', toks := tk' }) →
      wpAny (model Challenge.rw_nb0118_01.row.prog w) (ktrTop dp un gd cn cs L a ccd cl outer) (call (.ref f) vs) Q E s
theorem spl_use {w : World} {mean : ExcName → Option Value} {mg mb : Str → Option Value} {news : List (Addr × Obj)} {x : Str} {t : Tok} {k : Int} {u : Tok}
    {dp un : Nat} {gd : Option (List Code)} {cn : Str} {cs : Scope} {a : Addr} {ccd : Value} {cl : List (Str × Addr)} {outer : List Env} {A₀ : Around} {base h₀ : Heap} {L : Addr} {m : Str → Option Value} {s : Shared} {Q E : Value → Shared → Prop}
    (B : Below A₀ base outer h₀) (F : Fr h₀ L s.heap m) (X : (Mine.hd.heap_39 w.params).In h₀) (N : News h₀ L s.heap news) (T : Top Mine.hd.view_39 (looseW Mine.hd.view_39 []) mean mg mb h₀) (hk : cs.kind = .function)
    (hp : x.length ≤ 100000 ∧ 0 ≤ k ∧ k < 5) (hd : dp + 1 < recursionLimit) (hu : un + 8 * 1 < cLine) (hr : ∀ (t : Tok) (h' : Heap) (tk' : Nat), (spell x k).length ≤ 6 * x.length → Fr h₀ L h' m → News h₀ L h' news → Q (.str (spell x k) t) { s with heap := h', toks := tk' }) :
      wpAny (model Challenge.rw_nb0118_01.row.prog w) (ktrTop dp un gd cn cs L a ccd cl outer) (call (.ref 68) [.str x t, .int k u]) Q E s :=
  Cl.use (spl_cl w mean mg mb news x t k u) B F X N T hk hp hd hu fun t h' tk' F' N' => hr t h' tk' (spell_len x k) F' N'
theorem turn_len {ns pre post : List Int} {n : Int} (h4 : ns.length ≤ 4) (h5 : ∀ k ∈ ns, 0 ≤ k ∧ k < 5) (e : ns = pre ++ n :: post) : pre.length ≤ 3 ∧ 0 ≤ n ∧ n < 5 := by
  subst e
  refine ⟨by simp at h4; omega, h5 n (by simp)⟩
theorem News.mem_of {h₀ h : Heap} {L : Addr} {a b : Addr × Obj} {news tl : List (Addr × Obj)} {p : Addr × Obj} (N : News h₀ L h (a :: b :: (news ++ tl))) (hp : p ∈ a :: ((b :: (news ++ tl)) ++ b :: news)) : h.get? p.1 = some p.2 ∧ p.1 ≠ L ∧ h₀.get? p.1 = none := by
  refine N p ?_
  simp only [List.mem_cons, List.mem_append] at hp ⊢
  rcases hp with h | (h | h | h) | h | h <;> simp [h]
local macro_rules | `(tactic| walk_at "cl_use") => `(tactic| (
  (case k1 => k_asm); (case k2 => k_asm); (case k3 => k_asm); (case k4 => k_asm); (case k5 => k_asm); (case kK => first | exact rfl | assumption);
  (case kd => first | ktr_room | ((simp only [depth_deeper, recursionLimit] at *); omega)); (case ku => first | ktr_units | ((have hcL9 := cLine_is); (simp only [units_deeper, cLine] at *); omega))))
local macro_rules | `(tactic| walk_at "call ref") => `(tactic| (k_here; k_dflt
   (refine' spl_use ?k1 ?k2 ?k3 ?k4 ?k5 ?kK ?kp ?kd ?ku ?_; (case kp => omega); walk_at "cl_use"; (intro t9 h9 tk9 hb9 F9 N9); (try dsimp only); (try k_fold))))
set_option maxHeartbeats 8000000 in
theorem due_cl (w : World) (mean : ExcName → Option Value) (mg mb : Str → Option Value) (news : List (Addr × Obj)) (line : Str) (t : Tok) (l : Addr) (vs : List Value) (ns : List Int) (nn : Nat) :
    ClD w mean mg mb 94 2 ((l, W.listOf vs.toArray nn) :: news) (line.length ≤ 40 ∧ IntsAre vs ns ∧ ns.length ≤ 4 ∧ ∀ k ∈ ns, 0 ≤ k ∧ k < 5) [.str line t, .ref l] (dueD line ns) := by
  unfold ClD
  k_with_none
  w_top off
  k_fill
  intro dp un gd cn cs ad ccd cl outer A₀ base h₀ L m s Q E B F X N T hk hpre hd hu hret
  obtain ⟨hp1, hI, hp3, hp4⟩ := hpre
  refine wpAny_call ?_
  k_dflt cell_enter
  have hMk := kstMark
  k_with "pyIter ref" =>
    k_dat (fun (pre : List Int) core due => core = coreOf line pre ∧ due = dueD line pre ∧ due.length = pre.length ∧ (pre.length ≤ 3 → core.length ≤ 8640)) "core" "due*"
    have hb8 := turn_len hp3 hp4 kEq
  k_with "state" => first
    | exact due_start hp1 (by assumption)
    | exact due_step (by assumption) hp1 (by assumption)
  k_steps
  refine hret _ _ _ _ _ _ (by assumption) (fun p hp => News.mem_of (by assumption) hp) (by assumption)
end Mine
-- part P4
namespace Mine
def bl (n : Nat) : List Nat := List.replicate n 32
abbrev isB (c : Nat) : Bool := c == 32
theorem bl_len (n : Nat) : (bl n).length = n := by simp [bl]
theorem bl_rev (n : Nat) : (bl n).reverse = bl n := by simp [bl]
theorem bl_tw (n : Nat) (r : List Nat) : (bl n ++ r).takeWhile isB = bl n ++ r.takeWhile isB := by
  induction n with
  | zero => rfl
  | succ n ih =>
    show ((32 :: bl n) ++ r).takeWhile isB = (32 :: bl n) ++ r.takeWhile isB
    rw [List.cons_append, List.takeWhile_cons]
    simp [ih]
theorem bl_drop (n k : Nat) : (bl n).drop k = bl (n - k) := by simp [bl]
theorem bl_take (n k : Nat) (h : k ≤ n) : (bl n).take k = bl k := by simp [bl, h]
theorem bl_flat (n : Nat) (f : Nat → List Nat) (h : f 32 = [32]) : (bl n).flatMap f = bl n := by
  induction n with
  | zero => rfl
  | succ n ih =>
    show (32 :: bl n).flatMap f = 32 :: bl n
    rw [List.flatMap_cons, ih, h]
    rfl
theorem tw_bl (l : List Nat) : l.takeWhile isB = bl (l.takeWhile isB).length := by
  induction l with
  | nil => rfl
  | cons a r ih =>
    rw [List.takeWhile_cons]
    split
    · rename_i h
      have : a = 32 := by simpa using h
      subst this
      rw [List.length_cons]
      show _ = 32 :: bl _
      rw [← ih]
    · rfl
theorem tw_lt {p : Nat → Bool} : ∀ {l : List Nat}, (∃ c ∈ l, p c = false) → (l.takeWhile p).length < l.length
  | [], h => by obtain ⟨c, hc, _⟩ := h; exact absurd hc (by simp)
  | a :: r, h => by
    obtain ⟨c, hc, hp⟩ := h
    rw [List.takeWhile_cons]
    split
    · rename_i ha
      rcases List.mem_cons.mp hc with rfl | hc
      · rw [ha] at hp; cases hp
      · have := tw_lt (p := p) (l := r) ⟨c, hc, hp⟩
        simp only [List.length_cons]; omega
    · simp
/-- both ends are no blanks -/
def Tight (c : List Nat) : Prop := (∀ a, c.head? = some a → a ≠ 32) ∧ (∀ a, c.reverse.head? = some a → a ≠ 32)
theorem tight_tw {c r : List Nat} (h : ∀ a, c.head? = some a → a ≠ 32) (hn : c ≠ []) : (c ++ r).takeWhile isB = [] := by
  cases c with
  | nil => exact absurd rfl hn
  | cons a c =>
    have := h a rfl
    rw [List.cons_append, List.takeWhile_cons]
    simp [this]
theorem lead_pad {x : Str} {p q : Nat} {c : List Nat} (hx : x.cps.toList = bl p ++ c ++ bl q) (ht : Tight c) (hn : c ≠ []) : lead x = p := by
  unfold lead
  rw [hx, List.append_assoc]
  show ((bl p ++ (c ++ bl q)).takeWhile isB).length = p
  rw [bl_tw, tight_tw ht.1 hn]
  simp [bl]
theorem trail_pad {x : Str} {p q : Nat} {c : List Nat} (hx : x.cps.toList = bl p ++ c ++ bl q) (ht : Tight c) (hn : c ≠ []) : trail x = q := by
  unfold trail
  rw [hx, List.reverse_append, List.reverse_append, bl_rev, bl_rev]
  show ((bl q ++ (c.reverse ++ bl p)).takeWhile isB).length = q
  rw [bl_tw, tight_tw ht.2 (by simpa using hn)]
  simp [bl]
theorem slice_is {x : Str} {i j : Int} (h : 0 ≤ i ∧ i ≤ j ∧ j ≤ x.length) : (Txt.slice x (some i) (some j)).cps.toList = (x.cps.toList.drop i.toNat).take (j - i).toNat := by
  have e : Txt.slice x (some i) (some j) = StrLaws.sliceText x (some i) (some j) := rfl
  rw [e, StrLaws.sliceText_plain (by rw [len_list]; exact h)]
theorem lead_le (x : Str) : lead x ≤ x.length := by
  unfold lead
  rw [← len_list]
  exact (List.takeWhile_sublist _).length_le
theorem strip0 (x : Str) : (stripPad x 0).cps.toList = x.cps.toList := by
  unfold stripPad
  have e1 : min (0 : Int) (lead x) = 0 := by omega
  have e2 : (x.length : Int) - min (0 - 0 : Int) (trail x : Int) = x.length := by omega
  rw [e1, e2, slice_is (by omega)]
  simp
  exact StrLaws.take_all x
theorem strip_pad {x : Str} {p q : Nat} {c : List Nat} {a : Int} (hx : x.cps.toList = bl p ++ c ++ bl q) (ht : Tight c) (hn : c ≠ []) (ha : 0 ≤ a) :
    (stripPad x a).cps.toList = bl (p - (min a p).toNat) ++ c ++ bl (q - (min (a - min a p) q).toNat) := by
  have hl := lead_pad hx ht hn
  have hr := trail_pad hx ht hn
  have hlen : x.length = p + c.length + q := by rw [← len_list, hx]; simp [bl]; omega
  unfold stripPad
  rw [hl, hr, slice_is (by omega), hx]
  generalize hk1 : (min a (p : Int)).toNat = k1
  generalize hk2 : (min (a - min a (p : Int)) (q : Int)).toNat = k2
  have b1 : k1 ≤ p := by omega
  have b2 : k2 ≤ q := by omega
  have e : ((x.length : Int) - min (a - min a (p : Int)) (q : Int) - min a (p : Int)).toNat = (p - k1) + (c.length + (q - k2)) := by omega
  rw [e, List.append_assoc, List.drop_append_of_le_length (by rw [bl_len]; exact b1), bl_drop]
  rw [List.take_append, bl_len, List.take_of_length_le (by rw [bl_len]; omega)]
  have e2 : (p - k1) + (c.length + (q - k2)) - (p - k1) = c.length + (q - k2) := by omega
  rw [e2, List.take_append, List.take_of_length_le (by omega)]
  have e3 : c.length + (q - k2) - c.length = q - k2 := by omega
  rw [e3, bl_take q (q - k2) (by omega), List.append_assoc]
-- the spelling
theorem tab32 (n : Int) : tab n 32 = [32] := by
  unfold tab
  (repeat' split) <;> first | rfl | (rename_i h; exact absurd h (by decide))
theorem spell_list (x : Str) (n : Int) : (spell x n).cps.toList = x.cps.toList.flatMap (tab n) := rfl
theorem spell_pad {x : Str} {p q : Nat} {c : List Nat} (n : Int) (hx : x.cps.toList = bl p ++ c ++ bl q) : (spell x n).cps.toList = bl p ++ c.flatMap (tab n) ++ bl q := by
  rw [spell_list, hx, List.flatMap_append, List.flatMap_append, bl_flat _ _ (tab32 n), bl_flat _ _ (tab32 n)]
theorem tab_head (n : Int) (k : Nat) : (tab n k = [k]) ∨ ((tab n k).head? = some 38 ∧ (tab n k).reverse.head? = some 59) := by
  unfold tab
  repeat' split
  all_goals first | exact .inl rfl | exact .inr ⟨rfl, rfl⟩
theorem tab_ne (n : Int) (k : Nat) : tab n k ≠ [] := fun h => by have := tab_pos n k; rw [h] at this; simp at this
theorem flat_nil {n : Int} : ∀ {c : List Nat}, c.flatMap (tab n) = [] → c = []
  | [], _ => rfl
  | a :: r, h => by rw [List.flatMap_cons] at h; exact absurd (List.append_eq_nil_iff.mp h).1 (tab_ne n a)
theorem head_flat {n : Int} {c : List Nat} (h : ∀ a, c.head? = some a → a ≠ 32) : ∀ a, (c.flatMap (tab n)).head? = some a → a ≠ 32 := by
  intro a ha
  cases c with
  | nil => simp at ha
  | cons b r =>
    rw [List.flatMap_cons, List.head?_append] at ha
    rcases tab_head n b with e | ⟨e, _⟩
    · rw [e] at ha
      simp at ha
      subst ha
      exact h b rfl
    · rw [e] at ha
      simp at ha
      subst ha
      decide
theorem last_flat {n : Int} {c : List Nat} (h : ∀ a, c.reverse.head? = some a → a ≠ 32) : ∀ a, (c.flatMap (tab n)).reverse.head? = some a → a ≠ 32 := by
  intro a ha
  rcases List.eq_nil_or_concat c with rfl | ⟨r, b, rfl⟩
  · simp at ha
  · rw [List.concat_eq_append] at h ha
    have hb : b ≠ 32 := h b (by simp)
    rw [List.flatMap_append, List.reverse_append, List.head?_append] at ha
    have e1 : [b].flatMap (tab n) = tab n b := by simp
    rw [e1] at ha
    rcases tab_head n b with e | ⟨_, e⟩
    · rw [e] at ha
      simp at ha
      subst ha
      exact hb
    · rw [e] at ha
      simp at ha
      subst ha
      decide
theorem tight_flat {n : Int} {c : List Nat} (h : Tight c) : Tight (c.flatMap (tab n)) := ⟨head_flat h.1, last_flat h.2⟩
theorem flat_mono (n : Int) : ∀ l : List Nat, l.length ≤ (l.flatMap (tab n)).length
  | [] => by simp
  | a :: r => by
    rw [List.flatMap_cons, List.length_append, List.length_cons]
    have := flat_mono n r
    have := tab_pos n a
    omega
theorem tab_blank {n : Int} {k : Nat} (h : ∀ c ∈ tab n k, c = 32) : tab n k = [k] := by
  rcases tab_head n k with e | ⟨e, _⟩
  · exact e
  · cases ht : tab n k with
    | nil => exact absurd ht (tab_ne n k)
    | cons a r =>
      rw [ht] at e h
      simp at e
      have := h a (by simp)
      omega
theorem blank_back {n : Int} : ∀ {l : List Nat}, (∀ c ∈ l.flatMap (tab n), c = 32) → l.flatMap (tab n) = l
  | [], _ => rfl
  | a :: r, h => by
    rw [List.flatMap_cons] at h ⊢
    rw [blank_back (l := r) fun c hc => h c (List.mem_append.mpr (.inr hc)), tab_blank fun c hc => h c (List.mem_append.mpr (.inl hc))]
    rfl
theorem spell_mono (x : Str) (n : Int) : x.length ≤ (spell x n).length := by
  rw [← len_list, ← len_list (spell x n), spell_list]
  exact flat_mono n _
theorem spell_blank {x : Str} {n : Int} (h : ∀ c ∈ (spell x n).cps.toList, c = 32) : spell x n = x := by
  refine Str.ext' ?_
  have := blank_back (n := n) (l := x.cps.toList) h
  show (x.cps.toList.flatMap (tab n)).toArray = x.cps
  rw [this]
theorem fold_mono : ∀ (pre : List Int) (x : Str), x.length ≤ (pre.foldl spell x).length
  | [], _ => Nat.le_refl _
  | n :: r, x => Nat.le_trans (spell_mono x n) (fold_mono r (spell x n))
theorem fold_blank : ∀ (pre : List Int) (x : Str), (∀ c ∈ (pre.foldl spell x).cps.toList, c = 32) → pre.foldl spell x = x
  | [], _, _ => rfl
  | n :: r, x, h => by
    have h1 := fold_blank r (spell x n) h
    rw [List.foldl_cons, h1]
    rw [List.foldl_cons, h1] at h
    exact spell_blank h
theorem ends_lt {x : Str} (h : ¬ ∀ c ∈ x.cps.toList, c = 32) : lead x < x.length ∧ trail x < x.length := by
  obtain ⟨c, hc⟩ := Classical.not_forall.mp h
  obtain ⟨hm, hne⟩ := Classical.not_imp.mp hc
  have hb : (c == 32) = false := by simpa using hne
  unfold lead trail
  rw [← len_list]
  refine ⟨tw_lt ⟨c, hm, hb⟩, ?_⟩
  have := tw_lt (p := (· == 32)) (l := x.cps.toList.reverse) ⟨c, by simpa using hm, hb⟩
  simpa using this
theorem strip_ok1 (y : Str) (n : Int) : 0 ≤ ((spell y n).length : Int) - (y.length : Int) ∧ (((spell y n).length : Int) - (y.length : Int) = 0 ∨ lead (spell y n) < (spell y n).length ∧ trail (spell y n) < (spell y n).length) := by
  have := spell_mono y n
  refine ⟨by omega, ?_⟩
  by_cases h : ∀ c ∈ (spell y n).cps.toList, c = 32
  · left; rw [spell_blank h]; omega
  · right; exact ends_lt h
theorem strip_ok2 {line y : Str} {pre : List Int} (h : y = wideOf line pre) (n : Int) : 0 ≤ ((spell y n).length : Int) - (line.length : Int) ∧ (((spell y n).length : Int) - (line.length : Int) = 0 ∨ lead (spell y n) < (spell y n).length ∧ trail (spell y n) < (spell y n).length) := by
  have e : spell y n = (pre ++ [n]).foldl spell line := by rw [h]; exact (wideOf_snoc line pre n).symm
  have := fold_mono (pre ++ [n]) line
  rw [← e] at this
  refine ⟨by omega, ?_⟩
  by_cases hb : ∀ c ∈ (spell y n).cps.toList, c = 32
  · left
    rw [e] at hb
    have := fold_blank _ _ hb
    rw [e, this]; omega
  · right; exact ends_lt hb
end Mine
-- part P5
namespace Mine
theorem contains_b : ((Str.ofString " ").cps.contains : Nat → Bool) = isB := by
  funext c
  rw [blank_is]
  show (#[32] : Array Nat).contains c = (c == 32)
  by_cases h : c = 32
  · subst h; simp
  · have h1 : (c == 32) = false := by simpa using h
    rw [h1]
    simp
    omega
theorem mul_list (n : Int) : (Txt.mul (Str.ofString " ") n).cps.toList = bl n.toNat := by
  unfold Txt.mul
  rw [blank_is]
  split
  · rename_i h
    rw [show n.toNat = 0 by omega]; rfl
  · split
    · rename_i h1 h2
      have : n = 1 := by
        have e : ((⟨#[32]⟩ : Str).length == 0) = false := rfl
        rw [e, Bool.or_false] at h2
        simpa using h2
      subst this
      rfl
    · have key : ∀ (k : Nat) (a : Array Nat), ((List.replicate k (#[32] : Array Nat)).foldl (· ++ ·) a).toList = a.toList ++ bl k := by
        intro k
        induction k with
        | zero => intro a; simp [bl]
        | succ k ih =>
          intro a
          rw [List.replicate_succ, List.foldl_cons, ih]
          simp [bl, List.replicate_succ]
      have := key n.toNat #[]
      simpa using this
theorem field_list (line core : Str) : (fieldOf line core).cps.toList = bl (roomOf line core - keptOf line core).toNat ++ core.cps.toList ++ bl (keptOf line core).toNat := by
  unfold fieldOf
  simp only [Str.cps_append, Array.toList_append, mul_list]
theorem stripBy_list (goes : Nat → Bool) (l r : Bool) (x : Str) : (Txt.stripBy goes l r x).cps.toList = (x.cps.toList.drop (stripLo goes l x)).take (stripHi goes r x (stripLo goes l x) - stripLo goes l x) := by
  unfold Txt.stripBy
  split
  · rename_i h
    unfold stripSame at h
    rw [Bool.and_eq_true, beq_iff_eq, beq_iff_eq] at h
    rw [h.2, h.1]
    simp
    exact (StrLaws.take_all x).symm
  · exact StrLaws.strSub_toList _ _ _
theorem core0_list (line : Str) : (core0 line).cps.toList = (line.cps.toList.drop (lead line)).take (line.length - ((line.cps.toList.drop (lead line)).reverse.takeWhile isB).length - lead line) := by
  unfold core0 Txt.stripChars
  rw [contains_b, stripBy_list]
  rfl
theorem behind_is (line : Str) : behind line = trail line := by
  have e : (Txt.rstripChars line (Str.ofString " ")).length = line.length - trail line := by
    rw [← len_list]
    unfold Txt.rstripChars
    rw [contains_b, stripBy_list]
    show ((line.cps.toList.drop 0).take (line.length - ((line.cps.toList.drop 0).reverse.takeWhile isB).length - 0)).length = _
    rw [List.drop_zero, List.length_take, len_list]
    unfold trail
    show min (line.length - (List.takeWhile isB line.cps.toList.reverse).length - 0) line.length = line.length - (List.takeWhile isB line.cps.toList.reverse).length
    omega
  have h : trail line ≤ line.length := by
    have := (List.takeWhile_sublist (l := line.cps.toList.reverse) isB).length_le
    rw [List.length_reverse, len_list] at this
    exact this
  unfold behind
  rw [e]
  omega
/-- the line: blanks, the core, blanks -/
structure Shaped' (line : Str) (p q : Nat) (c : List Nat) : Prop where
  whole : line.cps.toList = bl p ++ c ++ bl q
  core : (core0 line).cps.toList = c
  back : behind line = q
  tight : Tight c
  nil : c = [] → p = 0
theorem head_dw (l : List Nat) : ∀ a, (l.dropWhile isB).head? = some a → a ≠ 32 := by
  induction l with
  | nil => intro a h; simp at h
  | cons b r ih =>
    intro a h
    rw [List.dropWhile_cons] at h
    split at h
    · exact ih a h
    · rename_i hb
      simp at h
      subst h
      simpa using hb
theorem split_l (l : List Nat) : l = bl (l.takeWhile isB).length ++ l.dropWhile isB := by
  conv => lhs; rw [← List.takeWhile_append_dropWhile (p := isB) (l := l)]
  rw [← tw_bl]
theorem split_r (l : List Nat) : l = (l.reverse.dropWhile isB).reverse ++ bl (l.reverse.takeWhile isB).length := by
  have h := congrArg List.reverse (split_l l.reverse)
  rw [List.reverse_reverse, List.reverse_append, bl_rev] at h
  exact h
theorem shape_ex (line : Str) : ∃ p q c, Shaped' line p q c := by
  have hd : line.cps.toList.drop (lead line) = line.cps.toList.dropWhile isB := by
    have h := split_l line.cps.toList
    have e : (bl (line.cps.toList.takeWhile isB).length).length = lead line := by rw [bl_len]; rfl
    conv => lhs; rw [h]
    rw [← e, List.drop_left]
  have hc := core0_list line
  rw [hd] at hc
  generalize hr : line.cps.toList.dropWhile isB = r at hc
  have hw : line.cps.toList = bl (lead line) ++ r := by
    have h := split_l line.cps.toList
    rw [hr] at h
    exact h
  have hlen : line.length = lead line + r.length := by rw [← len_list, hw]; simp [bl]
  have hhead : ∀ a, r.head? = some a → a ≠ 32 := by rw [← hr]; exact head_dw _
  by_cases hn : r = []
  · -- all blanks
    subst hn
    refine ⟨0, line.length, [], ?_, by rw [hc]; simp, ?_, ⟨by simp, by simp⟩, fun _ => rfl⟩
    · rw [hw]
      simp at hlen
      rw [hlen]
      simp [bl]
    · rw [behind_is]
      unfold trail
      rw [hw]
      simp at hlen
      rw [List.append_nil, bl_rev]
      have : (bl (lead line)).takeWhile isB = bl (lead line) := by
        have := bl_tw (lead line) []
        simpa using this
      show ((List.takeWhile isB (bl (lead line))).length : Int) = _
      rw [this, bl_len, hlen]
  · have hs := split_r r
    generalize ht : (r.reverse.takeWhile isB).length = t at hs hc
    generalize hcc : (r.reverse.dropWhile isB).reverse = c at hs
    have hrev : r.reverse.dropWhile isB = c.reverse := by rw [← hcc, List.reverse_reverse]
    have hcn : c ≠ [] := by
      intro e
      subst e
      rw [List.nil_append] at hs
      cases hr' : r with
      | nil => exact hn hr'
      | cons a r' =>
        have := hhead a (by rw [hr']; rfl)
        rw [hs] at hr'
        cases t with
        | zero => simp [bl] at hr'
        | succ t =>
          have : (32 :: bl t) = a :: r' := hr'
          simp at this
          omega
    have hlast : ∀ a, c.reverse.head? = some a → a ≠ 32 := by rw [← hrev]; exact head_dw _
    have hfirst : ∀ a, c.head? = some a → a ≠ 32 := by
      intro a ha
      refine hhead a ?_
      rw [hs, List.head?_append, ha]
      rfl
    have hrl : r.length = c.length + t := by rw [hs]; simp [bl]
    have hcore : (core0 line).cps.toList = c := by
      rw [hc]
      have e : line.length - t - lead line = c.length := by omega
      rw [e]
      conv => lhs; rw [hs]
      rw [List.take_left]
    have hwhole : line.cps.toList = bl (lead line) ++ c ++ bl t := by rw [hw, List.append_assoc, ← hs]
    refine ⟨lead line, t, c, hwhole, hcore, ?_, ⟨hfirst, hlast⟩, fun e => absurd e hcn⟩
    rw [behind_is, trail_pad hwhole ⟨hfirst, hlast⟩ hcn]
theorem len_pad {x : Str} {p q : Nat} {c : List Nat} (h : x.cps.toList = bl p ++ c ++ bl q) : x.length = p + c.length + q := by
  rw [← len_list, h]; simp [bl]; omega
/-- the field's two margins -/
theorem field_pad {line : Str} {p q : Nat} {c₀ : List Nat} (S : Shaped' line p q c₀) (core : Str) : (fieldOf line core).cps.toList =
    bl ((p + c₀.length + q - core.length) - min q (p + c₀.length + q - core.length)) ++ core.cps.toList ++ bl (min q (p + c₀.length + q - core.length)) := by
  rw [field_list]
  have hl := len_pad S.whole
  have hb := S.back
  have e1 : (keptOf line core).toNat = min q (p + c₀.length + q - core.length) := by
    unfold keptOf roomOf
    rw [hb, hl]
    (repeat' split) <;> omega
  have e2 : (roomOf line core - keptOf line core).toNat = (p + c₀.length + q - core.length) - min q (p + c₀.length + q - core.length) := by
    unfold keptOf roomOf
    rw [hb, hl]
    (repeat' split) <;> omega
  rw [e1, e2]
theorem fold_tight : ∀ (pre : List Int) (c : Str), Tight c.cps.toList → Tight (pre.foldl spell c).cps.toList
  | [], _, h => h
  | n :: r, c, h => fold_tight r (spell c n) (tight_flat h)
theorem fold_nil : ∀ (pre : List Int) (c : Str), (pre.foldl spell c).cps.toList = [] → c.cps.toList = []
  | [], _, h => h
  | n :: r, c, h => flat_nil (fold_nil r (spell c n) h)
theorem str_eq {x y : Str} (h : x.cps.toList = y.cps.toList) : x = y := Str.ext' (by rw [← Array.toArray_toList (xs := x.cps), h])
theorem narrow_nil (line : Str) : narrowOf line [] = line := by
  obtain ⟨p, q, c, S⟩ := shape_ex line
  refine str_eq ?_
  show (fieldOf line (core0 line)).cps.toList = _
  have hcl : (core0 line).length = c.length := by rw [← len_list, S.core]
  rw [field_pad S, S.core, S.whole, hcl]
  have e1 : p + c.length + q - c.length = p + q := by omega
  rw [e1, show min q (p + q) = q by omega, show p + q - q = p by omega]
theorem wide_pad {line : Str} {p q : Nat} {c₀ : List Nat} (S : Shaped' line p q c₀) : ∀ pre : List Int, (wideOf line pre).cps.toList = bl p ++ (coreOf line pre).cps.toList ++ bl q := by
  have key : ∀ (pre : List Int) (x c : Str), x.cps.toList = bl p ++ c.cps.toList ++ bl q → (pre.foldl spell x).cps.toList = bl p ++ (pre.foldl spell c).cps.toList ++ bl q := by
    intro pre
    induction pre with
    | nil => exact fun x c h => h
    | cons n r ih => exact fun x c h => ih (spell x n) (spell c n) (spell_pad n h)
  exact fun pre => key pre line (core0 line) (by rw [S.core]; exact S.whole)
theorem pad_eq {a a' b b' : Nat} {c : List Nat} (h : a = a') (k : b = b') : bl a ++ c ++ bl b = bl a' ++ c ++ bl b' := by rw [h, k]
theorem strip_gen {x : Str} {a b : Nat} {c : List Nat} {G : Int} (hx : x.cps.toList = bl a ++ c ++ bl b) (ht : Tight c) (g : Nat) (hG : G = g) (hg : c = [] → g = 0) :
    (stripPad x G).cps.toList = bl (a - min g a) ++ c ++ bl (b - min (g - min g a) b) := by
  subst hG
  by_cases hn : c = []
  · have h0 := hg hn
    subst h0
    have e : (stripPad x ((0 : Nat) : Int)).cps.toList = x.cps.toList := strip0 x
    rw [e, hx]
    exact pad_eq (by omega) (by omega)
  · rw [strip_pad hx ht hn (by omega)]
    exact pad_eq (by omega) (by omega)
theorem narrow_step (line : Str) (pre : List Int) (n : Int) :
    stripPad (spell (narrowOf line pre) n) (((spell (narrowOf line pre) n).length : Int) - ((narrowOf line pre).length : Int)) = narrowOf line (pre ++ [n]) := by
  obtain ⟨p, q, c₀, S⟩ := shape_ex line
  refine str_eq ?_
  have hN : (narrowOf line pre).cps.toList = _ := field_pad S (coreOf line pre)
  have hN' : (narrowOf line (pre ++ [n])).cps.toList = _ := field_pad S (coreOf line (pre ++ [n]))
  have ht0 : Tight (coreOf line pre).cps.toList := fold_tight pre (core0 line) (by rw [S.core]; exact S.tight)
  have hc' : (coreOf line (pre ++ [n])).cps.toList = (coreOf line pre).cps.toList.flatMap (tab n) := by rw [coreOf_snoc]; rfl
  rw [← len_list, hc'] at hN'
  rw [← len_list (coreOf line pre)] at hN
  rw [hN']
  clear hN' hc'
  generalize narrowOf line pre = x at *
  generalize (coreOf line pre).cps.toList = c at *
  have hS := spell_pad n hN
  have hm := flat_mono n c
  have h1 := len_pad hN
  have h2 := len_pad hS
  have hnil : c.flatMap (tab n) = [] → (c.flatMap (tab n)).length - c.length = 0 := fun h => by rw [h]; simp
  rw [strip_gen hS (tight_flat ht0) ((c.flatMap (tab n)).length - c.length) (by omega) hnil]
  exact pad_eq (by omega) (by omega)
theorem wide_step (line : Str) (pre : List Int) (n : Int) :
    stripPad (spell (wideOf line pre) n) (((spell (wideOf line pre) n).length : Int) - (line.length : Int)) = narrowOf line (pre ++ [n]) := by
  obtain ⟨p, q, c₀, S⟩ := shape_ex line
  refine str_eq ?_
  rw [← wideOf_snoc]
  have hW := wide_pad S (pre ++ [n])
  have hN' : (narrowOf line (pre ++ [n])).cps.toList = _ := field_pad S (coreOf line (pre ++ [n]))
  rw [← len_list (coreOf line (pre ++ [n]))] at hN'
  have ht : Tight (coreOf line (pre ++ [n])).cps.toList := fold_tight (pre ++ [n]) (core0 line) (by rw [S.core]; exact S.tight)
  have hm : c₀.length ≤ (coreOf line (pre ++ [n])).cps.toList.length := by
    have := fold_mono (pre ++ [n]) (core0 line)
    rw [← len_list, ← len_list, S.core] at this
    exact this
  have hnil : (coreOf line (pre ++ [n])).cps.toList = [] → c₀ = [] := fun h => by
    have := fold_nil (pre ++ [n]) (core0 line) h
    rw [S.core] at this
    exact this
  have h1 := len_pad S.whole
  have h2 := len_pad hW
  rw [hN']
  clear hN'
  generalize wideOf line (pre ++ [n]) = x at *
  generalize (coreOf line (pre ++ [n])).cps.toList = c at *
  have hg : c = [] → c.length - c₀.length = 0 := fun h => by rw [h]; simp
  have hp : c = [] → p = 0 := fun h => S.nil (hnil h)
  rw [strip_gen hW ht (c.length - c₀.length) (by omega) hg]
  by_cases hn : c = []
  · have := hp hn
    have h0 := hnil hn
    subst hn
    subst h0
    exact pad_eq (by first | omega | (simp; done) | (simp; omega)) (by first | omega | (simp; done) | (simp; omega))
  · exact pad_eq (by omega) (by omega)
theorem core0_len (line : Str) : (core0 line).length ≤ line.length := by
  rw [← len_list, ← len_list line, core0_list]
  rw [List.length_take, List.length_drop]
  omega
theorem field_len (line core : Str) : (fieldOf line core).length ≤ max line.length core.length := by
  obtain ⟨p, q, c, S⟩ := shape_ex line
  have h := len_pad (field_pad S core)
  have h1 := len_pad S.whole
  rw [len_list] at h
  omega
theorem lay_start {line : Str} (hl : line.length ≤ 40) : line = narrowOf line [] ∧ line = wideOf line [] ∧ ([] : List Dat) = dueD line [] ∧ ([] : List Dat).length = ([] : List Int).length ∧ (([] : List Int).length ≤ 3 → line.length ≤ 8640 ∧ line.length ≤ 8640) :=
  ⟨(narrow_nil line).symm, rfl, rfl, rfl, fun _ => ⟨by omega, by omega⟩⟩
theorem lay_step {line narrow wide : Str} {pre : List Int} {n : Int} (hn : narrow = narrowOf line pre) (hw : wide = wideOf line pre) (hl : line.length ≤ 40) :
    stripPad (spell narrow n) (((spell narrow n).length : Int) - (narrow.length : Int)) = narrowOf line (pre ++ [n]) ∧ spell wide n = wideOf line (pre ++ [n]) ∧
    dueD line pre ++ [Dat.list [Dat.str (stripPad (spell narrow n) (((spell narrow n).length : Int) - (narrow.length : Int))), Dat.str (stripPad (spell wide n) (((spell wide n).length : Int) - (line.length : Int)))]] = dueD line (pre ++ [n]) ∧
    (dueD line pre ++ [Dat.list [Dat.str (stripPad (spell narrow n) (((spell narrow n).length : Int) - (narrow.length : Int))), Dat.str (stripPad (spell wide n) (((spell wide n).length : Int) - (line.length : Int)))]]).length = (pre ++ [n]).length ∧
    ((pre ++ [n]).length ≤ 3 → (stripPad (spell narrow n) (((spell narrow n).length : Int) - (narrow.length : Int))).length ≤ 8640 ∧ (spell wide n).length ≤ 8640) := by
  subst hn
  subst hw
  rw [narrow_step, wide_step]
  refine ⟨rfl, (wideOf_snoc line pre n).symm, (dueD_snoc line pre n).symm, ?_, fun h => ⟨?_, ?_⟩⟩
  · rw [List.length_append, dueD_len, List.length_append]; rfl
  · have h1 := field_len line (coreOf line (pre ++ [n]))
    have h2 : (coreOf line (pre ++ [n])).length ≤ 8640 := fold_len3 h (Nat.le_trans (core0_len line) hl)
    show (fieldOf line (coreOf line (pre ++ [n]))).length ≤ 8640
    omega
  · rw [← wideOf_snoc]
    exact fold_len3 h hl
-- the signs are signs
def okS (x : Str) : Prop := ∀ c ∈ x.cps.toList, c < 1114112
theorem tab_ok {n : Int} {k : Nat} (h : k < 1114112) : ∀ c ∈ tab n k, c < 1114112 := by
  unfold tab
  repeat' split
  all_goals (intro c hc; simp only [List.mem_cons, List.not_mem_nil, or_false] at hc; omega)
theorem spell_ok {x : Str} (h : okS x) (n : Int) : okS (spell x n) := by
  intro c hc
  rw [spell_list, List.mem_flatMap] at hc
  obtain ⟨k, hk, hc⟩ := hc
  exact tab_ok (h k hk) c hc
theorem fold_ok : ∀ (pre : List Int) {x : Str}, okS x → okS (pre.foldl spell x)
  | [], _, h => h
  | n :: r, _, h => fold_ok r (spell_ok h n)
theorem narrow_ok {line : Str} (h : okS line) (pre : List Int) : okS (narrowOf line pre) := by
  have h0 : okS (core0 line) := fun c hc => by
    rw [core0_list] at hc
    exact h c (List.mem_of_mem_drop (List.mem_of_mem_take hc))
  have h1 := fold_ok pre h0
  intro c hc
  have hf : (narrowOf line pre).cps.toList = _ := field_list line (coreOf line pre)
  rw [hf, List.mem_append, List.mem_append] at hc
  rcases hc with (hc | hc) | hc
  · have := List.eq_of_mem_replicate hc; omega
  · exact h1 c hc
  · have := List.eq_of_mem_replicate hc; omega
theorem due_ok {line : Str} (h : okS line) (ns : List Int) : ∀ d ∈ dueD line ns, kqdOk 8 d = true := by
  intro d hd
  obtain ⟨i, _, rfl⟩ := List.mem_map.mp hd
  have h1 := narrow_ok h (ns.take (i + 1))
  have h2 : PyData.strOk (narrowOf line (ns.take (i + 1))) = true := by
    unfold PyData.strOk
    rw [Array.all_eq_true']
    intro c hc
    exact decide_eq_true (h1 c (by simpa using hc))
  simp [itemD, kqdOk, h2]
end Mine
-- part V1
namespace Mine
theorem esc_use {w : World} {mean : ExcName → Option Value} {mg mb : Str → Option Value} {news : List (Addr × Obj)} {x : Str} {t : Tok} {k : Int} {u : Tok}
    {dp un : Nat} {gd : Option (List Code)} {cn : Str} {cs : Scope} {a : Addr} {ccd : Value} {cl : List (Str × Addr)} {outer : List Env} {A₀ : Around} {base h₀ : Heap} {L : Addr} {m : Str → Option Value} {s : Shared} {Q E : Value → Shared → Prop}
    (B : Below A₀ base outer h₀) (F : Fr h₀ L s.heap m) (X : (Mine.hd.heap_39 w.params).In h₀) (N : News h₀ L s.heap news) (T : Top Mine.hd.view_39 (looseW Mine.hd.view_39 []) mean mg mb h₀) (hk : cs.kind = .function)
    (hp : x.length ≤ 100000 ∧ 0 ≤ k ∧ k < 5) (hd : dp + 2 < recursionLimit) (hu : un + 8 * 2 < cLine) (hr : ∀ (t : Tok) (h' : Heap) (tk' : Nat), (spell x k).length ≤ 6 * x.length → Fr h₀ L h' m → News h₀ L h' news → Q (.str (spell x k) t) { s with heap := h', toks := tk' }) :
      wpAny (model Challenge.rw_nb0118_01.row.prog w) (ktrTop dp un gd cn cs L a ccd cl outer) (call (.ref 75) [.str x t, .int k u]) Q E s :=
  Cl.use (esc_cl w mean mg mb news x t k u) B F X N T hk hp hd hu fun t h' tk' F' N' => hr t h' tk' (spell_len x k) F' N'
theorem strip_use {w : World} {mean : ExcName → Option Value} {mg mb : Str → Option Value} {news : List (Addr × Obj)} {x : Str} {t : Tok} {k : Int} {u : Tok}
    {dp un : Nat} {gd : Option (List Code)} {cn : Str} {cs : Scope} {a : Addr} {ccd : Value} {cl : List (Str × Addr)} {outer : List Env} {A₀ : Around} {base h₀ : Heap} {L : Addr} {m : Str → Option Value} {s : Shared} {Q E : Value → Shared → Prop}
    (B : Below A₀ base outer h₀) (F : Fr h₀ L s.heap m) (X : (Mine.hd.heap_39 w.params).In h₀) (N : News h₀ L s.heap news) (T : Top Mine.hd.view_39 (looseW Mine.hd.view_39 []) mean mg mb h₀) (hk : cs.kind = .function)
    (hp1 : x.length ≤ 100000) (hp : 0 ≤ k ∧ (k = 0 ∨ lead x < x.length ∧ trail x < x.length)) (hd : dp + 1 < recursionLimit) (hu : un + 8 * 1 < cLine) (hr : ∀ (t : Tok) (h' : Heap) (tk' : Nat), Fr h₀ L h' m → News h₀ L h' news → Q (.str (stripPad x k) t) { s with heap := h', toks := tk' }) :
      wpAny (model Challenge.rw_nb0118_01.row.prog w) (ktrTop dp un gd cn cs L a ccd cl outer) (call (.ref 21) [.str x t, .int k u]) Q E s :=
  Cl.use (strip_cl w mean mg mb news x t k u) B F X N T hk ⟨hp1, hp⟩ hd hu hr
local macro_rules | `(tactic| walk_at "none of V1") => `(tactic| skip)
local macro_rules | `(tactic| walk_at "cl_use") => `(tactic| (
  (case k1 => k_asm); (case k2 => k_asm); (case k3 => k_asm); (case k4 => k_asm); (case k5 => k_asm); (case kK => first | exact rfl | assumption);
  (case kd => first | ktr_room | ((simp only [depth_deeper, recursionLimit] at *); omega)); (case ku => first | ktr_units | ((have hcL9 := cLine_is); (simp only [units_deeper, cLine] at *); omega))))
local macro_rules | `(tactic| walk_at "call ref") => `(tactic| (k_here; k_dflt (first
  | (refine' esc_use ?k1 ?k2 ?k3 ?k4 ?k5 ?kK ?kp ?kd ?ku ?_; (case kp => omega); walk_at "cl_use"; (intro t9 h9 tk9 hb9 F9 N9); (try dsimp only); (try k_fold))
  | (refine' strip_use ?k1 ?k2 ?k3 ?k4 ?k5 ?kK ?kq ?kp ?kd ?ku ?_; (case kq => omega); (case kp => first | exact strip_ok1 _ _ | exact strip_ok2 (by assumption) _); walk_at "cl_use"; (intro t9 h9 tk9 F9 N9); (try dsimp only); (try k_fold)))))
set_option maxHeartbeats 1600000 in
theorem lay_cl (w : World) (mean : ExcName → Option Value) (mg mb : Str → Option Value) (news : List (Addr × Obj)) (line : Str) (t : Tok) (l : Addr) (vs : List Value) (ns : List Int) (nn : Nat) :
    ClD w mean mg mb 87 3 ((l, W.listOf vs.toArray nn) :: news) (line.length ≤ 40 ∧ IntsAre vs ns ∧ ns.length ≤ 4 ∧ ∀ k ∈ ns, 0 ≤ k ∧ k < 5) [.str line t, .ref l] (dueD line ns) := by
  unfold ClD
  k_with_none
  w_top off
  k_fill
  intro dp un gd cn cs ad ccd cl outer A₀ base h₀ L m s Q E B F X N T hk hpre hd hu hret
  obtain ⟨hp1, hI, hp3, hp4⟩ := hpre
  refine wpAny_call ?_
  k_dflt cell_enter
  have hMk := kstMark
  k_with "pyIter ref" =>
    k_dat (fun (pre : List Int) narrow wide told => narrow = narrowOf line pre ∧ wide = wideOf line pre ∧ told = dueD line pre ∧ told.length = pre.length ∧ (pre.length ≤ 3 → narrow.length ≤ 8640 ∧ wide.length ≤ 8640)) "narrow" "wide" "told*"
    have hb8 := turn_len hp3 hp4 kEq
  k_with "state" => first
    | with_reducible exact lay_start hp1
    | with_reducible exact lay_step (by assumption) (by assumption) hp1
  k_steps
  refine hret _ _ _ _ _ _ (by assumption) (fun p hp => News.mem_of (by assumption) hp) (by assumption)
end Mine
-- part N1
namespace Mine
def pieceOf (k : Int) : Str := [Str.ofString "&", Str.ofString "<", Str.ofString ">", Str.ofString "\"", Str.ofString "a", Str.ofString " ", Str.ofString "\x0d", Str.ofString "&lt;", Str.ofString "7", Str.ofString "\t", Str.ofString "  ", Str.ofString "<&"].getD (k.fmod 12).toNat Str.empty
theorem piece_len (k : Int) : (pieceOf k).length ≤ 4 := KOpn.len_getD (by decide +kernel)
theorem sum_len (g : Int → Str) {b : Nat} (h : ∀ a, (g a).length ≤ b) : ∀ l : List Int, (l.map fun a => (g a).length).sum ≤ b * l.length
  | [] => by simp
  | a :: r => by
    have := sum_len g h r
    have := h a
    rw [List.map_cons, List.sum_cons, List.length_cons, Nat.mul_succ]
    omega
theorem join_len (g : Int → Str) (l : List Int) : (Txt.join (Str.ofString "") (l.map g)).length = (l.map fun a => (g a).length).sum := by
  show (Builtin.Str.glued (Str.ofString "") (l.map g)).length = _
  rw [StrLaws.glued_eq_join]
  have e0 : (Str.ofString "").length = 0 := by decide +kernel
  induction l with
  | nil => rfl
  | cons a r ih =>
    cases r with
    | nil => simp [Str.join]
    | cons b r' =>
      show (g a ++ Str.ofString "" ++ Str.join (Str.ofString "") ((b :: r').map g)).length = _
      rw [Str.length_append, Str.length_append, ih, e0]
      simp [List.map_cons, List.sum_cons]
theorem text_len {l : List Int} (h : l.length ≤ 4) : (Txt.join (Str.ofString "") (l.map pieceOf)).length ≤ 16 := by
  rw [join_len]
  have := sum_len pieceOf piece_len l
  omega
theorem okS_app {x y : Str} (hx : okS x) (hy : okS y) : okS (x ++ y) := by
  intro c hc
  simp only [Str.cps_append, Array.toList_append, List.mem_append] at hc
  exact hc.elim (hx c) (hy c)
theorem okS_of {x : Str} (h : x.cps.toList.all (fun c => decide (c < 1114112)) = true) : okS x := fun c hc => by
  have := List.all_eq_true.mp h c hc
  simpa using this
theorem okS_getD {l : List Str} {d : Str} (h : ∀ x ∈ d :: l, okS x) (i : Nat) : okS (l.getD i d) := by
  rw [List.getD_eq_getElem?_getD]
  cases e : l[i]? with
  | none => exact h d (by simp)
  | some x => exact h x (List.mem_cons_of_mem _ (List.mem_of_getElem? e))
theorem okS_piece (k : Int) : okS (pieceOf k) := by
  refine okS_getD ?_ _
  intro x hx
  simp only [List.mem_cons, List.not_mem_nil, or_false] at hx
  rcases hx with rfl | rfl | rfl | rfl | rfl | rfl | rfl | rfl | rfl | rfl | rfl | rfl | rfl <;> exact okS_of (by decide +kernel)
theorem okS_join (g : Int → Str) (h : ∀ k, okS (g k)) : ∀ l : List Int, okS (Txt.join (Str.ofString "") (l.map g)) := by
  intro l
  show okS (Builtin.Str.glued (Str.ofString "") (l.map g))
  rw [StrLaws.glued_eq_join]
  have e0 : okS (Str.ofString "") := okS_of (by decide +kernel)
  induction l with
  | nil => exact fun c hc => nomatch hc
  | cons a r ih =>
    cases r with
    | nil => exact h a
    | cons b r' => exact okS_app (okS_app (h a) e0) ih
theorem okS_mul (n : Int) : okS (Txt.mul (Str.ofString " ") n) := by
  have e : okS (Str.ofString " ") := okS_of (by decide +kernel)
  unfold Txt.mul
  split
  · exact okS_of (by decide +kernel)
  · split
    · exact e
    · have key : ∀ (k : Nat) (a : Array Nat), okS ⟨a⟩ → okS ⟨(List.replicate k (Str.ofString " ").cps).foldl (· ++ ·) a⟩ := by
        intro k
        induction k with
        | zero => intro a ha; exact ha
        | succ k ih =>
          intro a ha
          rw [List.replicate_succ, List.foldl_cons]
          exact ih _ (okS_app (x := ⟨a⟩) ha e)
      exact key _ _ (okS_of (by decide +kernel))
section
variable {prog : Program} {w : World} {A : Around} {E : Value → Shared → Prop} {s : Shared} {Q : Value → Shared → Prop}
theorem join_pc {l : List Int} {D : Addr} {ys : List Value} {t : Tok} (hl : s.heap.IsList D ys.toArray) (hc : CarriedAll ys (l.map fun k => PyData.str (pieceOf k))) (h4 : l.length ≤ 4)
    (h : ∀ x t' tk, okS x → x.length ≤ 16 → Q (.str x t') { s with toks := tk }) : wpAny (model prog w) A (call (.builtin "str.join") [.str (Str.ofString "") t, .ref D]) Q E s :=
  KT.join_B 4 hl hc (fun a _ => piece_len a) (by omega) (by decide +kernel) fun t' tk => h _ t' tk (okS_join pieceOf okS_piece l) (text_len h4)
theorem mul_bl {n : Int} {t u : Tok} (h0 : 0 ≤ n) (h1 : n ≤ 8) (h : ∀ x t' tk, okS x → x.length ≤ 8 → Q (.str x t') { s with toks := tk }) : wpAny (model prog w) A (binaryOp .Mult (.str (Str.ofString " ") t) (.int n u)) Q E s := by
  have e : (Str.ofString " ").length = 1 := by decide +kernel
  have hm : (Txt.mul (Str.ofString " ") n).length ≤ 8 := by
    unfold Txt.mul
    split
    · decide
    · split
      · rw [e]; decide
      · show ((List.replicate n.toNat (Str.ofString " ").cps).foldl (· ++ ·) #[]).size ≤ 8
        have key : ∀ (k : Nat) (a : Array Nat), ((List.replicate k (Str.ofString " ").cps).foldl (· ++ ·) a).size = a.size + k := by
          intro k
          induction k with
          | zero => intro a; simp
          | succ k ih =>
            intro a
            rw [List.replicate_succ, List.foldl_cons, ih, Array.size_append]
            have : (Str.ofString " ").cps.size = 1 := e
            omega
        rw [key]
        simp
        omega
  refine SB.mul (mulOk_of 255 255 (by rw [e]; decide) (by omega) (by omega) (by decide) (by decide)) ?_
  intro t' k
  exact h _ t' k (okS_mul n) hm
theorem ints_dat {nw : List (Addr × Obj)} : ∀ {vs : List Value} {ns : List Int}, IntsAre vs ns → DatAll nw vs (ns.map Dat.int)
  | _, _, .nil => .nil
  | _, _, .cons _ _ r => .cons (.int _ _) (ints_dat r)
theorem ne_nil {h₀ : Heap} {L a b : Addr} {news : List (Addr × Obj)} {xs : List Value} {ns : List Int} {ka kb : Nat} (N : News h₀ L s.heap news) (ma : (a, W.listOf xs.toArray ka) ∈ news) (hI : IntsAre xs ns) (mb : (b, W.listOf #[] kb) ∈ news) (hu : A.units + 64 < cLine)
    (h : ∀ c, Q (.bool c) s) : wpAny (model prog w) A (compareOp .NotEq (.ref a) (.ref b)) Q E s :=
  kqd_ne (xs := xs) (ys := []) (n₁ := []) (n₂ := []) (ds := ns.map Dat.int) (es := []) N ma rfl rfl (ints_dat hI) (fun _ h => nomatch h) mb rfl rfl .nil (fun _ h => nomatch h) (fun d hd => by obtain ⟨k, _, rfl⟩ := List.mem_map.mp hd; rfl) (fun _ h => nomatch h) hu (h _)
end
def ClS (w : World) (mean : ExcName → Option Value) (mg mb : Str → Option Value) (f : Addr) (n : Nat) (news : List (Addr × Obj)) (pre : Prop) (vs : List Value) (P : Str → Prop) : Prop :=
  ∀ (dp un : Nat) (gd : Option (List Code)) (cn : Str) (cs : Scope) (a : Addr) (ccd : Value) (cl : List (Str × Addr)) (outer : List Env) (A₀ : Around) (base h₀ : Heap) (L : Addr) (m : Str → Option Value) (s : Shared) (Q E : Value → Shared → Prop),
    Below A₀ base outer h₀ → Fr h₀ L s.heap m → (Mine.hd.heap_39 w.params).In h₀ → News h₀ L s.heap news → Top Mine.hd.view_39 (looseW Mine.hd.view_39 []) mean mg mb h₀ → cs.kind = .function →
    pre → dp + n < recursionLimit → un + 8 * n < cLine →
    (∀ (y : Str) (t : Tok) (h' : Heap) (tk' : Nat), P y → Fr h₀ L h' m → News h₀ L h' news → Q (.str y t) { s with heap := h', toks := tk' }) →
      wpAny (model Challenge.rw_nb0118_01.row.prog w) (ktrTop dp un gd cn cs L a ccd cl outer) (call (.ref f) vs) Q E s
local macro_rules | `(tactic| walk_at "CompSrc") => `(tactic| (k_here; k_dflt (
  (refine LCg.CompSrc.ledger (by rfl) (by k_asm) (by k_asm) (by k_mem) (by (rw [PySem.sizeLine_eq]; (have hb9 := IntsAre.length (by assumption)); (simp only [List.size_toArray]); omega)) ?_; intro g'; (refine' kct_list pieceOf (by assumption) (fun k' t' I' oI' C' oC' D' m' ys' h' tk' E' hk' hC' hx' F' N' off' ne' => ?_) ?_); (all_goals (try (simp only [LCg.Off3, and_true] at off'))); (all_goals (try ((show KPfMark → _); intro hMark'))); kcf_last))))
local macro_rules | `(tactic| walk_at "call builtin:str.join") => `(tactic| (k_here; k_dflt (refine' join_pc ?kl ?ks ?kx ?_; (case kl => exact News.isList (by k_asm) (by k_mem)); (case ks => assumption); (case kx => assumption); (intro x9 t9 tk9 ho9 hx9))))
local macro_rules | `(tactic| walk_at "binaryOp Mult str int") => `(tactic| (k_here; k_dflt (refine' mul_bl ?k1 ?k2 ?_; (case k1 => ((try k_fmods); omega)); (case k2 => ((try k_fmods); omega)); (intro x9 t9 tk9 ho9 hx9))))
local macro_rules | `(tactic| walk_at "compareOp NotEq ref ref") => `(tactic| (k_here; k_dflt (refine' ne_nil ?k1 ?k2 ?k3 ?k4 ?k5 ?_; (case k1 => k_asm); (case k2 => k_mem); (case k3 => assumption); (case k4 => k_mem); (case k5 => ((have hcL9 := cLine_is); (simp only [units_deeper, cLine] at *); omega)); (intro c9))))
set_option maxHeartbeats 1600000 in
theorem line_cl (w : World) (mean : ExcName → Option Value) (mg mb : Str → Option Value) (news : List (Addr × Obj)) (hd' : Int) (t : Tok) (l : Addr) (vs : List Value) (ns : List Int) (nn : Nat) :
    ClS w mean mg mb 80 10 ((l, W.listOf vs.toArray nn) :: news) (IntsAre vs ns ∧ ns.length ≤ 4) [.int hd' t, .ref l] (fun y => okS y ∧ y.length ≤ 40) := by
  unfold ClS
  k_with_none
  w_top off
  k_fill
  intro dp un gd cn cs ad ccd cl outer A₀ base h₀ L m s Q E B F X N T hk hpre hd hu hret
  obtain ⟨hI, hp3⟩ := hpre
  refine wpAny_call ?_
  k_dflt (refine' code_defC ?k1 ?k2 ?k3 ?k4 ?k5 ?kA ?kF ?kK ?k6 ?k7 ?k8 ?k9 ?kB ?kD ?_ ?c2 ?c3 ?c4; (case kA => exact rfl); (case kF => exact rfl); (case kK => assumption); (case k1 => k_asm); (case k2 => k_asm); (case k3 => k_asm); (case k4 => k_asm); (case k5 => k_asm); (case k6 => k_is); (case k7 => k_is); (case k8 => ktr_room); (case k9 => exact BindsTo.of_eq rfl); (case kB => exact rfl); (case kD => decide +kernel); (case c2 => exact rfl); (case c3 => exact rfl); (case c4 => exact rfl); k_whole; intro g' L' h' tk' cells' FG' F' N' Y' B' X' T' l1; (try k_lt l1); k_cells Y'; (try simp only [List.cons_append, List.nil_append] at N'); (try dsimp only); (try k_lift B'); (try k_fold))
  have hMk := kstMark
  have l2 : ∀ p ∈ news, p.1 < L' + 1 := fun p hp => Nat.lt_succ_of_lt (kst_ltOf l1.2 p hp)
  k_steps
  · exact ⟨_, _, _, rfl, by assumption, by assumption, (by (simp only [LCg.Off3, and_true]; first | assumption | (simp only [LCg.Off3, and_true] at *; assumption))), .inr ⟨_, (by k_mem), rfl, _, rfl⟩, rfl, _, rfl⟩
  all_goals exact hret _ _ _ _ ⟨okS_app (okS_app (by assumption) (by first | assumption | exact okS_of (by decide +kernel))) (by assumption), by (have e9 : (Str.ofString "a <").length = 3 := by decide +kernel); (simp only [Str.length_append]); omega⟩ (by k_asm) (cb_drop (by assumption) (fun p hp => by
    rcases List.mem_cons.mp hp with rfl | hp
    · k_mem
    · repeat (first | exact hp | apply List.mem_cons_of_mem)))
end Mine
-- part W1
namespace Mine
theorem News.twice {h₀ h : Heap} {L : Addr} {p : Addr × Obj} {news : List (Addr × Obj)} (N : News h₀ L h news) (hm : p ∈ news) : News h₀ L h (p :: news) := fun q hq => by
  rcases List.mem_cons.mp hq with rfl | hq
  · exact N _ hm
  · exact N _ hq
section
variable {w : World} {mean : ExcName → Option Value} {mg mb : Str → Option Value} {news : List (Addr × Obj)} {dp un : Nat} {gd : Option (List Code)} {cn : Str} {cs : Scope} {a : Addr} {ccd : Value} {cl : List (Str × Addr)} {outer : List Env} {A₀ : Around} {base h₀ : Heap} {L : Addr} {m : Str → Option Value} {s : Shared} {Q E : Value → Shared → Prop}
theorem line_use {hd' : Int} {t : Tok} {l : Addr} {vs : List Value} {ns : List Int} {nn : Nat}
    (B : Below A₀ base outer h₀) (F : Fr h₀ L s.heap m) (X : (Mine.hd.heap_39 w.params).In h₀) (N : News h₀ L s.heap news) (T : Top Mine.hd.view_39 (looseW Mine.hd.view_39 []) mean mg mb h₀) (hk : cs.kind = .function)
    (hm : (l, W.listOf vs.toArray nn) ∈ news) (hI : IntsAre vs ns) (h4 : ns.length ≤ 4) (hd : dp + 10 < recursionLimit) (hu : un + 8 * 10 < cLine)
    (hr : ∀ (y : Str) (t : Tok) (h' : Heap) (tk' : Nat), okS y → y.length ≤ 40 → Fr h₀ L h' m → News h₀ L h' news → Q (.str y t) { s with heap := h', toks := tk' }) :
      wpAny (model Challenge.rw_nb0118_01.row.prog w) (ktrTop dp un gd cn cs L a ccd cl outer) (call (.ref 80) [.int hd' t, .ref l]) Q E s :=
  line_cl w mean mg mb news hd' t l vs ns nn dp un gd cn cs a ccd cl outer A₀ base h₀ L m s Q E B F X (News.twice N hm) T hk ⟨hI, h4⟩ hd hu fun y t h' tk' hy F' N' => hr y t h' tk' hy.1 hy.2 F' (cb_drop N' fun _ hp => .tail _ hp)
theorem lay_use {line : Str} {t : Tok} {l : Addr} {vs : List Value} {ns : List Int} {nn : Nat}
    (B : Below A₀ base outer h₀) (F : Fr h₀ L s.heap m) (X : (Mine.hd.heap_39 w.params).In h₀) (N : News h₀ L s.heap news) (T : Top Mine.hd.view_39 (looseW Mine.hd.view_39 []) mean mg mb h₀) (hk : cs.kind = .function)
    (hm : (l, W.listOf vs.toArray nn) ∈ news) (hI : IntsAre vs ns) (h4 : ns.length ≤ 4 ∧ ∀ k ∈ ns, 0 ≤ k ∧ k < 5) (hl : line.length ≤ 40) (hd : dp + 3 < recursionLimit) (hu : un + 8 * 3 < cLine)
    (hr : ∀ (r : Addr) (xs : List Value) (k : Nat) (tl : List (Addr × Obj)) (h' : Heap) (tk' : Nat), Fr h₀ L h' m → News h₀ L h' ((r, W.listOf xs.toArray k) :: (tl ++ news)) → DatAll tl xs (dueD line ns) → Q (.ref r) { s with heap := h', toks := tk' }) :
      wpAny (model Challenge.rw_nb0118_01.row.prog w) (ktrTop dp un gd cn cs L a ccd cl outer) (call (.ref 87) [.str line t, .ref l]) Q E s :=
  lay_cl w mean mg mb news line t l vs ns nn dp un gd cn cs a ccd cl outer A₀ base h₀ L m s Q E B F X (News.twice N hm) T hk ⟨hl, hI, h4.1, h4.2⟩ hd hu fun r xs k tl h' tk' F' N' D => hr r xs k tl h' tk' F' (cb_drop N' fun p hp => by
    rcases List.mem_cons.mp hp with rfl | hp
    · exact .head _
    · refine .tail _ ?_
      rcases List.mem_append.mp hp with hp | hp
      · exact List.mem_append.mpr (.inl hp)
      · exact List.mem_append.mpr (.inr (.tail _ hp))) D
theorem due_use {line : Str} {t : Tok} {l : Addr} {vs : List Value} {ns : List Int} {nn : Nat}
    (B : Below A₀ base outer h₀) (F : Fr h₀ L s.heap m) (X : (Mine.hd.heap_39 w.params).In h₀) (N : News h₀ L s.heap news) (T : Top Mine.hd.view_39 (looseW Mine.hd.view_39 []) mean mg mb h₀) (hk : cs.kind = .function)
    (hm : (l, W.listOf vs.toArray nn) ∈ news) (hI : IntsAre vs ns) (h4 : ns.length ≤ 4 ∧ ∀ k ∈ ns, 0 ≤ k ∧ k < 5) (hl : line.length ≤ 40) (hd : dp + 2 < recursionLimit) (hu : un + 8 * 2 < cLine)
    (hr : ∀ (r : Addr) (xs : List Value) (k : Nat) (tl : List (Addr × Obj)) (h' : Heap) (tk' : Nat), Fr h₀ L h' m → News h₀ L h' ((r, W.listOf xs.toArray k) :: (tl ++ news)) → DatAll tl xs (dueD line ns) → Q (.ref r) { s with heap := h', toks := tk' }) :
      wpAny (model Challenge.rw_nb0118_01.row.prog w) (ktrTop dp un gd cn cs L a ccd cl outer) (call (.ref 94) [.str line t, .ref l]) Q E s :=
  due_cl w mean mg mb news line t l vs ns nn dp un gd cn cs a ccd cl outer A₀ base h₀ L m s Q E B F X (News.twice N hm) T hk ⟨hl, hI, h4.1, h4.2⟩ hd hu fun r xs k tl h' tk' F' N' D => hr r xs k tl h' tk' F' (cb_drop N' fun p hp => by
    rcases List.mem_cons.mp hp with rfl | hp
    · exact .head _
    · refine .tail _ ?_
      rcases List.mem_append.mp hp with hp | hp
      · exact List.mem_append.mpr (.inl hp)
      · exact List.mem_append.mpr (.inr (.tail _ hp))) D
end
section
variable {prog : Program} {w : World} {A : Around} {E : Value → Shared → Prop} {s : Shared} {Q : Value → Shared → Prop}
theorem eq_due {h₀ : Heap} {L a b : Addr} {news tl tl2 : List (Addr × Obj)} {xs ys : List Value} {line : Str} {ns : List Int} {ka kb : Nat} (N : News h₀ L s.heap ((b, W.listOf ys.toArray kb) :: (tl2 ++ ((a, W.listOf xs.toArray ka) :: (tl ++ news)))))
    (Da : DatAll tl xs (dueD line ns)) (Db : DatAll tl2 ys (dueD line ns)) (ho : okS line) (hu : A.units + 64 < cLine) (h : Q (.bool true) s) : wpAny (model prog w) A (compareOp .Eq (.ref a) (.ref b)) Q E s := by
  refine kqd_eq N (List.mem_cons_of_mem _ (List.mem_append.mpr (.inr (.head _)))) rfl rfl Da (fun p hp => List.mem_cons_of_mem _ (List.mem_append.mpr (.inr (.tail _ (List.mem_append.mpr (.inl hp)))))) (.head _) rfl rfl Db (fun p hp => List.mem_cons_of_mem _ (List.mem_append.mpr (.inl hp))) (due_ok ho ns) (due_ok ho ns) hu ?_
  have e : ∀ inst : Decidable (dueD line ns = dueD line ns), @decide _ inst = true := fun inst => @decide_eq_true _ inst rfl
  rw [e]
  exact h
end
theorem lays_ok (l : List Int) : ∀ k ∈ l.map (fun x => Int.fmod x 5), 0 ≤ k ∧ k < 5 := by
  intro k hk
  obtain ⟨x, _, rfl⟩ := List.mem_map.mp hk
  exact ⟨Int.fmod_nonneg_of_pos x (by decide), Int.fmod_lt_of_pos x (by decide)⟩
theorem two_ok : ∀ k ∈ ([0, 1] : List Int), 0 ≤ k ∧ k < 5 := by decide
local macro_rules | `(tactic| walk_at "cl_use") => `(tactic| (
  (case k1 => k_asm); (case k2 => k_asm); (case k3 => k_asm); (case k4 => k_asm); (case k5 => k_asm); (case kK => first | exact rfl | assumption);
  (case kd => exact Nat.le_of_ble_eq_true rfl); (case ku => exact Nat.le_of_ble_eq_true rfl)))
local macro_rules | `(tactic| walk_at "call ref") => `(tactic| (k_here; k_dflt (first
  | (refine' line_use ?k1 ?k2 ?k3 ?k4 ?k5 ?kK ?km ?ki ?kl ?kd ?ku ?_; walk_at "cl_use"; (case km => k_mem); (case ki => assumption); (case kl => omega); (intro y9 t9 h9 tk9 ho9 hb9 F9 N9); (try dsimp only); (try k_fold))
  | (refine' lay_use ?k1 ?k2 ?k3 ?k4 ?k5 ?kK ?km ?ki ?kl ?kn ?kd ?ku ?_; walk_at "cl_use"; (case km => k_mem); (case ki => l_ints); (case kl => first | exact ⟨by decide, two_ok⟩ | exact ⟨by (simp only [List.length_map]; omega), lays_ok _⟩); (case kn => assumption); (intro r9 xs9 k9 tl9 h9 tk9 F9 N9 D9); (try dsimp only); (try k_fold))
  | (refine' due_use ?k1 ?k2 ?k3 ?k4 ?k5 ?kK ?km ?ki ?kl ?kn ?kd ?ku ?_; walk_at "cl_use"; (case km => exact List.mem_cons_of_mem _ (List.mem_append.mpr (.inr (by k_mem)))); (case ki => l_ints); (case kl => first | exact ⟨by decide, two_ok⟩ | exact ⟨by (simp only [List.length_map]; omega), lays_ok _⟩); (case kn => assumption); (intro r9 xs9 k9 tl9 h9 tk9 F9 N9 D9); (try dsimp only); (try k_fold)))))
local macro_rules | `(tactic| walk_at "compareOp Eq ref ref") => `(tactic| (k_here; k_dflt (refine' eq_due ?kN ?ka ?kb ?ko ?ku ?_; (case kN => k_asm); (case ka => assumption); (case kb => assumption); (case ko => assumption); (case ku => exact Nat.le_of_ble_eq_true rfl))))
set_option maxHeartbeats 1600000 in
theorem fin : PySem.Challenge.rw_nb0118_01.Holds := by
  k_with_none
  w_top off
  refine Mine.hd ?_
  w_strict (k_go0; (all_goals try k_fold); k_steps)
end Mine

set_option maxRecDepth 100000 in
theorem PySem.Challenge.cw_nb0118_01_holds : PySem.Challenge.rw_nb0118_01.Holds := by
  exact Mine.fin
