import PyProof.Rows.All
import Wide.All
import OpenK.AllK
import Wide.FinOn
import PySem.Challenge.RW_ag6017_01
open PySem PySem.W PyProof.Rows
set_option Elab.async false
/-! _split's pieces are those of the law: one contract a def (Claim..), each def walked once, its loops by a word
    over their whole state; the plain law (plain_law) over texts as numbers; the law's walk joins them. -/
namespace Mine
set_option maxRecDepth 100000 in
set_option maxHeartbeats 8000000 in
open_top hd for PySem.Challenge.rw_ag6017_01

section C0
open PySem.Calls
/-- a def that hands back one plain value and leaves nothing behind -/
def ClaimV (w : World) (f : Addr) (D : Nat) (pre : Prop) (vs : List Value) (R : Tok → Value) : Prop :=
  ∀ (news : List (Addr × Obj)) (mean : ExcName → Option Value) (mg mb : Str → Option Value) (dp un : Nat) (gd : Option (List Code)) (cn : Str) (cs : Scope) (a : Addr) (ccd : Value) (cl : List (Str × Addr)) (outer : List Env) (A₀ : Around) (base h₀ : Heap) (L : Addr) (m : Str → Option Value) (s : Shared) (Q E : Value → Shared → Prop),
    Below A₀ base outer h₀ → Fr h₀ L s.heap m → (hd.heap_39 w.params).In h₀ → News h₀ L s.heap news → Top hd.view_39 (looseW hd.view_39 []) mean mg mb h₀ → cs.kind = .function →
    pre → dp + D < recursionLimit → un + 8 * D < cLine →
    (∀ (t : Tok) (h' : Heap) (tk' : Nat), Fr h₀ L h' m → News h₀ L h' news → Q (R t) { s with heap := h', toks := tk' }) →
      wpAny (model PySem.Challenge.rw_ag6017_01.row.prog w) (ktrTop dp un gd cn cs L a ccd cl outer) (call (.ref f) vs) Q E s

/-- a def that hands back an object and what hangs on it -/
def ClaimO (w : World) (f : Addr) (D : Nat) (pre : Prop) (vs : List Value) (R : Value → List (Addr × Obj) → Prop) : Prop :=
  ∀ (news : List (Addr × Obj)) (mean : ExcName → Option Value) (mg mb : Str → Option Value) (dp un : Nat) (gd : Option (List Code)) (cn : Str) (cs : Scope) (a : Addr) (ccd : Value) (cl : List (Str × Addr)) (outer : List Env) (A₀ : Around) (base h₀ : Heap) (L : Addr) (m : Str → Option Value) (s : Shared) (Q E : Value → Shared → Prop),
    Below A₀ base outer h₀ → Fr h₀ L s.heap m → (hd.heap_39 w.params).In h₀ → News h₀ L s.heap news → Top hd.view_39 (looseW hd.view_39 []) mean mg mb h₀ → cs.kind = .function →
    pre → dp + D < recursionLimit → un + 8 * D < cLine →
    (∀ (r : Value) (tl : List (Addr × Obj)) (h' : Heap) (tk' : Nat), Fr h₀ L h' m → News h₀ L h' (tl ++ news) → R r tl → Q r { s with heap := h', toks := tk' }) →
      wpAny (model PySem.Challenge.rw_ag6017_01.row.prog w) (ktrTop dp un gd cn cs L a ccd cl outer) (call (.ref f) vs) Q E s

section
variable {w : World} {f : Addr} {D : Nat} {pre : Prop} {vs : List Value} {R : Tok → Value} {RO : Value → List (Addr × Obj) → Prop} {news : List (Addr × Obj)} {mean : ExcName → Option Value} {mg mb : Str → Option Value} {dp un : Nat} {gd : Option (List Code)} {cn : Str} {cs : Scope} {a : Addr} {ccd : Value} {cl : List (Str × Addr)} {outer : List Env} {A₀ : Around} {base h₀ : Heap} {L : Addr} {m : Str → Option Value} {s : Shared} {Q E : Value → Shared → Prop}
set_option maxRecDepth 100000 in
set_option maxHeartbeats 8000000 in
theorem useV (C : ClaimV w f D pre vs R) (k1 : Below A₀ base outer h₀) (k2 : Fr h₀ L s.heap m) (k3 : (hd.heap_39 w.params).In h₀) (k4 : News h₀ L s.heap news) (k5 : Top hd.view_39 (looseW hd.view_39 []) mean mg mb h₀) (kK : cs.kind = .function)
    (kp : pre) (kd : dp + D < recursionLimit) (ku : un + 8 * D < cLine)
    (k : ∀ (t : Tok) (h' : Heap) (tk' : Nat), Fr h₀ L h' m → News h₀ L h' news → Q (R t) { s with heap := h', toks := tk' }) :
    wpAny (model PySem.Challenge.rw_ag6017_01.row.prog w) (ktrTop dp un gd cn cs L a ccd cl outer) (call (.ref f) vs) Q E s :=
  C _ _ _ _ _ _ _ _ _ _ _ _ _ _ _ _ _ _ _ _ _ k1 k2 k3 k4 k5 kK kp kd ku k
set_option maxRecDepth 100000 in
set_option maxHeartbeats 8000000 in
theorem useO (C : ClaimO w f D pre vs RO) (k1 : Below A₀ base outer h₀) (k2 : Fr h₀ L s.heap m) (k3 : (hd.heap_39 w.params).In h₀) (k4 : News h₀ L s.heap news) (k5 : Top hd.view_39 (looseW hd.view_39 []) mean mg mb h₀) (kK : cs.kind = .function)
    (kp : pre) (kd : dp + D < recursionLimit) (ku : un + 8 * D < cLine)
    (k : ∀ (r : Value) (tl : List (Addr × Obj)) (h' : Heap) (tk' : Nat), Fr h₀ L h' m → News h₀ L h' (tl ++ news) → RO r tl → Q r { s with heap := h', toks := tk' }) :
    wpAny (model PySem.Challenge.rw_ag6017_01.row.prog w) (ktrTop dp un gd cn cs L a ccd cl outer) (call (.ref f) vs) Q E s :=
  C _ _ _ _ _ _ _ _ _ _ _ _ _ _ _ _ _ _ _ _ _ k1 k2 k3 k4 k5 kK kp kd ku k
end
end C0

section C1
abbrev one (n : Nat) : Str := ⟨#[n]⟩
def wordN (n : Nat) : Bool := Txt.isalnum (one n) || (n == 95)
def letterN (n : Nat) : Bool := wordN n && !(decide (48 ≤ n) && decide (n ≤ 57)) && !(decide (65296 ≤ n) && decide (n ≤ 65305))

set_option maxRecDepth 100000 in
set_option maxHeartbeats 8000000 in
theorem eq_lit (n : Nat) : (one n == Str.ofString "_") = (n == 95) := by
  rw [show Str.ofString "_" = one 95 from by decide +kernel]
  by_cases h : n = 95
  · subst h; rfl
  · rw [beq_eq_false_iff_ne.mpr h, beq_eq_false_iff_ne.mpr (fun e => h (by injection e with e; simpa using e))]
set_option maxRecDepth 100000 in
set_option maxHeartbeats 8000000 in
theorem s_0 : (Str.ofString "0").cps.toList = [48] := by decide +kernel
set_option maxRecDepth 100000 in
set_option maxHeartbeats 8000000 in
theorem s_9 : (Str.ofString "9").cps.toList = [57] := by decide +kernel
set_option maxRecDepth 100000 in
set_option maxHeartbeats 8000000 in
theorem s_w0 : (Str.ofString "０").cps.toList = [65296] := by decide +kernel
set_option maxRecDepth 100000 in
set_option maxHeartbeats 8000000 in
theorem s_w9 : (Str.ofString "９").cps.toList = [65305] := by decide +kernel
set_option maxRecDepth 100000 in
set_option maxHeartbeats 8000000 in
theorem lt1 (a b : Nat) : ([a] < [b]) ↔ a < b := by simp [List.cons_lt_cons_iff]
set_option maxRecDepth 100000 in
set_option maxHeartbeats 8000000 in
theorem digits_in (n : Nat) : (!(Builtin.Str.occurrences (Str.ofString "0123456789０１２３４５６７８９") (one n) 0 (Str.ofString "0123456789０１２３４５６７８９").length 1).isEmpty) = ((decide (48 ≤ n) && decide (n ≤ 57)) || (decide (65296 ≤ n) && decide (n ≤ 65305))) := by
  rw [StrLaws.found_one, show (Str.ofString "0123456789０１２３４５６７８９").cps.toList = [48, 49, 50, 51, 52, 53, 54, 55, 56, 57, 65296, 65297, 65298, 65299, 65300, 65301, 65302, 65303, 65304, 65305] from by decide +kernel]
  rw [Bool.eq_iff_iff]
  simp only [List.mem_cons, List.not_mem_nil, or_false, decide_eq_true_eq, Bool.or_eq_true, Bool.and_eq_true]
  omega

set_option maxRecDepth 100000 in
set_option maxHeartbeats 8000000 in
theorem word_call (w : World) (c : Nat) (t : Tok) :
    ClaimV w 21 1 True [Value.str (one c) t] (fun _ => Value.bool (wordN c)) := by
  unfold ClaimV
  w_top off
  k_with_none
  k_fill
  intro news mean mg mb dp un gd cn cs a ccd cl outer A₀ base h₀ L m s Q E B F X N T hk hpre hdp hun hret
  refine wpAny_call ?_
  k_dflt cell_enter
  k_steps
  all_goals
    refine cb_retB (Q := Q) hret ?_ (by k_asm) (by k_asm)
    clear hret
    simp_all [wordN, eq_lit]

set_option maxRecDepth 100000 in
set_option maxHeartbeats 8000000 in
theorem wordy_call (w : World) (c : Nat) (t : Tok) :
    ClaimV w 58 1 True [Value.str (one c) t] (fun _ => Value.bool (wordN c)) := by
  unfold ClaimV
  w_top off
  k_with_none
  k_fill
  intro news mean mg mb dp un gd cn cs a ccd cl outer A₀ base h₀ L m s Q E B F X N T hk hpre hdp hun hret
  refine wpAny_call ?_
  k_dflt cell_enter
  k_steps
  all_goals
    refine cb_retB (Q := Q) hret ?_ (by k_asm) (by k_asm)
    clear hret
    simp_all [wordN, eq_lit]

local macro_rules | `(tactic| walk_at "m pad C1 0") => `(tactic| skip)
local macro_rules | `(tactic| walk_at "m args") => `(tactic| (
  (case k1 => first | k_asm | fail "m: below")
  (case k2 => first | k_asm | fail "m: frame")
  (case k3 => first | k_asm | fail "m: written part")
  (case k4 => first | k_asm | fail "m: ledger")
  (case k5 => first | k_asm | fail "m: top")
  (case kK => first | exact rfl | assumption | fail "m: kind")
  (case kd => first | ktr_room | fail "m: room")
  (case ku => first | ktr_units | fail "m: units")
  (case kp => first | exact trivial | assumption | (simp; done) | omega | fail "m: pre")))

local macro_rules | `(tactic| walk_at "call ref") => `(tactic| (
  k_here
  (with_reducible show wpAny _ _ (call (Value.ref 21) _) _ _ _)
  k_dflt (refine' useV (word_call _ _ _) ?k1 ?k2 ?k3 ?k4 ?k5 ?kK ?kp ?kd ?ku ?_)
  walk_at "m args"
  intro t9 h9 tk9 F9 N9; (try dsimp only); (try k_fold)))
local macro_rules | `(tactic| walk_at "call ref") => `(tactic| (
  k_here
  (with_reducible show wpAny _ _ (call (Value.ref 58) _) _ _ _)
  k_dflt (refine' useV (wordy_call _ _ _) ?k1 ?k2 ?k3 ?k4 ?k5 ?kK ?kp ?kd ?ku ?_)
  walk_at "m args"
  intro t9 h9 tk9 F9 N9; (try dsimp only); (try k_fold)))

set_option maxRecDepth 100000 in
set_option maxHeartbeats 8000000 in
theorem letter_call (w : World) (c : Nat) (t : Tok) :
    ClaimV w 28 2 True [Value.str (one c) t] (fun _ => Value.bool (letterN c)) := by
  unfold ClaimV
  w_top off
  k_with_none
  k_fill
  intro news mean mg mb dp un gd cn cs a ccd cl outer A₀ base h₀ L m s Q E B F X N T hk hpre hdp hun hret
  refine wpAny_call ?_
  k_dflt cell_enter
  k_steps
  all_goals
    refine cb_retB (Q := Q) hret ?_ (by k_asm) (by k_asm)
    clear hret
    simp only [one, s_0, s_9, s_w0, s_w9, lt1, decide_eq_true_eq, decide_eq_false_iff_not, Bool.not_not] at *
    rw [Bool.eq_iff_iff]
    simp_all [letterN]
    try omega

set_option maxRecDepth 100000 in
set_option maxHeartbeats 8000000 in
theorem lettery_call (w : World) (c : Nat) (t : Tok) :
    ClaimV w 65 2 True [Value.str (one c) t] (fun _ => Value.bool (letterN c)) := by
  unfold ClaimV
  w_top off
  k_with_none
  k_fill
  intro news mean mg mb dp un gd cn cs a ccd cl outer A₀ base h₀ L m s Q E B F X N T hk hpre hdp hun hret
  refine wpAny_call ?_
  k_dflt cell_enter
  k_steps
  all_goals
    refine cb_retB (Q := Q) hret ?_ (by k_asm) (by k_asm)
    clear hret
    try rw [digits_in]
    rw [Bool.eq_iff_iff]
    simp_all [letterN]
    try omega
end C1

section C2
/-- the sign at a place -/
def chI (x : Str) (i : Int) : Nat := x.cps.getD i.toNat 0
set_option maxRecDepth 100000 in
set_option maxHeartbeats 8000000 in
theorem item_one {x : Str} {i : Int} (h0 : 0 ≤ i) (h1 : i < x.length) : Txt.item x i = one (chI x i) := by
  unfold Txt.item Txt.charAt chI one
  have e : seqIndex? i x.length = some i.toNat := by
    unfold seqIndex?
    simp; omega
  rw [e]
  simp [Array.getD_eq_getD_getElem?]

section
variable {prog : Program} {w : World} {A : Around} {E : Value → Shared → Prop} {s : Shared} {value slice : PySem.Expr} {x : PySem.Str} {t u : Tok} {i : Int} {Q : Value → Shared → Prop}
set_option maxRecDepth 100000 in
set_option maxHeartbeats 8000000 in
theorem item_at (h0 : 0 ≤ i) (h1 : i < (x.length : Int)) (hn : x.length ≤ 16777216) (h : Q (.str (one (chI x i)) s.toks) { s with toks := s.toks + 1 })
    (hs : subscripted slice false (.str x t) (.int i u) = operate [.str x t, .int i u] (getItem (.str x t) (.int i u)) := by with_unfolding_all rfl)
    (ht : ∀ r, letTemporaryGo value (.str x t) r = pure () := by intro _; with_unfolding_all rfl) :
    wpAny (model prog w) A (subscriptTail value slice (.str x t) (.int i u)) Q E s :=
  item_str (fitsSsize_of (N := 9223372036854775808) (by omega) (by omega) (Int.le_refl _)) (by omega) (by omega) (fun _ => by rw [item_one h0 h1]; exact h) hs ht
end

section
variable {prog : Program} {w : World} {A : Around} {E : Value → Shared → Prop} {s : Shared} {t u : Tok} {n : Nat} {Q : Value → Shared → Prop}
set_option maxRecDepth 100000 in
set_option maxHeartbeats 8000000 in
theorem cmp_one {k : Nat} {l : Str} (hl : l = one k) (h : Q (.bool (decide (n = k))) s) : wpAny (model prog w) A (compareOp .Eq (.str (one n) t) (.str l u)) Q E s := by
  subst hl
  refine eq_str ?_
  have e : (one n == one k) = decide (n = k) := by
    by_cases h : n = k
    · subst h; simp
    · rw [beq_eq_false_iff_ne.mpr (fun e => h (by injection e with e; simpa using e)), decide_eq_false h]
  rw [e]; exact h
set_option maxRecDepth 100000 in
set_option maxHeartbeats 8000000 in
theorem cmp_ne_one {k : Nat} {l : Str} (hl : l = one k) (h : Q (.bool (decide (n ≠ k))) s) : wpAny (model prog w) A (compareOp .NotEq (.str (one n) t) (.str l u)) Q E s := by
  subst hl
  refine ne_str ?_
  have e : (!(one n == one k)) = decide (n ≠ k) := by
    by_cases h : n = k
    · subst h; simp
    · rw [beq_eq_false_iff_ne.mpr (fun e => h (by injection e with e; simpa using e)), decide_eq_true h]; rfl
  first
    | (rw [e]; exact h)
    | (show Q (.bool (one n != one k)) s; unfold bne; rw [e]; exact h)
def points (n : Nat) : Bool := [33, 34, 39, 38, 46, 44, 63].contains n
set_option maxRecDepth 100000 in
set_option maxHeartbeats 8000000 in
theorem in_points {l : Str} (hl : l = ⟨#[33, 34, 39, 38, 46, 44, 63]⟩) (h : Q (.bool (points n)) s) : wpAny (model prog w) A (compareOp .In (.str (one n) t) (.str l u)) Q E s := by
  subst hl
  refine in_str ?_
  rw [StrLaws.found_one]
  have e : decide (n ∈ (#[33, 34, 39, 38, 46, 44, 63] : Array Nat).toList) = points n := by rw [Bool.eq_iff_iff]; simp [points]
  show Q (.bool (decide (n ∈ (#[33, 34, 39, 38, 46, 44, 63] : Array Nat).toList))) s
  rw [e]; exact h
set_option maxRecDepth 100000 in
set_option maxHeartbeats 8000000 in
theorem is_dash : Str.ofString "-" = one 45 := by decide +kernel
set_option maxRecDepth 100000 in
set_option maxHeartbeats 8000000 in
theorem is_blank : Str.ofString " " = one 32 := by decide +kernel
set_option maxRecDepth 100000 in
set_option maxHeartbeats 8000000 in
theorem is_points : Str.ofString "!\"'&.,?" = ⟨#[33, 34, 39, 38, 46, 44, 63]⟩ := by decide +kernel
end
/-- behind the run of dashes that stands at k -/
noncomputable def dashRun (x : Str) (k : Nat) : Nat := if h : k < x.length ∧ x.cps.getD k 0 = 45 then dashRun x (k + 1) else k
termination_by x.length - k
decreasing_by omega

noncomputable def dashesI (x : Str) (i : Int) : Bool :=
  decide ((dashRun x i.toNat : Int) - i > 1) && (wordN (chI x (i - 1)) || points (chI x (i - 1))) && wordN (chI x (dashRun x i.toNat))

local macro_rules | `(tactic| walk_at "m pad C2 0") => `(tactic| skip)
local macro_rules | `(tactic| walk_at "m pad C2 1") => `(tactic| skip)
local macro_rules | `(tactic| walk_at "m args") => `(tactic| (
  (case k1 => first | k_asm | fail "m: below")
  (case k2 => first | k_asm | fail "m: frame")
  (case k3 => first | k_asm | fail "m: written part")
  (case k4 => first | k_asm | fail "m: ledger")
  (case k5 => first | k_asm | fail "m: top")
  (case kK => first | exact rfl | assumption | fail "m: kind")
  (case kd => first | ktr_room | fail "m: room")
  (case ku => first | ktr_units | fail "m: units")
  (case kp => first | exact trivial | assumption | (simp; done) | omega | fail "m: pre")))
local macro_rules | `(tactic| walk_at "call ref") => `(tactic| (
  k_here
  (with_reducible show wpAny _ _ (call (Value.ref 21) _) _ _ _)
  k_dflt (refine' useV (word_call _ _ _) ?k1 ?k2 ?k3 ?k4 ?k5 ?kK ?kp ?kd ?ku ?_)
  walk_at "m args"
  intro t9 h9 tk9 F9 N9; (try dsimp only); (try k_fold)))
local macro_rules | `(tactic| walk_at "subscriptTail Name Name str int") => `(tactic| (k_here; (refine item_at (by omega) (by omega) (by omega) ?_)))
local macro_rules | `(tactic| walk_at "subscriptTail Name BinOp str int") => `(tactic| (k_here; (refine item_at (by omega) (by omega) (by omega) ?_)))
local macro_rules | `(tactic| walk_at "subscriptTail Name IfExp str int") => `(tactic| (k_here; (refine item_at (by omega) (by omega) (by omega) ?_)))

set_option maxRecDepth 100000 in
set_option maxHeartbeats 8000000 in
theorem dashRun_step {x : Str} {e : Int} (h0 : 0 ≤ e) (h1 : e < x.length) (hc : chI x e = 45) : dashRun x (e + 1).toNat = dashRun x e.toNat := by
  have h2 : (e + 1).toNat = e.toNat + 1 := by omega
  rw [h2]
  conv => rhs; unfold dashRun
  rw [dif_pos ⟨by omega, hc⟩]
set_option maxRecDepth 100000 in
set_option maxHeartbeats 8000000 in
theorem dashRun_stop {x : Str} {e : Int} (h0 : 0 ≤ e) (hc : ¬ chI x e = 45) : dashRun x e.toNat = e.toNat := by
  unfold dashRun
  rw [dif_neg]
  rintro ⟨_, h⟩
  exact hc h
set_option maxRecDepth 100000 in
set_option maxHeartbeats 8000000 in
theorem fr_nice {h₀ h : Heap} {L : Addr} {m : Str → Option Value} (m' : Str → Option Value) (F : Fr h₀ L h m) (e : m = m') : Fr h₀ L h m' := e ▸ F
local macro_rules | `(tactic| walk_at "compareOp Eq str str") => `(tactic| (k_here; first | (refine cmp_one is_dash ?_) | (refine cmp_one is_blank ?_)))
local macro_rules | `(tactic| walk_at "compareOp NotEq str str") => `(tactic| (k_here; first | (refine cmp_ne_one is_dash ?_) | (refine cmp_ne_one is_blank ?_)))
local macro_rules | `(tactic| walk_at "compareOp In str str") => `(tactic| (k_here; (refine in_points is_points ?_)))

/-- the walk halts here -/
def Held (P : Prop) : Prop := P
set_option maxRecDepth 100000 in
set_option maxHeartbeats 8000000 in
theorem held {P : Prop} (h : Held P) : P := h
local macro_rules | `(tactic| walk_at "exec While Compare cons nil") => `(tactic| refine Mine.held ?_)
local macro_rules | `(tactic| walk_at "exec While BoolOp cons nil") => `(tactic| refine Mine.held ?_)
local macro_rules | `(tactic| walk_at "exec While UnaryOp cons nil") => `(tactic| refine Mine.held ?_)
local macro_rules | `(tactic| walk_at "KswEnd") => `(tactic| refine Mine.held ?_)

set_option maxRecDepth 100000 in
set_option maxHeartbeats 8000000 in
theorem dashes_call (w : World) (x : Str) (t : Tok) (i : Int) (u : Tok) :
    ClaimV w 35 2 (1 ≤ i ∧ i < x.length ∧ x.length ≤ 2000 ∧ chI x (x.length - 1) = 32) [Value.str x t, Value.int i u] (fun _ => Value.bool (dashesI x i)) := by
  unfold ClaimV
  w_top off
  k_with_none
  k_fill
  intro news mean mg mb dp un gd cn cs a ccd cl outer A₀ base h₀ L m s Q E B F X N T hk hpre hdp hun hret
  refine wpAny_call ?_
  k_dflt cell_enter
  (rename Fr _ _ _ _ => F1)
  replace F1 := fr_nice (fun y => List.lookup y [(Str.ofString "at", .int i u), (Str.ofString "text", .str x t)]) F1 (by with_unfolding_all rfl)
  generalize s.toks + _ = tk0
  k_steps
  unfold Held
  (rename Fr _ _ _ _ => F1); (rename News _ _ _ _ => N1)
  refine ksw_while (σ := Int × Tok) (fun _ => news) (fun c => [(Str.ofString "end", .int c.1 c.2)]) (fun _ => True) [] (fun c => i ≤ c.1 ∧ c.1 < x.length ∧ dashRun x c.1.toNat = dashRun x i.toNat) (fun c => x.length - c.1.toNat) (i, u) F1 N1 trivial ?k1 ?k2 ?k3
  case k1 => kst_all
  case k2 => exact ⟨Int.le_refl _, hpre.2.1, rfl⟩
  rintro ⟨e, te⟩ u' h tk - ⟨p1, p2, p3⟩ F2 N2
  dsimp only at p1 p2 p3 F2 N2
  (try k_fold)
  k_steps
  · unfold Held
    have hc := (by assumption : chI x e = 45)
    have h1 : chI x e ≠ 32 := by omega
    have h2 : e ≠ x.length - 1 := fun h' => h1 (h' ▸ hpre.2.2.2)
    refine ksw_end (e + 1, _) (by assumption) (by assumption) (fun _ h => h) trivial (by kst_all) (by intro z h2 h3; have h2' := h2 _ (List.Mem.head _); dsimp only at h2'; simp [kstB, h2']) ⟨by dsimp only; omega, by dsimp only; omega, ?_⟩ (by dsimp only; omega)
    exact (dashRun_step (by omega) (by omega) hc).trans p3
  all_goals
    have hc := (by assumption : ¬ chI x e = 45)
    have he := p3.symm.trans (dashRun_stop (by omega) hc)
    refine cb_retB (Q := Q) hret ?_ (by k_asm) (by k_asm)
    clear hret
    have h3 : ((e.toNat : Nat) : Int) = e := by omega
    unfold dashesI
    rw [he, h3]
    (first | rw [(by with_reducible assumption : wordN (chI x (i - 1)) = true)] | rw [(by with_reducible assumption : wordN (chI x (i - 1)) = false)] | skip)
    (first | rw [(by with_reducible assumption : points (chI x (i - 1)) = true)] | rw [(by with_reducible assumption : points (chI x (i - 1)) = false)] | skip)
    (first | rw [(by with_reducible assumption : wordN (chI x e) = true)] | rw [(by with_reducible assumption : wordN (chI x e) = false)] | skip)
    (first | rw [decide_eq_true (by omega : e - i > 1)] | rw [decide_eq_false (by omega : ¬ e - i > 1)] | skip)
    (first | rw [decide_eq_true (by omega : 1 < e - i)] | rw [decide_eq_false (by omega : ¬ 1 < e - i)] | skip)
    first | rfl | simp

def hyphenI (x : Str) (i : Int) : Bool :=
  letterN (chI x (i - 1)) && letterN (chI x (i + 1)) && (letterN (chI x (i - 2)) || (decide (chI x (i - 2) = 45) && letterN (chI x (i - 3)))) &&
    letterN (chI x (if chI x (i + 2) = 45 then i + 3 else i + 2))

local macro_rules | `(tactic| walk_at "call ref") => `(tactic| (
  k_here
  (with_reducible show wpAny _ _ (call (Value.ref 28) _) _ _ _)
  k_dflt (refine' useV (letter_call _ _ _) ?k1 ?k2 ?k3 ?k4 ?k5 ?kK ?kp ?kd ?ku ?_)
  walk_at "m args"
  intro t9 h9 tk9 F9 N9; (try dsimp only); (try k_fold)))

set_option maxRecDepth 100000 in
set_option maxHeartbeats 8000000 in
theorem hyphen_call (w : World) (x : Str) (t : Tok) (i : Int) (u : Tok) :
    ClaimV w 42 3 (3 ≤ i ∧ i + 3 < x.length ∧ x.length ≤ 2000) [Value.str x t, Value.int i u] (fun _ => Value.bool (hyphenI x i)) := by
  unfold ClaimV
  w_top off
  k_with_none
  k_fill
  intro news mean mg mb dp un gd cn cs a ccd cl outer A₀ base h₀ L m s Q E B F X N T hk hpre hdp hun hret
  refine wpAny_call ?_
  k_dflt cell_enter
  (rename Fr _ _ _ _ => F1)
  replace F1 := fr_nice (fun y => List.lookup y [(Str.ofString "at", .int i u), (Str.ofString "text", .str x t)]) F1 (by with_unfolding_all rfl)
  generalize s.toks + _ = tk0
  k_steps
  all_goals
    refine cb_retB (Q := Q) hret ?_ (by k_asm) (by k_asm)
    clear hret
    unfold hyphenI
    (first | rw [if_pos (by with_reducible assumption : chI x (i + 2) = 45)] | rw [if_neg (by with_reducible assumption : ¬ chI x (i + 2) = 45)] | skip)
    (first | rw [(by with_reducible assumption : letterN (chI x (i - 1)) = true)] | rw [(by with_reducible assumption : letterN (chI x (i - 1)) = false)] | skip)
    (first | rw [(by with_reducible assumption : letterN (chI x (i + 1)) = true)] | rw [(by with_reducible assumption : letterN (chI x (i + 1)) = false)] | skip)
    (first | rw [(by with_reducible assumption : letterN (chI x (i - 2)) = true)] | rw [(by with_reducible assumption : letterN (chI x (i - 2)) = false)] | skip)
    (first | rw [decide_eq_true (by with_reducible assumption : chI x (i - 2) = 45)] | rw [decide_eq_false (by with_reducible assumption : ¬ chI x (i - 2) = 45)] | skip)
    (first | rw [(by with_reducible assumption : letterN (chI x (i - 3)) = true)] | rw [(by with_reducible assumption : letterN (chI x (i - 3)) = false)] | skip)
    first | rfl | simp
end C2

section C3
section
variable {prog : Program} {w : World} {A : Around} {E : Value → Shared → Prop} {s : Shared} {t u : Tok} {n : Nat} {Q : Value → Shared → Prop} {x y : Str}
set_option maxRecDepth 100000 in
set_option maxHeartbeats 8000000 in
theorem add_ap (hsz : x.length + y.length ≤ 16777216) (h : ∀ t' k, (x ++ y).length = x.length + y.length → Q (.str (x ++ y) t') { s with toks := k }) : wpAny (model prog w) A (binaryOp .Add (.str x t) (.str y u)) Q E s :=
  SBL.add (fun t' k _ => h t' k (Str.length_append x y)) (by rw [sizeLine_eq]; exact hsz)
set_option maxRecDepth 100000 in
set_option maxHeartbeats 8000000 in
theorem three_len : (Str.ofString "   ").length = 3 := by decide +kernel
end

noncomputable def spaceRun (y : Str) (e k : Nat) : Nat := if k < e ∧ chI y k = 32 then spaceRun y e (k + 1) else k
termination_by e - k
decreasing_by omega
noncomputable def wordRun (y : Str) (k : Nat) : Nat := if k < y.length ∧ chI y k ≠ 32 ∧ ¬ (chI y k = 45 ∧ (dashesI y k = true ∨ hyphenI y k = true)) then wordRun y (k + 1) else k
termination_by y.length - k
decreasing_by omega
noncomputable def chunkEnd (y : Str) (e k : Nat) : Nat :=
  if chI y k = 32 then spaceRun y e (k + 1)
  else if dashesI y k = true then dashRun y (k + 1)
  else if chI y (wordRun y (k + 1)) = 45 ∧ chI y (wordRun y (k + 1) + 1) ≠ 45 then wordRun y (k + 1) + 1 else wordRun y (k + 1)
noncomputable def chunksFrom (y : Str) (e k : Nat) : List Str :=
  if h : k < e ∧ k < chunkEnd y e k then Txt.slice y (some (k : Int)) (some (chunkEnd y e k : Int)) :: chunksFrom y e (chunkEnd y e k) else []
termination_by e - k
decreasing_by omega
def wide (x : Str) : Str := Str.ofString "   " ++ x ++ Str.ofString "   "


set_option maxRecDepth 100000 in
set_option maxHeartbeats 8000000 in
theorem chI_toNat {y : Str} {q : Int} (h : 0 ≤ q) : chI y (q.toNat : Int) = chI y q := by rw [Int.toNat_of_nonneg h]
set_option maxRecDepth 100000 in
set_option maxHeartbeats 8000000 in
theorem dashesI_toNat {y : Str} {q : Int} (h : 0 ≤ q) : dashesI y (q.toNat : Int) = dashesI y q := by rw [Int.toNat_of_nonneg h]
set_option maxRecDepth 100000 in
set_option maxHeartbeats 8000000 in
theorem hyphenI_toNat {y : Str} {q : Int} (h : 0 ≤ q) : hyphenI y (q.toNat : Int) = hyphenI y q := by rw [Int.toNat_of_nonneg h]
set_option maxRecDepth 100000 in
set_option maxHeartbeats 8000000 in
theorem toNat_succ {q : Int} (h : 0 ≤ q) : (q + 1).toNat = q.toNat + 1 := by omega
set_option maxRecDepth 100000 in
set_option maxHeartbeats 8000000 in
theorem spaceRun_step {y : Str} {e : Nat} {q : Int} (h0 : 0 ≤ q) (h1 : q < e) (hc : chI y q = 32) : spaceRun y e (q + 1).toNat = spaceRun y e q.toNat := by
  rw [toNat_succ h0]
  conv => rhs; unfold spaceRun
  rw [if_pos ⟨by omega, by rw [chI_toNat h0]; exact hc⟩]
set_option maxRecDepth 100000 in
set_option maxHeartbeats 8000000 in
theorem spaceRun_stop {y : Str} {e : Nat} {q : Int} (h0 : 0 ≤ q) (hc : (e : Int) ≤ q ∨ ¬ chI y q = 32) : spaceRun y e q.toNat = q.toNat := by
  unfold spaceRun
  rw [if_neg]
  rintro ⟨h1, h2⟩
  rw [chI_toNat h0] at h2
  rcases hc with hc | hc
  · omega
  · exact hc h2
set_option maxRecDepth 100000 in
set_option maxHeartbeats 8000000 in
theorem wordRun_step1 {y : Str} {q : Int} (h0 : 0 ≤ q) (h1 : q < y.length) (h2 : ¬ chI y q = 32) (h3 : ¬ chI y q = 45) : wordRun y (q + 1).toNat = wordRun y q.toNat := by
  rw [toNat_succ h0]
  conv => rhs; unfold wordRun
  rw [if_pos ⟨by omega, by rw [chI_toNat h0]; exact h2, by rw [chI_toNat h0]; exact fun h => h3 h.1⟩]
set_option maxRecDepth 100000 in
set_option maxHeartbeats 8000000 in
theorem wordRun_step2 {y : Str} {q : Int} (h0 : 0 ≤ q) (h1 : q < y.length) (h2 : ¬ chI y q = 32) (h3 : dashesI y q = false) (h4 : hyphenI y q = false) : wordRun y (q + 1).toNat = wordRun y q.toNat := by
  rw [toNat_succ h0]
  conv => rhs; unfold wordRun
  rw [if_pos ⟨by omega, by rw [chI_toNat h0]; exact h2, by rw [dashesI_toNat h0, hyphenI_toNat h0, h3, h4]; simp⟩]
set_option maxRecDepth 100000 in
set_option maxHeartbeats 8000000 in
theorem wordRun_stop {y : Str} {q : Int} (h0 : 0 ≤ q) (hc : chI y q = 32 ∨ (chI y q = 45 ∧ (dashesI y q = true ∨ hyphenI y q = true))) : wordRun y q.toNat = q.toNat := by
  unfold wordRun
  rw [if_neg]
  rw [chI_toNat h0, dashesI_toNat h0, hyphenI_toNat h0]
  rintro ⟨h1, h2, h3⟩
  exact hc.elim h2 h3
set_option maxRecDepth 100000 in
set_option maxHeartbeats 8000000 in
theorem out_step {y : Str} {e : Nat} {p q : Int} {zs C : List Str} (h0 : 0 ≤ p) (h1 : p < e) (h2 : p < q) (hq : chunkEnd y e p.toNat = q.toNat) (h : zs ++ chunksFrom y e p.toNat = C) :
    (zs ++ [Txt.slice y (some p) (some q)]) ++ chunksFrom y e q.toNat = C := by
  rw [← h]
  conv => rhs; rw [chunksFrom]
  rw [dif_pos ⟨by omega, by rw [hq]; omega⟩, hq, Int.toNat_of_nonneg h0, Int.toNat_of_nonneg (by omega), List.append_assoc]
  rfl
set_option maxRecDepth 100000 in
set_option maxHeartbeats 8000000 in
theorem chunk_space {y : Str} {e : Nat} {p q : Int} (h0 : 0 ≤ p) (hc : chI y p = 32) (h : q.toNat = spaceRun y e (p.toNat + 1)) : chunkEnd y e p.toNat = q.toNat := by
  unfold chunkEnd
  rw [if_pos (by rw [chI_toNat h0]; exact hc), h]
set_option maxRecDepth 100000 in
set_option maxHeartbeats 8000000 in
theorem chunk_dash {y : Str} {e : Nat} {p q : Int} (h0 : 0 ≤ p) (hc : ¬ chI y p = 32) (hd : dashesI y p = true) (h : q.toNat = dashRun y (p.toNat + 1)) : chunkEnd y e p.toNat = q.toNat := by
  unfold chunkEnd
  rw [if_neg (by rw [chI_toNat h0]; exact hc), if_pos (by rw [dashesI_toNat h0]; exact hd), h]
set_option maxRecDepth 100000 in
set_option maxHeartbeats 8000000 in
theorem chunk_word {y : Str} {e : Nat} {p q : Int} (h0 : 0 ≤ p) (h00 : 0 ≤ q) (hc : ¬ chI y p = 32) (hd : dashesI y p = false) (h : q.toNat = wordRun y (p.toNat + 1)) (hx : ¬ (chI y q = 45 ∧ ¬ chI y (q + 1) = 45)) : chunkEnd y e p.toNat = q.toNat := by
  unfold chunkEnd
  rw [if_neg (by rw [chI_toNat h0]; exact hc), if_neg (by rw [dashesI_toNat h0, hd]; exact Bool.false_ne_true), ← h, if_neg]
  rw [Int.toNat_of_nonneg h00]
  exact hx
set_option maxRecDepth 100000 in
set_option maxHeartbeats 8000000 in
theorem chunk_word1 {y : Str} {e : Nat} {p q : Int} (h0 : 0 ≤ p) (h00 : 0 ≤ q) (hc : ¬ chI y p = 32) (hd : dashesI y p = false) (h : q.toNat = wordRun y (p.toNat + 1)) (hx : chI y q = 45) (hx' : ¬ chI y (q + 1) = 45) : chunkEnd y e p.toNat = (q + 1).toNat := by
  unfold chunkEnd
  rw [if_neg (by rw [chI_toNat h0]; exact hc), if_neg (by rw [dashesI_toNat h0, hd]; exact Bool.false_ne_true), ← h, if_pos, toNat_succ h00]
  rw [Int.toNat_of_nonneg h00]
  exact ⟨hx, hx'⟩
set_option maxRecDepth 100000 in
set_option maxHeartbeats 8000000 in
theorem chunksFrom_end {y : Str} {e k : Nat} (h : e ≤ k) : chunksFrom y e k = [] := by
  rw [chunksFrom, dif_neg (by omega)]
set_option maxRecDepth 100000 in
set_option maxHeartbeats 8000000 in
theorem three_cps : (Str.ofString "   ").cps = #[32, 32, 32] := by decide +kernel
set_option maxRecDepth 100000 in
set_option maxHeartbeats 8000000 in
theorem wide_cps (x : Str) : (wide x).cps = #[32, 32, 32] ++ x.cps ++ #[32, 32, 32] := by
  show (Str.ofString "   ").cps ++ x.cps ++ (Str.ofString "   ").cps = _
  rw [three_cps]
set_option maxRecDepth 100000 in
set_option maxHeartbeats 8000000 in
theorem wide_right {x : Str} {i : Int} (h1 : (x.length : Int) + 3 ≤ i) (h2 : i < (x.length : Int) + 6) : chI (wide x) i = 32 := by
  have h3 : x.length = x.cps.size := rfl
  unfold chI
  rw [wide_cps, Array.getD_eq_getD_getElem?, Array.getElem?_append_right (by simp; omega)]
  obtain ⟨k, hk⟩ : ∃ k, i.toNat - (#[32, 32, 32] ++ x.cps).size = k := ⟨_, rfl⟩
  have hk3 : k < 3 := by rw [← hk]; simp; omega
  rw [hk]
  match k, hk3 with
  | 0, _ => rfl
  | 1, _ => rfl
  | 2, _ => rfl
set_option maxRecDepth 100000 in
set_option maxHeartbeats 8000000 in
theorem wide_left {x : Str} {i : Int} (h1 : 0 ≤ i) (h2 : i < 3) : chI (wide x) i = 32 := by
  unfold chI
  rw [wide_cps, Array.append_assoc, Array.getD_eq_getD_getElem?, Array.getElem?_append_left (by simp; omega)]
  obtain ⟨k, hk⟩ : ∃ k, i.toNat = k := ⟨_, rfl⟩
  have hk3 : k < 3 := by omega
  rw [hk]
  match k, hk3 with
  | 0, _ => rfl
  | 1, _ => rfl
  | 2, _ => rfl
set_option maxRecDepth 100000 in
set_option maxHeartbeats 8000000 in
theorem wide_mid {x : Str} {i : Int} (h1 : 3 ≤ i) (h2 : i < (x.length : Int) + 3) : chI (wide x) i = chI x (i - 3) := by
  have h3 : x.length = x.cps.size := rfl
  unfold chI
  rw [wide_cps, Array.append_assoc, Array.getD_eq_getD_getElem?, Array.getElem?_append_right (by simp; omega), Array.getElem?_append_left (by simp; omega), Array.getD_eq_getD_getElem?]
  have : i.toNat - (#[32, 32, 32] : Array Nat).size = (i - 3).toNat := by simp; omega
  rw [this]

set_option maxRecDepth 100000 in
set_option maxHeartbeats 8000000 in
theorem strsAre_len {vs : List Value} {ys : List Str} (h : StrsAre vs ys) : vs.length = ys.length := by
  induction h with
  | nil => rfl
  | cons _ _ _ ih => simp [ih]
local macro_rules | `(tactic| walk_at "m pad C3 0") => `(tactic| skip)
local macro_rules | `(tactic| walk_at "m pad C3 1") => `(tactic| skip)
local macro_rules | `(tactic| walk_at "m pad C3 2") => `(tactic| skip)
local macro_rules | `(tactic| walk_at "m args") => `(tactic| (
  (case k1 => first | k_asm | fail "m: below")
  (case k2 => first | k_asm | fail "m: frame")
  (case k3 => first | k_asm | fail "m: written part")
  (case k4 => first | k_asm | fail "m: ledger")
  (case k5 => first | k_asm | fail "m: top")
  (case kK => first | exact rfl | assumption | fail "m: kind")
  (case kd => first | ktr_room | fail "m: room")
  (case ku => first | ktr_units | fail "m: units")
  (case kp => first | exact trivial | assumption | (simp; done) | omega | fail "m: pre")))
local macro_rules | `(tactic| walk_at "call ref") => `(tactic| (
  k_here
  (with_reducible show wpAny _ _ (call (Value.ref 21) _) _ _ _)
  k_dflt (refine' useV (word_call _ _ _) ?k1 ?k2 ?k3 ?k4 ?k5 ?kK ?kp ?kd ?ku ?_)
  walk_at "m args"
  intro t9 h9 tk9 F9 N9; (try dsimp only); (try k_fold)))
local macro_rules | `(tactic| walk_at "subscriptTail Name Name str int") => `(tactic| (k_here; (refine item_at (by omega) (by omega) (by omega) ?_)))
local macro_rules | `(tactic| walk_at "subscriptTail Name BinOp str int") => `(tactic| (k_here; (refine item_at (by omega) (by omega) (by omega) ?_)))
local macro_rules | `(tactic| walk_at "subscriptTail Name IfExp str int") => `(tactic| (k_here; (refine item_at (by omega) (by omega) (by omega) ?_)))
local macro_rules | `(tactic| walk_at "compareOp Eq str str") => `(tactic| (k_here; first | (refine cmp_one is_dash ?_) | (refine cmp_one is_blank ?_)))
local macro_rules | `(tactic| walk_at "compareOp NotEq str str") => `(tactic| (k_here; first | (refine cmp_ne_one is_dash ?_) | (refine cmp_ne_one is_blank ?_)))
local macro_rules | `(tactic| walk_at "compareOp In str str") => `(tactic| (k_here; (refine in_points is_points ?_)))
local macro_rules | `(tactic| walk_at "exec While Compare cons nil") => `(tactic| refine Mine.held ?_)
local macro_rules | `(tactic| walk_at "exec While BoolOp cons nil") => `(tactic| refine Mine.held ?_)
local macro_rules | `(tactic| walk_at "exec While UnaryOp cons nil") => `(tactic| refine Mine.held ?_)
local macro_rules | `(tactic| walk_at "call ref") => `(tactic| (
  k_here
  (with_reducible show wpAny _ _ (call (Value.ref 28) _) _ _ _)
  k_dflt (refine' useV (letter_call _ _ _) ?k1 ?k2 ?k3 ?k4 ?k5 ?kK ?kp ?kd ?ku ?_)
  walk_at "m args"
  intro t9 h9 tk9 F9 N9; (try dsimp only); (try k_fold)))
local macro_rules | `(tactic| walk_at "call ref") => `(tactic| (
  k_here
  (with_reducible show wpAny _ _ (call (Value.ref 35) _) _ _ _)
  k_dflt (refine' useV (dashes_call _ _ _ _ _) ?k1 ?k2 ?k3 ?k4 ?k5 ?kK ?kp ?kd ?ku ?_)
  walk_at "m args"
  intro t9 h9 tk9 F9 N9; (try dsimp only); (try k_fold)))
local macro_rules | `(tactic| walk_at "call ref") => `(tactic| (
  k_here
  (with_reducible show wpAny _ _ (call (Value.ref 42) _) _ _ _)
  k_dflt (refine' useV (hyphen_call _ _ _ _ _) ?k1 ?k2 ?k3 ?k4 ?k5 ?kK ?kp ?kd ?ku ?_)
  walk_at "m args"
  intro t9 h9 tk9 F9 N9; (try dsimp only); (try k_fold)))
local macro_rules | `(tactic| walk_at "binaryOp Add str str") => `(tactic| (k_here; (refine add_ap (by simp only [Str.length_append, three_len] at *; omega) ?_); intro t9 k9 e9))
local macro_rules | `(tactic| size_fits) => `(tactic| (simp only [sizeLine_eq, List.size_toArray]; omega))
local macro_rules | `(tactic| walk_at "call builtin:list.append") => `(tactic| (k_here; (with_reducible show wpAny _ _ (call (Value.builtin _) [Value.ref _, _]) _ _ _); k_dflt (refine' append_K ?k1 ?k2 (Upd.head ?k3) ?_ ?z; (case k1 => k_asm); (case k2 => k_asm); (case k3 => with_reducible assumption); (case z => size_fits); k_whole); intro h' F' N'; (try k_sweep)))
local macro_rules | `(tactic| walk_at "KswEnd") => `(tactic| refine Mine.held ?_)
local macro_rules | `(tactic| walk_at "m same") => `(tactic| (intro z h2 h3; (have h2' := h2 _ (List.Mem.head _)); (dsimp only at h2'); (try simp only [List.contains_cons, List.contains_nil, Bool.or_false, beq_eq_false_iff_ne, ne_eq] at h3); first | (simp [kstB, h2', h3]; done) | (simp [kstB, h2']; done)))
set_option maxRecDepth 100000 in
set_option maxHeartbeats 8000000 in
theorem split_call (w : World) (x : Str) (t : Tok) :
    ClaimO w 49 4 (x.length ≤ 1000) [Value.str x t] (fun r tl => ∃ a its k, r = .ref a ∧ tl = [(a, listOf its.toArray k)] ∧ StrsAre its (chunksFrom (wide x) (x.length + 3) 3)) := by
  unfold ClaimO
  w_top off
  k_with_none
  k_fill
  intro news mean mg mb dp un gd cn cs a ccd cl outer A₀ base h₀ L m s Q E B F X N T hk hpre hdp hun hret
  refine wpAny_call ?_
  k_dflt cell_enter
  (rename Fr _ _ _ _ => F1)
  replace F1 := fr_nice (fun y => List.lookup y [(Str.ofString "text", .str x t)]) F1 (by with_unfolding_all rfl)
  generalize s.toks + _ = tk0
  k_steps
  unfold Held
  (rename Fr _ _ _ _ => F1); (rename News _ _ _ _ => N1)
  dsimp only at F1
  rename_i lc h2 hl h1 h0
  have hne : ∀ p ∈ news, p.1 ≠ lc := fun p hp => Nat.ne_of_lt (hl p hp)
  have hy0 : (wide x).length = x.length + 6 := by simp only [wide, Str.length_append, three_len]; omega
  obtain ⟨e, he⟩ : ∃ e : Nat, e = x.length + 3 := ⟨_, rfl⟩
  have hy1 : chI (wide x) e = 32 := wide_right (by omega) (by omega)
  have hy2 : chI (wide x) (e + 1) = 32 := wide_right (by omega) (by omega)
  have hy3 : chI (wide x) ((wide x).length - 1) = 32 := wide_right (by omega) (by omega)
  have hw : Str.ofString "   " ++ x ++ Str.ofString "   " = wide x := rfl
  simp only [hw] at F1
  have he' : (x.length : Int) + 3 = (e : Int) := by omega
  simp only [he'] at F1
  generalize hyy : wide x = y at *
  refine' ksw_while (σ := Int × Tok × List Value × List Str × Nat) (fun c => (lc, listOf c.2.2.1.toArray c.2.2.2.2) :: news) (fun c => [(Str.ofString "at", .int c.1 c.2.1)])
    (fun c => StrsAre c.2.2.1 c.2.2.2.1) [Str.ofString "start"]
    (fun c => 3 ≤ c.1 ∧ c.1 ≤ e ∧ c.2.2.2.1 ++ chunksFrom y e c.1.toNat = chunksFrom y e 3 ∧ c.2.2.2.1.length ≤ c.1.toNat) (fun c => (e - c.1).toNat) (3, _, [], [], 0) F1 N1 .nil ?k1 ?k2 ?k3
  case k1 => kst_all
  case k2 => exact ⟨by dsimp only; omega, by dsimp only; omega, rfl, by simp⟩
  clear F1 N1
  rintro ⟨p, tp, its, zs, cnt⟩ u' h tk hf ⟨p1, p2, p3, p4⟩ F2 N2
  dsimp only at p1 p2 p3 p4 F2 N2 hf
  (try k_fold)
  have hlen := strsAre_len hf
  k_steps
  · unfold Held
    (rename Fr _ _ _ _ => F3); (rename News _ _ _ _ => N3)
    dsimp only at F3
    have hpe := (by with_reducible assumption : p < e)
    have hc := (by with_reducible assumption : chI y p = 32)
    refine' ksw_while (σ := Int × Tok) (fun _ => (lc, listOf its.toArray cnt) :: news) (fun c => [(Str.ofString "at", .int c.1 c.2)])
      (fun _ => True) [] (fun c => p + 1 ≤ c.1 ∧ c.1 ≤ e ∧ spaceRun y e c.1.toNat = spaceRun y e (p.toNat + 1)) (fun c => (e - c.1).toNat) (p + 1, _) F3 N3 trivial ?wa1 ?wa2 ?wa3
    case wa1 => kst_all
    case wa2 => exact ⟨by dsimp only; omega, by dsimp only; omega, by dsimp only; rw [toNat_succ (by omega)]⟩
    clear F3 N3
    rintro ⟨q, tq⟩ u3 h3 tk3 - ⟨q1, q2, q3⟩ F4 N4
    dsimp only at q1 q2 q3 F4 N4
    (try k_fold)
    k_steps
    · unfold Held
      have hc4 := (by with_reducible assumption : chI y q = 32)
      have hq4 := (by with_reducible assumption : q < e)
      refine ksw_end (q + 1, _) (by assumption) (by assumption) (fun _ h => h) trivial (by kst_all) (by walk_at "m same")
        ⟨by dsimp only; omega, by dsimp only; omega, (spaceRun_step (by omega) hq4 hc4).trans q3⟩ (by dsimp only; omega)
    all_goals
      unfold Held
      (rename News _ _ _ _ => nE); simp only [List.push_toArray] at nE
      have hx : (e : Int) ≤ q ∨ ¬ chI y q = 32 := by first | exact .inr (by with_reducible assumption) | exact .inl (by omega)
      have h6 := chunk_space (by omega) hc ((spaceRun_stop (by omega) hx).symm.trans q3)
      refine ksw_end (q, _, _, zs ++ [Txt.slice y (some p) (some q)], _) (by assumption) nE (fun _ h => h) (StrsAre.append' hf (.cons _ _ .nil)) (by kst_all) (by walk_at "m same")
        ⟨by dsimp only; omega, by dsimp only; omega, out_step (by omega) hpe (by omega) h6 p3, by simp only [List.length_append, List.length_cons, List.length_nil]; omega⟩ (by dsimp only; omega)
  · unfold Held
    (rename Fr _ _ _ _ => F3); (rename News _ _ _ _ => N3)
    dsimp only at F3
    have hpe := (by with_reducible assumption : p < e)
    have hc := (by with_reducible assumption : ¬ chI y p = 32)
    have hd := (by with_reducible assumption : dashesI y p = true)
    refine' ksw_while (σ := Int × Tok) (fun _ => (lc, listOf its.toArray cnt) :: news) (fun c => [(Str.ofString "at", .int c.1 c.2)])
      (fun _ => True) [] (fun c => p + 1 ≤ c.1 ∧ c.1 ≤ e ∧ dashRun y c.1.toNat = dashRun y (p.toNat + 1)) (fun c => (e - c.1).toNat) (p + 1, _) F3 N3 trivial ?wb1 ?wb2 ?wb3
    case wb1 => kst_all
    case wb2 => exact ⟨by dsimp only; omega, by dsimp only; omega, by dsimp only; rw [toNat_succ (by omega)]⟩
    clear F3 N3
    rintro ⟨q, tq⟩ u3 h3 tk3 - ⟨q1, q2, q3⟩ F4 N4
    dsimp only at q1 q2 q3 F4 N4
    (try k_fold)
    k_steps
    · unfold Held
      have hc4 := (by with_reducible assumption : chI y q = 45)
      have hq4 : q ≠ e := fun h' => by rw [h'] at hc4; omega
      refine ksw_end (q + 1, _) (by assumption) (by assumption) (fun _ h => h) trivial (by kst_all) (by walk_at "m same")
        ⟨by dsimp only; omega, by dsimp only; omega, (dashRun_step (by omega) (by omega) hc4).trans q3⟩ (by dsimp only; omega)
    all_goals
      unfold Held
      (rename News _ _ _ _ => nE); simp only [List.push_toArray] at nE
      have hx := (by with_reducible assumption : ¬ chI y q = 45)
      have h6 := chunk_dash (e := e) (by omega) hc hd ((dashRun_stop (by omega) hx).symm.trans q3)
      refine ksw_end (q, _, _, zs ++ [Txt.slice y (some p) (some q)], _) (by assumption) nE (fun _ h => h) (StrsAre.append' hf (.cons _ _ .nil)) (by kst_all) (by walk_at "m same")
        ⟨by dsimp only; omega, by dsimp only; omega, out_step (by omega) hpe (by omega) h6 p3, by simp only [List.length_append, List.length_cons, List.length_nil]; omega⟩ (by dsimp only; omega)
  · unfold Held
    (rename Fr _ _ _ _ => F3); (rename News _ _ _ _ => N3)
    dsimp only at F3
    have hpe := (by with_reducible assumption : p < e)
    have hc := (by with_reducible assumption : ¬ chI y p = 32)
    have hd := (by with_reducible assumption : dashesI y p = false)
    refine' ksw_while (σ := Int × Tok) (fun _ => (lc, listOf its.toArray cnt) :: news) (fun c => [(Str.ofString "at", .int c.1 c.2)])
      (fun _ => True) [] (fun c => p + 1 ≤ c.1 ∧ c.1 ≤ e ∧ wordRun y c.1.toNat = wordRun y (p.toNat + 1)) (fun c => (e - c.1).toNat) (p + 1, _) F3 N3 trivial ?wc1 ?wc2 ?wc3
    case wc1 => kst_all
    case wc2 => exact ⟨by dsimp only; omega, by dsimp only; omega, by dsimp only; rw [toNat_succ (by omega)]⟩
    clear F3 N3
    rintro ⟨q, tq⟩ u3 h3 tk3 - ⟨q1, q2, q3⟩ F4 N4
    dsimp only at q1 q2 q3 F4 N4
    rcases Int.lt_or_eq_of_le q2 with q4 | q4
    · (try k_fold)
      k_steps
      all_goals
        unfold Held
        first
          | (have h5 := wordRun_step1 (by omega) (by omega) (by with_reducible assumption : ¬ chI y q = 32) (by with_reducible assumption : ¬ chI y q = 45)
             refine ksw_end (q + 1, _) (by assumption) (by assumption) (fun _ h => h) trivial (by kst_all) (by walk_at "m same")
               ⟨by dsimp only; omega, by dsimp only; omega, h5.trans q3⟩ (by dsimp only; omega))
          | (have h5 := wordRun_step2 (by omega) (by omega) (by with_reducible assumption : ¬ chI y q = 32) (by with_reducible assumption : dashesI y q = false) (by with_reducible assumption : hyphenI y q = false)
             refine ksw_end (q + 1, _) (by assumption) (by assumption) (fun _ h => h) trivial (by kst_all) (by walk_at "m same")
               ⟨by dsimp only; omega, by dsimp only; omega, h5.trans q3⟩ (by dsimp only; omega))
          | ((rename News _ _ _ _ => nE); simp only [List.push_toArray] at nE
             have hx : chI y q = 32 ∨ (chI y q = 45 ∧ (dashesI y q = true ∨ hyphenI y q = true)) := by first | exact .inl (by omega) | exact .inr ⟨by with_reducible assumption, .inl (by with_reducible assumption)⟩ | exact .inr ⟨by with_reducible assumption, .inr (by with_reducible assumption)⟩
             have h6 := chunk_word (e := e) (by omega) (by omega) hc hd ((wordRun_stop (by omega) hx).symm.trans q3) (by omega)
             refine ksw_end (q, _, _, zs ++ [Txt.slice y (some p) (some q)], _) (by assumption) nE (fun _ h => h) (StrsAre.append' hf (.cons _ _ .nil)) (by kst_all) (by walk_at "m same")
               ⟨by dsimp only; omega, by dsimp only; omega, out_step (by omega) hpe (by omega) h6 p3, by simp only [List.length_append, List.length_cons, List.length_nil]; omega⟩ (by dsimp only; omega))
          | ((rename News _ _ _ _ => nE); simp only [List.push_toArray] at nE
             have hx : chI y q = 32 ∨ (chI y q = 45 ∧ (dashesI y q = true ∨ hyphenI y q = true)) := by first | exact .inr ⟨by with_reducible assumption, .inl (by with_reducible assumption)⟩ | exact .inr ⟨by with_reducible assumption, .inr (by with_reducible assumption)⟩
             have h6 := chunk_word1 (e := e) (by omega) (by omega) hc hd ((wordRun_stop (by omega) hx).symm.trans q3) (by with_reducible assumption) (by with_reducible assumption)
             refine ksw_end (q + 1, _, _, zs ++ [Txt.slice y (some p) (some (q + 1))], _) (by assumption) nE (fun _ h => h) (StrsAre.append' hf (.cons _ _ .nil)) (by kst_all) (by walk_at "m same")
               ⟨by dsimp only; omega, by dsimp only; omega, out_step (by omega) hpe (by omega) h6 p3, by simp only [List.length_append, List.length_cons, List.length_nil]; omega⟩ (by dsimp only; omega))
    · subst q4
      (try k_fold)
      k_steps
      unfold Held
      (rename News _ _ _ _ => nE); simp only [List.push_toArray] at nE
      have h6 := chunk_word (e := e) (by omega) (by omega) hc hd ((wordRun_stop (by omega) (.inl hy1)).symm.trans q3) (by omega)
      refine ksw_end (↑e, _, _, zs ++ [Txt.slice y (some p) (some ↑e)], _) (by assumption) nE (fun _ h => h) (StrsAre.append' hf (.cons _ _ .nil)) (by kst_all) (by walk_at "m same")
        ⟨by dsimp only; omega, by dsimp only; omega, out_step (by omega) hpe (by omega) h6 p3, by simp only [List.length_append, List.length_cons, List.length_nil]; omega⟩ (by dsimp only; omega)
  · have hpe : p = e := by omega
    rw [chunksFrom_end (by omega), List.append_nil] at p3
    refine hret (.ref lc) [(lc, listOf its.toArray cnt)] _ _ (by k_asm) (by k_asm) ⟨lc, its, cnt, rfl, rfl, ?_⟩
    rw [← he, ← p3]
    exact hf
end C3

section C4
set_option maxRecDepth 100000 in
set_option maxHeartbeats 8000000 in
theorem off {news : List (Addr × Obj)} {L d : Addr} (h : ∀ p ∈ news, p.1 < L) (hd : @LE.le Nat _ L d) : ∀ p ∈ news, p.1 ≠ d := fun p hp => Nat.ne_of_lt (Nat.lt_of_lt_of_le (h p hp) hd)

/-- the comprehension's items, named for the walk -/
def BoolItems (_g : Int → Bool) : Prop := True
section
variable {prog : Program} {w : World} {A : Around} {h₀ : Heap} {L : Addr} {m : Str → Option Value} {env : Env} {elt : Expr} {x : Str} {scope : Scope} {cl : List (Str × Addr)} {s : Shared} {S : List (Addr × Obj) → Prop} {Fin : List Value → List (Addr × Obj) → Prop} {news : List (Addr × Obj)}
set_option maxRecDepth 100000 in
set_option maxHeartbeats 8000000 in
theorem kb_range {n : Nat} {a : Int} {g : Int → Bool} (_hg : BoolItems g)
    (turn : ∀ k t I oI C oC D m₂ ys h tk (E' : Value → Shared → Prop), a ≤ k → k < a + (n : Int) → LCg.NsObj oC m₂ → m₂ x = some (.int k t) → Fr h₀ L h m → News h₀ L h ((I, oI) :: (C, oC) :: (D, LCg.lst ys) :: news) → LCg.Off3 I C D news → ((@Ne Nat I C) ∧ (@Ne Nat I D) ∧ (@Ne Nat C D)) →
      wpAny (model prog w) A (eval elt (compEnvC scope cl C env)) (LCg.CompEnd h₀ L m { s with heap := h, toks := tk } I oI C oC D (LCg.lst ys) S (fun y news' => news' = news ∧ y = .bool (g k))) E' { s with heap := h, toks := tk })
    (fin : Fin ((rangeKs a n).map fun k => Value.bool (g k)) news) : LCg.CompRest prog w A h₀ L m env elt x scope cl s S (fun i v => ∃ t, v = .int (a + (i : Int)) t) Fin n 0 [] news := by
  suffices key : ∀ j i : Nat, i + j = n → LCg.CompRest prog w A h₀ L m env elt x scope cl s S (fun i v => ∃ t, v = .int (a + (i : Int)) t) Fin j i (((rangeKs a n).take i).map fun k => Value.bool (g k)) news from key n 0 (by omega)
  intro j
  induction j with
  | zero =>
    intro i hi
    rw [List.take_of_length_le (by rw [rangeKs_length]; omega)]
    exact LCg.CompRest.zero fin
  | succ j ih =>
    intro i hi
    refine LCg.CompRest.succ ?_
    rintro v I oI C oC D m₂ h tk E' ⟨t, rfl⟩ hC hx F N off ne
    refine wpAny_mono (turn _ t I oI C oC D m₂ _ h tk E' (by omega) (by omega) hC hx F N off ne) (fun y s₂ hq => ?_) fun _ _ e => e
    obtain ⟨h', tk', nw, e, F', N', off', hS, hn, hy⟩ := hq
    subst hn hy
    refine ⟨h', tk', _, e, F', N', off', hS, ?_⟩
    have hi' : i < n := by omega
    have hk : (rangeKs a n)[i]? = some (a + (i : Int)) := by simp [rangeKs, hi']
    have := ih (i + 1) (by omega)
    rw [List.take_add_one, hk, List.map_append] at this
    exact this
end

section
variable {prog : Program} {w : World} {A : Around} {E : Value → Shared → Prop} {s : Shared} {h₀ : Heap} {L D : Addr} {m : Str → Option Value} {news news' : List (Addr × Obj)} {bs : List Bool} {n : Nat} {k : Int} {t u : Tok} {b : Bool}
set_option maxRecDepth 100000 in
set_option maxHeartbeats 8000000 in
theorem kb_set {Q : Unit → Shared → Prop} (F : Fr h₀ L s.heap m) (N : News h₀ L s.heap news) (U : Upd D (listOf (bs.map Value.bool).toArray n) (listOf ((bs.set k.toNat b).map Value.bool).toArray n) news news') (h0 : 0 ≤ k) (h1 : k < bs.length) (hfit : k < 2 ^ 63)
    (h : ∀ h', Fr h₀ L h' m → News h₀ L h' news' → Q () { s with heap := h' }) :
    wpAny (model prog w) A (setItem (.ref D) (.int k t) (.bool b)) Q E s := by
  obtain ⟨pre, post, rfl, rfl, a, c⟩ := U.split
  have z := N (D, listOf (bs.map Value.bool).toArray n) (List.mem_append.mpr (.inr (.head _)))
  refine ki_setAt z.1 h0 hfit (by simp; omega) (h _ (F.change (Heap.SameBut.update ..) z.2.1 z.2.2) (ki_turn _ N a c ?_ ?_))
  · show (bs.map Value.bool).toArray.setIfInBounds k.toNat (.bool b) = ((bs.set k.toNat b).map Value.bool).toArray
    apply Array.toList_inj.mp
    simp [List.map_set]
  · simp
set_option maxRecDepth 100000 in
set_option maxHeartbeats 8000000 in
theorem kb_get {value slice : PySem.Expr} {Q : Value → Shared → Prop} (N : News h₀ L s.heap news) (hm : (D, listOf (bs.map Value.bool).toArray n) ∈ news) (h0 : 0 ≤ k) (h1 : k < bs.length) (hfit : k < 2 ^ 63) (h : Q (.bool (bs.getD k.toNat false)) s)
    (hs : subscripted slice false (.ref D) (.int k u) = operate [.ref D, .int k u] (getItem (.ref D) (.int k u)) := by with_unfolding_all rfl) :
    wpAny (model prog w) A (subscriptTail value slice (.ref D) (.int k u)) Q E s := by
  have hl : s.heap.IsList D (bs.map Value.bool).toArray := PySem.IsL.isList (n := n) (N _ hm).1
  have hk : k.toNat < bs.length := by omega
  exact tail_any hl.typeIs slot_list_getitem.lookup (wpAny_getItem_list hl h0 hfit (x := .bool (bs.getD k.toNat false)) (by simp [List.getD_eq_getElem?_getD, hk]) h) hs
end
set_option maxRecDepth 100000 in
set_option maxHeartbeats 8000000 in
theorem off1_mem {D : Addr} : ∀ {l : List (Addr × Obj)}, LCg.Off1 D l → ∀ p ∈ l, p.1 ≠ D
  | [], _, _, h => nomatch h
  | _ :: _, x, p, h => by
    rcases List.mem_cons.mp h with rfl | h
    · exact x.1
    · exact off1_mem x.2 p h
/-- where the text is parted anyway: at its end, and where blanks begin or end -/
def baseI (x : Str) (k : Int) : Bool := decide (k = x.length) || (decide (0 < k) && (decide (chI x k = 32) != decide (chI x (k - 1) = 32)))
set_option maxRecDepth 100000 in
set_option maxHeartbeats 8000000 in
theorem base_end {x : Str} {k : Int} (h : k = x.length) : (k == (x.length : Int)) = baseI x k := by
  subst h; simp [baseI]
set_option maxRecDepth 100000 in
set_option maxHeartbeats 8000000 in
theorem base_other {x : Str} {k : Int} (h : ¬ k = x.length) (h1 : 0 < k) : (decide (chI x k = 32) != decide (chI x (k - 1) = 32)) = baseI x k := by
  unfold baseI
  rw [decide_eq_false h, decide_eq_true h1, Bool.false_or, Bool.true_and]
set_option maxRecDepth 100000 in
set_option maxHeartbeats 8000000 in
theorem base_zero {x : Str} {k : Int} (h : ¬ k = x.length) (h1 : ¬ 0 < k) : decide (0 < k) = baseI x k := by
  unfold baseI
  rw [decide_eq_false h, decide_eq_false h1]
  rfl
def cuts0 (x : Str) : List Bool := (rangeKs 0 (x.length + 1)).map (baseI x)
def condA (x : Str) (l r : Int) : Bool := decide (1 < r - l) && (wordN (chI (wide x) (l + 2)) || points (chI (wide x) (l + 2))) && wordN (chI (wide x) (r + 3))
def condB1 (x : Str) (l r : Int) : Bool := decide (r - l = 1) && letterN (chI (wide x) (l + 2)) && letterN (chI (wide x) (r + 3))
def farB (x : Str) (l : Int) : Bool := letterN (chI (wide x) (l + 1)) || (decide (chI (wide x) (l + 1) = 45) && letterN (chI (wide x) l))
def nearB (x : Str) (l : Int) : Bool := letterN (chI (wide x) (l + 5)) || (decide (chI (wide x) (l + 5) = 45) && letterN (chI (wide x) (l + 6)))
def condB (x : Str) (l r : Int) : Bool := condB1 x l r && (farB x l && nearB x l)
/-- a test's or a term's ways, as one -/
def Joined {α : Type} (h₀ : Heap) (L : Addr) (m : Str → Option Value) (news : List (Addr × Obj)) (b : α) (s : Shared) (b' : α) (s' : Shared) : Prop := b' = b ∧ ∃ h' tk', s' = { s with heap := h', toks := tk' } ∧ Fr h₀ L h' m ∧ News h₀ L h' news
section
variable {M : Model} {A : Around} {E : Value → Shared → Prop} {s : Shared} {h₀ : Heap} {L : Addr} {m : Str → Option Value} {news : List (Addr × Obj)}
set_option maxRecDepth 100000 in
set_option maxHeartbeats 8000000 in
theorem Joined.mk {α : Type} {b b' : α} {h' : Heap} {tk' : Nat} (e : b' = b) (F : Fr h₀ L h' m) (N : News h₀ L h' news) : Joined h₀ L m news b s b' { s with heap := h', toks := tk' } := ⟨e, h', tk', rfl, F, N⟩
set_option maxRecDepth 100000 in
set_option maxHeartbeats 8000000 in
theorem join_tree {α : Type} {tree : Sem α} {Q : α → Shared → Prop} (b : α) (F : Fr h₀ L s.heap m) (N : News h₀ L s.heap news) (h1 : wpAny M A tree (Joined h₀ L m news b s) E s)
    (h2 : ∀ h' tk', Fr h₀ L h' m → News h₀ L h' news → Q b { s with heap := h', toks := tk' }) : wpAny M A tree Q E s := by
  refine wpAny_mono h1 ?_ fun _ _ e => e
  rintro b' s' ⟨rfl, h', tk', rfl, F', N'⟩
  exact h2 h' tk' F' N'
set_option maxRecDepth 100000 in
set_option maxHeartbeats 8000000 in
theorem if_join {test : Expr} {body orelse : List Stmt} {pos : Pos} {env : Env} {Q : Flow → Shared → Prop} (b : Bool) (F : Fr h₀ L s.heap m) (N : News h₀ L s.heap news)
    (h1 : wpAny M A (isTrue test env (eval test env)) (Joined h₀ L m news b s) E s)
    (h2 : ∀ h' tk', Fr h₀ L h' m → News h₀ L h' news → b = true → wpAny M A (execs body env) Q E { s with heap := h', toks := tk' })
    (h3 : ∀ h' tk', Fr h₀ L h' m → News h₀ L h' news → b = false → wpAny M A (execs orelse env) Q E { s with heap := h', toks := tk' }) :
    wpAny M A (exec (.If test body orelse pos) env) Q E s := by
  refine wpAny_If (join_tree b F N h1 fun h' tk' F' N' => ?_)
  cases b with
  | true => simpa using h2 h' tk' F' N' rfl
  | false => simpa using h3 h' tk' F' N' rfl
end
def cutStep (x : Str) (l r : Int) (bs : List Bool) : List Bool :=
  if condB x l r = true then (if condA x l r = true then (bs.set l.toNat true).set r.toNat true else bs).set r.toNat true else (if condA x l r = true then (bs.set l.toNat true).set r.toNat true else bs)
noncomputable def cutsFrom (x : Str) (l : Nat) (bs : List Bool) : List Bool :=
  if h : l < x.length then cutsFrom x (max (dashRun x l) (l + 1)) (cutStep x l (dashRun x l) bs) else bs
termination_by x.length - l
decreasing_by omega
noncomputable def cutsOf (x : Str) : List Bool := cutsFrom x 0 (cuts0 x)
set_option maxRecDepth 100000 in
set_option maxHeartbeats 8000000 in
theorem cutStep_len (x : Str) (l r : Int) (bs : List Bool) : (cutStep x l r bs).length = bs.length := by
  unfold cutStep
  split <;> split <;> simp
set_option maxRecDepth 100000 in
set_option maxHeartbeats 8000000 in
theorem cuts0_len (x : Str) : (cuts0 x).length = x.length + 1 := by simp [cuts0, rangeKs_length]
set_option maxRecDepth 100000 in
set_option maxHeartbeats 8000000 in
theorem cuts_step {x : Str} {l q : Int} {bs C : List Bool} (h0 : 0 ≤ l) (h1 : l < x.length) (hq : q.toNat = dashRun x l.toNat) (h2 : 0 ≤ q) (h : cutsFrom x l.toNat bs = C) : cutsFrom x (max q (l + 1)).toNat (cutStep x l q bs) = C := by
  rw [← h]
  conv => rhs; rw [cutsFrom]
  rw [dif_pos (by omega), ← hq, Int.toNat_of_nonneg h0, Int.toNat_of_nonneg h2]
  congr 1
  omega
set_option maxRecDepth 100000 in
set_option maxHeartbeats 8000000 in
theorem cuts_done {x : Str} {l : Nat} {bs : List Bool} (h : x.length ≤ l) : cutsFrom x l bs = bs := by
  rw [cutsFrom, dif_neg (by omega)]
set_option maxRecDepth 100000 in
set_option maxHeartbeats 8000000 in
theorem dashRun_stop2 {x : Str} {e : Int} (h0 : 0 ≤ e) (hc : (x.length : Int) ≤ e ∨ ¬ chI x e = 45) : dashRun x e.toNat = e.toNat := by
  rcases hc with hc | hc
  · unfold dashRun
    rw [dif_neg]
    rintro ⟨h, _⟩
    omega
  · exact dashRun_stop h0 hc

local macro_rules | `(tactic| walk_at "m pad C4 0") => `(tactic| skip)
local macro_rules | `(tactic| walk_at "m pad C4 1") => `(tactic| skip)
local macro_rules | `(tactic| walk_at "m pad C4 2") => `(tactic| skip)
local macro_rules | `(tactic| walk_at "m pad C4 3") => `(tactic| skip)
local macro_rules | `(tactic| walk_at "m args") => `(tactic| (
  (case k1 => first | k_asm | fail "m: below")
  (case k2 => first | k_asm | fail "m: frame")
  (case k3 => first | k_asm | fail "m: written part")
  (case k4 => first | k_asm | fail "m: ledger")
  (case k5 => first | k_asm | fail "m: top")
  (case kK => first | exact rfl | assumption | fail "m: kind")
  (case kd => first | ktr_room | fail "m: room")
  (case ku => first | ktr_units | fail "m: units")
  (case kp => first | exact trivial | assumption | (simp; done) | omega | fail "m: pre")))
local macro_rules | `(tactic| walk_at "call ref") => `(tactic| (
  k_here
  (with_reducible show wpAny _ _ (call (Value.ref 21) _) _ _ _)
  k_dflt (refine' useV (word_call _ _ _) ?k1 ?k2 ?k3 ?k4 ?k5 ?kK ?kp ?kd ?ku ?_)
  walk_at "m args"
  intro t9 h9 tk9 F9 N9; (try dsimp only); (try k_fold)))
local macro_rules | `(tactic| walk_at "subscriptTail Name Name str int") => `(tactic| (k_here; (refine item_at (by omega) (by omega) (by omega) ?_)))
local macro_rules | `(tactic| walk_at "subscriptTail Name BinOp str int") => `(tactic| (k_here; (refine item_at (by omega) (by omega) (by omega) ?_)))
local macro_rules | `(tactic| walk_at "subscriptTail Name IfExp str int") => `(tactic| (k_here; (refine item_at (by omega) (by omega) (by omega) ?_)))
local macro_rules | `(tactic| walk_at "compareOp Eq str str") => `(tactic| (k_here; first | (refine cmp_one is_dash ?_) | (refine cmp_one is_blank ?_)))
local macro_rules | `(tactic| walk_at "compareOp NotEq str str") => `(tactic| (k_here; first | (refine cmp_ne_one is_dash ?_) | (refine cmp_ne_one is_blank ?_)))
local macro_rules | `(tactic| walk_at "compareOp In str str") => `(tactic| (k_here; (refine in_points is_points ?_)))
local macro_rules | `(tactic| walk_at "exec While Compare cons nil") => `(tactic| refine Mine.held ?_)
local macro_rules | `(tactic| walk_at "exec While BoolOp cons nil") => `(tactic| refine Mine.held ?_)
local macro_rules | `(tactic| walk_at "exec While UnaryOp cons nil") => `(tactic| refine Mine.held ?_)
local macro_rules | `(tactic| walk_at "call ref") => `(tactic| (
  k_here
  (with_reducible show wpAny _ _ (call (Value.ref 28) _) _ _ _)
  k_dflt (refine' useV (letter_call _ _ _) ?k1 ?k2 ?k3 ?k4 ?k5 ?kK ?kp ?kd ?ku ?_)
  walk_at "m args"
  intro t9 h9 tk9 F9 N9; (try dsimp only); (try k_fold)))
local macro_rules | `(tactic| walk_at "call ref") => `(tactic| (
  k_here
  (with_reducible show wpAny _ _ (call (Value.ref 35) _) _ _ _)
  k_dflt (refine' useV (dashes_call _ _ _ _ _) ?k1 ?k2 ?k3 ?k4 ?k5 ?kK ?kp ?kd ?ku ?_)
  walk_at "m args"
  intro t9 h9 tk9 F9 N9; (try dsimp only); (try k_fold)))
local macro_rules | `(tactic| walk_at "call ref") => `(tactic| (
  k_here
  (with_reducible show wpAny _ _ (call (Value.ref 42) _) _ _ _)
  k_dflt (refine' useV (hyphen_call _ _ _ _ _) ?k1 ?k2 ?k3 ?k4 ?k5 ?kK ?kp ?kd ?ku ?_)
  walk_at "m args"
  intro t9 h9 tk9 F9 N9; (try dsimp only); (try k_fold)))
local macro_rules | `(tactic| walk_at "binaryOp Add str str") => `(tactic| (k_here; (refine add_ap (by simp only [Str.length_append, three_len] at *; omega) ?_); intro t9 k9 e9))
local macro_rules | `(tactic| size_fits) => `(tactic| (simp only [sizeLine_eq, List.size_toArray]; omega))
local macro_rules | `(tactic| walk_at "call builtin:list.append") => `(tactic| (k_here; (with_reducible show wpAny _ _ (call (Value.builtin _) [Value.ref _, _]) _ _ _); k_dflt (refine' append_K ?k1 ?k2 (Upd.head ?k3) ?_ ?z; (case k1 => k_asm); (case k2 => k_asm); (case k3 => with_reducible assumption); (case z => size_fits); k_whole); intro h' F' N'; (try k_sweep)))
local macro_rules | `(tactic| walk_at "KswEnd") => `(tactic| refine Mine.held ?_)
local macro_rules | `(tactic| walk_at "m same") => `(tactic| (intro z h2 h3; (have h2' := h2 _ (List.Mem.head _)); (dsimp only at h2'); (try simp only [List.contains_cons, List.contains_nil, Bool.or_false, Bool.or_eq_false_iff, beq_eq_false_iff_ne, ne_eq] at h3); first | (simp [kstB, h2', h3]; done) | (simp [kstB, h2']; done)))
local macro_rules | `(tactic| walk_at "call ref") => `(tactic| (
  k_here
  (with_reducible show wpAny _ _ (call (Value.ref 58) _) _ _ _)
  k_dflt (refine' useV (wordy_call _ _ _) ?k1 ?k2 ?k3 ?k4 ?k5 ?kK ?kp ?kd ?ku ?_)
  walk_at "m args"
  intro t9 h9 tk9 F9 N9; (try dsimp only); (try k_fold)))
local macro_rules | `(tactic| walk_at "call ref") => `(tactic| (
  k_here
  (with_reducible show wpAny _ _ (call (Value.ref 65) _) _ _ _)
  k_dflt (refine' useV (lettery_call _ _ _) ?k1 ?k2 ?k3 ?k4 ?k5 ?kK ?kp ?kd ?ku ?_)
  walk_at "m args"
  intro t9 h9 tk9 F9 N9; (try dsimp only); (try k_fold)))
local macro_rules | `(tactic| k_all) => `(tactic| exact off (by with_reducible assumption) (by omega))
local macro_rules | `(tactic| walk_at "CompSrc") => `(tactic| (k_here; k_dflt (refine LCg.CompSrc.range (by rfl) (by k_asm) (by k_asm) (by assumption) (by exact small_one (by omega) (by omega) (by omega) (by omega)) (by exact rangeSize_nat _ _) (by rw [PySem.sizeLine_eq]; omega) ?_; intro g'; (refine' kb_range (by assumption) (fun k' t' I' oI' C' oC' D' m' ys' h' tk' E' hlo' hhi' hC' hx' F' N' off' ne' => ?_) ?_); all_goals (try k_fold))))
local macro_rules | `(tactic| walk_at "CompEnd") => `(tactic| (refine LCg.CompEnd.intro (by assumption) (by assumption) _ (by kcf_all) (by assumption) (by first | lcg_src | assumption) ⟨rfl, ?_⟩))
local macro_rules | `(tactic| walk_at "setItem ref int") => `(tactic| (k_here; (with_reducible show wpAny _ _ (setItem (Value.ref _) (Value.int _ _) (Value.bool _)) _ _ _); k_dflt (refine' kb_set ?k1 ?k2 (Upd.head ?k3) ?k4 ?k5 ?k6 ?_; (case k1 => k_asm); (case k2 => k_asm); (case k3 => with_reducible assumption); (case k4 => omega); (case k5 => ((try simp only [List.length_set]); omega)); (case k6 => omega); k_whole); intro h' F' N'; (try k_sweep)))
local macro_rules | `(tactic| walk_at "subscriptTail Name Name ref int") => `(tactic| (k_here; (with_reducible show wpAny _ _ (subscriptTail _ _ (Value.ref _) (Value.int _ _)) _ _ _); k_dflt (refine' kb_get ?k1 ?k2 ?k3 ?k4 ?k5 ?_ ?k7; (case k1 => k_asm); (case k2 => with_reducible assumption); (case k3 => omega); (case k4 => omega); (case k5 => omega); (case k7 => with_unfolding_all rfl); k_whole)))
local macro_rules | `(tactic| walk_at "exec If") => `(tactic| refine Mine.held ?_)
local macro_rules | `(tactic| walk_at "exec Assign cons BoolOp") => `(tactic| refine Mine.held ?_)
set_option maxRecDepth 100000 in
set_option maxHeartbeats 8000000 in
theorem cuts_call (w : World) (x : Str) (t : Tok) :
    ClaimO w 70 4 (x.length ≤ 1000) [Value.str x t] (fun r tl => ∃ a k, r = .ref a ∧ tl = [(a, listOf ((cutsOf x).map Value.bool).toArray k)]) := by
  unfold ClaimO
  w_top off
  k_with_none
  k_fill
  intro news mean mg mb dp un gd cn cs a ccd cl outer A₀ base h₀ L m s Q E B F X N T hk hpre hdp hun hret
  refine wpAny_call ?_
  k_dflt (refine' code_defC ?k1 ?k2 ?k3 ?k4 ?k5 ?kA ?kF ?kK ?k6 ?k7 ?k8 ?k9 ?kB ?kD ?_ ?c2 ?c3 ?c4; (case kA => exact rfl); (case kF => exact rfl); (case kK => assumption); (case k1 => k_asm); (case k2 => k_asm); (case k3 => k_asm); (case k4 => k_asm); (case k5 => k_asm); (case k6 => k_is); (case k7 => k_is); (case k8 => ktr_room); (case k9 => exact BindsTo.of_eq rfl); (case kB => exact rfl); (case kD => decide +kernel); (case c2 => exact rfl); (case c3 => exact rfl); (case c4 => exact rfl); k_whole; intro g' L' h' tk' cells' FG' F' N' Y' B' X' T' l1; k_cells Y'; (try simp only [List.cons_append, List.nil_append] at N'); (try dsimp only); (try k_lift B'); (try k_fold))
  rename_i o1 o2 d1 d2
  replace d1 : o1.data = .cell none := d1
  replace d2 : o2.data = .cell (some (.str x t)) := d2
  (rename Fr _ _ _ _ => F1)
  replace F1 := fr_nice (fun y => none) F1 (by with_unfolding_all rfl)
  have hG : BoolItems (baseI x) := trivial
  k_steps
  · exact congrArg Value.bool (base_end (by omega))
  · exact congrArg Value.bool (base_other (by omega) (by omega))
  · exact congrArg Value.bool (base_zero (by omega) (by omega))
  unfold Held
  (rename Fr _ _ _ _ => F1); (rename News _ _ _ _ => N1)
  rename_i h4 oM dM ta ka ea tb kb eb h3 h2 tkA tr ur vr isr kpr gR D h1 tkB offD h0
  dsimp only at F1 dM
  clear isr kpr
  have hw : Str.ofString "   " ++ x ++ Str.ofString "   " = wide x := rfl
  simp only [hw] at F1
  have hy0 : (wide x).length = x.length + 6 := by simp only [wide, Str.length_append, three_len]; omega
  have e0 : (↑x.length + 1 - 0 : Int).toNat = x.length + 1 := by omega
  have e1 : List.map (fun k => Value.bool (baseI x k)) (rangeKs 0 (↑x.length + 1 - 0 : Int).toNat) = (cuts0 x).map Value.bool := by rw [e0, cuts0, List.map_map]; rfl
  rw [e1] at N1
  have hoff : ∀ p ∈ (L' + 1 + 1, oM) :: (L' + 1, o2) :: news, p.1 ≠ D := List.forall_mem_cons.mpr ⟨offD.1, List.forall_mem_cons.mpr ⟨offD.2.1, off1_mem offD.2.2⟩⟩
  clear e1 e0
  obtain ⟨cnt, hcnt⟩ : ∃ c, c = ((cuts0 x).map Value.bool).length := ⟨_, rfl⟩
  replace N1 : News g' L' h0 ((D, listOf ((cuts0 x).map Value.bool).toArray cnt) :: (L' + 1 + 1, oM) :: (L' + 1, o2) :: news) := by rw [hcnt]; exact N1
  have hcut : (cuts0 x).length = x.length + 1 := cuts0_len x
  refine' ksw_while (σ := Int × Tok × List Bool) (fun c => (D, listOf (c.2.2.map Value.bool).toArray cnt) :: (L' + 1 + 1, oM) :: (L' + 1, o2) :: news) (fun c => [(Str.ofString "left", .int c.1 c.2.1)])
    (fun _ => True) [Str.ofString "right", Str.ofString "ahead", Str.ofString "behind", Str.ofString "far"]
    (fun c => 0 ≤ c.1 ∧ c.1 ≤ x.length ∧ c.2.2.length = x.length + 1 ∧ cutsFrom x c.1.toNat c.2.2 = cutsOf x) (fun c => (x.length - c.1).toNat) (0, _, cuts0 x) F1 N1 trivial ?va1 ?va2 ?va3
  case va1 => kst_all
  case va2 => exact ⟨by dsimp only; omega, by dsimp only; omega, by dsimp only; omega, rfl⟩
  clear F1 N1
  rintro ⟨l, tl, bs⟩ u1 hh tk1 - ⟨p1, p2, p3, p4⟩ F2 N2
  dsimp only at p1 p2 p3 p4 F2 N2
  (try k_fold)
  k_steps
  · unfold Held
    (rename Fr _ _ _ _ => F3); (rename News _ _ _ _ => N3)
    dsimp only at F3
    have hpe := (by with_reducible assumption : l < x.length)
    refine' ksw_while (σ := Int × Tok) (fun _ => (D, listOf (bs.map Value.bool).toArray cnt) :: (L' + 1 + 1, oM) :: (L' + 1, o2) :: news) (fun c => [(Str.ofString "right", .int c.1 c.2)])
      (fun _ => True) [] (fun c => l ≤ c.1 ∧ c.1 ≤ x.length ∧ dashRun x c.1.toNat = dashRun x l.toNat) (fun c => (x.length - c.1).toNat) (l, _) F3 N3 trivial ?wa1 ?wa2 ?wa3
    case wa1 => kst_all
    case wa2 => exact ⟨by dsimp only; omega, by dsimp only; omega, rfl⟩
    clear F3 N3
    rintro ⟨q, tq⟩ u3 h3 tk3 - ⟨q1, q2, q3⟩ F4 N4
    dsimp only at q1 q2 q3 F4 N4
    have hb : (decide (q < x.length) && decide (chI x q = 45)) = true ∨ (decide (q < x.length) && decide (chI x q = 45)) = false := by cases (decide (q < x.length) && decide (chI x q = 45)) <;> simp
    refine join_tree (decide (q < x.length) && decide (chI x q = 45)) F4 N4 ?wj1 ?wj2
    case wj1 =>
      k_steps
      all_goals
        refine Joined.mk ?_ (by assumption) (by assumption)
        (first | rw [decide_eq_true (by omega : q < (x.length : Int))] | rw [decide_eq_false (by omega : ¬ q < (x.length : Int))] | skip)
        (first | rw [decide_eq_true (by with_reducible assumption : chI x q = 45)] | rw [decide_eq_false (by with_reducible assumption : ¬ chI x q = 45)] | skip)
        first | rfl | simp
    case wj2 =>
      clear F4 N4
      intro h4 tk4 F4 N4
      dsimp only
      rcases hb with hb | hb
      · rw [if_pos hb]
        have hq4 : q < x.length := by simp at hb; exact hb.1
        have hc4 : chI x q = 45 := by simp at hb; exact hb.2
        (try k_fold)
        k_steps
        unfold Held
        refine ksw_end (q + 1, _) (by assumption) (by assumption) (fun _ h => h) trivial (by kst_all) (by walk_at "m same")
          ⟨by dsimp only; omega, by dsimp only; omega, (dashRun_step (by omega) hq4 hc4).trans q3⟩ (by dsimp only; omega)
      · rw [if_neg (by rw [hb]; exact Bool.false_ne_true)]
        have hx : (x.length : Int) ≤ q ∨ ¬ chI x q = 45 := by simp at hb; omega
        have hr := (dashRun_stop2 (by omega) hx).symm.trans q3
        clear hb
        (try k_fold)
        k_steps
        unfold Held
        (rename Fr _ _ _ _ => F5); (rename News _ _ _ _ => N5)
        dsimp only at F5
        refine if_join (condA x l q) F5 N5 ?wk1 ?wk2 ?wk3
        case wk1 =>
          (try k_fold)
          k_steps
          all_goals
            refine Joined.mk ?_ (by assumption) (by assumption)
            unfold condA
            (first | rw [(by with_reducible assumption : wordN (chI (wide x) (l + 2)) = true)] | rw [(by with_reducible assumption : wordN (chI (wide x) (l + 2)) = false)] | skip)
            (first | rw [(by with_reducible assumption : points (chI (wide x) (l + 2)) = true)] | rw [(by with_reducible assumption : points (chI (wide x) (l + 2)) = false)] | skip)
            (first | rw [(by with_reducible assumption : wordN (chI (wide x) (q + 3)) = true)] | rw [(by with_reducible assumption : wordN (chI (wide x) (q + 3)) = false)] | skip)
            (first | rw [decide_eq_true (by omega : 1 < q - l)] | rw [decide_eq_false (by omega : ¬ 1 < q - l)] | skip)
            first | rfl | simp
        case wk2 =>
          clear F5 N5
          intro h6 tk6 F6 N6 hA
          (try k_fold)
          k_steps
          unfold Held
          (rename Fr _ _ _ _ => F5); (rename News _ _ _ _ => N5)
          (try dsimp only at F5)
          have hB1 : condB1 x l q = false := by
            have : ¬ q - l = 1 := by simp only [condA, Bool.and_eq_true, decide_eq_true_eq] at hA; omega
            simp [condB1, this]
          refine if_join (condB1 x l q) F5 N5 ?wl1 ?wl2 ?wl3
          case wl1 =>
            (try k_fold)
            k_steps
            all_goals
              refine Joined.mk ?_ (by assumption) (by assumption)
              unfold condB1
              (first | rw [(by with_reducible assumption : letterN (chI (wide x) (l + 2)) = true)] | rw [(by with_reducible assumption : letterN (chI (wide x) (l + 2)) = false)] | skip)
              (first | rw [(by with_reducible assumption : letterN (chI (wide x) (q + 3)) = true)] | rw [(by with_reducible assumption : letterN (chI (wide x) (q + 3)) = false)] | skip)
              (first | rw [decide_eq_true (by omega : q - l = 1)] | rw [decide_eq_false (by omega : ¬ q - l = 1)] | skip)
              first | rfl | simp
          case wl2 =>
            intro _ _ _ _ hc
            rw [hB1] at hc
            cases hc
          case wl3 =>
            clear F5 N5
            intro h7 tk7 F7 N7 _
            (try k_fold)
            k_steps
            unfold Held
            (rename News _ _ _ _ => nE)
            have e : (bs.set l.toNat true).set q.toNat true = cutStep x l q bs := by simp [cutStep, condB, hA, hB1]
            rw [e] at nE
            (rename Fr _ _ _ _ => F8)
            have hmx : (if l + 1 > q then l + 1 else q) = max q (l + 1) := by split <;> omega
            simp only [hmx] at F8
            refine ksw_end (max q (l + 1), _, cutStep x l q bs) (by assumption) nE (fun _ h => h) trivial (by kst_all) (by walk_at "m same")
              ⟨by dsimp only; omega, by dsimp only; omega, by dsimp only; rw [cutStep_len]; exact p3, cuts_step (by omega) hpe hr (by omega) p4⟩ (by dsimp only; omega)
        case wk3 =>
          clear F5 N5
          intro h6 tk6 F6 N6 hA
          (try k_fold)
          k_steps
          unfold Held
          (rename Fr _ _ _ _ => F5); (rename News _ _ _ _ => N5)
          (try dsimp only at F5)
          refine if_join (condB1 x l q) F5 N5 ?wl1 ?wl2 ?wl3
          case wl1 =>
            (try k_fold)
            k_steps
            all_goals
              refine Joined.mk ?_ (by assumption) (by assumption)
              unfold condB1
              (first | rw [(by with_reducible assumption : letterN (chI (wide x) (l + 2)) = true)] | rw [(by with_reducible assumption : letterN (chI (wide x) (l + 2)) = false)] | skip)
              (first | rw [(by with_reducible assumption : letterN (chI (wide x) (q + 3)) = true)] | rw [(by with_reducible assumption : letterN (chI (wide x) (q + 3)) = false)] | skip)
              (first | rw [decide_eq_true (by omega : q - l = 1)] | rw [decide_eq_false (by omega : ¬ q - l = 1)] | skip)
              first | rfl | simp
          case wl2 =>
            clear F5 N5
            intro h7 tk7 F7 N7 hB1
            (try k_fold)
            k_steps
            unfold Held
            (rename Fr _ _ _ _ => F5); (rename News _ _ _ _ => N5)
            (try dsimp only at F5)
            refine wpAny_Assign_Name ?_
            refine join_tree (.bool (farB x l)) F5 N5 ?wm1 ?wm2
            case wm1 =>
              (try k_fold)
              k_steps
              all_goals
                refine Joined.mk (congrArg Value.bool ?_) (by assumption) (by assumption)
                unfold farB
                (first | rw [(by with_reducible assumption : letterN (chI (wide x) (l + 1)) = true)] | rw [(by with_reducible assumption : letterN (chI (wide x) (l + 1)) = false)] | skip)
                (first | rw [decide_eq_true (by with_reducible assumption : chI (wide x) (l + 1) = 45)] | rw [decide_eq_false (by with_reducible assumption : ¬ chI (wide x) (l + 1) = 45)] | skip)
                (first | rw [(by with_reducible assumption : letterN (chI (wide x) l) = true)] | rw [(by with_reducible assumption : letterN (chI (wide x) l) = false)] | skip)
                first | rfl | simp
            case wm2 =>
              clear F5 N5
              intro h8 tk8 F8 N8
              (try k_fold)
              k_steps
              unfold Held
              (rename Fr _ _ _ _ => F5); (rename News _ _ _ _ => N5)
              (try dsimp only at F5)
              refine if_join (farB x l && nearB x l) F5 N5 ?wn1 ?wn2 ?wn3
              case wn1 =>
                (try k_fold)
                k_steps
                all_goals
                  refine Joined.mk ?_ (by assumption) (by assumption)
                  unfold nearB
                  (first | rw [(by with_reducible assumption : farB x l = true)] | rw [(by with_reducible assumption : farB x l = false)] | skip)
                  (first | rw [(by with_reducible assumption : letterN (chI (wide x) (l + 5)) = true)] | rw [(by with_reducible assumption : letterN (chI (wide x) (l + 5)) = false)] | skip)
                  (first | rw [decide_eq_true (by with_reducible assumption : chI (wide x) (l + 5) = 45)] | rw [decide_eq_false (by with_reducible assumption : ¬ chI (wide x) (l + 5) = 45)] | skip)
                  (first | rw [(by with_reducible assumption : letterN (chI (wide x) (l + 6)) = true)] | rw [(by with_reducible assumption : letterN (chI (wide x) (l + 6)) = false)] | skip)
                  first | rfl | simp
              case wn2 =>
                clear F5 N5
                intro h9 tk9 F9 N9 hC
                (try k_fold)
                k_steps
                unfold Held
                (rename News _ _ _ _ => nE)
                have e : bs.set q.toNat true = cutStep x l q bs := by simp only [cutStep, condB, hA, hB1, hC]; simp
                rw [e] at nE
                (rename Fr _ _ _ _ => F8)
                have hmx : (if l + 1 > q then l + 1 else q) = max q (l + 1) := by split <;> omega
                simp only [hmx] at F8
                refine ksw_end (max q (l + 1), _, cutStep x l q bs) (by assumption) nE (fun _ h => h) trivial (by kst_all) (by walk_at "m same")
                  ⟨by dsimp only; omega, by dsimp only; omega, by dsimp only; rw [cutStep_len]; exact p3, cuts_step (by omega) hpe hr (by omega) p4⟩ (by dsimp only; omega)
              case wn3 =>
                clear F5 N5
                intro h9 tk9 F9 N9 hC
                (try k_fold)
                k_steps
                unfold Held
                (rename News _ _ _ _ => nE)
                have e : bs = cutStep x l q bs := by simp only [cutStep, condB, hA, hB1, hC]; simp
                (rename Fr _ _ _ _ => F8)
                have hmx : (if l + 1 > q then l + 1 else q) = max q (l + 1) := by split <;> omega
                simp only [hmx] at F8
                refine ksw_end (max q (l + 1), _, bs) (by assumption) nE (fun _ h => h) trivial (by kst_all) (by walk_at "m same")
                  ⟨by dsimp only; omega, by dsimp only; omega, p3, (congrArg (cutsFrom x (max q (l + 1)).toNat) e).trans (cuts_step (by omega) hpe hr (by omega) p4)⟩ (by dsimp only; omega)
          case wl3 =>
            clear F5 N5
            intro h7 tk7 F7 N7 hB1
            (try k_fold)
            k_steps
            unfold Held
            (rename News _ _ _ _ => nE)
            have e : bs = cutStep x l q bs := by simp [cutStep, condB, hA, hB1]
            (rename Fr _ _ _ _ => F8)
            have hmx : (if l + 1 > q then l + 1 else q) = max q (l + 1) := by split <;> omega
            simp only [hmx] at F8
            refine ksw_end (max q (l + 1), _, bs) (by assumption) nE (fun _ h => h) trivial (by kst_all) (by walk_at "m same")
              ⟨by dsimp only; omega, by dsimp only; omega, p3, (congrArg (cutsFrom x (max q (l + 1)).toNat) e).trans (cuts_step (by omega) hpe hr (by omega) p4)⟩ (by dsimp only; omega)
  · rw [cuts_done (by omega)] at p4
    subst p4
    refine hret (.ref D) [(D, listOf ((cutsOf x).map Value.bool).toArray cnt)] _ _ (by k_asm) (cb_drop (by k_asm) ?_) ⟨D, cnt, rfl, rfl⟩
    intro p hp
    rcases List.mem_cons.mp hp with rfl | hp
    · exact .head _
    · exact .tail _ (.tail _ (.tail _ hp))
end C4

section C5
/-- a def that hands back one plain value, asked with what lies on the ledger -/
def ClaimVN (w : World) (f : Addr) (D : Nat) (pre : List (Addr × Obj) → Prop) (vs : List Value) (R : Tok → Value) : Prop :=
  ∀ (news : List (Addr × Obj)) (mean : ExcName → Option Value) (mg mb : Str → Option Value) (dp un : Nat) (gd : Option (List Code)) (cn : Str) (cs : Scope) (a : Addr) (ccd : Value) (cl : List (Str × Addr)) (outer : List Env) (A₀ : Around) (base h₀ : Heap) (L : Addr) (m : Str → Option Value) (s : Shared) (Q E : Value → Shared → Prop),
    Below A₀ base outer h₀ → Fr h₀ L s.heap m → (hd.heap_39 w.params).In h₀ → News h₀ L s.heap news → Top hd.view_39 (looseW hd.view_39 []) mean mg mb h₀ → cs.kind = .function →
    pre news → dp + D < recursionLimit → un + 8 * D < cLine →
    (∀ (t : Tok) (h' : Heap) (tk' : Nat), Fr h₀ L h' m → News h₀ L h' news → Q (R t) { s with heap := h', toks := tk' }) →
      wpAny (model PySem.Challenge.rw_ag6017_01.row.prog w) (ktrTop dp un gd cn cs L a ccd cl outer) (call (.ref f) vs) Q E s
section
variable {w : World} {f : Addr} {D : Nat} {pre : List (Addr × Obj) → Prop} {vs : List Value} {R : Tok → Value} {news : List (Addr × Obj)} {mean : ExcName → Option Value} {mg mb : Str → Option Value} {dp un : Nat} {gd : Option (List Code)} {cn : Str} {cs : Scope} {a : Addr} {ccd : Value} {cl : List (Str × Addr)} {outer : List Env} {A₀ : Around} {base h₀ : Heap} {L : Addr} {m : Str → Option Value} {s : Shared} {Q E : Value → Shared → Prop}
set_option maxRecDepth 100000 in
set_option maxHeartbeats 8000000 in
theorem useVN (C : ClaimVN w f D pre vs R) (k1 : Below A₀ base outer h₀) (k2 : Fr h₀ L s.heap m) (k3 : (hd.heap_39 w.params).In h₀) (k4 : News h₀ L s.heap news) (k5 : Top hd.view_39 (looseW hd.view_39 []) mean mg mb h₀) (kK : cs.kind = .function)
    (kp : pre news) (kd : dp + D < recursionLimit) (ku : un + 8 * D < cLine)
    (k : ∀ (t : Tok) (h' : Heap) (tk' : Nat), Fr h₀ L h' m → News h₀ L h' news → Q (R t) { s with heap := h', toks := tk' }) :
    wpAny (model PySem.Challenge.rw_ag6017_01.row.prog w) (ktrTop dp un gd cn cs L a ccd cl outer) (call (.ref f) vs) Q E s :=
  C _ _ _ _ _ _ _ _ _ _ _ _ _ _ _ _ _ _ _ _ _ k1 k2 k3 k4 k5 kK kp kd ku k
end
/-- the next place that is cut, from k on -/
noncomputable def nextCut (bs : List Bool) (k : Nat) : Nat := if k < bs.length ∧ bs.getD k false = false then nextCut bs (k + 1) else k
termination_by bs.length - k
decreasing_by omega
set_option maxRecDepth 100000 in
set_option maxHeartbeats 8000000 in
theorem nextCut_step {bs : List Bool} {q : Int} (h0 : 0 ≤ q) (h1 : q < bs.length) (h : bs.getD q.toNat false = false) : nextCut bs (q + 1).toNat = nextCut bs q.toNat := by
  rw [toNat_succ h0]
  conv => rhs; unfold nextCut
  rw [if_pos ⟨by omega, h⟩]
set_option maxRecDepth 100000 in
set_option maxHeartbeats 8000000 in
theorem nextCut_stop {bs : List Bool} {k : Nat} (h : bs.getD k false = true) : nextCut bs k = k := by
  unfold nextCut
  rw [if_neg]
  rintro ⟨_, h'⟩
  rw [h] at h'
  cases h'
local macro_rules | `(tactic| walk_at "m pad C5 0") => `(tactic| skip)
local macro_rules | `(tactic| walk_at "m pad C5 1") => `(tactic| skip)
local macro_rules | `(tactic| walk_at "m pad C5 2") => `(tactic| skip)
local macro_rules | `(tactic| walk_at "m pad C5 3") => `(tactic| skip)
local macro_rules | `(tactic| walk_at "m pad C5 4") => `(tactic| skip)
local macro_rules | `(tactic| walk_at "m args0") => `(tactic| (
  (case k1 => first | k_asm | fail "m: below")
  (case k2 => first | k_asm | fail "m: frame")
  (case k3 => first | k_asm | fail "m: written part")
  (case k4 => first | k_asm | fail "m: ledger")
  (case k5 => first | k_asm | fail "m: top")
  (case kK => first | exact rfl | assumption | fail "m: kind")
  (case kd => first | ktr_room | fail "m: room")
  (case ku => first | ktr_units | fail "m: units")))
local macro_rules | `(tactic| walk_at "m args") => `(tactic| (
  (case k1 => first | k_asm | fail "m: below")
  (case k2 => first | k_asm | fail "m: frame")
  (case k3 => first | k_asm | fail "m: written part")
  (case k4 => first | k_asm | fail "m: ledger")
  (case k5 => first | k_asm | fail "m: top")
  (case kK => first | exact rfl | assumption | fail "m: kind")
  (case kd => first | ktr_room | fail "m: room")
  (case ku => first | ktr_units | fail "m: units")
  (case kp => first | exact trivial | assumption | (simp; done) | omega | fail "m: pre")))
local macro_rules | `(tactic| walk_at "call ref") => `(tactic| (
  k_here
  (with_reducible show wpAny _ _ (call (Value.ref 21) _) _ _ _)
  k_dflt (refine' useV (word_call _ _ _) ?k1 ?k2 ?k3 ?k4 ?k5 ?kK ?kp ?kd ?ku ?_)
  walk_at "m args"
  intro t9 h9 tk9 F9 N9; (try dsimp only); (try k_fold)))
local macro_rules | `(tactic| walk_at "subscriptTail Name Name str int") => `(tactic| (k_here; (refine item_at (by omega) (by omega) (by omega) ?_)))
local macro_rules | `(tactic| walk_at "subscriptTail Name BinOp str int") => `(tactic| (k_here; (refine item_at (by omega) (by omega) (by omega) ?_)))
local macro_rules | `(tactic| walk_at "subscriptTail Name IfExp str int") => `(tactic| (k_here; (refine item_at (by omega) (by omega) (by omega) ?_)))
local macro_rules | `(tactic| walk_at "compareOp Eq str str") => `(tactic| (k_here; first | (refine cmp_one is_dash ?_) | (refine cmp_one is_blank ?_)))
local macro_rules | `(tactic| walk_at "compareOp NotEq str str") => `(tactic| (k_here; first | (refine cmp_ne_one is_dash ?_) | (refine cmp_ne_one is_blank ?_)))
local macro_rules | `(tactic| walk_at "compareOp In str str") => `(tactic| (k_here; (refine in_points is_points ?_)))
local macro_rules | `(tactic| walk_at "exec While Compare cons nil") => `(tactic| refine Mine.held ?_)
local macro_rules | `(tactic| walk_at "exec While BoolOp cons nil") => `(tactic| refine Mine.held ?_)
local macro_rules | `(tactic| walk_at "exec While UnaryOp cons nil") => `(tactic| refine Mine.held ?_)
local macro_rules | `(tactic| walk_at "call ref") => `(tactic| (
  k_here
  (with_reducible show wpAny _ _ (call (Value.ref 28) _) _ _ _)
  k_dflt (refine' useV (letter_call _ _ _) ?k1 ?k2 ?k3 ?k4 ?k5 ?kK ?kp ?kd ?ku ?_)
  walk_at "m args"
  intro t9 h9 tk9 F9 N9; (try dsimp only); (try k_fold)))
local macro_rules | `(tactic| walk_at "call ref") => `(tactic| (
  k_here
  (with_reducible show wpAny _ _ (call (Value.ref 35) _) _ _ _)
  k_dflt (refine' useV (dashes_call _ _ _ _ _) ?k1 ?k2 ?k3 ?k4 ?k5 ?kK ?kp ?kd ?ku ?_)
  walk_at "m args"
  intro t9 h9 tk9 F9 N9; (try dsimp only); (try k_fold)))
local macro_rules | `(tactic| walk_at "call ref") => `(tactic| (
  k_here
  (with_reducible show wpAny _ _ (call (Value.ref 42) _) _ _ _)
  k_dflt (refine' useV (hyphen_call _ _ _ _ _) ?k1 ?k2 ?k3 ?k4 ?k5 ?kK ?kp ?kd ?ku ?_)
  walk_at "m args"
  intro t9 h9 tk9 F9 N9; (try dsimp only); (try k_fold)))
local macro_rules | `(tactic| walk_at "binaryOp Add str str") => `(tactic| (k_here; (refine add_ap (by simp only [Str.length_append, three_len] at *; omega) ?_); intro t9 k9 e9))
local macro_rules | `(tactic| size_fits) => `(tactic| (simp only [sizeLine_eq, List.size_toArray]; omega))
local macro_rules | `(tactic| walk_at "call builtin:list.append") => `(tactic| (k_here; (with_reducible show wpAny _ _ (call (Value.builtin _) [Value.ref _, _]) _ _ _); k_dflt (refine' append_K ?k1 ?k2 (Upd.head ?k3) ?_ ?z; (case k1 => k_asm); (case k2 => k_asm); (case k3 => with_reducible assumption); (case z => size_fits); k_whole); intro h' F' N'; (try k_sweep)))
local macro_rules | `(tactic| walk_at "KswEnd") => `(tactic| refine Mine.held ?_)
local macro_rules | `(tactic| walk_at "m same") => `(tactic| (intro z h2 h3; (have h2' := h2 _ (List.Mem.head _)); (dsimp only at h2'); (try simp only [List.contains_cons, List.contains_nil, Bool.or_false, Bool.or_eq_false_iff, beq_eq_false_iff_ne, ne_eq] at h3); first | (simp [kstB, h2', h3]; done) | (simp [kstB, h2']; done)))
local macro_rules | `(tactic| walk_at "call ref") => `(tactic| (
  k_here
  (with_reducible show wpAny _ _ (call (Value.ref 58) _) _ _ _)
  k_dflt (refine' useV (wordy_call _ _ _) ?k1 ?k2 ?k3 ?k4 ?k5 ?kK ?kp ?kd ?ku ?_)
  walk_at "m args"
  intro t9 h9 tk9 F9 N9; (try dsimp only); (try k_fold)))
local macro_rules | `(tactic| walk_at "call ref") => `(tactic| (
  k_here
  (with_reducible show wpAny _ _ (call (Value.ref 65) _) _ _ _)
  k_dflt (refine' useV (lettery_call _ _ _) ?k1 ?k2 ?k3 ?k4 ?k5 ?kK ?kp ?kd ?ku ?_)
  walk_at "m args"
  intro t9 h9 tk9 F9 N9; (try dsimp only); (try k_fold)))
local macro_rules | `(tactic| k_all) => `(tactic| exact off (by with_reducible assumption) (by omega))
local macro_rules | `(tactic| walk_at "CompSrc") => `(tactic| (k_here; k_dflt (refine LCg.CompSrc.range (by rfl) (by k_asm) (by k_asm) (by assumption) (by exact small_one (by omega) (by omega) (by omega) (by omega)) (by exact rangeSize_nat _ _) (by rw [PySem.sizeLine_eq]; omega) ?_; intro g'; (refine' kb_range (by assumption) (fun k' t' I' oI' C' oC' D' m' ys' h' tk' E' hlo' hhi' hC' hx' F' N' off' ne' => ?_) ?_); all_goals (try k_fold))))
local macro_rules | `(tactic| walk_at "CompEnd") => `(tactic| (refine LCg.CompEnd.intro (by assumption) (by assumption) _ (by kcf_all) (by assumption) (by first | lcg_src | assumption) ⟨rfl, ?_⟩))
local macro_rules | `(tactic| walk_at "setItem ref int") => `(tactic| (k_here; (with_reducible show wpAny _ _ (setItem (Value.ref _) (Value.int _ _) (Value.bool _)) _ _ _); k_dflt (refine' kb_set ?k1 ?k2 (Upd.head ?k3) ?k4 ?k5 ?k6 ?_; (case k1 => k_asm); (case k2 => k_asm); (case k3 => with_reducible assumption); (case k4 => omega); (case k5 => ((try simp only [List.length_set]); omega)); (case k6 => omega); k_whole); intro h' F' N'; (try k_sweep)))
local macro_rules | `(tactic| walk_at "subscriptTail Name Name ref int") => `(tactic| (k_here; (with_reducible show wpAny _ _ (subscriptTail _ _ (Value.ref _) (Value.int _ _)) _ _ _); k_dflt (refine' kb_get ?k1 ?k2 ?k3 ?k4 ?k5 ?_ ?k7; (case k1 => k_asm); (case k2 => with_reducible assumption); (case k3 => omega); (case k4 => omega); (case k5 => omega); (case k7 => with_unfolding_all rfl); k_whole)))
local macro_rules | `(tactic| walk_at "exec If") => `(tactic| refine Mine.held ?_)
local macro_rules | `(tactic| walk_at "exec Assign cons BoolOp") => `(tactic| refine Mine.held ?_)

set_option maxRecDepth 100000 in
set_option maxHeartbeats 8000000 in
theorem next_call (w : World) (c : Addr) (bs : List Bool) (k : Nat) (i : Int) (u : Tok) :
    ClaimVN w 77 1 (fun news => (c, listOf (bs.map Value.bool).toArray k) ∈ news ∧ 0 ≤ i ∧ i + 1 < bs.length ∧ bs.length ≤ 2000 ∧ bs.getD (bs.length - 1) false = true) [Value.ref c, Value.int i u] (fun t => Value.int (nextCut bs (i.toNat + 1)) t) := by
  unfold ClaimVN
  w_top off
  k_with_none
  k_fill
  intro news mean mg mb dp un gd cn cs a ccd cl outer A₀ base h₀ L m s Q E B F X N T hk hpre hdp hun hret
  obtain ⟨hm, i0, i1, i2, i3⟩ := hpre
  refine wpAny_call ?_
  k_dflt cell_enter
  (rename Fr _ _ _ _ => F1)
  replace F1 := fr_nice (fun y => List.lookup y [(Str.ofString "place", .int i u), (Str.ofString "cuts", .ref c)]) F1 (by with_unfolding_all rfl)
  generalize s.toks + _ = tk0
  k_steps
  unfold Held
  (rename Fr _ _ _ _ => F1); (rename News _ _ _ _ => N1)
  (try dsimp only at F1)
  refine' ksw_while (σ := Int × Tok) (fun _ => news) (fun c => [(Str.ofString "place", .int c.1 c.2)]) (fun _ => True) []
    (fun c => i + 1 ≤ c.1 ∧ c.1 < bs.length ∧ nextCut bs c.1.toNat = nextCut bs (i.toNat + 1)) (fun c => bs.length - c.1.toNat) (i + 1, _) F1 N1 trivial ?va1 ?va2 ?va3
  case va1 => kst_all
  case va2 => exact ⟨Int.le_refl _, i1, by rw [toNat_succ i0]⟩
  clear F1 N1
  rintro ⟨q, tq⟩ u1 hh tk1 - ⟨p1, p2, p3⟩ F2 N2
  dsimp only at p1 p2 p3 F2 N2
  (try k_fold)
  k_steps
  · have e := (by with_reducible assumption : bs.getD q.toNat false = true)
    refine cb_retI (Q := Q) hret ?_ (by k_asm) (by k_asm)
    rw [← p3, nextCut_stop e]
    omega
  · unfold Held
    have e := (by with_reducible assumption : bs.getD q.toNat false = false)
    have hq : q ≠ bs.length - 1 := by
      intro h
      have h' : q.toNat = bs.length - 1 := by omega
      rw [h', i3] at e
      cases e
    refine ksw_end (q + 1, _) (by assumption) (by assumption) (fun _ h => h) trivial (by kst_all) (by walk_at "m same")
      ⟨by dsimp only; omega, by dsimp only; omega, (nextCut_step (by omega) p2 e).trans p3⟩ (by dsimp only; omega)

/-- the pieces that the law finds, from place k on -/
noncomputable def partsFrom (x : Str) (k : Nat) : List Str :=
  if h : k < x.length ∧ k < nextCut (cutsOf x) (k + 1) then Txt.slice x (some (k : Int)) (some (nextCut (cutsOf x) (k + 1) : Int)) :: partsFrom x (nextCut (cutsOf x) (k + 1)) else []
termination_by x.length - k
decreasing_by omega
set_option maxRecDepth 100000 in
set_option maxHeartbeats 8000000 in
theorem cutsFrom_len {x : Str} {l : Nat} {bs : List Bool} : (cutsFrom x l bs).length = bs.length := by
  induction hn : x.length - l using Nat.strongRecOn generalizing l bs with
  | _ n ih =>
    rw [cutsFrom]
    split
    · rename_i h
      rw [ih (x.length - max (dashRun x l) (l + 1)) (by omega) rfl, cutStep_len]
    · rfl
set_option maxRecDepth 100000 in
set_option maxHeartbeats 8000000 in
theorem cutsOf_len (x : Str) : (cutsOf x).length = x.length + 1 := by
  unfold cutsOf
  rw [cutsFrom_len, cuts0_len]
set_option maxRecDepth 100000 in
set_option maxHeartbeats 8000000 in
theorem getD_set_true {bs : List Bool} {i j : Nat} (h : bs.getD i false = true) : (bs.set j true).getD i false = true := by
  simp only [List.getD_eq_getElem?_getD, List.getElem?_set] at h ⊢
  split
  · split
    · rfl
    · rename_i h1 h2
      subst h1
      rw [List.getElem?_eq_none (by omega)] at h
      cases h
  · exact h
set_option maxRecDepth 100000 in
set_option maxHeartbeats 8000000 in
theorem cutStep_keep {x : Str} {l r : Int} {bs : List Bool} {i : Nat} (h : bs.getD i false = true) : (cutStep x l r bs).getD i false = true := by
  unfold cutStep
  split <;> split <;> first | exact h | exact getD_set_true h | exact getD_set_true (getD_set_true h) | exact getD_set_true (getD_set_true (getD_set_true h))
set_option maxRecDepth 100000 in
set_option maxHeartbeats 8000000 in
theorem cutsFrom_keep {x : Str} {l : Nat} {bs : List Bool} {i : Nat} (h : bs.getD i false = true) : (cutsFrom x l bs).getD i false = true := by
  induction hn : x.length - l using Nat.strongRecOn generalizing l bs with
  | _ n ih =>
    rw [cutsFrom]
    split
    · exact ih (x.length - max (dashRun x l) (l + 1)) (by omega) (cutStep_keep h) rfl
    · exact h
set_option maxRecDepth 100000 in
set_option maxHeartbeats 8000000 in
theorem cuts0_at {x : Str} {i : Nat} (h : i ≤ x.length) : (cuts0 x).getD i false = baseI x i := by
  have hi : i < x.length + 1 := by omega
  simp [cuts0, rangeKs, List.getD_eq_getElem?_getD, hi]
set_option maxRecDepth 100000 in
set_option maxHeartbeats 8000000 in
theorem cutsOf_last (x : Str) : (cutsOf x).getD ((cutsOf x).length - 1) false = true := by
  rw [cutsOf_len]
  refine cutsFrom_keep ?_
  rw [cuts0_at (by omega)]
  simp [baseI]
set_option maxRecDepth 100000 in
set_option maxHeartbeats 8000000 in
theorem nextCut_le {bs : List Bool} {k : Nat} (h : k < bs.length) (hl : bs.getD (bs.length - 1) false = true) : k ≤ nextCut bs k ∧ nextCut bs k < bs.length := by
  induction hn : bs.length - k using Nat.strongRecOn generalizing k with
  | _ n ih =>
    rw [nextCut]
    split
    · rename_i h'
      have hk : k ≠ bs.length - 1 := by
        intro e
        rw [← e, h'.2] at hl
        cases hl
      have := ih (bs.length - (k + 1)) (by omega) (by omega) rfl
      omega
    · omega
set_option maxRecDepth 100000 in
set_option maxHeartbeats 8000000 in
theorem parts_step {x : Str} {p q : Int} {zs C : List Str} (h0 : 0 ≤ p) (h1 : p < x.length) (h2 : p < q) (hq : (nextCut (cutsOf x) (p.toNat + 1) : Int) = q) (h : zs ++ partsFrom x p.toNat = C) :
    (zs ++ [Txt.slice x (some p) (some q)]) ++ partsFrom x q.toNat = C := by
  rw [← h]
  conv => rhs; rw [partsFrom]
  rw [dif_pos ⟨by omega, by omega⟩, hq, Int.toNat_of_nonneg h0, List.append_assoc]
  have : nextCut (cutsOf x) (p.toNat + 1) = q.toNat := by omega
  rw [this]
  rfl
set_option maxRecDepth 100000 in
set_option maxHeartbeats 8000000 in
theorem allLt_mem {d : Addr} : ∀ {l : List (Addr × Obj)}, AllLt d l → ∀ p ∈ l, p.1 < d
  | [], _, _, h => nomatch h
  | _ :: _, x, p, h => by
    rcases List.mem_cons.mp h with rfl | h
    · exact x.1
    · exact allLt_mem x.2 p h
set_option maxRecDepth 100000 in
set_option maxHeartbeats 8000000 in
theorem allLt_ne {d : Addr} {l : List (Addr × Obj)} (x : AllLt d l) : ∀ p ∈ l, p.1 ≠ d := fun p hp => Nat.ne_of_lt (allLt_mem x p hp)
set_option maxRecDepth 100000 in
set_option maxHeartbeats 8000000 in
theorem parts_end {x : Str} {k : Nat} (h : x.length ≤ k) : partsFrom x k = [] := by
  rw [partsFrom, dif_neg (by omega)]

section
variable {w : World} {f : Addr} {D : Nat} {x : Str} {a9 lP : Addr} {o : Obj} {k9 : Nat} {i : Int} {u : Tok} {news : List (Addr × Obj)} {mean : ExcName → Option Value} {mg mb : Str → Option Value} {dp un : Nat} {gd : Option (List Code)} {cn : Str} {cs : Scope} {a : Addr} {ccd : Value} {cl : List (Str × Addr)} {outer : List Env} {A₀ : Around} {base h₀ : Heap} {L : Addr} {m : Str → Option Value} {s : Shared} {Q E : Value → Shared → Prop}
set_option maxRecDepth 100000 in
set_option maxHeartbeats 8000000 in
theorem useNext (k1 : Below A₀ base outer h₀) (k2 : Fr h₀ L s.heap m) (k3 : (hd.heap_39 w.params).In h₀) (k4 : News h₀ L s.heap ((lP, o) :: (a9, listOf ((cutsOf x).map Value.bool).toArray k9) :: news)) (k5 : Top hd.view_39 (looseW hd.view_39 []) mean mg mb h₀) (kK : cs.kind = .function)
    (ka : 0 ≤ i) (kb : i < x.length) (kc : x.length ≤ 1000) (kd : dp + 1 < recursionLimit) (ku : un + 8 * 1 < cLine)
    (k : ∀ (t : Tok) (h' : Heap) (tk' : Nat), Fr h₀ L h' m → News h₀ L h' ((lP, o) :: (a9, listOf ((cutsOf x).map Value.bool).toArray k9) :: news) → Q (.int (nextCut (cutsOf x) (i.toNat + 1)) t) { s with heap := h', toks := tk' }) :
    wpAny (model PySem.Challenge.rw_ag6017_01.row.prog w) (ktrTop dp un gd cn cs L a ccd cl outer) (call (.ref 77) [.ref a9, .int i u]) Q E s :=
  useVN (next_call w a9 (cutsOf x) k9 i u) k1 k2 k3 k4 k5 kK ⟨List.Mem.tail _ (List.Mem.head _), ka, by rw [cutsOf_len]; omega, by rw [cutsOf_len]; omega, cutsOf_last x⟩ kd ku k
end
local macro_rules | `(tactic| walk_at "call ref") => `(tactic| (
  k_here
  (with_reducible show wpAny _ _ (call (Value.ref 70) _) _ _ _)
  k_dflt (refine' useO (cuts_call _ _ _) ?k1 ?k2 ?k3 ?k4 ?k5 ?kK ?kp ?kd ?ku ?_)
  walk_at "m args"
  intro r9 tl9 h9 tk9 F9 N9 hR9; obtain ⟨a9, k9, e91, e92⟩ := hR9; subst e91 e92; (try simp only [List.cons_append, List.nil_append] at N9); (try dsimp only); (try k_fold)))
local macro_rules | `(tactic| walk_at "call ref") => `(tactic| (
  k_here
  (with_reducible show wpAny _ _ (call (Value.ref 77) _) _ _ _)
  k_dflt (refine' useNext ?k1 ?k2 ?k3 ?k4 ?k5 ?kK ?ka ?kb ?kc ?kd ?ku ?_)
  walk_at "m args0"
  (case ka => omega)
  (case kb => omega)
  (case kc => omega)
  intro t9 h9 tk9 F9 N9; (try dsimp only); (try k_fold)))

set_option maxRecDepth 100000 in
set_option maxHeartbeats 8000000 in
theorem parted_call (w : World) (x : Str) (t : Tok) :
    ClaimO w 98 5 (x.length ≤ 1000) [Value.str x t] (fun r tl => ∃ a its k more, r = .ref a ∧ tl = (a, listOf its.toArray k) :: more ∧ StrsAre its (partsFrom x 0)) := by
  unfold ClaimO
  w_top off
  k_with_none
  k_fill
  intro news mean mg mb dp un gd cn cs a ccd cl outer A₀ base h₀ L m s Q E B F X N T hk hpre hdp hun hret
  refine wpAny_call ?_
  k_dflt cell_enter
  (rename Fr _ _ _ _ => F1)
  replace F1 := fr_nice (fun y => List.lookup y [(Str.ofString "text", .str x t)]) F1 (by with_unfolding_all rfl)
  generalize s.toks + _ = tk0
  k_steps
  unfold Held
  (rename Fr _ _ _ _ => F1); (rename News _ _ _ _ => N1)
  (try dsimp only at F1)
  rename_i a9 k9 h3 tkq lP h2 l1 h1 h0
  have hne : ∀ p ∈ (a9, listOf ((cutsOf x).map Value.bool).toArray k9) :: news, p.1 ≠ lP := List.forall_mem_cons.mpr ⟨Nat.ne_of_lt l1.1, allLt_ne l1.2⟩
  have hcl := cutsOf_len x
  have hlast := cutsOf_last x
  refine' ksw_while (σ := Int × Tok × List Value × List Str × Nat) (fun c => (lP, listOf c.2.2.1.toArray c.2.2.2.2) :: (a9, listOf ((cutsOf x).map Value.bool).toArray k9) :: news) (fun c => [(Str.ofString "start", .int c.1 c.2.1)])
    (fun c => StrsAre c.2.2.1 c.2.2.2.1) [Str.ofString "end"]
    (fun c => 0 ≤ c.1 ∧ c.1 ≤ x.length ∧ c.2.2.2.1 ++ partsFrom x c.1.toNat = partsFrom x 0 ∧ c.2.2.2.1.length ≤ c.1.toNat) (fun c => (x.length - c.1).toNat) (0, _, [], [], 0) F1 N1 .nil ?va1 ?va2 ?va3
  case va1 => kst_all
  case va2 => exact ⟨Int.le_refl _, by dsimp only; omega, rfl, by simp⟩
  clear F1 N1
  rintro ⟨p, tp, its, zs, cnt⟩ u1 hh tk1 hf ⟨p1, p2, p3, p4⟩ F2 N2
  dsimp only at p1 p2 p3 p4 F2 N2 hf
  have hlen := strsAre_len hf
  (try k_fold)
  k_steps
  · unfold Held
    (rename News _ _ _ _ => nE); simp only [List.push_toArray] at nE
    have hpe := (by with_reducible assumption : p < x.length)
    have hq := nextCut_le (bs := cutsOf x) (k := p.toNat + 1) (by omega) hlast
    refine ksw_end (↑(nextCut (cutsOf x) (p.toNat + 1)), _, _, zs ++ [Txt.slice x (some p) (some ↑(nextCut (cutsOf x) (p.toNat + 1)))], _) (by assumption) nE (fun _ h => h) (StrsAre.append' hf (.cons _ _ .nil)) (by kst_all) (by walk_at "m same")
        ⟨by dsimp only; omega, by dsimp only; omega, parts_step (by omega) hpe (by omega) rfl p3, by simp only [List.length_append, List.length_cons, List.length_nil]; omega⟩ (by dsimp only; omega)
  · rw [parts_end (by omega), List.append_nil] at p3
    refine hret (.ref lP) [(lP, listOf its.toArray cnt), (a9, listOf ((cutsOf x).map Value.bool).toArray k9)] _ _ (by k_asm) (by k_asm) ⟨lP, its, cnt, _, rfl, rfl, ?_⟩
    rw [← p3]
    exact hf
end C5

section P1
/-! the plain law, over signs as numbers -/
section seg
variable {c : Nat → Nat} {e : Nat} {D H : Nat → Prop} {R : Nat → Nat}
def CutAt (c : Nat → Nat) (e : Nat) (D H : Nat → Prop) (R : Nat → Nat) (i : Nat) : Prop :=
  (i = e ∨ (3 < i ∧ ¬ (c i = 32 ↔ c (i - 1) = 32))) ∨ (∃ j, 3 ≤ j ∧ j < e ∧ D j ∧ (i = j ∨ i = R j)) ∨ (∃ j, 3 ≤ j ∧ j < e ∧ c j = 45 ∧ H j ∧ i = j + 1)
structure Signs (c : Nat → Nat) (e : Nat) (D H : Nat → Prop) (R : Nat → Nat) : Prop where
  end32 : c e = 32
  low : ∀ j, j < 3 → c j = 32
  d : ∀ i, 3 ≤ i → D i → c i = 45 ∧ c (i + 1) = 45 ∧ c (i - 1) ≠ 45 ∧ i + 1 < R i ∧ c (R i) ≠ 45 ∧ c (R i) ≠ 32
  h : ∀ i, 3 ≤ i → H i → c (i - 1) ≠ 45 ∧ c (i - 1) ≠ 32 ∧ c (i + 1) ≠ 45 ∧ c (i + 1) ≠ 32
  run : ∀ k i, k ≤ i → i < R k → c i = 45
set_option maxRecDepth 100000 in
set_option maxHeartbeats 8000000 in
theorem seg_space (S : Signs c e D H R) {p q : Nat} (hp : 3 ≤ p) (h1 : p < q) (h2 : q ≤ e) (hc : c p = 32) (hm : ∀ i, p < i → i < q → c i = 32) (hq : q = e ∨ c q ≠ 32) :
    CutAt c e D H R q ∧ ∀ i, p < i → i < q → ¬ CutAt c e D H R i := by
  have hm' : ∀ i, p ≤ i → i < q → c i = 32 := fun i a b => by
    rcases Nat.lt_or_eq_of_le a with a | a
    · exact hm i a b
    · exact a ▸ hc
  refine ⟨?_, fun i a b => ?_⟩
  · by_cases hqe : q = e
    · exact .inl (.inl hqe)
    · refine .inl (.inr ⟨by omega, ?_⟩)
      have h3 : c q ≠ 32 := hq.resolve_left hqe
      have h4 := hm' (q - 1) (by omega) (by omega)
      simp [h3, h4]
  · rintro ((h3 | ⟨h3, h4⟩) | ⟨j, j1, j2, hD, h3⟩ | ⟨j, j1, j2, j3, hH, h3⟩)
    · omega
    · exact h4 (by simp [hm' i (by omega) b, hm' (i - 1) (by omega) (by omega)])
    · have hd := S.d j j1 hD
      have h5 := hm i a b
      rcases h3 with rfl | rfl
      · omega
      · exact hd.2.2.2.2.2 h5
    · subst h3
      have h5 := hm' j (by omega) (by omega)
      omega
set_option maxRecDepth 100000 in
set_option maxHeartbeats 8000000 in
theorem seg_dash (S : Signs c e D H R) {p : Nat} (hp : 3 ≤ p) (h1 : p < e) (hD : D p) :
    CutAt c e D H R (R p) ∧ ∀ i, p < i → i < R p → ¬ CutAt c e D H R i := by
  have hd := S.d p hp hD
  refine ⟨.inr (.inl ⟨p, hp, h1, hD, .inr rfl⟩), fun i a b => ?_⟩
  have r := S.run p
  have c1 := r i (by omega) b
  have c2 := r (i - 1) (by omega) (by omega)
  rintro ((h3 | ⟨h3, h4⟩) | ⟨j, j1, j2, hDj, h3⟩ | ⟨j, j1, j2, j3, hH, h3⟩)
  · have := S.end32
    rw [h3] at c1
    omega
  · exact h4 (by rw [c1, c2])
  · have hdj := S.d j j1 hDj
    rcases h3 with rfl | rfl
    · exact hdj.2.2.1 c2
    · exact hdj.2.2.2.2.1 c1
  · have hh := S.h j j1 hH
    subst h3
    exact hh.2.2.1 c1
set_option maxRecDepth 100000 in
set_option maxHeartbeats 8000000 in
theorem seg_word (S : Signs c e D H R) {p r : Nat} (hp : 3 ≤ p) (h1 : p < e) (hc : c p ≠ 32) (hD : ¬ D p) (hs : p = 3 ∨ CutAt c e D H R p) (h2 : p < r) (h3 : r ≤ e)
    (hm : ∀ i, p < i → i < r → c i ≠ 32 ∧ ¬ (c i = 45 ∧ (D i ∨ H i))) (hr : c r = 32 ∨ (c r = 45 ∧ (D r ∨ H r))) :
    (c r = 45 ∧ c (r + 1) ≠ 45 → r + 1 ≤ e ∧ CutAt c e D H R (r + 1) ∧ ∀ i, p < i → i < r + 1 → ¬ CutAt c e D H R i) ∧
    (¬ (c r = 45 ∧ c (r + 1) ≠ 45) → CutAt c e D H R r ∧ ∀ i, p < i → i < r → ¬ CutAt c e D H R i) := by
  -- no run of dashes reaches over p, and p is no hyphen that parts
  have back : ∀ j, 3 ≤ j → j ≤ p → p < R j → D j → False := by
    intro j j1 j2 j3 hDj
    have hdj := S.d j j1 hDj
    have run := S.run j
    have cp := run p j2 j3
    rcases Nat.lt_or_eq_of_le j2 with j4 | j4
    · have cp1 := run (p - 1) (by omega) (by omega)
      rcases hs with rfl | ((h5 | ⟨h5, h6⟩) | ⟨k, k1, k2, hDk, h5⟩ | ⟨k, k1, k2, k3, hH, h5⟩)
      · omega
      · omega
      · exact h6 (by rw [cp, cp1])
      · have hdk := S.d k k1 hDk
        rcases h5 with rfl | rfl
        · exact hD hDk
        · exact hdk.2.2.2.2.1 cp
      · have hh := S.h k k1 hH
        subst h5
        exact hh.2.2.1 cp
    · subst j4
      exact hD hDj
  have noH : ¬ (c p = 45 ∧ H p) := by
    rintro ⟨cp, hH⟩
    have hh := S.h p hp hH
    rcases hs with rfl | ((h5 | ⟨h5, h6⟩) | ⟨k, k1, k2, hDk, h5⟩ | ⟨k, k1, k2, k3, hHk, h5⟩)
    · exact hh.2.1 (S.low 2 (by omega))
    · omega
    · exact h6 (by simp [hc, hh.2.1])
    · have hdk := S.d k k1 hDk
      rcases h5 with rfl | rfl
      · exact hD hDk
      · exact hdk.2.2.2.2.1 cp
    · have hhk := S.h k k1 hHk
      subst h5
      exact hhk.2.2.1 cp
  have hm0 : ∀ i, p ≤ i → i < r → c i ≠ 32 := fun i a b => by
    rcases Nat.lt_or_eq_of_le a with a | a
    · exact (hm i a b).1
    · exact a ▸ hc
  have hmD : ∀ i, p ≤ i → i < r → ¬ D i := fun i a b hDi => by
    rcases Nat.lt_or_eq_of_le a with a | a
    · exact (hm i a b).2 ⟨(S.d i (by omega) hDi).1, .inl hDi⟩
    · exact hD (a ▸ hDi)
  have hmH : ∀ i, p ≤ i → i < r → ¬ (c i = 45 ∧ H i) := fun i a b hHi => by
    rcases Nat.lt_or_eq_of_le a with a | a
    · exact (hm i a b).2 ⟨hHi.1, .inr hHi.2⟩
    · exact noH (a ▸ hHi)
  have mid : ∀ i, p < i → i < r → ¬ CutAt c e D H R i := by
    intro i a b
    rintro ((h5 | ⟨h5, h6⟩) | ⟨j, j1, j2, hDj, h5⟩ | ⟨j, j1, j2, j3, hHj, h5⟩)
    · omega
    · exact h6 (by simp [hm0 i (by omega) b, hm0 (i - 1) (by omega) (by omega)])
    · have hdj := S.d j j1 hDj
      rcases h5 with rfl | rfl
      · exact hmD i (by omega) b hDj
      · by_cases hjp : j < p
        · exact back j j1 (by omega) a hDj
        · exact hmD j (by omega) (by omega) hDj
    · subst h5
      exact hmH j (by omega) (by omega) ⟨j3, hHj⟩
  refine ⟨fun ⟨r1, r2⟩ => ?_, fun hn => ?_⟩
  · have hre : r ≠ e := fun h => by
      have := S.end32
      rw [← h] at this
      omega
    have hHr : H r := by
      rcases hr with hr | ⟨_, hr | hr⟩
      · omega
      · exact absurd (S.d r (by omega) hr).2.1 r2
      · exact hr
    have hh := S.h r (by omega) hHr
    refine ⟨by omega, .inr (.inr ⟨r, by omega, by omega, r1, hHr, rfl⟩), fun i a b => ?_⟩
    by_cases hir : i < r
    · exact mid i a hir
    · have hir : i = r := by omega
      subst hir
      rintro ((h5 | ⟨h5, h6⟩) | ⟨j, j1, j2, hDj, h5⟩ | ⟨j, j1, j2, j3, hHj, h5⟩)
      · exact hre h5
      · exact h6 (by simp [r1, hh.2.1])
      · have hdj := S.d j j1 hDj
        rcases h5 with rfl | rfl
        · exact r2 hdj.2.1
        · exact hdj.2.2.2.2.1 r1
      · subst h5
        exact (S.h j j1 hHj).2.2.1 r1
  · refine ⟨?_, mid⟩
    rcases hr with hr | ⟨hr, hDH⟩
    · by_cases hre : r = e
      · exact .inl (.inl hre)
      · refine .inl (.inr ⟨by omega, ?_⟩)
        have := hm0 (r - 1) (by omega) (by omega)
        simp [hr, this]
    · have hre : r ≠ e := fun h => by
        have := S.end32
        rw [← h] at this
        omega
      rcases hDH with hDr | hHr
      · exact .inr (.inl ⟨r, by omega, by omega, hDr, .inl rfl⟩)
      · have hh := S.h r (by omega) hHr
        exact absurd ⟨hr, hh.2.2.1⟩ hn
end seg

set_option maxRecDepth 100000 in
set_option maxHeartbeats 8000000 in
theorem word32 : wordN 32 = false := by decide +kernel
set_option maxRecDepth 100000 in
set_option maxHeartbeats 8000000 in
theorem word45 : wordN 45 = false := by decide +kernel
set_option maxRecDepth 100000 in
set_option maxHeartbeats 8000000 in
theorem points32 : points 32 = false := by decide +kernel
set_option maxRecDepth 100000 in
set_option maxHeartbeats 8000000 in
theorem points45 : points 45 = false := by decide +kernel
set_option maxRecDepth 100000 in
set_option maxHeartbeats 8000000 in
theorem letter32 : letterN 32 = false := by decide +kernel
set_option maxRecDepth 100000 in
set_option maxHeartbeats 8000000 in
theorem letter45 : letterN 45 = false := by decide +kernel
set_option maxRecDepth 100000 in
set_option maxHeartbeats 8000000 in
theorem word_ne {n : Nat} (h : wordN n = true) : n ≠ 45 ∧ n ≠ 32 := by
  constructor
  · rintro rfl; rw [word45] at h; cases h
  · rintro rfl; rw [word32] at h; cases h
set_option maxRecDepth 100000 in
set_option maxHeartbeats 8000000 in
theorem letter_ne {n : Nat} (h : letterN n = true) : n ≠ 45 ∧ n ≠ 32 := by
  constructor
  · rintro rfl; rw [letter45] at h; cases h
  · rintro rfl; rw [letter32] at h; cases h
set_option maxRecDepth 100000 in
set_option maxHeartbeats 8000000 in
theorem points_ne {n : Nat} (h : points n = true) : n ≠ 45 ∧ n ≠ 32 := by
  constructor
  · rintro rfl; rw [points45] at h; cases h
  · rintro rfl; rw [points32] at h; cases h

/-- the sign at a place, as a function of numbers -/
def cN (y : Str) (i : Nat) : Nat := chI y (i : Int)
set_option maxRecDepth 100000 in
set_option maxHeartbeats 8000000 in
theorem chI_pred {y : Str} {i : Nat} (h : 1 ≤ i) : chI y ((i : Int) - 1) = cN y (i - 1) := by
  unfold cN
  congr 1
  omega
set_option maxRecDepth 100000 in
set_option maxHeartbeats 8000000 in
theorem chI_succ {y : Str} {i : Nat} : chI y ((i : Int) + 1) = cN y (i + 1) := rfl
set_option maxRecDepth 100000 in
set_option maxHeartbeats 8000000 in
theorem getD_cN {y : Str} {i : Nat} : y.cps.getD i 0 = cN y i := rfl

set_option maxRecDepth 100000 in
set_option maxHeartbeats 8000000 in
theorem dashRun_spec (y : Str) (k : Nat) : k ≤ dashRun y k ∧ (∀ i, k ≤ i → i < dashRun y k → cN y i = 45) ∧ (dashRun y k < y.length → cN y (dashRun y k) ≠ 45) ∧ (k ≤ y.length → dashRun y k ≤ y.length) := by
  induction hn : y.length - k using Nat.strongRecOn generalizing k with
  | _ n ih =>
    rw [dashRun]
    split
    · rename_i h
      obtain ⟨a, b, c, d⟩ := ih (y.length - (k + 1)) (by omega) (k + 1) rfl
      refine ⟨by omega, fun i h1 h2 => ?_, c, fun _ => d (by omega)⟩
      rcases Nat.lt_or_eq_of_le h1 with h3 | h3
      · exact b i h3 h2
      · exact h3 ▸ h.2
    · rename_i h
      exact ⟨Nat.le_refl _, fun i h1 h2 => by omega, fun h1 h2 => h ⟨h1, h2⟩, id⟩
set_option maxRecDepth 100000 in
set_option maxHeartbeats 8000000 in
theorem spaceRun_spec (y : Str) (e k : Nat) (hk : k ≤ e) : k ≤ spaceRun y e k ∧ spaceRun y e k ≤ e ∧ (∀ i, k ≤ i → i < spaceRun y e k → cN y i = 32) ∧ (spaceRun y e k = e ∨ cN y (spaceRun y e k) ≠ 32) := by
  induction hn : e - k using Nat.strongRecOn generalizing k with
  | _ n ih =>
    rw [spaceRun]
    split
    · rename_i h
      obtain ⟨a, b, c, d⟩ := ih (e - (k + 1)) (by omega) (k + 1) (by omega) rfl
      refine ⟨by omega, b, fun i h1 h2 => ?_, d⟩
      rcases Nat.lt_or_eq_of_le h1 with h3 | h3
      · exact c i h3 h2
      · exact h3 ▸ h.2
    · rename_i h
      refine ⟨Nat.le_refl _, hk, fun i h1 h2 => by omega, ?_⟩
      by_cases hke : k = e
      · exact .inl hke
      · exact .inr fun h2 => h ⟨by omega, h2⟩
set_option maxRecDepth 100000 in
set_option maxHeartbeats 8000000 in
theorem wordRun_spec (y : Str) (e k : Nat) (hk : k ≤ e) (he : e < y.length) (hc : cN y e = 32) :
    k ≤ wordRun y k ∧ wordRun y k ≤ e ∧ (∀ i : Nat, k ≤ i → i < wordRun y k → cN y i ≠ 32 ∧ ¬ (cN y i = 45 ∧ (dashesI y i = true ∨ hyphenI y i = true))) ∧
      (cN y (wordRun y k) = 32 ∨ (cN y (wordRun y k) = 45 ∧ (dashesI y (wordRun y k) = true ∨ hyphenI y (wordRun y k) = true))) := by
  induction hn : y.length - k using Nat.strongRecOn generalizing k with
  | _ n ih =>
    rw [wordRun]
    split
    · rename_i h
      have hke : k ≠ e := fun h' => h.2.1 (h' ▸ hc)
      obtain ⟨a, b, c, d⟩ := ih (y.length - (k + 1)) (by omega) (k + 1) (by omega) rfl
      refine ⟨by omega, b, fun i h1 h2 => ?_, d⟩
      rcases Nat.lt_or_eq_of_le h1 with h3 | h3
      · exact c i h3 h2
      · exact h3 ▸ h.2
    · rename_i h
      refine ⟨Nat.le_refl _, hk, fun i h1 h2 => by omega, ?_⟩
      by_cases h1 : cN y k = 32
      · exact .inl h1
      · refine .inr ?_
        by_cases h2 : cN y k = 45 ∧ (dashesI y k = true ∨ hyphenI y k = true)
        · exact h2
        · exact absurd ⟨by omega, h1, h2⟩ h

set_option maxRecDepth 100000 in
set_option maxHeartbeats 8000000 in
theorem dashes_facts {y : Str} {i : Nat} (hi : 1 ≤ i) (h : dashesI y (i : Int) = true) :
    cN y i = 45 ∧ cN y (i + 1) = 45 ∧ cN y (i - 1) ≠ 45 ∧ i + 1 < dashRun y i ∧ cN y (dashRun y i) ≠ 45 ∧ cN y (dashRun y i) ≠ 32 := by
  unfold dashesI at h
  simp only [Bool.and_eq_true, decide_eq_true_eq, Bool.or_eq_true, Int.toNat_natCast, chI_pred hi] at h
  obtain ⟨⟨h1, h2⟩, h3⟩ := h
  obtain ⟨a, b, c, d⟩ := dashRun_spec y i
  have h4 : i + 1 < dashRun y i := by omega
  have h5 := word_ne h3
  refine ⟨b i (Nat.le_refl _) (by omega), b (i + 1) (by omega) (by omega), ?_, h4, h5.1, h5.2⟩
  rcases h2 with h2 | h2
  · exact (word_ne h2).1
  · exact (points_ne h2).1
set_option maxRecDepth 100000 in
set_option maxHeartbeats 8000000 in
theorem hyphen_facts {y : Str} {i : Nat} (hi : 1 ≤ i) (h : hyphenI y (i : Int) = true) : cN y (i - 1) ≠ 45 ∧ cN y (i - 1) ≠ 32 ∧ cN y (i + 1) ≠ 45 ∧ cN y (i + 1) ≠ 32 := by
  unfold hyphenI at h
  simp only [Bool.and_eq_true, chI_pred hi, chI_succ] at h
  obtain ⟨⟨⟨h1, h2⟩, _⟩, _⟩ := h
  exact ⟨(letter_ne h1).1, (letter_ne h1).2, (letter_ne h2).1, (letter_ne h2).2⟩

/-- the cuts of a text, in the wide text's places -/
abbrev Cut (x : Str) (i : Nat) : Prop := CutAt (cN (wide x)) (x.length + 3) (fun i => dashesI (wide x) (i : Int) = true) (fun i => hyphenI (wide x) (i : Int) = true) (dashRun (wide x)) i
set_option maxRecDepth 100000 in
set_option maxHeartbeats 8000000 in
theorem wide_len (x : Str) : (wide x).length = x.length + 6 := by simp only [wide, Str.length_append, three_len]; omega
set_option maxRecDepth 100000 in
set_option maxHeartbeats 8000000 in
theorem signs (x : Str) : Signs (cN (wide x)) (x.length + 3) (fun i => dashesI (wide x) (i : Int) = true) (fun i => hyphenI (wide x) (i : Int) = true) (dashRun (wide x)) where
  end32 := wide_right (by omega) (by omega)
  low := fun j hj => wide_left (by omega) (by omega)
  d := fun i hi h => dashes_facts (by omega) h
  h := fun i hi h => hyphen_facts (by omega) h
  run := fun k => (dashRun_spec _ k).2.1

set_option maxRecDepth 100000 in
set_option maxHeartbeats 8000000 in
theorem chunk_spec {x : Str} {p : Nat} (hp : 3 ≤ p) (h1 : p < x.length + 3) (hs : p = 3 ∨ Cut x p) :
    p < chunkEnd (wide x) (x.length + 3) p ∧ chunkEnd (wide x) (x.length + 3) p ≤ x.length + 3 ∧ Cut x (chunkEnd (wide x) (x.length + 3) p) ∧ ∀ i, p < i → i < chunkEnd (wide x) (x.length + 3) p → ¬ Cut x i := by
  have S := signs x
  have hl := wide_len x
  have he := S.end32
  unfold chunkEnd
  by_cases hc : chI (wide x) (p : Int) = 32
  · rw [if_pos hc]
    obtain ⟨a, b, c, d⟩ := spaceRun_spec (wide x) (x.length + 3) (p + 1) (by omega)
    have := seg_space S hp (by omega) b hc (fun i h2 h3 => c i (by omega) h3) d
    exact ⟨by omega, b, this.1, this.2⟩
  · rw [if_neg hc]
    by_cases hd : dashesI (wide x) (p : Int) = true
    · rw [if_pos hd]
      have hf := dashes_facts (by omega) hd
      have e1 : dashRun (wide x) (p + 1) = dashRun (wide x) p := by
        conv => rhs; rw [dashRun]
        rw [dif_pos ⟨by omega, hf.1⟩]
      rw [e1]
      have := seg_dash S hp h1 hd
      refine ⟨by omega, ?_, this.1, this.2⟩
      obtain ⟨a, b, c, d⟩ := dashRun_spec (wide x) p
      refine Nat.le_of_not_lt fun h => ?_
      have := b (x.length + 3) (by omega) h
      omega
    · rw [if_neg hd]
      obtain ⟨a, b, c, d⟩ := wordRun_spec (wide x) (x.length + 3) (p + 1) (by omega) (by omega) he
      have := seg_word S hp h1 hc hd hs (by omega) b (fun i h2 h3 => c i (by omega) h3) d
      split
      · rename_i h
        obtain ⟨h2, h3, h4⟩ := this.1 h
        exact ⟨by omega, h2, h3, h4⟩
      · rename_i h
        obtain ⟨h3, h4⟩ := this.2 h
        exact ⟨by omega, b, h3, h4⟩
end P1

section P2
set_option maxRecDepth 100000 in
set_option maxHeartbeats 8000000 in
theorem getD_set {bs : List Bool} {i j : Nat} (hj : j < bs.length) : (bs.set j true).getD i false = true ↔ bs.getD i false = true ∨ i = j := by
  simp only [List.getD_eq_getElem?_getD, List.getElem?_set]
  by_cases h : j = i
  · subst h
    simp [hj]
  · simp [h, Ne.symm h]
set_option maxRecDepth 100000 in
set_option maxHeartbeats 8000000 in
theorem cutStep_spec {x : Str} {l r : Nat} {bs : List Bool} (hl : l < bs.length) (hr : r < bs.length) (i : Nat) :
    (cutStep x l r bs).getD i false = true ↔ bs.getD i false = true ∨ (condA x l r = true ∧ (i = l ∨ i = r)) ∨ (condB x l r = true ∧ i = r) := by
  have s1 : ((bs.set l true).set r true).getD i false = true ↔ (bs.getD i false = true ∨ i = l) ∨ i = r := by rw [getD_set (by simpa using hr), getD_set hl]
  have s2 : (bs.set r true).getD i false = true ↔ bs.getD i false = true ∨ i = r := getD_set hr
  have s3 : (((bs.set l true).set r true).set r true).getD i false = true ↔ ((bs.getD i false = true ∨ i = l) ∨ i = r) ∨ i = r := by rw [getD_set (by simpa using hr), s1]
  unfold cutStep
  simp only [Int.toNat_natCast]
  cases hA : condA x l r <;> cases hB : condB x l r
  · simp only [Bool.false_eq_true, if_false, false_and, or_false]
  · simp only [Bool.false_eq_true, if_false, if_true, false_and, false_or, true_and, s2]
  · simp only [Bool.false_eq_true, if_false, if_true, false_and, or_false, true_and, s1, or_assoc]
  · simp only [if_true, true_and, s3, or_assoc]
set_option maxRecDepth 100000 in
set_option maxHeartbeats 8000000 in
theorem wide_at {x : Str} {k : Nat} (h : k < x.length) : cN (wide x) (k + 3) = cN x k := by
  unfold cN
  rw [wide_mid (by omega) (by omega)]
  congr 1
  omega
set_option maxRecDepth 100000 in
set_option maxHeartbeats 8000000 in
theorem dashRun_wide {x : Str} {k : Nat} (h : k ≤ x.length) : dashRun (wide x) (k + 3) = dashRun x k + 3 := by
  have hl := wide_len x
  induction hn : x.length - k using Nat.strongRecOn generalizing k with
  | _ n ih =>
    by_cases hk : k < x.length
    · have e := wide_at hk
      by_cases hc : cN x k = 45
      · conv => lhs; rw [dashRun]
        conv => rhs; rw [dashRun]
        rw [dif_pos ⟨by omega, e.trans hc⟩, dif_pos ⟨hk, hc⟩]
        exact ih (x.length - (k + 1)) (by omega) (by omega) rfl
      · conv => lhs; rw [dashRun]
        conv => rhs; rw [dashRun]
        rw [dif_neg (fun h' => hc (e.symm.trans h'.2)), dif_neg (fun h' => hc h'.2)]
    · have hk : k = x.length := by omega
      subst hk
      conv => lhs; rw [dashRun]
      conv => rhs; rw [dashRun]
      rw [dif_neg, dif_neg (by omega)]
      rintro ⟨_, h'⟩
      have := (signs x).end32
      unfold cN chI at this
      rw [Int.toNat_natCast] at this
      omega
set_option maxRecDepth 100000 in
set_option maxHeartbeats 8000000 in
theorem condA_wide {x : Str} {l : Nat} (h : l ≤ x.length) : condA x l (dashRun x l) = dashesI (wide x) ((l + 3 : Nat) : Int) := by
  unfold condA dashesI
  rw [Int.toNat_natCast, dashRun_wide h]
  have e1 : ((l + 3 : Nat) : Int) - 1 = (l : Int) + 2 := by omega
  have e2 : ((dashRun x l + 3 : Nat) : Int) = (dashRun x l : Int) + 3 := by omega
  rw [e1, e2]
  have e3 : decide (1 < (dashRun x l : Int) - (l : Int)) = decide ((dashRun x l : Int) + 3 - ((l + 3 : Nat) : Int) > 1) := by
    rw [decide_eq_decide]; omega
  rw [e3]
set_option maxRecDepth 100000 in
set_option maxHeartbeats 8000000 in
theorem condB_wide {x : Str} {l : Nat} (h : l < x.length) : condB x l (dashRun x l) = true ↔ cN (wide x) (l + 3) = 45 ∧ hyphenI (wide x) ((l + 3 : Nat) : Int) = true := by
  have i1 : ((l + 3 : Nat) : Int) - 1 = (l : Int) + 2 := by omega
  have i2 : ((l + 3 : Nat) : Int) + 1 = (l : Int) + 4 := by omega
  have i3 : ((l + 3 : Nat) : Int) - 2 = (l : Int) + 1 := by omega
  have i4 : ((l + 3 : Nat) : Int) - 3 = (l : Int) := by omega
  have i5 : ((l + 3 : Nat) : Int) + 2 = (l : Int) + 5 := by omega
  have i6 : ((l + 3 : Nat) : Int) + 3 = (l : Int) + 6 := by omega
  obtain ⟨a, b, c, d⟩ := dashRun_spec (wide x) (l + 3)
  rw [dashRun_wide (by omega)] at a b c d
  have hl := wide_len x
  have near : (letterN (chI (wide x) (if chI (wide x) ((l : Int) + 5) = 45 then (l : Int) + 6 else (l : Int) + 5)) = true) ↔ nearB x l = true := by
    unfold nearB
    split
    · rename_i h5
      simp [h5, letter45]
    · rename_i h5
      simp [h5]
  unfold condB condB1 farB hyphenI
  simp only [i1, i2, i3, i4, i5, i6, Bool.and_eq_true, decide_eq_true_eq, near]
  constructor
  · rintro ⟨⟨⟨h1, h2⟩, h3⟩, h4, h5⟩
    have e1 : dashRun x l = l + 1 := by omega
    have e2 : ((dashRun x l : Nat) : Int) + 3 = (l : Int) + 4 := by omega
    rw [e2] at h3
    exact ⟨b (l + 3) (by omega) (by omega), ⟨⟨h2, h3⟩, h4⟩, h5⟩
  · rintro ⟨h1, ⟨⟨h2, h3⟩, h4⟩, h5⟩
    have hne : cN (wide x) (l + 4) ≠ 45 := (letter_ne h3).1
    have e0 : dashRun x l = l + 1 := by
      have e1 : dashRun (wide x) (l + 3) = dashRun (wide x) (l + 4) := by
        conv => lhs; rw [dashRun]
        rw [dif_pos ⟨by omega, h1⟩]
      have e2 : dashRun (wide x) (l + 4) = l + 4 := by
        rw [dashRun]
        rw [dif_neg (fun h' => hne h'.2)]
      have e3 := dashRun_wide (x := x) (k := l) (by omega)
      omega
    have e2 : ((dashRun x l : Nat) : Int) + 3 = (l : Int) + 4 := by omega
    rw [e2]
    exact ⟨⟨⟨by omega, h2⟩, h3⟩, h4, h5⟩

/-- what a place l of the text cuts -/
def Hit (x : Str) (l i : Nat) : Prop := (condA x l (dashRun x l) = true ∧ (i = l ∨ i = dashRun x l)) ∨ (condB x l (dashRun x l) = true ∧ i = dashRun x l)
set_option maxRecDepth 100000 in
set_option maxHeartbeats 8000000 in
theorem no_hit {x : Str} {l j i : Nat} (h : l < x.length) (h1 : l < j) (h2 : j < dashRun x l) : ¬ Hit x j i := by
  obtain ⟨a, b, c, d⟩ := dashRun_spec x l
  have hj : j ≤ x.length := by have := d (by omega); omega
  have e : cN (wide x) (j + 2) = 45 := by
    have := wide_at (x := x) (k := j - 1) (by omega)
    rw [show j - 1 + 3 = j + 2 from by omega] at this
    rw [this]
    exact b (j - 1) (by omega) (by omega)
  rintro (⟨h3, _⟩ | ⟨h3, _⟩)
  · rw [condA_wide hj] at h3
    have := dashes_facts (by omega) h3
    exact this.2.2.1 e
  · have hj' : j < x.length := by have := d (by omega); omega
    rw [condB_wide hj'] at h3
    have := hyphen_facts (by omega) h3.2
    exact this.1 e
set_option maxRecDepth 100000 in
set_option maxHeartbeats 8000000 in
theorem cutsFrom_spec {x : Str} {l : Nat} {bs : List Bool} (hb : bs.length = x.length + 1) (i : Nat) :
    (cutsFrom x l bs).getD i false = true ↔ bs.getD i false = true ∨ ∃ j, l ≤ j ∧ j < x.length ∧ Hit x j i := by
  induction hn : x.length - l using Nat.strongRecOn generalizing l bs with
  | _ n ih =>
    rw [cutsFrom]
    split
    · rename_i h
      obtain ⟨a, b, c, d⟩ := dashRun_spec x l
      have hd := d (by omega)
      rw [ih (x.length - max (dashRun x l) (l + 1)) (by omega) (by rw [cutStep_len]; exact hb) rfl, cutStep_spec (by omega) (by omega)]
      constructor
      · rintro ((h1 | h1) | ⟨j, j1, j2, h1⟩)
        · exact .inl h1
        · exact .inr ⟨l, Nat.le_refl _, h, h1⟩
        · exact .inr ⟨j, by omega, j2, h1⟩
      · rintro (h1 | ⟨j, j1, j2, h1⟩)
        · exact .inl (.inl h1)
        · rcases Nat.lt_or_eq_of_le j1 with j3 | j3
          · by_cases j4 : j < dashRun x l
            · exact absurd h1 (no_hit h j3 j4)
            · exact .inr ⟨j, by omega, j2, h1⟩
          · subst j3
            exact .inl (.inr h1)
    · rename_i h
      constructor
      · exact .inl
      · rintro (h1 | ⟨j, j1, j2, h1⟩)
        · exact h1
        · omega
set_option maxRecDepth 100000 in
set_option maxHeartbeats 8000000 in
theorem cutsOf_spec {x : Str} {k : Nat} (hk : k ≤ x.length) : (cutsOf x).getD k false = true ↔ Cut x (k + 3) := by
  unfold cutsOf
  rw [cutsFrom_spec (cuts0_len x), cuts0_at hk]
  unfold Cut CutAt
  have hb : baseI x k = true ↔ (k + 3 = x.length + 3 ∨ (3 < k + 3 ∧ ¬ (cN (wide x) (k + 3) = 32 ↔ cN (wide x) (k + 3 - 1) = 32))) := by
    unfold baseI
    rw [Bool.or_eq_true, Bool.and_eq_true, decide_eq_true_eq, decide_eq_true_eq]
    by_cases h1 : k = x.length
    · simp [h1]
    · by_cases h2 : 0 < k
      · have e1 := wide_at (x := x) (k := k) (by omega)
        have e2 := wide_at (x := x) (k := k - 1) (by omega)
        rw [show k - 1 + 3 = k + 3 - 1 from by omega] at e2
        rw [e1, e2]
        have e3 : chI x ((k : Int) - 1) = cN x (k - 1) := chI_pred (by omega)
        rw [e3]
        show _ ∨ _ ∧ (decide (cN x k = 32) != decide (cN x (k - 1) = 32)) = true ↔ _
        by_cases h3 : cN x k = 32 <;> by_cases h4 : cN x (k - 1) = 32 <;> simp [h3, h4] <;> omega
      · have : k = 0 := by omega
        subst this
        simp
        omega
  rw [hb]
  constructor
  · rintro (h | ⟨j, j1, j2, h⟩)
    · exact .inl h
    · rcases h with ⟨h1, h2⟩ | ⟨h1, h2⟩
      · rw [condA_wide (by omega)] at h1
        refine .inr (.inl ⟨j + 3, by omega, by omega, h1, ?_⟩)
        rw [dashRun_wide (by omega)]
        omega
      · have h3 := (condB_wide j2).mp h1
        refine .inr (.inr ⟨j + 3, by omega, by omega, h3.1, h3.2, ?_⟩)
        unfold condB condB1 at h1
        simp only [Bool.and_eq_true, decide_eq_true_eq] at h1
        omega
  · rintro (h | ⟨j, j1, j2, h1, h2⟩ | ⟨j, j1, j2, h1, h2, h3⟩)
    · exact .inl h
    · obtain ⟨l, rfl⟩ : ∃ l, j = l + 3 := ⟨j - 3, by omega⟩
      refine .inr ⟨l, by omega, by omega, .inl ⟨by rw [condA_wide (by omega)]; exact h1, ?_⟩⟩
      rw [dashRun_wide (by omega)] at h2
      omega
    · obtain ⟨l, rfl⟩ : ∃ l, j = l + 3 := ⟨j - 3, by omega⟩
      have h4 := (condB_wide (x := x) (l := l) (by omega)).mpr ⟨h1, h2⟩
      refine .inr ⟨l, by omega, by omega, .inr ⟨h4, ?_⟩⟩
      unfold condB condB1 at h4
      simp only [Bool.and_eq_true, decide_eq_true_eq] at h4
      omega
set_option maxRecDepth 100000 in
set_option maxHeartbeats 8000000 in
theorem nextCut_is {bs : List Bool} {k q : Nat} (h1 : k ≤ q) (h2 : q < bs.length) (h3 : bs.getD q false = true) (h4 : ∀ j, k ≤ j → j < q → ¬ bs.getD j false = true) : nextCut bs k = q := by
  induction hn : q - k generalizing k with
  | zero =>
    have : k = q := by omega
    subst this
    exact nextCut_stop h3
  | succ n ih =>
    rw [nextCut, if_pos ⟨by omega, by simpa using h4 k (Nat.le_refl _) (by omega)⟩]
    exact ih (by omega) (fun j a b => h4 j (by omega) b) (by omega)
set_option maxRecDepth 100000 in
set_option maxHeartbeats 8000000 in
theorem next_is {x : Str} {k : Nat} (h : k < x.length) (hs : k = 0 ∨ Cut x (k + 3)) :
    nextCut (cutsOf x) (k + 1) + 3 = chunkEnd (wide x) (x.length + 3) (k + 3) ∧ k < nextCut (cutsOf x) (k + 1) ∧ nextCut (cutsOf x) (k + 1) ≤ x.length ∧ Cut x (nextCut (cutsOf x) (k + 1) + 3) := by
  obtain ⟨a, b, c, d⟩ := chunk_spec (x := x) (p := k + 3) (by omega) (by omega) (hs.imp (fun h => by omega) id)
  obtain ⟨q, hq⟩ : ∃ q, chunkEnd (wide x) (x.length + 3) (k + 3) = q + 3 := ⟨chunkEnd (wide x) (x.length + 3) (k + 3) - 3, by omega⟩
  rw [hq] at a b c d ⊢
  have e : nextCut (cutsOf x) (k + 1) = q := nextCut_is (by omega) (by rw [cutsOf_len]; omega) ((cutsOf_spec (by omega)).mpr c) fun j j1 j2 h' => d (j + 3) (by omega) (by omega) ((cutsOf_spec (by omega)).mp h')
  rw [e]
  exact ⟨rfl, by omega, by omega, c⟩
end P2

section P3
set_option maxRecDepth 100000 in
set_option maxHeartbeats 8000000 in
theorem slice_plain (x : Str) {a b : Nat} (hab : a ≤ b) (hb : b ≤ x.length) : Txt.slice x (some (a : Int)) (some (b : Int)) = ⟨((x.cps.toList.drop a).take (b - a)).toArray⟩ := by
  have hx : x.length = x.cps.size := rfl
  unfold Txt.slice
  split
  · rename_i h
    rw [StrLaws.strSliceIndices_plain hab hb] at h
    simp at h
    have h1 : a = 0 := by omega
    have h2 : b - a = x.cps.toList.length := by rw [Array.length_toList]; omega
    rw [h2, h1, List.drop_zero, List.take_length]
  · rw [StrLaws.sliced_plain x hab hb]
set_option maxRecDepth 100000 in
set_option maxHeartbeats 8000000 in
theorem slice_wide {x : Str} {a b : Nat} (hab : a ≤ b) (hb : b ≤ x.length) : Txt.slice x (some (a : Int)) (some (b : Int)) = Txt.slice (wide x) (some ((a + 3 : Nat) : Int)) (some ((b + 3 : Nat) : Int)) := by
  have hx : x.length = x.cps.size := rfl
  have hl := wide_len x
  rw [slice_plain x hab hb, slice_plain (wide x) (by omega) (by omega)]
  have e : (wide x).cps.toList = 32 :: 32 :: 32 :: (x.cps.toList ++ [32, 32, 32]) := by rw [wide_cps]; simp
  have e2 : b + 3 - (a + 3) = b - a := by omega
  rw [e, e2, show a + 3 = a + 1 + 1 + 1 from rfl, List.drop_succ_cons, List.drop_succ_cons, List.drop_succ_cons, List.drop_append_of_le_length (by rw [Array.length_toList]; omega), List.take_append_of_le_length (by rw [List.length_drop, Array.length_toList]; omega)]
set_option maxRecDepth 100000 in
set_option maxHeartbeats 8000000 in
theorem parts_chunks {x : Str} {k : Nat} (hk : k ≤ x.length) (hs : k = 0 ∨ Cut x (k + 3)) : partsFrom x k = chunksFrom (wide x) (x.length + 3) (k + 3) := by
  induction hn : x.length - k using Nat.strongRecOn generalizing k with
  | _ n ih =>
    by_cases h : k < x.length
    · obtain ⟨e, a, b, c⟩ := next_is h hs
      rw [partsFrom, chunksFrom]
      rw [dif_pos ⟨h, a⟩, dif_pos ⟨by omega, by omega⟩, ← e, slice_wide (by omega) b]
      rw [ih (x.length - nextCut (cutsOf x) (k + 1)) (by omega) b (.inr c) rfl]
    · rw [parts_end (by omega), chunksFrom_end (by omega)]
set_option maxRecDepth 100000 in
set_option maxHeartbeats 8000000 in
/-- the plain law: the law's pieces are the function's -/
theorem plain_law (x : Str) : partsFrom x 0 = chunksFrom (wide x) (x.length + 3) 3 := parts_chunks (Nat.zero_le _) (.inl rfl)
end P3

section C6
section
variable {prog : Program} {w : World} {A : Around} {E : Value → Shared → Prop} {s : Shared} {h₀ : Heap} {L c : Addr} {m : Str → Option Value} {news : List (Addr × Obj)} {vs : List Value} {ns : List Int} {n : Nat} {Q : Value → Shared → Prop}
set_option maxRecDepth 100000 in
set_option maxHeartbeats 8000000 in
theorem kl_len (N : News h₀ L s.heap news) (hm : (c, listOf vs.toArray n) ∈ news) (hi : IntsAre vs ns) (hl : ns.length ≤ 100) (h : Q (.int (ns.length : Nat) (s.toks + 1)) { s with toks := s.toks + 1 + 1 }) :
    wpAny (model prog w) A (call (.builtin "len") [.ref c]) Q E s := by
  have e : vs.toArray.size = ns.length := by rw [List.size_toArray]; exact hi.length
  refine Calls.call_len_list (News.isList N hm) (by omega) ?_
  rw [e]
  exact h
end
def rawI (ns : List Int) (i : Int) : Int := if i < ns.length then ns.getD i.toNat 0 else 7919 * i + 3
local macro_rules | `(tactic| walk_at "m pad C6 0") => `(tactic| skip)
local macro_rules | `(tactic| walk_at "m pad C6 1") => `(tactic| skip)
local macro_rules | `(tactic| walk_at "m pad C6 2") => `(tactic| skip)
local macro_rules | `(tactic| walk_at "m pad C6 3") => `(tactic| skip)
local macro_rules | `(tactic| walk_at "m pad C6 4") => `(tactic| skip)
local macro_rules | `(tactic| walk_at "m pad C6 5") => `(tactic| skip)
local macro_rules | `(tactic| walk_at "m args0") => `(tactic| (
  (case k1 => first | k_asm | fail "m: below")
  (case k2 => first | k_asm | fail "m: frame")
  (case k3 => first | k_asm | fail "m: written part")
  (case k4 => first | k_asm | fail "m: ledger")
  (case k5 => first | k_asm | fail "m: top")
  (case kK => first | exact rfl | assumption | fail "m: kind")
  (case kd => first | ktr_room | fail "m: room")
  (case ku => first | ktr_units | fail "m: units")))
local macro_rules | `(tactic| walk_at "m args") => `(tactic| (
  (case k1 => first | k_asm | fail "m: below")
  (case k2 => first | k_asm | fail "m: frame")
  (case k3 => first | k_asm | fail "m: written part")
  (case k4 => first | k_asm | fail "m: ledger")
  (case k5 => first | k_asm | fail "m: top")
  (case kK => first | exact rfl | assumption | fail "m: kind")
  (case kd => first | ktr_room | fail "m: room")
  (case ku => first | ktr_units | fail "m: units")
  (case kp => first | exact trivial | assumption | (simp; done) | omega | fail "m: pre")))
local macro_rules | `(tactic| walk_at "call ref") => `(tactic| (
  k_here
  (with_reducible show wpAny _ _ (call (Value.ref 21) _) _ _ _)
  k_dflt (refine' useV (word_call _ _ _) ?k1 ?k2 ?k3 ?k4 ?k5 ?kK ?kp ?kd ?ku ?_)
  walk_at "m args"
  intro t9 h9 tk9 F9 N9; (try dsimp only); (try k_fold)))
local macro_rules | `(tactic| walk_at "subscriptTail Name Name str int") => `(tactic| (k_here; (refine item_at (by omega) (by omega) (by omega) ?_)))
local macro_rules | `(tactic| walk_at "subscriptTail Name BinOp str int") => `(tactic| (k_here; (refine item_at (by omega) (by omega) (by omega) ?_)))
local macro_rules | `(tactic| walk_at "subscriptTail Name IfExp str int") => `(tactic| (k_here; (refine item_at (by omega) (by omega) (by omega) ?_)))
local macro_rules | `(tactic| walk_at "compareOp Eq str str") => `(tactic| (k_here; first | (refine cmp_one is_dash ?_) | (refine cmp_one is_blank ?_)))
local macro_rules | `(tactic| walk_at "compareOp NotEq str str") => `(tactic| (k_here; first | (refine cmp_ne_one is_dash ?_) | (refine cmp_ne_one is_blank ?_)))
local macro_rules | `(tactic| walk_at "compareOp In str str") => `(tactic| (k_here; (refine in_points is_points ?_)))
local macro_rules | `(tactic| walk_at "exec While Compare cons nil") => `(tactic| refine Mine.held ?_)
local macro_rules | `(tactic| walk_at "exec While BoolOp cons nil") => `(tactic| refine Mine.held ?_)
local macro_rules | `(tactic| walk_at "exec While UnaryOp cons nil") => `(tactic| refine Mine.held ?_)
local macro_rules | `(tactic| walk_at "call ref") => `(tactic| (
  k_here
  (with_reducible show wpAny _ _ (call (Value.ref 28) _) _ _ _)
  k_dflt (refine' useV (letter_call _ _ _) ?k1 ?k2 ?k3 ?k4 ?k5 ?kK ?kp ?kd ?ku ?_)
  walk_at "m args"
  intro t9 h9 tk9 F9 N9; (try dsimp only); (try k_fold)))
local macro_rules | `(tactic| walk_at "call ref") => `(tactic| (
  k_here
  (with_reducible show wpAny _ _ (call (Value.ref 35) _) _ _ _)
  k_dflt (refine' useV (dashes_call _ _ _ _ _) ?k1 ?k2 ?k3 ?k4 ?k5 ?kK ?kp ?kd ?ku ?_)
  walk_at "m args"
  intro t9 h9 tk9 F9 N9; (try dsimp only); (try k_fold)))
local macro_rules | `(tactic| walk_at "call ref") => `(tactic| (
  k_here
  (with_reducible show wpAny _ _ (call (Value.ref 42) _) _ _ _)
  k_dflt (refine' useV (hyphen_call _ _ _ _ _) ?k1 ?k2 ?k3 ?k4 ?k5 ?kK ?kp ?kd ?ku ?_)
  walk_at "m args"
  intro t9 h9 tk9 F9 N9; (try dsimp only); (try k_fold)))
local macro_rules | `(tactic| walk_at "binaryOp Add str str") => `(tactic| (k_here; (refine add_ap (by simp only [Str.length_append, three_len] at *; omega) ?_); intro t9 k9 e9))
local macro_rules | `(tactic| size_fits) => `(tactic| (simp only [sizeLine_eq, List.size_toArray]; omega))
local macro_rules | `(tactic| walk_at "call builtin:list.append") => `(tactic| (k_here; (with_reducible show wpAny _ _ (call (Value.builtin _) [Value.ref _, _]) _ _ _); k_dflt (refine' append_K ?k1 ?k2 (Upd.head ?k3) ?_ ?z; (case k1 => k_asm); (case k2 => k_asm); (case k3 => with_reducible assumption); (case z => size_fits); k_whole); intro h' F' N'; (try k_sweep)))
local macro_rules | `(tactic| walk_at "KswEnd") => `(tactic| refine Mine.held ?_)
local macro_rules | `(tactic| walk_at "m same") => `(tactic| (intro z h2 h3; (have h2' := h2 _ (List.Mem.head _)); (dsimp only at h2'); (try simp only [List.contains_cons, List.contains_nil, Bool.or_false, Bool.or_eq_false_iff, beq_eq_false_iff_ne, ne_eq] at h3); first | (simp [kstB, h2', h3]; done) | (simp [kstB, h2']; done)))
local macro_rules | `(tactic| walk_at "call ref") => `(tactic| (
  k_here
  (with_reducible show wpAny _ _ (call (Value.ref 58) _) _ _ _)
  k_dflt (refine' useV (wordy_call _ _ _) ?k1 ?k2 ?k3 ?k4 ?k5 ?kK ?kp ?kd ?ku ?_)
  walk_at "m args"
  intro t9 h9 tk9 F9 N9; (try dsimp only); (try k_fold)))
local macro_rules | `(tactic| walk_at "call ref") => `(tactic| (
  k_here
  (with_reducible show wpAny _ _ (call (Value.ref 65) _) _ _ _)
  k_dflt (refine' useV (lettery_call _ _ _) ?k1 ?k2 ?k3 ?k4 ?k5 ?kK ?kp ?kd ?ku ?_)
  walk_at "m args"
  intro t9 h9 tk9 F9 N9; (try dsimp only); (try k_fold)))
local macro_rules | `(tactic| k_all) => `(tactic| exact off (by with_reducible assumption) (by omega))
local macro_rules | `(tactic| walk_at "CompSrc") => `(tactic| (k_here; k_dflt (refine LCg.CompSrc.range (by rfl) (by k_asm) (by k_asm) (by assumption) (by exact small_one (by omega) (by omega) (by omega) (by omega)) (by exact rangeSize_nat _ _) (by rw [PySem.sizeLine_eq]; omega) ?_; intro g'; (refine' kb_range (by assumption) (fun k' t' I' oI' C' oC' D' m' ys' h' tk' E' hlo' hhi' hC' hx' F' N' off' ne' => ?_) ?_); all_goals (try k_fold))))
local macro_rules | `(tactic| walk_at "CompEnd") => `(tactic| (refine LCg.CompEnd.intro (by assumption) (by assumption) _ (by kcf_all) (by assumption) (by first | lcg_src | assumption) ⟨rfl, ?_⟩))
local macro_rules | `(tactic| walk_at "setItem ref int") => `(tactic| (k_here; (with_reducible show wpAny _ _ (setItem (Value.ref _) (Value.int _ _) (Value.bool _)) _ _ _); k_dflt (refine' kb_set ?k1 ?k2 (Upd.head ?k3) ?k4 ?k5 ?k6 ?_; (case k1 => k_asm); (case k2 => k_asm); (case k3 => with_reducible assumption); (case k4 => omega); (case k5 => ((try simp only [List.length_set]); omega)); (case k6 => omega); k_whole); intro h' F' N'; (try k_sweep)))
local macro_rules | `(tactic| walk_at "subscriptTail Name Name ref int") => `(tactic| (k_here; (with_reducible show wpAny _ _ (subscriptTail _ _ (Value.ref _) (Value.int _ _)) _ _ _); k_dflt (refine' kb_get ?k1 ?k2 ?k3 ?k4 ?k5 ?_ ?k7; (case k1 => k_asm); (case k2 => with_reducible assumption); (case k3 => omega); (case k4 => omega); (case k5 => omega); (case k7 => with_unfolding_all rfl); k_whole)))
local macro_rules | `(tactic| walk_at "exec If") => `(tactic| refine Mine.held ?_)
local macro_rules | `(tactic| walk_at "exec Assign cons BoolOp") => `(tactic| refine Mine.held ?_)
local macro_rules | `(tactic| walk_at "call builtin:len") => `(tactic| (k_here; (with_reducible show wpAny _ _ (call (Value.builtin "len") [Value.ref _]) _ _ _); k_dflt (refine' kl_len ?k1 ?k2 ?k3 ?k4 ?_; (case k1 => k_asm); (case k2 => with_reducible assumption); (case k3 => with_reducible assumption); (case k4 => omega); k_whole)))
local macro_rules | `(tactic| walk_at "subscriptTail Name Name ref int") => `(tactic| (k_here; (with_reducible show wpAny _ _ (subscriptTail _ _ (Value.ref _) (Value.int _ _)) _ _ _); k_dflt (refine' ksa_sub ?k1 ?k2 ?k3 ?k4 ?k5 ?k6 ?_ ?k7; (case k1 => k_asm); (case k2 => with_reducible assumption); (case k3 => with_reducible assumption); (case k4 => omega); (case k5 => omega); (case k6 => omega); (case k7 => with_unfolding_all rfl); k_whole); intro _))

set_option maxRecDepth 100000 in
set_option maxHeartbeats 8000000 in
theorem raw_call (w : World) (c : Addr) (vs : List Value) (ns : List Int) (k : Nat) (i : Int) (u : Tok) :
    ClaimVN w 84 1 (fun news => (c, listOf vs.toArray k) ∈ news ∧ IntsAre vs ns ∧ ns.length ≤ 100 ∧ 0 ≤ i ∧ i ≤ 100) [Value.ref c, Value.int i u] (fun t => Value.int (rawI ns i) t) := by
  unfold ClaimVN
  w_top off
  k_with_none
  k_fill
  intro news mean mg mb dp un gd cn cs a ccd cl outer A₀ base h₀ L m s Q E B F X N T hk hpre hdp hun hret
  obtain ⟨hm, hi, i0, i1, i2⟩ := hpre
  refine wpAny_call ?_
  k_dflt cell_enter
  (rename Fr _ _ _ _ => F1)
  replace F1 := fr_nice (fun y => List.lookup y [(Str.ofString "place", .int i u), (Str.ofString "nums", .ref c)]) F1 (by with_unfolding_all rfl)
  generalize s.toks + _ = tk0
  k_steps
  · refine cb_retI (Q := Q) hret ?_ (by k_asm) (by k_asm)
    rw [rawI, if_pos (by omega)]
  · refine cb_retI (Q := Q) hret ?_ (by k_asm) (by k_asm)
    rw [rawI, if_neg (by omega)]
section
variable {w : World} {c : Addr} {vs : List Value} {ns : List Int} {k₀ : Nat} {i : Int} {u : Tok} {news own : List (Addr × Obj)} {mean : ExcName → Option Value} {mg mb : Str → Option Value} {dp un : Nat} {gd : Option (List Code)} {cn : Str} {cs : Scope} {a : Addr} {ccd : Value} {cl : List (Str × Addr)} {outer : List Env} {A₀ : Around} {base h₀ : Heap} {L : Addr} {m : Str → Option Value} {s : Shared} {Q E : Value → Shared → Prop}
set_option maxRecDepth 100000 in
set_option maxHeartbeats 8000000 in
theorem useRaw (k1 : Below A₀ base outer h₀) (k2 : Fr h₀ L s.heap m) (k3 : (hd.heap_39 w.params).In h₀) (k4 : News h₀ L s.heap (news ++ own)) (k5 : Top hd.view_39 (looseW hd.view_39 []) mean mg mb h₀) (kK : cs.kind = .function)
    (ka : (c, listOf vs.toArray k₀) ∈ news) (kb : IntsAre vs ns) (kc : ns.length ≤ 100) (ke : 0 ≤ i) (kf : i ≤ 100) (kd : dp + 1 < recursionLimit) (ku : un + 8 * 1 < cLine)
    (k : ∀ (t : Tok) (h' : Heap) (tk' : Nat), Fr h₀ L h' m → News h₀ L h' (news ++ own) → Q (.int (rawI ns i) t) { s with heap := h', toks := tk' }) :
    wpAny (model PySem.Challenge.rw_ag6017_01.row.prog w) (ktrTop dp un gd cn cs L a ccd cl outer) (call (.ref 84) [.ref c, .int i u]) Q E s :=
  useVN (raw_call w c vs ns k₀ i u) k1 k2 k3 k4 k5 kK ⟨List.mem_append_left _ ka, kb, kc, ke, kf⟩ kd ku k
end
set_option maxRecDepth 100000 in
set_option maxHeartbeats 8000000 in
theorem ok_app {x y : Str} (hx : PyData.strOk x = true) (hy : PyData.strOk y = true) : PyData.strOk (x ++ y) = true := by
  unfold PyData.strOk at hx hy ⊢
  show (x.cps ++ y.cps).all (· < 0x110000) = true
  rw [Array.all_append, hx, hy]
  rfl
/-- a written tuple of short texts -/
def ShortTexts (items : Array Value) : Prop := ∀ i, i < items.size → ∃ y t, items[i]? = some (.str y t) ∧ y.length ≤ 16 ∧ PyData.strOk y = true
set_option maxRecDepth 100000 in
set_option maxHeartbeats 8000000 in
theorem short_of {items : Array Value} (h : (items.toList.all fun v => match v with | .str y _ => decide (y.length ≤ 16) && PyData.strOk y | _ => false) = true) : ShortTexts items := by
  intro i hi
  have hm : items[i] ∈ items.toList := by simp
  have := List.all_eq_true.mp h _ hm
  split at this
  · rename_i y t e
    rw [Bool.and_eq_true] at this
    exact ⟨y, t, by rw [Array.getElem?_eq_getElem hi, e], of_decide_eq_true this.1, this.2⟩
  · cases this
set_option maxRecDepth 100000 in
set_option maxHeartbeats 8000000 in
theorem tabWordy {P : Params} {h : Heap} (X : (hd.heap_39 P).In h) : ∃ items, IsTup h 51 items ∧ items.size = 8 ∧ ShortTexts items := by
  refine ⟨_, ⟨_, X 51 _ rfl, rfl, _, rfl⟩, rfl, short_of (by decide +kernel)⟩
set_option maxRecDepth 100000 in
set_option maxHeartbeats 8000000 in
theorem tabPieces {P : Params} {h : Heap} (X : (hd.heap_39 P).In h) : ∃ items, IsTup h 50 items ∧ items.size = 32 ∧ ShortTexts items := by
  refine ⟨_, ⟨_, X 50 _ rfl, rfl, _, rfl⟩, rfl, short_of (by decide +kernel)⟩
section
variable {prog : Program} {w : World} {A : Around} {E : Value → Shared → Prop} {s : Shared} {c : Addr} {n : Nat} {k : Int} {u : Tok} {Q : Value → Shared → Prop} {value slice : PySem.Expr}
set_option maxRecDepth 100000 in
set_option maxHeartbeats 8000000 in
theorem tab_item (X : ∃ items, IsTup s.heap c items ∧ items.size = n ∧ ShortTexts items) (h0 : 0 ≤ k) (h1 : k < n) (hn : n ≤ 100) (h : ∀ y t, y.length ≤ 16 → PyData.strOk y = true → Q (.str y t) s)
    (hs : subscripted slice false (.ref c) (.int k u) = operate [.ref c, .int k u] (getItem (.ref c) (.int k u)) := by with_unfolding_all rfl)
    (hg : ∀ r, letTemporaryGo value (.ref c) r = pure () := by intro _; with_unfolding_all rfl) :
    wpAny (model prog w) A (subscriptTail value slice (.ref c) (.int k u)) Q E s := by
  obtain ⟨items, hT, hsz, hsh⟩ := X
  obtain ⟨y, t, hx, hy, hy'⟩ := hsh k.toNat (by omega)
  have e : seqIndex? k items.size = some k.toNat := by
    unfold seqIndex?
    simp; omega
  exact item_tuple hT (by omega) (by omega) e hx (h y t hy hy') hs hg
end
/-- a def that hands back some value of a kind -/
def ClaimPN (w : World) (f : Addr) (D : Nat) (pre : List (Addr × Obj) → Prop) (vs : List Value) (R : Value → Prop) : Prop :=
  ∀ (news : List (Addr × Obj)) (mean : ExcName → Option Value) (mg mb : Str → Option Value) (dp un : Nat) (gd : Option (List Code)) (cn : Str) (cs : Scope) (a : Addr) (ccd : Value) (cl : List (Str × Addr)) (outer : List Env) (A₀ : Around) (base h₀ : Heap) (L : Addr) (m : Str → Option Value) (s : Shared) (Q E : Value → Shared → Prop),
    Below A₀ base outer h₀ → Fr h₀ L s.heap m → (hd.heap_39 w.params).In h₀ → News h₀ L s.heap news → Top hd.view_39 (looseW hd.view_39 []) mean mg mb h₀ → cs.kind = .function →
    pre news → dp + D < recursionLimit → un + 8 * D < cLine →
    (∀ (r : Value) (h' : Heap) (tk' : Nat), Fr h₀ L h' m → News h₀ L h' news → R r → Q r { s with heap := h', toks := tk' }) →
      wpAny (model PySem.Challenge.rw_ag6017_01.row.prog w) (ktrTop dp un gd cn cs L a ccd cl outer) (call (.ref f) vs) Q E s
local macro_rules | `(tactic| walk_at "call ref") => `(tactic| (
  k_here
  (with_reducible show wpAny _ _ (call (Value.ref 84) _) _ _ _)
  k_dflt (refine' useRaw ?k1 ?k2 ?k3 ?k4 ?k5 ?kK ?ka ?kb ?kc ?ke ?kf ?kd ?ku ?_)
  walk_at "m args0"
  (case ka => with_reducible assumption)
  (case kb => with_reducible assumption)
  (case kc => omega)
  (case ke => omega)
  (case kf => omega)
  intro t9 h9 tk9 F9 N9; (try dsimp only); (try k_fold)))
local macro_rules | `(tactic| walk_at "subscriptTail Name BinOp ref int") => `(tactic| (
  k_here
  (with_reducible show wpAny _ _ (subscriptTail _ _ (Value.ref 51) (Value.int _ _)) _ _ _)
  k_dflt (refine' tab_item (tabWordy (by k_in)) ?k1 ?k2 ?k3 ?_ ?k4 ?k5; (case k5 => intro _; with_unfolding_all rfl); (case k1 => exact fmod_lo _ (by decide)); (case k2 => exact fmod_hi _ (by decide)); (case k3 => decide); (case k4 => with_unfolding_all rfl); k_whole)
  intro y9 t9 hy9 ho9))
local macro_rules | `(tactic| walk_at "subscriptTail Name BinOp ref int") => `(tactic| (
  k_here
  (with_reducible show wpAny _ _ (subscriptTail _ _ (Value.ref 50) (Value.int _ _)) _ _ _)
  k_dflt (refine' tab_item (tabPieces (by k_in)) ?k1 ?k2 ?k3 ?_ ?k4 ?k5; (case k5 => intro _; with_unfolding_all rfl); (case k1 => exact fmod_lo _ (by decide)); (case k2 => exact fmod_hi _ (by decide)); (case k3 => decide); (case k4 => with_unfolding_all rfl); k_whole)
  intro y9 t9 hy9 ho9))

set_option maxRecDepth 100000 in
set_option maxHeartbeats 8000000 in
theorem text_call (w : World) (c : Addr) (vs : List Value) (ns : List Int) (k : Nat) (hd₁ : Int) (u : Tok) (i : Int) (u' : Tok) :
    ClaimPN w 91 2 (fun news => (c, listOf vs.toArray k) ∈ news ∧ IntsAre vs ns ∧ ns.length ≤ 100 ∧ 0 ≤ i ∧ i ≤ 20) [Value.ref c, Value.int hd₁ u, Value.int i u'] (fun r => ∃ x t, r = .str x t ∧ x.length ≤ 1000 ∧ PyData.strOk x = true) := by
  unfold ClaimPN
  w_top off
  k_with_none
  k_fill
  intro news mean mg mb dp un gd cn cs a ccd cl outer A₀ base h₀ L m s Q E B F X N T hk hpre hdp hun hret
  obtain ⟨hm, hi, i0, i1, i2⟩ := hpre
  refine wpAny_call ?_
  k_dflt cell_enter
  (rename Fr _ _ _ _ => F1)
  replace F1 := fr_nice (fun y => List.lookup y [(Str.ofString "first", .int i u'), (Str.ofString "head", .int hd₁ u), (Str.ofString "nums", .ref c)]) F1 (by with_unfolding_all rfl)
  generalize s.toks + _ = tk0
  have hf0 := fmod_lo (hd₁.fdiv 32) (n := 11) (by decide)
  have hf1 := fmod_hi (hd₁.fdiv 32) (n := 11) (by decide)
  (k_with "pyIter ref" => k_state (fun pre text => text.length ≤ 32 * pre.length ∧ PyData.strOk text = true) "text")
  (k_with "state" => first | exact And.intro (by simp only [PySem.Str.length_append, List.length_append, List.length_cons, List.length_nil]; omega) (ok_app (by assumption) (ok_app (by assumption) (by assumption))) | exact And.intro (by decide +kernel) (by decide +kernel))
  k_steps
  all_goals
    (rename (PySem.Str.length _ ≤ 32 * List.length (rangeKs _ _)) => kL)
    rw [rangeKs_length] at kL
    exact hret _ _ _ (by k_asm) (by k_asm) ⟨_, _, rfl, by omega, by assumption⟩
end C6

section C7
section
variable {w : World} {c : Addr} {vs : List Value} {ns : List Int} {k₀ : Nat} {i hd₁ : Int} {u u' : Tok} {rest : List (Addr × Obj)} {mean : ExcName → Option Value} {mg mb : Str → Option Value} {dp un : Nat} {gd : Option (List Code)} {cn : Str} {cs : Scope} {a : Addr} {ccd : Value} {cl : List (Str × Addr)} {outer : List Env} {A₀ : Around} {base h₀ : Heap} {L : Addr} {m : Str → Option Value} {s : Shared} {Q E : Value → Shared → Prop}
set_option maxRecDepth 100000 in
set_option maxHeartbeats 8000000 in
theorem useRawL (k1 : Below A₀ base outer h₀) (k2 : Fr h₀ L s.heap m) (k3 : (hd.heap_39 w.params).In h₀) (k4 : News h₀ L s.heap ((c, listOf vs.toArray k₀) :: rest)) (k5 : Top hd.view_39 (looseW hd.view_39 []) mean mg mb h₀) (kK : cs.kind = .function)
    (kb : IntsAre vs ns) (kc : ns.length ≤ 100) (ke : 0 ≤ i) (kf : i ≤ 100) (kd : dp + 1 < recursionLimit) (ku : un + 8 * 1 < cLine)
    (k : ∀ (t : Tok) (h' : Heap) (tk' : Nat), Fr h₀ L h' m → News h₀ L h' ((c, listOf vs.toArray k₀) :: rest) → Q (.int (rawI ns i) t) { s with heap := h', toks := tk' }) :
    wpAny (model PySem.Challenge.rw_ag6017_01.row.prog w) (ktrTop dp un gd cn cs L a ccd cl outer) (call (.ref 84) [.ref c, .int i u]) Q E s :=
  useVN (raw_call w c vs ns k₀ i u) k1 k2 k3 k4 k5 kK ⟨List.Mem.head _, kb, kc, ke, kf⟩ kd ku k
set_option maxRecDepth 100000 in
set_option maxHeartbeats 8000000 in
theorem useText (k1 : Below A₀ base outer h₀) (k2 : Fr h₀ L s.heap m) (k3 : (hd.heap_39 w.params).In h₀) (k4 : News h₀ L s.heap ((c, listOf vs.toArray k₀) :: rest)) (k5 : Top hd.view_39 (looseW hd.view_39 []) mean mg mb h₀) (kK : cs.kind = .function)
    (kb : IntsAre vs ns) (kc : ns.length ≤ 100) (ke : 0 ≤ i) (kf : i ≤ 20) (kd : dp + 2 < recursionLimit) (ku : un + 8 * 2 < cLine)
    (k : ∀ (x : Str) (t : Tok) (h' : Heap) (tk' : Nat), Fr h₀ L h' m → News h₀ L h' ((c, listOf vs.toArray k₀) :: rest) → x.length ≤ 1000 → PyData.strOk x = true → Q (.str x t) { s with heap := h', toks := tk' }) :
    wpAny (model PySem.Challenge.rw_ag6017_01.row.prog w) (ktrTop dp un gd cn cs L a ccd cl outer) (call (.ref 91) [.ref c, .int hd₁ u, .int i u']) Q E s :=
  text_call w c vs ns k₀ hd₁ u i u' _ _ _ _ _ _ _ _ _ _ _ _ _ _ _ _ _ _ _ _ _ k1 k2 k3 k4 k5 kK ⟨List.Mem.head _, kb, kc, ke, kf⟩ kd ku (by
    rintro r h' tk' F N ⟨x, t, rfl, hx, ho⟩
    exact k x t h' tk' F N hx ho)
set_option maxRecDepth 100000 in
set_option maxHeartbeats 8000000 in
theorem reads_strs {h : Heap} {its : List Value} {xs : List Str} (S : StrsAre its xs) : ∃ as, ReadsAll h its (xs.map PyData.str) as := by
  induction S with
  | nil => exact ⟨_, .nil⟩
  | cons y t _ ih =>
    obtain ⟨as, ih⟩ := ih
    exact ⟨_, .cons (.str y t) ih⟩
set_option maxRecDepth 100000 in
set_option maxHeartbeats 8000000 in
theorem ok_slice {x : Str} {l u : Option Int} (hx : PyData.strOk x = true) : PyData.strOk (Txt.slice x l u) = true := by
  unfold Txt.slice
  split
  · exact hx
  · unfold PyData.strOk at hx ⊢
    rw [Array.all_eq_true'] at hx ⊢
    intro c hc
    simp only [List.mem_toArray, List.mem_filterMap] at hc
    obtain ⟨i, _, hi⟩ := hc
    exact hx c (Array.mem_of_getElem? hi)
set_option maxRecDepth 100000 in
set_option maxHeartbeats 8000000 in
theorem ok_chunks {y : Str} {e k : Nat} (hy : PyData.strOk y = true) : (chunksFrom y e k).all PyData.strOk = true := by
  induction hn : e - k using Nat.strongRecOn generalizing k with
  | _ n ih =>
    rw [chunksFrom]
    split
    · rename_i h
      rw [List.all_cons, ok_slice hy, ih (e - chunkEnd y e k) (by omega) rfl]
      rfl
    · rfl
set_option maxRecDepth 100000 in
set_option maxHeartbeats 8000000 in
theorem ok_wide {x : Str} (hx : PyData.strOk x = true) : PyData.strOk (wide x) = true := ok_app (ok_app (by decide +kernel) hx) (by decide +kernel)
set_option maxRecDepth 100000 in
set_option maxHeartbeats 8000000 in
theorem canLay_strs : ∀ xs : List Str, xs.all PyData.strOk = true → PyData.canLayAll0 (xs.map PyData.str) = true
  | [], _ => rfl
  | _ :: r, h => by
    rw [List.all_cons, Bool.and_eq_true] at h
    simp [PyData.canLayAll0, PyData.canLay0, canLay_strs r h.2, h.1]
set_option maxRecDepth 100000 in
set_option maxHeartbeats 8000000 in
theorem depth_strs : ∀ xs : List Str, PyData.depthAll (xs.map PyData.str) = 0
  | [] => rfl
  | _ :: r => by simp [PyData.depthAll, PyData.depth, depth_strs r]
set_option maxRecDepth 100000 in
set_option maxHeartbeats 8000000 in
theorem eqv_strs : ∀ xs : List Str, PyData.eqvAll (xs.map PyData.str) (xs.map PyData.str) = true
  | [] => by simp [PyData.eqvAll]
  | _ :: r => by simp [PyData.eqvAll, PyData.eqv, eqv_strs r]
set_option maxRecDepth 100000 in
set_option maxHeartbeats 8000000 in
theorem eq_two {prog : Program} {A : Around} {s : Shared} {news : List (Addr × Obj)} {lT p1 p2 lD q1 q2 : Addr} {i1 i2 j1 j2 : List Value} {n0 n1 n2 n3 n4 n5 : Nat} {xs ys : List Str}
    (N : News h₀ L s.heap news) (m0 : (lT, listOf #[Value.ref p1, Value.ref p2] n0) ∈ news) (m1 : (p1, listOf i1.toArray n1) ∈ news) (m2 : (p2, listOf i2.toArray n2) ∈ news)
    (m3 : (lD, listOf #[Value.ref q1, Value.ref q2] n3) ∈ news) (m4 : (q1, listOf j1.toArray n4) ∈ news) (m5 : (q2, listOf j2.toArray n5) ∈ news)
    (s1 : StrsAre i1 xs) (s2 : StrsAre i2 ys) (s3 : StrsAre j1 xs) (s4 : StrsAre j2 ys) (ox : xs.all PyData.strOk = true) (oy : ys.all PyData.strOk = true) (hu : A.units + 64 < cLine) (h : Q (.bool true) s) :
    wpAny (model prog w) A (compareOp .Eq (.ref lT) (.ref lD)) Q E s := by
  have inner : ∀ {a : Addr} {its : List Value} {n : Nat} {zs : List Str}, (a, listOf its.toArray n) ∈ news → StrsAre its zs → ∃ as, Reads s.heap (.ref a) (.list (zs.map PyData.str)) as := fun hm S => by
    obtain ⟨as, R⟩ := reads_strs (h := s.heap) S
    exact ⟨_, Reads.list (N _ hm).1 rfl rfl R⟩
  have outer : ∀ {a b c : Addr} {n : Nat}, (a, listOf #[Value.ref b, Value.ref c] n) ∈ news → (∃ as, Reads s.heap (.ref b) (.list (xs.map PyData.str)) as) → (∃ as, Reads s.heap (.ref c) (.list (ys.map PyData.str)) as) →
      ∃ as, Reads s.heap (.ref a) (.list [.list (xs.map PyData.str), .list (ys.map PyData.str)]) as := fun hm ⟨_, R1⟩ ⟨_, R2⟩ =>
    ⟨_, Reads.list (N _ hm).1 rfl rfl (.cons R1 (.cons R2 .nil))⟩
  obtain ⟨_, RT⟩ := outer m0 (inner m1 s1) (inner m2 s2)
  obtain ⟨_, RD⟩ := outer m3 (inner m4 s3) (inner m5 s4)
  have hsh : SeqAt.shaped (.list [.list (xs.map PyData.str), .list (ys.map PyData.str)]) = true := by
    simp [SeqAt.shaped, PyData.canLay0, PyData.canLayAll0, PyData.depth, PyData.depthAll, canLay_strs _ ox, canLay_strs _ oy, depth_strs]
  refine eq_dataH RT RD hsh hsh hu ?_
  have e : PyData.eqv (.list [.list (xs.map PyData.str), .list (ys.map PyData.str)]) (.list [.list (xs.map PyData.str), .list (ys.map PyData.str)]) = true := by
    simp [PyData.eqv, PyData.eqvAll, eqv_strs]
  rw [e]
  exact h
set_option maxRecDepth 100000 in
set_option maxHeartbeats 8000000 in
theorem keep1 {p₀ : Addr × Obj} {more news : List (Addr × Obj)} : ∀ p ∈ p₀ :: news, p ∈ (p₀ :: more) ++ news := by
  intro p hp
  rcases List.mem_cons.mp hp with rfl | hp
  · exact .head _
  · exact .tail _ (List.mem_append_right _ hp)
end
local macro_rules | `(tactic| walk_at "m pad C7 0") => `(tactic| skip)
local macro_rules | `(tactic| walk_at "m pad C7 1") => `(tactic| skip)
local macro_rules | `(tactic| walk_at "m pad C7 2") => `(tactic| skip)
local macro_rules | `(tactic| walk_at "m pad C7 3") => `(tactic| skip)
local macro_rules | `(tactic| walk_at "m pad C7 4") => `(tactic| skip)
local macro_rules | `(tactic| walk_at "m pad C7 5") => `(tactic| skip)
local macro_rules | `(tactic| walk_at "m pad C7 6") => `(tactic| skip)
local macro_rules | `(tactic| walk_at "m args0") => `(tactic| (
  (case k1 => first | k_asm | fail "m: below")
  (case k2 => first | k_asm | fail "m: frame")
  (case k3 => first | k_asm | fail "m: written part")
  (case k4 => first | k_asm | fail "m: ledger")
  (case k5 => first | k_asm | fail "m: top")
  (case kK => first | exact rfl | assumption | fail "m: kind")
  (case kd => first | ktr_room | fail "m: room")
  (case ku => first | ktr_units | fail "m: units")))
local macro_rules | `(tactic| walk_at "m args") => `(tactic| (
  (case k1 => first | k_asm | fail "m: below")
  (case k2 => first | k_asm | fail "m: frame")
  (case k3 => first | k_asm | fail "m: written part")
  (case k4 => first | k_asm | fail "m: ledger")
  (case k5 => first | k_asm | fail "m: top")
  (case kK => first | exact rfl | assumption | fail "m: kind")
  (case kd => first | ktr_room | fail "m: room")
  (case ku => first | ktr_units | fail "m: units")
  (case kp => first | exact trivial | assumption | (simp; done) | omega | fail "m: pre")))
local macro_rules | `(tactic| walk_at "call ref") => `(tactic| (
  k_here
  (with_reducible show wpAny _ _ (call (Value.ref 21) _) _ _ _)
  k_dflt (refine' useV (word_call _ _ _) ?k1 ?k2 ?k3 ?k4 ?k5 ?kK ?kp ?kd ?ku ?_)
  walk_at "m args"
  intro t9 h9 tk9 F9 N9; (try dsimp only); (try k_fold)))
local macro_rules | `(tactic| walk_at "subscriptTail Name Name str int") => `(tactic| (k_here; (refine item_at (by omega) (by omega) (by omega) ?_)))
local macro_rules | `(tactic| walk_at "subscriptTail Name BinOp str int") => `(tactic| (k_here; (refine item_at (by omega) (by omega) (by omega) ?_)))
local macro_rules | `(tactic| walk_at "subscriptTail Name IfExp str int") => `(tactic| (k_here; (refine item_at (by omega) (by omega) (by omega) ?_)))
local macro_rules | `(tactic| walk_at "compareOp Eq str str") => `(tactic| (k_here; first | (refine cmp_one is_dash ?_) | (refine cmp_one is_blank ?_)))
local macro_rules | `(tactic| walk_at "compareOp NotEq str str") => `(tactic| (k_here; first | (refine cmp_ne_one is_dash ?_) | (refine cmp_ne_one is_blank ?_)))
local macro_rules | `(tactic| walk_at "compareOp In str str") => `(tactic| (k_here; (refine in_points is_points ?_)))
local macro_rules | `(tactic| walk_at "exec While Compare cons nil") => `(tactic| refine Mine.held ?_)
local macro_rules | `(tactic| walk_at "exec While BoolOp cons nil") => `(tactic| refine Mine.held ?_)
local macro_rules | `(tactic| walk_at "exec While UnaryOp cons nil") => `(tactic| refine Mine.held ?_)
local macro_rules | `(tactic| walk_at "call ref") => `(tactic| (
  k_here
  (with_reducible show wpAny _ _ (call (Value.ref 28) _) _ _ _)
  k_dflt (refine' useV (letter_call _ _ _) ?k1 ?k2 ?k3 ?k4 ?k5 ?kK ?kp ?kd ?ku ?_)
  walk_at "m args"
  intro t9 h9 tk9 F9 N9; (try dsimp only); (try k_fold)))
local macro_rules | `(tactic| walk_at "call ref") => `(tactic| (
  k_here
  (with_reducible show wpAny _ _ (call (Value.ref 84) _) _ _ _)
  k_dflt (refine' useRawL ?k1 ?k2 ?k3 ?k4 ?k5 ?kK ?kb ?kc ?ke ?kf ?kd ?ku ?_)
  walk_at "m args0"
  (case kb => l_ints)
  (case kc => (simp only [List.length_take]; omega))
  (case ke => omega)
  (case kf => omega)
  intro t9 h9 tk9 F9 N9; (try dsimp only); (try k_fold)))
local macro_rules | `(tactic| walk_at "call ref") => `(tactic| (
  k_here
  (with_reducible show wpAny _ _ (call (Value.ref 91) _) _ _ _)
  k_dflt (refine' useText ?k1 ?k2 ?k3 ?k4 ?k5 ?kK ?kb ?kc ?ke ?kf ?kd ?ku ?_)
  walk_at "m args0"
  (case kb => l_ints)
  (case kc => (simp only [List.length_take]; omega))
  (case ke => omega)
  (case kf => omega)
  intro y9 t9 h9 tk9 F9 N9 hy9 ho9; (try dsimp only); (try k_fold)))
local macro_rules | `(tactic| walk_at "call ref") => `(tactic| (
  k_here
  (with_reducible show wpAny _ _ (call (Value.ref 98) _) _ _ _)
  k_dflt (refine' useO (parted_call _ _ _) ?k1 ?k2 ?k3 ?k4 ?k5 ?kK ?kp ?kd ?ku ?_)
  walk_at "m args"
  intro r9 tl9 h9 tk9 F9 N9 hR9; obtain ⟨a9, its9, k9, more9, e91, e92, hS9⟩ := hR9; subst e91 e92; (rw [plain_law] at hS9); (replace N9 := cb_drop N9 keep1); (try dsimp only); (try k_fold)))
local macro_rules | `(tactic| walk_at "call ref") => `(tactic| (
  k_here
  (with_reducible show wpAny _ _ (call (Value.ref 49) _) _ _ _)
  k_dflt (refine' useO (split_call _ _ _) ?k1 ?k2 ?k3 ?k4 ?k5 ?kK ?kp ?kd ?ku ?_)
  walk_at "m args"
  intro r9 tl9 h9 tk9 F9 N9 hR9; obtain ⟨a9, its9, k9, e91, e92, hS9⟩ := hR9; subst e91 e92; (try simp only [List.cons_append, List.nil_append] at N9); (try dsimp only); (try k_fold)))

local macro_rules | `(tactic| walk_at "compareOp Eq ref ref") => `(tactic| refine Mine.held ?_)
set_option maxRecDepth 100000 in
set_option maxHeartbeats 8000000 in
theorem whole : PySem.Challenge.rw_ag6017_01.Holds := hd (by
  k_with_none
  k_go0
  (all_goals try k_fold)
  k_steps
  unfold Held
  k_dflt (refine' eq_two ?k0 ?k1 ?k2 ?k3 ?k4 ?k5 ?k6 ?ka ?kb ?kc ?ke ?kf ?kg ?ku ?_)
  (case k0 => k_asm)
  (case k1 => k_mem)
  (case k2 => k_mem)
  (case k3 => k_mem)
  (case k4 => k_mem)
  (case k5 => k_mem)
  (case k6 => k_mem)
  (case ka => with_reducible assumption)
  (case kb => with_reducible assumption)
  (case kc => with_reducible assumption)
  (case ke => with_reducible assumption)
  (case kf => exact ok_chunks (ok_wide (by with_reducible assumption)))
  (case kg => exact ok_chunks (ok_wide (by with_reducible assumption)))
  (case ku => ke_room)
  k_steps)
end C7
end Mine
set_option maxRecDepth 100000 in
set_option maxHeartbeats 8000000 in
theorem PySem.Challenge.cw_ag6017_01_holds : PySem.Challenge.rw_ag6017_01.Holds := by
  exact Mine.whole
