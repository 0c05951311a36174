import PyProof.Rows.All
import Wide.All
import OpenK.AllK
import Wide.FinOn
import PySem.Challenge.RW_rw0023_01
set_option Elab.async false
set_option maxRecDepth 100000
set_option linter.unusedVariables false
set_option linter.unusedSimpArgs false
-- part Head
section
open PySem PySem.W PyProof.Rows
set_option maxHeartbeats 0
namespace Mine
open_top hd for PySem.Challenge.rw_rw0023_01
end Mine
end
-- part Par
section
open PySem PySem.W PyProof.Rows
set_option maxHeartbeats 0
namespace Mine


def parentF (r : List Int) (p : Int) : Int :=
  if 0 ≤ 0 + (r.getD ((p - 1).fmod 6).toNat 0 - 1) then (p - 1).fmod 6
  else if 0 ≤ 0 + (r.getD ((p - 1).fmod 6).toNat 0 - 1) + (r.getD ((p - 2).fmod 6).toNat 0 - 1) then (p - 2).fmod 6
  else if 0 ≤ 0 + (r.getD ((p - 1).fmod 6).toNat 0 - 1) + (r.getD ((p - 2).fmod 6).toNat 0 - 1) + (r.getD ((p - 3).fmod 6).toNat 0 - 1) then (p - 3).fmod 6
  else if 0 ≤ 0 + (r.getD ((p - 1).fmod 6).toNat 0 - 1) + (r.getD ((p - 2).fmod 6).toNat 0 - 1) + (r.getD ((p - 3).fmod 6).toNat 0 - 1) + (r.getD ((p - 4).fmod 6).toNat 0 - 1) then (p - 4).fmod 6
  else if 0 ≤ 0 + (r.getD ((p - 1).fmod 6).toNat 0 - 1) + (r.getD ((p - 2).fmod 6).toNat 0 - 1) + (r.getD ((p - 3).fmod 6).toNat 0 - 1) + (r.getD ((p - 4).fmod 6).toNat 0 - 1) + (r.getD ((p - 5).fmod 6).toNat 0 - 1) then (p - 5).fmod 6
  else 6

section
variable {prog : Program} {w : World} {A : Around} {E : Value → Shared → Prop} {s : Shared} {h₀ : Heap} {L : Addr} {news : List (Addr × Obj)} {value slice : PySem.Expr} {a : Addr} {vs : List Value} {n : Nat} {k : Int} {u : Tok} {r : List Int} {Q : Value → Shared → Prop}
/-- an item of a made list of ints, at a place in it -/
theorem item_led (N : News h₀ L s.heap news) (hm : (a, listOf vs.toArray n) ∈ news) (hi : IntsAre vs r) (h0 : 0 ≤ k) (h1 : k < r.length) (hfit : k < 2 ^ 63) (h : ∀ t, Q (.int (r.getD k.toNat 0) t) s)
    (hs : subscripted slice false (.ref a) (.int k u) = operate [.ref a, .int k u] (getItem (.ref a) (.int k u)) := by with_unfolding_all rfl) (hg : ∀ r, letTemporaryGo value (.ref a) r = pure () := by intro _; with_unfolding_all rfl) :
    wpAny (model prog w) A (subscriptTail value slice (.ref a) (.int k u)) Q E s := by
  have hlt : k.toNat < r.length := by omega
  have e : r[k.toNat]? = some (r.getD k.toNat 0) := by simp [List.getD, hlt]
  obtain ⟨t, hx⟩ := hi.get _ _ e
  exact kim_list N hm rfl rfl h0 hfit hx (h t) hs hg
end
theorem fmod6 (x : Int) : x.fmod 6 = x % 6 := Int.fmod_eq_emod_of_nonneg x (by decide)
theorem fmod6_lo (x : Int) : 0 ≤ x.fmod 6 := by rw [fmod6]; omega
theorem fmod6_hi (x : Int) : x.fmod 6 < 6 := by rw [fmod6]; omega

def ParTells (w : World) (mean : ExcName → Option Value) (mg mb : Str → Option Value) : Prop :=
  ∀ (dp un : Nat) (gd : Option (List Code)) (cn : Str) (cs : Scope) (a : Addr) (ccd : Value) (cl : List (Str × Addr)) (outer : List Env) (A₀ : Around) (base h₀ : Heap) (L : Addr) (m : Str → Option Value) (news : List (Addr × Obj)) (s : Shared)
    (Q E : Value → Shared → Prop) (l : Addr) (vs : List Value) (nn : Nat) (r : List Int) (p : Int) (tk : Tok),
    Below A₀ base outer h₀ → Fr h₀ L s.heap m → (hd.heap_39 w.params).In h₀ → News h₀ L s.heap news → Top hd.view_39 (looseW hd.view_39 [Str.ofString "_twin_re_1", Str.ofString "_twin_re_2"]) mean mg mb h₀ → cs.kind = .function →
    (l, listOf vs.toArray nn) ∈ news → IntsAre vs r → r.length = 6 → 0 ≤ p → p < 6 → dp + 1 < recursionLimit → un + 8 < cLine →
    (∀ (t : Tok) (h' : Heap) (tk' : Nat), Fr h₀ L h' m → News h₀ L h' news → Q (.int (parentF r p) t) { s with heap := h', toks := tk' }) →
    wpAny (model PySem.Challenge.rw_rw0023_01.row.prog w) (ktrTop dp un gd cn cs L a ccd cl outer) (call (.ref 83) [.ref l, .int p tk]) Q E s

local macro_rules | `(tactic| k_mem) => `(tactic| assumption)
theorem parTells (w : World) (mean : ExcName → Option Value) (mg mb : Str → Option Value) : ParTells w mean mg mb := by
  unfold ParTells
  k_with_none
  k_fill
  intro dp un gd cn cs a ccd cl outer A₀ base h₀ L m news s Q E l vs nn r p tk B F X N T hk hm hi hlen h0 h6 hd hu hret
  refine wpAny_call ?_
  k_dflt cell_enter
  k_with "subscriptTail" => (refine item_led (by assumption) (by k_mem) hi (fmod6_lo _) (by rw [hlen]; exact fmod6_hi _) (Int.lt_trans (fmod6_hi _) (by decide)) ?_; intro tI)
  k_with "UnrEnd" => (refine UnrEnd.intro (by assumption) (by assumption) news (fun _ h => h) (fun p hp => Nat.ne_of_lt ((by assumption : ∀ p ∈ news, p.1 < _) p hp)) ?_)
  k_steps
  all_goals (refine cb_retI (Q := Q) hret (Eq.symm ?_) (by k_asm) (cb_drop (by assumption) (by first | exact fun _ h => h | exact fun _ h => List.Mem.tail _ h)))
  all_goals first
    | exact if_pos (by assumption)
    | exact (if_neg (by assumption)).trans (if_pos (by assumption))
    | exact (if_neg (by assumption)).trans ((if_neg (by assumption)).trans (if_pos (by assumption)))
    | exact (if_neg (by assumption)).trans ((if_neg (by assumption)).trans ((if_neg (by assumption)).trans (if_pos (by assumption))))
    | exact (if_neg (by assumption)).trans ((if_neg (by assumption)).trans ((if_neg (by assumption)).trans ((if_neg (by assumption)).trans (if_pos (by assumption)))))
    | exact (if_neg (by assumption)).trans ((if_neg (by assumption)).trans ((if_neg (by assumption)).trans ((if_neg (by assumption)).trans (if_neg (by assumption)))))
end Mine
end
-- part LineW
section
open PySem PySem.W PyProof.Rows
set_option maxHeartbeats 0
namespace Mine

section
variable {prog : Program} {w : World} {A : Around} {E : Value → Shared → Prop} {s : Shared} {h₀ : Heap} {L : Addr} {news : List (Addr × Obj)} {value slice : PySem.Expr} {a : Addr} {vs : List Value} {n : Nat} {k : Int} {u : Tok} {r : List Int} {Q : Value → Shared → Prop}
/-- the last item of a made list of ints -/
theorem item_last (N : News h₀ L s.heap news) (hm : (a, listOf vs.toArray n) ∈ news) (hi : IntsAre vs r) (hl : 0 < r.length) (h : ∀ t, Q (.int (r.getLastD 0) t) s)
    (hs : subscripted slice false (.ref a) (.int (-1) u) = operate [.ref a, .int (-1) u] (getItem (.ref a) (.int (-1) u)) := by with_unfolding_all rfl) (hg : ∀ r, letTemporaryGo value (.ref a) r = pure () := by intro _; with_unfolding_all rfl) :
    wpAny (model prog w) A (subscriptTail value slice (.ref a) (.int (-1) u)) Q E s := by
  have hlen := hi.length
  have e : r[r.length - 1]? = some (r.getLastD 0) := by
    rw [List.getLastD_eq_getLast?, List.getLast?_eq_getElem?]
    have : r.length - 1 < r.length := by omega
    simp [this]
  obtain ⟨t, hx⟩ := hi.get _ _ e
  refine kim_back N hm rfl rfl (by decide) (by omega) (by decide) (x := .int (r.getLastD 0) t) ?_ (h t) hs hg
  have : ((-1 : Int) + (vs.length : Int)).toNat = r.length - 1 := by omega
  rw [this]; exact hx
end

/-- the line of places from p on up, at most n parents -/
def lineF (r : List Int) : Nat → Int → List Int
  | 0, p => [p]
  | n + 1, p => if parentF r p < 6 then p :: lineF r n (parentF r p) else [p]

/-- the loop's word: the line so far ends in q, and what is to come is the line from q on -/
def LineInv (r : List Int) (p : Int) (line : List Int) : Prop :=
  ∃ pre q, line = pre ++ [q] ∧ pre.length ≤ 5 ∧ 0 ≤ q ∧ q < 6 ∧ lineF r 5 p = pre ++ lineF r (5 - pre.length) q
def LineEnds (r : List Int) : Prop := ∀ p, 0 ≤ p → p < 6 → ¬ parentF r ((lineF r 5 p).getLastD 0) < 6
theorem parentF_nonneg (r : List Int) (p : Int) : 0 ≤ parentF r p := by
  unfold parentF
  repeat' split
  all_goals first | exact fmod6_lo _ | decide
theorem lineInv_start {r : List Int} {p : Int} (h0 : 0 ≤ p) (h6 : p < 6) : LineInv r p [p] := ⟨[], p, rfl, by simp, h0, h6, rfl⟩
theorem lineInv_stop {r : List Int} {p : Int} {line : List Int} (h : LineInv r p line) (hn : ¬ parentF r (line.getLastD 0) < 6) : lineF r 5 p = line := by
  obtain ⟨pre, q, rfl, _, _, _, e⟩ := h
  have hq : ¬ parentF r q < 6 := by simpa using hn
  rw [e]
  cases 5 - pre.length with
  | zero => rfl
  | succ n => simp [lineF, hq]
theorem lineInv_step {r : List Int} {p : Int} {line : List Int} (he : LineEnds r) (h0 : 0 ≤ p) (h6 : p < 6) (h : LineInv r p line) (hn : parentF r (line.getLastD 0) < 6) :
    LineInv r p (line ++ [parentF r (line.getLastD 0)]) ∧ line.length < 6 := by
  obtain ⟨pre, q, rfl, hl, hq0, hq6, e⟩ := h
  have hq : parentF r q < 6 := by simpa using hn
  have e1 : (pre ++ [q]).getLastD 0 = q := by simp
  rw [e1]
  by_cases hl5 : pre.length = 5
  · exfalso
    rw [hl5] at e
    have h2 := he p h0 h6
    rw [e] at h2
    exact h2 (by simpa [lineF] using hq)
  · refine ⟨⟨pre ++ [q], parentF r q, rfl, by simp; omega, parentF_nonneg _ _, hq, ?_⟩, by simp; omega⟩
    obtain ⟨n, hn'⟩ : ∃ n, 5 - pre.length = n + 1 := ⟨4 - pre.length, by omega⟩
    have : 5 - (pre ++ [q]).length = n := by simp; omega
    rw [this, e, hn', lineF, if_pos hq]
    simp
theorem lineInv_last {r : List Int} {p : Int} {line : List Int} (h : LineInv r p line) : 0 ≤ line.getLastD 0 ∧ line.getLastD 0 < 6 ∧ 0 < line.length ∧ line.length ≤ 6 := by
  obtain ⟨pre, q, rfl, hl, hq0, hq6, e⟩ := h
  simp; omega

def LineTells (w : World) (mean : ExcName → Option Value) (mg mb : Str → Option Value) : Prop :=
  ∀ (dp un : Nat) (gd : Option (List Code)) (cn : Str) (cs : Scope) (a : Addr) (ccd : Value) (cl : List (Str × Addr)) (outer : List Env) (A₀ : Around) (base h₀ : Heap) (L : Addr) (m : Str → Option Value) (news : List (Addr × Obj)) (s : Shared)
    (Q E : Value → Shared → Prop) (l : Addr) (vs : List Value) (nn : Nat) (r : List Int) (p : Int) (tk : Tok),
    Below A₀ base outer h₀ → Fr h₀ L s.heap m → (hd.heap_39 w.params).In h₀ → News h₀ L s.heap news → Top hd.view_39 (looseW hd.view_39 [Str.ofString "_twin_re_1", Str.ofString "_twin_re_2"]) mean mg mb h₀ → cs.kind = .function →
    (l, listOf vs.toArray nn) ∈ news → IntsAre vs r → r.length = 6 → LineEnds r → 0 ≤ p → p < 6 → dp + 2 < recursionLimit → un + 16 < cLine →
    (∀ (x : Addr) (ws : List Value) (k : Nat) (h' : Heap) (tk' : Nat), IntsAre ws (lineF r 5 p) → (∀ q ∈ news, q.1 < x) → Fr h₀ L h' m → News h₀ L h' ((x, listOf ws.toArray k) :: news) → Q (.ref x) { s with heap := h', toks := tk' }) →
    wpAny (model PySem.Challenge.rw_rw0023_01.row.prog w) (ktrTop dp un gd cn cs L a ccd cl outer) (call (.ref 90) [.ref l, .int p tk]) Q E s

theorem all_ne_of_lt {news : List (Addr × Obj)} {x : Addr} (h : ∀ p ∈ news, p.1 < x) : ∀ p ∈ news, p.1 ≠ x := fun p hp => Nat.ne_of_lt (h p hp)
theorem line_size {r : List Int} {p : Int} {line : List Int} {ws : List Value} (h : LineInv r p line) (hi : IntsAre ws line) : ws.toArray.size ≤ sizeLine := by
  have h1 := (lineInv_last h).2.2.2
  have h2 := hi.length
  have : (6 : Nat) ≤ sizeLine := by decide
  rw [List.size_toArray]; omega
local macro_rules | `(tactic| k_mem) => `(tactic| assumption)
local macro_rules | `(tactic| k_all) => `(tactic| exact all_ne_of_lt (by assumption))
local macro_rules | `(tactic| size_fits) => `(tactic| exact line_size (by assumption) (by assumption))
theorem lineTells (w : World) (mean : ExcName → Option Value) (mg mb : Str → Option Value) : LineTells w mean mg mb := by
  unfold LineTells
  k_with_none
  k_fill
  intro dp un gd cn cs a ccd cl outer A₀ base h₀ L m news s Q E l vs nn r p tk B F X N T hk hm hi hlen he h0 h6 hd hu hret
  refine wpAny_call ?_
  k_dflt cell_enter
  k_with "state" => first | exact lineInv_start h0 h6 | exact (lineInv_step he h0 h6 (by assumption) (by assumption)).1
  k_with "measure" => (have hq := (lineInv_step he h0 h6 (by assumption) (by assumption)).2; simp only [List.length_append, List.length_cons, List.length_nil]; omega)
  k_with "exec While" => k_while (fun _ line => LineInv r p line) (fun _ line => 7 - line.length) "line"
  k_with "subscriptTail" => (refine item_last (by assumption) (by k_mem) (by assumption) (lineInv_last (by assumption)).2.2.1 ?_; intro tI)
  k_with "call ref" => (k_dflt (refine parTells w mean mg mb _ _ _ _ _ _ _ _ _ _ _ _ _ _ _ _ _ _ _ _ _ _ _ _ (by k_asm) (by k_asm) (by k_asm) (by k_asm) (by k_asm) (by first | exact rfl | assumption) (by k_mem) hi hlen (lineInv_last (by assumption)).1 (lineInv_last (by assumption)).2.1 (by ktr_room) (by ktr_units) ?_); intro t9 h9 tk9 F9 N9; (try dsimp only))
  k_steps
  all_goals (refine hret _ _ _ _ _ ?_ (by assumption) (by assumption) (by assumption))
  all_goals (rw [lineInv_stop (by assumption) (by assumption)]; assumption)
end Mine
end
-- part Ap
section
open PySem PySem.W PyProof.Rows
set_option maxHeartbeats 0
namespace Mine

/-- the word that Int2AP writes of a number, at most n figures -/
def apF : Nat → Nat → List UInt8
  | 0, _ => []
  | k + 1, n => if n = 0 then [] else apF k (n / 16) ++ [UInt8.ofNat (65 + n % 16)]

/-- the loop's word -/
def ApInv (N : Nat) (num : Int) (val : Array UInt8) : Prop :=
  0 ≤ num ∧ ∃ k, num.toNat < 16 ^ k ∧ apF 6 N = apF k num.toNat ++ val.toList ∧ val.size + k ≤ 6
theorem apInv_start {n : Int} (hn : n.natAbs < 16 ^ 6) : ApInv n.natAbs (if n < 0 then -n else n) #[] := by
  have e : (if n < 0 then -n else n) = (n.natAbs : Int) := by split <;> omega
  rw [e]
  exact ⟨by omega, 6, by simpa using hn, by simp, by simp⟩
theorem apF_zero : ∀ k, apF k 0 = []
  | 0 => rfl
  | k + 1 => by simp [apF]
theorem apInv_stop {N : Nat} {num : Int} {val : Array UInt8} (h : ApInv N num val) (h0 : num = 0) : (apF 6 N).toArray = val := by
  obtain ⟨_, k, _, e, _⟩ := h
  subst h0
  rw [e]
  simp [apF_zero]
theorem apInv_step {N : Nat} {num : Int} {val : Array UInt8} (h : ApInv N num val) (h0 : num ≠ 0) :
    ApInv N (num / 16) (#[UInt8.ofNat (65 + (num % 16).toNat)] ++ val) ∧ (num / 16).toNat < num.toNat := by
  obtain ⟨hp, k, hk, e, hs⟩ := h
  have hpos : 0 < num.toNat := by omega
  have e16 : (num / 16).toNat = num.toNat / 16 := by omega
  have em16 : (num % 16).toNat = num.toNat % 16 := by omega
  refine ⟨⟨by omega, ?_⟩, by omega⟩
  cases k with
  | zero => simp at hk; omega
  | succ j =>
    refine ⟨j, ?_, ?_, ?_⟩
    · rw [e16]; rw [Nat.pow_succ] at hk; omega
    · rw [e, e16, em16, apF, if_neg (by omega)]; simp
    · simp; omega

def apTable : Array UInt8 := #[65, 66, 67, 68, 69, 70, 71, 72, 73, 74, 75, 76, 77, 78, 79, 80]
theorem ap_pick {i : Int} (h0 : 0 ≤ i) (h1 : i < 16) : KBy.picked #[65, 66, 67, 68, 69, 70, 71, 72, 73, 74, 75, 76, 77, 78, 79, 80] (some i) (some (i + 1)) = #[UInt8.ofNat (65 + i.toNat)] := by
  have : i = 0 ∨ i = 1 ∨ i = 2 ∨ i = 3 ∨ i = 4 ∨ i = 5 ∨ i = 6 ∨ i = 7 ∨ i = 8 ∨ i = 9 ∨ i = 10 ∨ i = 11 ∨ i = 12 ∨ i = 13 ∨ i = 14 ∨ i = 15 := by omega
  rcases this with rfl | rfl | rfl | rfl | rfl | rfl | rfl | rfl | rfl | rfl | rfl | rfl | rfl | rfl | rfl | rfl <;> decide +kernel
section
variable {prog : Program} {w : World} {A : Around} {E : Value → Shared → Prop} {s : Shared} {h₀ : Heap} {L : Addr} {m : Str → Option Value} {news : List (Addr × Obj)} {value slice : PySem.Expr} {t ti tj : Tok} {i : Int} {Q : Value → Shared → Prop}
theorem ap_slice (hF : Fr h₀ L s.heap m) (hN : News h₀ L s.heap news) (h0 : 0 ≤ i) (h1 : i < 16)
    (h : ∀ h' t' k, Fr h₀ L h' m → News h₀ L h' news → Q (.bytes #[UInt8.ofNat (65 + i.toNat)] t') { s with heap := h', toks := k })
    (hs : subscripted slice false (.bytes #[65, 66, 67, 68, 69, 70, 71, 72, 73, 74, 75, 76, 77, 78, 79, 80] t) (.ref s.heap.objs.size) = operate [.ref s.heap.objs.size, .bytes #[65, 66, 67, 68, 69, 70, 71, 72, 73, 74, 75, 76, 77, 78, 79, 80] t] (getItem (.bytes #[65, 66, 67, 68, 69, 70, 71, 72, 73, 74, 75, 76, 77, 78, 79, 80] t) (.ref s.heap.objs.size)) := by with_unfolding_all rfl)
    (ht : ∀ r, letTemporaryGo value (.bytes #[65, 66, 67, 68, 69, 70, 71, 72, 73, 74, 75, 76, 77, 78, 79, 80] t) r = pure () := by intro _; with_unfolding_all rfl) :
    wpAny (model prog w) A (subscriptTail value slice (.bytes #[65, 66, 67, 68, 69, 70, 71, 72, 73, 74, 75, 76, 77, 78, 79, 80] t) (.ref s.heap.objs.size)) Q E { s with heap := s.heap.push { cls := .type "slice", data := .fields #[.int i ti, .int (i + 1) tj, .none] } } := by
  refine KBc.slice_K (lo := some i) (hi := some (i + 1)) hF hN rfl (by constructor) (by constructor) (by decide +kernel) ?_ hs ht
  intro h' t' k F' N' _
  rw [ap_pick h0 h1]
  exact h h' t' k F' N'
end
theorem fmod16 (x : Int) : x.fmod 16 = x % 16 := Int.fmod_eq_emod_of_nonneg x (by decide)
theorem fdiv16 (x : Int) : x.fdiv 16 = x / 16 := Int.fdiv_eq_ediv_of_nonneg x (by decide)
theorem fmod16_lo (x : Int) : 0 ≤ x.fmod 16 := by rw [fmod16]; omega
theorem fmod16_hi (x : Int) : x.fmod 16 < 16 := by rw [fmod16]; omega
theorem apInv_step' {N : Nat} {num : Int} {val : Array UInt8} (h : ApInv N num val) (h0 : num ≠ 0) :
    ApInv N (num.fdiv 16) (#[UInt8.ofNat (65 + (num.fmod 16).toNat)] ++ val) ∧ (num.fdiv 16).toNat < num.toNat := by
  rw [fmod16, fdiv16]; exact apInv_step h h0
theorem apInv_size {N : Nat} {num : Int} {val : Array UInt8} (h : ApInv N num val) : val.size ≤ 6 := by
  obtain ⟨_, k, _, _, hs⟩ := h
  omega

def ApTells (w : World) (mean : ExcName → Option Value) (mg mb : Str → Option Value) : Prop :=
  ∀ (dp un : Nat) (gd : Option (List Code)) (cn : Str) (cs : Scope) (a : Addr) (ccd : Value) (cl : List (Str × Addr)) (outer : List Env) (A₀ : Around) (base h₀ : Heap) (L : Addr) (m : Str → Option Value) (news : List (Addr × Obj)) (s : Shared)
    (Q E : Value → Shared → Prop) (n : Int) (tk : Tok),
    Below A₀ base outer h₀ → Fr h₀ L s.heap m → (hd.heap_39 w.params).In h₀ → News h₀ L s.heap news → Top hd.view_39 (looseW hd.view_39 [Str.ofString "_twin_re_1", Str.ofString "_twin_re_2"]) mean mg mb h₀ → cs.kind = .function →
    n.natAbs < 16 ^ 6 → dp + 1 < recursionLimit → un + 8 < cLine →
    (∀ (t : Tok) (h' : Heap) (tk' : Nat), Fr h₀ L h' m → News h₀ L h' news → Q (.bytes (apF 6 n.natAbs).toArray t) { s with heap := h', toks := tk' }) →
    wpAny (model PySem.Challenge.rw_rw0023_01.row.prog w) (ktrTop dp un gd cn cs L a ccd cl outer) (call (.ref 62) [.int n tk]) Q E s

local macro_rules | `(tactic| k_mem) => `(tactic| assumption)
local macro_rules | `(tactic| k_all) => `(tactic| exact all_ne_of_lt (by assumption))
theorem apTells (w : World) (mean : ExcName → Option Value) (mg mb : Str → Option Value) : ApTells w mean mg mb := by
  unfold ApTells
  k_with_none
  k_fill
  intro dp un gd cn cs a ccd cl outer A₀ base h₀ L m news s Q E n tk B F X N T hk hn hd hu hret
  refine wpAny_call ?_
  k_dflt cell_enter
  k_with "state" => first | exact apInv_start hn | exact (apInv_step' (by assumption) (by assumption)).1
  k_with "measure" => exact (apInv_step' (by assumption) (by assumption)).2
  k_with "exec While" => k_while (fun _ num val => ApInv n.natAbs num val) (fun _ num val => num.toNat) "num" "val"
  k_with "subscriptTail" => (with_reducible rename Fr _ _ _ _ => F'; with_reducible rename News _ _ _ _ => N'; k_dflt (refine ap_slice (s := ⟨_, _, _, _, _⟩) F' N' (fmod16_lo _) (fmod16_hi _) ?_); intro h9 t9 k9 F9 N9)
  k_with "binaryOp Add bytes bytes" => (refine KBy.add_bytes (by have hz := apInv_size (by assumption); simp; omega) ?_; intro t8 k8)
  k_steps
  all_goals (refine (apInv_stop (by assumption) (by assumption) ▸ hret) _ _ _ (by assumption) (by assumption))
end Mine
end
-- part Sub1
section
open PySem PySem.W PyProof.Rows
open PySem.Builtin PySem.Builtin.Re
namespace Mine

theorem slot_sub : Slot "re.Pattern" "sub" "re.Pattern.sub" :=
  .of (owner := "re.Pattern") (n := "sub") (by rw [typeLookup_type, builtinLookup_eq_fast]; kernel_rfl) (by decide +kernel) (by decide +kernel) (by decide +kernel)
    (by first | exact .inl (by decide +kernel) | exact .inr (by decide +kernel)) (by rw [isSubtype_type]; kernel_rfl)
theorem type_sub : typeOf (.builtin "re.Pattern.sub") = pure (.type "method_descriptor") := by show builtinType _ = _; rw [builtinType_eq_fast]; kernel_rfl
theorem plainAttrs_pat : PlainAttrs "re.Pattern" :=
  ⟨⟨"object.__getattribute__", by rw [typeLookup_type, builtinLookup_eq_fast]; kernel_rfl, by decide +kernel⟩, by rw [typeLookup_type, builtinLookup_eq_fast]; kernel_rfl⟩
theorem entry_sub : entryFor table "re.Pattern.sub" = some Builtin.«re.Pattern.sub» := entryFor_of_tree (by kernel_rfl)
theorem entry_sub_loop : entryFor table "re.Pattern.sub.loop" = some Builtin.«re.Pattern.sub.loop» := entryFor_of_tree (by kernel_rfl)
theorem plain_sub_loop : plainId "re.Pattern.sub.loop" = true := by decide +kernel
theorem args_sub_3 (a b c : Value) : argsOk "re.Pattern.sub" ⟨[a, b, c], []⟩ := by
  unfold argsOk
  rw [signature?_of (id := "re.Pattern.sub") (n := ['b', 'u', 's']) (o := ['n', 'r', 'e', 't', 't', 'a', 'P', '.', 'e', 'r']) (rows := Manifest.sig_re_Pattern) (by kernel_rfl) (by kernel_rfl)]; kernel_rfl

/-- the machine's turns, each of four steps -/
def turnsFor : Nat → Sre.M → Sre.M
  | 0, m => m
  | k + 1, m => if (m.runFor 4).outcome.isSome then m.runFor 4 else turnsFor k (m.runFor 4)

section
variable {M : Model} {A : Around} {E : Value → Shared → Prop} {s : Shared}
theorem wpAny_reDrive {Q : Sre.M → Shared → Prop} : ∀ (k n : Nat) (m : Sre.M), k < n → (turnsFor k m).outcome.isSome = true → Q (turnsFor k m) s → wpAny M A (reDrive n m) Q E s
  | 0, 0, _, hk, _, _ => absurd hk (Nat.lt_irrefl _)
  | 0, n + 1, m, _, ho, h => by
    change m.outcome.isSome = true at ho
    have e : m.runFor reTurnSteps = m := by
      show m.runFor 4 = m
      unfold Sre.M.runFor
      rw [if_pos ho]
    show wpAny M A (if (m.runFor reTurnSteps).outcome.isSome = true then pure (m.runFor reTurnSteps) else do rule "sre.turn"; reDrive n (m.runFor reTurnSteps)) Q E s
    rw [e, if_pos ho]
    exact wpAny_pure h
  | k + 1, 0, _, hk, _, _ => absurd hk (Nat.not_lt_zero _)
  | k + 1, n + 1, m, hk, ho, h => by
    show wpAny M A (if (m.runFor 4).outcome.isSome = true then pure (m.runFor 4) else do rule "sre.turn"; reDrive n (m.runFor 4)) Q E s
    unfold turnsFor at ho h
    by_cases hc : (m.runFor 4).outcome.isSome = true
    · rw [if_pos hc] at ho h ⊢
      exact wpAny_pure h
    · rw [if_neg hc] at ho h ⊢
      exact wpAny_bind (wpAny_rule (wpAny_reDrive k n _ (by omega) ho h))

theorem wpAny_rules {α : Type} (c : α → Bool) (tag : α → String) {Q : PUnit → Shared → Prop} : ∀ l : List α, Q ⟨⟩ s →
    wpAny M A (forIn l PUnit.unit (fun i _ => if c i = true then (do rule (tag i); pure (ForInStep.yield PUnit.unit)) else pure (ForInStep.yield PUnit.unit)) : Sem PUnit) Q E s
  | [], h => wpAny_pure h
  | a :: l, h => by
    rw [List.forIn_cons]
    refine wpAny_bind ?_
    have key : wpAny M A (if c a = true then (do rule (tag a); pure (ForInStep.yield PUnit.unit)) else pure (ForInStep.yield PUnit.unit) : Sem (ForInStep PUnit)) (fun r s' => r = .yield ⟨⟩ ∧ s' = s) E s := by
      cases c a with
      | true => exact wpAny_bind (wpAny_rule (wpAny_pure ⟨rfl, rfl⟩))
      | false => exact wpAny_pure ⟨rfl, rfl⟩
    refine wpAny_mono key (fun r s' h' => ?_) fun _ _ e => e
    rw [h'.1, h'.2]
    exact wpAny_rules c tag l h

/-- what a search says: nothing known, none, or where it begins and ends -/
def said (m : Sre.M) : Option (Option (Nat × Nat)) := match m.outcome with
  | some .matched => some (some (m.start, m.handed))
  | some .failed => some none
  | _ => none

theorem wpAny_toEnd {Q : Option Sre.M → Shared → Prop} {m : Sre.M} {r : Option (Nat × Nat)} (k : Nat) (hk : k < 2 ^ 64) (hr : said (turnsFor k m) = some r) (h : ∀ o : Option Sre.M, o.map (fun m => (m.start, m.handed)) = r → Q o s) :
    wpAny M A (reRunToEnd m) Q E s := by
  have ho : (turnsFor k m).outcome.isSome = true := by
    unfold said at hr
    cases e : (turnsFor k m).outcome with
    | none => rw [e] at hr; cases hr
    | some o => rfl
  unfold reRunToEnd
  refine wpAny_bind (wpAny_reDrive k _ m hk ho ?_)
  generalize turnsFor k m = m' at hr ho ⊢
  refine wpAny_bind (wpAny_rules (fun i => m'.seen.has i) (fun i => Sre.names.getD i "") (List.range Sre.names.size) ?_)
  unfold said at hr
  cases e : m'.outcome with
  | none => rw [e] at hr; cases hr
  | some o =>
    rw [e] at hr
    cases o with
    | matched => exact wpAny_pure (h (some m') (Option.some.inj hr))
    | failed => exact wpAny_pure (h none (Option.some.inj hr))
    | stuck why => cases hr
end

/-- one search from a place on -/
def look (code text : Array Nat) (start : Nat) (must : Bool) : Option (Option (Nat × Nat)) :=
  said (turnsFor 400 (Sre.forSearch code text 0 start text.size must))

/-- the pieces that sub glues -/
def subLoop (code : Array Nat) (repl : Str) (text : Array Nat) : Nat → Nat → Bool → List Str → Option (List Str)
  | 0, _, _, _ => none
  | f + 1, start, must, acc => match look code text start must with
    | none => none
    | some none => some (if start < text.size then acc ++ [⟨text.extract start text.size⟩] else acc)
    | some (some (b, e)) => subLoop code repl text f e (e == b) ((if start < b then acc ++ [⟨text.extract start b⟩] else acc) ++ [repl])

/-- a compiled pattern for texts, without groups -/
def PatAt (h : Heap) (p : Addr) (code : Array Nat) : Prop :=
  ∃ (o oc : Obj) (fs items : Array Value) (ct : Addr) (n : Nat) (t u : Tok), h.get? p = some o ∧ o.cls = .type "re.Pattern" ∧ o.dict = none ∧ o.data = .fields fs ∧ fs.getD 6 .none = .int 0 t ∧ fs.getD 2 .none = .int 0 u ∧
    fs.getD 5 .none = .ref ct ∧ h.get? ct = some oc ∧ oc.data = .seq items n ∧ (items.map reRawOf).map (·.toNat) = code
theorem PatAt.mono {h h' : Heap} {p : Addr} {code : Array Nat} (H : PatAt h p code) (k : ∀ a o, h.get? a = some o → h'.get? a = some o) : PatAt h' p code := by
  obtain ⟨o, oc, fs, items, ct, n, t, u, h1, h2, h3, h4, h5, h6, h7, h8, h9, h10⟩ := H
  exact ⟨o, oc, fs, items, ct, n, t, u, k _ _ h1, h2, h3, h4, h5, h6, h7, k _ _ h8, h9, h10⟩
theorem PatAt.push {h : Heap} {p : Addr} {code : Array Nat} (H : PatAt h p code) (o : Obj) : PatAt (h.push o) p code := H.mono fun _ _ e => Heap.get?_push_of_some _ e
theorem PatAt.typeIs {s : Shared} {p : Addr} {code : Array Nat} (H : PatAt s.heap p code) : s.TypeIs (.ref p) "re.Pattern" := by
  obtain ⟨o, oc, fs, items, ct, n, t, u, h1, h2, _⟩ := H
  exact ⟨o, h1, h2⟩
theorem PatAt.lt {h : Heap} {p : Addr} {code : Array Nat} (H : PatAt h p code) : p < h.objs.size := by
  obtain ⟨o, oc, fs, items, ct, n, t, u, h1, h2, _⟩ := H
  exact Heap.lt_size h1

section
variable {M : Model} {A : Around} {E : Value → Shared → Prop} {s : Shared}
theorem wpAny_wholeTarget {p : Addr} {code : Array Nat} {x : Str} {t : Tok} {Q : ReTarget → Shared → Prop} (H : PatAt s.heap p code)
    (h : Q { pattern := .ref p, string := .str x t, code, text := x.cps, kind := 0, groups := 0, pos := 0, lim := x.cps.size } s) : wpAny M A (reWholeTarget (.ref p) (.str x t)) Q E s := by
  obtain ⟨o, oc, fs, items, ct, n, t₁, u, h1, h2, h3, h4, h5, h6, h7, h8, h9, h10⟩ := H
  unfold reWholeTarget fieldsOf
  refine wpAny_bind (wpAny_bind (wpAny_load h1 ?_))
  rw [h4]
  refine wpAny_pure ?_
  refine wpAny_bind (wpAny_bind (wpAny_pure (wpAny_pure ?_)))
  dsimp only
  rw [h5, h6, h7]
  show wpAny M A (do
          reNoCollectionInside (.str x t) 0
          let __do_lift ← reRawItems (.ref ct)
          pure { pattern := .ref p, string := .str x t, code := Array.map (fun x => x.toNat) __do_lift, text := x.cps, kind := 0, groups := 0, pos := 0, lim := x.cps.size }) Q E s
  refine wpAny_bind (wpAny_pure ?_)
  refine wpAny_bind ?_
  unfold reRawItems seqItems?
  refine wpAny_bind (wpAny_bind (wpAny_load h8 ?_))
  rw [h9]
  refine wpAny_pure (wpAny_pure ?_)
  refine wpAny_pure ?_
  show Q { pattern := .ref p, string := .str x t, code := (items.map reRawOf).map (fun x => x.toNat), text := x.cps, kind := 0, groups := 0, pos := 0, lim := x.cps.size } s
  rw [h10]
  exact h

theorem wpAny_look {p : Addr} {code : Array Nat} {x : Str} {t : Tok} {start : Nat} {must : Bool} {r : Option (Nat × Nat)} {Q : Option Sre.M → Shared → Prop} (hr : look code x.cps start must = some r)
    (h : ∀ o : Option Sre.M, o.map (fun m => (m.start, m.handed)) = r → Q o s) :
    wpAny M A (reNextFound { pattern := .ref p, string := .str x t, code, text := x.cps, kind := 0, groups := 0, pos := 0, lim := x.cps.size } start must) Q E s :=
  wpAny_toEnd 400 (by decide) hr h

theorem update_push_self (h : Heap) (o : Obj) (f : Obj → Obj) : (h.push o).update h.objs.size f = h.push (f o) := by
  obtain ⟨objs, life⟩ := h
  simp only [Heap.update, Heap.push, Heap.mk.injEq, and_true]
  apply Array.ext_getElem?
  intro i
  simp only [Array.getElem?_modify, Array.getElem?_push]
  by_cases h1 : objs.size = i
  · subst h1; simp
  · by_cases h2 : i = objs.size
    · omega
    · simp [h1, h2]

/-- the list of pieces at the heap's end -/
def piecesObj (l : List (Str × Tok)) (n : Nat) : Obj := { cls := .type "list", data := .seq (strValues l).toArray n }
theorem wpAny_pushPiece {h₀ : Heap} {l : List (Str × Tok)} {n : Nat} {x : Str} {t : Tok} {g : _} {d : _} {tk : Nat} {os : _} {Q : Unit → Shared → Prop} (hl : l.length ≤ 100)
    (h : ∀ n', Q () ⟨h₀.push (piecesObj (l ++ [(x, t)]) n'), g, d, tk, os⟩) :
    wpAny M A (updateSeq h₀.objs.size (fun a => a.push (.str x t))) Q E ⟨h₀.push (piecesObj l n), g, d, tk, os⟩ := by
  unfold updateSeq
  have e1 : (h₀.push (piecesObj l n)).get? h₀.objs.size = some (piecesObj l n) := Heap.get?_push_size _ rfl
  refine wpAny_bind (wpAny_load e1 ?_)
  have e2 : Obj.mapSeq (fun a => a.push (Value.str x t)) (piecesObj l n) = piecesObj (l ++ [(x, t)]) (n + 1) := by
    unfold piecesObj Obj.mapSeq
    simp [strValues]
  refine wpAny_bind (wpAny_update e1 ?_)
  dsimp only
  rw [update_push_self, e2]
  unfold lookBehind
  have e3 : (h₀.push (piecesObj (l ++ [(x, t)]) (n + 1))).get? h₀.objs.size = some (piecesObj (l ++ [(x, t)]) (n + 1)) := Heap.get?_push_size _ rfl
  refine wpAny_bind (wpAny_loadPart e3 ?_)
  have e4 : (piecesObj (l ++ [(x, t)]) (n + 1)).data.pastItsLine = none := by
    unfold piecesObj Data.pastItsLine
    dsimp only
    rw [if_neg]
    have : (100 : Nat) + 1 ≤ sizeLine := by decide
    simp [strValues]
    omega
  rw [e4]
  exact wpAny_pure (h _)
end
end Mine
end
-- part Sub2
section
open PySem PySem.W PyProof.Rows
open PySem.Builtin PySem.Builtin.Re
namespace Mine

theorem seqItems_pieces {M : Model} {A : Around} {E : Value → Shared → Prop} {s : Shared} {h₀ : Heap} {l : List (Str × Tok)} {n : Nat} {Q : Option (Array Value) → Shared → Prop} (hs : s.heap = h₀.push (piecesObj l n))
    (h : Q (some (strValues l).toArray) s) : wpAny M A (seqItems? (.ref h₀.objs.size)) Q E s := by
  unfold seqItems?
  exact wpAny_bind (wpAny_load (o := piecesObj l n) (by rw [hs]; exact Heap.get?_push_size _ rfl) (wpAny_pure h))

section
variable {M : Model} {A : Around} {E : Value → Shared → Prop}
theorem wpAny_reSlice {s : Shared} {x : Str} {b e : Nat} {Q : Value → Shared → Prop} (hx : x.cps.size ≤ sizeLine) (h : Q (.str ⟨x.cps.extract b e⟩ s.toks) { s with toks := s.toks + 1 }) : wpAny M A (reSlice x.cps 0 b e) Q E s := by
  unfold reSlice
  refine wpAny_ite_true rfl ?_
  refine wpAny_mkStr h ?_
  show (x.cps.extract b e).size ≤ _
  rw [Array.size_extract]; omega
end

section
variable {p : Addr} {code : Array Nat} {repl x : Str} {tr tx : Tok} {out : List Str}
theorem loop_meets (hx : x.cps.size ≤ sizeLine) (hne : out ≠ []) (hj : JoinOk ⟨#[]⟩ out = true) : ∀ (f start : Nat) (must : Bool) (l : List (Str × Tok)) (n k : Nat) (h₀ : Heap), subLoop code repl x.cps f start must (l.map (·.1)) = some out →
    l.length + 2 * f ≤ 90 → PatAt h₀ p code →
    Meets («re.Pattern.sub.loop» ⟨[.ref p, .str x tx, .str repl tr, rawInt 0, rawInt 0, rawInt n, rawInt start, rawInt start, .bool must, .ref h₀.objs.size, .bool false], []⟩)
      (fun _ R s => s.heap = h₀.push (piecesObj l k) ∧ ∀ o t' tk, R (.ok (.ret (.str (Txt.join ⟨#[]⟩ out) t'))) { s with heap := h₀.push o, toks := tk }) := by
  intro f
  induction f with
  | zero => intro start must l n k h₀ hs; cases hs
  | succ f ih =>
    intro start must l n k h₀ hs hl hp prog w A R s h
    obtain ⟨hp', g, d, tk, os⟩ := s
    obtain ⟨hh, h⟩ := h
    dsimp only at hh h
    subst hh
    unfold «re.Pattern.sub.loop»
    dsimp only [rawInt]
    refine wpAny_bind (wpAny_wholeTarget (hp.push _) ?_)
    dsimp only
    refine wpAny_ite_true rfl ?_
    refine wpAny_bind (wpAny_bind (wpAny_pure (wpAny_pure ?_)))
    refine wpAny_bind (wpAny_ite_false rfl ?_)
    unfold subLoop at hs
    cases hk : look code x.cps start must with
    | none => rw [hk] at hs; cases hs
    | some r =>
      rw [hk] at hs
      try dsimp only at hs
      refine wpAny_look hk fun o ho => ?_
      cases r with
      | none =>
        cases o with
        | some m => cases ho
        | none =>
          try dsimp only
          try dsimp only at hs
          have tail : ∀ (l' : List (Str × Tok)) (k' tk' : Nat), l'.map (·.1) = out → wpAny (model prog w) A.in1 (do
              let joiner ← reSlice x.cps 0 0 0
              let __do_lift ← seqItems? (.ref h₀.objs.size)
              if (__do_lift.getD #[]).isEmpty = true then do
                  let text ← pure joiner
                  if false = true then do
                    let __do_lift ← holding [text] do
                        let __do_lift ← mkInt n
                        newTuple [text, __do_lift]
                    ret __do_lift
                  else ret text
                else do
                  let text ← call (Value.builtin (if (0 == 0) = true then "str.join" else "bytes.join")) [joiner, .ref h₀.objs.size]
                  if false = true then do
                    let __do_lift ← holding [text] do
                        let __do_lift ← mkInt n
                        newTuple [text, __do_lift]
                    ret __do_lift
                  else ret text)
              (fun fin s' => match fin with | .done f => R (.ok f) s' | .again c' => c'.quiet = true ∧ codeAny (model prog w) A c' R s') (fun e s' => R (.error e) s') ⟨h₀.push (piecesObj l' k'), g, d, tk', os⟩ := by
            intro l' k' tk' hl'
            refine wpAny_bind (wpAny_reSlice hx ?_)
            refine wpAny_bind (seqItems_pieces rfl ?_)
            have hne' : (strValues l').toArray.isEmpty = false := by
              cases l' with
              | nil => exact absurd hl'.symm hne
              | cons q r => rfl
            refine wpAny_ite_false (by simpa using hne') ?_
            have e0 : (⟨x.cps.extract 0 0⟩ : Str) = ⟨#[]⟩ := by simp
            rw [e0]
            refine wpAny_bind ?_
            refine SC.join (D := h₀.objs.size) (l := l') ⟨piecesObj l' k', Heap.get?_push_size _ rfl, rfl, k', rfl⟩ hl' hj fun t' k2 => ?_
            refine wpAny_ite_false rfl ?_
            exact wpAny_pure (h _ _ _)
          by_cases hlt : start < x.cps.size
          · rw [if_pos hlt] at hs
            refine wpAny_ite_true (by simpa using hlt) ?_
            refine wpAny_bind (wpAny_reSlice hx ?_)
            refine wpAny_bind (wpAny_pushPiece (by omega) fun n' => ?_)
            refine tail _ _ _ ?_
            have := Option.some.inj hs
            rw [← this]; simp
          · rw [if_neg hlt] at hs
            refine wpAny_ite_false (by simpa using hlt) ?_
            exact tail _ _ _ (Option.some.inj hs)
      | some be =>
        obtain ⟨b, e⟩ := be
        dsimp only at hs
        cases o with
        | none => cases ho
        | some m =>
          have ho' : (m.start, m.handed) = (b, e) := Option.some.inj ho
          have hb : m.start = b := congrArg Prod.fst ho'
          have he : m.handed = e := congrArg Prod.snd ho'
          dsimp only
          rw [hb, he]
          have tail : ∀ (l' : List (Str × Tok)) (k' tk' : Nat), l'.map (·.1) ++ [repl] = (if start < b then (l.map (·.1)) ++ [⟨x.cps.extract start b⟩] else l.map (·.1)) ++ [repl] → l'.length ≤ l.length + 1 → wpAny (model prog w) A.in1 (
              if (0 == 0) = true then do
                let item ← pure (Value.str repl tr)
                if (item != Value.none) = true then do
                    updateSeq h₀.objs.size fun x => x.push item
                    again
                        (Code.builtin "re.Pattern.sub.loop"
                          {
                            pos :=
                              [Value.ref p, Value.str x tx, Value.str repl tr, Value.int 0 0, Value.int 0 0,
                                Value.int (↑n + 1) 0, Value.int (↑e) 0, Value.int (↑e) 0,
                                Value.bool (e == b), Value.ref h₀.objs.size, Value.bool false] })
                  else
                    again
                      (Code.builtin "re.Pattern.sub.loop"
                        {
                          pos :=
                            [Value.ref p, Value.str x tx, Value.str repl tr, Value.int 0 0, Value.int 0 0,
                              Value.int (↑n + 1) 0, Value.int (↑e) 0, Value.int (↑e) 0,
                              Value.bool (e == b), Value.ref h₀.objs.size, Value.bool false] })
              else do
                let found ← reNewMatch (Value.ref p) (Value.str x tx) 0 0 x.cps.size m
                let item ←
                  holding [found]
                      (if (0 == 1) = true then call (Value.str repl tr) [found]
                      else do
                        let __do_lift ← reFound found
                        reExpand (Value.str repl tr) __do_lift)
                if (item != Value.none) = true then do
                    updateSeq h₀.objs.size fun x => x.push item
                    again
                        (Code.builtin "re.Pattern.sub.loop"
                          {
                            pos :=
                              [Value.ref p, Value.str x tx, Value.str repl tr, Value.int 0 0, Value.int 0 0,
                                Value.int (↑n + 1) 0, Value.int (↑e) 0, Value.int (↑e) 0,
                                Value.bool (e == b), Value.ref h₀.objs.size, Value.bool false] })
                  else
                    again
                      (Code.builtin "re.Pattern.sub.loop"
                        {
                          pos :=
                            [Value.ref p, Value.str x tx, Value.str repl tr, Value.int 0 0, Value.int 0 0,
                              Value.int (↑n + 1) 0, Value.int (↑e) 0, Value.int (↑e) 0,
                              Value.bool (e == b), Value.ref h₀.objs.size, Value.bool false] }))
              (fun fin s' => match fin with | .done f => R (.ok f) s' | .again c' => c'.quiet = true ∧ codeAny (model prog w) A c' R s') (fun e s' => R (.error e) s') ⟨h₀.push (piecesObj l' k'), g, d, tk', os⟩ := by
            intro l' k' tk' hl' hlen
            refine wpAny_ite_true rfl ?_
            refine wpAny_bind (wpAny_pure ?_)
            refine wpAny_ite_true rfl ?_
            refine wpAny_bind (wpAny_pushPiece (by omega) fun n' => ?_)
            refine wpAny_pure ⟨plainId_quiet plain_sub_loop _, codeAny_builtin entry_sub_loop ?_⟩
            rw [Around.under_plainId plain_sub_loop _]
            refine ih e (e == b) (l' ++ [(repl, tr)]) (n + 1) n' h₀ ?_ (by simp; omega) hp prog w A R _ ⟨rfl, h⟩
            rw [List.map_append]
            show subLoop code repl x.cps f e (e == b) (l'.map (·.1) ++ [repl]) = _
            rw [hl']
            exact hs
          by_cases hlt : start < b
          · rw [if_pos hlt] at tail
            refine wpAny_ite_true (by simpa using hlt) ?_
            refine wpAny_bind (wpAny_reSlice hx ?_)
            refine wpAny_bind (wpAny_pushPiece (by omega) fun n' => ?_)
            exact tail _ _ _ (by simp) (by simp)
          · rw [if_neg hlt] at tail
            refine wpAny_ite_false (by simpa using hlt) ?_
            exact tail _ _ _ rfl (by omega)
end

theorem named_eq (id f : String) (a b : Value) : reNamed id f ["repl", "string", "count"] 2 [a, b] [] = pure [some a, some b, none] := by rfl
theorem noCall_str : typeLookup (.type "str") (Str.ofString "__call__") = pure none := by rw [typeLookup_type, builtinLookup_eq_fast]; kernel_rfl

/-- what sub gives back -/
def subF (code : Array Nat) (repl x : Str) : Option Str := match subLoop code repl x.cps 8 0 false [] with
  | some out => if out.isEmpty = false ∧ JoinOk ⟨#[]⟩ out = true ∧ x.cps.size ≤ 10000 ∧ repl.cps.contains 92 = false then some (Txt.join ⟨#[]⟩ out) else none
  | none => none

theorem sub_meets {p : Addr} {code : Array Nat} {repl x y : Str} {tr tx : Tok} (hs : subF code repl x = some y) :
    Meets («re.Pattern.sub» ⟨[.ref p, .str repl tr, .str x tx], []⟩) (fun _ R s => PatAt s.heap p code ∧ ∀ o t' tk, R (.ok (.ret (.str y t'))) { s with heap := s.heap.push o, toks := tk }) := by
  unfold subF at hs
  cases hk : subLoop code repl x.cps 8 0 false [] with
  | none => rw [hk] at hs; cases hs
  | some out =>
    rw [hk] at hs
    dsimp only at hs
    by_cases hc : out.isEmpty = false ∧ JoinOk ⟨#[]⟩ out = true ∧ x.cps.size ≤ 10000 ∧ repl.cps.contains 92 = false
    · rw [if_pos hc] at hs
      have hy := Option.some.inj hs
      subst hy
      obtain ⟨h1, h2, h3, h4⟩ := hc
      intro prog w A R s h
      obtain ⟨hp', g, d, tk, os⟩ := s
      obtain ⟨hp, h⟩ := h
      dsimp only at hp h
      unfold «re.Pattern.sub» reSubstitute
      dsimp only
      rw [named_eq]
      refine wpAny_bind (wpAny_pure ?_)
      dsimp only
      refine wpAny_bind (wpAny_pure ?_)
      refine wpAny_bind (wpAny_specialOf (typeIs_str _ _ _) noCall_str ?_)
      refine wpAny_ite_false rfl ?_
      refine wpAny_bind (wpAny_pure ?_)
      dsimp only
      refine wpAny_bind (wpAny_pure ?_)
      rw [h4]
      refine wpAny_ite_false rfl ?_
      refine wpAny_ite_true rfl ?_
      refine wpAny_bind (wpAny_pure ?_)
      dsimp only
      refine wpAny_bind (wpAny_holding (wpAny_wholeTarget hp ?_))
      refine wpAny_ite_false rfl ?_
      refine wpAny_bind ?_
      refine wpAny_newList ?_
      refine wpAny_pure ⟨plainId_quiet plain_sub_loop _, codeAny_builtin entry_sub_loop ?_⟩
      rw [Around.under_plainId plain_sub_loop _]
      have hx : x.cps.size ≤ sizeLine := Nat.le_trans h3 (by decide)
      have hne : out ≠ [] := by intro e; subst e; cases h1
      exact loop_meets hx hne h2 8 0 false [] 0 0 hp' hk (by decide) hp prog w A R _ ⟨rfl, fun o t' tk => h o t' tk⟩
    · rw [if_neg hc] at hs; cases hs

section
variable {prog : Program} {w : World} {A : Around} {E : Value → Shared → Prop} {s : Shared} {Q : Value → Shared → Prop} {p : Addr} {code : Array Nat} {repl x y : Str} {tr tx : Tok} {h₀ : Heap} {L : Addr} {m : Str → Option Value} {news : List (Addr × Obj)}
theorem call_sub (hs : subF code repl x = some y) (hp : PatAt s.heap p code) (h : ∀ o t' tk, Q (.str y t') { s with heap := s.heap.push o, toks := tk }) :
    wpAny (model prog w) A (call (.builtin "re.Pattern.sub") [.ref p, .str repl tr, .str x tx]) Q E s :=
  call_meets slot_sub hp.typeIs entry_sub (args_sub_3 _ _ _) (sub_meets hs) ⟨hp, fun o t' tk => h o t' tk⟩
theorem getMethod_sub {pl : Sem Bool} {Q : Value × List Value → Shared → Prop} (hp : PatAt s.heap p code) (h : Q (.builtin "re.Pattern.sub", [.ref p]) s) : wpAny (model prog w) A (getMethod (.ref p) (Str.ofString "sub") pl) Q E s :=
  getMethod_builtin hp.typeIs plainAttrs_pat slot_sub type_sub (fun a e => by cases e; obtain ⟨o, oc, fs, items, ct, n, t, u, h1, h2, h3, _⟩ := hp; exact ⟨o, h1, h3⟩) h
theorem call_subK (F : Fr h₀ L s.heap m) (N : News h₀ L s.heap news) (hp : PatAt h₀ p code) (hs : subF code repl x = some y) (h : ∀ h' t' tk, Fr h₀ L h' m → News h₀ L h' news → Q (.str y t') { s with heap := h', toks := tk }) :
    wpAny (model prog w) A (call (.builtin "re.Pattern.sub") [.ref p, .str repl tr, .str x tx]) Q E s :=
  call_sub hs (hp.mono F.keep) fun o t' tk => h _ t' tk (F.push _) (fun q hq => ⟨Heap.get?_push_of_some _ (N q hq).1, (N q hq).2⟩)
theorem getMethod_subK {pl : Sem Bool} {Q : Value × List Value → Shared → Prop} (F : Fr h₀ L s.heap m) (hp : PatAt h₀ p code) (h : Q (.builtin "re.Pattern.sub", [.ref p]) s) : wpAny (model prog w) A (getMethod (.ref p) (Str.ofString "sub") pl) Q E s :=
  getMethod_sub (hp.mono F.keep) h
end

def code1 : Array Nat := #[14, 4, 0, 1, 1, 6, 1, 16, 46, 1]
def code2 : Array Nat := #[14, 9, 4, 1, 2, 16, 10, 16, 13, 0, 7, 7, 16, 13, 16, 10, 15, 18, 5, 16, 10, 15, 13, 11, 16, 13, 5, 5, 0, 16, 10, 1, 15, 2, 0, 1]
def crlf : Str := ⟨#[13, 10]⟩
def ddot : Str := ⟨#[46, 46]⟩
/-- a row: dots, then an x -/
def row (a : Nat) : List Nat := List.replicate a 46 ++ [120]
def mail (a b : Nat) : Str := ⟨(row a ++ [13, 10] ++ row b ++ [13, 10]).toArray⟩
def upN (a : Nat) : Nat := if a = 0 then 0 else a + 1
set_option maxHeartbeats 0 in
def subOk (a b : Nat) : Bool := (subF code2 crlf (mail a b) == some (mail a b)) && (subF code1 ddot (mail a b) == some (mail (upN a) (upN b)))
theorem sub_tab0 : (List.range 7).all (subOk 0) = true := by decide +kernel
theorem sub_tab1 : (List.range 7).all (subOk 1) = true := by decide +kernel
theorem sub_tab2 : (List.range 7).all (subOk 2) = true := by decide +kernel
theorem sub_tab3 : (List.range 7).all (subOk 3) = true := by decide +kernel
theorem sub_tab4 : (List.range 7).all (subOk 4) = true := by decide +kernel
theorem sub_tab5 : (List.range 7).all (subOk 5) = true := by decide +kernel
theorem sub_tab6 : (List.range 7).all (subOk 6) = true := by decide +kernel
theorem sub_table : (List.range 7).all (fun a => (List.range 7).all (fun b => (subF code2 crlf (mail a b) == some (mail a b)) && (subF code1 ddot (mail a b) == some (mail (upN a) (upN b))))) = true := by
  rw [List.all_eq_true]
  intro a ha
  have ha := List.mem_range.mp ha
  have h : a = 0 ∨ a = 1 ∨ a = 2 ∨ a = 3 ∨ a = 4 ∨ a = 5 ∨ a = 6 := by omega
  rcases h with rfl | rfl | rfl | rfl | rfl | rfl | rfl
  · exact sub_tab0
  · exact sub_tab1
  · exact sub_tab2
  · exact sub_tab3
  · exact sub_tab4
  · exact sub_tab5
  · exact sub_tab6
end Mine
end
-- part Quo
section
open PySem PySem.W PyProof.Rows
set_option maxHeartbeats 0
namespace Mine
theorem sub_table_at {a b : Nat} (ha : a < 7) (hb : b < 7) : subF code2 crlf (mail a b) = some (mail a b) ∧ subF code1 ddot (mail a b) = some (mail (upN a) (upN b)) := by
  have h := List.all_eq_true.mp sub_table a (List.mem_range.mpr ha)
  have h := List.all_eq_true.mp h b (List.mem_range.mpr hb)
  rw [Bool.and_eq_true] at h
  exact ⟨eq_of_beq h.1, eq_of_beq h.2⟩
/-- the ends of rows -/
def endF (k : Nat) : List Nat := if k = 0 then [10] else if k = 1 then [13] else [13, 10]
def rough (i j c : Nat) : Str := ⟨([46, 120] ++ endF i ++ List.replicate c 46 ++ [120] ++ endF j).toArray⟩
def fixOk (i j c : Nat) : Bool := subF code2 crlf (rough i j c) == some (mail 1 c)
theorem fix_tab00 : (List.range 7).all (fixOk 0 0) = true := by decide +kernel
theorem fix_tab01 : (List.range 7).all (fixOk 0 1) = true := by decide +kernel
theorem fix_tab02 : (List.range 7).all (fixOk 0 2) = true := by decide +kernel
theorem fix_tab10 : (List.range 7).all (fixOk 1 0) = true := by decide +kernel
theorem fix_tab11 : (List.range 7).all (fixOk 1 1) = true := by decide +kernel
theorem fix_tab12 : (List.range 7).all (fixOk 1 2) = true := by decide +kernel
theorem fix_tab20 : (List.range 7).all (fixOk 2 0) = true := by decide +kernel
theorem fix_tab21 : (List.range 7).all (fixOk 2 1) = true := by decide +kernel
theorem fix_tab22 : (List.range 7).all (fixOk 2 2) = true := by decide +kernel
theorem fix_table : (List.range 3).all (fun i => (List.range 3).all fun j => (List.range 7).all fun c => (subF code2 crlf (rough i j c) == some (mail 1 c))) = true := by
  rw [List.all_eq_true]
  intro i hi
  rw [List.all_eq_true]
  intro j hj
  have hi := List.mem_range.mp hi
  have hj := List.mem_range.mp hj
  have h : i = 0 ∨ i = 1 ∨ i = 2 := by omega
  have h' : j = 0 ∨ j = 1 ∨ j = 2 := by omega
  rcases h with rfl | rfl | rfl
  · rcases h' with rfl | rfl | rfl
    · exact fix_tab00
    · exact fix_tab01
    · exact fix_tab02
  · rcases h' with rfl | rfl | rfl
    · exact fix_tab10
    · exact fix_tab11
    · exact fix_tab12
  · rcases h' with rfl | rfl | rfl
    · exact fix_tab20
    · exact fix_tab21
    · exact fix_tab22
theorem pat36 {w : World} {h₀ : Heap} (X : (hd.heap_39 w.params).In h₀) : PatAt h₀ 36 code1 := by
  have h1 := X 36 ⟨.type "re.Pattern", none, .fields #[.str (Str.ofString "(?m)^\\.") 285, .int 40 298, .int 0 0, .none, .none, .ref 35, .int 0 0], #[]⟩ (by kernel_rfl)
  have h2 := X 35 ⟨.type "tuple", none, .seq (#[14, 4, 0, 1, 1, 6, 1, 16, 46, 1].map fun n => .int n 0) 0, #[]⟩ (by kernel_rfl)
  exact ⟨_, _, _, _, 35, _, _, _, h1, rfl, rfl, rfl, rfl, rfl, rfl, h2, rfl, by decide +kernel⟩
theorem pat41 {w : World} {h₀ : Heap} (X : (hd.heap_39 w.params).In h₀) : PatAt h₀ 41 code2 := by
  have h1 := X 41 ⟨.type "re.Pattern", none, .fields #[.str (Str.ofString "(?:\\r\\n|\\n|\\r(?!\\n))") 301, .int 32 340, .int 0 0, .none, .none, .ref 40, .int 0 0], #[]⟩ (by kernel_rfl)
  have h2 := X 40 ⟨.type "tuple", none, .seq (#[14, 9, 4, 1, 2, 16, 10, 16, 13, 0, 7, 7, 16, 13, 16, 10, 15, 18, 5, 16, 10, 15, 13, 11, 16, 13, 5, 5, 0, 16, 10, 1, 15, 2, 0, 1].map fun n => .int n 0) 0, #[]⟩ (by kernel_rfl)
  exact ⟨_, _, _, _, 40, _, _, _, h1, rfl, rfl, rfl, rfl, rfl, rfl, h2, rfl, by decide +kernel⟩
/-- as subF says, under a word of its own -/
structure SubGives (code : Array Nat) (repl x y : Str) : Prop where
  eq : subF code repl x = some y
section
variable {prog : Program} {w : World} {A : Around} {E : Value → Shared → Prop} {s : Shared} {Q : Value → Shared → Prop} {repl x y : Str} {tr tx : Tok} {h₀ : Heap} {L : Addr} {m : Str → Option Value} {news : List (Addr × Obj)}
theorem call_sub36 (F : Fr h₀ L s.heap m) (N : News h₀ L s.heap news) (X : (hd.heap_39 w.params).In h₀) (hs : SubGives code1 repl x y) (h : ∀ h' t' tk, Fr h₀ L h' m → News h₀ L h' news → Q (.str y t') { s with heap := h', toks := tk }) :
    wpAny (model prog w) A (call (.builtin "re.Pattern.sub") [.ref 36, .str repl tr, .str x tx]) Q E s := call_subK F N (pat36 X) hs.eq h
theorem call_sub41 (F : Fr h₀ L s.heap m) (N : News h₀ L s.heap news) (X : (hd.heap_39 w.params).In h₀) (hs : SubGives code2 repl x y) (h : ∀ h' t' tk, Fr h₀ L h' m → News h₀ L h' news → Q (.str y t') { s with heap := h', toks := tk }) :
    wpAny (model prog w) A (call (.builtin "re.Pattern.sub") [.ref 41, .str repl tr, .str x tx]) Q E s := call_subK F N (pat41 X) hs.eq h
theorem meth_sub36 {pl : Sem Bool} {Q : Value × List Value → Shared → Prop} (F : Fr h₀ L s.heap m) (X : (hd.heap_39 w.params).In h₀) (h : Q (.builtin "re.Pattern.sub", [.ref 36]) s) : wpAny (model prog w) A (getMethod (.ref 36) (Str.ofString "sub") pl) Q E s := getMethod_subK F (pat36 X) h
theorem meth_sub41 {pl : Sem Bool} {Q : Value × List Value → Shared → Prop} (F : Fr h₀ L s.heap m) (X : (hd.heap_39 w.params).In h₀) (h : Q (.builtin "re.Pattern.sub", [.ref 41]) s) : wpAny (model prog w) A (getMethod (.ref 41) (Str.ofString "sub") pl) Q E s := getMethod_subK F (pat41 X) h
end
/-- what a text function gives back for one text -/
def TextTells (w : World) (mean : ExcName → Option Value) (mg mb : Str → Option Value) (f : Addr) (x y : Str) : Prop :=
  ∀ (dp un : Nat) (gd : Option (List Code)) (cn : Str) (cs : Scope) (a : Addr) (ccd : Value) (cl : List (Str × Addr)) (outer : List Env) (A₀ : Around) (base h₀ : Heap) (L : Addr) (m : Str → Option Value) (news : List (Addr × Obj)) (s : Shared)
    (Q E : Value → Shared → Prop) (tk : Tok),
    Below A₀ base outer h₀ → Fr h₀ L s.heap m → (hd.heap_39 w.params).In h₀ → News h₀ L s.heap news → Top hd.view_39 (looseW hd.view_39 [Str.ofString "_twin_re_1", Str.ofString "_twin_re_2"]) mean mg mb h₀ → cs.kind = .function →
    dp + 1 < recursionLimit → un + 8 < cLine →
    (∀ (t : Tok) (h' : Heap) (tk' : Nat), Fr h₀ L h' m → News h₀ L h' news → Q (.str y t) { s with heap := h', toks := tk' }) →
    wpAny (model PySem.Challenge.rw_rw0023_01.row.prog w) (ktrTop dp un gd cn cs L a ccd cl outer) (call (.ref f) [.str x tk]) Q E s
set_option maxHeartbeats 4000000 in
theorem quoTells (w : World) (mean : ExcName → Option Value) (mg mb : Str → Option Value) {x y z : Str} (h1 : SubGives code2 (Str.ofString "\r\n") x y) (h2 : SubGives code1 (Str.ofString "..") y z) : TextTells w mean mg mb 48 x z := by
  unfold TextTells
  k_with_none
  k_fill
  intro dp un gd cn cs a ccd cl outer A₀ base h₀ L m news s Q E tk B F X N T hk hd hu hret
  refine wpAny_call ?_
  k_dflt cell_enter
  k_with "getMethod ref" => first | refine meth_sub36 (by k_asm) (by k_asm) ?_ | refine meth_sub41 (by k_asm) (by k_asm) ?_
  k_with "call builtin:re.Pattern.sub" => first | (refine call_sub36 (by k_asm) (by k_asm) (by k_asm) h2 ?_; intro h' t' tk' F' N') | (refine call_sub41 (by k_asm) (by k_asm) (by k_asm) h1 ?_; intro h' t' tk' F' N')
  k_steps
  all_goals exact hret _ _ _ (by assumption) (by assumption)
set_option maxHeartbeats 4000000 in
theorem fixTells (w : World) (mean : ExcName → Option Value) (mg mb : Str → Option Value) {x y : Str} (h1 : SubGives code2 (Str.ofString "\r\n") x y) : TextTells w mean mg mb 55 x y := by
  unfold TextTells
  k_with_none
  k_fill
  intro dp un gd cn cs a ccd cl outer A₀ base h₀ L m news s Q E tk B F X N T hk hd hu hret
  refine wpAny_call ?_
  k_dflt cell_enter
  k_with "getMethod ref" => refine meth_sub41 (by k_asm) (by k_asm) ?_
  k_with "call builtin:re.Pattern.sub" => (refine call_sub41 (by k_asm) (by k_asm) (by k_asm) h1 ?_; intro h' t' tk' F' N')
  k_steps
  all_goals exact hret _ _ _ (by assumption) (by assumption)
theorem crlf_eq : crlf = Str.ofString "\r\n" := by decide +kernel
theorem ddot_eq : ddot = Str.ofString ".." := by decide +kernel
/-- quotedata of a mail -/
theorem quoMail (w : World) (mean : ExcName → Option Value) (mg mb : Str → Option Value) {a b : Nat} (ha : a < 7) (hb : b < 7) : TextTells w mean mg mb 48 (mail a b) (mail (upN a) (upN b)) :=
  quoTells w mean mg mb ⟨crlf_eq ▸ (sub_table_at ha hb).1⟩ ⟨ddot_eq ▸ (sub_table_at ha hb).2⟩
/-- _fix_eols of a mail as it is built -/
theorem fixMail (w : World) (mean : ExcName → Option Value) (mg mb : Str → Option Value) {i j c : Nat} (hi : i < 3) (hj : j < 3) (hc : c < 7) : TextTells w mean mg mb 55 (rough i j c) (mail 1 c) := by
  have h := List.all_eq_true.mp fix_table i (List.mem_range.mpr hi)
  have h := List.all_eq_true.mp h j (List.mem_range.mpr hj)
  have h := List.all_eq_true.mp h c (List.mem_range.mpr hc)
  exact fixTells w mean mg mb ⟨crlf_eq ▸ eq_of_beq h⟩
end Mine
end
-- part Seg
section
open PySem PySem.W PyProof.Rows
namespace Mine
/-- a text: dots, then crosses -/
def seg (n k : Nat) : Str := ⟨(List.replicate n 46 ++ List.replicate k 120).toArray⟩
theorem seg_table : (List.range 9).all (fun n => (List.range (n + 1)).all (fun i => Txt.slice (seg n 1) (some (i : Int)) none == seg (n - i) 1 && Txt.item (seg n 1) (i : Int) == (if i < n then seg 1 0 else seg 0 1)) &&
    (Txt.slice (seg n 1) none none == seg n 1) && (Txt.slice (seg n 1) none (some (-1)) == seg n 0) && (Txt.item (seg n 1) (-1) == seg 0 1)) = true := by decide +kernel
theorem seg_len (n k : Nat) : (seg n k).length = n + k := by unfold seg Str.length; simp
theorem seg_at {n : Nat} (hn : n < 9) : (∀ i : Nat, i ≤ n → Txt.slice (seg n 1) (some (i : Int)) none = seg (n - i) 1 ∧ Txt.item (seg n 1) (i : Int) = (if i < n then seg 1 0 else seg 0 1)) ∧
    Txt.slice (seg n 1) none none = seg n 1 ∧ Txt.slice (seg n 1) none (some (-1)) = seg n 0 ∧ Txt.item (seg n 1) (-1) = seg 0 1 := by
  have h := List.all_eq_true.mp seg_table n (List.mem_range.mpr hn)
  simp only [Bool.and_eq_true] at h
  obtain ⟨⟨⟨h1, h2⟩, h3⟩, h4⟩ := h
  refine ⟨fun i hi => ?_, eq_of_beq h2, eq_of_beq h3, eq_of_beq h4⟩
  have h := List.all_eq_true.mp h1 i (List.mem_range.mpr (by omega))
  rw [Bool.and_eq_true] at h
  exact ⟨eq_of_beq h.1, eq_of_beq h.2⟩
theorem seg_inj {n m k l : Nat} (h : seg n k = seg m l) (hk : k = l) : n = m := by
  have := congrArg Str.length h
  rw [seg_len, seg_len] at this
  omega
section
variable {prog : Program} {w : World} {A : Around} {E : Value → Shared → Prop} {s : Shared} {h₀ : Heap} {L : Addr} {m : Str → Option Value} {news : List (Addr × Obj)} {value slice : PySem.Expr} {t u : Tok} {n k : Nat} {i : Int} {Q : Value → Shared → Prop} {Q' : Bool → Shared → Prop}
theorem seg_fits {n k : Nat} (hn : n < 9) (hk : k < 9) : (seg n k).length ≤ sizeLine := by
  rw [seg_len]
  have : (100 : Nat) ≤ sizeLine := by decide
  omega
theorem seg_from (F : Fr h₀ L s.heap m) (N : News h₀ L s.heap news) (hn : n < 9) (h0 : 0 ≤ i) (h1 : i ≤ n) (h : ∀ h' t' k, Fr h₀ L h' m → News h₀ L h' news → Q (.str (seg (n - i.toNat) 1) t') { s with heap := h', toks := k })
    (hs : subscripted slice false (.str (seg n 1) t) (.ref s.heap.objs.size) = operate [.ref s.heap.objs.size, .str (seg n 1) t] (getItem (.str (seg n 1) t) (.ref s.heap.objs.size)) := by with_unfolding_all rfl)
    (ht : ∀ r, letTemporaryGo value (.str (seg n 1) t) r = pure () := by intro _; with_unfolding_all rfl) :
    wpAny (model prog w) A (subscriptTail value slice (.str (seg n 1) t) (.ref s.heap.objs.size)) Q E { s with heap := s.heap.push { cls := .type "slice", data := .fields #[.int i u, .none, .none] } } := by
  refine slice_strN_sn F N (fun h' t' k F' N' => ?_) hs ht (seg_fits hn (by decide))
  obtain ⟨j, rfl⟩ := Int.eq_ofNat_of_zero_le h0
  have e := ((seg_at hn).1 j (by omega)).1
  show Q (.str (Txt.slice (seg n 1) (some (j : Int)) none) t') _
  rw [e]
  exact h h' t' k F' N'
theorem seg_all (F : Fr h₀ L s.heap m) (N : News h₀ L s.heap news) (hn : n < 9) (h : ∀ h' t' k, Fr h₀ L h' m → News h₀ L h' news → Q (.str (seg n 1) t') { s with heap := h', toks := k })
    (hs : subscripted slice false (.str (seg n 1) t) (.ref s.heap.objs.size) = operate [.ref s.heap.objs.size, .str (seg n 1) t] (getItem (.str (seg n 1) t) (.ref s.heap.objs.size)) := by with_unfolding_all rfl)
    (ht : ∀ r, letTemporaryGo value (.str (seg n 1) t) r = pure () := by intro _; with_unfolding_all rfl) :
    wpAny (model prog w) A (subscriptTail value slice (.str (seg n 1) t) (.ref s.heap.objs.size)) Q E { s with heap := s.heap.push { cls := .type "slice", data := .fields #[.none, .none, .none] } } := by
  refine slice_strN_nn F N (fun h' t' k F' N' => ?_) hs ht (seg_fits hn (by decide))
  rw [(seg_at hn).2.1]
  exact h h' t' k F' N'
theorem seg_butLast (F : Fr h₀ L s.heap m) (N : News h₀ L s.heap news) (hn : n < 9) (hi : i = -1) (h : ∀ h' t' k, Fr h₀ L h' m → News h₀ L h' news → Q (.str (seg n 0) t') { s with heap := h', toks := k })
    (hs : subscripted slice false (.str (seg n 1) t) (.ref s.heap.objs.size) = operate [.ref s.heap.objs.size, .str (seg n 1) t] (getItem (.str (seg n 1) t) (.ref s.heap.objs.size)) := by with_unfolding_all rfl)
    (ht : ∀ r, letTemporaryGo value (.str (seg n 1) t) r = pure () := by intro _; with_unfolding_all rfl) :
    wpAny (model prog w) A (subscriptTail value slice (.str (seg n 1) t) (.ref s.heap.objs.size)) Q E { s with heap := s.heap.push { cls := .type "slice", data := .fields #[.none, .int i u, .none] } } := by
  subst hi
  refine slice_strN_ns F N (fun h' t' k F' N' => ?_) hs ht (seg_fits hn (by decide))
  rw [(seg_at hn).2.2.1]
  exact h h' t' k F' N'
theorem seg_item (hn : n < 9) (h0 : 0 ≤ i) (h1 : i ≤ n) (h : Q (.str (if i < n then seg 1 0 else seg 0 1) s.toks) { s with toks := s.toks + 1 })
    (hs : subscripted slice false (.str (seg n 1) t) (.int i u) = operate [.str (seg n 1) t, .int i u] (getItem (.str (seg n 1) t) (.int i u)) := by with_unfolding_all rfl)
    (ht : ∀ r, letTemporaryGo value (.str (seg n 1) t) r = pure () := by intro _; with_unfolding_all rfl) :
    wpAny (model prog w) A (subscriptTail value slice (.str (seg n 1) t) (.int i u)) Q E s := by
  refine item_str (by unfold fitsSsize; simp; omega) (by rw [seg_len]; omega) (by rw [seg_len]; omega) (fun _ => ?_) hs ht
  obtain ⟨j, rfl⟩ := Int.eq_ofNat_of_zero_le h0
  have e := ((seg_at hn).1 j (by omega)).2
  show Q (.str (Txt.item (seg n 1) (j : Int)) _) _
  rw [e]
  have : ((j : Int) < (n : Int)) = (j < n) := by simp
  simp only [Int.ofNat_eq_natCast, this] at h
  exact h
theorem seg_last (hn : n < 9) (hi : i = -1) (h : Q (.str (seg 0 1) s.toks) { s with toks := s.toks + 1 })
    (hs : subscripted slice false (.str (seg n 1) t) (.int i u) = operate [.str (seg n 1) t, .int i u] (getItem (.str (seg n 1) t) (.int i u)) := by with_unfolding_all rfl)
    (ht : ∀ r, letTemporaryGo value (.str (seg n 1) t) r = pure () := by intro _; with_unfolding_all rfl) :
    wpAny (model prog w) A (subscriptTail value slice (.str (seg n 1) t) (.int i u)) Q E s := by
  subst hi
  refine item_str (by decide) (by rw [seg_len]; omega) (by rw [seg_len]; omega) (fun _ => ?_) hs ht
  rw [(seg_at hn).2.2.2]
  exact h
theorem seg_truthy (hn : n < 9) (hk : k < 9) (c : Bool) (hc : (n + k ≠ 0) ↔ c = true) (h : ∀ k', Q' c { s with toks := k' }) : wpAny (model prog w) A (PySem.truthy (.str (seg n k) t)) Q' E s := by
  refine KXt.truthy (b := c) ?_ (seg_fits hn hk) h
  rw [seg_len]
  cases c with
  | true =>
    have := hc.mpr rfl
    exact bne_iff_ne.mpr (by omega)
  | false =>
    have h0 : n + k = 0 := Nat.eq_zero_of_not_pos fun e => by cases hc.mp (by omega)
    rw [h0]
    rfl
theorem seg_truthy_no (hn : n = 0) (h : ∀ k', Q' false { s with toks := k' }) : wpAny (model prog w) A (PySem.truthy (.str (seg n 0) t)) Q' E s := seg_truthy (by omega) (by decide) false (by simp [hn]) h
theorem seg_truthy_yes (hn : n < 9) (h0 : n ≠ 0) (h : ∀ k', Q' true { s with toks := k' }) : wpAny (model prog w) A (PySem.truthy (.str (seg n 0) t)) Q' E s := seg_truthy hn (by decide) true (by simp [h0]) h
theorem seg_truthy_one (hn : n < 9) (h : ∀ k', Q' true { s with toks := k' }) : wpAny (model prog w) A (PySem.truthy (.str (seg n 1) t)) Q' E s := seg_truthy hn (by decide) true (by simp) h
theorem seg_len_call (hn : n < 9) (hk : k < 9) (h : ∀ t k', Q (.int ((n + k : Nat) : Int) t) { s with toks := k' }) : wpAny (model prog w) A (call (.builtin "len") [.str (seg n k) t]) Q E s := by
  refine PyProof.Rows.len_str (by rw [seg_len]; omega) ?_
  rw [seg_len]
  exact h _ _
theorem seg_eq {n' k' : Nat} (c : Bool) (hc : (seg n k == seg n' k') = c) (h : Q (.bool c) s) : wpAny (model prog w) A (compareOp .Eq (.str (seg n k) t) (.str (seg n' k') u)) Q E s := by
  subst hc
  exact eq_str h
end
theorem seg_beq {n m k : Nat} : (seg n k == seg m k) = decide (n = m) := by
  by_cases h : n = m
  · subst h; simp
  · simp only [h, decide_false]
    exact beq_false_of_ne fun e => h (seg_inj e rfl)
end Mine
end
-- part Lev
section
open PySem PySem.W PyProof.Rows
set_option maxHeartbeats 4000000
namespace Mine
def LevTells (w : World) (mean : ExcName → Option Value) (mg mb : Str → Option Value) (a b : Nat) : Prop :=
  ∀ (dp un : Nat) (gd : Option (List Code)) (cn : Str) (cs : Scope) (ad : Addr) (ccd : Value) (cl : List (Str × Addr)) (outer : List Env) (A₀ : Around) (base h₀ : Heap) (L : Addr) (m : Str → Option Value) (news : List (Addr × Obj)) (s : Shared)
    (Q E : Value → Shared → Prop) (tk tk2 tk3 : Tok),
    Below A₀ base outer h₀ → Fr h₀ L s.heap m → (hd.heap_39 w.params).In h₀ → News h₀ L s.heap news → Top hd.view_39 (looseW hd.view_39 [Str.ofString "_twin_re_1", Str.ofString "_twin_re_2"]) mean mg mb h₀ → cs.kind = .function →
    dp + 1 < recursionLimit → un + 8 < cLine →
    (∀ (t : Tok) (h' : Heap) (tk' : Nat), Fr h₀ L h' m → News h₀ L h' news → Q (.int (2 * ((a - b : Nat) + (b - a : Nat))) t) { s with heap := h', toks := tk' }) →
    wpAny (model PySem.Challenge.rw_rw0023_01.row.prog w) (ktrTop dp un gd cn cs L ad ccd cl outer) (call (.ref 76) [.str (seg a 1) tk, .str (seg b 1) tk2, .int 0 tk3]) Q E s
theorem levEq (w : World) (mean : ExcName → Option Value) (mg mb : Str → Option Value) {a b : Nat} (h : a = b) : LevTells w mean mg mb a b := by
  subst h
  unfold LevTells
  k_with_none
  k_fill
  intro dp un gd cn cs ad ccd cl outer A₀ base h₀ L m news s Q E tk tk2 tk3 B F X N T hk hd hu hret
  simp only [Nat.sub_self, Int.natCast_zero, Int.add_zero, Int.mul_zero] at hret
  refine wpAny_call ?_
  k_dflt cell_enter
  k_with "compareOp Eq str str" => refine seg_eq true (by simp) ?_
  k_steps
  all_goals exact hret _ _ _ (by assumption) (by assumption)
/-- the first loop's word -/
def PreInv (a b : Nat) (pre : Int) : Prop := 0 ≤ pre ∧ pre ≤ a ∧ pre ≤ b
theorem preInv_next {a b : Nat} {pre : Int} (h : PreInv a b pre) (hne : a ≠ b) (e : ((if pre < a then seg 1 0 else seg 0 1) == (if pre < b then seg 1 0 else seg 0 1)) = true) : PreInv a b (pre + 1) := by
  obtain ⟨h0, h1, h2⟩ := h
  by_cases ha : pre < a
  · by_cases hb : pre < b
    · exact ⟨by omega, by omega, by omega⟩
    · rw [if_pos ha, if_neg hb] at e; exact absurd e (by decide +kernel)
  · by_cases hb : pre < b
    · rw [if_neg ha, if_pos hb] at e; exact absurd e (by decide +kernel)
    · omega
theorem preInv_end {a b : Nat} {pre : Int} (h : PreInv a b pre) (hne : a ≠ b) (e : ((if pre < a then seg 1 0 else seg 0 1) == (if pre < b then seg 1 0 else seg 0 1)) = false) : pre = (min a b : Nat) := by
  obtain ⟨h0, h1, h2⟩ := h
  by_cases ha : pre < a
  · by_cases hb : pre < b
    · rw [if_pos ha, if_pos hb] at e; exact absurd e (by decide +kernel)
    · omega
  · omega
theorem preInv_start (a b : Nat) : PreInv a b 0 := ⟨by omega, by omega, by omega⟩
section
variable {prog : Program} {w : World} {A : Around} {E : Value → Shared → Prop} {s : Shared} {h₀ : Heap} {L : Addr} {m : Str → Option Value} {news : List (Addr × Obj)} {value slice : PySem.Expr} {t u : Tok} {a b : Nat} {i : Int} {Q : Value → Shared → Prop}
theorem lev_fromA (F : Fr h₀ L s.heap m) (N : News h₀ L s.heap news) (ha : a < 9) (I : PreInv a b i) (h : ∀ h' t' k, Fr h₀ L h' m → News h₀ L h' news → Q (.str (seg (a - i.toNat) 1) t') { s with heap := h', toks := k })
    (hs : subscripted slice false (.str (seg a 1) t) (.ref s.heap.objs.size) = operate [.ref s.heap.objs.size, .str (seg a 1) t] (getItem (.str (seg a 1) t) (.ref s.heap.objs.size)) := by with_unfolding_all rfl)
    (ht : ∀ r, letTemporaryGo value (.str (seg a 1) t) r = pure () := by intro _; with_unfolding_all rfl) :
    wpAny (model prog w) A (subscriptTail value slice (.str (seg a 1) t) (.ref s.heap.objs.size)) Q E { s with heap := s.heap.push { cls := .type "slice", data := .fields #[.int i u, .none, .none] } } := seg_from F N ha I.1 I.2.1 h hs ht
theorem lev_fromB (F : Fr h₀ L s.heap m) (N : News h₀ L s.heap news) (hb : b < 9) (I : PreInv a b i) (h : ∀ h' t' k, Fr h₀ L h' m → News h₀ L h' news → Q (.str (seg (b - i.toNat) 1) t') { s with heap := h', toks := k })
    (hs : subscripted slice false (.str (seg b 1) t) (.ref s.heap.objs.size) = operate [.ref s.heap.objs.size, .str (seg b 1) t] (getItem (.str (seg b 1) t) (.ref s.heap.objs.size)) := by with_unfolding_all rfl)
    (ht : ∀ r, letTemporaryGo value (.str (seg b 1) t) r = pure () := by intro _; with_unfolding_all rfl) :
    wpAny (model prog w) A (subscriptTail value slice (.str (seg b 1) t) (.ref s.heap.objs.size)) Q E { s with heap := s.heap.push { cls := .type "slice", data := .fields #[.int i u, .none, .none] } } := seg_from F N hb I.1 I.2.2 h hs ht
theorem lev_itemA (ha : a < 9) (I : PreInv a b i) (h : Q (.str (if i < a then seg 1 0 else seg 0 1) s.toks) { s with toks := s.toks + 1 })
    (hs : subscripted slice false (.str (seg a 1) t) (.int i u) = operate [.str (seg a 1) t, .int i u] (getItem (.str (seg a 1) t) (.int i u)) := by with_unfolding_all rfl)
    (ht : ∀ r, letTemporaryGo value (.str (seg a 1) t) r = pure () := by intro _; with_unfolding_all rfl) :
    wpAny (model prog w) A (subscriptTail value slice (.str (seg a 1) t) (.int i u)) Q E s := seg_item ha I.1 I.2.1 h hs ht
theorem lev_itemB (hb : b < 9) (I : PreInv a b i) (h : Q (.str (if i < b then seg 1 0 else seg 0 1) s.toks) { s with toks := s.toks + 1 })
    (hs : subscripted slice false (.str (seg b 1) t) (.int i u) = operate [.str (seg b 1) t, .int i u] (getItem (.str (seg b 1) t) (.int i u)) := by with_unfolding_all rfl)
    (ht : ∀ r, letTemporaryGo value (.str (seg b 1) t) r = pure () := by intro _; with_unfolding_all rfl) :
    wpAny (model prog w) A (subscriptTail value slice (.str (seg b 1) t) (.int i u)) Q E s := seg_item hb I.1 I.2.2 h hs ht
end
/-- the second loop's word -/
def PostInv (post : Int) : Prop := post = 0 ∨ post = -1
theorem postInv_start : PostInv 0 := Or.inl rfl
theorem postInv_next {post : Int} (h : post = 0) : PostInv (post - 1) := by
  subst h
  exact Or.inr rfl
theorem postInv_neg {post : Int} (h : PostInv post) (h0 : post ≠ 0) : post = -1 := h.resolve_left h0
theorem preInv_meas {a b : Nat} {pre : Int} (h : PreInv a b pre) (hne : a ≠ b) (e : ((if pre < a then seg 1 0 else seg 0 1) == (if pre < b then seg 1 0 else seg 0 1)) = true) : a - (pre + 1).toNat < a - pre.toNat := by
  have h1 := preInv_next h hne e
  have h2 := h1.2.1
  have h3 := h.1
  omega
theorem postInv_meas {post : Int} (h : post = 0) : (if post - 1 = 0 then 1 else 0 : Nat) < (if post = 0 then 1 else 0 : Nat) := by
  subst h
  decide
theorem lev_end {h₀ h' : Heap} {L : Addr} {m : Str → Option Value} {news : List (Addr × Obj)} {s : Shared} {Q : Value → Shared → Prop} {x y : Int} {t : Tok} {tk' : Nat}
    (hret : ∀ (t : Tok) (h' : Heap) (tk' : Nat), Fr h₀ L h' m → News h₀ L h' news → Q (.int x t) { s with heap := h', toks := tk' }) (e : y = x) (F : Fr h₀ L h' m) (N : News h₀ L h' news) : Q (.int y t) { s with heap := h', toks := tk' } := by
  subst e
  exact hret t h' tk' F N
local macro_rules | `(tactic| walk_at "subscriptTail Name Slice str ref") => `(tactic| ((with_reducible rename Fr _ _ _ _ => F'); (with_reducible rename News _ _ _ _ => N'); first
  | (with_reducible refine seg_all (s := ⟨_, _, _, _, _⟩) F' N' (by omega) ?_; intro h9 t9 k9 F9 N9)
  | (with_reducible refine seg_butLast (s := ⟨_, _, _, _, _⟩) F' N' (by omega) (postInv_neg (by with_reducible assumption) (by with_reducible assumption)) ?_; intro h9 t9 k9 F9 N9)
  | (with_reducible (refine lev_fromA (s := ⟨_, _, _, _, _⟩) F' N' (by with_reducible assumption) (by with_reducible assumption) ?_); intro h9 t9 k9 F9 N9)
  | (with_reducible (refine lev_fromB (s := ⟨_, _, _, _, _⟩) F' N' (by with_reducible assumption) (by with_reducible assumption) ?_); intro h9 t9 k9 F9 N9)))
local macro_rules | `(tactic| walk_at "subscriptTail Name Name str int") => `(tactic| (first
  | with_reducible (refine lev_itemA (by with_reducible assumption) (by with_reducible assumption) ?_)
  | with_reducible (refine lev_itemB (by with_reducible assumption) (by with_reducible assumption) ?_)))
local macro_rules | `(tactic| walk_at "subscriptTail Name BinOp str int") => `(tactic| (with_reducible (refine seg_last (by omega) (by omega) ?_)))
theorem levLt (w : World) (mean : ExcName → Option Value) (mg mb : Str → Option Value) {a b : Nat} (ha : a < 9) (hb : b < 9) (hlt : a < b) : LevTells w mean mg mb a b := by
  unfold LevTells
  k_with_none
  k_fill
  intro dp un gd cn cs ad ccd cl outer A₀ base h₀ L m news s Q E tk tk2 tk3 B F X N T hk hd hu hret
  have hne : a ≠ b := by omega
  refine wpAny_call ?_
  k_dflt cell_enter
  k_with "compareOp Eq str str" => first | refine seg_eq false (by rw [seg_beq]; simp [hne]) ?_ | refine seg_eq true (by decide +kernel) ?_ | refine eq_str ?_
  k_with "measure" => first | exact preInv_meas (by assumption) hne (by assumption) | exact postInv_meas (by assumption)
  k_with "state" => first | exact preInv_start _ _ | exact preInv_next (by assumption) hne (by assumption) | exact postInv_start | exact postInv_next (by assumption)
  k_with "exec While" => first
    | (k_while (fun _ post => PostInv post) (fun _ post => if post = 0 then 1 else 0) "post")
    | k_while (fun _ pre => PreInv a b pre) (fun _ pre => a - pre.toNat) "pre"
  k_with "truthy str" => first
    | (refine seg_truthy_one (by omega) ?_; intro k9)
    | (refine seg_truthy_no (by have h9 := preInv_end (by assumption) hne (by assumption); omega) ?_; intro k9)
    | (refine seg_truthy_yes (by omega) (by have h9 := preInv_end (by assumption) hne (by assumption); omega) ?_; intro k9)
  k_with "call builtin:len" => (refine seg_len_call (by omega) (by decide) ?_; intro t9 k9)
  k_steps
  all_goals first
    | (exfalso; omega)
    | (refine lev_end hret ?_ (by with_reducible assumption) (by with_reducible assumption); have h9 := preInv_end (by assumption) hne (by assumption); omega)
theorem levGt (w : World) (mean : ExcName → Option Value) (mg mb : Str → Option Value) {a b : Nat} (ha : a < 9) (hb : b < 9) (hlt : b < a) : LevTells w mean mg mb a b := by
  unfold LevTells
  k_with_none
  k_fill
  intro dp un gd cn cs ad ccd cl outer A₀ base h₀ L m news s Q E tk tk2 tk3 B F X N T hk hd hu hret
  have hne : a ≠ b := by omega
  refine wpAny_call ?_
  k_dflt cell_enter
  k_with "compareOp Eq str str" => first | refine seg_eq false (by rw [seg_beq]; simp [hne]) ?_ | refine seg_eq true (by decide +kernel) ?_ | refine eq_str ?_
  k_with "measure" => first | exact preInv_meas (by assumption) hne (by assumption) | exact postInv_meas (by assumption)
  k_with "state" => first | exact preInv_start _ _ | exact preInv_next (by assumption) hne (by assumption) | exact postInv_start | exact postInv_next (by assumption)
  k_with "exec While" => first
    | (k_while (fun _ post => PostInv post) (fun _ post => if post = 0 then 1 else 0) "post")
    | k_while (fun _ pre => PreInv a b pre) (fun _ pre => a - pre.toNat) "pre"
  k_with "truthy str" => first
    | (refine seg_truthy_one (by omega) ?_; intro k9)
    | (refine seg_truthy_no (by have h9 := preInv_end (by assumption) hne (by assumption); omega) ?_; intro k9)
    | (refine seg_truthy_yes (by omega) (by have h9 := preInv_end (by assumption) hne (by assumption); omega) ?_; intro k9)
  k_with "call builtin:len" => (refine seg_len_call (by omega) (by decide) ?_; intro t9 k9)
  k_steps
  all_goals first
    | (exfalso; omega)
    | (refine lev_end hret ?_ (by with_reducible assumption) (by with_reducible assumption); have h9 := preInv_end (by assumption) hne (by assumption); omega)
/-- _levenshtein_distance of two rows -/
theorem levTells (w : World) (mean : ExcName → Option Value) (mg mb : Str → Option Value) {a b : Nat} (ha : a < 9) (hb : b < 9) : LevTells w mean mg mb a b := by
  by_cases h : a = b
  · exact levEq w mean mg mb h
  · by_cases h2 : a < b
    · exact levLt w mean mg mb ha hb h2
    · exact levGt w mean mg mb ha hb (by omega)
end Mine
end
-- part Trees
section
open PySem PySem.W PyProof.Rows
set_option maxHeartbeats 700000
namespace Mine
/-- a made list of six made lists of ints -/
structure Nest (news : List (Addr × Obj)) (B : Addr) (bs : Nat → Addr) (Bf : Nat → List Int) : Prop where
  top : ∃ n, (B, listOf ((List.range 6).map fun i => Value.ref (bs i)).toArray n) ∈ news
  sub : ∀ i, i < 6 → ∃ (ws : List Value) (n : Nat), IntsAre ws (Bf i) ∧ (bs i, listOf ws.toArray n) ∈ news
theorem Nest.mono {news news' : List (Addr × Obj)} {B : Addr} {bs : Nat → Addr} {Bf : Nat → List Int} (h : Nest news B bs Bf) (k : ∀ p ∈ news, p ∈ news') : Nest news' B bs Bf := by
  obtain ⟨⟨n, hn⟩, hs⟩ := h
  exact ⟨⟨n, k _ hn⟩, fun i hi => by obtain ⟨ws, n', h1, h2⟩ := hs i hi; exact ⟨ws, n', h1, k _ h2⟩⟩
section
variable {prog : Program} {w : World} {A : Around} {E : Value → Shared → Prop} {s : Shared} {h₀ : Heap} {L : Addr} {news : List (Addr × Obj)} {value slice : PySem.Expr} {B : Addr} {bs : Nat → Addr} {Bf : Nat → List Int} {k : Int} {u : Tok} {Q : Value → Shared → Prop}
theorem nest_item (N : News h₀ L s.heap news) (hb : Nest news B bs Bf) (h0 : 0 ≤ k) (h1 : k < 6) (h : ∀ (ws : List Value) (n : Nat), IntsAre ws (Bf k.toNat) → (bs k.toNat, listOf ws.toArray n) ∈ news → Q (.ref (bs k.toNat)) s)
    (hs : subscripted slice false (.ref B) (.int k u) = operate [.ref B, .int k u] (getItem (.ref B) (.int k u)) := by with_unfolding_all rfl) (hg : ∀ r, letTemporaryGo value (.ref B) r = pure () := by intro _; with_unfolding_all rfl) :
    wpAny (model prog w) A (subscriptTail value slice (.ref B) (.int k u)) Q E s := by
  obtain ⟨n, hm⟩ := hb.top
  obtain ⟨ws, n', hw, hm'⟩ := hb.sub k.toNat (by omega)
  refine kim_list N hm rfl rfl h0 (Int.lt_trans h1 (by decide)) (x := .ref (bs k.toNat)) ?_ (h ws n' hw hm') hs hg
  have : k.toNat < 6 := by omega
  simp [this]
end
section
variable {prog : Program} {w : World} {A : Around} {E : Value → Shared → Prop} {s : Shared} {h₀ : Heap} {L : Addr} {news : List (Addr × Obj)} {a : Addr} {ws : List Value} {n : Nat} {r : List Int} {Q : Value → Shared → Prop}
theorem len_led (N : News h₀ L s.heap news) (hm : (a, listOf ws.toArray n) ∈ news) (hi : IntsAre ws r) (hb : r.length ≤ 1000) (h : ∀ t k', Q (.int r.length t) { s with toks := k' }) : wpAny (model prog w) A (call (.builtin "len") [.ref a]) Q E s := by
  have e : ws.toArray.size = r.length := by rw [List.size_toArray]; exact hi.length
  refine PyProof.Rows.len_list (News.isList N hm) (by rw [e]; omega) ?_
  rw [e]
  exact h _ _
end
/-- the knots without a share -/
def childF (r ns : List Int) : List Int := ns.foldl (fun l k => if r.getD k.toNat 0 = 0 then l ++ [k] else l) []
theorem childG_grows (r : List Int) : KPfGrows (fun l k => if r.getD k.toNat 0 = 0 then l ++ [k] else l) := by
  intro l k
  dsimp only
  split <;> simp
theorem childF_len (r ns : List Int) : (childF r ns).length ≤ ns.length := by
  have h := kpf_len (childG_grows r) ns []
  simpa [childF] using h
/-- turns and childless after n trees -/
def treesF (r : List Int) (Bf : Nat → List Int) (p : Int) : Nat → Int × Int
  | 0 => (0, 0)
  | n + 1 => ((treesF r Bf p n).1 + (Bf ((p + (treesF r Bf p n).1).fmod 6).toNat).length, (treesF r Bf p n).2 + (childF r (Bf ((p + (treesF r Bf p n).1).fmod 6).toNat)).length)
/-- the loop's word -/
def TreesInv (r : List Int) (Bf : Nat → List Int) (p : Int) (n : Nat) (t c : Int) : Prop := t = (treesF r Bf p n).1 ∧ c = (treesF r Bf p n).2
theorem treesInv_start (r : List Int) (Bf : Nat → List Int) (p : Int) : TreesInv r Bf p ([] : List Int).length 0 0 := ⟨rfl, rfl⟩
theorem treesInv_next {r : List Int} {Bf : Nat → List Int} {p : Int} {pre : List Int} {k t c : Int} (h : TreesInv r Bf p pre.length t c) :
    TreesInv r Bf p (pre ++ [k]).length (t + (Bf ((p + t).fmod 6).toNat).length) (c + (childF r (Bf ((p + t).fmod 6).toNat)).length) := by
  obtain ⟨rfl, rfl⟩ := h
  rw [List.length_append]
  exact ⟨rfl, rfl⟩
theorem treesInv_end {r : List Int} {Bf : Nat → List Int} {p c t ch : Int} {tt tc : Tok} (hc : 0 ≤ c) (h : TreesInv r Bf p (rangeKs 0 (c - 0).toNat).length t ch) :
    IntsAre [.int t tt, .int (4 * ch - 2 * c) tc] [(treesF r Bf p c.toNat).1, 4 * (treesF r Bf p c.toNat).2 - 2 * c] := by
  rw [rangeKs_length, Int.sub_zero] at h
  obtain ⟨rfl, rfl⟩ := h
  exact .cons _ _ (.cons _ _ .nil)
theorem allLt_mem {d : Addr} (l : List (Addr × Obj)) : AllLt d l → ∀ p ∈ l, p.1 < d := by
  induction l with
  | nil => intro _ p hp; cases hp
  | cons q r ih =>
    intro h p hp
    rcases List.mem_cons.mp hp with e | hp
    · rw [e]; exact h.1
    · exact ih h.2 p hp
theorem news_drop2 {h₀ h : Heap} {L : Addr} {p q : Addr × Obj} {news : List (Addr × Obj)} (N : News h₀ L h (p :: q :: news)) : News h₀ L h (p :: news) := fun x hx => N x (by
  rcases List.mem_cons.mp hx with rfl | hx
  · exact .head _
  · exact .tail _ (.tail _ hx))
theorem src_led {h₀ : Heap} {a : Addr} {ws : List Value} {n : Nat} {news : List (Addr × Obj)} (hm : (a, listOf ws.toArray n) ∈ news) : LCg.SrcAt h₀ a ws.toArray news := .inr ⟨_, hm, rfl, _, rfl⟩
theorem ws_fits {ws : List Value} {r : List Int} (hi : IntsAre ws r) (h : r.length ≤ 6) : ws.toArray.size ≤ sizeLine := by
  have : (6 : Nat) ≤ sizeLine := by decide
  rw [List.size_toArray, hi.length]; omega
def TreesTells (w : World) (mean : ExcName → Option Value) (mg mb : Str → Option Value) : Prop :=
  ∀ (dp un : Nat) (gd : Option (List Code)) (cn : Str) (cs : Scope) (a : Addr) (ccd : Value) (cl : List (Str × Addr)) (outer : List Env) (A₀ : Around) (base h₀ : Heap) (L : Addr) (m : Str → Option Value) (news : List (Addr × Obj)) (s : Shared)
    (Q E : Value → Shared → Prop) (B : Addr) (bs : Nat → Addr) (Bf : Nat → List Int) (l : Addr) (vs : List Value) (nn : Nat) (r : List Int) (p c : Int) (tk tk2 : Tok),
    Below A₀ base outer h₀ → Fr h₀ L s.heap m → (hd.heap_39 w.params).In h₀ → News h₀ L s.heap news → Top hd.view_39 (looseW hd.view_39 [Str.ofString "_twin_re_1", Str.ofString "_twin_re_2"]) mean mg mb h₀ → cs.kind = .function →
    Nest news B bs Bf → (l, listOf vs.toArray nn) ∈ news → IntsAre vs r → r.length = 6 → (∀ i, (Bf i).length ≤ 6) → (∀ i, ∀ k ∈ Bf i, 0 ≤ k ∧ k < 6) → 0 ≤ p → p < 6 → 0 ≤ c → c ≤ 6 → dp + 2 < recursionLimit → un + 16 < cLine →
    (∀ (x : Addr) (ws : List Value) (k : Nat) (h' : Heap) (tk' : Nat), IntsAre ws [(treesF r Bf p c.toNat).1, 4 * (treesF r Bf p c.toNat).2 - 2 * c] → (∀ q ∈ news, q.1 < x) → Fr h₀ L h' m → News h₀ L h' ((x, listOf ws.toArray k) :: news) → Q (.ref x) { s with heap := h', toks := tk' }) →
    wpAny (model PySem.Challenge.rw_rw0023_01.row.prog w) (ktrTop dp un gd cn cs L a ccd cl outer) (call (.ref 95) [.ref B, .ref l, .int p tk, .int c tk2]) Q E s
local macro_rules | `(tactic| k_mem) => `(tactic| exact List.mem_append_left _ (by k_mem))
local macro_rules | `(tactic| k_mem) => `(tactic| assumption)
theorem treesTells (w : World) (mean : ExcName → Option Value) (mg mb : Str → Option Value) : TreesTells w mean mg mb := by
  unfold TreesTells
  k_with_none
  k_fill
  intro dp un gd cn cs a ccd cl outer A₀ base h₀ L m news s Q E B bs Bf l vs nn r p c tk tk2 Bl F X N T hk hb hm hi hlen hBl hBk h0 h6 hc0 hc6 hd hu hret
  refine wpAny_call ?_
  k_dflt (refine' code_defC ?k1 ?k2 ?k3 ?k4 ?k5 ?kA ?kF ?kK ?k6 ?k7 ?k8 ?k9 ?kB ?kD ?_ ?c2 ?c3 ?c4; (case kA => exact rfl); (case kF => exact rfl); (case kK => assumption); (case k1 => k_asm); (case k2 => k_asm); (case k3 => k_asm); (case k4 => k_asm); (case k5 => k_asm); (case k6 => k_is); (case k7 => k_is); (case k8 => ktr_room); (case k9 => exact BindsTo.of_eq rfl); (case kB => exact rfl); (case kD => decide +kernel); (case c2 => exact rfl); (case c3 => exact rfl); (case c4 => exact rfl); k_whole; intro g' L' h' tk' cells' FG' F' N' Y' B' X' T' l1; k_cells Y'; (try simp only [List.cons_append, List.nil_append] at N'); (try dsimp only); (try k_lift B'); (try k_fold))
  k_with "pyIter ref" => k_state (fun pre turns childless => TreesInv r Bf p pre.length turns childless) "turns" "childless"
  k_with "state" => first | exact treesInv_start _ _ _ | exact treesInv_next (by assumption)
  k_with "eval ListComp" => (k_dflt (refine LCt.ListComp_T (F₀ := by k_asm) (by with_unfolding_all rfl) (by decide) (by rfl) (by decide) (by rfl) ?_))
  k_with "CompSrcT" => (k_dflt (refine LCt.CompSrcT.ledger (by rfl) (by k_asm) (by k_asm) (by assumption) (ws_fits (by assumption) (hBl _)) ?_); intro g9; k_dflt (refine kci_list (fun l9 k9 => if r.getD k9.toNat 0 = 0 then l9 ++ [k9] else l9) (by assumption) (fun k' t' I' oI' C' oC' D' m' ys' l' h' tk' E' hk' hI' hC' hx' F' N' off' ne' hM' => ?_) ?_ (childG_grows r)))
  k_with "CompEnd" => (k_dflt (refine LCg.CompEnd.intro (by assumption) (by assumption) _ (fun _ h9 => h9) (by assumption) (src_led (by assumption)) ?_))
  k_with "KCiEl" => exact kci_el (by rw [if_pos (by assumption)]) rfl rfl
  k_with "KCiNo" => exact kci_no (by rw [if_neg (by assumption)]) rfl
  k_with "subscriptTail" => first | (refine item_led (by assumption) (by k_mem) hi (hBk _ _ (by assumption)).1 (by rw [hlen]; exact (hBk _ _ (by assumption)).2) (Int.lt_trans (hBk _ _ (by assumption)).2 (by decide)) ?_; intro tI) | (refine nest_item (by assumption) (hb.mono fun p9 hp9 => by k_mem) (fmod6_lo _) (fmod6_hi _) ?_; intro ws9 n9 hw9 hm9)
  k_with "call builtin:len" => first
    | (refine len_led (by assumption) (by assumption) (by assumption) (Nat.le_trans (hBl _) (by decide)) ?_; intro t9 k9)
    | (k_dflt (refine len_led (r := childF r _) (by assumption) (List.Mem.head _) (by assumption) (Nat.le_trans (childF_len _ _) (Nat.le_trans (hBl _) (by decide))) ?_); intro t9 k9)
  k_steps
  with_reducible rename _ ∧ AllLt _ _ => hlt
  with_reducible rename TreesInv _ _ _ _ _ _ => hI
  with_reducible rename News h₀ _ _ (_ :: _ :: news) => kN
  with_reducible rename Fr h₀ _ _ m => kF
  exact hret _ [_, _] 0 _ _ (treesInv_end hc0 hI) (allLt_mem _ hlt.2) kF (news_drop2 kN)
end Mine
end
-- part RunL
section
open PySem PySem.W PyProof.Rows
set_option maxHeartbeats 300000
namespace Mine
def endS (k : Nat) : Str := ⟨(endF k).toArray⟩
theorem endS_len (k : Nat) : (endS k).length ≤ 2 := by
  unfold endS endF Str.length
  split
  · decide
  · split <;> decide
section
variable {prog : Program} {w : World} {A : Around} {E : Value → Shared → Prop} {s : Shared} {h₀ : Heap} {L : Addr} {news : List (Addr × Obj)} {value slice : PySem.Expr} {a : Addr} {k : Int} {u t0 t1 t2 : Tok} {n : Nat} {Q : Value → Shared → Prop}
theorem ends_item (N : News h₀ L s.heap news) (hm : (a, listOf #[.str (Str.ofString "\n") t0, .str (Str.ofString "\r") t1, .str (Str.ofString "\r\n") t2] n) ∈ news) (h0 : 0 ≤ k) (h1 : k < 3) (h : ∀ t, (endS k.toNat).length ≤ 2 → Q (.str (endS k.toNat) t) s)
    (hs : subscripted slice false (.ref a) (.int k u) = operate [.ref a, .int k u] (getItem (.ref a) (.int k u)) := by with_unfolding_all rfl) (hg : ∀ r, letTemporaryGo value (.ref a) r = pure () := by intro _; with_unfolding_all rfl) :
    wpAny (model prog w) A (subscriptTail value slice (.ref a) (.int k u)) Q E s := by
  have e0 : endS 0 = Str.ofString "\n" := by decide +kernel
  have e1 : endS 1 = Str.ofString "\r" := by decide +kernel
  have e2 : endS 2 = Str.ofString "\r\n" := by decide +kernel
  have : k = 0 ∨ k = 1 ∨ k = 2 := by omega
  rcases this with rfl | rfl | rfl
  · exact kim_list N hm rfl rfl (by decide) (by decide) (x := .str (Str.ofString "\n") t0) rfl (e0 ▸ h t0 (endS_len _)) hs hg
  · exact kim_list N hm rfl rfl (by decide) (by decide) (x := .str (Str.ofString "\r") t1) rfl (e1 ▸ h t1 (endS_len _)) hs hg
  · exact kim_list N hm rfl rfl (by decide) (by decide) (x := .str (Str.ofString "\r\n") t2) rfl (e2 ▸ h t2 (endS_len _)) hs hg
end
section
variable {prog : Program} {w : World} {A : Around} {E : Value → Shared → Prop} {s : Shared} {x y : Str} {t u : Tok} {n m : Nat} {c : Int} {Q : Value → Shared → Prop}
theorem cat_str (hx : x.length ≤ n) (hy : y.length ≤ m) (hb : n + m ≤ 1000) (h : ∀ z t' tk, z = x ++ y → z.length ≤ n + m → Q (.str z t') { s with toks := tk }) : wpAny (model prog w) A (binaryOp .Add (.str x t) (.str y u)) Q E s := by
  have h1 : (1000 : Nat) ≤ sizeLine := by decide
  refine PyProof.Rows.add_str (fun t' tk => h _ t' tk rfl ?_) (by omega)
  rw [PySem.Str.length_append]; omega
def dots (n : Nat) : Str := ⟨(List.replicate n 46).toArray⟩
theorem dots_table : (List.range 7).all (fun n => Txt.mul (Str.ofString ".") (n : Int) == dots n) = true := by decide +kernel
theorem dots_mul (h0 : 0 ≤ c) (h6 : c ≤ 6) (h : ∀ t' tk, (dots c.toNat).length ≤ 6 → Q (.str (dots c.toNat) t') { s with toks := tk }) : wpAny (model prog w) A (binaryOp .Mult (.str (Str.ofString ".") t) (.int c u)) Q E s := by
  have e1 : (Str.ofString ".").length = 1 := by decide +kernel
  refine SB.mul (mulOk_of 1 6 (by rw [e1]; decide) (by omega) (by omega) (by decide) (by decide)) fun t' k => ?_
  have e := List.all_eq_true.mp dots_table c.toNat (List.mem_range.mpr (by omega))
  have e := eq_of_beq e
  rw [Int.toNat_of_nonneg h0] at e
  rw [e]
  refine h t' k ?_
  unfold dots Str.length
  simp; omega
end
theorem mul_dots {c : Int} (h0 : 0 ≤ c) (h6 : c ≤ 6) : Txt.mul (Str.ofString ".") c = dots c.toNat := by
  have e := List.all_eq_true.mp dots_table c.toNat (List.mem_range.mpr (by omega))
  have e := eq_of_beq e
  rw [Int.toNat_of_nonneg h0] at e
  exact e
theorem mul_dots_len {c : Int} (h0 : 0 ≤ c) (h6 : c ≤ 6) : (Txt.mul (Str.ofString ".") c).length ≤ 6 := by
  rw [mul_dots h0 h6]
  unfold dots Str.length
  simp; omega
theorem len_dx : (Str.ofString ".x").length = 2 := by decide +kernel
theorem len_x : (Str.ofString "x").length = 1 := by decide +kernel
theorem big_line : (1000 : Nat) ≤ sizeLine := by decide
theorem rough_of {i j : Nat} {c : Int} (h0 : 0 ≤ c) (h6 : c ≤ 6) : Str.ofString ".x" ++ endS i ++ Txt.mul (Str.ofString ".") c ++ Str.ofString "x" ++ endS j = rough i j c.toNat := by
  have e1 : Str.ofString ".x" = ⟨#[46, 120]⟩ := by decide +kernel
  have e2 : Str.ofString "x" = ⟨#[120]⟩ := by decide +kernel
  rw [mul_dots h0 h6, e1, e2]
  have happ : ∀ x y : Str, x ++ y = ⟨x.cps ++ y.cps⟩ := fun _ _ => rfl
  unfold rough endS dots
  simp only [happ]
  congr 1
  simp
section
variable {prog : Program} {w : World} {A : Around} {E : Value → Shared → Prop} {s : Shared} {t u : Tok} {c : Int} {i j : Nat} {Q : Value → Shared → Prop}
theorem run_add1 (h : ∀ t' tk, Q (.str (Str.ofString ".x" ++ endS i) t') { s with toks := tk }) : wpAny (model prog w) A (binaryOp .Add (.str (Str.ofString ".x") t) (.str (endS i) u)) Q E s :=
  PyProof.Rows.add_str (fun t' tk => h t' tk) (by have h1 := endS_len i; have h4 := len_dx; have h6 := big_line; omega)
theorem run_add2 (h0 : 0 ≤ c) (h6 : c ≤ 6) (h : ∀ t' tk, Q (.str (Str.ofString ".x" ++ endS i ++ Txt.mul (Str.ofString ".") c) t') { s with toks := tk }) :
    wpAny (model prog w) A (binaryOp .Add (.str (Str.ofString ".x" ++ endS i) t) (.str (Txt.mul (Str.ofString ".") c) u)) Q E s :=
  PyProof.Rows.add_str (fun t' tk => h t' tk) (by simp only [PySem.Str.length_append]; have h1 := endS_len i; have h3 := mul_dots_len h0 h6; have h4 := len_dx; have h6 := big_line; omega)
theorem run_add3 (h0 : 0 ≤ c) (h6 : c ≤ 6) (h : ∀ t' tk, Q (.str (Str.ofString ".x" ++ endS i ++ Txt.mul (Str.ofString ".") c ++ Str.ofString "x") t') { s with toks := tk }) :
    wpAny (model prog w) A (binaryOp .Add (.str (Str.ofString ".x" ++ endS i ++ Txt.mul (Str.ofString ".") c) t) (.str (Str.ofString "x") u)) Q E s :=
  PyProof.Rows.add_str (fun t' tk => h t' tk) (by simp only [PySem.Str.length_append]; have h1 := endS_len i; have h3 := mul_dots_len h0 h6; have h4 := len_dx; have h5 := len_x; have h6 := big_line; omega)
theorem run_add4 (h0 : 0 ≤ c) (h6 : c ≤ 6) (h : ∀ t' tk, Q (.str (rough i j c.toNat) t') { s with toks := tk }) :
    wpAny (model prog w) A (binaryOp .Add (.str (Str.ofString ".x" ++ endS i ++ Txt.mul (Str.ofString ".") c ++ Str.ofString "x") t) (.str (endS j) u)) Q E s :=
  PyProof.Rows.add_str (fun t' tk => by rw [rough_of h0 h6]; exact h t' tk) (by simp only [PySem.Str.length_append]; have h1 := endS_len i; have h2 := endS_len j; have h3 := mul_dots_len h0 h6; have h4 := len_dx; have h5 := len_x; have h6 := big_line; omega)
theorem run_mul (h0 : 0 ≤ c) (h6 : c ≤ 6) (h : ∀ t' tk, Q (.str (Txt.mul (Str.ofString ".") c) t') { s with toks := tk }) : wpAny (model prog w) A (binaryOp .Mult (.str (Str.ofString ".") t) (.int c u)) Q E s :=
  dots_mul h0 h6 fun t' tk _ => by rw [← mul_dots h0 h6]; exact h t' tk
end
theorem fmod3_lo (x : Int) : 0 ≤ x.fmod 3 := by rw [Int.fmod_eq_emod_of_nonneg x (by decide)]; omega
theorem fmod3_hi (x : Int) : x.fmod 3 < 3 := by rw [Int.fmod_eq_emod_of_nonneg x (by decide)]; omega
end Mine
end
-- part RunM
section
open PySem PySem.W PyProof.Rows
set_option maxHeartbeats 400000
namespace Mine
/-- the mail's rows and what is noted -/
structure St where
  a : Nat
  b : Nat
  p0 : Int
  q0 : Int
  p1 : Int
  q1 : Int
def up (l a : Nat) : Nat := if a = 0 then 0 else a + l
def gap (a b : Nat) : Int := 2 * ((a - b : Nat) + (b - a : Nat))
/-- one letter -/
def stepSt (l : Nat) (s : St) : St :=
  { a := up l s.a - 1, b := up l s.b - 1, p0 := if s.a = 0 then s.p0 else s.p0 + 1, q0 := if s.a = 0 then s.q0 else s.q0 + gap s.a (up l s.a - 1),
    p1 := if s.b = 0 then s.p1 else s.p1 + 1, q1 := if s.b = 0 then s.q1 else s.q1 + gap s.b (up l s.b - 1) }
/-- the letters one by one -/
def runF : List Nat → St → Option St
  | [], s => some s
  | l :: r, s => if s.a ≤ 6 ∧ s.b ≤ 6 ∧ up l s.a ≤ 6 ∧ up l s.b ≤ 6 then (if (stepSt l s).b = 0 then some (stepSt l s) else runF r (stepSt l s)) else none
/-- the call's made lists, as they stand -/
def runLed (N X0 X1 : Addr) (st : St) (u0 u1 u2 u3 : Tok) (n0 n1 : Nat) (rest : List (Addr × Obj)) : List (Addr × Obj) :=
  (N, listOf #[.ref X0, .ref X1] 0) :: (X1, listOf #[.int st.p1 u2, .int st.q1 u3] n1) :: (X0, listOf #[.int st.p0 u0, .int st.q0 u1] n0) :: rest
def runNames : List Str := [Str.ofString "letter", Str.ofString "mail", Str.ofString "before", Str.ofString "sending", Str.ofString "after", Str.ofString "which"]
/-- a turn's end -/
def RunTurn (h₀ : Heap) (L : Addr) (m₀ : Str → Option Value) (N X0 X1 : Addr) (rest own : List (Addr × Obj)) (st : St) (s₁ : Shared) (f : Flow) (s₂ : Shared) : Prop :=
  ((st.b = 0 ∧ f = .brk) ∨ (st.b ≠ 0 ∧ f = .next)) ∧ ∃ h' tk m' t u0 u1 u2 u3 n0 n1, s₂ = { s₁ with heap := h', toks := tk } ∧ Fr h₀ L h' m' ∧ m' (Str.ofString "mail") = some (.str (mail st.a st.b) t) ∧
    (∀ z, z ∉ runNames → m' z = m₀ z) ∧ News h₀ L h' (runLed N X0 X1 st u0 u1 u2 u3 n0 n1 rest ++ own)

theorem news_thin {h₀ h : Heap} {L : Addr} {p q r x : Addr × Obj} {news : List (Addr × Obj)} (N : News h₀ L h (p :: q :: r :: x :: news)) : News h₀ L h (p :: q :: r :: news) := fun y hy => N y (by
  simp only [List.mem_cons] at hy ⊢
  rcases hy with h | h | h | h
  · exact .inl h
  · exact .inr (.inl h)
  · exact .inr (.inr (.inl h))
  · exact .inr (.inr (.inr (.inr h))))
theorem src_arr {h₀ : Heap} {a : Addr} {its : Array Value} {n : Nat} {news : List (Addr × Obj)} (hm : (a, listOf its n) ∈ news) : LCg.SrcAt h₀ a its news := .inr ⟨_, hm, rfl, _, rfl⟩
structure RunS where
  st : St
  t : Tok
  u0 : Tok
  u1 : Tok
  u2 : Tok
  u3 : Tok
  n0 : Nat
  n1 : Nat
def RunInv (ks : List Int) (fin : St) (pre : List Int) (c : RunS) : Prop := ∃ r : List Nat, ks = pre ++ r.map (fun (l : Nat) => (65 : Int) + (l : Int)) ∧ runF r c.st = some fin
def runPs (c : RunS) : List (Str × Value) := [(Str.ofString "mail", .str (mail c.st.a c.st.b) c.t)]
section
variable {prog : Program} {w : World} {A : Around} {E : Value → Shared → Prop} {s : Shared} {env : Env} {h₀ : Heap} {body : List Stmt} {Q : Flow → Shared → Prop} {m₀ : Str → Option Value} {N X0 X1 : Addr} {rest : List (Addr × Obj)} {u0 u1 u2 u3 t tb : Tok} {b : Array UInt8} {letters : List Nat} {c : Nat} {fin : St}
theorem run_loop (hh : A.handled = none) (F : Fr h₀ env.locals s.heap m₀) (hN : News h₀ env.locals s.heap ((N, listOf #[.ref X0, .ref X1] 0) :: (X1, listOf #[.int 0 u2, .int 0 u3] 0) :: (X0, listOf #[.int 0 u0, .int 0 u1] 0) :: rest))
    (hm : m₀ (Str.ofString "mail") = some (.str (mail 1 c) t)) (hb : KBw.bInts b = letters.map (fun (l : Nat) => (65 : Int) + (l : Int))) (hr : runF letters ⟨1, c, 0, 0, 0, 0⟩ = some fin)
    (turn : ∀ (st : St) (l : Nat) (tn t : Tok) (u0 u1 u2 u3 : Tok) (n0 n1 : Nat) (u : Str → Option Value) (h : Heap) (tk : Nat) (own : List (Addr × Obj)), st.a ≤ 6 → st.b ≤ 6 → up l st.a ≤ 6 → up l st.b ≤ 6 → 65 + l < 256 →
      OwnOff own (N :: X1 :: X0 :: rest.map (·.1)) →
      Fr h₀ env.locals h (fun y => if y = Str.ofString "letter" then some (.int (65 + (l : Int)) tn) else if y = Str.ofString "mail" then some (.str (mail st.a st.b) t) else if runNames.contains y then u y else m₀ y) →
      News h₀ env.locals h ((N, listOf #[.ref X0, .ref X1] 0) :: (X1, listOf #[.int st.p1 u2, .int st.q1 u3] n1) :: (X0, listOf #[.int st.p0 u0, .int st.q0 u1] n0) :: (rest ++ own)) →
      wpAny (model prog w) A (execs body env) (RunTurn h₀ env.locals m₀ N X0 X1 rest own (stepSt l st) { s with heap := h, toks := tk }) E { s with heap := h, toks := tk })
    (done' : ∀ (u : Str → Option Value) (t u0 u1 u2 u3 : Tok) (n0 n1 : Nat) (h : Heap) (tk : Nat), Fr h₀ env.locals h (fun y => if y = Str.ofString "mail" then some (.str (mail fin.a fin.b) t) else if runNames.contains y then u y else m₀ y) →
      News h₀ env.locals h (runLed N X0 X1 fin u0 u1 u2 u3 n0 n1 rest) → Q .next { s with heap := h, toks := tk }) :
    wpAny (model prog w) A (pyIter (.bytes b tb)) (fun it s₂ => LoopAtV prog w A h₀ env (Str.ofString "letter") body Q E it s₂) E s := by
  have done : ∀ (m' : Str → Option Value) (t u0 u1 u2 u3 : Tok) (n0 n1 : Nat) (h : Heap) (tk : Nat), Fr h₀ env.locals h m' → m' (Str.ofString "mail") = some (.str (mail fin.a fin.b) t) → (∀ z, z ∉ runNames → m' z = m₀ z) →
      News h₀ env.locals h (runLed N X0 X1 fin u0 u1 u2 u3 n0 n1 rest) → Q .next { s with heap := h, toks := tk } := by
    intro m' t u0 u1 u2 u3 n0 n1 h tk F' hm' hz' N'
    refine done' m' t u0 u1 u2 u3 n0 n1 h tk ?_ N'
    have e : (fun y => if y = Str.ofString "mail" then some (.str (mail fin.a fin.b) t) else if runNames.contains y then m' y else m₀ y) = m' := by
      funext y
      by_cases h1 : y = Str.ofString "mail"
      · rw [if_pos h1, h1, hm']
      · rw [if_neg h1]
        by_cases h2 : runNames.contains y = true
        · rw [if_pos h2]
        · rw [if_neg h2]
          exact (hz' y (by simpa using h2)).symm
    rw [e]
    exact F'
  refine KStb.kst_bytes (σ := RunS) (fun c => runLed N X0 X1 c.st c.u0 c.u1 c.u2 c.u3 c.n0 c.n1 rest) runPs (fun _ => True) runNames (RunInv (letters.map (fun (l : Nat) => (65 : Int) + (l : Int))) fin)
    ⟨⟨1, c, 0, 0, 0, 0⟩, t, u0, u1, u2, u3, 0, 0⟩ hb rfl hh F hN trivial ?_ ⟨letters, rfl, hr⟩ ?_ ?_
  · intro p hp
    rw [List.mem_singleton.mp hp]
    exact hm
  · intro c pre post n tn u h tk own e hlt hn0 hn1 hoff _ hP F' N'
    obtain ⟨r, e2, hr2⟩ := hP
    have e3 : n :: post = r.map (fun (l : Nat) => (65 : Int) + (l : Int)) := List.append_cancel_left (e.symm.trans e2)
    cases r with
    | nil => cases e3
    | cons l r =>
      have e4 : n = 65 + (l : Int) := (List.cons.inj e3).1
      subst e4
      unfold runF at hr2
      by_cases hc : c.st.a ≤ 6 ∧ c.st.b ≤ 6 ∧ up l c.st.a ≤ 6 ∧ up l c.st.b ≤ 6
      · rw [if_pos hc] at hr2
        have F2 : Fr h₀ env.locals h (fun y => if y = Str.ofString "letter" then some (.int (65 + (l : Int)) tn) else if y = Str.ofString "mail" then some (.str (mail c.st.a c.st.b) c.t) else if runNames.contains y then u y else m₀ y) := F'
        refine wpAny_mono (turn c.st l tn c.t c.u0 c.u1 c.u2 c.u3 c.n0 c.n1 u h tk own hc.1 hc.2.1 hc.2.2.1 hc.2.2.2 (by omega) hoff F2 N') (fun f s₂ hq => ?_) fun _ _ e => e
        obtain ⟨hf, h', tk', m', t', v0, v1, v2, v3, k0, k1, rfl, F3, hm3, hz3, N3⟩ := hq
        have hz4 : ∀ z, z ∉ runNames → m' z = m₀ z := by
          intro z hz
          exact hz3 z hz
        rcases hf with ⟨hb0, rfl⟩ | ⟨hb0, rfl⟩
        · rw [if_pos hb0] at hr2
          have hfin := Option.some.inj hr2
          subst hfin
          exact done m' t' v0 v1 v2 v3 k0 k1 h' tk' F3 hm3 hz4 (fun p hp => N3 p (List.mem_append_left _ hp))
        · rw [if_neg hb0] at hr2
          refine InvEndN.intro F3 N3 (nx := runLed N X0 X1 (stepSt l c.st) v0 v1 v2 v3 k0 k1 rest) ⟨⟨stepSt l c.st, t', v0, v1, v2, v3, k0, k1⟩, rfl, trivial, ?_, ?_, ⟨r, ?_, hr2⟩⟩ rfl (fun p hp => List.mem_append_left _ hp) (fun p hp => List.mem_append_right _ hp)
          · intro p hp
            rw [List.mem_singleton.mp hp]
            exact hm3
          · intro z h1 _ h3
            exact hz4 z (by simpa using h3)
          · rw [e2]; simp
      · rw [if_neg hc] at hr2; cases hr2
  · intro c u h tk _ _ hP F' N'
    obtain ⟨r, e2, hr2⟩ := hP
    have e3 : r = [] := by
      have := congrArg List.length e2
      simp at this
      exact this
    subst e3
    have hfin := Option.some.inj hr2
    have F2 : Fr h₀ env.locals h (fun y => if y = Str.ofString "letter" then u y else if y = Str.ofString "mail" then some (.str (mail c.st.a c.st.b) c.t) else if runNames.contains y then u y else m₀ y) := F'
    rw [hfin] at F2 N'
    refine done _ c.t c.u0 c.u1 c.u2 c.u3 c.n0 c.n1 h tk F2 rfl (fun z hz => ?_) N'
    have h1 : z ≠ Str.ofString "letter" := fun e => hz (by rw [e]; exact List.Mem.head _)
    have h2 : z ≠ Str.ofString "mail" := fun e => hz (by rw [e]; exact List.Mem.tail _ (List.Mem.head _))
    have h3 : ¬ runNames.contains z = true := fun e => hz (by simpa using e)
    rw [if_neg h1, if_neg h2, if_neg h3]
end
end Mine
end
-- part RunN
section
open PySem PySem.W PyProof.Rows
set_option maxHeartbeats 400000
namespace Mine
theorem split_table : (List.range 7).all (fun a => (List.range 7).all fun b => (Txt.split (mail a b) (Str.ofString "\r\n") == [seg a 1, seg b 1, ⟨#[]⟩]) && (Txt.join (Str.ofString "\r\n") [seg a 1, seg b 1, ⟨#[]⟩] == mail a b) && JoinOk (Str.ofString "\r\n") [seg a 1, seg b 1, ⟨#[]⟩]) = true := by decide +kernel
theorem split_at {a b : Nat} (ha : a ≤ 6) (hb : b ≤ 6) : Txt.split (mail a b) (Str.ofString "\r\n") = [seg a 1, seg b 1, ⟨#[]⟩] ∧ Txt.join (Str.ofString "\r\n") [seg a 1, seg b 1, ⟨#[]⟩] = mail a b ∧ JoinOk (Str.ofString "\r\n") [seg a 1, seg b 1, ⟨#[]⟩] = true := by
  have h := List.all_eq_true.mp split_table a (List.mem_range.mpr (by omega))
  have h := List.all_eq_true.mp h b (List.mem_range.mpr (by omega))
  simp only [Bool.and_eq_true] at h
  exact ⟨eq_of_beq h.1.1, eq_of_beq h.1.2, h.2⟩
theorem mail_len {a b : Nat} (ha : a ≤ 6) (hb : b ≤ 6) : (mail a b).length + 2 ≤ sizeLine := by
  have h : (100 : Nat) ≤ sizeLine := by decide
  have e : (mail a b).length = a + b + 6 := by unfold mail row Str.length; simp; omega
  omega
section
variable {prog : Program} {w : World} {A : Around} {E : Value → Shared → Prop} {s : Shared} {h₀ : Heap} {L : Addr} {m : Str → Option Value} {news : List (Addr × Obj)} {a b : Nat} {x : Str} {t u : Tok} {Q : Value → Shared → Prop}
theorem mail_split (hF : Fr h₀ L s.heap m) (hN : News h₀ L s.heap news) (hx : x = mail a b) (ha : a ≤ 6) (hb : b ≤ 6)
    (h : ∀ D t1 t2 t3 h' k, Fr h₀ L h' m → News h₀ L h' ((D, listOf #[.str (seg a 1) t1, .str (seg b 1) t2, .str ⟨#[]⟩ t3] 0) :: news) → (∀ p ∈ news, p.1 < D) → Q (.ref D) { s with heap := h', toks := k }) :
    wpAny (model prog w) A (call (.builtin "str.split") [.str x t, .str (Str.ofString "\r\n") u]) Q E s := by
  subst hx
  refine KSpl.split1 hF hN (by decide +kernel) (fun D l h' k e _ F' N' hlt => ?_) (mail_len ha hb)
  rw [(split_at ha hb).1] at e
  obtain ⟨t1, l1, f1, e1⟩ := KSpl.cons_of e
  obtain ⟨t2, l2, f2, e2⟩ := KSpl.cons_of e1
  obtain ⟨t3, l3, f3, e3⟩ := KSpl.cons_of e2
  have f4 := KSpl.nil_of e3
  subst f4 f3 f2 f1
  exact h D t1 t2 t3 h' k F' N' hlt
theorem mail_join {D : Addr} {t1 t2 t3 : Tok} {n : Nat} (hN : News h₀ L s.heap news) (hm : (D, listOf #[.str (seg a 1) t1, .str (seg b 1) t2, .str ⟨#[]⟩ t3] n) ∈ news) (ha : a ≤ 6) (hb : b ≤ 6) (h : ∀ t' k, Q (.str (mail a b) t') { s with toks := k }) :
    wpAny (model prog w) A (call (.builtin "str.join") [.str (Str.ofString "\r\n") t, .ref D]) Q E s := by
  obtain ⟨h1, h2, h3⟩ := split_at ha hb
  refine SC.join (l := [(seg a 1, t1), (seg b 1, t2), (⟨#[]⟩, t3)]) (texts := [seg a 1, seg b 1, ⟨#[]⟩]) (News.isList hN hm) rfl h3 fun t' k => ?_
  rw [h2]
  exact h t' k
theorem ne_x {n : Nat} (c : Bool) (hc : (n ≠ 0) ↔ c = true) (h : Q (.bool c) s) : wpAny (model prog w) A (compareOp .NotEq (.str (seg n 1) t) (.str (Str.ofString "x") u)) Q E s := by
  have e : Str.ofString "x" = seg 0 1 := by decide +kernel
  refine PyProof.Rows.ne_str ?_
  rw [e]
  have h2 : (seg n 1 != seg 0 1) = c := by
    rw [bne, seg_beq]
    cases c with
    | true => simpa using hc.mpr rfl
    | false =>
      have h0 : n = 0 := Nat.eq_zero_of_not_pos fun h0 => by cases hc.mp (by omega)
      simp [h0]
  rw [h2]
  exact h
theorem eq_x {n : Nat} (c : Bool) (hc : (n = 0) ↔ c = true) (h : Q (.bool c) s) : wpAny (model prog w) A (compareOp .Eq (.str (seg n 1) t) (.str (Str.ofString "x") u)) Q E s := by
  have e : Str.ofString "x" = seg 0 1 := by decide +kernel
  refine PyProof.Rows.eq_str ?_
  rw [e]
  have h2 : (seg n 1 == seg 0 1) = c := by
    rw [seg_beq]
    cases c with
    | true => simpa using hc.mpr rfl
    | false => simpa using (fun h0 : n = 0 => by cases hc.mp h0)
  rw [h2]
  exact h
end
theorem head_table : (List.range 7).all (fun n => Txt.slice (seg n 1) none (some 1) == (if n = 0 then seg 0 1 else seg 1 0)) = true := by decide +kernel
section
variable {prog : Program} {w : World} {A : Around} {E : Value → Shared → Prop} {s : Shared} {h₀ : Heap} {L : Addr} {m : Str → Option Value} {news : List (Addr × Obj)} {value slice : PySem.Expr} {t u : Tok} {n : Nat} {Q : Value → Shared → Prop}
theorem seg_head (F : Fr h₀ L s.heap m) (N : News h₀ L s.heap news) (hn : n ≤ 6) (h : ∀ h' t' k, Fr h₀ L h' m → News h₀ L h' news → Q (.str (if n = 0 then seg 0 1 else seg 1 0) t') { s with heap := h', toks := k })
    (hs : subscripted slice false (.str (seg n 1) t) (.ref s.heap.objs.size) = operate [.ref s.heap.objs.size, .str (seg n 1) t] (getItem (.str (seg n 1) t) (.ref s.heap.objs.size)) := by with_unfolding_all rfl)
    (ht : ∀ r, letTemporaryGo value (.str (seg n 1) t) r = pure () := by intro _; with_unfolding_all rfl) :
    wpAny (model prog w) A (subscriptTail value slice (.str (seg n 1) t) (.ref s.heap.objs.size)) Q E { s with heap := s.heap.push { cls := .type "slice", data := .fields #[.none, .int 1 u, .none] } } := by
  refine slice_strN_ns F N (fun h' t' k F' N' => ?_) hs ht (seg_fits (by omega) (by decide))
  have e := List.all_eq_true.mp head_table n (List.mem_range.mpr (by omega))
  rw [eq_of_beq e]
  exact h h' t' k F' N'
theorem seg_headP (F : Fr h₀ L s.heap m) (N : News h₀ L s.heap news) (hn : n ≤ 6) (h0 : n ≠ 0) (h : ∀ h' t' k, Fr h₀ L h' m → News h₀ L h' news → Q (.str (seg 1 0) t') { s with heap := h', toks := k })
    (hs : subscripted slice false (.str (seg n 1) t) (.ref s.heap.objs.size) = operate [.ref s.heap.objs.size, .str (seg n 1) t] (getItem (.str (seg n 1) t) (.ref s.heap.objs.size)) := by with_unfolding_all rfl)
    (ht : ∀ r, letTemporaryGo value (.str (seg n 1) t) r = pure () := by intro _; with_unfolding_all rfl) :
    wpAny (model prog w) A (subscriptTail value slice (.str (seg n 1) t) (.ref s.heap.objs.size)) Q E { s with heap := s.heap.push { cls := .type "slice", data := .fields #[.none, .int 1 u, .none] } } :=
  seg_head F N hn (fun h' t' k F' N' => by rw [if_neg h0]; exact h h' t' k F' N') hs ht
theorem seg_headZ (F : Fr h₀ L s.heap m) (N : News h₀ L s.heap news) (h0 : n = 0) (h : ∀ h' t' k, Fr h₀ L h' m → News h₀ L h' news → Q (.str (seg 0 1) t') { s with heap := h', toks := k })
    (hs : subscripted slice false (.str (seg n 1) t) (.ref s.heap.objs.size) = operate [.ref s.heap.objs.size, .str (seg n 1) t] (getItem (.str (seg n 1) t) (.ref s.heap.objs.size)) := by with_unfolding_all rfl)
    (ht : ∀ r, letTemporaryGo value (.str (seg n 1) t) r = pure () := by intro _; with_unfolding_all rfl) :
    wpAny (model prog w) A (subscriptTail value slice (.str (seg n 1) t) (.ref s.heap.objs.size)) Q E { s with heap := s.heap.push { cls := .type "slice", data := .fields #[.none, .int 1 u, .none] } } :=
  seg_head F N (by omega) (fun h' t' k F' N' => by rw [if_pos h0]; exact h h' t' k F' N') hs ht
theorem seg_tail (F : Fr h₀ L s.heap m) (N : News h₀ L s.heap news) (hn : n ≤ 6) (h0 : n ≠ 0) (h : ∀ h' t' k, Fr h₀ L h' m → News h₀ L h' news → Q (.str (seg (n - 1) 1) t') { s with heap := h', toks := k })
    (hs : subscripted slice false (.str (seg n 1) t) (.ref s.heap.objs.size) = operate [.ref s.heap.objs.size, .str (seg n 1) t] (getItem (.str (seg n 1) t) (.ref s.heap.objs.size)) := by with_unfolding_all rfl)
    (ht : ∀ r, letTemporaryGo value (.str (seg n 1) t) r = pure () := by intro _; with_unfolding_all rfl) :
    wpAny (model prog w) A (subscriptTail value slice (.str (seg n 1) t) (.ref s.heap.objs.size)) Q E { s with heap := s.heap.push { cls := .type "slice", data := .fields #[.int 1 u, .none, .none] } } :=
  seg_from F N (by omega) (by decide) (by omega) h hs ht
theorem nil_head (F : Fr h₀ L s.heap m) (N : News h₀ L s.heap news) (h : ∀ h' t' k, Fr h₀ L h' m → News h₀ L h' news → Q (.str ⟨#[]⟩ t') { s with heap := h', toks := k })
    (hs : subscripted slice false (.str ⟨#[]⟩ t) (.ref s.heap.objs.size) = operate [.ref s.heap.objs.size, .str ⟨#[]⟩ t] (getItem (.str ⟨#[]⟩ t) (.ref s.heap.objs.size)) := by with_unfolding_all rfl)
    (ht : ∀ r, letTemporaryGo value (.str ⟨#[]⟩ t) r = pure () := by intro _; with_unfolding_all rfl) :
    wpAny (model prog w) A (subscriptTail value slice (.str ⟨#[]⟩ t) (.ref s.heap.objs.size)) Q E { s with heap := s.heap.push { cls := .type "slice", data := .fields #[.none, .int 1 u, .none] } } := by
  refine slice_strN_ns F N (fun h' t' k F' N' => ?_) hs ht (by decide)
  have e : Txt.slice ⟨#[]⟩ none (some 1) = ⟨#[]⟩ := by decide +kernel
  rw [e]
  exact h h' t' k F' N'
theorem dot_eqT (h : Q (.bool true) s) : wpAny (model prog w) A (compareOp .Eq (.str (seg 1 0) t) (.str (Str.ofString ".") u)) Q E s := by
  have e : (seg 1 0 == Str.ofString ".") = true := by decide +kernel
  refine PyProof.Rows.eq_str ?_
  rw [e]; exact h
theorem dot_eqF (h : Q (.bool false) s) : wpAny (model prog w) A (compareOp .Eq (.str (seg 0 1) t) (.str (Str.ofString ".") u)) Q E s := by
  have e : (seg 0 1 == Str.ofString ".") = false := by decide +kernel
  refine PyProof.Rows.eq_str ?_
  rw [e]; exact h
theorem dot_eqN (h : Q (.bool false) s) : wpAny (model prog w) A (compareOp .Eq (.str ⟨#[]⟩ t) (.str (Str.ofString ".") u)) Q E s := by
  have e : ((⟨#[]⟩ : Str) == Str.ofString ".") = false := by decide +kernel
  refine PyProof.Rows.eq_str ?_
  rw [e]; exact h
end
section
variable {prog : Program} {w : World} {A : Around} {E : Value → Shared → Prop} {s : Shared} {t u : Tok} {n : Nat} {Q : Value → Shared → Prop}
theorem ne_xT (h0 : 0 < n) (h : Q (.bool true) s) : wpAny (model prog w) A (compareOp .NotEq (.str (seg n 1) t) (.str (Str.ofString "x") u)) Q E s := ne_x true (by simp; omega) h
theorem ne_xF (h0 : n = 0) (h : Q (.bool false) s) : wpAny (model prog w) A (compareOp .NotEq (.str (seg n 1) t) (.str (Str.ofString "x") u)) Q E s := ne_x false (by simp [h0]) h
theorem eq_xT (h0 : n = 0) (h : Q (.bool true) s) : wpAny (model prog w) A (compareOp .Eq (.str (seg n 1) t) (.str (Str.ofString "x") u)) Q E s := eq_x true (by simp [h0]) h
theorem eq_xD (h : Q (.bool (decide (n = 0))) s) : wpAny (model prog w) A (compareOp .Eq (.str (seg n 1) t) (.str (Str.ofString "x") u)) Q E s := eq_x _ (by simp) h
end
theorem allLt_ne {d : Addr} (l : List (Addr × Obj)) (h : AllLt d l) : ∀ p ∈ l, p.1 ≠ d := fun p hp => Nat.ne_of_lt (allLt_mem l h p hp)
theorem up_pos {l a : Nat} (h : 0 < a) : up l a ≠ 0 := by unfold up; split <;> omega
theorem up_nil {l a : Nat} (h : a = 0) : up l a = 0 := by unfold up; split <;> omega
/-- the inner loop's word -/
def MailInv (a b n : Nat) (x : Str) : Prop := x = mail (up n a) (up n b)
theorem up_zero (a : Nat) : up 0 a = a := by unfold up; split <;> omega
theorem up_succ (n a : Nat) : upN (up n a) = up (n + 1) a := by unfold up upN; (repeat' split) <;> omega
theorem up_mono {n l a : Nat} (h : n ≤ l) : up n a ≤ up l a := by unfold up; split <;> omega
theorem mailInv_start (a b : Nat) : MailInv a b ([] : List Int).length (mail a b) := by
  show mail a b = mail (up 0 a) (up 0 b)
  rw [up_zero, up_zero]
theorem mailInv_next {a b : Nat} {pre : List Int} {k : Int} {x : Str} (_ : MailInv a b pre.length x) : MailInv a b (pre ++ [k]).length (mail (upN (up pre.length a)) (upN (up pre.length b))) := by
  rw [List.length_append, up_succ, up_succ]
  rfl
theorem quoAt (w : World) (mean : ExcName → Option Value) (mg mb : Str → Option Value) {a b n l : Nat} {x : Str} (h : MailInv a b n x) (hn : n < l) (ha : up l a ≤ 6) (hb : up l b ≤ 6) :
    TextTells w mean mg mb 48 x (mail (upN (up n a)) (upN (up n b))) := by
  have h1 := up_mono (a := a) (Nat.le_of_lt hn)
  have h2 := up_mono (a := b) (Nat.le_of_lt hn)
  have h3 : x = mail (up n a) (up n b) := h
  subst h3
  exact quoMail w mean mg mb (by omega) (by omega)
theorem mailInv_end {a b l : Nat} {x : Str} (h : MailInv a b (rangeKs 0 (65 + (l : Int) - 65 - 0).toNat).length x) : x = mail (up l a) (up l b) := by
  have e : (65 + (l : Int) - 65 - 0).toNat = l := by omega
  rw [rangeKs_length, e] at h
  exact h
theorem up_nil1 {l b : Nat} (h : b = 0) : up l b - 1 = 0 := by rw [up_nil h]
theorem run_not {z : Str} (hz : z ∉ runNames) : z ≠ Str.ofString "letter" ∧ z ≠ Str.ofString "mail" ∧ z ≠ Str.ofString "before" ∧ z ≠ Str.ofString "sending" ∧ z ≠ Str.ofString "after" ∧ z ≠ Str.ofString "which" ∧ runNames.contains z = false := by
  have h7 : runNames.contains z = false := by
    rw [Bool.eq_false_iff]
    intro e
    exact hz (by simpa using e)
  simp only [runNames, List.mem_cons, List.not_mem_nil, or_false, not_or] at hz
  exact ⟨hz.1, hz.2.1, hz.2.2.1, hz.2.2.2.1, hz.2.2.2.2.1, hz.2.2.2.2.2, h7⟩
theorem run_close {h₀ : Heap} {L : Addr} {m₀ : Str → Option Value} {N X0 X1 : Addr} {rest own all : List (Addr × Obj)} {st' : St} {s₁ : Shared} {f : Flow} {h' : Heap} {tk : Nat} {m' : Str → Option Value} {t u0 u1 u2 u3 : Tok} {n0 n1 : Nat} {a b : Nat} {p0 q0 p1 q1 : Int}
    (hf : (st'.b = 0 ∧ f = .brk) ∨ (st'.b ≠ 0 ∧ f = .next)) (F : Fr h₀ L h' m') (hN : News h₀ L h' all) (hm : m' (Str.ofString "mail") = some (.str (mail a b) t)) (hz : ∀ z, z ∉ runNames → m' z = m₀ z)
    (hs : ∀ p ∈ (N, listOf #[.ref X0, .ref X1] 0) :: (X1, listOf #[.int p1 u2, .int q1 u3] n1) :: (X0, listOf #[.int p0 u0, .int q0 u1] n0) :: (rest ++ own), p ∈ all)
    (ha : a = st'.a) (hb : b = st'.b) (c0 : p0 = st'.p0) (c1 : q0 = st'.q0) (c2 : p1 = st'.p1) (c3 : q1 = st'.q1) : RunTurn h₀ L m₀ N X0 X1 rest own st' s₁ f { s₁ with heap := h', toks := tk } := by
  subst ha hb c0 c1 c2 c3
  exact ⟨hf, h', tk, m', t, u0, u1, u2, u3, n0, n1, rfl, F, hm, hz, fun p hp => hN p (hs p hp)⟩
end Mine
end
-- part Run
section
open PySem PySem.W PyProof.Rows
set_option maxHeartbeats 4000000
namespace Mine
theorem toNat_lt3 {k : Int} (h : k < 3) : k.toNat < 3 := by omega
theorem toNat_lt7 {k : Int} (h : k ≤ 6) : k.toNat < 7 := by omega
theorem run_close2 {h₀ : Heap} {L L1 : Addr} {m₀ : Str → Option Value} {N X0 X1 : Addr} {rest own all : List (Addr × Obj)} {st' : St} {g h' : Heap} {gn dr oS} {tk tk1 : Nat} {f : Flow} {m' : Str → Option Value} {t u0 u1 u2 u3 : Tok} {n0 n1 : Nat} {a b : Nat} {p0 q0 p1 q1 : Int}
    (hL : L1 = L) (hf : (st'.b = 0 ∧ f = .brk) ∨ (st'.b ≠ 0 ∧ f = .next)) (F : Fr h₀ L1 h' m') (hN : News h₀ L1 h' all) (hm : m' (Str.ofString "mail") = some (.str (mail a b) t)) (hz : ∀ z, z ∉ runNames → m' z = m₀ z)
    (hs : ∀ p ∈ (N, listOf #[.ref X0, .ref X1] 0) :: (X1, listOf #[.int p1 u2, .int q1 u3] n1) :: (X0, listOf #[.int p0 u0, .int q0 u1] n0) :: (rest ++ own), p ∈ all)
    (ha : a = st'.a) (hb : b = st'.b) (c0 : p0 = st'.p0) (c1 : q0 = st'.q0) (c2 : p1 = st'.p1) (c3 : q1 = st'.q1) : RunTurn h₀ L m₀ N X0 X1 rest own st' ⟨g, gn, dr, tk1, oS⟩ f ⟨h', gn, dr, tk, oS⟩ := by
  subst ha hb c0 c1 c2 c3 hL
  exact ⟨hf, h', tk, m', t, u0, u1, u2, u3, n0, n1, rfl, F, hm, hz, fun p hp => hN p (hs p hp)⟩
def RunTells (w : World) (mean : ExcName → Option Value) (mg mb : Str → Option Value) : Prop :=
  ∀ (dp un : Nat) (gd : Option (List Code)) (cn : Str) (cs : Scope) (ad : Addr) (ccd : Value) (cl : List (Str × Addr)) (outer : List Env) (A₀ : Around) (base h₀ : Heap) (L : Addr) (m : Str → Option Value) (news : List (Addr × Obj)) (s : Shared)
    (Q E : Value → Shared → Prop) (word : Array UInt8) (letters : List Nat) (fin : St) (p c : Int) (tk tk2 tk3 : Tok),
    Below A₀ base outer h₀ → Fr h₀ L s.heap m → (hd.heap_39 w.params).In h₀ → News h₀ L s.heap news → Top hd.view_39 (looseW hd.view_39 [Str.ofString "_twin_re_1", Str.ofString "_twin_re_2"]) mean mg mb h₀ → cs.kind = .function →
    0 ≤ p → p < 6 → 0 ≤ c → c ≤ 6 → KBw.bInts word = letters.map (fun (l : Nat) => (65 : Int) + (l : Int)) → runF letters ⟨1, c.toNat, 0, 0, 0, 0⟩ = some fin → dp + 2 < recursionLimit → un + 16 < cLine →
    (∀ (D N X0 X1 : Addr) (t u0 u1 u2 u3 : Tok) (n0 n1 : Nat) (h' : Heap) (tk' : Nat), Fr h₀ L h' m → News h₀ L h' ((D, { cls := .type "tuple", data := .seq #[.ref N, .str (mail fin.a fin.b) t] }) :: runLed N X0 X1 fin u0 u1 u2 u3 n0 n1 news) →
      (∀ q ∈ runLed N X0 X1 fin u0 u1 u2 u3 n0 n1 news, q.1 < D) → Q (.ref D) { s with heap := h', toks := tk' }) →
    wpAny (model PySem.Challenge.rw_rw0023_01.row.prog w) (ktrTop dp un gd cn cs L ad ccd cl outer) (call (.ref 100) [.bytes word tk, .int c tk2, .int p tk3]) Q E s
local macro_rules | `(tactic| walk_at "binaryOp Add str str") => `(tactic| (first
  | (with_reducible refine run_add1 ?_; intro _ _)
  | (with_reducible refine run_add2 (by assumption) (by assumption) ?_; intro _ _)
  | (with_reducible refine run_add3 (by assumption) (by assumption) ?_; intro _ _)
  | (with_reducible refine run_add4 (by assumption) (by assumption) ?_; intro _ _)))
local macro_rules | `(tactic| walk_at "binaryOp Mult str int") => `(tactic| (with_reducible refine run_mul (by assumption) (by assumption) ?_; intro _ _))
local macro_rules | `(tactic| walk_at "subscriptTail Name BinOp ref int") => `(tactic| ((with_reducible show wpAny _ _ (subscriptTail (PySem.Expr.Name (Str.ofString "ends") _) _ _ _) _ _ _); k_dflt (refine ends_item (by k_asm) (by k_mem) (fmod3_lo _) (fmod3_hi _) ?_); intro _ _))
local macro_rules | `(tactic| walk_at "compareOp Eq str str") => `(tactic| (first | with_reducible refine dot_eqT ?_ | with_reducible refine dot_eqF ?_ | with_reducible refine dot_eqN ?_ | with_reducible refine eq_xT (up_nil (by with_reducible assumption)) ?_ | with_reducible refine eq_xD ?_))
local macro_rules | `(tactic| walk_at "compareOp NotEq str str") => `(tactic| (first | with_reducible refine ne_xT (by with_reducible assumption) ?_ | with_reducible refine ne_xF (by with_reducible assumption) ?_))
local macro_rules | `(tactic| walk_at "UnrEnd") => `(tactic| (k_dflt (refine UnrEnd.intro (by k_asm) (by k_asm) _ (fun _ h9 => h9) (allLt_ne _ (by assumption)) ?_)))
local macro_rules | `(tactic| walk_at "subscriptTail Name Slice str ref") => `(tactic| ((with_reducible show wpAny _ _ (subscriptTail (PySem.Expr.Name (Str.ofString "row") _) _ _ _) _ _ _); (with_reducible rename Fr _ _ _ _ => F'); (with_reducible rename News _ _ _ _ => N'); first
  | ((with_reducible show wpAny _ _ (subscriptTail _ (PySem.Expr.Slice none _ _ _) (Value.str (seg (up _ _) 1) _) _) _ _ _); first
    | (k_dflt (refine seg_headZ (s := ⟨_, _, _, _, _⟩) F' N' (up_nil (by with_reducible assumption)) ?_); intro h9 t9 k9 F9 N9)
    | (k_dflt (refine seg_headP (s := ⟨_, _, _, _, _⟩) F' N' (by with_reducible assumption) (up_pos (by with_reducible assumption)) ?_); intro h9 t9 k9 F9 N9))
  | ((with_reducible show wpAny _ _ (subscriptTail _ (PySem.Expr.Slice (some _) _ _ _) (Value.str (seg (up _ _) 1) _) _) _ _ _); k_dflt (refine seg_tail (s := ⟨_, _, _, _, _⟩) F' N' (by with_reducible assumption) (up_pos (by with_reducible assumption)) ?_); intro h9 t9 k9 F9 N9)
  | (k_dflt (refine nil_head (s := ⟨_, _, _, _, _⟩) F' N' ?_); intro h9 t9 k9 F9 N9)))
local macro_rules | `(tactic| walk_at "subscriptTail Name Name ref int") => `(tactic| ((with_reducible show wpAny _ _ (subscriptTail _ _ (Value.ref _) (Value.int _ _)) _ _ _); k_dflt (refine kim_list (by with_reducible assumption) (by k_mem) rfl rfl (by decide) (by decide) rfl ?_)))
local macro_rules | `(tactic| walk_at "subscriptTail Name Constant ref int") => `(tactic| ((with_reducible show wpAny _ _ (subscriptTail _ _ (Value.ref _) (Value.int _ _)) _ _ _); k_dflt (refine kim_list (by with_reducible assumption) (by k_mem) rfl rfl (by decide) (by decide) rfl ?_)))
local macro_rules | `(tactic| walk_at "subscriptTail Subscript") => `(tactic| ((with_reducible show wpAny _ _ (subscriptTail _ _ (Value.ref _) (Value.int _ _)) _ _ _); k_dflt (refine kim_list (by with_reducible assumption) (by k_mem) rfl rfl (by decide) (by decide) rfl ?_)))
local macro_rules | `(tactic| walk_at "subscriptTail") => `(tactic| ((with_reducible show wpAny _ _ (subscriptTail _ _ (Value.ref _) (Value.int _ _)) _ _ _); k_dflt (refine kim_list (by with_reducible assumption) (by k_mem) rfl rfl (by decide) (by decide) rfl ?_)))
local macro_rules | `(tactic| walk_at "subscriptTail Name BinOp ref int") => `(tactic| ((with_reducible show wpAny _ _ (subscriptTail (PySem.Expr.Name (Str.ofString "ends") _) _ _ _) _ _ _); k_dflt (refine ends_item (by k_asm) (by k_mem) (fmod3_lo _) (fmod3_hi _) ?_); intro _ _))
theorem runTells (w : World) (mean : ExcName → Option Value) (mg mb : Str → Option Value) : RunTells w mean mg mb := by
  unfold RunTells
  k_with_none
  k_fill
  intro dp un gd cn cs ad ccd cl outer A₀ base h₀ L m news s Q E word letters fin p c tk tk2 tk3 B F X N T hk h0 h6 hc0 hc6 hw hr hd hu hret
  refine wpAny_call ?_
  k_dflt cell_enter
  k_with "call ref" => first
    | ((with_reducible show wpAny _ _ (call (Value.ref 55) _) _ _ _); k_dflt (refine fixMail w mean mg mb (toNat_lt3 (fmod3_hi _)) (toNat_lt3 (fmod3_hi _)) (toNat_lt7 hc6) _ _ _ _ _ _ _ _ _ _ _ _ _ _ _ _ _ _ _ (by k_asm) (by k_asm) (by k_asm) (by k_asm) (by k_asm) (by first | exact rfl | assumption) (by ktr_room) (by ktr_units) ?_); intro t9 h9 tk9 F9 N9; (try dsimp only))
    | ((with_reducible show wpAny _ _ (call (Value.ref 48) _) _ _ _); with_reducible rename MailInv _ _ _ _ => hI9; k_dflt (refine quoAt w mean mg mb (l := l) hI9 (by omega) hua hub _ _ _ _ _ _ _ _ _ _ _ _ _ _ _ _ _ _ _ (by k_asm) (by k_asm) (by k_asm) (by k_asm) (by k_asm) (by first | exact rfl | assumption) (by ktr_room) (by ktr_units) ?_); intro t9 h9 tk9 F9 N9; (try dsimp only))
    | ((with_reducible show wpAny _ _ (call (Value.ref 76) _) _ _ _); k_dflt (refine levTells w mean mg mb (by omega) (by omega) _ _ _ _ _ _ _ _ _ _ _ _ _ _ _ _ _ _ _ _ _ (by k_asm) (by k_asm) (by k_asm) (by k_asm) (by k_asm) (by first | exact rfl | assumption) (by ktr_room) (by ktr_units) ?_); intro t9 h9 tk9 F9 N9; (try dsimp only))
  k_with "pyIter bytes" => (with_reducible rename Fr _ _ _ _ => F9; with_reducible rename News _ _ _ _ => N9; k_dflt (refine run_loop rfl F9 (news_thin N9) (by rfl) hw hr (fun st l tn tm v0 v1 v2 v3 n0 n1 ul hl tl own ha hb hua hub hl9 hoff F8 N8 => ?_) (fun m8 t8 v0 v1 v2 v3 n0 n1 h8 tk8 F8 N8 => ?_)))
  k_with "call builtin:str.split" => first
    | (k_dflt (refine mail_split (by with_reducible assumption) (by with_reducible assumption) rfl (by with_reducible assumption) (by with_reducible assumption) ?_); intro D9 t1 t2 t3 h9 k9 F9 N9 l9; (try k_lt l9))
    | (k_dflt (refine mail_split (by with_reducible assumption) (by with_reducible assumption) (mailInv_end (by with_reducible assumption)) (by with_reducible assumption) (by with_reducible assumption) ?_); intro D9 t1 t2 t3 h9 k9 F9 N9 l9; (try k_lt l9); rcases Nat.eq_zero_or_pos st.a with ha0 | ha0 <;> rcases Nat.eq_zero_or_pos st.b with hb0 | hb0)
  k_with "state" => first | exact mailInv_start _ _ | exact mailInv_next (by assumption)
  k_with "pyIter ref" => k_state (fun pre mail => MailInv st.a st.b pre.length mail) "mail"
  k_with "CompEnd" => (k_dflt (refine LCg.CompEnd.intro (by with_reducible assumption) (by with_reducible assumption) _ (fun _ h9 => h9) (by first | with_reducible assumption | (simp only [LCg.Off3, and_true]; with_reducible assumption)) (src_arr (List.Mem.head _)) ?_))
  k_with "call builtin:str.join" => (k_dflt (refine mail_join (by with_reducible assumption) (by k_mem) (by omega) (by omega) ?_); intro t9 k9)
  k_steps
  all_goals try dsimp only
  iterate 6 (focus
    (with_reducible rename Fr _ _ _ _ => F9)
    (with_reducible rename News _ _ _ _ => N9)
    (refine run_close2 (st' := stepSt l st) (by rfl) ?hf F9 N9 (if_pos rfl) ?hz (fun _ hp => List.Mem.tail _ (List.Mem.tail _ (List.Mem.tail _ hp))) ?ha ?hb ?c0 ?c1 ?c2 ?c3)
    case ha => (first | (show _ = up l st.a - 1; rw [up_nil ha0]) | exact rfl)
    case hb => (first | (show _ = up l st.b - 1; rw [up_nil hb0]) | exact rfl)
    case c0 => (first | exact (if_pos ha0).symm | exact (if_neg (Nat.ne_of_gt ha0)).symm)
    case c1 => (first | exact (if_pos ha0).symm | exact (if_neg (Nat.ne_of_gt ha0)).symm)
    case c2 => (first | exact (if_pos hb0).symm | exact (if_neg (Nat.ne_of_gt hb0)).symm)
    case c3 => (first | exact (if_pos hb0).symm | exact (if_neg (Nat.ne_of_gt hb0)).symm)
    case hz =>
      intro z hz
      obtain ⟨z1, z2, z3, z4, z5, z6, z7⟩ := run_not hz
      simp only [z1, z2, z3, z4, z5, z6, z7, if_false, List.contains_nil, Bool.false_eq_true]
    case hf => (first | exact .inl ⟨up_nil1 hb0, rfl⟩ | exact .inl ⟨show up l st.b - 1 = 0 by with_reducible assumption, rfl⟩ | exact .inr ⟨show up l st.b - 1 ≠ 0 by with_reducible assumption, rfl⟩))
  exact hret _ _ _ _ _ _ _ _ _ _ _ _ _ (by with_reducible assumption) (by with_reducible assumption) (by with_reducible assumption)
end Mine
end
-- part Enum
section
open PySem PySem.W PySem.Calls PyProof.Rows PyProof.V PySem.Spec PyProof.Rows.LCg
set_option maxHeartbeats 1000000
namespace Mine
theorem ad_lt {a b : Addr} (h : @LT.lt Nat _ a b) : a ≠ b := Nat.ne_of_lt h
theorem ad_gt {a b : Addr} (h : @LT.lt Nat _ b a) : a ≠ b := Nat.ne_of_gt h
/-- an element's end: the ledger as it was, the value within P -/
def EnEnd (h₀ : Heap) (L : Addr) (m : Str → Option Value) (s₁ : Shared) (led : List (Addr × Obj)) (P : Value → Prop) (y : Value) (s₂ : Shared) : Prop :=
  ∃ h' tk, s₂ = { s₁ with heap := h', toks := tk } ∧ Fr h₀ L h' m ∧ News h₀ L h' led ∧ P y
theorem EnEnd.intro {h₀ : Heap} {L : Addr} {m : Str → Option Value} {s₁ : Shared} {led all : List (Addr × Obj)} {P : Value → Prop} {y : Value} {h' : Heap} {tk : Nat} (F : Fr h₀ L h' m) (N : News h₀ L h' all) (sub : ∀ p ∈ led, p ∈ all) (hP : P y) :
    EnEnd h₀ L m s₁ led P y { s₁ with heap := h', toks := tk } := ⟨h', tk, rfl, F, fun p hp => N p (sub p hp), hP⟩
/-- the element for all turns -/
def EnElt (prog : Program) (w : World) (A : Around) (h₀ : Heap) (L : Addr) (m : Str → Option Value) (env : Env) (elt : PySem.Expr) (a b : Str) (scope : Scope) (cl : List (Str × Addr)) (s : Shared) (vs : List Value) (news : List (Addr × Obj)) (P : Value → Prop) : Prop :=
  ∀ (i : Nat) (v : Value) (t : Tok) (I : Addr) (oI : Obj) (J : Addr) (oJ : Obj) (C : Addr) (oC : Obj) (D : Addr) (ys : List Value) (m₂ : Str → Option Value) (h : Heap) (tk : Nat) (E' : Value → Shared → Prop), i < vs.length → vs[i]? = some v → NsObj oC m₂ → m₂ a = some (.int (i : Int) t) → m₂ b = some v →
    Fr h₀ L h m → News h₀ L h ((I, oI) :: (J, oJ) :: (C, oC) :: (D, lst ys) :: news) →
    wpAny (model prog w) A (eval elt (compEnvC scope cl C env)) (EnEnd h₀ L m { s with heap := h, toks := tk } ((I, oI) :: (J, oJ) :: (C, oC) :: (D, lst ys) :: news) P) E' { s with heap := h, toks := tk }
section
variable {prog : Program} {w : World} {A : Around} {E : Value → Shared → Prop} {s : Shared} {h₀ : Heap} {L : Addr} {m : Str → Option Value} {env : Env}
theorem en_block {elt iter : PySem.Expr} {a b : Str} {pa pb tp : Pos} {kk : Nat} {scope : Scope} {cl : List (Str × Addr)} {pos : Pos} {s₂ : Shared} {I J l : Addr} {lo : Obj} {vs : List Value} {news : List (Addr × Obj)} {P : Value → Prop} {RR : Value → Addr → Result → Shared → Prop}
    (hh : A.handled = none) (hIJ : I ≠ J) (hlI : l ≠ I) (hlJ : l ≠ J) (hsz : vs.length ≤ sizeLine) (hm : (l, lo) ∈ news)
    (hst : (∃ old, IsEnum s₂.heap I J (0 : Nat) old) ∧ s₂.heap.IsListIter J l 0 ∧ s₂.heap.IsList l vs.toArray)
    (hcell : ∀ y ∈ scope.names, y.2 ≠ .cell) (hkind : scope.kind = .function) (hxa : scope.names.lookup a = some .local) (hxb : scope.names.lookup b = some .local) (hab : ¬ a = b)
    (F : Fr h₀ L s₂.heap m) (N : News h₀ L s₂.heap news) (hIL : L ≠ I) (hJL : L ≠ J) (hI₀ : h₀.get? I = none) (hJ₀ : h₀.get? J = none) (off : ∀ p ∈ news, p.1 ≠ I ∧ p.1 ≠ J)
    (R : EnElt prog w A h₀ L m env elt a b scope cl s₂ vs news P)
    (hRR : ∀ D C h tk m' ys, Fr h₀ L h m → News h₀ L h ((D, lst ys) :: news) → h.Ns C m' → h₀.get? C = none → h₀.get? D = none → C ≠ L → D ≠ L → C ≠ D → (∀ p ∈ news, p.1 ≠ C ∧ p.1 < D) → ys.length = vs.length → (∀ y ∈ ys, P y) → RR (.ref D) C (.ok .next) { s₂ with heap := h, toks := tk }) :
    wpAny (model prog w) A (newList []) (fun acc s₃ => wpAny (model prog w) A (newFunctionEnv scope env.globals cl [] env.qual none .none (some env)) (fun cenv s₄ =>
      codeAny (model prog w) A (.compStart (.ListComp elt [⟨.Tuple [.Name a pa, .Name b pb] kk tp, iter, [], 0⟩] scope pos) 0 (.ref I) acc { cenv with scope := relabel scope env }) (RR acc cenv.locals) s₄) E s₃) E s₂ := by
  refine wpAny_newObj_type (wpAny_newFunctionEnv hcell (by intro y hy; simp at hy) (fun h₁ hns₁ hsb₁ => ?_) hkind)
  dsimp only at hns₁ hsb₁ ⊢
  generalize hH2 : s₂.heap.push { cls := .type "list", dict := none, data := .seq ([] : List Value).toArray } = H2 at hns₁ hsb₁ ⊢
  have hC : H2.objs.size = s₂.heap.objs.size + 1 := by rw [← hH2, Heap.size_push]
  generalize hCv : H2.objs.size = C at hC hns₁ hsb₁ ⊢
  generalize hDv : s₂.heap.objs.size = D at hC ⊢
  have low : ∀ x o, s₂.heap.get? x = some o → x < D := fun x o e => hDv ▸ Heap.lt_size e
  have hDltC : @LT.lt Nat _ D C := hC ▸ Nat.lt_succ_self D
  have hDC : D ≠ C := ad_lt hDltC
  have hIlt : I < D := low I _ hst.1.choose_spec
  have hJlt : J < D := by obtain ⟨_, e, _⟩ := hst.2.1; exact low J _ e
  have hllt : l < D := low l _ (N _ hm).1
  have hLlt : L < D := hDv ▸ F.ns.lt
  have hIC : I ≠ C := ad_lt (Nat.lt_trans hIlt hDltC)
  have hJC : J ≠ C := ad_lt (Nat.lt_trans hJlt hDltC)
  have hID : I ≠ D := ad_lt hIlt
  have hJD : J ≠ D := ad_lt hJlt
  have hlC : l ≠ C := ad_lt (Nat.lt_trans hllt hDltC)
  have hlD : l ≠ D := ad_lt hllt
  have hCL : C ≠ L := ad_gt (Nat.lt_trans hLlt hDltC)
  have hDL : D ≠ L := ad_gt hLlt
  have old : ∀ x o, s₂.heap.get? x = some o → h₁.get? x = some o := fun x o e => hsb₁.extBut x o (ad_lt (Nat.lt_trans (low x o e) hDltC)) (Heap.get?_push_of_some _ (hH2 ▸ Heap.get?_push_of_some _ e))
  have hacc : h₁.get? D = some (lst []) := hsb₁.extBut _ _ hDC (Heap.get?_push_of_some _ (by rw [← hH2, ← hDv]; exact Heap.get?_push_size _ rfl))
  have fresh₀ : ∀ x, D ≤ x → h₀.get? x = none := fun x hx => by
    cases e : h₀.get? x with
    | none => rfl
    | some o' => exact absurd (low x o' (F.keep x o' e)) (Nat.not_lt.mpr hx)
  have hD₀ : h₀.get? D = none := fresh₀ _ (Nat.le_refl _)
  have hC₀ : h₀.get? C = none := fresh₀ _ (Nat.le_of_lt hDltC)
  have W := (WalksT.enumerate (prog := prog) (w := w) hh I J l hIJ hlI hlJ vs.toArray).toU
  have hst₁ := W.frame 0 s₂.heap h₁ hst fun x _ o e => old x o e
  have nlow : ∀ p ∈ news, p.1 < D := fun p hp => low p.1 p.2 (N p hp).1
  have loop : ∀ s₃ : Shared, s₃ = { s₂ with heap := h₁, toks := s₂.toks + ([] : List (Str × Value)).length } →
      codeAny (model prog w) A (.compLoop (.ListComp elt [⟨.Tuple [.Name a pa, .Name b pb] kk tp, iter, [], 0⟩] scope pos) 0 (.ref I) (.ref D) (compEnvC scope cl C env)) (RR (.ref D) C) s₃ := by
    rintro s₃ rfl
    refine kcp_loop
      (fun k s' => ∃ h' tk i ys m', s' = { s₂ with heap := h', toks := tk } ∧ i ≤ vs.length ∧ k = vs.length + 1 - i ∧ ys.length = i ∧ (∀ y ∈ ys, P y) ∧ ((∃ old, IsEnum h' I J (i : Nat) old) ∧ h'.IsListIter J l i ∧ h'.IsList l vs.toArray) ∧ Fr h₀ L h' m ∧ h'.Ns C m' ∧
        News h₀ L h' ((D, lst ys) :: news)) ?_ (vs.length + 1) ⟨h₁, _, 0, [], _, rfl, Nat.zero_le _, rfl, rfl, (fun _ h => nomatch h), hst₁, F.keeps old, hns₁, fun p hp => ?_⟩
    · rintro k s' ⟨h', tk, i, ys, m', rfl, hi, rfl, hyl, hys, hst', F', hn', N'⟩
      by_cases hlt : i < vs.length
      · refine W.item i _ _ _ (by simpa using hlt) hst' fun T vals h₂ tk₂ hPt hT hMd hk₂ => ?_
        obtain ⟨t, x, hx, rfl⟩ := hPt
        refine W.go _ _ _ i T _ _ _ hMd fun h₃ hst₃ hk₃ => ?_
        have hT₃ : h₃.IsTuple T #[.int (i : Int) t, x] := hT.at fun o e => hk₃ T o (W.apart i T _ hMd) e
        have up₃ : ∀ c o, c ≠ I → c ≠ J → h'.get? c = some o → h₃.get? c = some o := fun c o h1 h2 e => hk₃ c o (by simp [h1, h2]) (hk₂ c o (by simp [h1, h2]) e)
        refine kcp_assign (env := compEnvC scope cl C env) hh hT₃ (lookup_relabel_local hxa) (lookup_relabel_local hxb) (by simp [compEnvC, relabel, hkind]) (hn'.at' fun o e => up₃ _ o (Ne.symm hIC) (Ne.symm hJC) e) fun h₄ tk₄ hn₄ hs₄ => ?_
        have up : ∀ c o, c ≠ I → c ≠ J → c ≠ C → h'.get? c = some o → h₄.get? c = some o := fun c o h1 h2 h3 e => hs₄ c o h3 (up₃ c o h1 h2 e)
        have hst₄ := W.frame (i + 1) h₃ h₄ hst₃ fun b hb o e => hs₄ b o (by
          have hb' : b = I ∨ b = J ∨ b = l := by simpa using hb
          rcases hb' with rfl | rfl | rfl
          · exact hIC
          · exact hJC
          · exact hlC) e
        obtain ⟨oI, heI⟩ : ∃ oI : Obj, h₄.get? I = some oI := ⟨_, hst₄.1.choose_spec⟩
        obtain ⟨oJ, heJ⟩ : ∃ oJ : Obj, h₄.get? J = some oJ := by obtain ⟨o, e, _⟩ := hst₄.2.1; exact ⟨o, e⟩
        obtain ⟨oC, heC, hoC⟩ := ns_obj hn₄
        have F₄ : Fr h₀ L h₄ m := ⟨F'.ns.at' fun o e => up _ o hIL hJL (Ne.symm hCL) e, fun c o e => up c o (fun q => by rw [q, hI₀] at e; cases e) (fun q => by rw [q, hJ₀] at e; cases e) (fun q => by rw [q, hC₀] at e; cases e) (F'.keep c o e), F'.above⟩
        have N₄ : News h₀ L h₄ ((I, oI) :: (J, oJ) :: (C, oC) :: (D, lst ys) :: news) := fun q hq => by
          rcases List.mem_cons.mp hq with rfl | hq
          · exact ⟨heI, Ne.symm hIL, hI₀⟩
          rcases List.mem_cons.mp hq with rfl | hq
          · exact ⟨heJ, Ne.symm hJL, hJ₀⟩
          rcases List.mem_cons.mp hq with rfl | hq
          · exact ⟨heC, hCL, hC₀⟩
          have z := N' q hq
          refine ⟨up _ _ ?_ ?_ ?_ z.1, z.2⟩
          · rcases List.mem_cons.mp hq with rfl | hq
            · exact Ne.symm hID
            · exact (off q hq).1
          · rcases List.mem_cons.mp hq with rfl | hq
            · exact Ne.symm hJD
            · exact (off q hq).2
          · rcases List.mem_cons.mp hq with rfl | hq
            · exact hDC
            · exact ad_lt (Nat.lt_trans (nlow q hq) hDltC)
        refine wpAny_mono (R i x t I oI J oJ C oC D ys _ h₄ _ _ hlt (by simpa using hx) hoC (by simp [hab]) (by simp) F₄ N₄) (fun y s₅ h₅ => ?_) fun _ _ e => e
        obtain ⟨h₅, tk₅, rfl, F₅, N₅, hPy⟩ := h₅
        have zI := (N₅ (I, oI) List.mem_cons_self).1
        have zJ := (N₅ (J, oJ) (List.mem_cons_of_mem _ List.mem_cons_self)).1
        have zC := (N₅ (C, oC) (List.mem_cons_of_mem _ (List.mem_cons_of_mem _ List.mem_cons_self))).1
        have zD := (N₅ (D, lst ys) (List.mem_cons_of_mem _ (List.mem_cons_of_mem _ (List.mem_cons_of_mem _ List.mem_cons_self)))).1
        have N₅' : News h₀ L h₅ news := fun q hq => N₅ q (List.mem_cons_of_mem _ (List.mem_cons_of_mem _ (List.mem_cons_of_mem _ (List.mem_cons_of_mem _ hq))))
        have N₄' : News h₀ L h₄ news := fun q hq => N₄ q (List.mem_cons_of_mem _ (List.mem_cons_of_mem _ (List.mem_cons_of_mem _ (List.mem_cons_of_mem _ hq))))
        refine append_at (hsz := by show ys.toArray.size ≤ sizeLine; rw [List.size_toArray, hyl]; exact Nat.le_trans hi hsz) zD fun h₆ hs₆ hD₆ => ?_
        refine ⟨vs.length + 1 - (i + 1), by omega, h₆, tk₅, i + 1, ys ++ [y], _, rfl, hlt, rfl, by rw [List.length_append, List.length_singleton, hyl], ?_, ?_, F₅.change hs₆ hDL hD₀, (hoC.ns zC).sameBut hs₆ (Ne.symm hDC), fun q hq => ?_⟩
        · intro z hz
          rcases List.mem_append.mp hz with hz | hz
          · exact hys z hz
          · rw [List.mem_singleton.mp hz]; exact hPy
        · refine W.frame (i + 1) h₄ h₆ hst₄ fun b hb o e => ?_
          have hb' : b = I ∨ b = J ∨ b = l := by simpa using hb
          rcases hb' with rfl | rfl | rfl
          · exact hs₆.extBut _ _ hID (by rw [heI] at e; rw [← e]; exact zI)
          · exact hs₆.extBut _ _ hJD (by rw [heJ] at e; rw [← e]; exact zJ)
          · exact hs₆.extBut _ _ hlD (by rw [(N₄' _ hm).1] at e; rw [← e]; exact (N₅' _ hm).1)
        · rcases List.mem_cons.mp hq with rfl | hq
          · exact ⟨hD₆.trans (congrArg some (lst_snoc ys y)), hDL, hD₀⟩
          · exact ⟨hs₆.extBut _ _ (ad_lt (nlow q hq)) (N₅' q hq).1, (N₅' q hq).2⟩
      · have hin : i = vs.length := Nat.le_antisymm hi (Nat.not_lt.mp hlt)
        subst hin
        refine W.done _ _ _ (by simpa using hst') fun h₂ tk₂ hk₂ => ?_
        have hk₃ : ∀ c o, c ≠ I → c ≠ J → h'.get? c = some o → h₂.get? c = some o := fun c o h1 h2 e => hk₂ c o (by simp [h1, h2]) e
        refine hRR D C h₂ tk₂ m' ys ⟨F'.ns.at' fun o e => hk₃ _ o hIL hJL e, fun c o e => hk₃ c o (fun q => by rw [q, hI₀] at e; cases e) (fun q => by rw [q, hJ₀] at e; cases e) (F'.keep c o e), F'.above⟩ (fun q hq => ?_) (hn'.at' fun o e => hk₃ _ o (Ne.symm hIC) (Ne.symm hJC) e) hC₀ hD₀ hCL hDL (Ne.symm hDC) (fun p hp => ⟨ad_lt (Nat.lt_trans (nlow p hp) hDltC), nlow p hp⟩) hyl hys
        have z := N' q hq
        refine ⟨hk₃ _ _ ?_ ?_ z.1, z.2⟩
        · rcases List.mem_cons.mp hq with rfl | hq
          · exact Ne.symm hID
          · exact (off q hq).1
        · rcases List.mem_cons.mp hq with rfl | hq
          · exact Ne.symm hJD
          · exact (off q hq).2
    · rcases List.mem_cons.mp hp with rfl | hp
      · exact ⟨hacc, hDL, hD₀⟩
      · exact ⟨old _ _ (N p hp).1, (N p hp).2⟩
  exact codeAny_compStart_list (loop _ rfl) (W.self 0 _ _ _ hst₁ (loop _ rfl))
/-- the source, called -/
def EnSrc (prog : Program) (w : World) (A : Around) (h₀ : Heap) (L : Addr) (m : Str → Option Value) (env : Env) (elt : PySem.Expr) (a b : Str) (scope : Scope) (cl : List (Str × Addr)) (P : Value → Prop) (Fin : Shared → List Value → Nat → List (Addr × Obj) → Prop) (xv : Value) (s₁ : Shared) : Prop :=
  ∃ (I J l : Addr) (lo : Obj) (vs : List Value) (news : List (Addr × Obj)), xv = .ref I ∧ A.handled = none ∧ I ≠ J ∧ l ≠ I ∧ l ≠ J ∧ vs.length ≤ sizeLine ∧ (l, lo) ∈ news ∧
    ((∃ old, IsEnum s₁.heap I J (0 : Nat) old) ∧ s₁.heap.IsListIter J l 0 ∧ s₁.heap.IsList l vs.toArray) ∧ Fr h₀ L s₁.heap m ∧ News h₀ L s₁.heap news ∧ L ≠ I ∧ L ≠ J ∧ h₀.get? I = none ∧ h₀.get? J = none ∧ (∀ p ∈ news, p.1 ≠ I ∧ p.1 ≠ J) ∧
    EnElt prog w A h₀ L m env elt a b scope cl s₁ vs news P ∧ Fin s₁ [] vs.length news
/-- what is left behind an assignment's comprehension -/
def EnFin (h₀ : Heap) (L : Addr) (m : Str → Option Value) (y : Str) (P : Value → Prop) (Q : Flow → Shared → Prop) (s₁ : Shared) (_ : List Value) (n : Nat) (news : List (Addr × Obj)) : Prop :=
  ∀ ys D h tk, ys.length = n → (∀ v ∈ ys, P v) → Fr h₀ L h (fun z => if z = y then some (.ref D) else m z) → News h₀ L h ((D, lst ys) :: news) → (∀ p ∈ news, p.1 < D) → Q .next { s₁ with heap := h, toks := tk }
theorem EnSrc.call {elt : PySem.Expr} {a b : Str} {scope : Scope} {cl : List (Str × Addr)} {P : Value → Prop} {Fin : Shared → List Value → Nat → List (Addr × Obj) → Prop} {l : Addr} {n : Nat} {vs : List Value} {news : List (Addr × Obj)}
    (hh : A.handled = none) (F : Fr h₀ L s.heap m) (N : News h₀ L s.heap news) (hm : (l, listOf vs.toArray n) ∈ news) (hsz : vs.length ≤ sizeLine)
    (R : ∀ h', EnElt prog w A h₀ L m env elt a b scope cl { s with heap := h' } vs news P) (fin : ∀ h', Fin { s with heap := h' } [] vs.length news) :
    wpAny (model prog w) A (call (.type "enumerate") [.ref l]) (EnSrc prog w A h₀ L m env elt a b scope cl P Fin) E s := by
  have hax := N _ hm
  have hl : s.heap.IsList l vs.toArray := ⟨_, hax.1, rfl, n, rfl⟩
  have hlt : l < s.heap.objs.size := Heap.lt_size hax.1
  have hLs : L < s.heap.objs.size := F.ns.lt
  refine call_enumerate_list hl fun h' hE hI hsz' hk => ?_
  have fresh₀ : ∀ x, s.heap.objs.size ≤ x → h₀.get? x = none := fun x hx => by
    cases e : h₀.get? x with
    | none => rfl
    | some o' => exact absurd (Heap.lt_size (F.keep x o' e)) (Nat.not_lt.mpr hx)
  refine ⟨_, _, l, _, vs, news, rfl, hh, Nat.succ_ne_self _, ad_lt (Nat.lt_succ_of_lt hlt), ad_lt hlt, hsz, hm, ⟨⟨.none, hE⟩, hI, hl.at fun o e => hk l o e⟩, F.keeps hk, N.grown hk, ad_lt (Nat.lt_succ_of_lt hLs), ad_lt hLs, fresh₀ _ (Nat.le_succ _), fresh₀ _ (Nat.le_refl _), fun p hp => ?_, R h', fin h'⟩
  have := Heap.lt_size (N p hp).1
  exact ⟨ad_lt (Nat.lt_succ_of_lt this), ad_lt this⟩
theorem en_Assign {elt iter : PySem.Expr} {a b y : Str} {pa pb tp py : Pos} {kk : Nat} {scope : Scope} {cl : List (Str × Addr)} {pos spos : Pos} {Q : Flow → Shared → Prop} (P : Value → Prop) (_F₀ : Fr h₀ L s.heap m) (hLe : env.locals = L)
    (hsw : swapsWith (.ListComp elt [⟨.Tuple [.Name a pa, .Name b pb] kk tp, iter, [], 0⟩] scope pos) (some (.Name y py)) spos.line env = pure true)
    (hclos : closureFor scope env = pure cl) (hcell : ∀ z ∈ scope.names, z.2 ≠ .cell) (hkind : scope.kind = .function)
    (hnames : ∀ z ∈ scope.names, z.2 = .local → scope.names.lookup z.1 = some .local) (hxa : scope.names.lookup a = some .local) (hxb : scope.names.lookup b = some .local) (hab : ¬ a = b)
    (hy : env.kindOf y = some .local) (hp : (env.scope.kind == .class || (env.scope.kind == .module && env.locals != env.globals)) = false)
    (h : wpAny (model prog w) A (eval iter env) (EnSrc prog w A h₀ L m env elt a b scope cl P (EnFin h₀ L m y P Q)) E s)
    (hs : ∀ x, foldedSetIterable iter env x = pure x := by intro _; rfl) :
    wpAny (model prog w) A (exec (.Assign [.Name y py] (.ListComp elt [⟨.Tuple [.Name a pa, .Name b pb] kk tp, iter, [], 0⟩] scope pos) spos) env) Q E s := by
  subst hLe
  rw [exec_Assign_Name_used _ _ _ _ hsw]
  refine wpAny_bind (wpAny_standAt (wpAny_bind ?_))
  show wpAny _ A (do let _ ← comprehension (.ListComp elt [⟨.Tuple [.Name a pa, .Name b pb] kk tp, iter, [], 0⟩] scope pos) scope env _ (newList []) false (eval iter env) (some (assign (.Name y py) env))) _ _ s
  refine wpAny_bind (wpAny_mono (wpAny_comprehension_free (use := some (assign (.Name y py) env)) (Q := fun _ s' => Q .next s') rfl hs hclos hkind hnames
    (wpAny_mono h (fun xv s₁ h₁ => ?_) fun _ _ e => e)) (fun _ s' hq => wpAny_pure (wpAny_pure hq)) fun _ _ e => e)
  obtain ⟨I, J, l, lo, vs, news, rfl, hh, hIJ, hlI, hlJ, hsz, hm, hst, F, N, hIL, hJL, hI₀, hJ₀, off, R, fin⟩ := h₁
  refine wpAny_pyIter_enum hst.1.choose_spec ?_
  refine en_block hh hIJ hlI hlJ hsz hm hst hcell hkind hxa hxb hab F N hIL hJL hI₀ hJ₀ off R ?_
  intro D C h' tk m' ys F' N' hn hC₀ hD₀ hCL hDL hCD offC hyl hys
  show wpAny _ A (assign (.Name y py) env (.ref D)) _ _ _
  refine wpAny_assign_Name (wpAny_storeName_local hy F'.ns (fun h₂ hn₂ hs₂ => ?_) hp)
  have hL₀ : h₀.get? env.locals = none := Heap.get?_none_of_le F'.above
  have F₂ : Fr h₀ env.locals h₂ (fun z => if z = y then some (.ref D) else m z) := ⟨hn₂, fun b o e => hs₂.extBut b o (fun q => by rw [q, hL₀] at e; cases e) (F'.keep b o e), F'.above⟩
  refine ⟨m', hn.sameBut hs₂ hCL, fun h'' hs'' => fin ys D h'' _ hyl hys (F₂.change hs'' hCL hC₀) (fun p hp => ?_) fun p hp => (offC p hp).2⟩
  have z : h₂.get? p.1 = some p.2 := hs₂.extBut _ _ (N' p hp).2.1 (N' p hp).1
  refine ⟨hs''.extBut _ _ ?_ z, (N' p hp).2⟩
  rcases List.mem_cons.mp hp with rfl | hp
  · exact Ne.symm hCD
  · exact (offC p hp).1
def EnFinE (h₀ : Heap) (L : Addr) (m : Str → Option Value) (P : Value → Prop) (Q : Value → Shared → Prop) (s₁ : Shared) (_ : List Value) (n : Nat) (news : List (Addr × Obj)) : Prop :=
  ∀ ys D h tk, ys.length = n → (∀ v ∈ ys, P v) → Fr h₀ L h m → News h₀ L h ((D, lst ys) :: news) → (∀ p ∈ news, p.1 < D) → Q (.ref D) { s₁ with heap := h, toks := tk }
theorem en_ListComp {elt iter : PySem.Expr} {a b : Str} {pa pb tp : Pos} {kk : Nat} {scope : Scope} {cl : List (Str × Addr)} {pos : Pos} {Q : Value → Shared → Prop} (P : Value → Prop) (_F₀ : Fr h₀ L s.heap m)
    (hclos : closureFor scope env = pure cl) (hcell : ∀ z ∈ scope.names, z.2 ≠ .cell) (hkind : scope.kind = .function)
    (hnames : ∀ z ∈ scope.names, z.2 = .local → scope.names.lookup z.1 = some .local) (hxa : scope.names.lookup a = some .local) (hxb : scope.names.lookup b = some .local) (hab : ¬ a = b)
    (h : wpAny (model prog w) A (eval iter env) (EnSrc prog w A h₀ L m env elt a b scope cl P (EnFinE h₀ L m P Q)) E s)
    (hs : ∀ x, foldedSetIterable iter env x = pure x := by intro _; rfl) :
    wpAny (model prog w) A (eval (.ListComp elt [⟨.Tuple [.Name a pa, .Name b pb] kk tp, iter, [], 0⟩] scope pos) env) Q E s := by
  rw [eval_ListComp]
  refine wpAny_comprehension_free (use := none) rfl hs hclos hkind hnames (wpAny_mono h (fun xv s₁ h₁ => ?_) fun _ _ e => e)
  obtain ⟨I, J, l, lo, vs, news, rfl, hh, hIJ, hlI, hlJ, hsz, hm, hst, F, N, hIL, hJL, hI₀, hJ₀, off, R, fin⟩ := h₁
  refine wpAny_pyIter_enum hst.1.choose_spec ?_
  refine en_block hh hIJ hlI hlJ hsz hm hst hcell hkind hxa hxb hab F N hIL hJL hI₀ hJ₀ off R ?_
  intro D C h' tk m' ys F' N' hn hC₀ hD₀ hCL hDL hCD offC hyl hys
  refine ⟨m', hn, fun h'' hs'' => fin ys D h'' _ hyl hys (F'.change hs'' hCL hC₀) (fun p hp => ?_) fun p hp => (offC p hp).2⟩
  refine ⟨hs''.extBut _ _ ?_ (N' p hp).1, (N' p hp).2⟩
  rcases List.mem_cons.mp hp with rfl | hp
  · exact Ne.symm hCD
  · exact (offC p hp).1
end
end Mine
end
-- part LawL
section
open PySem PySem.W PySem.Calls PyProof.Rows PyProof.V PySem.Spec PyProof.Rows.LCg
set_option maxHeartbeats 1000000
namespace Mine
def IsPick (v : Value) : Prop := ∃ (k : Int) (t : Tok), v = .int k t ∧ 0 ≤ k ∧ k < 7
theorem picks_ints : ∀ {ys : List Value}, (∀ v ∈ ys, IsPick v) → ∃ ns, IntsAre ys ns ∧ ∀ k ∈ ns, 0 ≤ k ∧ k < 7
  | [], _ => ⟨[], .nil, fun _ h => nomatch h⟩
  | v :: r, h => by
    obtain ⟨ns, h1, h2⟩ := picks_ints fun u hu => h u (List.mem_cons_of_mem _ hu)
    obtain ⟨k, t, rfl, h3⟩ := h v List.mem_cons_self
    refine ⟨k :: ns, .cons _ _ h1, fun j hj => ?_⟩
    rcases List.mem_cons.mp hj with rfl | hj
    · exact h3
    · exact h2 j hj
section
variable {prog : Program} {w : World} {A : Around} {E : Value → Shared → Prop} {s : Shared} {h₀ : Heap} {L : Addr} {m : Str → Option Value} {news : List (Addr × Obj)} {value slice : PySem.Expr} {l : Addr} {vs : List Value} {ns : List Int} {lo hi st : Option Int} {vl vu vk : Value} {Q : Value → Shared → Prop} {ops : List Value}
theorem pick_ints (F : Fr h₀ L s.heap m) (N : News h₀ L s.heap news) (hl : s.heap.IsList l vs.toArray) (hi' : IntsAre vs ns) (hn : ns.length ≤ 100) (pl : IsPart vl lo) (pu : IsPart vu hi) (pk : IsPart vk st) (h0 : st ≠ some 0)
    (h : ∀ D ws ms h', IntsAre ws ms → Fr h₀ L h' m → News h₀ L h' ((D, listOf ws.toArray 0) :: news) → (∀ p ∈ news, p.1 < D) → Q (.ref D) { s with heap := h' })
    (hs : subscripted slice false (.ref l) (.ref s.heap.objs.size) = operate ops (getItem (.ref l) (.ref s.heap.objs.size)) := by with_unfolding_all rfl)
    (ht : ∀ r, letTemporaryGo value (.ref l) r = pure () := by intro _; with_unfolding_all rfl) :
    wpAny (model prog w) A (subscriptTail value slice (.ref l) (.ref s.heap.objs.size)) Q E { s with heap := s.heap.push { cls := .type "slice", data := .fields #[vl, vu, vk] } } := by
  have e : vs.toArray.size = ns.length := by rw [List.size_toArray]; exact hi'.length
  have big : (100 : Nat) ≤ sizeLine := by decide
  refine slice_list3 F N hl pl pu pk h0 (fun h' F' N' => ?_) hs ht (by rw [e]; omega)
  refine h _ (slicePick vs.toArray lo hi st).toList _ h' (hi'.pick lo hi st) F' ?_ fun p hp => Nat.lt_succ_of_lt (Heap.lt_size (N p hp).1)
  exact N'
end
theorem fmod7 (x : Int) : 0 ≤ x.fmod 7 ∧ x.fmod 7 < 7 := by
  rw [Int.fmod_eq_emod_of_nonneg x (by decide)]; omega
theorem five_int {a b c d e : Int} {t1 t2 t3 t4 t5 : Tok} {i : Nat} {v : Value} (h : [Value.int a t1, .int b t2, .int c t3, .int d t4, .int e t5][i]? = some v) : ∃ k t, v = .int k t := by
  rcases i with _ | _ | _ | _ | _ | i <;> simp at h <;> exact ⟨_, _, h.symm⟩
end Mine
end
-- part MkComp
section
open PySem PySem.W PySem.Calls PyProof.Rows PyProof.V PySem.Spec PyProof.Rows.LCg
set_option maxHeartbeats 1000000
namespace Mine
section
variable {M : Model} {A : Around} {E : Value → Shared → Prop} {s : Shared}
theorem newEnv_cell {scope : Scope} {globals : Addr} {cl : List (Str × Addr)} {x : Str} {qual : Str} {code : Value} {func : Option Addr} {env : Env} {builtins : Addr} {Q : Env → Shared → Prop}
    (hc : ∀ k, cellsFrom k scope.names cl = (x, k) :: cl) (hp : ∀ h, pushCells h scope.names = h.push { cls := .type "cell", data := .cell none })
    (hQ : Q (newEnv scope s.heap.objs.size globals ((x, s.heap.objs.size + 1) :: cl) qual func code (some env) builtins) { s with heap := (s.heap.push { cls := .type "dict", data := .dict #[] }).push { cls := .type "cell", data := .cell none } }) :
    wpAny M A (newFunctionEnv scope globals cl [] qual func code (some env) builtins) Q E s := by
  simp only [newFunctionEnv, Option.isSome_some, if_true]
  refine wpAny_bind (wpAny_alloc ?_)
  refine wpAny_bind (wpAny_layCells _ (fun name kind cells => by cases hkc : kind == NameKind.cell <;> simp [hkc]) _ _ _ _ ?_)
  rw [hc, hp]
  rw [List.forIn_nil]
  refine wpAny_bind (wpAny_pure (wpAny_pure ?_))
  rw [show ({ s with heap := s.heap.push { cls := .type "dict", data := .dict #[] } } : Shared).heap.objs.size = s.heap.objs.size + 1 from Heap.size_push ..]
  exact hQ
end
/-- the lists made, one a turn -/
def MadeAre (f : Nat → List Int) (xs : List Addr) (made : List (Addr × Obj)) : Prop := ∀ j, j < xs.length → ∃ (ws : List Value) (k : Nat), IntsAre ws (f j) ∧ (xs.getD j 0, listOf ws.toArray k) ∈ made
def MkEnd (h₀ : Heap) (L : Addr) (m : Str → Option Value) (s₁ : Shared) (led : List (Addr × Obj)) (ns : List Int) (y : Value) (s₂ : Shared) : Prop :=
  ∃ (x : Addr) (ws : List Value) (k : Nat) (h' : Heap) (tk : Nat), y = .ref x ∧ s₂ = { s₁ with heap := h', toks := tk } ∧ IntsAre ws ns ∧ Fr h₀ L h' m ∧ News h₀ L h' ((x, listOf ws.toArray k) :: led) ∧ Off1 x led
def MkElt (prog : Program) (w : World) (A : Around) (h₀ : Heap) (L : Addr) (m : Str → Option Value) (env : Env) (elt : PySem.Expr) (x : Str) (scope : Scope) (cl : List (Str × Addr)) (s : Shared) (n : Nat) (a : Int) (news : List (Addr × Obj)) (f : Nat → List Int) : Prop :=
  ∀ (i : Nat) (t : Tok) (I : Addr) (oI : Obj) (T : Addr) (oT : Obj) (C : Addr) (oC : Obj) (D : Addr) (ys : List Value) (made : List (Addr × Obj)) (h : Heap) (tk : Nat) (E' : Value → Shared → Prop), i < n → oT.data = .cell (some (.int (a + (i : Int)) t)) →
    Fr h₀ L h m → News h₀ L h ((I, oI) :: (T, oT) :: (C, oC) :: (D, lst ys) :: (news ++ made)) →
    wpAny (model prog w) A (eval elt (compEnvC scope ((x, T) :: cl) C env)) (MkEnd h₀ L m { s with heap := h, toks := tk } ((I, oI) :: (T, oT) :: (C, oC) :: (D, lst ys) :: (news ++ made)) (f i)) E' { s with heap := h, toks := tk }
theorem off1_mem {D : Addr} : ∀ {l : List (Addr × Obj)}, Off1 D l → ∀ p ∈ l, p.1 ≠ D
  | [], _, _, h => nomatch h
  | _ :: _, x, p, h => by
    rcases List.mem_cons.mp h with rfl | h
    · exact x.1
    · exact off1_mem x.2 p h
section
variable {prog : Program} {w : World} {A : Around} {E : Value → Shared → Prop} {s : Shared} {h₀ : Heap} {L : Addr} {m : Str → Option Value} {env : Env}
theorem mkc_block {elt iter : PySem.Expr} {x : Str} {px : Pos} {scope : Scope} {cl : List (Str × Addr)} {pos : Pos} {s₂ : Shared} {I : Addr} {n : Nat} {a : Int} {news : List (Addr × Obj)} {f : Nat → List Int} {RR : Value → Addr → Result → Shared → Prop}
    (hh : A.handled = none) (hsz : n ≤ sizeLine) (hst : IsRangeIter s₂.heap I (a + (0 : Nat) * 1) ((n : Int) - (0 : Nat)) 1)
    (hc : ∀ k, cellsFrom k scope.names cl = (x, k) :: cl) (hpc : ∀ h, pushCells h scope.names = h.push { cls := .type "cell", data := .cell none }) (hkind : scope.kind = .function)
    (hxk : (relabel scope env).names.lookup x = some .cell)
    (F : Fr h₀ L s₂.heap m) (N : News h₀ L s₂.heap news) (hIL : L ≠ I) (hI₀ : h₀.get? I = none) (off : ∀ p ∈ news, p.1 ≠ I)
    (R : MkElt prog w A h₀ L m env elt x scope cl s₂ n a news f)
    (hRR : ∀ D C h tk m' xs made, Fr h₀ L h m → News h₀ L h ((D, lst (xs.map Value.ref)) :: (news ++ made)) → h.Ns C m' → h₀.get? C = none → C ≠ L → C ≠ D → (∀ p ∈ news ++ made, p.1 ≠ C ∧ p.1 ≠ D) → xs.length = n → MadeAre f xs made → RR (.ref D) C (.ok .next) { s₂ with heap := h, toks := tk }) :
    wpAny (model prog w) A (newList []) (fun acc s₃ => wpAny (model prog w) A (newFunctionEnv scope env.globals cl [] env.qual none .none (some env)) (fun cenv s₄ =>
      codeAny (model prog w) A (.compStart (.ListComp elt [⟨.Name x px, iter, [], 0⟩] scope pos) 0 (.ref I) acc { cenv with scope := relabel scope env }) (RR acc cenv.locals) s₄) E s₃) E s₂ := by
  refine wpAny_newObj_type (newEnv_cell hc hpc ?_)
  dsimp only
  generalize hH2 : s₂.heap.push { cls := .type "list", dict := none, data := .seq ([] : List Value).toArray } = H2
  have hC : H2.objs.size = s₂.heap.objs.size + 1 := by rw [← hH2, Heap.size_push]
  have old2 : ∀ x o, s₂.heap.get? x = some o → H2.get? x = some o := fun x o e => hH2 ▸ Heap.get?_push_of_some _ e
  have hacc2 : H2.get? s₂.heap.objs.size = some (lst []) := by rw [← hH2]; exact Heap.get?_push_size _ rfl
  have hCsz : (H2.push { cls := .type "dict", data := .dict #[] }).objs.size = H2.objs.size + 1 := Heap.size_push ..
  generalize hh1 : (H2.push { cls := .type "dict", data := .dict #[] }).push { cls := .type "cell", data := .cell none } = h₁
  have old1 : ∀ x o, H2.get? x = some o → h₁.get? x = some o := fun x o e => hh1 ▸ Heap.get?_push_of_some _ (Heap.get?_push_of_some _ e)
  have hns₁ : h₁.Ns H2.objs.size (fun _ => none) := by
    rw [← hh1]
    exact (Heap.Ns.new H2 (.type "dict")).keeps fun _ _ e => Heap.get?_push_of_some _ e
  have hT₁ : h₁.IsCell (H2.objs.size + 1) none := by
    rw [← hh1, ← hCsz]
    exact ⟨_, Heap.get?_push_size _ rfl, rfl⟩
  generalize hCv : H2.objs.size = C at hC hns₁ hT₁ ⊢
  generalize hDv : s₂.heap.objs.size = D at hC hacc2 ⊢
  generalize hTv : C + 1 = T at hT₁ ⊢
  have low : ∀ x o, s₂.heap.get? x = some o → x < D := fun x o e => hDv ▸ Heap.lt_size e
  have hDltC : @LT.lt Nat _ D C := hC ▸ Nat.lt_succ_self D
  have hCltT : @LT.lt Nat _ C T := hTv ▸ Nat.lt_succ_self C
  have hDC : D ≠ C := ad_lt hDltC
  have hDT : D ≠ T := ad_lt (Nat.lt_trans hDltC hCltT)
  have hCT : C ≠ T := ad_lt hCltT
  have hIlt : I < D := low I _ hst
  have hLlt : L < D := hDv ▸ F.ns.lt
  have hIC : I ≠ C := ad_lt (Nat.lt_trans hIlt hDltC)
  have hIT : I ≠ T := ad_lt (Nat.lt_trans hIlt (Nat.lt_trans hDltC hCltT))
  have hID : I ≠ D := ad_lt hIlt
  have hCL : C ≠ L := ad_gt (Nat.lt_trans hLlt hDltC)
  have hTL : T ≠ L := ad_gt (Nat.lt_trans hLlt (Nat.lt_trans hDltC hCltT))
  have hDL : D ≠ L := ad_gt hLlt
  have old : ∀ x o, s₂.heap.get? x = some o → h₁.get? x = some o := fun x o e => old1 x o (old2 x o e)
  have hacc : h₁.get? D = some (lst []) := old1 _ _ hacc2
  have fresh₀ : ∀ x, D ≤ x → h₀.get? x = none := fun x hx => by
    cases e : h₀.get? x with
    | none => rfl
    | some o' => exact absurd (low x o' (F.keep x o' e)) (Nat.not_lt.mpr hx)
  have hD₀ : h₀.get? D = none := fresh₀ _ (Nat.le_refl _)
  have hC₀ : h₀.get? C = none := fresh₀ _ (Nat.le_of_lt hDltC)
  have hT₀ : h₀.get? T = none := fresh₀ _ (Nat.le_of_lt (Nat.lt_trans hDltC hCltT))
  have W := range_walks (prog := prog) (w := w) (I := I) hh a n
  have hst₁ := W.frame 0 s₂.heap h₁ hst fun x _ o e => old x o e
  have nlow : ∀ p ∈ news, p.1 < D := fun p hp => low p.1 p.2 (N p hp).1
  have loop : ∀ s₃ : Shared, s₃ = { s₂ with heap := h₁ } →
      codeAny (model prog w) A (.compLoop (.ListComp elt [⟨.Name x px, iter, [], 0⟩] scope pos) 0 (.ref I) (.ref D) (compEnvC scope ((x, T) :: cl) C env)) (RR (.ref D) C) s₃ := by
    rintro s₃ rfl
    refine codeAny_compLoop_list
      (fun k s' => ∃ h' tk i xs m' made, s' = { s₂ with heap := h', toks := tk } ∧ i ≤ n ∧ k = n + 1 - i ∧ xs.length = i ∧ IsRangeIter h' I (a + (i : Nat) * 1) ((n : Int) - (i : Nat)) 1 ∧ Fr h₀ L h' m ∧ h'.Ns C m' ∧ (∃ v, h'.IsCell T v) ∧
        News h₀ L h' ((D, lst (xs.map Value.ref)) :: (news ++ made)) ∧ (∀ p ∈ news ++ made, p.1 ≠ I ∧ p.1 ≠ C ∧ p.1 ≠ T ∧ p.1 ≠ D) ∧ MadeAre f xs made) ?_ (n + 1)
      ⟨h₁, _, 0, [], _, [], rfl, Nat.zero_le _, rfl, rfl, hst₁, F.keeps old, hns₁, ⟨_, hT₁⟩, ?_, ?_, fun j hj => absurd hj (Nat.not_lt_zero _)⟩
    · rintro k s' ⟨h', tk, i, xs, m', made, rfl, hi, rfl, hyl, hst', F', hn', ⟨v', hT'⟩, N', off', hmade⟩
      by_cases hlt : i < n
      · refine W.item i _ _ _ hlt hst' fun v h₂ tk₂ hP hst₂ hk₂ => ?_
        obtain ⟨t, rfl⟩ := hP
        have up₂ : ∀ c o, c ≠ I → h'.get? c = some o → h₂.get? c = some o := fun c o h1 e => hk₂ c o (by simp [h1]) e
        have hT₂ : h₂.IsCell T v' := by obtain ⟨o, e, d⟩ := hT'; exact ⟨o, up₂ _ _ (Ne.symm hIT) e, d⟩
        refine wpAny_assign_Name (wpAny_storeName_cell (env := compEnvC scope ((x, T) :: cl) C env) hkind hxk (by simp [compEnvC]) hT₂ fun h₄ hT₄ hs₄ => ?_)
        have up : ∀ c o, c ≠ I → c ≠ T → h'.get? c = some o → h₄.get? c = some o := fun c o h1 h2 e => hs₄.extBut c o h2 (up₂ c o h1 e)
        have hst₄ := W.frame (i + 1) h₂ h₄ hst₂ fun b hb o e => hs₄.extBut b o (by rw [List.mem_singleton.mp hb]; exact hIT) e
        obtain ⟨oI, heI⟩ : ∃ oI : Obj, h₄.get? I = some oI := ⟨_, hst₄⟩
        obtain ⟨oT, heT, hoT⟩ := hT₄
        have hn₄ : h₄.Ns C m' := hn'.at' fun o e => up _ o (Ne.symm hIC) hCT e
        obtain ⟨oC, heC, hoC⟩ := ns_obj hn₄
        have F₄ : Fr h₀ L h₄ m := ⟨F'.ns.at' fun o e => up _ o hIL (Ne.symm hTL) e, fun c o e => up c o (fun q => by rw [q, hI₀] at e; cases e) (fun q => by rw [q, hT₀] at e; cases e) (F'.keep c o e), F'.above⟩
        have N₄ : News h₀ L h₄ ((I, oI) :: (T, oT) :: (C, oC) :: (D, lst (xs.map Value.ref)) :: (news ++ made)) := fun q hq => by
          rcases List.mem_cons.mp hq with rfl | hq
          · exact ⟨heI, Ne.symm hIL, hI₀⟩
          rcases List.mem_cons.mp hq with rfl | hq
          · exact ⟨heT, hTL, hT₀⟩
          rcases List.mem_cons.mp hq with rfl | hq
          · exact ⟨heC, hCL, hC₀⟩
          have z := N' q hq
          refine ⟨up _ _ ?_ ?_ z.1, z.2⟩
          · rcases List.mem_cons.mp hq with rfl | hq
            · exact Ne.symm hID
            · exact (off' q hq).1
          · rcases List.mem_cons.mp hq with rfl | hq
            · exact hDT
            · exact (off' q hq).2.2.1
        refine wpAny_mono (R i t I oI T oT C oC D _ made h₄ _ _ hlt hoT F₄ N₄) (fun y s₅ h₅ => ?_) fun _ _ e => e
        obtain ⟨z, ws, kk, h₅, tk₅, rfl, rfl, hws, F₅, N₅, o₅⟩ := h₅
        have zall : ∀ q ∈ (I, oI) :: (T, oT) :: (C, oC) :: (D, lst (xs.map Value.ref)) :: (news ++ made), h₅.get? q.1 = some q.2 := fun q hq => (N₅ q (List.mem_cons_of_mem _ hq)).1
        have zI := zall (I, oI) List.mem_cons_self
        have zT := zall (T, oT) (List.mem_cons_of_mem _ List.mem_cons_self)
        have zC := zall (C, oC) (List.mem_cons_of_mem _ (List.mem_cons_of_mem _ List.mem_cons_self))
        have zD := zall (D, lst (xs.map Value.ref)) (List.mem_cons_of_mem _ (List.mem_cons_of_mem _ (List.mem_cons_of_mem _ List.mem_cons_self)))
        have oz := off1_mem o₅
        have ozI := oz (I, oI) List.mem_cons_self
        have ozT := oz (T, oT) (List.mem_cons_of_mem _ List.mem_cons_self)
        have ozC := oz (C, oC) (List.mem_cons_of_mem _ (List.mem_cons_of_mem _ List.mem_cons_self))
        have ozD := oz (D, lst (xs.map Value.ref)) (List.mem_cons_of_mem _ (List.mem_cons_of_mem _ (List.mem_cons_of_mem _ List.mem_cons_self)))
        refine append_at (hsz := by show (xs.map Value.ref).toArray.size ≤ sizeLine; rw [List.size_toArray, List.length_map, hyl]; exact Nat.le_trans hi hsz) zD fun h₆ hs₆ hD₆ => ?_
        refine ⟨n + 1 - (i + 1), by omega, h₆, tk₅, i + 1, xs ++ [z], _, made ++ [(z, listOf ws.toArray kk)], rfl, hlt, rfl, by rw [List.length_append, List.length_singleton, hyl], ?_, F₅.change hs₆ hDL hD₀, (hoC.ns zC).sameBut hs₆ (Ne.symm hDC), ⟨_, oT, hs₆.extBut _ _ (Ne.symm hDT) zT, hoT⟩, fun q hq => ?_, fun q hq => ?_, fun j hj => ?_⟩
        · refine W.frame (i + 1) h₄ h₆ hst₄ fun b hb o e => ?_
          rw [List.mem_singleton.mp hb] at e ⊢
          exact hs₆.extBut _ _ hID (by rw [heI] at e; rw [← e]; exact zI)
        · rcases List.mem_cons.mp hq with rfl | hq
          · refine ⟨?_, hDL, hD₀⟩
            rw [List.map_append, List.map_singleton]
            exact hD₆.trans (congrArg some (lst_snoc _ _))
          · rw [← List.append_assoc] at hq
            rcases List.mem_append.mp hq with hq | hq
            · have z5 := N₅ q (List.mem_cons_of_mem _ (List.mem_cons_of_mem _ (List.mem_cons_of_mem _ (List.mem_cons_of_mem _ (List.mem_cons_of_mem _ hq)))))
              exact ⟨hs₆.extBut _ _ (off' q hq).2.2.2 z5.1, z5.2⟩
            · rw [List.mem_singleton.mp hq]
              have z5 := N₅ (z, listOf ws.toArray kk) List.mem_cons_self
              exact ⟨hs₆.extBut _ _ (Ne.symm ozD) z5.1, z5.2⟩
        · rw [← List.append_assoc] at hq
          rcases List.mem_append.mp hq with hq | hq
          · exact off' q hq
          · rw [List.mem_singleton.mp hq]
            exact ⟨Ne.symm ozI, Ne.symm ozC, Ne.symm ozT, Ne.symm ozD⟩
        · by_cases hj2 : j < xs.length
          · obtain ⟨ws', k', h1, h2⟩ := hmade j hj2
            refine ⟨ws', k', h1, ?_⟩
            rw [show (xs ++ [z]).getD j 0 = xs.getD j 0 by simp [List.getD, List.getElem?_append_left hj2]]
            exact List.mem_append_left _ h2
          · have hj3 : j = xs.length := by rw [List.length_append, List.length_singleton] at hj; omega
            subst hj3
            refine ⟨ws, kk, by rw [hyl]; exact hws, ?_⟩
            rw [show (xs ++ [z]).getD xs.length 0 = z by simp [List.getD]]
            exact List.mem_append_right _ (List.mem_singleton.mpr rfl)
      · have hin : i = n := Nat.le_antisymm hi (Nat.not_lt.mp hlt)
        subst hin
        refine W.done _ _ _ hst' fun h₂ tk₂ hk₂ => ?_
        have hk₃ : ∀ c o, c ≠ I → h'.get? c = some o → h₂.get? c = some o := fun c o h1 e => hk₂ c o (by simp [h1]) e
        refine hRR D C h₂ tk₂ m' xs made ⟨F'.ns.at' fun o e => hk₃ _ o hIL e, fun c o e => hk₃ c o (fun q => by rw [q, hI₀] at e; cases e) (F'.keep c o e), F'.above⟩ (fun q hq => ?_) (hn'.at' fun o e => hk₃ _ o (Ne.symm hIC) e) hC₀ hCL (Ne.symm hDC) (fun p hp => ⟨(off' p hp).2.1, (off' p hp).2.2.2⟩) hyl hmade
        have z := N' q hq
        refine ⟨hk₃ _ _ ?_ z.1, z.2⟩
        rcases List.mem_cons.mp hq with rfl | hq
        · exact Ne.symm hID
        · exact (off' q hq).1
    · intro p hp
      rw [List.append_nil] at hp
      rcases List.mem_cons.mp hp with rfl | hp
      · exact ⟨hacc, hDL, hD₀⟩
      · exact ⟨old _ _ (N p hp).1, (N p hp).2⟩
    · intro p hp
      rw [List.append_nil] at hp
      have := nlow p hp
      exact ⟨off p hp, ad_lt (Nat.lt_trans this hDltC), ad_lt (Nat.lt_trans this (Nat.lt_trans hDltC hCltT)), ad_lt this⟩
  exact codeAny_compStart_list (loop _ rfl) (W.self 0 _ _ _ hst₁ (loop _ rfl))
def MkSrc (prog : Program) (w : World) (A : Around) (h₀ : Heap) (L : Addr) (m : Str → Option Value) (env : Env) (elt : PySem.Expr) (x : Str) (scope : Scope) (cl : List (Str × Addr)) (f : Nat → List Int) (nn : Nat) (Fin : Shared → List (Addr × Obj) → Prop) (xv : Value) (s₁ : Shared) : Prop :=
  ∃ (r : Addr) (a b : Int) (t u v : Tok) (news : List (Addr × Obj)), xv = .ref r ∧ A.handled = none ∧ Fr h₀ L s₁.heap m ∧ News h₀ L s₁.heap news ∧ IsRange s₁.heap r a b 1 t u v ∧ Builtin.Range.small a b 1 = true ∧ Builtin.Range.rangeSize a b 1 = ((nn : Nat) : Int) ∧ nn ≤ sizeLine ∧
    (∀ g, MkElt prog w A h₀ L m env elt x scope cl { s₁ with heap := g } nn a news f) ∧ ∀ g, Fin { s₁ with heap := g } news
theorem MkSrc.range {elt : PySem.Expr} {x : Str} {scope : Scope} {cl : List (Str × Addr)} {f : Nat → List Int} {nn : Nat} {Fin : Shared → List (Addr × Obj) → Prop} {r : Addr} {a b : Int} {t u v : Tok} {news : List (Addr × Obj)} {s₁ : Shared}
    (hh : A.handled = none) (F : Fr h₀ L s₁.heap m) (N : News h₀ L s₁.heap news) (hr : IsRange s₁.heap r a b 1 t u v) (hsm : Builtin.Range.small a b 1 = true) (hn : Builtin.Range.rangeSize a b 1 = ((nn : Nat) : Int)) (hsz : nn ≤ sizeLine)
    (h : ∀ g, MkElt prog w A h₀ L m env elt x scope cl { s₁ with heap := g } nn a news f) (fin : ∀ g, Fin { s₁ with heap := g } news) : MkSrc prog w A h₀ L m env elt x scope cl f nn Fin (.ref r) s₁ := ⟨r, a, b, t, u, v, news, rfl, hh, F, N, hr, hsm, hn, hsz, h, fin⟩
def MkFin (h₀ : Heap) (L : Addr) (m : Str → Option Value) (y : Str) (f : Nat → List Int) (n : Nat) (Q : Flow → Shared → Prop) (s₁ : Shared) (news : List (Addr × Obj)) : Prop :=
  ∀ xs made D h tk, xs.length = n → MadeAre f xs made → Fr h₀ L h (fun z => if z = y then some (.ref D) else m z) → News h₀ L h ((D, lst (xs.map Value.ref)) :: (news ++ made)) → Off1 D (news ++ made) → Q .next { s₁ with heap := h, toks := tk }
theorem off1_of {D : Addr} : ∀ {l : List (Addr × Obj)}, (∀ p ∈ l, p.1 ≠ D) → Off1 D l
  | [], _ => trivial
  | _ :: _, h => ⟨h _ (.head _), off1_of fun p hp => h p (.tail _ hp)⟩
theorem mkc_Assign {elt iter : PySem.Expr} {x y : Str} {px py : Pos} {scope : Scope} {cl : List (Str × Addr)} {pos spos : Pos} {Q : Flow → Shared → Prop} (f : Nat → List Int) (n : Nat) (_F₀ : Fr h₀ L s.heap m) (hLe : env.locals = L)
    (hsw : swapsWith (.ListComp elt [⟨.Name x px, iter, [], 0⟩] scope pos) (some (.Name y py)) spos.line env = pure true)
    (hclos : closureFor scope env = pure cl) (hc : ∀ k, cellsFrom k scope.names cl = (x, k) :: cl) (hpc : ∀ h, pushCells h scope.names = h.push { cls := .type "cell", data := .cell none }) (hkind : scope.kind = .function)
    (hnames : ∀ z ∈ scope.names, z.2 = .local → scope.names.lookup z.1 = some .local) (hxk : (relabel scope env).names.lookup x = some .cell)
    (hy : env.kindOf y = some .local) (hp : (env.scope.kind == .class || (env.scope.kind == .module && env.locals != env.globals)) = false)
    (h : wpAny (model prog w) A (eval iter env) (MkSrc prog w A h₀ L m env elt x scope cl f n (MkFin h₀ L m y f n Q)) E s)
    (hs : ∀ x, foldedSetIterable iter env x = pure x := by intro _; rfl) :
    wpAny (model prog w) A (exec (.Assign [.Name y py] (.ListComp elt [⟨.Name x px, iter, [], 0⟩] scope pos) spos) env) Q E s := by
  subst hLe
  rw [exec_Assign_Name_used _ _ _ _ hsw]
  refine wpAny_bind (wpAny_standAt (wpAny_bind ?_))
  show wpAny _ A (do let _ ← comprehension (.ListComp elt [⟨.Name x px, iter, [], 0⟩] scope pos) scope env _ (newList []) false (eval iter env) (some (assign (.Name y py) env))) _ _ s
  refine wpAny_bind (wpAny_mono (wpAny_comprehension_free (use := some (assign (.Name y py) env)) (Q := fun _ s' => Q .next s') rfl hs hclos hkind hnames
    (wpAny_mono h (fun xv s₁ h₁ => ?_) fun _ _ e => e)) (fun _ s' hq => wpAny_pure (wpAny_pure hq)) fun _ _ e => e)
  obtain ⟨r, a, b, t, u, v, news, rfl, hh, F, N, hr, hsm, hn, hsz, R, fin⟩ := h₁
  refine wpAny_pyIter_range hr hsm ?_
  refine mkc_block hh hsz (by show IsRangeIter _ _ _ _ _; rw [hn]; simpa using Heap.get?_push_size _ rfl) hc hpc hkind hxk (F.keeps fun _ _ e => Heap.get?_push_of_some _ e) (N.grown fun _ _ e => Heap.get?_push_of_some _ e) (Nat.ne_of_lt F.ns.lt) (next_is_new F)
    (fun p hp => Nat.ne_of_lt (Heap.lt_size (N p hp).1)) (R _) ?_
  intro D C h' tk m' xs made F' N' hn hC₀ hCL hCD offC hxl hmade
  show wpAny _ A (assign (.Name y py) env (.ref D)) _ _ _
  refine wpAny_assign_Name (wpAny_storeName_local hy F'.ns (fun h₂ hn₂ hs₂ => ?_) hp)
  have hL₀ : h₀.get? env.locals = none := Heap.get?_none_of_le F'.above
  have F₂ : Fr h₀ env.locals h₂ (fun z => if z = y then some (.ref D) else m z) := ⟨hn₂, fun b o e => hs₂.extBut b o (fun q => by rw [q, hL₀] at e; cases e) (F'.keep b o e), F'.above⟩
  refine ⟨m', hn.sameBut hs₂ hCL, fun h'' hs'' => fin s₁.heap xs made D h'' _ hxl hmade (F₂.change hs'' hCL hC₀) (fun p hp => ?_) (off1_of fun p hp => (offC p hp).2)⟩
  have z : h₂.get? p.1 = some p.2 := hs₂.extBut _ _ (N' p hp).2.1 (N' p hp).1
  refine ⟨hs''.extBut _ _ ?_ z, (N' p hp).2⟩
  rcases List.mem_cons.mp hp with rfl | hp
  · exact Ne.symm hCD
  · exact (offC p hp).1
/-- the six lists as one -/
theorem nest_of {f : Nat → List Int} {xs : List Addr} {D : Addr} {made news : List (Addr × Obj)} (hx : xs.length = 6) (hm : MadeAre f xs made) (h1 : (D, lst (xs.map Value.ref)) ∈ news) (h2 : ∀ p ∈ made, p ∈ news) : Nest news D (fun i => xs.getD i 0) f := by
  constructor
  · refine ⟨(xs.map Value.ref).length, ?_⟩
    have e : (List.range 6).map (fun i => Value.ref (xs.getD i 0)) = xs.map Value.ref := by
      match xs, hx with
      | [a, b, c, d, e, g], _ => rfl
    rw [e]
    exact h1
  · intro i hi
    obtain ⟨ws, k, h3, h4⟩ := hm i (hx ▸ hi)
    exact ⟨ws, k, h3, h2 _ h4⟩
end
end Mine
end
-- part MkCompP
section
open PySem PySem.W PySem.Calls PyProof.Rows PyProof.V PySem.Spec PyProof.Rows.LCg
set_option maxHeartbeats 1000000
namespace Mine
def Disj (made news : List (Addr × Obj)) : Prop := ∀ p ∈ made, ∀ q ∈ news, q.1 ≠ p.1
theorem dis_all {made news : List (Addr × Obj)} {c : Addr} {o : Obj} (h : Disj made news) (hm : (c, o) ∈ news) : ∀ p ∈ made, p.1 ≠ c := fun p hp => Ne.symm (h p hp (c, o) hm)
def MkEltP (prog : Program) (w : World) (A : Around) (h₀ : Heap) (L : Addr) (m : Str → Option Value) (env : Env) (elt : PySem.Expr) (x : Str) (scope : Scope) (cl : List (Str × Addr)) (s : Shared) (n : Nat) (a : Int) (news : List (Addr × Obj)) (f : Nat → List Int) : Prop :=
  ∀ (i : Nat) (t : Tok) (I : Addr) (oI : Obj) (C : Addr) (oC : Obj) (D : Addr) (ys : List Value) (made : List (Addr × Obj)) (m₂ : Str → Option Value) (h : Heap) (tk : Nat) (E' : Value → Shared → Prop), i < n → NsObj oC m₂ → m₂ x = some (.int (a + (i : Int)) t) →
    Fr h₀ L h m → News h₀ L h ((I, oI) :: (C, oC) :: (D, lst ys) :: (news ++ made)) →
    wpAny (model prog w) A (eval elt (compEnvC scope cl C env)) (MkEnd h₀ L m { s with heap := h, toks := tk } ((I, oI) :: (C, oC) :: (D, lst ys) :: (news ++ made)) (f i)) E' { s with heap := h, toks := tk }
section
variable {prog : Program} {w : World} {A : Around} {E : Value → Shared → Prop} {s : Shared} {h₀ : Heap} {L : Addr} {m : Str → Option Value} {env : Env}
theorem mkp_block {elt iter : PySem.Expr} {x : Str} {px : Pos} {scope : Scope} {cl : List (Str × Addr)} {pos : Pos} {s₂ : Shared} {I : Addr} {n : Nat} {a : Int} {news : List (Addr × Obj)} {f : Nat → List Int} {RR : Value → Addr → Result → Shared → Prop}
    (hh : A.handled = none) (hsz : n ≤ sizeLine) (hst : IsRangeIter s₂.heap I (a + (0 : Nat) * 1) ((n : Int) - (0 : Nat)) 1)
    (hcell : ∀ y ∈ scope.names, y.2 ≠ .cell) (hkind : scope.kind = .function) (hx : scope.names.lookup x = some .local)
    (F : Fr h₀ L s₂.heap m) (N : News h₀ L s₂.heap news) (hIL : L ≠ I) (hI₀ : h₀.get? I = none) (off : ∀ p ∈ news, p.1 ≠ I)
    (R : MkEltP prog w A h₀ L m env elt x scope cl s₂ n a news f)
    (hRR : ∀ D C h tk m' xs made, Fr h₀ L h m → News h₀ L h ((D, lst (xs.map Value.ref)) :: (news ++ made)) → h.Ns C m' → h₀.get? C = none → C ≠ L → C ≠ D → (∀ p ∈ news ++ made, p.1 ≠ C ∧ p.1 ≠ D) → xs.length = n → MadeAre f xs made → Disj made news → RR (.ref D) C (.ok .next) { s₂ with heap := h, toks := tk }) :
    wpAny (model prog w) A (newList []) (fun acc s₃ => wpAny (model prog w) A (newFunctionEnv scope env.globals cl [] env.qual none .none (some env)) (fun cenv s₄ =>
      codeAny (model prog w) A (.compStart (.ListComp elt [⟨.Name x px, iter, [], 0⟩] scope pos) 0 (.ref I) acc { cenv with scope := relabel scope env }) (RR acc cenv.locals) s₄) E s₃) E s₂ := by
  refine wpAny_newObj_type (wpAny_newFunctionEnv hcell (by intro y hy; simp at hy) (fun h₁ hns₁ hsb₁ => ?_) hkind)
  dsimp only at hns₁ hsb₁ ⊢
  generalize hH2 : s₂.heap.push { cls := .type "list", dict := none, data := .seq ([] : List Value).toArray } = H2 at hns₁ hsb₁ ⊢
  have hC : H2.objs.size = s₂.heap.objs.size + 1 := by rw [← hH2, Heap.size_push]
  generalize hCv : H2.objs.size = C at hC hns₁ hsb₁ ⊢
  generalize hDv : s₂.heap.objs.size = D at hC ⊢
  have low : ∀ x o, s₂.heap.get? x = some o → x < D := fun x o e => hDv ▸ Heap.lt_size e
  have hDltC : @LT.lt Nat _ D C := hC ▸ Nat.lt_succ_self D
  have hDC : D ≠ C := ad_lt hDltC
  have hIlt : I < D := low I _ hst
  have hLlt : L < D := hDv ▸ F.ns.lt
  have hIC : I ≠ C := ad_lt (Nat.lt_trans hIlt hDltC)
  have hID : I ≠ D := ad_lt hIlt
  have hCL : C ≠ L := ad_gt (Nat.lt_trans hLlt hDltC)
  have hDL : D ≠ L := ad_gt hLlt
  have old : ∀ x o, s₂.heap.get? x = some o → h₁.get? x = some o := fun x o e => hsb₁.extBut x o (ad_lt (Nat.lt_trans (low x o e) hDltC)) (Heap.get?_push_of_some _ (hH2 ▸ Heap.get?_push_of_some _ e))
  have hacc : h₁.get? D = some (lst []) := hsb₁.extBut _ _ hDC (Heap.get?_push_of_some _ (by rw [← hH2, ← hDv]; exact Heap.get?_push_size _ rfl))
  have fresh₀ : ∀ x, D ≤ x → h₀.get? x = none := fun x hx => by
    cases e : h₀.get? x with
    | none => rfl
    | some o' => exact absurd (low x o' (F.keep x o' e)) (Nat.not_lt.mpr hx)
  have hD₀ : h₀.get? D = none := fresh₀ _ (Nat.le_refl _)
  have hC₀ : h₀.get? C = none := fresh₀ _ (Nat.le_of_lt hDltC)
  have W := range_walks (prog := prog) (w := w) (I := I) hh a n
  have hst₁ := W.frame 0 s₂.heap h₁ hst fun x _ o e => old x o e
  have nlow : ∀ p ∈ news, p.1 < D := fun p hp => low p.1 p.2 (N p hp).1
  have loop : ∀ s₃ : Shared, s₃ = { s₂ with heap := h₁, toks := s₂.toks + ([] : List (Str × Value)).length } →
      codeAny (model prog w) A (.compLoop (.ListComp elt [⟨.Name x px, iter, [], 0⟩] scope pos) 0 (.ref I) (.ref D) (compEnvC scope cl C env)) (RR (.ref D) C) s₃ := by
    rintro s₃ rfl
    refine codeAny_compLoop_list
      (fun k s' => ∃ h' tk i xs m' made, s' = { s₂ with heap := h', toks := tk } ∧ i ≤ n ∧ k = n + 1 - i ∧ xs.length = i ∧ IsRangeIter h' I (a + (i : Nat) * 1) ((n : Int) - (i : Nat)) 1 ∧ Fr h₀ L h' m ∧ h'.Ns C m' ∧
        News h₀ L h' ((D, lst (xs.map Value.ref)) :: (news ++ made)) ∧ (∀ p ∈ news ++ made, p.1 ≠ I ∧ p.1 ≠ C ∧ p.1 ≠ D) ∧ MadeAre f xs made ∧ Disj made news) ?_ (n + 1)
      ⟨h₁, _, 0, [], _, [], rfl, Nat.zero_le _, rfl, rfl, hst₁, F.keeps old, hns₁, ?_, ?_, fun j hj => absurd hj (Nat.not_lt_zero _), fun p hp => nomatch hp⟩
    · rintro k s' ⟨h', tk, i, xs, m', made, rfl, hi, rfl, hyl, hst', F', hn', N', off', hmade, hdis⟩
      by_cases hlt : i < n
      · refine W.item i _ _ _ hlt hst' fun v h₂ tk₂ hP hst₂ hk₂ => ?_
        obtain ⟨t, rfl⟩ := hP
        have up₂ : ∀ c o, c ≠ I → h'.get? c = some o → h₂.get? c = some o := fun c o h1 e => hk₂ c o (by simp [h1]) e
        refine wpAny_assign_Name (wpAny_storeName_local (lookup_relabel_local hx) (hn'.at' fun o e => up₂ _ o (Ne.symm hIC) e) (fun h₄ hn₄ hs₄ => ?_) (by simp [compEnvC, relabel, hkind]))
        have up : ∀ c o, c ≠ I → c ≠ C → h'.get? c = some o → h₄.get? c = some o := fun c o h1 h2 e => hs₄.extBut c o h2 (up₂ c o h1 e)
        have hst₄ := W.frame (i + 1) h₂ h₄ hst₂ fun b hb o e => hs₄.extBut b o (by rw [List.mem_singleton.mp hb]; exact hIC) e
        obtain ⟨oI, heI⟩ : ∃ oI : Obj, h₄.get? I = some oI := ⟨_, hst₄⟩
        obtain ⟨oC, heC, hoC⟩ := ns_obj hn₄
        have F₄ : Fr h₀ L h₄ m := ⟨F'.ns.at' fun o e => up _ o hIL (Ne.symm hCL) e, fun c o e => up c o (fun q => by rw [q, hI₀] at e; cases e) (fun q => by rw [q, hC₀] at e; cases e) (F'.keep c o e), F'.above⟩
        have N₄ : News h₀ L h₄ ((I, oI) :: (C, oC) :: (D, lst (xs.map Value.ref)) :: (news ++ made)) := fun q hq => by
          rcases List.mem_cons.mp hq with rfl | hq
          · exact ⟨heI, Ne.symm hIL, hI₀⟩
          rcases List.mem_cons.mp hq with rfl | hq
          · exact ⟨heC, hCL, hC₀⟩
          have z := N' q hq
          refine ⟨up _ _ ?_ ?_ z.1, z.2⟩
          · rcases List.mem_cons.mp hq with rfl | hq
            · exact Ne.symm hID
            · exact (off' q hq).1
          · rcases List.mem_cons.mp hq with rfl | hq
            · exact hDC
            · exact (off' q hq).2.1
        refine wpAny_mono (R i t I oI C oC D _ made _ h₄ _ _ hlt hoC (by simp) F₄ N₄) (fun y s₅ h₅ => ?_) fun _ _ e => e
        obtain ⟨z, ws, kk, h₅, tk₅, rfl, rfl, hws, F₅, N₅, o₅⟩ := h₅
        have zall : ∀ q ∈ (I, oI) :: (C, oC) :: (D, lst (xs.map Value.ref)) :: (news ++ made), h₅.get? q.1 = some q.2 := fun q hq => (N₅ q (List.mem_cons_of_mem _ hq)).1
        have zI := zall (I, oI) List.mem_cons_self
        have zC := zall (C, oC) (List.mem_cons_of_mem _ List.mem_cons_self)
        have zD := zall (D, lst (xs.map Value.ref)) (List.mem_cons_of_mem _ (List.mem_cons_of_mem _ List.mem_cons_self))
        have oz := off1_mem o₅
        have ozI := oz (I, oI) List.mem_cons_self
        have ozC := oz (C, oC) (List.mem_cons_of_mem _ List.mem_cons_self)
        have ozD := oz (D, lst (xs.map Value.ref)) (List.mem_cons_of_mem _ (List.mem_cons_of_mem _ List.mem_cons_self))
        refine append_at (hsz := by show (xs.map Value.ref).toArray.size ≤ sizeLine; rw [List.size_toArray, List.length_map, hyl]; exact Nat.le_trans hi hsz) zD fun h₆ hs₆ hD₆ => ?_
        refine ⟨n + 1 - (i + 1), by omega, h₆, tk₅, i + 1, xs ++ [z], _, made ++ [(z, listOf ws.toArray kk)], rfl, hlt, rfl, by rw [List.length_append, List.length_singleton, hyl], ?_, F₅.change hs₆ hDL hD₀, (hoC.ns zC).sameBut hs₆ (Ne.symm hDC), fun q hq => ?_, fun q hq => ?_, fun j hj => ?_, fun p hp q hq => ?_⟩
        · refine W.frame (i + 1) h₄ h₆ hst₄ fun b hb o e => ?_
          rw [List.mem_singleton.mp hb] at e ⊢
          exact hs₆.extBut _ _ hID (by rw [heI] at e; rw [← e]; exact zI)
        · rcases List.mem_cons.mp hq with rfl | hq
          · refine ⟨?_, hDL, hD₀⟩
            rw [List.map_append, List.map_singleton]
            exact hD₆.trans (congrArg some (lst_snoc _ _))
          · rw [← List.append_assoc] at hq
            rcases List.mem_append.mp hq with hq | hq
            · have z5 := N₅ q (List.mem_cons_of_mem _ (List.mem_cons_of_mem _ (List.mem_cons_of_mem _ (List.mem_cons_of_mem _ hq))))
              exact ⟨hs₆.extBut _ _ (off' q hq).2.2 z5.1, z5.2⟩
            · rw [List.mem_singleton.mp hq]
              have z5 := N₅ (z, listOf ws.toArray kk) List.mem_cons_self
              exact ⟨hs₆.extBut _ _ (Ne.symm ozD) z5.1, z5.2⟩
        · rw [← List.append_assoc] at hq
          rcases List.mem_append.mp hq with hq | hq
          · exact off' q hq
          · rw [List.mem_singleton.mp hq]
            exact ⟨Ne.symm ozI, Ne.symm ozC, Ne.symm ozD⟩
        · by_cases hj2 : j < xs.length
          · obtain ⟨ws', k', h1, h2⟩ := hmade j hj2
            refine ⟨ws', k', h1, ?_⟩
            rw [show (xs ++ [z]).getD j 0 = xs.getD j 0 by simp [List.getD, List.getElem?_append_left hj2]]
            exact List.mem_append_left _ h2
          · have hj3 : j = xs.length := by rw [List.length_append, List.length_singleton] at hj; omega
            subst hj3
            refine ⟨ws, kk, by rw [hyl]; exact hws, ?_⟩
            rw [show (xs ++ [z]).getD xs.length 0 = z by simp [List.getD]]
            exact List.mem_append_right _ (List.mem_singleton.mpr rfl)
        · rcases List.mem_append.mp hp with hp | hp
          · exact hdis p hp q hq
          · rw [List.mem_singleton.mp hp]
            exact oz q (List.mem_cons_of_mem _ (List.mem_cons_of_mem _ (List.mem_cons_of_mem _ (List.mem_append_left _ hq))))
      · have hin : i = n := Nat.le_antisymm hi (Nat.not_lt.mp hlt)
        subst hin
        refine W.done _ _ _ hst' fun h₂ tk₂ hk₂ => ?_
        have hk₃ : ∀ c o, c ≠ I → h'.get? c = some o → h₂.get? c = some o := fun c o h1 e => hk₂ c o (by simp [h1]) e
        refine hRR D C h₂ tk₂ m' xs made ⟨F'.ns.at' fun o e => hk₃ _ o hIL e, fun c o e => hk₃ c o (fun q => by rw [q, hI₀] at e; cases e) (F'.keep c o e), F'.above⟩ (fun q hq => ?_) (hn'.at' fun o e => hk₃ _ o (Ne.symm hIC) e) hC₀ hCL (Ne.symm hDC) (fun p hp => ⟨(off' p hp).2.1, (off' p hp).2.2⟩) hyl hmade hdis
        have z := N' q hq
        refine ⟨hk₃ _ _ ?_ z.1, z.2⟩
        rcases List.mem_cons.mp hq with rfl | hq
        · exact Ne.symm hID
        · exact (off' q hq).1
    · intro p hp
      rw [List.append_nil] at hp
      rcases List.mem_cons.mp hp with rfl | hp
      · exact ⟨hacc, hDL, hD₀⟩
      · exact ⟨old _ _ (N p hp).1, (N p hp).2⟩
    · intro p hp
      rw [List.append_nil] at hp
      have := nlow p hp
      exact ⟨off p hp, ad_lt (Nat.lt_trans this hDltC), ad_lt this⟩
  exact codeAny_compStart_list (loop _ rfl) (W.self 0 _ _ _ hst₁ (loop _ rfl))
def MkSrcP (prog : Program) (w : World) (A : Around) (h₀ : Heap) (L : Addr) (m : Str → Option Value) (env : Env) (elt : PySem.Expr) (x : Str) (scope : Scope) (cl : List (Str × Addr)) (f : Nat → List Int) (nn : Nat) (Fin : Shared → List (Addr × Obj) → Prop) (xv : Value) (s₁ : Shared) : Prop :=
  ∃ (r : Addr) (a b : Int) (t u v : Tok) (news : List (Addr × Obj)), xv = .ref r ∧ A.handled = none ∧ Fr h₀ L s₁.heap m ∧ News h₀ L s₁.heap news ∧ IsRange s₁.heap r a b 1 t u v ∧ Builtin.Range.small a b 1 = true ∧ Builtin.Range.rangeSize a b 1 = ((nn : Nat) : Int) ∧ nn ≤ sizeLine ∧
    (∀ g, MkEltP prog w A h₀ L m env elt x scope cl { s₁ with heap := g } nn a news f) ∧ ∀ g, Fin { s₁ with heap := g } news
theorem MkSrcP.range {elt : PySem.Expr} {x : Str} {scope : Scope} {cl : List (Str × Addr)} {f : Nat → List Int} {nn : Nat} {Fin : Shared → List (Addr × Obj) → Prop} {r : Addr} {a b : Int} {t u v : Tok} {news : List (Addr × Obj)} {s₁ : Shared}
    (hh : A.handled = none) (F : Fr h₀ L s₁.heap m) (N : News h₀ L s₁.heap news) (hr : IsRange s₁.heap r a b 1 t u v) (hsm : Builtin.Range.small a b 1 = true) (hn : Builtin.Range.rangeSize a b 1 = ((nn : Nat) : Int)) (hsz : nn ≤ sizeLine)
    (h : ∀ g, MkEltP prog w A h₀ L m env elt x scope cl { s₁ with heap := g } nn a news f) (fin : ∀ g, Fin { s₁ with heap := g } news) : MkSrcP prog w A h₀ L m env elt x scope cl f nn Fin (.ref r) s₁ := ⟨r, a, b, t, u, v, news, rfl, hh, F, N, hr, hsm, hn, hsz, h, fin⟩
def MkFinE (h₀ : Heap) (L : Addr) (m : Str → Option Value) (f : Nat → List Int) (n : Nat) (Q : Value → Shared → Prop) (s₁ : Shared) (news : List (Addr × Obj)) : Prop :=
  ∀ xs made D h tk, xs.length = n → MadeAre f xs made → Fr h₀ L h m → News h₀ L h ((D, lst (xs.map Value.ref)) :: (news ++ made)) → Off1 D (news ++ made) → Disj made news → Q (.ref D) { s₁ with heap := h, toks := tk }
theorem mkp_ListComp {elt iter : PySem.Expr} {x : Str} {px : Pos} {scope : Scope} {cl : List (Str × Addr)} {pos : Pos} {Q : Value → Shared → Prop} (f : Nat → List Int) (n : Nat) (_F₀ : Fr h₀ L s.heap m)
    (hclos : closureFor scope env = pure cl) (hcell : ∀ y ∈ scope.names, y.2 ≠ .cell) (hkind : scope.kind = .function)
    (hnames : ∀ z ∈ scope.names, z.2 = .local → scope.names.lookup z.1 = some .local) (hx : scope.names.lookup x = some .local)
    (h : wpAny (model prog w) A (eval iter env) (MkSrcP prog w A h₀ L m env elt x scope cl f n (MkFinE h₀ L m f n Q)) E s)
    (hs : ∀ x, foldedSetIterable iter env x = pure x := by intro _; rfl) :
    wpAny (model prog w) A (eval (.ListComp elt [⟨.Name x px, iter, [], 0⟩] scope pos) env) Q E s := by
  rw [eval_ListComp]
  refine wpAny_comprehension_free (use := none) rfl hs hclos hkind hnames (wpAny_mono h (fun xv s₁ h₁ => ?_) fun _ _ e => e)
  obtain ⟨r, a, b, t, u, v, news, rfl, hh, F, N, hr, hsm, hn, hsz, R, fin⟩ := h₁
  refine wpAny_pyIter_range hr hsm ?_
  refine mkp_block hh hsz (by show IsRangeIter _ _ _ _ _; rw [hn]; simpa using Heap.get?_push_size _ rfl) hcell hkind hx (F.keeps fun _ _ e => Heap.get?_push_of_some _ e) (N.grown fun _ _ e => Heap.get?_push_of_some _ e) (Nat.ne_of_lt F.ns.lt) (next_is_new F)
    (fun p hp => Nat.ne_of_lt (Heap.lt_size (N p hp).1)) (R _) ?_
  intro D C h' tk m' xs made F' N' hn hC₀ hCL hCD offC hxl hmade hdis
  refine ⟨m', hn, fun h'' hs'' => fin s₁.heap xs made D h'' _ hxl hmade (F'.change hs'' hCL hC₀) (fun p hp => ?_) (off1_of fun p hp => (offC p hp).2) hdis⟩
  refine ⟨hs''.extBut _ _ ?_ (N' p hp).1, (N' p hp).2⟩
  rcases List.mem_cons.mp hp with rfl | hp
  · exact Ne.symm hCD
  · exact (offC p hp).1
end
end Mine
end
-- part Plain
section
open PySem PySem.W PyProof.Rows
set_option maxHeartbeats 1000000
namespace Mine
/-- the rings of at most five balls -/
def ringsN : List (List Nat) :=
  (List.range 6).flatMap fun a => (List.range (6 - a)).flatMap fun b => (List.range (6 - a - b)).flatMap fun c => (List.range (6 - a - b - c)).flatMap fun d =>
    (List.range (6 - a - b - c - d)).flatMap fun e => (List.range (6 - a - b - c - d - e)).map fun f => [a, b, c, d, e, f]
theorem ringsN_mem {a b c d e f : Nat} (h : a + b + c + d + e + f ≤ 5) : [a, b, c, d, e, f] ∈ ringsN := by
  unfold ringsN
  simp only [List.mem_flatMap, List.mem_map, List.mem_range]
  exact ⟨a, by omega, b, by omega, c, by omega, d, by omega, e, by omega, f, by omega, rfl⟩
def ofN (r : List Nat) : List Int := r.map fun (k : Nat) => (k : Int)
/-- what a ring is -/
def IsRing (r : List Int) : Prop := ∃ q ∈ ringsN, r = ofN q
theorem counts_le : ∀ ns : List Int, ns.count 0 + ns.count 1 + ns.count 2 + ns.count 3 + ns.count 4 + ns.count 5 ≤ ns.length
  | [] => by simp
  | x :: r => by
    have ih := counts_le r
    simp only [List.count_cons, List.length_cons, beq_iff_eq]
    by_cases h0 : x = 0
    · subst h0; simp; omega
    by_cases h1 : x = 1
    · subst h1; simp; omega
    by_cases h2 : x = 2
    · subst h2; simp; omega
    by_cases h3 : x = 3
    · subst h3; simp; omega
    by_cases h4 : x = 4
    · subst h4; simp; omega
    by_cases h5 : x = 5
    · subst h5; simp; omega
    simp [h0, h1, h2, h3, h4, h5]; omega
theorem ring_of {ns : List Int} (h : ns.length = 5) : IsRing ((rangeKs 0 6).map fun k => (ns.count k : Int)) := by
  have e : rangeKs 0 6 = [0, 1, 2, 3, 4, 5] := by decide +kernel
  rw [e]
  have := counts_le ns
  exact ⟨[ns.count 0, ns.count 1, ns.count 2, ns.count 3, ns.count 4, ns.count 5], ringsN_mem (by omega), rfl⟩
def horner (r : List Int) : Int := r.foldl (fun n k => 16 * n + k) 0
def turnedF (r : List Int) (s : Nat) : Int := (horner r * 16 ^ s).fmod (16777216 - 1)
def rotF (r : List Int) (s : Nat) : List Int := r.drop s ++ r.take s
def dz : List Int → List Int
  | [] => []
  | k :: r => if k = 0 then dz r else k :: r
def lettersF (r : List Int) (s : Nat) : List Nat := List.replicate (6 - (dz (rotF r s)).length) 0 ++ (dz (rotF r s)).map (·.toNat)
def underF (r : List Int) (i : Nat) : List Int := (rangeKs 0 6).foldl (fun l k => if (lineF r 5 k).contains (i : Int) then l ++ [k] else l) []
/-- underF, the place first made a written number: the kernel then keeps each list -/
def underT (r : List Int) : Nat → List Int
  | 0 => underF r 0
  | 1 => underF r 1
  | 2 => underF r 2
  | 3 => underF r 3
  | 4 => underF r 4
  | 5 => underF r 5
  | n + 6 => underF r (n + 6)
theorem underT_eq (r : List Int) : underT r = underF r := by
  funext i
  rcases i with _ | _ | _ | _ | _ | _ | n <;> rfl
def runOk (r : List Int) (s : Nat) (Bf : Nat → List Int) (fin : St) : Bool :=
  fin.a == 0 && fin.b == 0 && fin.p0 == (treesF r Bf s 1).1 && fin.q0 == 4 * (treesF r Bf s 1).2 - 2 * 1 && fin.p1 == (treesF r Bf s (6 - r.sum).toNat).1 && fin.q1 == 4 * (treesF r Bf s (6 - r.sum).toNat).2 - 2 * (6 - r.sum)
def okSpot (r : List Int) (s : Nat) : Bool :=
  Nat.blt (turnedF r s).natAbs (16 ^ 6) && (apF 6 (turnedF r s).natAbs == (dz (rotF r s)).map fun k => UInt8.ofNat (65 + k.toNat)) &&
  (match runF (lettersF r s) ⟨1, (6 - r.sum).toNat, 0, 0, 0, 0⟩ with
    | some fin => runOk r s (underT r) fin
    | none => false)
def okLines (r : List Int) : Bool := (List.range 6).all fun p => !decide (parentF r ((lineF r 5 (p : Int)).getLastD 0) < 6)
def okUnder (r : List Int) : Bool := (List.range 6).all fun p => Nat.ble (underF r p).length 6 && (underF r p).all fun k => decide (0 ≤ k) && decide (k < 6)

def okRing (q : List Nat) : Bool := okLines (ofN q) && okSpot (ofN q) 0 && okSpot (ofN q) 1 && okSpot (ofN q) 2 && okSpot (ofN q) 3 && okSpot (ofN q) 4 && okSpot (ofN q) 5
theorem rings_ok0 : (((ringsN.drop 0).take 33).all okRing) = true := by decide +kernel
theorem rings_ok1 : (((ringsN.drop 33).take 33).all okRing) = true := by decide +kernel
theorem rings_ok2 : (((ringsN.drop 66).take 33).all okRing) = true := by decide +kernel
theorem rings_ok3 : (((ringsN.drop 99).take 33).all okRing) = true := by decide +kernel
theorem rings_ok4 : (((ringsN.drop 132).take 33).all okRing) = true := by decide +kernel
theorem rings_ok5 : (((ringsN.drop 165).take 33).all okRing) = true := by decide +kernel
theorem rings_ok6 : (((ringsN.drop 198).take 33).all okRing) = true := by decide +kernel
theorem rings_ok7 : (((ringsN.drop 231).take 33).all okRing) = true := by decide +kernel
theorem rings_ok8 : (((ringsN.drop 264).take 33).all okRing) = true := by decide +kernel
theorem rings_ok9 : (((ringsN.drop 297).take 33).all okRing) = true := by decide +kernel
theorem rings_ok10 : (((ringsN.drop 330).take 33).all okRing) = true := by decide +kernel
theorem rings_ok11 : (((ringsN.drop 363).take 33).all okRing) = true := by decide +kernel
theorem rings_ok12 : (((ringsN.drop 396).take 33).all okRing) = true := by decide +kernel
theorem rings_ok13 : (((ringsN.drop 429).take 33).all okRing) = true := by decide +kernel
theorem all_cut {p : List Nat → Bool} {l : List (List Nat)} (n : Nat) (h1 : (l.take n).all p = true) (h2 : (l.drop n).all p = true) : l.all p = true := by
  rw [← List.take_append_drop n l, List.all_append, h1, h2]; rfl
theorem rings_end : ringsN.drop 462 = [] := by decide +kernel
theorem all_step {p : List Nat → Bool} {k : Nat} (h1 : ((ringsN.drop k).take 33).all p = true) (h2 : (ringsN.drop (k + 33)).all p = true) : (ringsN.drop k).all p = true :=
  all_cut 33 h1 (by rw [List.drop_drop]; exact h2)
theorem rings_ok : (ringsN.all okRing) = true := by
  have h : (ringsN.drop 462).all okRing = true := by rw [rings_end]; rfl
  have h := all_step (k := 429) rings_ok13 h
  have h := all_step (k := 396) rings_ok12 h
  have h := all_step (k := 363) rings_ok11 h
  have h := all_step (k := 330) rings_ok10 h
  have h := all_step (k := 297) rings_ok9 h
  have h := all_step (k := 264) rings_ok8 h
  have h := all_step (k := 231) rings_ok7 h
  have h := all_step (k := 198) rings_ok6 h
  have h := all_step (k := 165) rings_ok5 h
  have h := all_step (k := 132) rings_ok4 h
  have h := all_step (k := 99) rings_ok3 h
  have h := all_step (k := 66) rings_ok2 h
  have h := all_step (k := 33) rings_ok1 h
  have h := all_step (k := 0) rings_ok0 h
  exact h
theorem foldl_filter (p : Int → Bool) : ∀ (ks l : List Int), ks.foldl (fun l k => if p k then l ++ [k] else l) l = l ++ ks.filter p
  | [], l => by simp
  | k :: r, l => by
    rw [List.foldl_cons, foldl_filter p r, List.filter_cons]
    cases p k <;> simp
theorem underF_eq (r : List Int) (i : Nat) : underF r i = (rangeKs 0 6).filter fun k => (lineF r 5 k).contains (i : Int) := by
  unfold underF
  rw [foldl_filter]; simp
theorem underF_len (r : List Int) (i : Nat) : (underF r i).length ≤ 6 := by
  rw [underF_eq]
  refine Nat.le_trans (List.length_filter_le _ _) ?_
  rw [rangeKs_length]; omega
theorem underF_mem (r : List Int) (i : Nat) : ∀ k ∈ underF r i, 0 ≤ k ∧ k < 6 := by
  rw [underF_eq]
  intro k hk
  have := mem_rangeKs (List.mem_filter.mp hk).1
  omega
theorem ring_all {r : List Int} (h : IsRing r) : okLines r = true ∧ ∀ s, s < 6 → okSpot r s = true := by
  obtain ⟨q, hq, rfl⟩ := h
  have h := List.all_eq_true.mp rings_ok q hq
  unfold okRing at h
  simp only [Bool.and_eq_true] at h
  obtain ⟨⟨⟨⟨⟨⟨h1, h2⟩, h3⟩, h4⟩, h5⟩, h6⟩, h7⟩ := h
  refine ⟨h1, fun s hs => ?_⟩
  have : s = 0 ∨ s = 1 ∨ s = 2 ∨ s = 3 ∨ s = 4 ∨ s = 5 := by omega
  rcases this with rfl | rfl | rfl | rfl | rfl | rfl <;> assumption
theorem ring_lineEnds {r : List Int} (h : IsRing r) : LineEnds r := by
  intro p h0 h6
  have h1 := List.all_eq_true.mp (ring_all h).1 p.toNat (List.mem_range.mpr (by omega))
  rw [Int.toNat_of_nonneg h0] at h1
  simpa using h1
theorem rings_size : (ringsN.all fun q => q.length == 6 && q.all (fun k => Nat.ble k 5) && Nat.ble q.sum 5) = true := by decide +kernel
theorem ofN_sum : ∀ q : List Nat, (ofN q).sum = (q.sum : Int)
  | [] => rfl
  | k :: r => by
    show ((k : Int) :: ofN r).sum = _
    rw [List.sum_cons, List.sum_cons, ofN_sum r]; omega
theorem ring_size {r : List Int} (h : IsRing r) : r.length = 6 ∧ (∀ k ∈ r, 0 ≤ k ∧ k ≤ 5) ∧ 0 ≤ r.sum ∧ r.sum ≤ 5 := by
  obtain ⟨q, hq, rfl⟩ := h
  have h := List.all_eq_true.mp rings_size q hq
  simp only [Bool.and_eq_true, beq_iff_eq, List.all_eq_true, Nat.ble_eq] at h
  obtain ⟨⟨h1, h2⟩, h3⟩ := h
  refine ⟨by simpa [ofN] using h1, fun k hk => ?_, ?_, ?_⟩
  · obtain ⟨n, hn, rfl⟩ := List.mem_map.mp hk
    have := h2 n hn
    omega
  · rw [ofN_sum]; omega
  · rw [ofN_sum]; omega
theorem mem_rot {r : List Int} {s : Nat} {k : Int} (h : k ∈ rotF r s) : k ∈ r := by
  rcases List.mem_append.mp h with h | h
  · exact List.mem_of_mem_drop h
  · exact List.mem_of_mem_take h
theorem mem_dz : ∀ {r : List Int} {k : Int}, k ∈ dz r → k ∈ r
  | [], _, h => h
  | j :: r, k, h => by
    unfold dz at h
    split at h
    · exact List.mem_cons_of_mem _ (mem_dz h)
    · exact h
theorem dz_len : ∀ r : List Int, (dz r).length ≤ r.length
  | [] => Nat.le_refl _
  | j :: r => by
    unfold dz
    split
    · exact Nat.le_succ_of_le (dz_len r)
    · exact Nat.le_refl _
theorem rot_len {r : List Int} {s : Nat} (h : r.length = 6) (hs : s < 6) : (rotF r s).length = 6 := by
  unfold rotF
  rw [List.length_append, List.length_drop, List.length_take, h]; omega
structure SpotOk (r : List Int) (s : Nat) (fin : St) : Prop where
  small : (turnedF r s).natAbs < 16 ^ 6
  told : apF 6 (turnedF r s).natAbs = (dz (rotF r s)).map fun k => UInt8.ofNat (65 + k.toNat)
  run : runF (lettersF r s) ⟨1, (6 - r.sum).toNat, 0, 0, 0, 0⟩ = some fin
  a : fin.a = 0
  b : fin.b = 0
  p0 : fin.p0 = (treesF r (underF r) s 1).1
  q0 : fin.q0 = 4 * (treesF r (underF r) s 1).2 - 2 * 1
  p1 : fin.p1 = (treesF r (underF r) s (6 - r.sum).toNat).1
  q1 : fin.q1 = 4 * (treesF r (underF r) s (6 - r.sum).toNat).2 - 2 * (6 - r.sum)
theorem ring_spot {r : List Int} (h : IsRing r) {s : Nat} (hs : s < 6) : ∃ fin, SpotOk r s fin := by
  have h1 := (ring_all h).2 s hs
  unfold okSpot at h1
  simp only [Bool.and_eq_true, Nat.blt_eq, beq_iff_eq] at h1
  obtain ⟨⟨h2, h3⟩, h4⟩ := h1
  revert h4
  cases hr : runF (lettersF r s) ⟨1, (6 - r.sum).toNat, 0, 0, 0, 0⟩ with
  | none => intro h; cases h
  | some fin =>
    intro h4
    rw [underT_eq] at h4
    simp only [runOk, Bool.and_eq_true, beq_iff_eq] at h4
    obtain ⟨⟨⟨⟨⟨h5, h6⟩, h7⟩, h8⟩, h9⟩, h10⟩ := h4
    exact ⟨fin, h2, h3, hr, h5, h6, h7, h8, h9, h10⟩
end Mine
end
-- part LawB
section
open PySem PySem.W PySem.Calls PyProof.Rows PyProof.V PySem.Spec
set_option maxHeartbeats 1000000
namespace Mine
def toldF (r : List Int) (s : Nat) : List UInt8 := (dz (rotF r s)).map fun k => UInt8.ofNat (65 + k.toNat)
theorem due_mem {r : List Int} (h : IsRing r) {s : Nat} : ∀ k ∈ dz (rotF r s), 0 ≤ k ∧ k ≤ 5 := fun k hk => (ring_size h).2.1 k (mem_rot (mem_dz hk))
theorem due_len {r : List Int} (h : IsRing r) {s : Nat} (hs : s < 6) : (dz (rotF r s)).length ≤ 6 := Nat.le_trans (dz_len _) (Nat.le_of_eq (rot_len (ring_size h).1 hs))
theorem told_eq : ∀ {D : List Int}, (∀ k ∈ D, 0 ≤ k ∧ k ≤ 5) → ((D.map fun k => 65 + k).map fun n => n.toNat.toUInt8) = D.map fun k => UInt8.ofNat (65 + k.toNat)
  | [], _ => rfl
  | k :: r, h => by
    have ih := told_eq (D := r) fun j hj => h j (List.mem_cons_of_mem _ hj)
    have hk := h k List.mem_cons_self
    simp only [List.map_cons, ih]
    have e : (65 + k).toNat = 65 + k.toNat := by omega
    rw [e]
theorem word_ints {r : List Int} (h : IsRing r) {s : Nat} : KBw.bInts ((List.replicate (6 - (dz (rotF r s)).length) 65 ++ toldF r s).toArray) = (lettersF r s).map fun (l : Nat) => (65 : Int) + (l : Int) := by
  unfold KBw.bInts lettersF toldF
  simp only [List.map_append, List.map_replicate, List.map_map]
  congr 1
  refine List.map_congr_left fun k hk => ?_
  have := due_mem h k hk
  simp only [Function.comp]
  rw [UInt8.toNat_ofNat']
  omega
structure DueS where
  D : Addr
  ws : List Value
  n : Nat
  l : List Int
theorem rings_bits : (ringsN.all fun q => Nat.ble (Builtin.Int.intBits (horner (ofN q))) 64) = true := by decide +kernel
theorem ring_bits {r : List Int} (h : IsRing r) : Builtin.Int.intBits (horner r) ≤ 64 := by
  obtain ⟨q, hq, rfl⟩ := h
  exact Nat.le_of_ble_eq_true (List.all_eq_true.mp rings_bits q hq)
theorem turned_eq (r : List Int) (s : Nat) : (horner r * 16 ^ s).fmod (16 ^ 6 - 1) = turnedF r s := by
  unfold turnedF
  have e : (16 : Int) ^ 6 - 1 = 16777216 - 1 := by decide
  rw [e]
def CutEnd (h₀ : Heap) (L : Addr) (m : Str → Option Value) (s : Shared) (news : List (Addr × Obj)) (N : Nat) (v : Value) (s₂ : Shared) : Prop := ∃ h' tk, s₂ = { s with heap := h', toks := tk } ∧ Fr h₀ L h' m ∧ News h₀ L h' news ∧ ∃ n t, v = .int n t ∧ n.natAbs = N
section
variable {prog : Program} {w : World} {A : Around} {E : Value → Shared → Prop} {s : Shared} {h₀ : Heap} {L : Addr} {m : Str → Option Value} {news : List (Addr × Obj)} {Q : Value → Shared → Prop} {t u : Tok}
theorem cut_use {e : Sem Value} {N : Nat} (_ : Fr h₀ L s.heap m) (_ : News h₀ L s.heap news) (h1 : wpAny (model prog w) A e (CutEnd h₀ L m s news N) E s) (h2 : ∀ n t h' tk, n.natAbs = N → Fr h₀ L h' m → News h₀ L h' news → Q (.int n t) { s with heap := h', toks := tk }) : wpAny (model prog w) A e Q E s :=
  wpAny_mono h1 (fun v s₂ h => by
    obtain ⟨h', tk, rfl, F, N', n, t, rfl, hn⟩ := h
    exact h2 n t h' tk hn F N') fun _ _ x => x
theorem CutEnd.intro {N : Nat} {h' : Heap} {tk : Nat} {n : Int} (F : Fr h₀ L h' m) (N' : News h₀ L h' news) (hn : n.natAbs = N) : CutEnd h₀ L m s news N (.int n t) { s with heap := h', toks := tk } := ⟨h', tk, rfl, F, N', n, t, rfl, hn⟩
theorem ne_told {D : List Int} (hD : ∀ k ∈ D, 0 ≤ k ∧ k ≤ 5) (h : Q (.bool false) s) :
    wpAny (model prog w) A (compareOp .NotEq (.bytes (D.map fun k => UInt8.ofNat (65 + k.toNat)).toArray t) (.bytes ((D.map fun k => 65 + k).map fun n => n.toNat.toUInt8).toArray u)) Q E s := by
  refine ne_bytes ?_
  rw [told_eq hD]
  simpa using h
theorem len_told {b : List UInt8} (hb : b.length ≤ 100) (h : ∀ t' k, Q (.int (b.length : Int) t') { s with toks := k }) : wpAny (model prog w) A (call (.builtin "len") [.bytes b.toArray t]) Q E s := by
  refine len_bytes (by rw [List.size_toArray]; omega) ?_
  rw [List.size_toArray]
  exact h _ _
theorem mul_A {k : Nat} {c : Int} (hc : c = (k : Int)) (hk : k ≤ 100) (h : ∀ t' tk, Q (.bytes (List.replicate k (65 : UInt8)).toArray t') { s with toks := tk }) : wpAny (model prog w) A (binaryOp .Mult (.bytes [(65 : UInt8)].toArray t) (.int c u)) Q E s := by
  subst hc
  refine bytes_mul_any (List.cons_ne_nil _ _) (by omega) (by omega) (by decide) fun t' tk => ?_
  have e : (List.replicate ((k : Int)).toNat [(65 : UInt8)]).flatten = List.replicate k 65 := by simp
  rw [e]
  exact h t' tk
theorem add_word {b c : List UInt8} (hb : b.length ≤ 100) (hc : c.length ≤ 100) (h : ∀ t' k, Q (.bytes (b ++ c).toArray t') { s with toks := k }) : wpAny (model prog w) A (binaryOp .Add (.bytes b.toArray t) (.bytes c.toArray u)) Q E s :=
  bytes_add_K (by rw [List.size_toArray, List.size_toArray]; omega) rfl h
theorem ne_left {a b : Nat} (ha : a = 0) (hb : b = 0) (h : Q (.bool false) s) : wpAny (model prog w) A (compareOp .NotEq (.str (mail a b) t) (.str (Str.ofString "x\r\nx\r\n") u)) Q E s := by
  subst ha hb
  have e : (mail 0 0 != Str.ofString "x\r\nx\r\n") = false := by decide +kernel
  refine PyProof.Rows.ne_str ?_
  rw [e]; exact h
theorem nest_reads {h : Heap} {a b c : Addr} {n nb nc : Nat} {xs ys : List Value} {ns ms : List Int} (N : News h₀ L h news) (h1 : (a, listOf #[.ref b, .ref c] n) ∈ news) (h2 : (b, listOf xs.toArray nb) ∈ news) (h3 : (c, listOf ys.toArray nc) ∈ news) (hi : IntsAre xs ns) (hj : IntsAre ys ms) :
    ∃ as, Reads h (.ref a) (.list [.list (ns.map PyData.int), .list (ms.map PyData.int)]) as :=
  ⟨_, reads_list_at (N.get h1) rfl rfl (ReadsAll.cons (reads_newData (News.isList N h2) (ke_carried hi)) (ReadsAll.cons (reads_newData (News.isList N h3) (ke_carried hj)) ReadsAll.nil))⟩
theorem ne_ran {a b c a' b' c' : Addr} {n nb nc n' nb' nc' : Nat} {xs ys xs' ys' : List Value} {p q p' q' : Int} (N : News h₀ L s.heap news) (h1 : (a, listOf #[.ref b, .ref c] n) ∈ news) (h2 : (b, listOf xs.toArray nb) ∈ news) (h3 : (c, listOf ys.toArray nc) ∈ news) (hi : IntsAre xs [p, q]) (hj : IntsAre ys [p', q'])
    (h1' : (a', listOf #[.ref b', .ref c'] n') ∈ news) (h2' : (b', listOf xs'.toArray nb') ∈ news) (h3' : (c', listOf ys'.toArray nc') ∈ news) (hi' : IntsAre xs' [p, q]) (hj' : IntsAre ys' [p', q']) (hu : A.units + 64 < cLine) (h : Q (.bool false) s) :
    wpAny (model prog w) A (compareOp .NotEq (.ref a) (.ref a')) Q E s := by
  obtain ⟨_, r1⟩ := nest_reads N h1 h2 h3 hi hj
  obtain ⟨_, r2⟩ := nest_reads N h1' h2' h3' hi' hj'
  refine ne_dataH r1 r2 ?_ ?_ hu ?_
  · simp [SeqAt.shaped, PyData.canLay0, PyData.canLayAll0, PyData.depth, PyData.depthAll]
  · simp [SeqAt.shaped, PyData.canLay0, PyData.canLayAll0, PyData.depth, PyData.depthAll]
  · simp only [PyData.eqv, PyData.eqvAll, ked_eqvAll, eq_self, beq_self_eq_true, decide_true, Bool.and_true, Bool.true_and, Bool.not_true, List.map_cons, List.map_nil]
    exact h
theorem run_ints {p q : Int} {t t' : Tok} : IntsAre [Value.int p t, .int q t'] [p, q] := .cons _ _ (.cons _ _ .nil)
end
theorem underG_eq (r : List Int) (i : Nat) : (rangeKs 0 6).foldl (fun l k => if (lineF r 5 ((k.toNat : Nat) : Int)).any (· == (i : Int)) then l ++ [k] else l) [] = underF r i := by
  have e : ∀ (l : List Int) (a : Int), l.any (· == a) = l.contains a := by
    intro l a
    rw [List.contains_eq_any_beq]
    congr 1
    funext x
    exact Bool.beq_comm
  have e2 : rangeKs 0 6 = [0, 1, 2, 3, 4, 5] := by decide +kernel
  unfold underF
  rw [e2]
  simp only [e]
  rfl
theorem underG_grows (r : List Int) (i : Nat) : KPfGrows (fun l k => if (lineF r 5 ((k.toNat : Nat) : Int)).any (· == (i : Int)) then l ++ [k] else l) := by
  intro l k
  dsimp only
  split <;> simp
theorem dz_nil : dz [] = [] := rfl
theorem dz_zero (l : List Int) : dz (0 :: l) = dz l := by unfold dz; rw [if_pos rfl]; cases l <;> rfl
theorem dz_ne {k : Int} (l : List Int) (h : k ≠ 0) : dz (k :: l) = k :: l := by unfold dz; rw [if_neg h]
section
variable {prog : Program} {w : World} {A : Around} {E : Value → Shared → Prop} {s : Shared} {h₀ : Heap} {L : Addr} {m : Str → Option Value} {news : List (Addr × Obj)} {Q : Value → Shared → Prop} {t u : Tok} {value slice : PySem.Expr} {l : Addr} {vs : List Value} {ns : List Int} {n : Nat}
theorem mul_turn {r : List Int} {k : Nat} (hr : IsRing r) (h : Q (.int (horner r * 16 ^ k) s.toks) { s with toks := s.toks + 1 }) : wpAny (model prog w) A (binaryOp .Mult (.int (horner r) t) (.int (16 ^ k) u)) Q E s :=
  PyProof.Rows.mul_int h (IntMulOk.of_left (ring_bits hr))
theorem slice_from9 {x : Int} (F : Fr h₀ L s.heap m) (N : News h₀ L s.heap news) (hm : (l, listOf vs.toArray n) ∈ news) (hi : IntsAre vs ns) (hn : ns.length ≤ 100) (h0 : 0 ≤ x)
    (h : ∀ D ws h', IntsAre ws (ns.drop x.toNat) → Fr h₀ L h' m → News h₀ L h' ((D, listOf ws.toArray 0) :: news) → (∀ p ∈ news, p.1 < D) → Q (.ref D) { s with heap := h' })
    (hs : subscripted slice false (.ref l) (.ref s.heap.objs.size) = operate [.ref s.heap.objs.size, .ref l] (getItem (.ref l) (.ref s.heap.objs.size)) := by with_unfolding_all rfl)
    (ht : ∀ r, letTemporaryGo value (.ref l) r = pure () := by intro _; with_unfolding_all rfl) :
    wpAny (model prog w) A (subscriptTail value slice (.ref l) (.ref s.heap.objs.size)) Q E { s with heap := s.heap.push { cls := .type "slice", data := .fields #[.int x t, .none, .none] } } := by
  have e : vs.toArray.size = ns.length := by rw [List.size_toArray]; exact hi.length
  have big : (100 : Nat) ≤ sizeLine := by decide
  refine PyProof.Rows.slice_list F N (News.isList N hm) (.int _ _) .none (fun h' F' N' => ?_) hs ht (by rw [e]; omega)
  exact h _ (slicePick vs.toArray (some x) none none).toList h' (kmk_from hi h0) F' N' fun p hp => Nat.lt_succ_of_lt (Heap.lt_size (N p hp).1)
theorem slice_upto9 {x : Int} (F : Fr h₀ L s.heap m) (N : News h₀ L s.heap news) (hm : (l, listOf vs.toArray n) ∈ news) (hi : IntsAre vs ns) (hn : ns.length ≤ 100) (h0 : 0 ≤ x)
    (h : ∀ D ws h', IntsAre ws (ns.take x.toNat) → Fr h₀ L h' m → News h₀ L h' ((D, listOf ws.toArray 0) :: news) → (∀ p ∈ news, p.1 < D) → Q (.ref D) { s with heap := h' })
    (hs : subscripted slice false (.ref l) (.ref s.heap.objs.size) = operate [.ref s.heap.objs.size, .ref l] (getItem (.ref l) (.ref s.heap.objs.size)) := by with_unfolding_all rfl)
    (ht : ∀ r, letTemporaryGo value (.ref l) r = pure () := by intro _; with_unfolding_all rfl) :
    wpAny (model prog w) A (subscriptTail value slice (.ref l) (.ref s.heap.objs.size)) Q E { s with heap := s.heap.push { cls := .type "slice", data := .fields #[.none, .int x t, .none] } } := by
  have e : vs.toArray.size = ns.length := by rw [List.size_toArray]; exact hi.length
  have big : (100 : Nat) ≤ sizeLine := by decide
  refine PyProof.Rows.slice_list F N (News.isList N hm) .none (.int _ _) (fun h' F' N' => ?_) hs ht (by rw [e]; omega)
  exact h _ (slicePick vs.toArray none (some x) none).toList h' (kmk_upto hi h0) F' N' fun p hp => Nat.lt_succ_of_lt (Heap.lt_size (N p hp).1)
theorem add_rot {a b : Addr} {na nb : Nat} {ws : List Value} {ms : List Int} (F : Fr h₀ L s.heap m) (N : News h₀ L s.heap news) (ha : (a, listOf vs.toArray na) ∈ news) (hb : (b, listOf ws.toArray nb) ∈ news) (hi : IntsAre vs ns) (hj : IntsAre ws ms) (hz : ns.length + ms.length ≤ 100)
    (h : ∀ D us h', Fr h₀ L h' m → News h₀ L h' ((D, listOf (List.toArray us) 0) :: news) → (∀ p ∈ news, p.1 < D) → IntsAre us (ns ++ ms) → Q (.ref D) { s with heap := h' }) : wpAny (model prog w) A (binaryOp .Add (.ref a) (.ref b)) Q E s := by
  have big : (100 : Nat) ≤ sizeLine := by decide
  exact kmk_add_ints F N (News.isList N ha) (News.isList N hb) hi hj h (by omega)
theorem ne_nilF {a b : Addr} {na nb : Nat} (N : News h₀ L s.heap news) (ha : (a, listOf ([] : List Value).toArray na) ∈ news) (hb : (b, listOf ([] : List Value).toArray nb) ∈ news) (hu : A.units + 64 < cLine) (h : Q (.bool false) s) : wpAny (model prog w) A (compareOp .NotEq (.ref a) (.ref b)) Q E s :=
  ke_ne_ints (News.isList N ha) (News.isList N hb) .nil .nil hu (by simpa using h)
theorem ne_nilT {a b : Addr} {na nb : Nat} {v : Value} {k : Int} (N : News h₀ L s.heap news) (ha : (a, listOf (v :: vs).toArray na) ∈ news) (hi : IntsAre (v :: vs) (k :: ns)) (hb : (b, listOf ([] : List Value).toArray nb) ∈ news) (hu : A.units + 64 < cLine) (h : Q (.bool true) s) : wpAny (model prog w) A (compareOp .NotEq (.ref a) (.ref b)) Q E s :=
  ke_ne_ints (News.isList N ha) (News.isList N hb) hi .nil hu (by simpa using h)
theorem head_item {v : Value} (N : News h₀ L s.heap news) (hm : (l, listOf (v :: vs).toArray n) ∈ news) (h : Q v s)
    (hs : subscripted slice false (.ref l) (.int 0 u) = operate [.ref l, .int 0 u] (getItem (.ref l) (.int 0 u)) := by with_unfolding_all rfl) (hg : ∀ r, letTemporaryGo value (.ref l) r = pure () := by intro _; with_unfolding_all rfl) :
    wpAny (model prog w) A (subscriptTail value slice (.ref l) (.int 0 u)) Q E s :=
  kim_list N hm rfl rfl (by decide) (by decide) (l := v :: vs) rfl h hs hg
end
/-- the while's end: the list without its leading noughts -/
def DueQ (h₀ : Heap) (L : Addr) (m₀ : Str → Option Value) (base : List (Addr × Obj)) (lz : List Int) (s : Shared) (f : Flow) (s₂ : Shared) : Prop :=
  f = .next ∧ ∃ D ws n h tk m', s₂ = { s with heap := h, toks := tk } ∧ Fr h₀ L h m' ∧ m' (Str.ofString "due") = some (.ref D) ∧ (∀ z, z ≠ Str.ofString "due" → m' z = m₀ z) ∧ News h₀ L h ((D, listOf (List.toArray ws) n) :: base) ∧ IntsAre ws lz
section
variable {prog : Program} {w : World} {A : Around} {E : Value → Shared → Prop} {s : Shared} {h₀ : Heap} {L : Addr} {m₀ : Str → Option Value} {base : List (Addr × Obj)} {Q : Flow → Shared → Prop} {lz : List Int}
theorem due_cut {e : Sem Flow} {D : Addr} {ws : List Value} {n : Nat} (_ : Fr h₀ L s.heap m₀) (_ : News h₀ L s.heap ((D, listOf ws.toArray n) :: base)) (h1 : wpAny (model prog w) A e (DueQ h₀ L m₀ base lz s) E s)
    (h2 : ∀ D ws n h tk, Fr h₀ L h (fun y => if y = Str.ofString "due" then some (.ref D) else m₀ y) → News h₀ L h ((D, listOf (List.toArray ws) n) :: base) → IntsAre ws lz → Q .next { s with heap := h, toks := tk }) : wpAny (model prog w) A e Q E s :=
  wpAny_mono h1 (fun f s₂ h => by
    obtain ⟨rfl, D, ws, n, h, tk, m', rfl, F, hd, hz, N, hi⟩ := h
    refine h2 D ws n h tk ?_ N hi
    have e : (fun y => if y = Str.ofString "due" then some (.ref D) else m₀ y) = m' := by
      funext y
      by_cases hy : y = Str.ofString "due"
      · rw [if_pos hy, hy, hd]
      · rw [if_neg hy, hz y hy]
    rw [e]; exact F) fun _ _ x => x
theorem DueQ.intro {D : Addr} {ws : List Value} {n : Nat} {h : Heap} {tk : Nat} {u : Str → Option Value} {all : List (Addr × Obj)} (F : Fr h₀ L h (kstB (fun z => if ([] : List Str).contains z then u z else m₀ z) [(Str.ofString "due", .ref D)])) (N : News h₀ L h all) (hs : ∀ p ∈ (D, listOf ws.toArray n) :: base, p ∈ all) (hi : IntsAre ws lz) :
    DueQ h₀ L m₀ base lz s .next { s with heap := h, toks := tk } :=
  ⟨rfl, D, ws, n, h, tk, _, rfl, F, (by unfold kstB; exact if_pos rfl), fun z hz => by show (if z = Str.ofString "due" then _ else _) = _; rw [if_neg hz]; rfl, fun p hp => N p (hs p hp), hi⟩
theorem dz_pop {k : Int} {l lz : List Int} (hk : k = 0) (h : dz (k :: l) = lz) : dz l = lz := by subst hk; rw [dz_zero] at h; exact h
theorem dz_keep {k : Int} {l lz : List Int} {ws : List Value} (hk : k ≠ 0) (h : dz (k :: l) = lz) (hw : IntsAre ws (k :: l)) : IntsAre ws lz := by rw [dz_ne l hk] at h; subst h; exact hw
theorem dz_keep0 {lz : List Int} {ws : List Value} (h : dz [] = lz) (hw : IntsAre ws []) : IntsAre ws lz := by subst h; exact hw
theorem due_bytes {r : List Int} (h : IsRing r) {s : Nat} : ∀ n ∈ (dz (rotF r s)).map (fun k => 65 + k), 0 ≤ n ∧ n < 256 := fun n hn => by
  obtain ⟨k, hk, rfl⟩ := List.mem_map.mp hn
  have := due_mem h k hk
  omega
theorem due_size {r : List Int} (h : IsRing r) {s : Nat} (hs : s < 6) {vs : List Value} (hv : IntsAre vs ((dz (rotF r s)).map (fun k => 65 + k))) : vs.length ≤ sizeLine := by
  have big : (100 : Nat) ≤ sizeLine := by decide
  have := due_len h hs
  rw [hv.length, List.length_map]
  omega
theorem told_len {r : List Int} (h : IsRing r) {s : Nat} (hs : s < 6) : ((dz (rotF r s)).map fun k => UInt8.ofNat (65 + k.toNat)).length ≤ 100 := by
  have := due_len h hs
  rw [List.length_map]
  omega
theorem told_sub {r : List Int} (h : IsRing r) {s : Nat} (hs : s < 6) : (6 : Int) - ((((dz (rotF r s)).map fun k => UInt8.ofNat (65 + k.toNat)).length : Nat) : Int) = ((6 - (dz (rotF r s)).length : Nat) : Int) := by
  have := due_len h hs
  rw [List.length_map]
  omega
end
end Mine
end
-- part Law
section
open PySem PySem.W PyProof.Rows
set_option maxHeartbeats 4000000
namespace Mine
theorem horner_next {pre : List Int} {n k : Int} (h : n = horner pre) : 16 * n + k = horner (pre ++ [k]) := by
  subst h
  unfold horner
  rw [List.foldl_append]
  rfl
theorem zero_add_led {ws : List Value} {r : List Int} {i : Nat} (h : IntsAre ws (lineF r 5 (0 + (i : Int)))) : IntsAre ws (lineF r 5 (i : Int)) := by rw [Int.zero_add] at h; exact h
theorem nest_thin {f : Nat → List Int} {xs : List Addr} {D : Addr} {made news : List (Addr × Obj)} (hx : xs.length = 6) (hm : MadeAre f xs made) (h1 : (D, LCg.lst (xs.map Value.ref)) ∈ news) (h2 : ∀ p ∈ made, p ∈ news) : Nest news D (fun i => xs.getD i 0) f := nest_of hx hm h1 h2
theorem store_led {h₀ : Heap} {L : Addr} {m : Str → Option Value} {s : Shared} {prog : Program} {w : World} {A : Around} {E : Value → Shared → Prop} {name : Str} {scope : Scope} {a : Addr} {cd : Value} {x : Str} {c : Addr} {o : Obj} {v₀ : Option Value} {v : Value} {own rest made : List (Addr × Obj)} {Q : Unit → Shared → Prop}
    (F : Fr h₀ L s.heap m) (N : News h₀ L s.heap (own ++ (c, o) :: (rest ++ made))) (h1 : ∀ p ∈ own, p.1 ≠ c) (h2 : ∀ p ∈ rest, p.1 ≠ c) (h3 : ∀ p ∈ made, p.1 ≠ c)
    (hc : (cellsFrom (L + 1) scope.names []).lookup x = some c) (hd : o.data = .cell v₀)
    (h : ∀ h' o', Fr h₀ L h' m → News h₀ L h' (own ++ (c, o') :: (rest ++ made)) → o'.data = .cell (some v) → Q () { s with heap := h' })
    (hk : scope.kind = .function := by rfl) (hl : (envOfC name scope L a cd).kindOf x = some .cell := by rfl) :
    wpAny (model prog w) A (storeName (envOfC name scope L a cd) x v) Q E s := stCN F N hc hd h1 (fun p hp => (List.mem_append.mp hp).elim (h2 p) (h3 p)) h hk hl
local macro_rules | `(tactic| k_mem) => `(tactic| (with_reducible refine List.mem_append_left _ ?_; k_mem))
local macro_rules | `(tactic| k_all) => `(tactic| (with_reducible exact dis_all (by with_reducible assumption) (by k_mem)))
local macro_rules | `(tactic| walk_at "exec For Name Name cons nil") => `(tactic| ((rename Fr _ _ _ _ => lF'); (with_unfolding_all refine' For_invVF lF' ?k1 ?k2 ?_; (case k1 => exact rfl); (case k2 => exact rfl); k_whole)))
local macro_rules | `(tactic| walk_at "exec For Name Call cons nil") => `(tactic| ((rename Fr _ _ _ _ => lF'); (with_unfolding_all refine' For_invVF lF' ?k1 ?k2 ?_; (case k1 => exact rfl); (case k2 => exact rfl); k_whole)))
local macro_rules | `(tactic| walk_at "pyIter ref") => `(tactic| k_extra "pyIter ref")
local macro_rules | `(tactic| walk_at "exec Assign cons ListComp") => `(tactic| k_extra "my Assign")
local macro_rules | `(tactic| walk_at "eval ListComp") => `(tactic| k_extra "my ListComp")
local macro_rules | `(tactic| walk_at "CompSrc") => `(tactic| k_extra "my CompSrc")
local macro_rules | `(tactic| walk_at "CompSrcT") => `(tactic| k_extra "my CompSrcT")
local macro_rules | `(tactic| walk_at "CompEnd") => `(tactic| k_extra "my CompEnd")
local macro_rules | `(tactic| walk_at "subscriptTail Name Slice ref ref") => `(tactic| k_extra "my Slice")
local macro_rules | `(tactic| walk_at "subscriptTail Name Name ref int") => `(tactic| k_extra "my Item")
local macro_rules | `(tactic| walk_at "compareOp In int ref") => `(tactic| k_extra "my In")
local macro_rules | `(tactic| walk_at "InvEndN") => `(tactic| k_extra "my InvEnd")
local macro_rules | `(tactic| walk_at "eval IfExp") => `(tactic| k_extra "my IfExp")
local macro_rules | `(tactic| walk_at "exec While") => `(tactic| k_extra "my While")
local macro_rules | `(tactic| walk_at "storeName") => `(tactic| k_extra "my Store")
local macro_rules | `(tactic| walk_at "compareOp NotEq bytes bytes") => `(tactic| k_extra "my NeBytes")
local macro_rules | `(tactic| walk_at "compareOp NotEq ref ref") => `(tactic| k_extra "my NeRef")
local macro_rules | `(tactic| walk_at "compareOp NotEq str str") => `(tactic| k_extra "my NeStr")
local macro_rules | `(tactic| walk_at "call builtin:len") => `(tactic| k_extra "my Len")
local macro_rules | `(tactic| walk_at "binaryOp Mult bytes int") => `(tactic| k_extra "my MulBytes")
local macro_rules | `(tactic| walk_at "binaryOp Add bytes bytes") => `(tactic| k_extra "my AddBytes")
local macro_rules | `(tactic| walk_at "binaryOp Add ref ref") => `(tactic| k_extra "my AddRef")
local macro_rules | `(tactic| walk_at "binaryOp Mult int int") => `(tactic| k_extra "my MulInt")
local macro_rules | `(tactic| walk_at "subscriptTail Name Constant ref int") => `(tactic| k_extra "my Head")
local macro_rules | `(tactic| walk_at "call type:bytes") => `(tactic| k_extra "my Bytes")
theorem lawHolds : PySem.Challenge.rw_rw0023_01.Holds := hd (by
  k_with_none
  k_go0
  all_goals try k_fold
  with_reducible rename Fr _ _ _ _ => F8
  have F9 : Fr _ _ _ (fun _ => none) := F8
  clear F8
  with_reducible rename IntsAre _ _ => hI
  have hlen9 : (_ : List Int).length ≤ 100 := Nat.le_trans (Nat.le_of_not_lt fun h9 => (by assumption : ¬ (63 : Int) < _) (Int.ofNat_lt.mpr h9)) (by decide : 63 ≤ 100)
  k_with "my Assign" => first
    | ((with_reducible show wpAny _ _ (exec (PySem.Stmt.Assign [PySem.Expr.Name (Str.ofString "under") _] _ _) _) _ _ _); k_dflt (refine mkc_Assign (underF r) 6 (by k_asm) (by rfl) (by with_unfolding_all rfl) (by with_unfolding_all rfl) (fun _ => rfl) (fun _ => rfl) (by rfl) (by decide) (by rfl) (by rfl) (by rfl) ?_))
    | k_dflt (refine wpAny_Assign_Name ?_ (by with_unfolding_all rfl))
  k_with "my ListComp" => first
    | ((with_reducible show wpAny _ _ (eval (PySem.Expr.ListComp _ [PySem.Comprehension.mk (PySem.Expr.Tuple _ _ _) _ _ _] _ _) _) _ _ _); k_dflt (refine en_ListComp IsPick (_F₀ := by k_asm) (by with_unfolding_all rfl) (by decide) (by rfl) (by decide) (by rfl) (by rfl) (by decide +kernel) ?_))
    | ((with_reducible show wpAny _ _ (eval (PySem.Expr.ListComp _ [PySem.Comprehension.mk (PySem.Expr.Name _ _) _ (_ :: _) _] _ _) _) _ _ _); k_dflt (refine LCt.ListComp_T (F₀ := by k_asm) (by with_unfolding_all rfl) (by decide) (by rfl) (by decide) (by rfl) ?_))
    | ((with_reducible show wpAny _ _ (eval (PySem.Expr.ListComp (PySem.Expr.Call (PySem.Expr.Name _ _) _ _ _) _ _ _) _) _ _ _); k_dflt (refine mkp_ListComp (fun i9 => lineF r 5 (i9 : Int)) 6 (_F₀ := by k_asm) (by with_unfolding_all rfl) (by decide) (by rfl) (by decide) (by rfl) ?_))
    | ((with_reducible show wpAny _ _ (eval (PySem.Expr.ListComp _ [PySem.Comprehension.mk (PySem.Expr.Name _ _) _ [] _] _ _) _) _ _ _); k_dflt (refine LCg.ListComp_U (F₀ := by k_asm) (by with_unfolding_all rfl) (by decide) (by rfl) (by decide) (by rfl) ?_))
  k_with "call type:enumerate" => (k_dflt (refine EnSrc.call (by rfl) (by k_asm) (by k_asm) (by k_mem) (by exact Nat.le_of_ble_eq_true rfl) (fun h9 => ?_) (fun h9 => ?_)))
  k_with "EnElt" => (unfold EnElt; intro i v t I oI J oJ C oC D ys m2 h9 tk9 E9 hi hv hC ha hb F9 N9; (try dsimp only); obtain ⟨k9, t9, hv9⟩ := five_int hv; subst hv9)
  k_with "EnFinE" => (unfold EnFinE; intro ys D9 h9 tk9 hyl hys F9 N9 l9; (try dsimp only); (try k_lt l9); obtain ⟨ns, hns, hnk⟩ := picks_ints hys; have hnl : ns.length = 5 := by k_dflt (exact hns.length.symm.trans hyl))
  k_with "EnEnd" => (k_dflt (refine EnEnd.intro (by k_asm) (by k_asm) (fun _ h9 => List.Mem.tail _ h9) ⟨_, _, rfl, (fmod7 _).1, (fmod7 _).2⟩))
  k_with "my Slice" => first
    | ((with_reducible show wpAny _ _ (subscriptTail (PySem.Expr.Name (Str.ofString "ring") _) (PySem.Expr.Slice (some _) _ _ _) _ _) _ _ _); (with_reducible rename Fr _ _ _ _ => FF9); (with_reducible rename News _ _ _ _ => NF9); k_dflt (refine slice_from9 (s := ⟨_, _, _, _, _⟩) FF9 NF9 (by k_mem) hyR (by rw [hrl]; decide) (by omega) ?_); intro Df wsF hf9 hwF FF8 NF8 lf8; (try k_lt lf8))
    | ((with_reducible show wpAny _ _ (subscriptTail (PySem.Expr.Name (Str.ofString "ring") _) (PySem.Expr.Slice none _ _ _) _ _) _ _ _); (with_reducible rename Fr _ _ _ _ => FF9); (with_reducible rename News _ _ _ _ => NF9); k_dflt (refine slice_upto9 (s := ⟨_, _, _, _, _⟩) FF9 NF9 (by k_mem) hyR (by rw [hrl]; decide) (by omega) ?_); intro Du wsU hf9 hwU FF8 NF8 lf8; (try k_lt lf8))
    | ((with_reducible show wpAny _ _ (subscriptTail (PySem.Expr.Name (Str.ofString "due") _) _ _ _) _ _ _); (with_reducible rename Fr _ _ _ _ => FF9); (with_reducible rename News _ _ _ _ => NF9); k_dflt (refine slice_from9 (s := ⟨_, _, _, _, _⟩) FF9 NF9 (by k_mem) hwW (Nat.le_trans hlW (by decide)) (by decide) ?_); intro Df wsF hf9 hwF FF8 NF8 lf8; (try k_lt lf8))
    | ((with_reducible show wpAny _ _ (subscriptTail (PySem.Expr.Name (Str.ofString "script") _) _ _ _) _ _ _); ((with_reducible rename Fr _ _ _ _ => F'); (with_reducible rename News _ _ _ _ => N'); k_dflt (refine pick_ints (s := ⟨_, _, _, _, _⟩) F' N' (by is_list) hI hlen9 (by first | exact .none | exact .int _ _) (by first | exact .none | exact .int _ _) (by first | exact .none | exact .int _ _) (by decide) ?_); intro D9 ws9 ms9 h9 hw9 F9 N9 l9; (try k_lt l9)))
  k_with "my CompSrc" => first
    | ((k_dflt show LCg.CompSrc _ _ _ _ _ _ _ (PySem.Expr.Call (PySem.Expr.Attribute _ _ _) _ _ _) _ _ _ _ _ _); (k_dflt (refine LCg.CompSrc.range (by rfl) (by k_asm) (by k_asm) (by assumption) (by decide) (by rfl) (n := 6) (by exact Nat.le_of_ble_eq_true rfl) ?_); intro g9; k_dflt (refine kcf_range (n := 6) (fun k9 => (ns.count k9 : Int)) (fun k' t' I' oI' C' oC' D' m' ys' h' tk' E' hk1 hk2 hC' hx' F' N' off' ne' hM' => ?_) ?_));
       rotate_left; (unfold KPfDone; intro ysR hyR; have hring := ring_of (ns := ns) hnl; generalize List.map (fun k9 => (ns.count k9 : Int)) (rangeKs 0 6) = r at hyR hring; have hrl := (ring_size hring).1); rotate_left)
    | ((k_dflt show LCg.CompSrc _ _ _ _ _ _ _ (PySem.Expr.BinOp _ _ _ _) _ _ _ _ _ _); (k_dflt (refine LCg.CompSrc.ledger (by rfl) (by k_asm) (by k_asm) (by k_mem) (ws_fits hdue (due_len hring hlt9)) ?_); intro g9; k_dflt (refine kcf_list (fun k9 => 65 + k9) hdue (fun k' t' I' oI' C' oC' D' m' ys' h' tk' E' hk1 hC' hx' F' N' off' ne' hM' => ?_) ?_)); rotate_left; (unfold KPfDone; intro ysB hyB); rotate_left)
  k_with "MkSrcP" => (k_dflt (refine MkSrcP.range (by rfl) (by k_asm) (by k_asm) (by assumption) (by decide) (by rfl) (by exact Nat.le_of_ble_eq_true rfl) (fun g9 => ?_) (fun g9 => ?_)))
  k_with "MkEltP" => (unfold MkEltP; intro iL tL IL oIL CL oCL DL ysL madeL m2L hL9 tkL EL hiL hCL hxL FL NL; (try dsimp only))
  k_with "MkFinE" => (unfold MkFinE; intro xsL madeL DL hL9 tkL hxlL hmadeL FL NL oL hdisL; (try dsimp only); (try simp only [List.cons_append, List.nil_append] at NL oL); (try simp only [LCg.Off1, and_true] at oL))
  k_with "pyIter ref" => first
    | (k_state (fun pre number => number = horner pre) "number")
    | ((with_reducible rename Fr _ _ _ _ => FP); (with_reducible rename News _ _ _ _ => NP); k_dflt (refine kst_range (σ := Unit) (n := 6) (fun _ => _) (fun _ => []) (fun _ => True) [Str.ofString "turned", Str.ofString "told", Str.ofString "due", Str.ofString "ran", Str.ofString "left"] (fun _ _ => True) () (by rfl) (by assumption) (by decide) (by rfl) FP NP trivial (fun _ h => nomatch h) trivial (fun c9 pre9 sp tS uS hS9 tkS own9 hk9 hlt9 hoff9 _ _ FS NS => ?_) (fun c9 uS hS9 tkS _ _ FS NS => ?_)); (rotate_left; rotate_left; subst hk9; obtain ⟨fin, hfin⟩ := ring_spot hring hlt9; (try simp only [Int.zero_add] at FS); generalize pre9.length = sN at *))
  k_with "state" => first | exact rfl | exact horner_next (by assumption)
  k_with "call ref" => first
    | ((with_reducible show wpAny _ _ (call (Value.ref 90) _) _ _ _); k_dflt (refine lineTells _ _ _ _ _ _ _ _ _ _ _ _ _ _ _ _ _ _ _ _ _ _ _ _ _ _ _ _ (by k_asm) (by k_asm) (by k_asm) (by k_asm) (by k_asm) (by first | exact rfl | assumption) (by k_mem) hyR hrl (ring_lineEnds hring) (by omega) (by omega) (by ktr_room) (by ktr_units) ?_); intro x9 ws9 k9 h9 tk9 hw9 l9 F9 N9; (try dsimp only))
    | ((with_reducible show wpAny _ _ (call (Value.ref 62) _) _ _ _); k_dflt (refine apTells _ _ _ _ _ _ _ _ _ _ _ _ _ _ _ _ _ _ _ _ _ _ _ _ (by k_asm) (by k_asm) (by k_asm) (by k_asm) (by k_asm) (by first | exact rfl | assumption) (hnat9 ▸ hfin.small) (by ktr_room) (by ktr_units) ?_); intro t9 h9 tk9 F9 N9; (try dsimp only); rw [hnat9, hfin.told])
    | ((with_reducible show wpAny _ _ (call (Value.ref 100) _) _ _ _); k_dflt (refine runTells _ _ _ _ _ _ _ _ _ _ _ _ _ _ _ _ _ _ _ _ _ _ _ _ _ _ _ _ _ _ (by k_asm) (by k_asm) (by k_asm) (by k_asm) (by k_asm) (by first | exact rfl | assumption) (by omega) (by omega) (by have h5 := (ring_size hring).2.2; omega) (by have h5 := (ring_size hring).2.2; omega) (word_ints hring) hfin.run (by ktr_room) (by ktr_units) ?_); intro Dt Nn X0 X1 tt v0 v1 v2 v3 nn0 nn1 ht9 tkt Ft Nt lt; (try dsimp only); (try simp only [runLed] at Nt); (try k_lt lt))
    | ((with_reducible show wpAny _ _ (call (Value.ref 95) [_, _, _, Value.int 1 _]) _ _ _); k_dflt (refine treesTells _ _ _ _ _ _ _ _ _ _ _ _ _ _ _ _ _ _ _ _ _ _ _ _ (underF r) _ _ _ r _ _ _ _ (by k_asm) (by k_asm) (by k_asm) (by k_asm) (by k_asm) (by first | exact rfl | assumption) (nest_thin hxlU hmadeU (by k_mem) (fun p9 hp9 => by (repeat (first | exact hp9 | (with_reducible exact List.mem_append_left _ hp9) | (with_reducible exact List.mem_append_right _ hp9) | (with_reducible exact List.mem_append_left _ (List.mem_append_left _ hp9)) | (with_reducible exact List.mem_append_left _ (List.mem_append_right _ hp9)) | (with_reducible refine List.mem_cons_of_mem _ ?_))))) (by k_mem) hyR hrl (underF_len r) (underF_mem r) (by omega) (by omega) (by decide) (by decide) (by ktr_room) (by ktr_units) ?_); intro xA wsA kA hA9 tkA hwA0 lA FA NA; (try dsimp only); (have hwA : IntsAre wsA [fin.p0, fin.q0] := by (rw [hfin.p0, hfin.q0]; k_dflt exact hwA0)); (try k_lt lA))
    | ((with_reducible show wpAny _ _ (call (Value.ref 95) _) _ _ _); k_dflt (refine treesTells _ _ _ _ _ _ _ _ _ _ _ _ _ _ _ _ _ _ _ _ _ _ _ _ (underF r) _ _ _ r _ _ _ _ (by k_asm) (by k_asm) (by k_asm) (by k_asm) (by k_asm) (by first | exact rfl | assumption) (nest_thin hxlU hmadeU (by k_mem) (fun p9 hp9 => by (repeat (first | exact hp9 | (with_reducible exact List.mem_append_left _ hp9) | (with_reducible exact List.mem_append_right _ hp9) | (with_reducible exact List.mem_append_left _ (List.mem_append_left _ hp9)) | (with_reducible exact List.mem_append_left _ (List.mem_append_right _ hp9)) | (with_reducible refine List.mem_cons_of_mem _ ?_))))) (by k_mem) hyR hrl (underF_len r) (underF_mem r) (by omega) (by omega) (by have h5 := (ring_size hring).2.2; omega) (by have h5 := (ring_size hring).2.2; omega) (by ktr_room) (by ktr_units) ?_); intro xB wsB kB hB9 tkB hwB0 lB FB NB; (try dsimp only); (have hwB : IntsAre wsB [fin.p1, fin.q1] := by (rw [hfin.p1, hfin.q1]; k_dflt exact hwB0)); (try k_lt lB))
  k_with "MkSrc" => (k_dflt (refine MkSrc.range (by rfl) (by k_asm) (by k_asm) (by assumption) (by decide) (by rfl) (by exact Nat.le_of_ble_eq_true rfl) (fun g9 => ?_) (fun g9 => ?_)))
  k_with "MkElt" => (unfold MkElt; intro iU tU IU oIU TU oTU CU oCU DU ysU madeU hU9 tkU EU hiU hoT FU NU; (try dsimp only); (try simp only [List.cons_append, List.nil_append] at NU); (try simp only [Int.zero_add] at hoT))
  k_with "MkFin" => (unfold MkFin; intro xsU madeU DU hU9 tkU hxlU hmadeU FU NU oU; (try dsimp only); (try simp only [List.cons_append, List.nil_append] at NU oU); (try simp only [LCg.Off1, and_true] at oU))
  k_with "MkEnd" => first
    | (k_dflt (exact ⟨_, _, _, _, _, rfl, rfl, zero_add_led hw9, (by k_asm), (by k_asm), off1_of (all_ne_of_lt l9)⟩))
    | (k_dflt (refine ⟨_, _, _, _, _, rfl, rfl, ?_, (by k_asm), (by k_asm), ?_⟩))
  k_with "my CompSrcT" => ((k_dflt (refine LCt.CompSrcT.range (by rfl) (by k_asm) (by k_asm) (by assumption) (by decide) (by rfl) (n := 6) (by exact Nat.le_of_ble_eq_true rfl) ?_); intro g9; k_dflt (refine kci_range (n := 6) (fun l9 k9 => if (lineF r 5 ((k9.toNat : Nat) : Int)).any (· == (iU : Int)) then l9 ++ [k9] else l9) (fun k' t' I' oI' C' oC' D' m' ys' l' h' tk' E' hk1 hk2 hI' hC' hx' F' N' off' ne' hM' => ?_) ?_ (underG_grows r iU)); rotate_left; (unfold KPfDone; intro ysI hyI _; rw [underG_eq] at hyI; unfold LCg.FinE; intro DI hI9 tkI FI NI oI9; k_dflt (exact ⟨_, _, _, _, _, rfl, rfl, hyI, FI, NI, oI9⟩))))
  k_with "my Item" => ((with_reducible rename News _ _ _ _ => NI9); k_dflt (refine nest_item NI9 (nest_thin hxlL hmadeL (by k_mem) (fun p9 hp9 => by (repeat (first | exact hp9 | (with_reducible exact List.mem_append_left _ hp9) | (with_reducible exact List.mem_append_right _ hp9) | (with_reducible exact List.mem_append_left _ (List.mem_append_left _ hp9)) | (with_reducible exact List.mem_append_left _ (List.mem_append_right _ hp9)) | (with_reducible refine List.mem_cons_of_mem _ ?_))))) (by omega) (by omega) ?_); intro ws9 n9 hw9 hm9)
  k_with "my In" => (k_dflt (refine in_list_ints (News.isList (by k_asm) hm9) hw9 ?_))
  k_with "my Store" => ((with_reducible show wpAny _ _ (storeName _ (Str.ofString "lines") _) _ _ _); (k_dflt (refine store_led (own := [_, _, _, _]) (rest := [_, _, _]) FL NL (by k_all) (by k_all) (by (exact dis_all hdisL (by k_mem))) (by rfl) (by k_asm) ?_)); (try simp only [List.cons_append, List.nil_append]); intro hS9 oS9 FS NS hS9d)
  k_with "my CompEnd" => first
    | (k_dflt (refine LCg.CompEnd.intro (by with_reducible assumption) (by with_reducible assumption) _ (fun _ h9 => h9) (by with_reducible assumption) trivial ?_))
    | (k_dflt (refine LCg.CompEnd.intro (by with_reducible assumption) (by with_reducible assumption) _ (fun _ h9 => h9) (by with_reducible assumption) (src_led (by k_mem)) ?_))
  k_with "KCiEl" => (k_dflt (exact kci_el (by rw [if_pos (by assumption)]) rfl rfl))
  k_with "KCiNo" => (k_dflt (exact kci_no (by rw [if_neg (Bool.eq_false_iff.mp (by assumption))]) rfl))
  k_with "my MulInt" => ((with_reducible show wpAny _ _ (binaryOp _ (Value.int (List.foldl _ _ _) _) _) _ _ _); k_dflt (refine mul_turn hring ?_))
  k_with "my IfExp" => ((fail_if_success (with_reducible show wpAny _ _ _ (CutEnd _ _ _ _ _ _) _ _)); (with_reducible rename Fr _ _ _ _ => FI9); (with_reducible rename News _ _ _ _ => NI9); k_dflt (refine cut_use (N := (turnedF r sN).natAbs) FI9 NI9 ?_ (fun n9 t9 h9 tk9 hnat9 F9 N9 => ?_)))
  k_with "CutEnd" => (k_dflt (first | exact CutEnd.intro (by k_asm) (by k_asm) (congrArg Int.natAbs (turned_eq r sN)) | exact CutEnd.intro (by k_asm) (by k_asm) ((Int.natAbs_neg _).trans (congrArg Int.natAbs (turned_eq r sN)))))
  k_with "my AddRef" => ((with_reducible rename Fr _ _ _ _ => FA9); (with_reducible rename News _ _ _ _ => NA9); k_dflt (refine add_rot FA9 NA9 (by k_mem) (by k_mem) hwF hwU (by have h5 := rot_len hrl hlt9; unfold rotF at h5; rw [List.length_append] at h5; exact Nat.le_trans (Nat.le_of_eq h5) (by decide)) ?_); intro Dr wsr hr9 Fr9 Nr9 lr9 hrot; (try k_lt lr9))
  k_with "my While" => first
    | ((with_reducible show wpAny _ _ _ (DueQ _ _ _ _ _ _) _ _); (with_reducible rename Fr _ _ _ _ => FW9); (with_reducible rename News _ _ _ _ => NW9); k_dflt (refine ksw_while (σ := DueS) (fun c => (c.D, listOf c.ws.toArray c.n) :: _) (fun c => [(Str.ofString "due", Value.ref c.D)]) (fun c => IntsAre c.ws c.l ∧ c.l.length ≤ 6) [] (fun c => dz c.l = dz (rotF r sN)) (fun c => c.l.length) ⟨Dr, wsr, 0, rotF r sN⟩ FW9 NW9 ⟨hrot, Nat.le_of_eq (rot_len hrl hlt9)⟩ (fun p9 hp9 => by rw [List.mem_singleton.mp hp9]; rfl) rfl (fun c9 u9 hW9 tkW hfW hpW FW NW => ?_)); (obtain ⟨cD, cw, cn, cl⟩ := c9; dsimp only at hfW hpW FW NW; obtain ⟨hwW, hlW⟩ := hfW; rcases cl with _ | ⟨kW, cl⟩; (obtain rfl := IntsAre.nil_inv hwW); rotate_left; (obtain ⟨tW, cw', rfl, hwW'⟩ := IntsAre.cons_inv hwW)))
    | ((with_reducible rename Fr _ _ _ _ => FW9); (with_reducible rename News _ _ _ _ => NW9); k_dflt (refine due_cut (lz := dz (rotF r sN)) FW9 NW9 ?_ (fun Dd wsd nd hd9 tkd Fd Nd hdue => ?_)))
  k_with "DueQ" => (k_dflt (first | exact DueQ.intro (by k_asm) (by k_asm) (fun _ h9 => List.Mem.tail _ h9) (dz_keep0 hpW hwW) | exact DueQ.intro (by k_asm) (by k_asm) (fun _ h9 => List.Mem.tail _ h9) (dz_keep (by with_reducible assumption) hpW hwW)))
  k_with "my Head" => (k_dflt (refine head_item (by k_asm) (by k_mem) ?_))
  k_with "my NeRef" => first
    | ((with_reducible show wpAny _ _ _ _ _ _); (with_reducible rename News _ _ _ _ => NN9); k_dflt (refine ne_nilT NN9 (by k_mem) hwW (by k_mem) (by ke_room) ?_))
    | ((with_reducible rename News _ _ _ _ => NN9); k_dflt (refine ne_nilF NN9 (by k_mem) (by k_mem) (by ke_room) ?_))
    | ((with_reducible rename News _ _ _ _ => NN9); k_dflt (refine ne_ran (xs := [_, _]) (ys := [_, _]) (xs' := wsA) (ys' := wsB) NN9 (by k_mem) (by k_mem) (by k_mem) run_ints run_ints (by k_mem) (by k_mem) (by k_mem) hwA hwB (by ke_room) ?_))
  k_with "KCfEl" => (k_dflt (exact kcf_el rfl rfl rfl))
  k_with "my Bytes" => ((with_reducible rename Fr _ _ _ _ => FB9); (with_reducible rename News _ _ _ _ => NB9); k_dflt (refine bytes_K FB9 NB9 (News.isList NB9 (by k_mem)) hyB (due_bytes hring) (due_size hring hlt9 hyB) (by rfl) ?_); intro hB9 tB kB FB8 NB8 _; (try dsimp only))
  k_with "my NeBytes" => (k_dflt (refine ne_told (due_mem hring) ?_))
  k_with "my Len" => (k_dflt (refine len_told (told_len hring hlt9) ?_); intro t9 k9)
  k_with "my MulBytes" => (k_dflt (refine mul_A (told_sub hring hlt9) (Nat.le_trans (Nat.sub_le _ _) (by decide)) ?_); intro t9 k9)
  k_with "my AddBytes" => (k_dflt (refine add_word (by rw [List.length_replicate]; exact Nat.le_trans (Nat.sub_le _ _) (by decide)) (told_len hring hlt9) ?_); intro t9 k9)
  k_with "my NeStr" => (k_dflt (refine ne_left hfin.a hfin.b ?_))
  k_with "my InvEnd" => ((with_reducible rename Fr _ _ _ _ => FV9); (with_reducible rename News _ _ _ _ => NV9); k_dflt (refine kst_end () FV9 NV9 ?hn ?ho rfl trivial (fun _ h => nomatch h) ?hr trivial); (case hn => (repeat (refine List.forall_mem_cons.mpr ⟨by k_mem, ?_⟩)); (intro p9 hp9; (repeat (first | exact hp9 | (with_reducible exact List.mem_append_left _ hp9) | (with_reducible exact List.mem_append_right _ hp9) | (with_reducible exact List.mem_append_left _ (List.mem_append_left _ hp9)) | (with_reducible exact List.mem_append_left _ (List.mem_append_right _ hp9)) | (with_reducible refine List.mem_cons_of_mem _ ?_))))); (case ho => (intro p9 hp9; (repeat (first | exact hp9 | (with_reducible exact List.mem_append_left _ hp9) | (with_reducible exact List.mem_append_right _ hp9) | (with_reducible exact List.mem_append_left _ (List.mem_append_left _ hp9)) | (with_reducible exact List.mem_append_left _ (List.mem_append_right _ hp9)) | (with_reducible refine List.mem_cons_of_mem _ ?_))))); (case hr => (intro z9 hz1 _ hz3; have hz4 : z9 ∉ [Str.ofString "turned", Str.ofString "told", Str.ofString "due", Str.ofString "ran", Str.ofString "left"] := (fun e9 => by rw [List.contains_iff_mem.mpr e9] at hz3; cases hz3); simp only [List.mem_cons, List.not_mem_nil, or_false, not_or] at hz4; simp only [kstB, hz1, hz4.1, hz4.2.1, hz4.2.2.1, hz4.2.2.2.1, hz4.2.2.2.2, hz3, if_false, Bool.false_eq_true])))
  k_with "KswEnd" => (k_dflt (refine ksw_end ⟨Df, wsF, 0, cl⟩ (by k_asm) (by k_asm) (List.forall_mem_cons.mpr ⟨by k_mem, fun p9 hp9 => by (repeat (first | exact hp9 | (with_reducible exact List.mem_append_left _ hp9) | (with_reducible exact List.mem_append_right _ hp9) | (with_reducible exact List.mem_append_left _ (List.mem_append_left _ hp9)) | (with_reducible exact List.mem_append_left _ (List.mem_append_right _ hp9)) | (with_reducible refine List.mem_cons_of_mem _ ?_)))⟩) ⟨hwF, Nat.le_of_succ_le hlW⟩ (fun p9 hp9 => by rw [List.mem_singleton.mp hp9]; rfl) (fun z9 hz9 _ => by have hz8 := hz9 _ (List.mem_singleton.mpr rfl); simp [kstB, hz8]) (dz_pop (by with_reducible assumption) hpW) (Nat.lt_succ_self _)))

  k_steps)
end Mine
end
theorem PySem.Challenge.cw_rw0023_01_holds : PySem.Challenge.rw_rw0023_01.Holds := by
  exact Mine.lawHolds
