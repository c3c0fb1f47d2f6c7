import PyProof.Rows.All
import Wide.All
import OpenK.AllK
import Wide.FinOn
import PyProof.ExcStrAll.Exception
import PySem.Challenge.RW_il0202_01
open PySem PySem.W PyProof.Rows
set_option Elab.async false

namespace Mine
set_option maxRecDepth 100000 in
set_option maxHeartbeats 8000000 in
open_top hd for PySem.Challenge.rw_il0202_01
end Mine

section
namespace Mine
local macro_rules | `(tactic| k_room) => `(tactic| ktr_room)

/-- the signs that the law hides -/
def Hides (x : Str) : Prop := x = Str.ofString "\"" ∨ x = Str.ofString "|" ∨ x = Str.ofString "!" ∨ x = Str.ofString "/" ∨ x = Str.ofString "~"
def altOf (x : Str) : Str := ⟨x.cps.map (· ||| 128)⟩

section
variable {w : World} {mean : ExcName → Option Value} {mg mb : Str → Option Value} {dp un : Nat} {gd : Option (List Code)} {cn : Str} {cs : Scope} {a : Addr} {ccd : Value} {cl : List (Str × Addr)} {outer : List Env} {A₀ : Around} {base h₀ : Heap} {L : Addr} {m : Str → Option Value} {news : List (Addr × Obj)} {s : Shared} {Q E : Value → Shared → Prop}

set_option maxRecDepth 100000 in
set_option maxHeartbeats 8000000 in
theorem alt_use {x : Str} {t : Tok} (B : Below A₀ base outer h₀) (F : Fr h₀ L s.heap m) (X : (hd.heap_39 w.params).In h₀) (N : News h₀ L s.heap news) (T : Top hd.view_39 (looseW hd.view_39 []) mean mg mb h₀) (hk : cs.kind = .function)
    (ok : Hides x) (hd' : dp + 3 < recursionLimit) (hu : un + 24 < cLine) (hret : ∀ t h' tk', Fr h₀ L h' m → News h₀ L h' news → Q (.str (altOf x) t) { s with heap := h', toks := tk' }) :
    wpAny (model PySem.Challenge.rw_il0202_01.row.prog w) (ktrTop dp un gd cn cs L a ccd cl outer) (call (.ref 93) [.str x t]) Q E s := by
  w_on
  revert X; k_fill; intro X
  rcases ok with rfl | rfl | rfl | rfl | rfl
  all_goals (
    refine wpAny_call ?_
    k_dflt ktr_enter
    k_steps)
  all_goals (
    refine cb_retS (Q := Q) hret ?e1 ?e2 ?e3
    case e1 => decide +kernel
    case e2 => k_asm
    case e3 => k_asm)
end
end Mine
end

section
namespace Mine
local macro_rules | `(tactic| k_room) => `(tactic| ktr_room)

/-- so many quotes -/
def quotes (q : Nat) : Str := ⟨(List.replicate q 34).toArray⟩
/-- a reply 257 with so many quotes ahead of the hidden one -/
def reply257 (q : Nat) : Str := ⟨([50, 53, 55, 32, 34] ++ List.replicate q 34 ++ [162, 34, 32, 105, 115, 32, 108, 101, 102, 116]).toArray⟩
/-- the name that it tells -/
def name257 (q : Nat) : Str := if q % 2 = 0 then quotes (q / 2) ++ Str.ofString "¢" else quotes (q / 2)

theorem len_quotes (q : Nat) : (quotes q).length = q := by simp [quotes, Str.length]
theorem len_reply257 (q : Nat) : (reply257 q).length = q + 15 := by simp [reply257, Str.length]
theorem quotes_succ (q : Nat) : quotes q ++ Str.ofString "\"" = quotes (q + 1) := by
  rw [show Str.ofString "\"" = ⟨#[34]⟩ from by decide +kernel]
  show Str.mk (_ ++ _) = _
  unfold quotes
  rw [List.replicate_succ', ← List.append_toArray]
theorem reply257_at (q k : Nat) (c : Nat) (h : ([50, 53, 55, 32, 34] ++ List.replicate q 34 ++ [162, 34, 32, 105, 115, 32, 108, 101, 102, 116])[k]? = some c) : Txt.item (reply257 q) (k : Int) = ⟨#[c]⟩ := by
  have hk : k < q + 15 := by
    have := (List.getElem?_eq_some_iff.mp h).1
    simp at this; omega
  unfold Txt.item Txt.charAt seqIndex?
  rw [len_reply257]
  have h0 : ¬ ((k : Int) < 0) := by omega
  simp only [h0, if_false]
  have h1 : (decide ((0:Int) ≤ (k:Int)) && decide ((k:Int) < ((q + 15 : Nat) : Int))) = true := by simp; omega
  rw [if_pos h1]
  have h2 : (reply257 q).cps[k]? = some c := by simpa [reply257] using h
  simp [h2]
theorem it_quote (q : Nat) (i : Int) (h1 : 5 ≤ i) (h2 : i < 5 + q) : Txt.item (reply257 q) i = Str.ofString "\"" := by
  rw [show Str.ofString "\"" = ⟨#[34]⟩ from by decide +kernel]
  obtain ⟨k, rfl⟩ : ∃ k : Nat, i = (k : Int) := ⟨i.toNat, by omega⟩
  have hk : 5 ≤ k ∧ k < 5 + q := by omega
  refine reply257_at q k 34 ?_
  rw [List.append_assoc, List.getElem?_append_right (by simp; omega), List.getElem?_append_left (by simp; omega)]
  rw [List.getElem?_replicate, if_pos (by simp; omega)]
theorem it_tail (q : Nat) (i : Int) (j : Nat) (c : Nat) (h1 : i = 5 + q + j) (h2 : [162, 34, 32, 105, 115, 32, 108, 101, 102, 116][j]? = some c) : Txt.item (reply257 q) i = ⟨#[c]⟩ := by
  subst h1
  refine reply257_at q (5 + q + j) c ?_
  rw [List.append_assoc, List.getElem?_append_right (by simp; omega), List.getElem?_append_right (by simp; omega)]
  rw [← h2]; congr 1; simp; omega
theorem it_cent (q : Nat) (i : Int) (h1 : i = 5 + q) : Txt.item (reply257 q) i = Str.ofString "¢" := by
  rw [show Str.ofString "¢" = ⟨#[162]⟩ from by decide +kernel]
  exact it_tail q i 0 162 (by omega) rfl
theorem it_hidden (q : Nat) (i : Int) (h1 : i = 6 + q) : Txt.item (reply257 q) i = Str.ofString "\"" := by
  rw [show Str.ofString "\"" = ⟨#[34]⟩ from by decide +kernel]
  exact it_tail q i 1 34 (by omega) rfl
theorem it_blank (q : Nat) (i : Int) (h1 : i = 7 + q) : Txt.item (reply257 q) i = Str.ofString " " := by
  rw [show Str.ofString " " = ⟨#[32]⟩ from by decide +kernel]
  exact it_tail q i 2 32 (by omega) rfl

theorem slice_to {x : Str} {j : Int} (h : 0 ≤ j ∧ j ≤ x.length) : Txt.slice x none (some j) = ⟨(x.cps.toList.take j.toNat).toArray⟩ := by
  have e := eq_of_beq (slice_closes_toL (x := x) h.1 h.2)
  simpa using e
theorem slice_between {x : Str} {i j : Int} (h0 : 0 ≤ i) (h1 : i ≤ j) (h2 : j ≤ x.length) : Txt.slice x (some i) (some j) = ⟨((x.cps.toList.drop i.toNat).take (j - i).toNat).toArray⟩ :=
  eq_of_beq (slice_closesL h0 h1 h2)
theorem sl_code (q : Nat) : Txt.slice (reply257 q) none (some 3) = Str.ofString "257" := by
  rw [slice_to (by rw [len_reply257]; omega), show Str.ofString "257" = ⟨#[50, 53, 55]⟩ from by decide +kernel]
  simp [reply257]
theorem sl_open (q : Nat) : Txt.slice (reply257 q) (some 3) (some 5) = Str.ofString " \"" := by
  rw [slice_between (by omega) (by omega) (by rw [len_reply257]; omega), show Str.ofString " \"" = ⟨#[32, 34]⟩ from by decide +kernel]
  simp [reply257]

theorem len_one : (Str.ofString "\"").length = 1 := by decide +kernel
theorem len_two : (Str.ofString "¢").length = 1 := by decide +kernel
/-- where the loop stands: the place and the name so far -/
def At257 (q : Nat) (i : Int) (d : Str) : Prop :=
  (∃ j : Nat, i = 5 + 2 * (j : Int) ∧ d = quotes j ∧ 2 * j + 2 ≤ q) ∨ (∃ j : Nat, i = 5 + 2 * (j : Int) ∧ d = quotes j ∧ 2 * j + 1 = q) ∨
  (∃ j : Nat, i = 5 + 2 * (j : Int) ∧ d = quotes j ∧ 2 * j = q) ∨ ∃ j : Nat, i = 6 + 2 * (j : Int) ∧ d = quotes j ++ Str.ofString "¢" ∧ 2 * j = q
theorem at257_of {q : Nat} (j : Nat) {i : Int} {d : Str} (hi : i = 5 + 2 * (j : Int)) (hd : d = quotes j) (h : 2 * j ≤ q) : At257 q i d := by
  rcases (by omega : 2 * j + 2 ≤ q ∨ 2 * j + 1 = q ∨ 2 * j = q) with h | h | h
  · exact .inl ⟨j, hi, hd, h⟩
  · exact .inr (.inl ⟨j, hi, hd, h⟩)
  · exact .inr (.inr (.inl ⟨j, hi, hd, h⟩))
theorem at257_start (q : Nat) : At257 q 5 (Str.ofString "") := at257_of 0 rfl (by decide +kernel) (by omega)
theorem at257_pair {q j : Nat} (h : 2 * j + 2 ≤ q) : At257 q (5 + 2 * (j : Int) + 1 + 1) (quotes j ++ Str.ofString "\"") := at257_of (j + 1) (by omega) (quotes_succ j) (by omega)
theorem at257_cent {q j : Nat} (h : 2 * j = q) : At257 q (5 + 2 * (j : Int) + 1) (quotes j ++ Str.ofString "¢") := .inr (.inr (.inr ⟨j, by omega, rfl, h⟩))

theorem name257_odd {q j : Nat} (h : 2 * j + 1 = q) : quotes j = name257 q := by
  subst h
  unfold name257
  rw [if_neg (by omega), show (2 * j + 1) / 2 = j from by omega]
theorem name257_even {q j : Nat} (h : 2 * j = q) : quotes j ++ Str.ofString "¢" = name257 q := by
  subst h
  unfold name257
  rw [if_pos (by omega), show 2 * j / 2 = j from by omega]

local macro_rules | `(tactic| kxi_size) => `(tactic| (rw [len_reply257, sizeLine_eq]; omega))
local macro_rules | `(tactic| walk_at "compareOp NotEq str str") => `(tactic| first | rw [sl_code] | rw [sl_open])
local macro_rules | `(tactic| walk_at "call builtin:len") => `(tactic| (k_here; (with_reducible show wpAny _ _ (call (Value.builtin "len") [Value.str (reply257 _) _]) _ _ _); refine SBL.len (by rw [len_reply257]; omega) ?_; rw [len_reply257]))

local macro_rules | `(tactic| walk_at "subscriptTail Name Name str int") => `(tactic| (k_here; (with_reducible show wpAny _ _ (subscriptTail _ _ (Value.str (reply257 _) _) (Value.int _ _)) _ _ _); refine item_str (fitsSsize_of (N := 9223372036854775808) (by omega) (by omega) (Int.le_refl _)) (by omega) (by rw [len_reply257]; omega) ?_; intro _; first | rw [it_quote _ _ (by omega) (by omega)] | rw [it_cent _ _ (by omega)] | rw [it_hidden _ _ (by omega)] | rw [it_blank _ _ (by omega)]))
local macro_rules | `(tactic| walk_at "binaryOp Add str str") => `(tactic| (k_here; (with_reducible show wpAny _ _ (binaryOp Operator.Add (Value.str _ _) (Value.str _ _)) _ _ _); (refine add_str ?_ (hsz := ?hsz)); (case hsz => (simp only [Str.length_append, len_quotes, len_one, len_two]; rw [sizeLine_eq]; omega)); intro _ _))

section
variable {w : World} {mean : ExcName → Option Value} {mg mb : Str → Option Value} {dp un : Nat} {gd : Option (List Code)} {cn : Str} {cs : Scope} {a : Addr} {ccd : Value} {cl : List (Str × Addr)} {outer : List Env} {A₀ : Around} {base h₀ : Heap} {L : Addr} {m : Str → Option Value} {news : List (Addr × Obj)} {s : Shared} {Q E : Value → Shared → Prop}

set_option maxRecDepth 100000 in
set_option maxHeartbeats 8000000 in
theorem p257_use {q : Nat} {t : Tok} (B : Below A₀ base outer h₀) (F : Fr h₀ L s.heap m) (X : (hd.heap_39 w.params).In h₀) (N : News h₀ L s.heap news) (T : Top hd.view_39 (looseW hd.view_39 []) mean mg mb h₀) (hk : cs.kind = .function)
    (hok : q ≤ 19) (hd' : dp + 1 < recursionLimit) (hu : un + 8 < cLine) (hret : ∀ t h' tk', Fr h₀ L h' m → News h₀ L h' news → Q (.str (name257 q) t) { s with heap := h', toks := tk' }) :
    wpAny (model PySem.Challenge.rw_il0202_01.row.prog w) (ktrTop dp un gd cn cs L a ccd cl outer) (call (.ref 65) [.str (reply257 q) t]) Q E s := by
  w_on
  revert X; k_fill; intro X
  k_with "exec While Compare cons nil" => (k_while (fun _ i d => At257 q i d) (fun _ i _ => (7 + q - i).toNat) "i" "dirname"; (rename At257 _ _ _ => hA9); (rcases hA9 with ⟨j9, rfl, rfl, hj9⟩ | ⟨j9, rfl, rfl, hj9⟩ | ⟨j9, rfl, rfl, hj9⟩ | ⟨j9, rfl, rfl, hj9⟩))
  k_with "state" => first | exact at257_start q | exact at257_pair (by omega) | exact at257_cent (by omega)
  refine wpAny_call ?_
  k_dflt ktr_enter
  k_steps
  · exact cb_retS (Q := Q) hret (name257_odd (by assumption)) (by k_asm) (by k_asm)
  · exact cb_retS (Q := Q) hret (name257_even (by assumption)) (by k_asm) (by k_asm)
end
end Mine
end

section
namespace Mine
local macro_rules | `(tactic| k_room) => `(tactic| ktr_room)
local macro_rules | `(tactic| k_memK) => `(tactic| first | assumption | exact List.Mem.tail _ (by assumption) | exact List.Mem.tail _ (List.Mem.tail _ (by assumption)))

/-- one figure halved: the row so far and what is left over -/
def halve1 (st : List Int × Int) (x : Int) : List Int × Int := (st.1 ++ [(x + 10 * st.2) / 2], (x + 10 * st.2) % 2)
def halves (ns : List Int) : List Int × Int := ns.foldl halve1 ([], 0)
theorem halves_snoc (ns : List Int) (x : Int) : halves (ns ++ [x]) = halve1 (halves ns) x := by unfold halves; rw [List.foldl_append]; rfl

theorem count_name : ∀ q : Nat, q ≤ 19 → Txt.count (name257 q) (Str.ofString "\"") = ((q / 2 : Nat) : Int) := by
  have h : ∀ q : Fin 20, Txt.count (name257 q.1) (Str.ofString "\"") = ((q.1 / 2 : Nat) : Int) := by decide +kernel
  intro q hq
  exact h ⟨q, by omega⟩
theorem name_even : ∀ q : Nat, q ≤ 19 → (name257 q == quotes (q / 2) ++ Str.ofString "¢") = decide (q % 2 = 0) := by
  have h : ∀ q : Fin 20, (name257 q.1 == quotes (q.1 / 2) ++ Str.ofString "¢") = decide (q.1 % 2 = 0) := by decide +kernel
  intro q hq
  exact h ⟨q, by omega⟩
theorem name_odd : ∀ q : Nat, q ≤ 19 → (name257 q == quotes (q / 2)) = decide (q % 2 = 1) := by
  have h : ∀ q : Fin 20, (name257 q.1 == quotes (q.1 / 2)) = decide (q.1 % 2 = 1) := by decide +kernel
  intro q hq
  exact h ⟨q, by omega⟩
theorem mul_is : ∀ q : Nat, q ≤ 19 → Txt.mul (Str.ofString "\"") (q : Int) = quotes q := by
  have h : ∀ q : Fin 20, Txt.mul (Str.ofString "\"") (q.1 : Int) = quotes q.1 := by decide +kernel
  intro q hq
  exact h ⟨q, by omega⟩
theorem reply_is (q : Nat) : Str.ofString "257 \"" ++ quotes q ++ Str.ofString "¢" ++ Str.ofString "\" is left" = reply257 q := by
  rw [show Str.ofString "257 \"" = ⟨#[50, 53, 55, 32, 34]⟩ from by decide +kernel, show Str.ofString "¢" = ⟨#[162]⟩ from by decide +kernel, show Str.ofString "\" is left" = ⟨#[34, 32, 105, 115, 32, 108, 101, 102, 116]⟩ from by decide +kernel]
  refine Str.ext' ?_
  simp [Str.cps_append, quotes, reply257]

section
variable {prog : Program} {w : World} {A : Around} {E : Value → Shared → Prop} {s : Shared} {t u : Tok} {Q : Value → Shared → Prop}
theorem mul_quote {i : Int} (h0 : 0 ≤ i) (h1 : i ≤ 19) (h : ∀ (q : Nat) t' k, (q : Int) = i → q ≤ 19 → Q (.str (quotes q) t') { s with toks := k }) :
    wpAny (model prog w) A (binaryOp .Mult (.str (Str.ofString "\"") t) (.int i u)) Q E s := by
  obtain ⟨q, rfl⟩ : ∃ q : Nat, i = (q : Int) := ⟨i.toNat, by omega⟩
  refine KXi.mul (n := 1) (by decide +kernel) (by decide) (by omega) (by omega) fun t' k _ _ => ?_
  rw [mul_is q (by omega)]
  exact h q t' k rfl (by omega)
theorem mul_nat {q : Nat} (h1 : q ≤ 19) (h : ∀ t' k, Q (.str (quotes q) t') { s with toks := k }) :
    wpAny (model prog w) A (binaryOp .Mult (.str (Str.ofString "\"") t) (.int (q : Int) u)) Q E s :=
  mul_quote (by omega) (by omega) fun q' t' k e _ => by
    obtain rfl : q' = q := by omega
    exact h t' k
end

theorem off_all {news own : List (Addr × Obj)} {l : Addr} {ls : List Addr} (h1 : ∀ p ∈ news, p.1 < l) (h2 : OwnOff own (l :: ls)) : ∀ p ∈ news ++ own, p.1 ≠ l := fun p hp =>
  (List.mem_append.mp hp).elim (fun h => Nat.ne_of_lt (h1 p h)) fun h => h2 p h l (.head _)
local macro_rules | `(tactic| k_all) => `(tactic| exact off_all (by assumption) (by assumption))
local macro_rules | `(tactic| walk_at "call builtin:list.append") => `(tactic| (k_here; (show wpAny _ _ (call (Value.builtin "list.append") [Value.ref _, _]) _ _ _); k_dflt (refine' append_K ?k1 ?k2 ?k3 ?_ ?z; (case k1 => k_asm); (case k2 => k_asm); (case k3 => k_upd); (case z => size_fits); k_whole); intro h' F' N'; (try k_sweep)))
theorem len_head : (Str.ofString "257 \"").length = 5 := by decide +kernel
theorem len_tail : (Str.ofString "\" is left").length = 9 := by decide +kernel
theorem last_item (xs : List Int) (x : Int) : (xs ++ [x]).getD (-1 + ((xs ++ [x]).length : Int)).toNat 0 = x := by
  have : (-1 + ((xs ++ [x]).length : Int)).toNat = xs.length := by rw [List.length_append, List.length_singleton]; omega
  rw [this]
  simp
theorem turn_ok {pre row : List Int} {n half h' : Int} {q : Nat} (hr : row = (halves pre).1) (hh : half = (halves pre).2) (hl : row.length = pre.length) (hq : (q : Int) = n + 10 * half) (e : h' = ((q % 2 : Nat) : Int)) :
    row ++ [((q / 2 : Nat) : Int)] = (halves (pre ++ [n])).1 ∧ h' = (halves (pre ++ [n])).2 ∧ 0 ≤ h' ∧ h' ≤ 1 ∧ (row ++ [((q / 2 : Nat) : Int)]).length = (pre ++ [n]).length := by
  rw [halves_snoc]
  unfold halve1
  rw [← hr, ← hh, ← hq, e]
  refine ⟨by rw [Int.natCast_ediv]; rfl, by rw [Int.natCast_emod]; rfl, by omega, by omega, by simp [hl]⟩
theorem alt_quote : altOf (Str.ofString "\"") = Str.ofString "¢" := by decide +kernel

local macro_rules | `(tactic| walk_at "call ref") => `(tactic| (k_here; (show wpAny _ _ (call (Value.ref 93) [Value.str (Str.ofString "\"") _]) _ _ _); k_dflt (refine' alt_use ?k1 ?k2 ?k3 ?k4 ?k5 ?kK (.inl rfl) ?kd ?ku ?_; (case k1 => k_asm); (case k2 => k_asm); (case k3 => k_asm); (case k4 => k_asm); (case k5 => k_asm); (case kK => first | exact rfl | assumption); (case kd => ktr_room); (case ku => ktr_units)); intro t9 h9 tk9 F9 N9; rw [alt_quote]; (try k_sweep)))
local macro_rules | `(tactic| walk_at "call ref") => `(tactic| (k_here; (show wpAny _ _ (call (Value.ref 65) [Value.str _ _]) _ _ _); rw [reply_is]; k_dflt (refine' p257_use ?k1 ?k2 ?k3 ?k4 ?k5 ?kK (by assumption) ?kd ?ku ?_; (case k1 => k_asm); (case k2 => k_asm); (case k3 => k_asm); (case k4 => k_asm); (case k5 => k_asm); (case kK => first | exact rfl | assumption); (case kd => ktr_room); (case ku => ktr_units)); intro t9 h9 tk9 F9 N9; (try k_sweep)))
local macro_rules | `(tactic| walk_at "binaryOp Mult str int") => `(tactic| (k_here; (show wpAny _ _ (binaryOp Operator.Mult (Value.str (Str.ofString "\"") _) (Value.int _ _)) _ _ _); first | (rw [last_item]; refine mul_nat (by omega) ?_; intro t9 k9) | (refine mul_quote (by omega) (by omega) ?_; intro q9 t9 k9 hq9 hq19)))

local macro_rules | `(tactic| walk_at "binaryOp Add str str") => `(tactic| (k_here; (with_reducible show wpAny _ _ (binaryOp Operator.Add (Value.str _ _) (Value.str _ _)) _ _ _); (refine add_str ?_ (hsz := ?hsz)); (case hsz => (simp only [Str.length_append, len_quotes, len_one, len_two, len_head, len_tail]; rw [sizeLine_eq]; omega)); intro _ _))
local macro_rules | `(tactic| walk_at "call builtin:str.count") => `(tactic| (k_here; (show wpAny _ _ (call (Value.builtin "str.count") [Value.str (name257 _) _, Value.str _ _]) _ _ _); refine SC.count ?_; rw [count_name _ (by assumption)]))
local macro_rules | `(tactic| walk_at "compareOp Eq str str") => `(tactic| (k_here; (with_reducible show wpAny _ _ (compareOp CmpOp.Eq (Value.str (name257 _) _) _) _ _ _); refine eq_str ?_; first | rw [name_even _ (by assumption)] | rw [name_odd _ (by assumption)]))

section
variable {w : World} {mean : ExcName → Option Value} {mg mb : Str → Option Value} {dp un : Nat} {gd : Option (List Code)} {cn : Str} {cs : Scope} {a : Addr} {ccd : Value} {cl : List (Str × Addr)} {outer : List Env} {A₀ : Around} {base h₀ : Heap} {L : Addr} {m : Str → Option Value} {news : List (Addr × Obj)} {s : Shared} {Q E : Value → Shared → Prop}

set_option maxRecDepth 100000 in
set_option maxHeartbeats 8000000 in
theorem halved_use {ns : List Int} {l : Addr} {items : List Value} {n : Nat} (B : Below A₀ base outer h₀) (F : Fr h₀ L s.heap m) (X : (hd.heap_39 w.params).In h₀) (N : News h₀ L s.heap news) (T : Top hd.view_39 (looseW hd.view_39 []) mean mg mb h₀) (hk : cs.kind = .function)
    (hl : (l, listOf items.toArray n) ∈ news) (hi : IntsAre items ns) (hns : ∀ x ∈ ns, 0 ≤ x ∧ x ≤ 9) (hlen : ns.length = 5)
    (hd' : dp + 5 < recursionLimit) (hu : un + 40 < cLine)
    (hret : ∀ (D l' : Addr) (items' : List Value) (n' : Nat) (t : Tok) (h' : Heap) (tk' : Nat), Fr h₀ L h' m → News h₀ L h' ((D, { cls := .type "tuple", data := .seq #[.ref l', .int (halves ns).2 t] }) :: (l', listOf items'.toArray n') :: news) →
      IntsAre items' (halves ns).1 → l' < D → (∀ p ∈ news, p.1 < l') → Q (.ref D) { s with heap := h', toks := tk' }) :
    wpAny (model PySem.Challenge.rw_il0202_01.row.prog w) (ktrTop dp un gd cn cs L a ccd cl outer) (call (.ref 100) [.ref l]) Q E s := by
  w_on
  revert X; k_fill; intro X
  k_with "pyIter ref" => (k_state (fun pre row half => row = (halves pre).1 ∧ half = (halves pre).2 ∧ 0 ≤ half ∧ half ≤ 1 ∧ row.length = pre.length) "row" "half"; (all_goals (try (have hb9 := hns _ (by assumption)))))
  k_with "state" => exact turn_ok (by assumption) (by assumption) (by assumption) (by assumption) (by omega)
  refine wpAny_call ?_
  k_dflt ktr_enter
  k_steps
  · rename_i e1 e2 e3 e4 e5 e6 D' h' F' N' hD kF kN kT kX
    subst e1 e2
    exact hret _ _ _ _ _ _ _ kF kN (by assumption) hD.1 (by assumption)
end
end Mine
end

section
open PySem.NumText
namespace Mine

/-! the texts of a reply 229, in plain lists of signs -/
def joinL (c : Nat) : List (List Nat) → List Nat
  | [] => []
  | [x] => x
  | x :: y :: r => x ++ c :: joinL c (y :: r)

theorem join_list (c : Nat) : ∀ ps : List Str, (Str.join ⟨#[c]⟩ ps).cps.toList = joinL c (ps.map (·.cps.toList))
  | [] => rfl
  | [x] => rfl
  | x :: y :: r => by
    have h := join_list c (y :: r)
    show (x ++ ⟨#[c]⟩ ++ Str.join ⟨#[c]⟩ (y :: r)).cps.toList = _
    rw [Str.cps_append, Str.cps_append, Array.toList_append, Array.toList_append, h]
    simp [joinL]

theorem cut_first {c : Nat} : ∀ {x y u v : List Nat}, c ∉ x → c ∉ y → x ++ c :: u = y ++ c :: v → x = y ∧ u = v
  | [], [], _, _, _, _, h => ⟨rfl, by simpa using h⟩
  | [], b :: y, _, _, _, hy, h => by
    simp only [List.nil_append, List.cons_append, List.cons.injEq] at h
    exact absurd (h.1 ▸ List.mem_cons_self ..) hy
  | a :: x, [], _, _, hx, _, h => by
    simp only [List.nil_append, List.cons_append, List.cons.injEq] at h
    exact absurd (h.1 ▸ List.mem_cons_self ..) hx
  | a :: x, b :: y, _, _, hx, hy, h => by
    simp only [List.cons_append, List.cons.injEq] at h
    have := cut_first (fun m => hx (.tail _ m)) (fun m => hy (.tail _ m)) h.2
    exact ⟨by rw [h.1, this.1], this.2⟩

theorem join_one {c : Nat} : ∀ {ps : List (List Nat)} {x : List Nat}, ps ≠ [] → c ∉ x → joinL c ps = x → ps = [x]
  | [], _, h, _, _ => absurd rfl h
  | [y], x, _, _, e => by rw [← e]; rfl
  | y :: z :: r, x, _, hx, e => by
    refine absurd ?_ hx
    rw [← e]
    show c ∈ y ++ c :: joinL c (z :: r)
    simp

theorem join_uniq {c : Nat} : ∀ {ps qs : List (List Nat)}, ps ≠ [] → qs ≠ [] → (∀ p ∈ ps, c ∉ p) → (∀ q ∈ qs, c ∉ q) → joinL c ps = joinL c qs → ps = qs
  | [], _, h, _, _, _, _ => absurd rfl h
  | _, [], _, h, _, _, _ => absurd rfl h
  | [x], q :: qs, _, hq, hp, _, e => (join_one hq (hp x (.head _)) e.symm).symm
  | x :: y :: r, [q], hp, _, _, hq, e => join_one hp (hq q (.head _)) e
  | x :: y :: r, q :: z :: s, _, _, hp, hq, e => by
    have e' : x ++ c :: joinL c (y :: r) = q ++ c :: joinL c (z :: s) := e
    have h := cut_first (hp x (.head _)) (hq q (.head _)) e'
    have t := join_uniq (ps := y :: r) (qs := z :: s) (by simp) (by simp) (fun p m => hp p (.tail _ m)) (fun p m => hq p (.tail _ m)) h.2
    rw [h.1, t]

theorem split_ne (x y : Str) : Txt.split x y ≠ [] := by
  unfold Txt.split
  split
  · simp
  · split
    · simp
    · rw [StrLaws.partsBetween_eq]
      obtain ⟨p, r, e⟩ := StrLaws.partsFrom_ne x y.length 0 (PySem.Builtin.Str.occurrences x y 0 x.length (x.length + 1))
      rw [e]
      simp

theorem toList_inj : ∀ {a b : List Str}, a.map (·.cps.toList) = b.map (·.cps.toList) → a = b
  | [], [], _ => rfl
  | [], _ :: _, h => nomatch h
  | _ :: _, [], h => nomatch h
  | x :: a, y :: b, h => by
    simp only [List.map_cons, List.cons.injEq] at h
    have e : x = y := Str.ext' (Array.toList_inj.mp h.1)
    rw [e, toList_inj h.2]

theorem split_is (x : Str) (c : Nat) (ps : List Str) (hne : ps ≠ []) (hfree : ∀ p ∈ ps, c ∉ p.cps.toList) (hj : joinL c (ps.map (·.cps.toList)) = x.cps.toList) : Txt.split x ⟨#[c]⟩ = ps := by
  refine toList_inj (join_uniq (c := c) ?_ ?_ ?_ ?_ ?_)
  · intro h
    exact split_ne x ⟨#[c]⟩ (List.map_eq_nil_iff.mp h)
  · intro h
    exact hne (List.map_eq_nil_iff.mp h)
  · intro p hp
    obtain ⟨q, hq, rfl⟩ := List.mem_map.mp hp
    exact StrLaws.split_free x c q hq
  · intro p hp
    obtain ⟨q, hq, rfl⟩ := List.mem_map.mp hp
    exact hfree q hq
  · rw [← join_list, StrLaws.join_split, hj]

theorem find3_is (x : Str) (c lo k : Nat) (hlo : lo ≤ k) (hk : x.cps.toList[k]? = some c) (hn : ∀ v, lo ≤ v → v < k → x.cps.toList[v]? ≠ some c) : Txt.find3 x ⟨#[c]⟩ (lo : Int) = (k : Int) := by
  have hkl : k < x.length := by
    have := (List.getElem?_eq_some_iff.mp hk).1
    simpa [Str.length] using this
  have hf : PySem.fromIndex x.length (lo : Int) = lo := by
    unfold PySem.fromIndex
    rw [if_neg (by omega)]
    omega
  rcases StrLaws.find3_spec x c (lo : Int) with ⟨_, h⟩ | ⟨j, e, h1, h2, h3, h4⟩
  · rw [hf] at h
    exact absurd (StrLaws.getD_of_getElem? hk) (h k hlo hkl)
  · rw [hf] at h1 h4
    rw [e]
    have a : ¬ j < k := fun hjk => hn j h1 hjk (StrLaws.getElem?_of_getD h2 h3)
    have b : ¬ k < j := fun hkj => h4 k hlo hkj (StrLaws.getD_of_getElem? hk)
    omega
theorem find_zero (x y : Str) : Txt.find x y = Txt.find3 x y 0 := rfl
theorem find_is (x : Str) (c k : Nat) (hk : x.cps.toList[k]? = some c) (hn : ∀ v, v < k → x.cps.toList[v]? ≠ some c) : Txt.find x ⟨#[c]⟩ = (k : Int) := by
  rw [find_zero]
  exact find3_is x c 0 k (Nat.zero_le _) hk fun v _ h => hn v h

/-- «229 go to (» -/
def open229 : List Nat := [50, 50, 57, 32, 103, 111, 32, 116, 111, 32, 40]
/-- the reply with this between its brackets -/
def reply229 (b : List Nat) : Str := ⟨(open229 ++ b ++ [41]).toArray⟩
theorem list229 (b : List Nat) : (reply229 b).cps.toList = open229 ++ b ++ [41] := rfl
theorem len229 (b : List Nat) : (reply229 b).length = b.length + 12 := by simp [reply229, open229, Str.length]
theorem cut_to {x : Str} {j : Int} (h : 0 ≤ j ∧ j ≤ x.length) : Txt.slice x none (some j) = ⟨(x.cps.toList.take j.toNat).toArray⟩ := by
  have e := eq_of_beq (slice_closes_toL (x := x) h.1 h.2)
  simpa using e
theorem cut_between {x : Str} {i j : Int} (h0 : 0 ≤ i) (h1 : i ≤ j) (h2 : j ≤ x.length) : Txt.slice x (some i) (some j) = ⟨((x.cps.toList.drop i.toNat).take (j - i).toNat).toArray⟩ :=
  eq_of_beq (slice_closesL h0 h1 h2)
theorem code229 (b : List Nat) : Txt.slice (reply229 b) none (some 3) = Str.ofString "229" := by
  rw [cut_to (by rw [len229]; omega), list229, show Str.ofString "229" = ⟨#[50, 50, 57]⟩ from by decide +kernel]
  rfl
theorem left229 (b : List Nat) : Txt.find (reply229 b) (Str.ofString "(") = 10 := by
  rw [show Str.ofString "(" = ⟨#[40]⟩ from by decide +kernel]
  refine find_is _ _ 10 ?_ ?_
  · rw [list229]; rfl
  · intro v hv
    rw [list229, List.append_assoc, List.getElem?_append_left (by simp [open229]; omega)]
    revert v
    decide
theorem right229 (b : List Nat) (h : 41 ∉ b) : Txt.find3 (reply229 b) (Str.ofString ")") (10 + 1) = 11 + (b.length : Int) := by
  rw [show Str.ofString ")" = ⟨#[41]⟩ from by decide +kernel, show (10 : Int) + 1 = ((11 : Nat) : Int) from rfl]
  have e := find3_is (reply229 b) 41 11 (11 + b.length) (by omega) ?_ ?_
  · rw [e]; omega
  · rw [list229, List.getElem?_append_right (by simp [open229]; omega), show 11 + b.length - (open229 ++ b).length = 0 from by simp [open229]; omega]; rfl
  · intro v h1 h2 hv
    rw [list229, List.getElem?_append_left (by simp [open229]; omega), List.getElem?_append_right (by simp [open229]; omega)] at hv
    exact h (List.mem_of_getElem? hv)
theorem item229 (b : List Nat) (i : Int) (c : Nat) (h0 : 11 ≤ i) (h : b[(i - 11).toNat]? = some c) : Txt.item (reply229 b) i = ⟨#[c]⟩ := by
  have hk : (i - 11).toNat < b.length := (List.getElem?_eq_some_iff.mp h).1
  unfold Txt.item Txt.charAt
  rw [StrLaws.seqIndex_nonneg (by omega) (by rw [len229]; omega)]
  have e : (reply229 b).cps[i.toNat]? = some c := by
    have : (reply229 b).cps.toList[i.toNat]? = some c := by
      rw [list229, List.append_assoc, List.getElem?_append_right (by simp [open229]; omega), List.getElem?_append_left (by simp [open229]; omega)]
      rw [show i.toNat - open229.length = (i - 11).toNat from by simp [open229]; omega]
      exact h
    simpa using this
  simp [e]
theorem mid229 (b : List Nat) : Txt.slice (reply229 b) (some (10 + 1)) (some (11 + (b.length : Int))) = ⟨b.toArray⟩ := by
  rw [cut_between (by omega) (by omega) (by rw [len229]; omega), list229]
  congr 2
  have e1 : ((10 : Int) + 1).toNat = open229.length := by simp [open229]
  have e2 : (11 + (b.length : Int) - (10 + 1)).toNat = b.length := by omega
  rw [e1, e2, List.append_assoc, List.drop_left, List.take_left]
theorem glue229 (x y z : Str) : Str.ofString "229 go to (" ++ x ++ y ++ z ++ Str.ofString ")" = reply229 (x.cps.toList ++ y.cps.toList ++ z.cps.toList) := by
  rw [show Str.ofString "229 go to (" = ⟨open229.toArray⟩ from by decide +kernel, show Str.ofString ")" = ⟨#[41]⟩ from by decide +kernel]
  refine Str.ext' ?_
  simp [Str.cps_append, reply229]

/-- the four marks -/
def Mark (c : Nat) : Prop := c = 124 ∨ c = 33 ∨ c = 47 ∨ c = 126

theorem Mark.far {c : Nat} (h : Mark c) : c ≠ 41 ∧ (c < 48 ∨ 57 < c) ∧ c < 128 := by
  rcases h with rfl | rfl | rfl | rfl <;> decide
theorem far41 {ds : List Nat} (h : AllDigits ds) : 41 ∉ ds := fun m => by have := h 41 m; omega
theorem far_mark {c : Nat} {ds : List Nat} (hc : Mark c) (h : AllDigits ds) : c ∉ ds := fun m => by have := h c m; have := hc.far; omega

/-- what stands between the brackets of a reply that is told -/
def told229 (c : Nat) (ds : List Nat) : List Nat := [c, c, c] ++ ds ++ [c]
theorem told_41 {c : Nat} {ds : List Nat} (hc : Mark c) (h : AllDigits ds) : 41 ∉ told229 c ds := by
  have f := hc.far
  intro hm
  rcases List.mem_append.mp hm with hm | hm
  · rcases List.mem_append.mp hm with hm | hm
    · simp at hm; omega
    · exact far41 h hm
  · simp at hm; omega
theorem told_split {c : Nat} {ds : List Nat} (hc : Mark c) (h : AllDigits ds) : Txt.split ⟨(told229 c ds).toArray⟩ ⟨#[c]⟩ = [⟨#[]⟩, ⟨#[]⟩, ⟨#[]⟩, ⟨ds.toArray⟩, ⟨#[]⟩] := by
  refine split_is _ _ _ (by simp) ?_ ?_
  · have := far_mark hc h
    simp [this]
  · simp [joinL, told229]
theorem told_first (c : Nat) (ds : List Nat) : (told229 c ds)[0]? = some c := rfl
theorem told_last (c : Nat) (ds : List Nat) : (told229 c ds)[(told229 c ds).length - 1]? = some c := by
  simp [told229]
theorem told_int {ds : List Nat} (h : AllDigits ds) (hne : ds ≠ []) (hl : ds.length ≤ 8) : PySem.intText? ⟨ds.toArray⟩ = some ((digitsVal ds : Nat) : Int) := by
  have e := intText_digits (x := ⟨ds.toArray⟩) h hne (by simp [Str.length]; omega)
  exact e
end Mine
end

section
open PySem.NumText
namespace Mine
local macro_rules | `(tactic| k_room) => `(tactic| ktr_room)
local macro_rules | `(tactic| k_memK) => `(tactic| first | assumption | exact List.Mem.tail _ (by assumption) | exact List.Mem.tail _ (List.Mem.tail _ (by assumption)))
local macro_rules | `(tactic| k_mem) => `(tactic| first | assumption | exact List.Mem.tail _ (by assumption) | exact List.Mem.tail _ (List.Mem.tail _ (by assumption)))

section
variable {prog : Program} {w : World} {A : Around} {E : Value → Shared → Prop} {s : Shared} {x y : Str} {t u : Tok} {h₀ : Heap} {L : Addr} {m : Str → Option Value} {news : List (Addr × Obj)} {Q : Value → Shared → Prop}
theorem split4 {p0 p1 p2 p3 : Str} (hF : Fr h₀ L s.heap m) (hN : News h₀ L s.heap news) (hy : (y.length == 0) = false) (hp : Txt.split x y = [p0, p1, p2, p3])
    (h : ∀ D t0 t1 t2 t3 h' k, Fr h₀ L h' m → News h₀ L h' ((D, W.listOf #[.str p0 t0, .str p1 t1, .str p2 t2, .str p3 t3] 0) :: news) → (∀ p ∈ news, p.1 < D) → Q (.ref D) { s with heap := h', toks := k })
    (hsz : x.length + 2 ≤ sizeLine) : wpAny (model prog w) A (call (.builtin "str.split") [.str x t, .str y u]) Q E s :=
  splitN1 hF hN hy (fun l h' k e F N => by
    rw [hp] at e
    match l, e, N with
    | [(_, t0), (_, t1), (_, t2), (_, t3)], e, N =>
      simp only [List.map_cons, List.map_nil, List.cons.injEq, and_true] at e
      obtain ⟨rfl, rfl, rfl, rfl⟩ := e
      exact h _ t0 t1 t2 t3 h' k F N fun p hm => Heap.lt_size (hN p hm).1) hsz
theorem split5 {p0 p1 p2 p3 p4 : Str} (hF : Fr h₀ L s.heap m) (hN : News h₀ L s.heap news) (hy : (y.length == 0) = false) (hp : Txt.split x y = [p0, p1, p2, p3, p4])
    (h : ∀ D t0 t1 t2 t3 t4 h' k, Fr h₀ L h' m → News h₀ L h' ((D, W.listOf #[.str p0 t0, .str p1 t1, .str p2 t2, .str p3 t3, .str p4 t4] 0) :: news) → (∀ p ∈ news, p.1 < D) → Q (.ref D) { s with heap := h', toks := k })
    (hsz : x.length + 2 ≤ sizeLine) : wpAny (model prog w) A (call (.builtin "str.split") [.str x t, .str y u]) Q E s :=
  splitN1 hF hN hy (fun l h' k e F N => by
    rw [hp] at e
    match l, e, N with
    | [(_, t0), (_, t1), (_, t2), (_, t3), (_, t4)], e, N =>
      simp only [List.map_cons, List.map_nil, List.cons.injEq, and_true] at e
      obtain ⟨rfl, rfl, rfl, rfl, rfl⟩ := e
      exact h _ t0 t1 t2 t3 t4 h' k F N fun p hm => Heap.lt_size (hN p hm).1) hsz
end

local macro_rules | `(tactic| kxi_size) => `(tactic| (rw [len229, sizeLine_eq]; omega))
local macro_rules | `(tactic| walk_at "compareOp NotEq str str") => `(tactic| (rw [code229]))
local macro_rules | `(tactic| walk_at "call builtin:str.find") => `(tactic| (k_here; (show wpAny _ _ (call (Value.builtin "str.find") [Value.str (reply229 _) _, Value.str _ _]) _ _ _); refine SC.find ?_; rw [left229]))
local macro_rules | `(tactic| walk_at "call builtin:str.find") => `(tactic| (k_here; (show wpAny _ _ (call (Value.builtin "str.find") [Value.str (reply229 _) _, Value.str _ _, Value.int _ _]) _ _ _); refine SC.find3 ?_; rw [right229 _ (by assumption)]))

theorem drop2 {h₀ h : Heap} {L : Addr} {p q : Addr × Obj} {news : List (Addr × Obj)} (N : News h₀ L h (p :: q :: news)) : News h₀ L h (p :: news) := fun r hr =>
  N r ((List.mem_cons.mp hr).elim (fun e => e ▸ .head _) fun e => .tail _ (.tail _ e))
theorem once_more {h₀ h : Heap} {L : Addr} {p : Addr × Obj} {news : List (Addr × Obj)} (N : News h₀ L h news) (hp : p ∈ news) : News h₀ L h (p :: news) := fun r hr =>
  N r ((List.mem_cons.mp hr).elim (fun e => e ▸ hp) fun e => e)
theorem five {items : List Value} {ns : List Int} (hi : IntsAre items ns) (h : ns.length = 5) : ∃ a b c d e ta tb tc td te, ns = [a, b, c, d, e] ∧ items = [.int a ta, .int b tb, .int c tc, .int d td, .int e te] := by
  cases hi with
  | nil => simp at h
  | cons a ta hi => cases hi with
    | nil => simp at h
    | cons b tb hi => cases hi with
      | nil => simp at h
      | cons c tc hi => cases hi with
        | nil => simp at h
        | cons d td hi => cases hi with
          | nil => simp at h
          | cons e te hi => cases hi with
            | nil => exact ⟨a, b, c, d, e, ta, tb, tc, td, te, rfl, rfl⟩
            | cons f tf hi => simp at h
local macro_rules | `(tactic| walk_at "CompEnd") => `(tactic| ((rename Fr _ _ _ _ => F'); (rename News _ _ _ _ => N'); refine LCg.CompEnd.intro F' N' _ (fun _ h => h) (by assumption) (.inr ⟨_, .head _, rfl, _, rfl⟩) ?_))
theorem ne_same (c : Nat) : ((⟨#[c]⟩ : Str) != ⟨#[c]⟩) = false := by simp
theorem ne_other {c d : Nat} (h : c ≠ d) : ((⟨#[c]⟩ : Str) != ⟨#[d]⟩) = true := by simp [h]
local macro_rules | `(tactic| walk_at "subscriptTail Name BinOp str int") => `(tactic| (k_here; (with_reducible show wpAny _ _ (subscriptTail _ _ (Value.str (reply229 _) _) (Value.int (10 + 1) _)) _ _ _); refine item_str (by decide) (by omega) (by rw [len229]; omega) ?_; intro _; (rename Txt.item _ (10 + 1) = _ => hXa); rw [hXa]))
local macro_rules | `(tactic| walk_at "subscriptTail Name BinOp str int") => `(tactic| (k_here; (with_reducible show wpAny _ _ (subscriptTail _ _ (Value.str (reply229 _) _) (Value.int (11 + _ - 1) _)) _ _ _); refine item_str (fitsSsize_of (N := 9223372036854775808) (by omega) (by omega) (Int.le_refl _)) (by omega) (by rw [len229]; omega) ?_; intro _; (rename Txt.item _ (11 + _ - 1) = _ => hXb); rw [hXb]))
local macro_rules | `(tactic| walk_at "compareOp NotEq str str") => `(tactic| (k_here; (with_reducible show wpAny _ _ (compareOp CmpOp.NotEq (Value.str (Str.mk _) _) (Value.str (Str.mk _) _)) _ _ _); refine ne_str ?_; first | rw [ne_same] | rw [ne_other (by assumption)]))
local macro_rules | `(tactic| walk_at "call builtin:str.split") => `(tactic| (k_here; (show wpAny _ _ (call (Value.builtin "str.split") [Value.str _ _, Value.str _ _]) _ _ _); rw [mid229]; (rename Fr _ _ _ _ => F'); (rename News _ _ _ _ => N'); first | (refine split5 F' N' rfl (by assumption) ?_ (by rw [sizeLine_eq]; simp only [Str.length, List.size_toArray]; omega); intro D' t0 t1 t2 t3 t4 h' k' F' N' l1) | (refine split4 F' N' rfl (by assumption) ?_ (by rw [sizeLine_eq]; simp only [Str.length, List.size_toArray]; omega); intro D' t0 t1 t2 t3 h' k' F' N' l1)))
local macro_rules | `(tactic| walk_at "call type:int") => `(tactic| (k_here; (show wpAny _ _ (call (Value.type "int") [Value.str _ _]) _ _ _); refine KIN.call_text (by assumption) (by assumption) ?_))

section
variable {w : World} {mean : ExcName → Option Value} {mg mb : Str → Option Value} {dp un : Nat} {gd : Option (List Code)} {cn : Str} {cs : Scope} {a : Addr} {ccd : Value} {cl : List (Str × Addr)} {outer : List Env} {A₀ : Around} {base h₀ : Heap} {L : Addr} {m : Str → Option Value} {news : List (Addr × Obj)} {s : Shared} {Q E : Value → Shared → Prop}

set_option maxRecDepth 100000 in
set_option maxHeartbeats 1000000 in
theorem p229_use {b : List Nat} {c : Nat} {p0 p1 p2 p4 txt : Str} {num : Int} {t th t21 : Tok} {p : Addr} {n : Nat} (B : Below A₀ base outer h₀) (F : Fr h₀ L s.heap m) (X : (hd.heap_39 w.params).In h₀) (N : News h₀ L s.heap news) (T : Top hd.view_39 (looseW hd.view_39 []) mean mg mb h₀) (hk : cs.kind = .function)
    (h41 : 41 ∉ b) (hb0 : 1 ≤ b.length) (hbl : b.length ≤ 40) (hf : b[0]? = some c) (hl : b[b.length - 1]? = some c) (hs : Txt.split ⟨b.toArray⟩ ⟨#[c]⟩ = [p0, p1, p2, txt, p4]) (hi : PySem.intText? txt = some num) (htl : txt.length ≤ 640)
    (hp : (p, ({ cls := .type "tuple", data := .seq #[.str (Str.ofString "here") th, .int 21 t21] n } : Obj)) ∈ news)
    (hd' : dp + 2 < recursionLimit) (hu : un + 16 < cLine)
    (hret : ∀ (D : Addr) (t1 t2 : Tok) (h' : Heap) (tk' : Nat), Fr h₀ L h' m → News h₀ L h' ((D, { cls := .type "tuple", data := .seq #[.str (Str.ofString "here") t1, .int num t2] }) :: news) → (∀ p ∈ news, p.1 < D) → Q (.ref D) { s with heap := h', toks := tk' }) :
    wpAny (model PySem.Challenge.rw_il0202_01.row.prog w) (ktrTop dp un gd cn cs L a ccd cl outer) (call (.ref 58) [.str (reply229 b) t, .ref p]) Q E s := by
  w_on
  revert X; k_fill; intro X
  have hI1 : Txt.item (reply229 b) (10 + 1) = ⟨#[c]⟩ := item229 b _ c (by omega) hf
  have hI2 : Txt.item (reply229 b) (11 + (b.length : Int) - 1) = ⟨#[c]⟩ := item229 b _ c (by omega) (by rw [show (11 + (b.length : Int) - 1 - 11).toNat = b.length - 1 from by omega]; exact hl)
  refine wpAny_call ?_
  k_dflt ktr_enter
  k_steps
  · rename_i hD kF kN kT kX
    exact hret _ _ _ _ _ kF (drop2 kN) (ktn_ltOf hD.2)

theorem p229_told {c : Nat} {ds : List Nat} {t th t21 : Tok} {p : Addr} {n : Nat} (B : Below A₀ base outer h₀) (F : Fr h₀ L s.heap m) (X : (hd.heap_39 w.params).In h₀) (N : News h₀ L s.heap news) (T : Top hd.view_39 (looseW hd.view_39 []) mean mg mb h₀) (hk : cs.kind = .function)
    (hc : Mark c) (hds : AllDigits ds) (hne : ds ≠ []) (hl : ds.length ≤ 8) (hp : (p, ({ cls := .type "tuple", data := .seq #[.str (Str.ofString "here") th, .int 21 t21] n } : Obj)) ∈ news)
    (hd' : dp + 2 < recursionLimit) (hu : un + 16 < cLine)
    (hret : ∀ (D : Addr) (t1 t2 : Tok) (h' : Heap) (tk' : Nat), Fr h₀ L h' m → News h₀ L h' ((D, { cls := .type "tuple", data := .seq #[.str (Str.ofString "here") t1, .int ((digitsVal ds : Nat) : Int) t2] }) :: news) → (∀ p ∈ news, p.1 < D) → Q (.ref D) { s with heap := h', toks := tk' }) :
    wpAny (model PySem.Challenge.rw_il0202_01.row.prog w) (ktrTop dp un gd cn cs L a ccd cl outer) (call (.ref 58) [.str (reply229 (told229 c ds)) t, .ref p]) Q E s :=
  p229_use B F X N T hk (told_41 hc hds) (by simp [told229]) (by simp [told229]; omega) (told_first _ _) (told_last _ _) (told_split hc hds) (told_int hds hne hl) (by simp [Str.length]; omega) hp hd' hu hret

theorem glue_told (c : Nat) (ds : List Nat) : Str.ofString "229 go to (" ++ ⟨#[c, c, c]⟩ ++ ⟨ds.toArray⟩ ++ ⟨#[c]⟩ ++ Str.ofString ")" = reply229 (told229 c ds) := glue229 _ _ _
theorem len_mk (a : Array Nat) : (Str.mk a).length = a.size := rfl
theorem len_go : (Str.ofString "229 go to (").length = 11 := by decide +kernel
theorem len_close : (Str.ofString ")").length = 1 := by decide +kernel
theorem digit_text {x : Int} (h : 0 ≤ x ∧ x ≤ 9) : Str.ofString (toString x) = ⟨#[48 + x.toNat]⟩ := by
  have e : x = 0 ∨ x = 1 ∨ x = 2 ∨ x = 3 ∨ x = 4 ∨ x = 5 ∨ x = 6 ∨ x = 7 ∨ x = 8 ∨ x = 9 := by omega
  rcases e with rfl | rfl | rfl | rfl | rfl | rfl | rfl | rfl | rfl | rfl <;> decide +kernel
theorem join_text (x1 x2 x3 x4 x5 : Nat) : Txt.join (Str.ofString "") [⟨#[x1]⟩, ⟨#[x2]⟩, ⟨#[x3]⟩, ⟨#[x4]⟩, ⟨#[x5]⟩] = ⟨#[x1, x2, x3, x4, x5]⟩ := by
  rw [show Str.ofString "" = ⟨#[]⟩ from by decide +kernel]
  rfl
theorem mul_three (c : Nat) : Txt.mul ⟨#[c]⟩ 3 = ⟨#[c, c, c]⟩ := rfl
theorem dig_five {a1 a2 a3 a4 a5 : Int} (h1 : 0 ≤ a1 ∧ a1 ≤ 9) (h2 : 0 ≤ a2 ∧ a2 ≤ 9) (h3 : 0 ≤ a3 ∧ a3 ≤ 9) (h4 : 0 ≤ a4 ∧ a4 ≤ 9) (h5 : 0 ≤ a5 ∧ a5 ≤ 9) : AllDigits [48 + a1.toNat, 48 + a2.toNat, 48 + a3.toNat, 48 + a4.toNat, 48 + a5.toNat] := by
  intro c hc
  simp only [List.mem_cons, List.not_mem_nil, or_false] at hc
  omega

section
variable {prog : Program} {w : World} {A : Around} {E : Value → Shared → Prop} {s : Shared} {t u : Tok} {Q : Value → Shared → Prop}
theorem mul_mark {c : Nat} (h : ∀ t' k, Q (.str ⟨#[c, c, c]⟩ t') { s with toks := k }) : wpAny (model prog w) A (binaryOp .Mult (.str ⟨#[c]⟩ t) (.int 3 u)) Q E s := by
  refine KXi.mul (n := 1) rfl (by decide) (by decide) (by decide) fun t' k _ _ => ?_
  rw [mul_three]
  exact h t' k
theorem join_five {a1 a2 a3 a4 a5 : Int} {t1 t2 t3 t4 t5 : Tok} {D : Addr} {n : Nat} {h₀ : Heap} {L : Addr} {news : List (Addr × Obj)}
    (N : News h₀ L s.heap ((D, ({ cls := .type "list", data := .seq #[.str (Str.ofString (toString a1)) t1, .str (Str.ofString (toString a2)) t2, .str (Str.ofString (toString a3)) t3, .str (Str.ofString (toString a4)) t4, .str (Str.ofString (toString a5)) t5] n } : Obj)) :: news))
    (h1 : 0 ≤ a1 ∧ a1 ≤ 9) (h2 : 0 ≤ a2 ∧ a2 ≤ 9) (h3 : 0 ≤ a3 ∧ a3 ≤ 9) (h4 : 0 ≤ a4 ∧ a4 ≤ 9) (h5 : 0 ≤ a5 ∧ a5 ≤ 9)
    (h : ∀ t' k, Q (.str ⟨#[48 + a1.toNat, 48 + a2.toNat, 48 + a3.toNat, 48 + a4.toNat, 48 + a5.toNat]⟩ t') { s with toks := k }) : wpAny (model prog w) A (call (.builtin "str.join") [.str (Str.ofString "") t, .ref D]) Q E s := by
  rw [digit_text h1, digit_text h2, digit_text h3, digit_text h4, digit_text h5] at N
  refine SC.join (l := [(⟨#[48 + a1.toNat]⟩, t1), (⟨#[48 + a2.toNat]⟩, t2), (⟨#[48 + a3.toNat]⟩, t3), (⟨#[48 + a4.toNat]⟩, t4), (⟨#[48 + a5.toNat]⟩, t5)]) (texts := [⟨#[48 + a1.toNat]⟩, ⟨#[48 + a2.toNat]⟩, ⟨#[48 + a3.toNat]⟩, ⟨#[48 + a4.toNat]⟩, ⟨#[48 + a5.toNat]⟩]) (News.isList N (.head _)) rfl ?_ fun t' k => ?_
  · rw [show Str.ofString "" = ⟨#[]⟩ from by decide +kernel]
    rfl
  · rw [join_text]
    exact h t' k
end

local macro_rules | `(tactic| walk_at "binaryOp Mult str int") => `(tactic| (k_here; (with_reducible show wpAny _ _ (binaryOp Operator.Mult (Value.str (Str.mk _) _) (Value.int _ _)) _ _ _); refine mul_mark ?_; intro _ _))
local macro_rules | `(tactic| walk_at "binaryOp Add str str") => `(tactic| (k_here; (with_reducible show wpAny _ _ (binaryOp Operator.Add (Value.str _ _) (Value.str _ _)) _ _ _); (refine add_str ?_ (hsz := ?hsz)); (case hsz => (simp only [Str.length_append, len_mk, len_go, len_close, List.size_toArray, List.length_cons, List.length_nil]; rw [sizeLine_eq]; omega)); intro _ _))
local macro_rules | `(tactic| walk_at "call builtin:str.join") => `(tactic| (k_here; (show wpAny _ _ (call (Value.builtin "str.join") [Value.str _ _, Value.ref _]) _ _ _); (rename News _ _ _ _ => N'); refine join_five N' (by assumption) (by assumption) (by assumption) (by assumption) (by assumption) ?_; intro _ _))
local macro_rules | `(tactic| walk_at "call ref") => `(tactic| (k_here; (show wpAny _ _ (call (Value.ref 58) [Value.str _ _, Value.ref _]) _ _ _); rw [glue_told]; k_dflt (refine' p229_told ?k1 ?k2 ?k3 ?k4 ?k5 ?kK (by assumption) (dig_five (by assumption) (by assumption) (by assumption) (by assumption) (by assumption)) (by simp) (by simp) ?kp ?kd ?ku ?_; (case k1 => k_asm); (case k2 => k_asm); (case k3 => k_asm); (case k4 => k_asm); (case k5 => k_asm); (case kK => first | exact rfl | assumption); (case kp => exact List.Mem.head _); (case kd => ktr_room); (case ku => ktr_units)); intro D' t1' t2' h9 tk9 F9 N9 l9; (try k_sweep)))

/-- the number that figures spell -/
def spell (ns : List Int) : Int := ns.foldl (fun a x => a * 10 + x) 0

theorem spell_five {a1 a2 a3 a4 a5 : Int} (h1 : 0 ≤ a1 ∧ a1 ≤ 9) (h2 : 0 ≤ a2 ∧ a2 ≤ 9) (h3 : 0 ≤ a3 ∧ a3 ≤ 9) (h4 : 0 ≤ a4 ∧ a4 ≤ 9) (h5 : 0 ≤ a5 ∧ a5 ≤ 9) : ((digitsVal [48 + a1.toNat, 48 + a2.toNat, 48 + a3.toNat, 48 + a4.toNat, 48 + a5.toNat] : Nat) : Int) = spell [a1, a2, a3, a4, a5] := by
  simp only [digitsVal, spell, List.foldl_cons, List.foldl_nil]
  omega
theorem drop4 {h₀ h : Heap} {L : Addr} {p q1 q2 q3 : Addr × Obj} {news : List (Addr × Obj)} (N : News h₀ L h (p :: q1 :: q2 :: q3 :: news)) : News h₀ L h (p :: news) := fun r hr =>
  N r ((List.mem_cons.mp hr).elim (fun e => e ▸ .head _) fun e => .tail _ (.tail _ (.tail _ (.tail _ e))))

set_option maxRecDepth 100000 in
set_option maxHeartbeats 1000000 in
theorem told_use {ns : List Int} {l : Addr} {items : List Value} {n c : Nat} {t : Tok} (B : Below A₀ base outer h₀) (F : Fr h₀ L s.heap m) (X : (hd.heap_39 w.params).In h₀) (N : News h₀ L s.heap news) (T : Top hd.view_39 (looseW hd.view_39 []) mean mg mb h₀) (hk : cs.kind = .function)
    (hl : (l, W.listOf items.toArray n) ∈ news) (hi : IntsAre items ns) (hns : ∀ x ∈ ns, 0 ≤ x ∧ x ≤ 9) (hlen : ns.length = 5) (hc : Mark c)
    (hd' : dp + 5 < recursionLimit) (hu : un + 40 < cLine)
    (hret : ∀ (D : Addr) (t1 t2 : Tok) (h' : Heap) (tk' : Nat), Fr h₀ L h' m → News h₀ L h' ((D, { cls := .type "tuple", data := .seq #[.str (Str.ofString "here") t1, .int (spell ns) t2] }) :: news) → (∀ p ∈ news, p.1 < D) → Q (.ref D) { s with heap := h', toks := tk' }) :
    wpAny (model PySem.Challenge.rw_il0202_01.row.prog w) (ktrTop dp un gd cn cs L a ccd cl outer) (call (.ref 105) [.ref l, .str ⟨#[c]⟩ t]) Q E s := by
  w_on
  revert X; k_fill; intro X
  obtain ⟨a1, a2, a3, a4, a5, u1, u2, u3, u4, u5, rfl, rfl⟩ := five hi hlen
  have h1 := hns a1 (by simp)
  have h2 := hns a2 (by simp)
  have h3 := hns a3 (by simp)
  have h4 := hns a4 (by simp)
  have h5 := hns a5 (by simp)
  clear hi hlen hns
  replace N := once_more N hl
  clear hl
  refine wpAny_call ?_
  k_dflt ktr_enter
  k_steps
  · rename_i l9 kF kN kT kX
    rw [spell_five h1 h2 h3 h4 h5] at kN
    exact hret _ _ _ _ _ kF (drop4 kN) (fun p hp => l9 p (.tail _ (.tail _ (.tail _ hp))))
end
end Mine
end

section
open PySem.Calls
set_option maxRecDepth 100000
namespace Mine

section
variable {prog : Program} {w : World} {A : Around} {E : Value → Shared → Prop} {s : Shared} {K : Frag} {e t0 C : Addr} {oe : Obj} {ws : Array Value}

theorem exc_args {M : Model} {items : List Value} {Q : Value × List Value → Shared → Prop} (he : s.heap.get? e = some oe) (hd : oe.data = .fields ws) (h0 : ws[0]? = some (.ref t0)) (ht : s.heap.TupAt t0 items) (hq : Q (.ref t0, items) s) :
    wpAny M A (PySem.Builtin.BaseException.bexcArgs (.ref e)) Q E s := by
  obtain ⟨ot, k, hto, _, htd⟩ := ht
  unfold PySem.Builtin.BaseException.bexcArgs
  refine wpAny_bind (wpAny_field he hd h0 (wpAny_bind (wpAny_seqItems hto htd ?_)))
  have : items.toArray.toList = items := by simp
  show wpAny M A (pure (Value.ref t0, items.toArray.toList)) Q E s
  rw [this]; exact wpAny_pure hq

theorem exc_entry {m : Str} {tk : Tok} {Q : Fin → Shared → Prop} (he : s.heap.get? e = some oe) (hd : oe.data = .fields ws) (h0 : ws[0]? = some (.ref t0)) (ht : s.heap.TupAt t0 [.str m tk]) (hq : Q (.done (.ret (.str m tk))) s) :
    wpAny (model prog w) A (PySem.Builtin.«BaseException.__str__» ⟨[.ref e], []⟩) Q E s := by
  unfold PySem.Builtin.«BaseException.__str__»
  repeat (first | with_reducible refine exc_args he hd h0 ht ?_ | wp_step)
  exact hq

theorem exc_type {M : Model} (he : s.heap.get? e = some oe) (hc : oe.cls = .ref C) : Looks M s.heap (typeOf (.ref e)) (.ref C) := hc ▸ (Looks.ld he).andThen .now

theorem exc_call {m : Str} {tk : Tok} {Q : Value → Shared → Prop} (X : K.In s.heap) (he : s.heap.get? e = some oe) (hc : oe.cls = .ref C) (hd : oe.data = .fields ws) (h0 : ws[0]? = some (.ref t0)) (ht : s.heap.TupAt t0 [.str m tk])
    (hm : mroIn K C (.type "BaseException") = some true) (hq : Q (.str m tk) s) : wpAny (model prog w) A (call (.builtin "BaseException.__str__") [.ref e]) Q E s := by
  refine wpAny_call (codeAny_call_builtin PySem.F.excStr_Exception.str.plain PySem.F.entry_bexc_str (check_slot (i := "BaseException.__str__") (owner := "BaseException") (n := "__str__") (by decide +kernel) (by decide +kernel) ((exc_type he hc).andThen (looks_mroIn X hm)) (PySem.F.args_bexc_str _) ?_))
  refine exc_entry he hd h0 ht ?_
  exact hq
theorem exc_special {M : Model} {name : Str} {id : String} {args : List Value} {Q : Option Value → Shared → Prop} (X : K.In s.heap) (he : s.heap.get? e = some oe) (hc : oe.cls = .ref C) (hs : findIn K (.ref C) name = some (some (.builtin id)))
    (hb : ∀ self, bindSpecial (.builtin id) self = pure (.builtin id, [self])) (h : wpAny M A (call (.builtin id) (.ref e :: args)) (fun v => Q (some v)) E s) : wpAny M A (callSpecial? (.ref e) name args) Q E s :=
  wpAny_bind (wpAny_bind ((exc_type he hc).here ((looks_findIn X hs).here (wpAny_holding (wpAny_bind ((Looks.of_pure (hb _)).here (wpAny_bind (wpAny_mono h (fun _ _ z => wpAny_pure z) fun _ _ z => z))))))))

theorem exc_strOf {m : Str} {tk : Tok} {Q : Value → Shared → Prop} (hu : A.units < cLine) (X : K.In s.heap) (he : s.heap.get? e = some oe) (hc : oe.cls = .ref C) (hd : oe.data = .fields ws) (h0 : ws[0]? = some (.ref t0)) (ht : s.heap.TupAt t0 [.str m tk])
    (hs : findIn K (.ref C) "__str__" = some (some (.builtin "BaseException.__str__"))) (hm : mroIn K C (.type "BaseException") = some true) (hq : Q (.str m tk) s) : wpAny (model prog w) A (PySem.Builtin.Str.strOf (.ref e)) Q E s := by
  unfold PySem.Builtin.Str.strOf
  rw [show PySem.Builtin.Str.isExactStr (.ref e) = false from rfl]
  refine wpAny_bind (m := cRoomFor _ _) (wpAny_cRoomFor hu ?_)
  refine wpAny_bind (m := callSpecial? (.ref e) (Str.ofString "__str__")) (exc_special X he hc hs PySem.F.excStr_Exception.str.bind (exc_call X he hc hd h0 ht hm ?_))
  exact wpAny_pure hq

theorem exc_str {m : Str} {tk : Tok} {Q : Value → Shared → Prop} (hu : A.in1.in1.units < cLine) (X : K.In s.heap) (he : s.heap.get? e = some oe) (hc : oe.cls = .ref C) (hd : oe.data = .fields ws) (h0 : ws[0]? = some (.ref t0)) (ht : s.heap.TupAt t0 [.str m tk])
    (hs : findIn K (.ref C) "__str__" = some (some (.builtin "BaseException.__str__"))) (hm : mroIn K C (.type "BaseException") = some true) (hq : Q (.str m tk) s) : wpAny (model prog w) A (call (.type "str") [.ref e]) Q E s := by
  refine callType_codes (T := "str") (Bi := PySem.Builtin.«object.__init__») (Q₁ := fun r s₁ => ∃ y u, r = .str y u ∧ Q r s₁) PySem.F.called_str (PySem.F.typeCall_str_1 _) PySem.F.entry_object_init ?_ ?_
  · refine codeAny_of_tree ?_
    show wpAny _ A.in1.in1 (do checkBuiltinCall "str.__new__" ⟨[.type "str", .ref e], []⟩; again (.builtin "str.__new__" ⟨[.type "str", .ref e], []⟩)) _ _ s
    refine wpAny_bind (wpAny_of_eq (PySem.F.newCall_str_1 _) (wpAny_pure ⟨plainId_quiet (by decide +kernel) _, codeAny_builtin PySem.F.entry_str_new ?_⟩))
    rw [Around.under_plainId (by decide +kernel) _]
    rw [str_new_tree]
    refine wpAny_bind (wpAny_pure ?_)
    refine wpAny_bind (wpAny_of_eq isSubtype_str_str ?_)
    exact wpAny_bind (wpAny_mono (exc_strOf hu X he hc hd h0 ht hs hm (Q := fun r s₁ => ∃ y u, r = .str y u ∧ Q r s₁) ⟨_, _, rfl, hq⟩) (fun r s₁ hr => wpAny_pure hr) fun _ _ y => y)
  · rintro obj s₁ ⟨y, u, rfl, hq⟩
    exact ⟨typeIs_str _ _ _, PySem.F.args_object_init_2 _ _, object_init_meets PySem.F.called_str.init.lookup PySem.F.called_str.made (by decide) prog w A.in1 _ s₁ ⟨typeIs_str _ _ _, rfl, hq⟩⟩
end
end Mine
end

section
open PySem.NumText
namespace Mine
local macro_rules | `(tactic| k_room) => `(tactic| ktr_room)
local macro_rules | `(tactic| k_memK) => `(tactic| first | assumption | exact List.Mem.tail _ (by assumption) | exact List.Mem.tail _ (List.Mem.tail _ (by assumption)))
local macro_rules | `(tactic| k_mem) => `(tactic| first | assumption | exact List.Mem.tail _ (by assumption) | exact List.Mem.tail _ (List.Mem.tail _ (by assumption)))
local macro_rules | `(tactic| kxi_size) => `(tactic| (rw [len229, sizeLine_eq]; omega))
local macro_rules | `(tactic| walk_at "compareOp NotEq str str") => `(tactic| (rw [code229]))
local macro_rules | `(tactic| walk_at "call builtin:str.find") => `(tactic| (k_here; (show wpAny _ _ (call (Value.builtin "str.find") [Value.str (reply229 _) _, Value.str _ _]) _ _ _); refine SC.find ?_; rw [left229]))
local macro_rules | `(tactic| walk_at "call builtin:str.find") => `(tactic| (k_here; (show wpAny _ _ (call (Value.builtin "str.find") [Value.str (reply229 _) _, Value.str _ _, Value.int _ _]) _ _ _); refine SC.find3 ?_; rw [right229 _ (by assumption)]))
local macro_rules | `(tactic| walk_at "subscriptTail Name BinOp str int") => `(tactic| (k_here; (with_reducible show wpAny _ _ (subscriptTail _ _ (Value.str (reply229 _) _) (Value.int (10 + 1) _)) _ _ _); refine item_str (by decide) (by omega) (by rw [len229]; omega) ?_; intro _; (rename Txt.item _ (10 + 1) = _ => hXa); rw [hXa]))
local macro_rules | `(tactic| walk_at "subscriptTail Name BinOp str int") => `(tactic| (k_here; (with_reducible show wpAny _ _ (subscriptTail _ _ (Value.str (reply229 _) _) (Value.int (11 + _ - 1) _)) _ _ _); refine item_str (fitsSsize_of (N := 9223372036854775808) (by omega) (by omega) (Int.le_refl _)) (by omega) (by rw [len229]; omega) ?_; intro _; (rename Txt.item _ (11 + _ - 1) = _ => hXb); rw [hXb]))
local macro_rules | `(tactic| walk_at "compareOp NotEq str str") => `(tactic| (k_here; (with_reducible show wpAny _ _ (compareOp CmpOp.NotEq (Value.str (Str.mk _) _) (Value.str (Str.mk _) _)) _ _ _); refine ne_str ?_; first | rw [ne_same] | rw [ne_other (by assumption)]))
local macro_rules | `(tactic| walk_at "call builtin:str.split") => `(tactic| (k_here; (show wpAny _ _ (call (Value.builtin "str.split") [Value.str _ _, Value.str _ _]) _ _ _); rw [mid229]; (rename Fr _ _ _ _ => F'); (rename News _ _ _ _ => N'); (refine split4 F' N' rfl (by assumption) ?_ (by rw [sizeLine_eq]; simp only [Str.length, List.size_toArray]; omega); intro D' t0 t1 t2 t3 h' k' F' N' l1)))

theorem drop3 {h₀ h : Heap} {L : Addr} {q1 q2 q3 : Addr × Obj} {news : List (Addr × Obj)} (N : News h₀ L h (q1 :: q2 :: q3 :: news)) : News h₀ L h news := fun r hr => N r (.tail _ (.tail _ (.tail _ hr)))
theorem drop4' {h₀ h : Heap} {L : Addr} {q1 q2 q3 q4 : Addr × Obj} {news : List (Addr × Obj)} (N : News h₀ L h (q1 :: q2 :: q3 :: q4 :: news)) : News h₀ L h news := fun r hr => N r (.tail _ (.tail _ (.tail _ (.tail _ hr))))
theorem glue_ref {b0 b1 b2 bt b3 b : List Nat} (hb : b0 ++ b1 ++ b2 ++ bt ++ b3 = b) : Str.ofString "229 go to (" ++ ⟨(b0 ++ b1 ++ b2).toArray⟩ ++ ⟨bt.toArray⟩ ++ ⟨b3.toArray⟩ ++ Str.ofString ")" = reply229 b := by
  rw [glue229, ← hb]
theorem join_text3 (b0 b1 b2 : List Nat) : Txt.join (Str.ofString "") [⟨b0.toArray⟩, ⟨b1.toArray⟩, ⟨b2.toArray⟩] = ⟨(b0 ++ b1 ++ b2).toArray⟩ := by
  rw [show Str.ofString "" = ⟨#[]⟩ from by decide +kernel]
  refine Str.ext' ?_
  show ((b0.toArray ++ #[] ++ b1.toArray) ++ #[] ++ b2.toArray) = _
  simp
section
variable {prog : Program} {w : World} {A : Around} {E : Value → Shared → Prop} {s : Shared} {t u : Tok} {Q : Value → Shared → Prop}
theorem join_three {b0 b1 b2 : List Nat} {t0 t1 t2 : Tok} {D : Addr} {n : Nat} {h₀ : Heap} {L : Addr} {news : List (Addr × Obj)}
    (N : News h₀ L s.heap ((D, ({ cls := .type "list", data := .seq #[.str ⟨b0.toArray⟩ t0, .str ⟨b1.toArray⟩ t1, .str ⟨b2.toArray⟩ t2] n } : Obj)) :: news)) (h0 : b0.length ≤ 2) (h1 : b1.length ≤ 2) (h2 : b2.length ≤ 2)
    (h : ∀ t' k, Q (.str ⟨(b0 ++ b1 ++ b2).toArray⟩ t') { s with toks := k }) : wpAny (model prog w) A (call (.builtin "str.join") [.str (Str.ofString "") t, .ref D]) Q E s := by
  refine SC.join (l := [(⟨b0.toArray⟩, t0), (⟨b1.toArray⟩, t1), (⟨b2.toArray⟩, t2)]) (texts := [⟨b0.toArray⟩, ⟨b1.toArray⟩, ⟨b2.toArray⟩]) (News.isList N (.head _)) rfl ?_ fun t' k => ?_
  · unfold JoinOk
    rw [StrLaws.joinFits (B := 2)]
    · rfl
    · intro y hy
      simp only [List.mem_cons, List.not_mem_nil, or_false] at hy
      rcases hy with rfl | rfl | rfl <;> simpa [Str.length]
    · rw [show Str.ofString "" = ⟨#[]⟩ from by decide +kernel]
      show 3 * 2 + 3 * 0 ≤ 16777216
      decide
  · rw [join_text3]
    exact h t' k
end
theorem len_list (l : List Nat) : (Str.mk l.toArray).length = l.length := by simp [Str.length]
section
variable {prog : Program} {w : World} {A : Around} {E : Value → Shared → Prop} {s : Shared} {t u : Tok} {Q : Value → Shared → Prop}
theorem add_glue {b0 b1 b2 bt b3 b : List Nat} (hb : b0 ++ b1 ++ b2 ++ bt ++ b3 = b) (_ : 0 = 0) (h0 : b0.length ≤ 2) (h1 : b1.length ≤ 2) (h2 : b2.length ≤ 2) (h3 : b3.length ≤ 2) (ht : bt.length ≤ 8)
    (h : ∀ t' k, Q (.str (reply229 b) t') { s with toks := k }) : wpAny (model prog w) A (binaryOp .Add (.str (Str.ofString "229 go to (" ++ ⟨(b0 ++ b1 ++ b2).toArray⟩ ++ ⟨bt.toArray⟩ ++ ⟨b3.toArray⟩) t) (.str (Str.ofString ")") u)) Q E s := by
  refine add_str (fun t' k => ?_) ?_
  · rw [glue_ref hb]
    exact h t' k
  · simp only [Str.length_append, len_list, len_go, len_close, List.length_append]
    rw [sizeLine_eq]
    omega
end
local macro_rules | `(tactic| walk_at "call builtin:str.join") => `(tactic| (k_here; (show wpAny _ _ (call (Value.builtin "str.join") [Value.str _ _, Value.ref _]) _ _ _); (rename News _ _ _ _ => N'); refine join_three N' (by assumption) (by assumption) (by assumption) ?_; intro _ _))
local macro_rules | `(tactic| walk_at "binaryOp Add str str") => `(tactic| (k_here; (with_reducible show wpAny _ _ (binaryOp Operator.Add (Value.str _ _) (Value.str _ _)) _ _ _); (fail_if_success (with_reducible show wpAny _ _ (binaryOp Operator.Add (Value.str _ _) (Value.str (Str.ofString ")") _)) _ _ _)); (refine add_str ?_ (hsz := ?hsz)); (case hsz => (simp only [Str.length_append, len_list, len_go, len_close, List.length_append]; rw [sizeLine_eq]; omega)); intro _ _))
local macro_rules | `(tactic| walk_at "binaryOp Add str str") => `(tactic| (k_here; (with_reducible show wpAny _ _ (binaryOp Operator.Add (Value.str _ _) (Value.str (Str.ofString ")") _)) _ _ _); (refine' add_glue ?hb (by omega) (by assumption) (by assumption) (by assumption) (by assumption) (by assumption) ?_); (case hb => assumption); intro _ _))

section
variable {prog : Program} {w : World} {A : Around} {E : Value → Shared → Prop} {s : Shared} {K : Frag} {e t0 C : Addr} {h₀ : Heap} {L : Addr} {n₂ : List (Addr × Obj)}
theorem got_str {m : Str} {tk : Tok} {Q : Value → Shared → Prop} (X : K.In s.heap) (N : News h₀ L s.heap n₂) (G : Got n₂ e t0 (.ref C) [.str m tk]) (hu : A.in1.in1.units < cLine)
    (hs : findIn K (.ref C) "__str__" = some (some (.builtin "BaseException.__str__"))) (hm : mroIn K C (.type "BaseException") = some true) (hq : Q (.str m tk) s) : wpAny (model prog w) A (call (.type "str") [.ref e]) Q E s := by
  obtain ⟨oe, ot, ws, nt, h1, h2, hc, hd, h0, hoc, hod⟩ := G
  exact exc_str hu X (N _ h1).1 hc hd h0 ⟨ot, nt, (N _ h2).1, hoc, hod⟩ hs hm hq
end
local macro_rules | `(tactic| walk_at "call type:str") => `(tactic| (k_here; (show wpAny _ _ (call (Value.type "str") [Value.ref _]) _ _ _); (rename Got _ _ _ _ _ => gX); k_dflt (refine' got_str ?gX1 ?gN gX ?gu ?gs ?gm ?_; (case gX1 => k_in); (case gN => k_asm); (case gu => ktr_units); (case gs => k_is); (case gm => k_is))))
local macro_rules | `(tactic| walk_at "compareOp Eq str str") => `(tactic| (k_here; (with_reducible show wpAny _ _ (compareOp CmpOp.Eq (Value.str (reply229 _) _) (Value.str (reply229 _) _)) _ _ _); refine eq_str ?_; rw [beq_self_eq_true]))

section
variable {w : World} {mean : ExcName → Option Value} {mg mb : Str → Option Value} {dp un : Nat} {gd : Option (List Code)} {cn : Str} {cs : Scope} {a : Addr} {ccd : Value} {A₀ : Around} {base h₀ : Heap} {L : Addr} {m : Str → Option Value} {news : List (Addr × Obj)} {s : Shared} {Q E : Value → Shared → Prop}

set_option maxRecDepth 100000 in
set_option maxHeartbeats 1000000 in
theorem refused_one {b0 b1 b2 b3 bt b : List Nat} {c d : Nat} {l : Addr} {n : Nat} {t0 t1 t2 t3 t : Tok} (B : Below A₀ base [] h₀) (XB : (hd.heap_39 w.params).In base) (TB : Top hd.view_39 (looseW hd.view_39 []) mean mg mb base) (F : Fr h₀ L s.heap m) (X : (hd.heap_39 w.params).In h₀) (N : News h₀ L s.heap news) (T : Top hd.view_39 (looseW hd.view_39 []) mean mg mb h₀) (hk : cs.kind = .function)
    (hl : (l, W.listOf #[.str ⟨b0.toArray⟩ t0, .str ⟨b1.toArray⟩ t1, .str ⟨b2.toArray⟩ t2, .str ⟨b3.toArray⟩ t3] n) ∈ news)
    (hb : b0 ++ b1 ++ b2 ++ bt ++ b3 = b) (h41 : 41 ∉ b) (hl0 : b0.length ≤ 2) (hl1 : b1.length ≤ 2) (hl2 : b2.length ≤ 2) (hl3 : b3.length ≤ 2) (hlt : bt.length ≤ 8)
    (hf : b[0]? = some c) (hla : b[b.length - 1]? = some d) (hne : c ≠ d)
    (hd' : dp + 5 < recursionLimit) (hu : un + 40 < cLine)
    (hret : ∀ (h' : Heap) (tk' : Nat), Fr h₀ L h' m → News h₀ L h' news → Q (.bool true) { s with heap := h', toks := tk' }) :
    wpAny (model PySem.Challenge.rw_il0202_01.row.prog w) (ktrTop dp un gd cn cs L a ccd [] []) (call (.ref 112) [.str ⟨bt.toArray⟩ t, .ref l]) Q E s := by
  w_on
  revert X; k_fill; intro X
  have hbl : b.length ≤ 20 := by rw [← hb]; simp only [List.length_append]; omega
  have hb0 : 1 ≤ b.length := by have := (List.getElem?_eq_some_iff.mp hf).1; omega
  have hI1 : Txt.item (reply229 b) (10 + 1) = ⟨#[c]⟩ := item229 b _ c (by omega) hf
  have hI2 : Txt.item (reply229 b) (11 + (b.length : Int) - 1) = ⟨#[d]⟩ := item229 b _ d (by omega) (by rw [show (11 + (b.length : Int) - 1 - 11).toNat = b.length - 1 from by omega]; exact hla)
  have hN := N
  replace N := once_more N hl
  clear hl hN
  refine wpAny_call ?_
  k_dflt (refine' code_defS0 ?k1 ?k2 ?k3 ?k4 ?k5 ?kA ?k6 ?k7 ?k8 ?k9 ?kB ?_ ?cK ?c2 ?c3 ?c4 ?c5; (case kA => exact rfl); (case k2 => k_asm); (case k1 => k_asm); (case k3 => k_asm); (case k4 => k_asm); (case k5 => k_asm); (case k6 => k_is); (case k7 => k_is); (case k8 => ktr_room); (case k9 => exact BindsTo.of_eq rfl); (case kB => exact locs rfl); (case cK => assumption); (case c2 => exact rfl); (case c3 => exact rfl); (case c4 => exact rfl); (case c5 => decide); k_whole; intro g' L' h' FG' F' N' B' X' T' D'; (try dsimp only); (try k_lift B'); (try k_fold))
  k_steps
  · rename_i kF kN kT kX
    exact hret _ _ kF (drop3 kN)

set_option maxRecDepth 100000 in
set_option maxHeartbeats 1000000 in
theorem refused_two {b0 b1 b2 b3 bt b : List Nat} {c : Nat} {l : Addr} {n : Nat} {t0 t1 t2 t3 t : Tok} (B : Below A₀ base [] h₀) (XB : (hd.heap_39 w.params).In base) (TB : Top hd.view_39 (looseW hd.view_39 []) mean mg mb base) (F : Fr h₀ L s.heap m) (X : (hd.heap_39 w.params).In h₀) (N : News h₀ L s.heap news) (T : Top hd.view_39 (looseW hd.view_39 []) mean mg mb h₀) (hk : cs.kind = .function)
    (hl : (l, W.listOf #[.str ⟨b0.toArray⟩ t0, .str ⟨b1.toArray⟩ t1, .str ⟨b2.toArray⟩ t2, .str ⟨b3.toArray⟩ t3] n) ∈ news)
    (hb : b0 ++ b1 ++ b2 ++ bt ++ b3 = b) (h41 : 41 ∉ b) (hl0 : b0.length ≤ 2) (hl1 : b1.length ≤ 2) (hl2 : b2.length ≤ 2) (hl3 : b3.length ≤ 2) (hlt : bt.length ≤ 8)
    (hf : b[0]? = some c) (hla : b[b.length - 1]? = some c) {p0 p1 p2 p3 : Str} (hs : Txt.split ⟨b.toArray⟩ ⟨#[c]⟩ = [p0, p1, p2, p3])
    (hd' : dp + 5 < recursionLimit) (hu : un + 40 < cLine)
    (hret : ∀ (h' : Heap) (tk' : Nat), Fr h₀ L h' m → News h₀ L h' news → Q (.bool true) { s with heap := h', toks := tk' }) :
    wpAny (model PySem.Challenge.rw_il0202_01.row.prog w) (ktrTop dp un gd cn cs L a ccd [] []) (call (.ref 112) [.str ⟨bt.toArray⟩ t, .ref l]) Q E s := by
  w_on
  revert X; k_fill; intro X
  have hbl : b.length ≤ 20 := by rw [← hb]; simp only [List.length_append]; omega
  have hb0 : 1 ≤ b.length := by have := (List.getElem?_eq_some_iff.mp hf).1; omega
  have hI1 : Txt.item (reply229 b) (10 + 1) = ⟨#[c]⟩ := item229 b _ c (by omega) hf
  have hI2 : Txt.item (reply229 b) (11 + (b.length : Int) - 1) = ⟨#[c]⟩ := item229 b _ c (by omega) (by rw [show (11 + (b.length : Int) - 1 - 11).toNat = b.length - 1 from by omega]; exact hla)
  have hN := N
  replace N := once_more N hl
  clear hl hN
  refine wpAny_call ?_
  k_dflt (refine' code_defS0 ?k1 ?k2 ?k3 ?k4 ?k5 ?kA ?k6 ?k7 ?k8 ?k9 ?kB ?_ ?cK ?c2 ?c3 ?c4 ?c5; (case kA => exact rfl); (case k2 => k_asm); (case k1 => k_asm); (case k3 => k_asm); (case k4 => k_asm); (case k5 => k_asm); (case k6 => k_is); (case k7 => k_is); (case k8 => ktr_room); (case k9 => exact BindsTo.of_eq rfl); (case kB => exact locs rfl); (case cK => assumption); (case c2 => exact rfl); (case c3 => exact rfl); (case c4 => exact rfl); (case c5 => decide); k_whole; intro g' L' h' FG' F' N' B' X' T' D'; (try dsimp only); (try k_lift B'); (try k_fold))
  k_steps
  · rename_i kF kN kT kX
    exact hret _ _ kF (drop4' kN)

end
end Mine
end

section
open PySem.NumText
namespace Mine

/-- a row of five figures, and what it spells -/
def Row (ns : List Int) (x : Int) : Prop := ns.length = 5 ∧ (∀ d ∈ ns, 0 ≤ d ∧ d ≤ 9) ∧ spell ns = x

theorem list_five {ns : List Int} (h : ns.length = 5) : ∃ a b c d e, ns = [a, b, c, d, e] := by
  match ns, h with
  | [a, b, c, d, e], _ => exact ⟨a, b, c, d, e, rfl⟩
theorem Row.bounds {ns : List Int} {x : Int} (h : Row ns x) : 0 ≤ x ∧ x < 100000 := by
  obtain ⟨hl, hd, hs⟩ := h
  obtain ⟨a, b, c, d, e, rfl⟩ := list_five hl
  have h1 := hd a (by simp)
  have h2 := hd b (by simp)
  have h3 := hd c (by simp)
  have h4 := hd d (by simp)
  have h5 := hd e (by simp)
  simp only [spell, List.foldl_cons, List.foldl_nil] at hs
  omega
theorem Row.halve {ns : List Int} {x : Int} (h : Row ns x) : Row (halves ns).1 (x / 2) ∧ (halves ns).2 = x % 2 := by
  obtain ⟨hl, hd, hs⟩ := h
  obtain ⟨a, b, c, d, e, rfl⟩ := list_five hl
  have h1 := hd a (by simp)
  have h2 := hd b (by simp)
  have h3 := hd c (by simp)
  have h4 := hd d (by simp)
  have h5 := hd e (by simp)
  simp only [spell, List.foldl_cons, List.foldl_nil] at hs
  have e1 : halves [a, b, c, d, e] = ([(a + 10 * 0) / 2, (b + 10 * ((a + 10 * 0) % 2)) / 2, (c + 10 * ((b + 10 * ((a + 10 * 0) % 2)) % 2)) / 2, (d + 10 * ((c + 10 * ((b + 10 * ((a + 10 * 0) % 2)) % 2)) % 2)) / 2,
      (e + 10 * ((d + 10 * ((c + 10 * ((b + 10 * ((a + 10 * 0) % 2)) % 2)) % 2)) % 2)) / 2], (e + 10 * ((d + 10 * ((c + 10 * ((b + 10 * ((a + 10 * 0) % 2)) % 2)) % 2)) % 2)) % 2) := rfl
  rw [e1]
  refine ⟨⟨rfl, ?_, ?_⟩, ?_⟩
  · intro z hz
    simp only [List.mem_cons, List.not_mem_nil, or_false] at hz
    omega
  · simp only [spell, List.foldl_cons, List.foldl_nil]
    omega
  · show (e + 10 * ((d + 10 * ((c + 10 * ((b + 10 * ((a + 10 * 0) % 2)) % 2)) % 2)) % 2)) % 2 = x % 2
    omega

theorem figs_row (ns : List Int) : Row (List.map (fun k' : Int => k'.fmod 10) (List.take 5 ns) ++ List.drop (((List.map (fun k' : Int => k'.fmod 10) (List.take 5 ns)).length : Int)).toNat [4, 0, 7, 1, 7])
    (List.foldl (fun a' => HAdd.hAdd (a' * 10)) 0 (List.map (fun k' : Int => k'.fmod 10) (List.take 5 ns) ++ List.drop (((List.map (fun k' : Int => k'.fmod 10) (List.take 5 ns)).length : Int)).toNat [4, 0, 7, 1, 7])) := by
  refine ⟨?_, ?_, rfl⟩
  · simp only [List.length_append, List.length_map, List.length_drop, List.length_cons, List.length_nil, Int.toNat_natCast, List.length_take]
    omega
  · intro d hd
    rcases List.mem_append.mp hd with h | h
    · obtain ⟨k, _, rfl⟩ := List.mem_map.mp h
      show 0 ≤ k.fmod 10 ∧ k.fmod 10 ≤ 9
      rw [Int.fmod_eq_emod_of_nonneg k (by decide)]
      omega
    · have h' := List.mem_of_mem_drop h
      simp only [List.mem_cons, List.not_mem_nil, or_false] at h'
      omega

theorem mark_is (z : Int) : ∃ c, Mark c ∧ Txt.item (Str.ofString "|!/~") (z.fmod 4) = ⟨#[c]⟩ := by
  rw [Int.fmod_eq_emod_of_nonneg z (by decide)]
  have e : z % 4 = 0 ∨ z % 4 = 1 ∨ z % 4 = 2 ∨ z % 4 = 3 := by omega
  rcases e with e | e | e | e <;> rw [e]
  · exact ⟨124, .inl rfl, by decide +kernel⟩
  · exact ⟨33, .inr (.inl rfl), by decide +kernel⟩
  · exact ⟨47, .inr (.inr (.inl rfl)), by decide +kernel⟩
  · exact ⟨126, .inr (.inr (.inr rfl)), by decide +kernel⟩

theorem and_128 (n : Nat) : n &&& 128 = 128 * (n / 128 % 2) := by
  have h : ∀ r : Fin 256, r.1 &&& 128 = 128 * (r.1 / 128 % 2) := by decide +kernel
  have e : n &&& 128 = (n % 2 ^ 8) &&& 128 := by
    rw [← Nat.and_two_pow_sub_one_eq_mod, Nat.and_assoc]
    rfl
  rw [e]
  have := h ⟨n % 2 ^ 8, Nat.mod_lt _ (by decide)⟩
  rw [this]
  show 128 * (n % 2 ^ 8 / 128 % 2) = _
  omega
theorem or_128 {x : Int} (h0 : 0 ≤ x) : Builtin.bitOr x 128 = x + 128 - 128 * ((x / 128) % 2) := by
  rw [bitOr_and, bitAnd_pp h0 (by decide)]
  obtain ⟨n, rfl⟩ : ∃ n : Nat, x = (n : Int) := ⟨x.toNat, by omega⟩
  rw [show ((n : Int).toNat &&& (128 : Int).toNat) = n &&& 128 from by simp, and_128]
  omega

section
variable {w : World} {mean : ExcName → Option Value} {mg mb : Str → Option Value} {dp un : Nat} {gd : Option (List Code)} {cn : Str} {cs : Scope} {a : Addr} {ccd : Value} {cl : List (Str × Addr)} {outer : List Env} {A₀ : Around} {base h₀ : Heap} {L : Addr} {m : Str → Option Value} {news : List (Addr × Obj)} {s : Shared} {Q E : Value → Shared → Prop}

theorem told_row {ns : List Int} {l : Addr} {items : List Value} {n c : Nat} {t : Tok} {x : Int} (B : Below A₀ base outer h₀) (F : Fr h₀ L s.heap m) (X : (hd.heap_39 w.params).In h₀) (N : News h₀ L s.heap news) (T : Top hd.view_39 (looseW hd.view_39 []) mean mg mb h₀) (hk : cs.kind = .function)
    (hl : (l, W.listOf items.toArray n) ∈ news) (hi : IntsAre items ns) (hr : Row ns x) (hc : Mark c)
    (hd' : dp + 5 < recursionLimit) (hu : un + 40 < cLine)
    (hret : ∀ (D : Addr) (t1 t2 : Tok) (h' : Heap) (tk' : Nat), Fr h₀ L h' m → News h₀ L h' ((D, { cls := .type "tuple", data := .seq #[.str (Str.ofString "here") t1, .int x t2] }) :: news) → (∀ p ∈ news, p.1 < D) → Q (.ref D) { s with heap := h', toks := tk' }) :
    wpAny (model PySem.Challenge.rw_il0202_01.row.prog w) (ktrTop dp un gd cn cs L a ccd cl outer) (call (.ref 105) [.ref l, .str ⟨#[c]⟩ t]) Q E s := by
  obtain ⟨h1, h2, rfl⟩ := hr
  exact told_use B F X N T hk hl hi h2 h1 hc hd' hu hret

theorem halved_row {ns : List Int} {l : Addr} {items : List Value} {n : Nat} {x : Int} (B : Below A₀ base outer h₀) (F : Fr h₀ L s.heap m) (X : (hd.heap_39 w.params).In h₀) (N : News h₀ L s.heap news) (T : Top hd.view_39 (looseW hd.view_39 []) mean mg mb h₀) (hk : cs.kind = .function)
    (hl : (l, W.listOf items.toArray n) ∈ news) (hi : IntsAre items ns) (hr : Row ns x)
    (hd' : dp + 5 < recursionLimit) (hu : un + 40 < cLine)
    (hret : ∀ (D l' : Addr) (items' : List Value) (ns' : List Int) (n' : Nat) (t : Tok) (y z : Int) (h' : Heap) (tk' : Nat), Fr h₀ L h' m → News h₀ L h' ((D, { cls := .type "tuple", data := .seq #[.ref l', .int z t] }) :: (l', W.listOf items'.toArray n') :: news) →
      IntsAre items' ns' → Row ns' y → y = x / 2 → z = x % 2 → l' < D → (∀ p ∈ news, p.1 < l') → Q (.ref D) { s with heap := h', toks := tk' }) :
    wpAny (model PySem.Challenge.rw_il0202_01.row.prog w) (ktrTop dp un gd cn cs L a ccd cl outer) (call (.ref 100) [.ref l]) Q E s :=
  halved_use B F X N T hk hl hi hr.2.1 hr.1 hd' hu fun D l' items' n' t h' tk' F' N' hi' h1 h2 => hret D l' items' _ n' t _ _ h' tk' F' N' hi' hr.halve.1 rfl hr.halve.2 h1 h2

/-- the texts of the marks that are refused -/
def Spoilt (c : Nat) (b0 b1 b2 b3 : List Nat) : Prop :=
  (b0 = [c + 128] ∧ b1 = [c] ∧ b2 = [c] ∧ b3 = [c]) ∨ (b0 = [c] ∧ b1 = [c + 128] ∧ b2 = [c] ∧ b3 = [c]) ∨ (b0 = [c] ∧ b1 = [c] ∧ b2 = [c + 128] ∧ b3 = [c]) ∨
  (b0 = [c] ∧ b1 = [c] ∧ b2 = [c] ∧ b3 = [c + 128]) ∨ (b0 = [c] ∧ b1 = [c] ∧ b2 = [c] ∧ b3 = [c, c + 128])

theorem num_digits {x : Int} (h0 : 0 ≤ x) (h1 : x < 100000) : AllDigits (Str.ofString (toString x)).cps.toList ∧ (Str.ofString (toString x)).cps.toList.length ≤ 8 := by
  obtain ⟨n, rfl⟩ : ∃ n : Nat, x = (n : Int) := ⟨x.toNat, by omega⟩
  constructor
  · intro c hc
    rw [KIN.signs_num] at hc
    obtain ⟨ch, hch, e⟩ := List.mem_map.mp hc
    have r := digit_range (Nat.isDigit_of_mem_toDigits (by decide) (by decide) hch)
    rw [← e]
    exact r
  · have e := toString_length_le (k := 5) h0 (by decide) h1
    rw [Array.length_toList]
    exact Nat.le_trans e (by decide)

theorem text_back (y : Str) : (⟨y.cps.toList.toArray⟩ : Str) = y := by cases y; simp
theorem spoilt_41 {c : Nat} {b0 b1 b2 b3 bt : List Nat} (hs : Spoilt c b0 b1 b2 b3) (hc : Mark c) (hd : AllDigits bt) : 41 ∉ b0 ++ b1 ++ b2 ++ bt ++ b3 := by
  have f := hc.far
  have g := far41 hd
  rcases hs with ⟨rfl, rfl, rfl, rfl⟩ | ⟨rfl, rfl, rfl, rfl⟩ | ⟨rfl, rfl, rfl, rfl⟩ | ⟨rfl, rfl, rfl, rfl⟩ | ⟨rfl, rfl, rfl, rfl⟩ <;>
    (simp only [List.mem_append, List.mem_cons, List.not_mem_nil, or_false, not_or, g, not_false_eq_true, and_true]; omega)
theorem spoilt_short {c : Nat} {b0 b1 b2 b3 : List Nat} (hs : Spoilt c b0 b1 b2 b3) : b0.length ≤ 2 ∧ b1.length ≤ 2 ∧ b2.length ≤ 2 ∧ b3.length ≤ 2 := by
  rcases hs with ⟨rfl, rfl, rfl, rfl⟩ | ⟨rfl, rfl, rfl, rfl⟩ | ⟨rfl, rfl, rfl, rfl⟩ | ⟨rfl, rfl, rfl, rfl⟩ | ⟨rfl, rfl, rfl, rfl⟩ <;> exact ⟨by simp, by simp, by simp, by simp⟩
theorem split_two {c : Nat} {bt : List Nat} (hc : Mark c) (hd : AllDigits bt) : Txt.split ⟨([c] ++ [c + 128] ++ [c] ++ bt ++ [c]).toArray⟩ ⟨#[c]⟩ = [⟨#[]⟩, ⟨#[c + 128]⟩, ⟨bt.toArray⟩, ⟨#[]⟩] := by
  refine split_is _ _ _ (by simp) ?_ ?_
  · have := far_mark hc hd
    simp [this]
  · simp [joinL]
theorem split_three {c : Nat} {bt : List Nat} (hc : Mark c) (hd : AllDigits bt) : Txt.split ⟨([c] ++ [c] ++ [c + 128] ++ bt ++ [c]).toArray⟩ ⟨#[c]⟩ = [⟨#[]⟩, ⟨#[]⟩, ⟨((c + 128) :: bt).toArray⟩, ⟨#[]⟩] := by
  refine split_is _ _ _ (by simp) ?_ ?_
  · have := far_mark hc hd
    simp [this]
  · simp [joinL]
theorem last_at (l : List Nat) (c : Nat) : (l ++ [c])[(l ++ [c]).length - 1]? = some c := by simp
theorem last_at2 (l : List Nat) (c d : Nat) : (l ++ [c, d])[(l ++ [c, d]).length - 1]? = some d := by
  rw [show l ++ [c, d] = (l ++ [c]) ++ [d] from by simp]
  exact last_at _ _

theorem refused_law {b0 b1 b2 b3 : List Nat} {c : Nat} {x : Int} {l : Addr} {n : Nat} {t0 t1 t2 t3 t : Tok} (B : Below A₀ base [] h₀) (XB : (hd.heap_39 w.params).In base) (TB : Top hd.view_39 (looseW hd.view_39 []) mean mg mb base) (F : Fr h₀ L s.heap m) (X : (hd.heap_39 w.params).In h₀) (N : News h₀ L s.heap news) (T : Top hd.view_39 (looseW hd.view_39 []) mean mg mb h₀) (hk : cs.kind = .function)
    (hl : (l, W.listOf #[.str ⟨b0.toArray⟩ t0, .str ⟨b1.toArray⟩ t1, .str ⟨b2.toArray⟩ t2, .str ⟨b3.toArray⟩ t3] n) ∈ news)
    (hs : Spoilt c b0 b1 b2 b3) (hc : Mark c) (h0 : 0 ≤ x) (h1 : x < 100000)
    (hd' : dp + 5 < recursionLimit) (hu : un + 40 < cLine)
    (hret : ∀ (h' : Heap) (tk' : Nat), Fr h₀ L h' m → News h₀ L h' news → Q (.bool true) { s with heap := h', toks := tk' }) :
    wpAny (model PySem.Challenge.rw_il0202_01.row.prog w) (ktrTop dp un gd cn cs L a ccd [] []) (call (.ref 112) [.str (Str.ofString (toString x)) t, .ref l]) Q E s := by
  obtain ⟨hd, hn⟩ := num_digits h0 h1
  rw [← text_back (Str.ofString (toString x))]
  generalize (Str.ofString (toString x)).cps.toList = bt at hd hn ⊢
  have h41 := spoilt_41 hs hc hd
  obtain ⟨k0, k1, k2, k3⟩ := spoilt_short hs
  have f := hc.far
  rcases hs with ⟨rfl, rfl, rfl, rfl⟩ | ⟨rfl, rfl, rfl, rfl⟩ | ⟨rfl, rfl, rfl, rfl⟩ | ⟨rfl, rfl, rfl, rfl⟩ | ⟨rfl, rfl, rfl, rfl⟩
  · exact refused_one B XB TB F X N T hk hl rfl h41 k0 k1 k2 k3 hn rfl (last_at _ _) (by omega) hd' hu hret
  · exact refused_two B XB TB F X N T hk hl rfl h41 k0 k1 k2 k3 hn rfl (last_at _ _) (split_two hc hd) hd' hu hret
  · exact refused_two B XB TB F X N T hk hl rfl h41 k0 k1 k2 k3 hn rfl (last_at _ _) (split_three hc hd) hd' hu hret
  · exact refused_one B XB TB F X N T hk hl rfl h41 k0 k1 k2 k3 hn rfl (last_at _ _) (by omega) hd' hu hret
  · exact refused_one B XB TB F X N T hk hl rfl h41 k0 k1 k2 k3 hn rfl (last_at2 _ _ _) (by omega) hd' hu hret
end
end Mine
end

section
open PySem.NumText
namespace Mine
section
variable {prog : Program} {w : World} {A : Around} {E : Value → Shared → Prop} {s : Shared} {value slice : PySem.Expr} {t u : Tok} {Q : Value → Shared → Prop}
theorem mark_item {z : Int} (h : ∀ c t' k, Mark c → Q (.str ⟨#[c]⟩ t') { s with toks := k })
    (hs : subscripted slice false (.str (Str.ofString "|!/~") t) (.int (z.fmod 4) u) = operate [.str (Str.ofString "|!/~") t, .int (z.fmod 4) u] (getItem (.str (Str.ofString "|!/~") t) (.int (z.fmod 4) u)) := by with_unfolding_all rfl)
    (ht : ∀ r, letTemporaryGo value (.str (Str.ofString "|!/~") t) r = pure () := by intro _; with_unfolding_all rfl) :
    wpAny (model prog w) A (subscriptTail value slice (.str (Str.ofString "|!/~") t) (.int (z.fmod 4) u)) Q E s := by
  obtain ⟨c, hc, e⟩ := mark_is z
  have hz : 0 ≤ z.fmod 4 ∧ z.fmod 4 < 4 := by rw [Int.fmod_eq_emod_of_nonneg z (by decide)]; omega
  refine KXi.item (n := 4) (by decide +kernel) (by omega) (by omega) (by decide) (fun _ => ?_) hs ht
  rw [e]
  exact h c _ _ hc
end
theorem one_of {h₀ h : Heap} {L : Addr} {p : Addr × Obj} {news : List (Addr × Obj)} (N : News h₀ L h news) (hp : p ∈ news) : News h₀ L h [p] := fun r hr => by
  rw [List.mem_singleton.mp hr]
  exact N p hp
theorem figs_of (ns : List Int) : ∃ figs x, Row figs x ∧ figs = List.map (fun k' : Int => k'.fmod 10) (List.take 5 ns) ++ List.drop (((List.map (fun k' : Int => k'.fmod 10) (List.take 5 ns)).length : Int)).toNat [4, 0, 7, 1, 7] ∧
    x = List.foldl (fun a' => HAdd.hAdd (a' * 10)) 0 figs := ⟨_, _, figs_row ns, rfl, rfl⟩
local macro_rules | `(tactic| walk_at "subscriptTail List") => `(tactic| (k_here; k_dflt (refine kba_turn (value' := PySem.Expr.Name (PySem.Str.ofString "_") ⟨0, 0, 0, 0⟩) (fun _ => rfl) ?_)))
local macro_rules | `(tactic| walk_at "subscriptTail Constant") => `(tactic| (k_here; (show wpAny _ _ (subscriptTail _ _ (Value.str (Str.ofString "|!/~") _) (Value.int (Int.fmod _ 4) _)) _ _ _); refine mark_item ?_; intro _ _ _ _))
theorem five_ints {t0 t1 t2 t3 t4 : Tok} : IntsAre [.int 4 t0, .int 0 t1, .int 7 t2, .int 1 t3, .int 7 t4] [4, 0, 7, 1, 7] := .cons _ _ (.cons _ _ (.cons _ _ (.cons _ _ (.cons _ _ .nil))))
local macro_rules | `(tactic| walk_at "subscriptTail Name Slice ref ref") => `(tactic| (k_here; (with_reducible show wpAny _ _ (subscriptTail _ (PySem.Expr.Slice (some _) none none _) (Value.ref _) (Value.ref _)) _ _ _); k_dflt (refine' kmk_slice_ints ?F ?N ?l ?p ?q five_ints (kmk_from five_ints (Int.natCast_nonneg _)) rfl ?_ ?s ?t ?z; (case F => k_asm); (case N => k_asm); (case l => exact News.isList (by k_asm) (by k_mem)); (case p => kmk_part); (case q => kmk_part); (case s => with_unfolding_all rfl); (case t => kmk_pure); (case z => exact Nat.le_of_ble_eq_true rfl)); intro D' ws' h' F' N' l1 hI' hC' hL'; (try k_lt l1); (try k_sweep)))
section
variable {prog : Program} {w : World} {A : Around} {E : Value → Shared → Prop} {s : Shared} {u : Tok} {Q : Value → Shared → Prop} {h₀ : Heap} {L : Addr} {m : Str → Option Value} {news : List (Addr × Obj)}
theorem mul_one {l : Addr} {v : Value} {n : Nat} {i : Int} (k : Nat) (hi : i = (k : Int)) (hk : k ≤ 4) (Fm : Fr h₀ L s.heap m) (N : News h₀ L s.heap news) (hm : (l, W.listOf #[v] n) ∈ news)
    (h : ∀ D h', Fr h₀ L h' m → News h₀ L h' ((D, W.listOf (List.replicate k v).toArray 0) :: news) → (∀ p ∈ news, p.1 < D) → Q (.ref D) { s with heap := h' }) : wpAny (model prog w) A (binaryOp .Mult (.ref l) (.int i u)) Q E s := by
  subst hi
  refine mul_list Fm N (N _ hm).1 (by omega) (by omega) (by rw [show (#[v] : Array Value).size = 1 from rfl]; omega) fun h' F' N' => ?_
  refine h _ h' F' ?_ fun p hp => Heap.lt_size (N p hp).1
  have e : (List.foldl (fun x1 x2 => x1 ++ x2) #[] (List.replicate (if (#[v] : Array Value).isEmpty = true then 0 else (k : Int).toNat) #[v]) : Array Value) = (List.replicate k v).toArray := by
    rw [show (if (#[v] : Array Value).isEmpty = true then 0 else (k : Int).toNat) = k from by simp]
    rcases (by omega : k = 0 ∨ k = 1 ∨ k = 2 ∨ k = 3 ∨ k = 4) with rfl | rfl | rfl | rfl | rfl <;> rfl
  rw [e] at N'
  exact N'
end
local macro_rules | `(tactic| walk_at "binaryOp Mult ref int") => `(tactic| (k_here; (with_reducible show wpAny _ _ (binaryOp Operator.Mult (Value.ref _) (Value.int _ _)) _ _ _); (rename Fr _ _ _ _ => F'); (rename News _ _ _ _ => N'); (first | refine mul_one 0 (by omega) (by decide) F' N' (by k_mem) ?_ | refine mul_one 1 (by omega) (by decide) F' N' (by k_mem) ?_ | refine mul_one 2 (by omega) (by decide) F' N' (by k_mem) ?_ | refine mul_one 3 (by omega) (by decide) F' N' (by k_mem) ?_); intro D' h' F' N' l1; (simp only [List.replicate_succ, List.replicate_zero] at N'); (try k_lt l1); (try k_sweep)))
local macro_rules | `(tactic| walk_at "call builtin:len") => `(tactic| (k_here; (show wpAny _ _ (call (Value.builtin "len") [Value.ref _]) _ _ _); (rename News _ _ _ _ => N'); k_dflt (refine' kst_len (k := 5) N' ?hm ?he (by decide) ?_; (case hm => k_mem); (case he => assumption))))
local macro_rules | `(tactic| walk_at "no such key") => `(tactic| fail)
section
variable {prog : Program} {w : World} {A : Around} {E : Value → Shared → Prop} {s : Shared} {t u : Tok} {Q : Value → Shared → Prop}
theorem pow_two {i : Int} (k : Nat) (n : Int) (hi : i = (k : Int)) (hk : k ≤ 8) (hn : (2 : Int) ^ k = n) (h : Q (.int n s.toks) { s with toks := s.toks + 1 }) : wpAny (model prog w) A (binaryOp .Pow (.int 2 t) (.int i u)) Q E s := by
  subst hi hn
  refine pow_int_small (by omega) (by omega) (by decide) ?_
  rw [Int.toNat_natCast]
  exact h
theorem fdiv_lit {x n : Int} (hn : 0 < n) (hn2 : n ≤ 256) (hx : 0 ≤ x ∧ x < 100000) (h : Q (.int (x / n) s.toks) { s with toks := s.toks + 1 }) : wpAny (model prog w) A (binaryOp .FloorDiv (.int x t) (.int n u)) Q E s := by
  refine floordiv_int (by omega) ?_ (Or.inl (PyProof.noPylong_small (by omega)))
  rw [Int.fdiv_eq_ediv_of_nonneg x (by omega)]
  exact h
end
local macro_rules | `(tactic| walk_at "binaryOp Pow int int") => `(tactic| (k_here; first | refine pow_two 0 1 (by omega) (by decide) rfl ?_ | refine pow_two 1 2 (by omega) (by decide) rfl ?_ | refine pow_two 2 4 (by omega) (by decide) rfl ?_ | refine pow_two 3 8 (by omega) (by decide) rfl ?_ | refine pow_two 4 16 (by omega) (by decide) rfl ?_ | refine pow_two 5 32 (by omega) (by decide) rfl ?_ | refine pow_two 6 64 (by omega) (by decide) rfl ?_ | refine pow_two 7 128 (by omega) (by decide) rfl ?_ | refine pow_two 8 256 (by omega) (by decide) rfl ?_))
local macro_rules | `(tactic| walk_at "binaryOp Mult int int") => `(tactic| (k_here; refine mul_int ?_ (IntMulOk.of_right (by decide +kernel))))
local macro_rules | `(tactic| walk_at "binaryOp FloorDiv int int") => `(tactic| (k_here; refine fdiv_lit (by decide) (by decide) (by assumption) ?_))
theorem keep_figs {h₀ h : Heap} {L D : Addr} {ws : List Value} {figs : List Int} {news : List (Addr × Obj)} (_ : IntsAre ws figs) (N : News h₀ L h news) (hm : (D, W.listOf ws.toArray 0) ∈ news) : News h₀ L h [(D, W.listOf ws.toArray 0)] := one_of N hm
theorem front {h₀ h : Heap} {L : Addr} {m : Str → Option Value} (F : Fr h₀ L h m) (ps : List (Str × Value)) (hp : ∀ p ∈ ps, m p.1 = some p.2) : Fr h₀ L h (kstB m ps) := by
  have e : kstB m ps = m := funext fun z => kstB_eq hp fun _ => rfl
  rw [e]
  exact F
abbrev map3 (v1 v2 v3 : Value) (m0 : Str → Option Value) : Str → Option Value := fun y => if y = Str.ofString "figures" then some v1 else if y = Str.ofString "number" then some v2 else if y = Str.ofString "mark" then some v3 else m0 y
abbrev map4 (v1 v2 v3 v4 : Value) (m0 : Str → Option Value) : Str → Option Value := fun y => if y = Str.ofString "figures" then some v1 else if y = Str.ofString "number" then some v2 else if y = Str.ofString "mark" then some v3 else if y = Str.ofString "port" then some v4 else m0 y
abbrev map6 (v1 v2 v3 v4 v5 v6 : Value) (m0 : Str → Option Value) : Str → Option Value := fun y => if y = Str.ofString "row" then some v1 else if y = Str.ofString "number" then some v2 else if y = Str.ofString "mark" then some v3 else if y = Str.ofString "port" then some v4 else if y = Str.ofString "spelled" then some v5 else if y = Str.ofString "half" then some v6 else m0 y
theorem front3 {h₀ h : Heap} {L : Addr} {m : Str → Option Value} {v1 v2 v3 : Value} (F : Fr h₀ L h m) (h1 : m (Str.ofString "figures") = some v1) (h2 : m (Str.ofString "number") = some v2) (h3 : m (Str.ofString "mark") = some v3) :
    ∃ m0 : Str → Option Value, Fr h₀ L h (map3 v1 v2 v3 m0) :=
  ⟨m, front F [(Str.ofString "figures", v1), (Str.ofString "number", v2), (Str.ofString "mark", v3)] (List.forall_mem_cons.mpr ⟨h1, List.forall_mem_cons.mpr ⟨h2, List.forall_mem_cons.mpr ⟨h3, List.forall_mem_nil _⟩⟩⟩)⟩
theorem front4 {h₀ h : Heap} {L : Addr} {m : Str → Option Value} {v1 v2 v3 v4 : Value} (F : Fr h₀ L h m) (h1 : m (Str.ofString "figures") = some v1) (h2 : m (Str.ofString "number") = some v2) (h3 : m (Str.ofString "mark") = some v3) (h4 : m (Str.ofString "port") = some v4) :
    ∃ m0 : Str → Option Value, Fr h₀ L h (map4 v1 v2 v3 v4 m0) :=
  ⟨m, front F [(Str.ofString "figures", v1), (Str.ofString "number", v2), (Str.ofString "mark", v3), (Str.ofString "port", v4)] (List.forall_mem_cons.mpr ⟨h1, List.forall_mem_cons.mpr ⟨h2, List.forall_mem_cons.mpr ⟨h3, List.forall_mem_cons.mpr ⟨h4, List.forall_mem_nil _⟩⟩⟩⟩)⟩
theorem front6 {h₀ h : Heap} {L : Addr} {m : Str → Option Value} {v1 v2 v3 v4 v5 v6 : Value} (F : Fr h₀ L h m) (h1 : m (Str.ofString "row") = some v1) (h2 : m (Str.ofString "number") = some v2) (h3 : m (Str.ofString "mark") = some v3) (h4 : m (Str.ofString "port") = some v4) (h5 : m (Str.ofString "spelled") = some v5) (h6 : m (Str.ofString "half") = some v6) :
    ∃ m0 : Str → Option Value, Fr h₀ L h (map6 v1 v2 v3 v4 v5 v6 m0) :=
  ⟨m, front F [(Str.ofString "row", v1), (Str.ofString "number", v2), (Str.ofString "mark", v3), (Str.ofString "port", v4), (Str.ofString "spelled", v5), (Str.ofString "half", v6)] (List.forall_mem_cons.mpr ⟨h1, List.forall_mem_cons.mpr ⟨h2, List.forall_mem_cons.mpr ⟨h3, List.forall_mem_cons.mpr ⟨h4, List.forall_mem_cons.mpr ⟨h5, List.forall_mem_cons.mpr ⟨h6, List.forall_mem_nil _⟩⟩⟩⟩⟩⟩)⟩
section
variable {h₀ h : Heap} {L I l : Addr} {m : Str → Option Value} {all : List (Addr × Obj)} {its : Array Value} {n : Nat} {x y : Int} {rest : (Str → Option Value) → List (Addr × Obj) → Prop} {s₁ : Shared} {tk : Nat}
theorem list_off (N : News h₀ L h all) (hI : (I, itR x y) ∈ all) (hl : (l, W.listOf its n) ∈ all) : l ≠ I := by
  intro e
  subst e
  have h1 := (N _ hI).1
  rw [(N _ hl).1] at h1
  have h2 := congrArg Obj.cls (Option.some.inj h1)
  have h3 : Value.type "list" = Value.type "range_iterator" := h2
  exact absurd h3 (by decide)
theorem unr_end {m' : Str → Option Value} (F : Fr h₀ L h m') (N : News h₀ L h all) (hI : (I, itR x y) ∈ all) (hl : (l, W.listOf its n) ∈ all) (r : rest m' [(l, W.listOf its n)]) : UnrEnd h₀ L s₁ I (itR x y) rest { s₁ with heap := h, toks := tk } :=
  UnrEnd.intro F N [(l, W.listOf its n)] (List.forall_mem_cons.mpr ⟨hI, List.forall_mem_cons.mpr ⟨hl, List.forall_mem_nil _⟩⟩) (List.forall_mem_cons.mpr ⟨list_off N hI hl, List.forall_mem_nil _⟩) r
theorem unr_end4 {v2 v3 v4 : Value} (F : Fr h₀ L h m) (N : News h₀ L h all) (h1 : m (Str.ofString "figures") = some (.ref l)) (h2 : m (Str.ofString "number") = some v2) (h3 : m (Str.ofString "mark") = some v3) (h4 : m (Str.ofString "port") = some v4)
    (hI : (I, itR x y) ∈ all) (hl : (l, W.listOf its n) ∈ all) (r : ∀ m0, rest (map4 (.ref l) v2 v3 v4 m0) [(l, W.listOf its n)]) : UnrEnd h₀ L s₁ I (itR x y) rest { s₁ with heap := h, toks := tk } := by
  obtain ⟨m0, F'⟩ := front4 F h1 h2 h3 h4
  exact unr_end F' N hI hl (r m0)
theorem unr_end6 {v2 v3 v4 v5 v6 : Value} (F : Fr h₀ L h m) (N : News h₀ L h all) (h1 : m (Str.ofString "row") = some (.ref l)) (h2 : m (Str.ofString "number") = some v2) (h3 : m (Str.ofString "mark") = some v3) (h4 : m (Str.ofString "port") = some v4) (h5 : m (Str.ofString "spelled") = some v5) (h6 : m (Str.ofString "half") = some v6)
    (hI : (I, itR x y) ∈ all) (hl : (l, W.listOf its n) ∈ all) (r : ∀ m0, rest (map6 (.ref l) v2 v3 v4 v5 v6 m0) [(l, W.listOf its n)]) : UnrEnd h₀ L s₁ I (itR x y) rest { s₁ with heap := h, toks := tk } := by
  obtain ⟨m0, F'⟩ := front6 F h1 h2 h3 h4 h5 h6
  exact unr_end F' N hI hl (r m0)
end
local macro_rules | `(tactic| walk_at "UnrEnd") => `(tactic| (k_here; (rename Fr _ _ _ _ => F'); (rename News _ _ _ _ => N'); k_dflt (first | (refine' unr_end6 F' N' rfl rfl rfl rfl rfl rfl ?hI ?hl ?_; (case hI => k_mem); (case hl => k_mem)) | (refine' unr_end4 F' N' rfl rfl rfl rfl ?hI ?hl ?_; (case hI => k_mem); (case hl => k_mem))); intro m0; (clear F' N'); (repeat (first | (rename ((_ : Nat) < (_ : Nat)) ∧ _ => hz; clear hz) | (rename ((_ : Nat) < (_ : Nat)) => hz; clear hz)))))
theorem alt_mark {c : Nat} (hc : Mark c) : altOf ⟨#[c]⟩ = ⟨#[c + 128]⟩ := by
  rcases hc with rfl | rfl | rfl | rfl <;> decide +kernel
theorem hide_mark {c : Nat} (hc : Mark c) : Hides ⟨#[c]⟩ := by
  rcases hc with rfl | rfl | rfl | rfl
  · exact .inr (.inl (by decide +kernel))
  · exact .inr (.inr (.inl (by decide +kernel)))
  · exact .inr (.inr (.inr (.inl (by decide +kernel))))
  · exact .inr (.inr (.inr (.inr (by decide +kernel))))
theorem add_two (c d : Nat) : (⟨#[c]⟩ : Str) ++ ⟨#[d]⟩ = ⟨#[c, d]⟩ := rfl
theorem items_five {items : List Value} {ns : List Int} {x : Int} (hi : IntsAre items ns) (hr : Row ns x) : items.length = 5 := hi.length.trans hr.1
local macro_rules | `(tactic| walk_at "call ref") => `(tactic| (k_here; (show wpAny _ _ (call (Value.ref 105) [Value.ref _, Value.str _ _]) _ _ _); k_dflt (refine' told_row ?k1 ?k2 ?k3 ?k4 ?k5 ?kK ?hl ?hi ?hr ?hc ?kd ?ku ?_; (case k1 => k_asm); (case k4 => k_asm); (case k2 => k_asm); (case k3 => k_asm); (case k5 => k_asm); (case kK => first | exact rfl | assumption); (case hl => k_mem); (case hi => assumption); (case hr => assumption); (case hc => assumption); (case kd => first | exact Nat.le_of_ble_eq_true rfl | k_room); (case ku => first | exact Nat.le_of_ble_eq_true rfl | ktr_units)); intro D' t1' t2' h9 tk9 F9 N9 l9; (try k_lt l9); (try k_sweep)))
local macro_rules | `(tactic| walk_at "call ref") => `(tactic| (k_here; (show wpAny _ _ (call (Value.ref 100) [Value.ref _]) _ _ _); k_dflt (refine' halved_row ?k1 ?k2 ?k3 ?k4 ?k5 ?kK ?hl ?hi ?hr ?kd ?ku ?_; (case k1 => k_asm); (case k4 => k_asm); (case k2 => k_asm); (case k3 => k_asm); (case k5 => k_asm); (case kK => first | exact rfl | assumption); (case hl => k_mem); (case hi => assumption); (case hr => assumption); (case kd => first | exact Nat.le_of_ble_eq_true rfl | k_room); (case ku => first | exact Nat.le_of_ble_eq_true rfl | ktr_units)); intro D' l' items' ns' n' t' y' z' h9 tk9 F9 N9 hI9 hR9 hy9 hz9 hD9 l9; (try k_lt l9); (have hL9 := items_five hI9 hR9); (try k_sweep)))
local macro_rules | `(tactic| walk_at "call ref") => `(tactic| (k_here; (show wpAny _ _ (call (Value.ref 112) [Value.str _ _, Value.ref _]) _ _ _); k_dflt (refine' refused_law ?k1 ?kXB ?kTB ?k2 ?k3 ?k4 ?k5 ?kK ?hl ?hs ?hc ?h0 ?h1 ?kd ?ku ?_; (case k1 => k_asm); (case k2 => k_asm); (case k3 => k_asm); (case k4 => k_asm); (case k5 => k_asm); (case kXB => k_asm); (case kTB => k_asm); (case kK => first | exact rfl | assumption); (case hl => k_mem); (case hc => assumption); (case hs => first | exact .inl ⟨rfl, rfl, rfl, rfl⟩ | exact .inr (.inl ⟨rfl, rfl, rfl, rfl⟩) | exact .inr (.inr (.inl ⟨rfl, rfl, rfl, rfl⟩)) | exact .inr (.inr (.inr (.inl ⟨rfl, rfl, rfl, rfl⟩))) | exact .inr (.inr (.inr (.inr ⟨rfl, rfl, rfl, rfl⟩)))); (case h0 => omega); (case h1 => omega); (case kd => first | exact Nat.le_of_ble_eq_true rfl | k_room); (case ku => first | exact Nat.le_of_ble_eq_true rfl | ktr_units)); intro h9 tk9 F9 N9; (try k_sweep)))
local macro_rules | `(tactic| walk_at "call ref") => `(tactic| (k_here; (show wpAny _ _ (call (Value.ref 93) [Value.str (Str.mk _) _]) _ _ _); k_dflt (refine' alt_use ?k1 ?k2 ?k3 ?k4 ?k5 ?kK (hide_mark (by assumption)) ?kd ?ku ?_; (case k1 => k_asm); (case k2 => k_asm); (case k3 => k_asm); (case k4 => k_asm); (case k5 => k_asm); (case kK => first | exact rfl | assumption); (case kd => first | exact Nat.le_of_ble_eq_true rfl | k_room); (case ku => first | exact Nat.le_of_ble_eq_true rfl | ktr_units)); intro t9 h9 tk9 F9 N9; rw [alt_mark (by assumption)]; (try k_sweep)))
local macro_rules | `(tactic| walk_at "binaryOp BitAnd int int") => `(tactic| (k_here; refine and_int ?_; first | rw [bitAnd_m5] | rw [bitAnd_m7]))
local macro_rules | `(tactic| walk_at "binaryOp BitOr int int") => `(tactic| (k_here; refine or_int ?_; rw [or_128 (by omega)]))
local macro_rules | `(tactic| walk_at "binaryOp Add str str") => `(tactic| (k_here; (with_reducible show wpAny _ _ (binaryOp Operator.Add (Value.str (Str.mk _) _) (Value.str (Str.mk _) _)) _ _ _); (refine add_str ?_ (hsz := ?hsz)); (case hsz => exact Nat.le_of_ble_eq_true rfl); intro _ _; rw [add_two]))

set_option maxRecDepth 100000 in
set_option maxHeartbeats 8000000 in
theorem law_holds : PySem.Challenge.rw_il0202_01.Holds := hd (by
  w_strict k_go0
  all_goals try k_fold
  repeat' ((fail_if_success (with_reducible show wpAny _ _ (call (Value.ref 105) _) _ _ _)); (first | (k_unfold; (try dsimp only)) | (k_end; wrow_close) | walk1 | (dsimp only; walk1) | (leave1; walk_say "STEP leave1"; try dsimp only) | fail "no step"))
  rename List Int => scr
  obtain ⟨figs, x0, hRow, e1, e2⟩ := figs_of scr
  rename IntsAre _ (_ ++ _) => hFig
  rename Fr _ _ _ _ => F'
  rw [← e1] at hFig F'
  rw [← e2] at F'
  clear e1 e2
  rename News _ _ _ _ => N'
  replace N' := keep_figs hFig N' (by k_mem)
  obtain ⟨m0, F3⟩ := front3 F' rfl rfl rfl
  clear F'
  repeat (first | (rename LCg.Off1 _ _ => hz; clear hz) | (rename ((_ : Nat) < (_ : Nat)) ∧ _ => hz; clear hz) | (rename ((_ : Nat) < (_ : Nat)) => hz; clear hz))
  have hB := hRow.bounds
  repeat' ((fail_if_success (with_reducible show wpAny _ _ (call (Value.type "range") [Value.int 8 _]) _ _ _)); (first | (k_unfold; (try dsimp only)) | (k_end; wrow_close) | walk1 | (dsimp only; walk1) | (leave1; walk_say "STEP leave1"; try dsimp only) | fail "no step"))
  rename Fr _ _ _ _ => F'
  rename News _ _ _ _ => N'
  replace N' := keep_figs hFig N' (by k_mem)
  obtain ⟨m1, F4⟩ := front6 F' rfl rfl rfl rfl rfl rfl
  clear F'
  repeat (first | (rename ((_ : Nat) < (_ : Nat)) ∧ _ => hz; clear hz) | (rename ((_ : Nat) < (_ : Nat)) => hz; clear hz))
  k_steps
  all_goals w_report)
end Mine
end

set_option maxRecDepth 100000 in
theorem PySem.Challenge.cw_il0202_01_holds : PySem.Challenge.rw_il0202_01.Holds :=
  Mine.law_holds
#print axioms PySem.Challenge.cw_il0202_01_holds
