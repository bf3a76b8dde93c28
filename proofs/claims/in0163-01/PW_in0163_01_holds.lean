import PyProof.Rows.All
import Wide.All
import OpenK.AllK
import Wide.FinOn
import Lean
import PySem.Challenge.RW_in0163_01
namespace Mine
open PySem PySem.W PyProof.Rows PySem.Calls
set_option Elab.async false
set_option maxRecDepth 100000
noncomputable def de (P : Params) (n : String) (t : Tok) (v : Value) : DictEntry := ⟨PyData.keyHash P (Str.ofString n), .str (Str.ofString n) t, v⟩
noncomputable def fnObj (i : Nat) (md : String) (mt : Tok) (c : Addr) : Obj := match PySem.Challenge.pw_in0163_01.main.body[i]? with
  | some (.FunctionDef n a b _ _ _ sc _ _ _) => ⟨.type "function", none, .func { name := n, qualname := n, params := a, body := .stmts b, scope := sc, globals := 3, closure := [], defaults := .none, kwdefaults := .none, pyModule := .str (Str.ofString md) mt, code := .ref c }, #[]⟩
  | _ => default
noncomputable def codeObj (n : String) (t1 t2 t3 : Tok) (line argc : Int) (fr tab : Addr) (l1 l2 : Value) (tm : Addr) (ik : Int) (t4 : Tok) : Obj :=
  ⟨.type "code", none, .fields #[.str (Str.ofString n) t1, .str (Str.ofString n) t2, .str (Str.ofString "/claim/cut.py") t3, .int line 0, .int argc 0, .int 0 0, .int 0 0, .int 3 0, .ref fr, .bool true, .int 276 0, .ref tab, .none, l1, l2, .ref tm, .int ik 0, .int line 0, .str (Str.ofString "/claim/cut.py") t4], #[]⟩
noncomputable def KF (P : Params) : Frag :=
  (nat_lit 3, ⟨.type "dict", none, .dict #[de P "__name__" 165 (.str (Str.ofString "law_in0163_01") 604),
    de P "__doc__" 166 (.none),
    de P "__package__" 167 (.none),
    de P "__loader__" 168 (.builtin "__main__.__loader__#op\x61que"),
    de P "__spec__" 169 (.none),
    de P "__annotations__" 170 (.ref 6),
    de P "__builtins__" 171 (.ref 4),
    de P "__file__" 173 (.str (Str.ofString "/claim/cut.py") 172),
    de P "__cached__" 174 (.none),
    de P "_sre" 275 (.ref 12),
    de P "add" 291 (.ref 38),
    de P "and_" 299 (.ref 45),
    de P "lshift" 307 (.ref 52),
    de P "mul" 315 (.ref 59),
    de P "or_" 323 (.ref 66),
    de P "rshift" 331 (.ref 73),
    de P "sub" 339 (.ref 80),
    de P "countOf" 349 (.ref 87),
    de P "_twin_re_1" 389 (.ref 92),
    de P "translate" 398 (.ref 99),
    de P "_special_chars_map" 546 (.ref 101),
    de P "escape" 553 (.ref 111),
    de P "_translate" 574 (.ref 118),
    de P "_join_translated_parts" 587 (.ref 125),
    de P "sorted_list_difference" 603 (.ref 132),
    de P "_law_signs" 611 (.ref 137),
    de P "_law_item" 621 (.ref 144),
    de P "_law_turned" 634 (.ref 151),
    de P "_law_names" 640 (.ref 156),
    de P "_law_piece" 646 (.ref 161),
    de P "_law_groups" 657 (.ref 168),
    de P "_law_takes" 667 (.ref 175),
    de P "_law_taken" 673 (.ref 180),
    de P "_law_from_behind" 683 (.ref 187),
    de P "_law_due" 689 (.ref 192),
    de P "_law_ways" 700 (.ref 199),
    de P "law" 706 (.ref 204)] 37, #[]⟩) ::
  (nat_lit 37, codeObj "add" 284 285 286 3 2 32 33 (.ref 34) (.ref 35) 36 289 290) ::
  (nat_lit 38, fnObj 2 "cpy313.operator" 282 37) ::
  (nat_lit 44, codeObj "and_" 292 293 294 5 2 39 40 (.ref 41) (.ref 42) 43 297 298) ::
  (nat_lit 45, fnObj 3 "cpy313.operator" 282 44) ::
  (nat_lit 51, codeObj "lshift" 300 301 302 7 2 46 47 (.ref 48) (.ref 49) 50 305 306) ::
  (nat_lit 52, fnObj 4 "cpy313.operator" 282 51) ::
  (nat_lit 58, codeObj "mul" 308 309 310 9 2 53 54 (.ref 55) (.ref 56) 57 313 314) ::
  (nat_lit 59, fnObj 5 "cpy313.operator" 282 58) ::
  (nat_lit 65, codeObj "or_" 316 317 318 11 2 60 61 (.ref 62) (.ref 63) 64 321 322) ::
  (nat_lit 66, fnObj 6 "cpy313.operator" 282 65) ::
  (nat_lit 72, codeObj "rshift" 324 325 326 13 2 67 68 (.ref 69) (.ref 70) 71 329 330) ::
  (nat_lit 73, fnObj 7 "cpy313.operator" 282 72) ::
  (nat_lit 79, codeObj "sub" 332 333 334 15 2 74 75 (.ref 76) (.ref 77) 78 337 338) ::
  (nat_lit 80, fnObj 8 "cpy313.operator" 282 79) ::
  (nat_lit 86, codeObj "countOf" 340 341 342 17 2 81 82 (.ref 83) (.ref 84) 85 347 348) ::
  (nat_lit 87, fnObj 9 "cpy313.operator" 282 86) ::
  (nat_lit 91, ⟨.type "tuple", none, .seq #[.int 14 0, .int 14 0, .int 4 0, .int 1 0, .int 1 0, .int 9 0, .int 0 0, .int 64 0, .int 0 0, .int 1342177280 0, .int 0 0, .int 0 0, .int 0 0, .int 0 0, .int 0 0, .int 17 0, .int 0 0, .int 13 0, .int 11 0, .int 9 0, .int 0 0, .int 64 0, .int 0 0, .int 1342177280 0, .int 0 0, .int 0 0, .int 0 0, .int 0 0, .int 0 0, .int 17 0, .int 1 0, .int 1 0] 0, #[]⟩) ::
  (nat_lit 92, ⟨.type "re.Pattern", none, .fields #[.str (Str.ofString "([&~|])") 353, .int 32 388, .int 1 0, .none, .none, .ref 91, .int 0 0], #[]⟩) ::
  (nat_lit 98, codeObj "translate" 390 391 392 25 1 93 94 (.ref 95) (.ref 96) 97 396 397) ::
  (nat_lit 99, fnObj 12 "cpy313.fnmatch" 350 98) ::
  (nat_lit 101, ⟨.type "dict", none, .dict #[⟨40, .int 40 402, .str (Str.ofString "\\(") 406⟩,
    ⟨41, .int 41 408, .str (Str.ofString "\\)") 412⟩,
    ⟨91, .int 91 414, .str (Str.ofString "\\[") 418⟩,
    ⟨93, .int 93 420, .str (Str.ofString "\\]") 424⟩,
    ⟨123, .int 123 426, .str (Str.ofString "\\{") 430⟩,
    ⟨125, .int 125 432, .str (Str.ofString "\\}") 436⟩,
    ⟨63, .int 63 438, .str (Str.ofString "\\?") 442⟩,
    ⟨42, .int 42 444, .str (Str.ofString "\\*") 448⟩,
    ⟨43, .int 43 450, .str (Str.ofString "\\+") 454⟩,
    ⟨45, .int 45 456, .str (Str.ofString "\\-") 460⟩,
    ⟨124, .int 124 462, .str (Str.ofString "\\|") 466⟩,
    ⟨94, .int 94 468, .str (Str.ofString "\\^") 472⟩,
    ⟨36, .int 36 474, .str (Str.ofString "\\$") 478⟩,
    ⟨92, .int 92 480, .str (Str.ofString "\\\\") 484⟩,
    ⟨46, .int 46 486, .str (Str.ofString "\\.") 490⟩,
    ⟨38, .int 38 492, .str (Str.ofString "\\&") 496⟩,
    ⟨126, .int 126 498, .str (Str.ofString "\\~") 502⟩,
    ⟨35, .int 35 504, .str (Str.ofString "\\#") 508⟩,
    ⟨32, .int 32 510, .str (Str.ofString "\\ ") 514⟩,
    ⟨9, .int 9 516, .str (Str.ofString "\\\t") 520⟩,
    ⟨10, .int 10 522, .str (Str.ofString "\\\n") 526⟩,
    ⟨13, .int 13 528, .str (Str.ofString "\\\x0d") 532⟩,
    ⟨11, .int 11 534, .str (Str.ofString "\\\x0b") 538⟩,
    ⟨12, .int 12 540, .str (Str.ofString "\\\x0c") 544⟩] 24, #[]⟩) ::
  (nat_lit 110, codeObj "escape" 547 548 549 31 1 105 106 (.ref 107) (.ref 108) 109 551 552) ::
  (nat_lit 111, fnObj 15 "re" 399 110) ::
  (nat_lit 117, codeObj "_translate" 556 557 558 38 3 112 113 (.ref 114) (.ref 115) 116 572 573) ::
  (nat_lit 118, fnObj 17 "cpy313.fnmatch" 554 117) ::
  (nat_lit 124, codeObj "_join_translated_parts" 575 576 577 100 2 119 120 (.ref 121) (.ref 122) 123 585 586) ::
  (nat_lit 125, fnObj 18 "cpy313.fnmatch" 554 124) ::
  (nat_lit 131, codeObj "sorted_list_difference" 590 591 592 128 2 126 127 (.ref 128) (.ref 129) 130 601 602) ::
  (nat_lit 132, fnObj 20 "cpy313.unittest.util" 588 131) ::
  (nat_lit 136, codeObj "_law_signs" 606 607 608 161 1 133 134 .none .none 135 609 610) ::
  (nat_lit 137, fnObj 22 "law_in0163_01" 604 136) ::
  (nat_lit 143, codeObj "_law_item" 612 613 614 163 2 138 139 (.ref 140) (.ref 141) 142 619 620) ::
  (nat_lit 144, fnObj 23 "law_in0163_01" 604 143) ::
  (nat_lit 150, codeObj "_law_turned" 622 623 624 171 2 145 146 (.ref 147) (.ref 148) 149 632 633) ::
  (nat_lit 151, fnObj 24 "law_in0163_01" 604 150) ::
  (nat_lit 155, codeObj "_law_names" 635 636 637 179 0 152 153 .none .none 154 638 639) ::
  (nat_lit 156, fnObj 25 "law_in0163_01" 604 155) ::
  (nat_lit 160, codeObj "_law_piece" 641 642 643 184 1 157 158 .none .none 159 644 645) ::
  (nat_lit 161, fnObj 26 "law_in0163_01" 604 160) ::
  (nat_lit 167, codeObj "_law_groups" 647 648 649 193 1 162 163 (.ref 164) (.ref 165) 166 655 656) ::
  (nat_lit 168, fnObj 27 "law_in0163_01" 604 167) ::
  (nat_lit 174, codeObj "_law_takes" 658 659 660 206 2 169 170 (.ref 171) (.ref 172) 173 665 666) ::
  (nat_lit 175, fnObj 28 "law_in0163_01" 604 174) ::
  (nat_lit 179, codeObj "_law_taken" 668 669 670 212 2 176 177 .none .none 178 671 672) ::
  (nat_lit 180, fnObj 29 "law_in0163_01" 604 179) ::
  (nat_lit 186, codeObj "_law_from_behind" 674 675 676 217 2 181 182 (.ref 183) (.ref 184) 185 681 682) ::
  (nat_lit 187, fnObj 30 "law_in0163_01" 604 186) ::
  (nat_lit 191, codeObj "_law_due" 684 685 686 223 2 188 189 .none .none 190 687 688) ::
  (nat_lit 192, fnObj 31 "law_in0163_01" 604 191) ::
  (nat_lit 198, codeObj "_law_ways" 690 691 692 226 1 193 194 (.ref 195) (.ref 196) 197 698 699) ::
  (nat_lit 199, fnObj 32 "law_in0163_01" 604 198) ::
  (nat_lit 203, codeObj "law" 701 702 703 234 1 200 201 .none .none 202 704 705) ::
  (nat_lit 204, fnObj 33 "law_in0163_01" 604 203) :: []
noncomputable def KAs : List Addr := nat_lit 3 :: nat_lit 37 :: nat_lit 38 :: nat_lit 44 :: nat_lit 45 :: nat_lit 51 :: nat_lit 52 :: nat_lit 58 :: nat_lit 59 :: nat_lit 65 :: nat_lit 66 :: nat_lit 72 :: nat_lit 73 :: nat_lit 79 :: nat_lit 80 :: nat_lit 86 :: nat_lit 87 :: nat_lit 91 :: nat_lit 92 :: nat_lit 98 :: nat_lit 99 :: nat_lit 101 :: nat_lit 110 :: nat_lit 111 :: nat_lit 117 :: nat_lit 118 :: nat_lit 124 :: nat_lit 125 :: nat_lit 131 :: nat_lit 132 :: nat_lit 136 :: nat_lit 137 :: nat_lit 143 :: nat_lit 144 :: nat_lit 150 :: nat_lit 151 :: nat_lit 155 :: nat_lit 156 :: nat_lit 160 :: nat_lit 161 :: nat_lit 167 :: nat_lit 168 :: nat_lit 174 :: nat_lit 175 :: nat_lit 179 :: nat_lit 180 :: nat_lit 186 :: nat_lit 187 :: nat_lit 191 :: nat_lit 192 :: nat_lit 198 :: nat_lit 199 :: nat_lit 203 :: nat_lit 204 :: []
section Walking
local macro_rules | `(tactic| walk_at $s:str) => `(tactic| k_extra $s)
local macro_rules | `(tactic| k_all) => `(tactic| k_extra "all")
local macro_rules | `(tactic| k_ne) => `(tactic| k_extra "ne")
local macro_rules | `(tactic| ktr_units) => `(tactic| k_extra "room")
local macro_rules | `(tactic| ktr_room) => `(tactic| k_extra "room")
local macro_rules | `(tactic| omega) => `(tactic| k_extra "om")
local macro_rules | `(tactic| leave1) => `(tactic| k_extra "leave")
theorem om_le {a k n : Nat} (h : a ≤ k) (q : Nat.ble k n = true) : a ≤ n := Nat.le_trans h (Nat.le_of_ble_eq_true q)
theorem om_lt_le {a k n : Nat} (h : a < k) (q : Nat.ble k n = true) : a ≤ n := Nat.le_trans (Nat.le_of_lt h) (Nat.le_of_ble_eq_true q)
theorem om_eq_le {a b k n : Nat} (e : a = b) (h : b ≤ k) (q : Nat.ble k n = true) : a ≤ n := e ▸ om_le h q
theorem om_eq_le' {a b k n : Nat} (e : b = a) (h : b ≤ k) (q : Nat.ble k n = true) : a ≤ n := e ▸ om_le h q
theorem om_s2 {a k i j n : Nat} (h : a + k < n) (q : Nat.ble (i + j) k = true) : a + i + j < n :=
  Nat.lt_of_le_of_lt (by rw [Nat.add_assoc]; exact Nat.add_le_add_left (Nat.le_of_ble_eq_true q) a) h
theorem om_s1 {a k i n : Nat} (h : a + k < n) (q : Nat.ble i k = true) : a + i < n := Nat.lt_of_le_of_lt (Nat.add_le_add_left (Nat.le_of_ble_eq_true q) a) h
theorem om_s0 {a k n : Nat} (h : a + k < n) : a < n := Nat.lt_of_le_of_lt (Nat.le_add_right a k) h
theorem om_succ {a n : Nat} (h : a ≤ n) (q : ¬ a = n) : a + 1 ≤ n := Nat.lt_of_le_of_ne h q
theorem om_n1 {a b : Nat} {Q : Prop} (h : b < a ∧ Q) : a ≠ b := Nat.ne_of_gt h.1
theorem om_n2 {a b : Nat} {P Q : Prop} (h : P ∧ b < a ∧ Q) : a ≠ b := Nat.ne_of_gt h.2.1
theorem om_n3 {a b : Nat} {P R Q : Prop} (h : P ∧ R ∧ b < a ∧ Q) : a ≠ b := Nat.ne_of_gt h.2.2.1
theorem om_n4 {a b : Nat} {P R S Q : Prop} (h : P ∧ R ∧ S ∧ b < a ∧ Q) : a ≠ b := Nat.ne_of_gt h.2.2.2.1
theorem om_n5 {a b : Nat} {P R S T Q : Prop} (h : P ∧ R ∧ S ∧ T ∧ b < a ∧ Q) : a ≠ b := Nat.ne_of_gt h.2.2.2.2.1
theorem om_z2 {a b : Nat} {P : Prop} (h : P ∧ b < a) : a ≠ b := Nat.ne_of_gt h.2
theorem om_z3 {a b : Nat} {P R : Prop} (h : P ∧ R ∧ b < a) : a ≠ b := Nat.ne_of_gt h.2.2
theorem om_z4 {a b : Nat} {P R S : Prop} (h : P ∧ R ∧ S ∧ b < a) : a ≠ b := Nat.ne_of_gt h.2.2.2
theorem om_z5 {a b : Nat} {P R S T : Prop} (h : P ∧ R ∧ S ∧ T ∧ b < a) : a ≠ b := Nat.ne_of_gt h.2.2.2.2
theorem om_z6 {a b : Nat} {P R S T U : Prop} (h : P ∧ R ∧ S ∧ T ∧ U ∧ b < a) : a ≠ b := Nat.ne_of_gt h.2.2.2.2.2
theorem om_z7 {a b : Nat} {P R S T U V : Prop} (h : P ∧ R ∧ S ∧ T ∧ U ∧ V ∧ b < a) : a ≠ b := Nat.ne_of_gt h.2.2.2.2.2.2
theorem om_sy {a b : Nat} (h : b ≠ a) : a ≠ b := Ne.symm h
theorem om_e1 {a b : Nat} {Q : Prop} (h : b ≠ a ∧ Q) : a ≠ b := h.1.symm
theorem om_e2 {a b : Nat} {P Q : Prop} (h : P ∧ b ≠ a ∧ Q) : a ≠ b := h.2.1.symm
theorem om_e3 {a b : Nat} {P Q : Prop} (h : P ∧ Q ∧ b ≠ a) : a ≠ b := h.2.2.symm
theorem om_rg {x : Int} {k n : Int} (h : 0 ≤ x ∧ x ≤ k) (q : decide (k ≤ n) = true) : 0 ≤ x ∧ x ≤ n := ⟨h.1, Int.le_trans h.2 (of_decide_eq_true q)⟩
theorem om_r1 {x : Int} {k n l : Int} (h : l ≤ x ∧ x ≤ k) (q : decide (0 ≤ l ∧ k ≤ n) = true) : 0 ≤ x ∧ x ≤ n := ⟨Int.le_trans (of_decide_eq_true q).1 h.1, Int.le_trans h.2 (of_decide_eq_true q).2⟩
theorem om_lo {n : Nat} : -2 ^ 63 ≤ (n : Int) := by omega
theorem om_lo1 {n : Nat} : -2 ^ 63 ≤ (n : Int) + 1 := by omega
theorem om_hi {n k : Nat} (h : n ≤ k) (q : Nat.ble k 1000000 = true) : (n : Int) < 2 ^ 63 := by have := Nat.le_of_ble_eq_true q; omega
theorem om_hi1 {n k : Nat} (h : n ≤ k) (q : Nat.ble k 1000000 = true) : (n : Int) + 1 < 2 ^ 63 := by have := Nat.le_of_ble_eq_true q; omega
theorem om_ehi {n m k : Nat} (e : n = m) (h : m ≤ k) (q : Nat.ble k 1000000 = true) : (n : Int) < 2 ^ 63 := e ▸ om_hi h q
theorem om_ehi1 {n m k : Nat} (e : n + 1 = m) (h : m ≤ k) (q : Nat.ble k 1000000 = true) : (n : Int) + 1 < 2 ^ 63 := by have := Nat.le_of_ble_eq_true q; omega
theorem om_lhi {n m k : Nat} (e : n < m) (h : m ≤ k) (q : Nat.ble k 1000000 = true) : (n : Int) < 2 ^ 63 := om_hi (Nat.le_trans (Nat.le_of_lt e) h) q
theorem om_lhi1 {n m k : Nat} (e : n < m) (h : m ≤ k) (q : Nat.ble k 1000000 = true) : (n : Int) + 1 < 2 ^ 63 := by have := Nat.le_of_ble_eq_true q; omega
theorem om_pos {n : Nat} : (0 : Int) ≤ (n : Int) := Int.natCast_nonneg n
theorem om_pos1 {n : Nat} : (0 : Int) ≤ (n : Int) + 1 := by omega
set_option Elab.async false
set_option maxRecDepth 100000
set_option maxHeartbeats 8000000
inductive Al {α β : Type} (R : α → β → Prop) : List α → List β → Prop
  | nil : Al R [] []
  | cons {x : α} {y : β} {xs : List α} {ys : List β} : R x y → Al R xs ys → Al R (x :: xs) (y :: ys)
theorem Al.snoc {α β : Type} {R : α → β → Prop} {xs : List α} {ys : List β} {x : α} {y : β} (h : Al R xs ys) (r : R x y) : Al R (xs ++ [x]) (ys ++ [y]) := by
  induction h with
  | nil => exact .cons r .nil
  | cons a _ ih => exact .cons a ih
theorem Al.len {α β : Type} {R : α → β → Prop} {xs : List α} {ys : List β} (h : Al R xs ys) : ys.length = xs.length := by
  induction h with
  | nil => rfl
  | cons _ _ ih => simp [ih]
theorem range_snoc (p : Nat → Bool) (i : Nat) : (List.range (i + 1)).filter p = (List.range i).filter p ++ (if p i = true then [i] else []) := by
  rw [List.range_succ, List.filter_append]
  cases h : p i <;> simp [h]
section
variable {prog : Program} {w : World} {A : Around} {h₀ : Heap} {L : Addr} {m : Str → Option Value} {env : Env} {ct elt : Expr} {x : Str} {scope : Scope} {cl : List (Str × Addr)} {s : Shared} {S : List (Addr × Obj) → Prop} {P : Nat → Value → Prop} {Fin : List Value → List (Addr × Obj) → Prop} {news : List (Addr × Obj)}
theorem compT_all {n : Nat} (test : Nat → Bool) (elm : Nat → Value → Prop)
    (turn : ∀ i v I oI C oC D m₂ ys h tk (E' : Value → Shared → Prop), i < n → P i v → LCg.NsObj oC m₂ → m₂ x = some v → Fr h₀ L h m → News h₀ L h ((I, oI) :: (C, oC) :: (D, LCg.lst ys) :: news) → LCg.Off3 I C D news → ((@Ne Nat I C) ∧ (@Ne Nat I D) ∧ (@Ne Nat C D)) →
      wpAny (model prog w) A (isTrue ct (compEnvC scope cl C env) (eval ct (compEnvC scope cl C env))) (fun ok s' => if ok = true then
        wpAny (model prog w) A (eval elt (compEnvC scope cl C env)) (LCg.CompEnd h₀ L m { s with heap := h, toks := tk } I oI C oC D (LCg.lst ys) S (fun y news' => news' = news ∧ test i = true ∧ elm i y)) E' s'
        else LCg.CompEnd h₀ L m { s with heap := h, toks := tk } I oI C oC D (LCg.lst ys) S (fun _ news' => news' = news ∧ test i = false) Value.none s') E' { s with heap := h, toks := tk })
    (fin : ∀ ys, Al elm ((List.range n).filter test) ys → Fin ys news) : LCt.CompRestT prog w A h₀ L m env ct elt x scope cl s S P Fin n 0 [] news := by
  have key : ∀ (j i : Nat) (ys : List Value), i + j = n → Al elm ((List.range i).filter test) ys → LCt.CompRestT prog w A h₀ L m env ct elt x scope cl s S P Fin j i ys news := by
    intro j
    induction j with
    | zero =>
      intro i ys hi hy
      have e : i = n := by omega
      subst e
      exact LCt.CompRestT.zero (fin ys hy)
    | succ j ih =>
      intro i ys hi hy
      refine LCt.CompRestT.succ ?_
      intro v I oI C oC D m₂ h tk E' hv hC hx F N off ne
      refine wpAny_mono (turn i v I oI C oC D m₂ ys h tk E' (by omega) hv hC hx F N off ne) (fun ok s' hq => ?_) fun _ _ e => e
      cases ok with
      | true =>
        simp only [if_true] at hq ⊢
        refine wpAny_mono hq (fun y s₂ hr => ?_) fun _ _ e => e
        obtain ⟨h', tk', nw, e, F', N', off', hS, hn, ht, he⟩ := hr
        subst hn
        exact ⟨h', tk', nw, e, F', N', off', hS, ih (i + 1) _ (by omega) (by rw [range_snoc, if_pos ht]; exact hy.snoc he)⟩
      | false =>
        simp only [Bool.false_eq_true, if_false] at hq ⊢
        obtain ⟨h', tk', nw, e, F', N', off', hS, hn, ht⟩ := hq
        subst hn
        exact ⟨h', tk', nw, e, F', N', off', hS, ih (i + 1) _ (by omega) (by rw [range_snoc, if_neg (by rw [ht]; exact Bool.false_ne_true), List.append_nil]; exact hy)⟩
  exact key n 0 [] (by omega) .nil
theorem comp_all {n : Nat} (elm : Nat → Value → Prop)
    (turn : ∀ i v I oI C oC D m₂ ys h tk (E' : Value → Shared → Prop), i < n → P i v → LCg.NsObj oC m₂ → m₂ x = some v → Fr h₀ L h m → News h₀ L h ((I, oI) :: (C, oC) :: (D, LCg.lst ys) :: news) → LCg.Off3 I C D news → ((@Ne Nat I C) ∧ (@Ne Nat I D) ∧ (@Ne Nat C D)) →
      wpAny (model prog w) A (eval elt (compEnvC scope cl C env)) (LCg.CompEnd h₀ L m { s with heap := h, toks := tk } I oI C oC D (LCg.lst ys) S (fun y news' => news' = news ∧ elm i y)) E' { s with heap := h, toks := tk })
    (fin : ∀ ys, Al elm (List.range n) ys → Fin ys news) : LCg.CompRest prog w A h₀ L m env elt x scope cl s S P Fin n 0 [] news := by
  have key : ∀ (j i : Nat) (ys : List Value), i + j = n → Al elm (List.range i) ys → LCg.CompRest prog w A h₀ L m env elt x scope cl s S P Fin j i ys news := by
    intro j
    induction j with
    | zero =>
      intro i ys hi hy
      have e : i = n := by omega
      subst e
      exact LCg.CompRest.zero (fin ys hy)
    | succ j ih =>
      intro i ys hi hy
      refine LCg.CompRest.succ ?_
      intro v I oI C oC D m₂ h tk E' hv hC hx F N off ne
      refine wpAny_mono (turn i v I oI C oC D m₂ ys h tk E' (by omega) hv hC hx F N off ne) (fun y s₂ hr => ?_) fun _ _ e => e
      obtain ⟨h', tk', nw, e, F', N', off', hS, hn, he⟩ := hr
      subst hn
      exact ⟨h', tk', nw, e, F', N', off', hS, ih (i + 1) _ (by omega) (by rw [List.range_succ]; exact hy.snoc he)⟩
  exact key n 0 [] (by omega) .nil
end
theorem strs_of {g : Nat → Str} {is : List Nat} {ys : List Value} (h : Al (fun i y => ∃ t, y = Value.str (g i) t) is ys) : StrsAre ys (is.map g) := by
  induction h with
  | nil => exact .nil
  | cons r _ ih => obtain ⟨t, rfl⟩ := r; exact .cons _ t ih
theorem isl {h₀ h : Heap} {L D : Addr} {news : List (Addr × Obj)} {its : Array Value} {n : Nat} (N : News h₀ L h news) (hm : (D, ({ cls := .type "list", data := .seq its n } : Obj)) ∈ news) : h.IsList D its := ⟨_, (N _ hm).1, rfl, n, rfl⟩
@[irreducible] noncomputable def sgT (mask : Int) (i : Nat) : Bool := decide (Builtin.bitAnd mask (1 * 2 ^ (0 + (i : Int)).toNat) ≠ 0)
@[irreducible] noncomputable def sgI (i : Nat) : Str := Txt.item (Str.ofString "abc") (0 + (i : Int))
@[irreducible] noncomputable def sgL (mask : Int) : List Str := ((List.range 3).filter (sgT mask)).map sgI
@[irreducible] noncomputable def sgF (mask : Int) : Str := Txt.join (Str.ofString "") (sgL mask)
theorem sg_len {mask : Int} (h : 0 ≤ mask ∧ mask ≤ 7) : ((sgL mask).map (·.length)).sum + (sgL mask).length * (Str.ofString "").length ≤ 16777216 := by
  have q : mask = 0 ∨ mask = 1 ∨ mask = 2 ∨ mask = 3 ∨ mask = 4 ∨ mask = 5 ∨ mask = 6 ∨ mask = 7 := by omega
  rcases q with rfl | rfl | rfl | rfl | rfl | rfl | rfl | rfl <;> decide +kernel
theorem sg_le {mask : Int} (h : 0 ≤ mask ∧ mask ≤ 7) : (sgF mask).length ≤ 3 := by
  have q : mask = 0 ∨ mask = 1 ∨ mask = 2 ∨ mask = 3 ∨ mask = 4 ∨ mask = 5 ∨ mask = 6 ∨ mask = 7 := by omega
  rcases q with rfl | rfl | rfl | rfl | rfl | rfl | rfl | rfl <;> decide +kernel
@[irreducible] noncomputable def itF (mask kind : Int) : Str :=
  if kind = 1 then (if (sgF (7 - mask) == Str.ofString "") = true then Str.ofString "[a-c]" else Str.ofString "[!" ++ sgF (7 - mask) ++ Str.ofString "]")
  else if (sgF mask == Str.ofString "abc") = true then Str.ofString "?" else if ((sgF mask).length : Int) = 1 then sgF mask else Str.ofString "[" ++ sgF mask ++ Str.ofString "]"
theorem it1 {mask kind : Int} (h : kind = 1) (e : (sgF (7 - mask) == Str.ofString "") = true) : Str.ofString "[a-c]" = itF mask kind := by unfold itF; rw [if_pos h, if_pos e]
theorem it2 {mask kind : Int} (h : kind = 1) (e : (sgF (7 - mask) == Str.ofString "") = false) : Str.ofString "[!" ++ sgF (7 - mask) ++ Str.ofString "]" = itF mask kind := by unfold itF; rw [if_pos h, if_neg (by rw [e]; exact Bool.false_ne_true)]
theorem it3 {mask kind : Int} (h : kind ≠ 1) (e : (sgF mask == Str.ofString "abc") = true) : Str.ofString "?" = itF mask kind := by unfold itF; rw [if_neg h, if_pos e]
theorem it4 {mask kind : Int} (h : kind ≠ 1) (e : (sgF mask == Str.ofString "abc") = false) (q : ((sgF mask).length : Int) = 1) : sgF mask = itF mask kind := by unfold itF; rw [if_neg h, if_neg (by rw [e]; exact Bool.false_ne_true), if_pos q]
theorem it5 {mask kind : Int} (h : kind ≠ 1) (e : (sgF mask == Str.ofString "abc") = false) (q : ((sgF mask).length : Int) ≠ 1) : Str.ofString "[" ++ sgF mask ++ Str.ofString "]" = itF mask kind := by unfold itF; rw [if_neg h, if_neg (by rw [e]; exact Bool.false_ne_true), if_neg q]
section
variable {prog : Program} {w : World} {A : Around} {E : Value → Shared → Prop} {s : Shared} {Q : Value → Shared → Prop} {h₀ : Heap} {L r : Addr} {news : List (Addr × Obj)} {its : Array Value} {nn : Nat}
theorem len_l (N : News h₀ L s.heap news) (hm : (r, ({ cls := .type "list", data := .seq its nn } : Obj)) ∈ news) {k : Nat} (e : its.size = k) (hf : k ≤ 1000000) (h : ∀ t tk, Q (.int k t) { s with toks := tk }) : wpAny (model prog w) A (call (.builtin "len") [.ref r]) Q E s := by
  subst e
  exact call_len_list (isl N hm) (by omega) (h _ _)
theorem item_ls {value slice : Expr} {l : List Value} {ys : List Str} {k : Int} {u : Tok} (N : News h₀ L s.heap news) (hm : (r, ({ cls := .type "list", data := .seq l.toArray nn } : Obj)) ∈ news) (hi : StrsAre l ys) (h0 : 0 ≤ k) (h1 : k < ys.length) (hf : ys.length ≤ 1000000)
    (h : ∀ t', Q (.str (ys.getD k.toNat Str.empty) t') s) (hs : subscripted slice false (.ref r) (.int k u) = operate [.ref r, .int k u] (getItem (.ref r) (.int k u)) := by with_unfolding_all rfl) (hg : ∀ x, letTemporaryGo value (.ref r) x = pure () := by intro _; with_unfolding_all rfl) :
    wpAny (model prog w) A (subscriptTail value slice (.ref r) (.int k u)) Q E s := item_strsA (isl N hm) hi h0 h1 (by omega) h hs hg
end
@[irreducible] noncomputable def tkS (rs : List Str) (d c : Int) : Int := if d < (rs.length : Int) then (if (Builtin.Str.occurrences (rs.getD d.toNat Str.empty) ⟨#[c.toNat]⟩ 0 (rs.getD d.toNat Str.empty).length 1).isEmpty = true then d else d + 1) else d
@[irreducible] noncomputable def tkN (rs : List Str) (pre : List Int) : Int := pre.foldl (tkS rs) 0
theorem tk0 {rs : List Str} : (0 : Int) = tkN rs [] ∧ (0 : Int) ≤ 0 ∧ (0 : Int) ≤ rs.length := ⟨by unfold tkN; rfl, by omega, by omega⟩
theorem tk1 {rs : List Str} {pre : List Int} {d : Int} {c : Nat} (e : d = tkN rs pre) (h0 : 0 ≤ d) (h1 : d < (rs.length : Int)) (o : (Builtin.Str.occurrences (rs.getD d.toNat Str.empty) ⟨#[c]⟩ 0 (rs.getD d.toNat Str.empty).length 1).isEmpty = false) :
    d + 1 = tkN rs (pre ++ [(c : Int)]) ∧ 0 ≤ d + 1 ∧ d + 1 ≤ (rs.length : Int) := by
  refine ⟨?_, by omega, by omega⟩
  unfold tkN at e ⊢
  rw [List.foldl_append, ← e]
  show _ = tkS rs d c
  unfold tkS
  rw [if_pos h1, Int.toNat_natCast, if_neg (by rw [o]; exact Bool.false_ne_true)]
theorem tk2 {rs : List Str} {pre : List Int} {d : Int} {c : Nat} (e : d = tkN rs pre) (h0 : 0 ≤ d) (h1 : d < (rs.length : Int)) (o : (Builtin.Str.occurrences (rs.getD d.toNat Str.empty) ⟨#[c]⟩ 0 (rs.getD d.toNat Str.empty).length 1).isEmpty = true) :
    d = tkN rs (pre ++ [(c : Int)]) ∧ 0 ≤ d ∧ d ≤ (rs.length : Int) := by
  refine ⟨?_, by omega, by omega⟩
  unfold tkN at e ⊢
  rw [List.foldl_append, ← e]
  show _ = tkS rs d c
  unfold tkS
  rw [if_pos h1, Int.toNat_natCast, if_pos o]
theorem tk3 {rs : List Str} {pre : List Int} {d : Int} {c : Nat} (e : d = tkN rs pre) (h0 : 0 ≤ d) (h2 : d ≤ (rs.length : Int)) (h1 : ¬ d < (rs.length : Int)) :
    d = tkN rs (pre ++ [(c : Int)]) ∧ 0 ≤ d ∧ d ≤ (rs.length : Int) := by
  refine ⟨?_, by omega, by omega⟩
  unfold tkN at e ⊢
  rw [List.foldl_append, ← e]
  show _ = tkS rs d c
  unfold tkS
  rw [if_neg h1]
@[irreducible] noncomputable def tkF (rs : List Str) (nm : Str) : Bool := tkN rs (KStt.codes nm) == (rs.length : Int)
theorem shaped_strs (ss : List Str) (ho : ss.all PyData.strOk = true) : SeqAt.shaped (.list (ss.map PyData.str)) = true := by
  have h1 : ∀ ss : List Str, ss.all PyData.strOk = true → PyData.canLayAll0 (ss.map PyData.str) = true := fun ss => by
    induction ss with
    | nil => intro _; rfl
    | cons x r ih => intro h; rw [List.all_cons, Bool.and_eq_true] at h; simp [PyData.canLayAll0, PyData.canLay0, ih h.2, h.1]
  have h2 : ∀ ss : List Str, PyData.depthAll (ss.map PyData.str) = 0 := fun ss => by
    induction ss with
    | nil => rfl
    | cons _ r ih => simp [PyData.depthAll, PyData.depth, ih]
  simp [SeqAt.shaped, PyData.canLay0, PyData.depth, h1 ss ho, h2]
theorem same_strs (ss ts : List Str) : PySem.Spec.same (.list (ss.map PyData.str)) (.list (ts.map PyData.str)) = decide (ss = ts) := by
  simp only [PySem.Spec.same]
  induction ss generalizing ts with
  | nil => cases ts <;> simp [PySem.Spec.sameAll]
  | cons a r ih =>
    cases ts with
    | nil => simp [PySem.Spec.sameAll]
    | cons b t =>
      simp only [List.map_cons, PySem.Spec.sameAll, PySem.Spec.same, ih t]
      by_cases h : a = b <;> by_cases h' : r = t <;> simp [h, h']
section
variable {prog : Program} {w : World} {A : Around} {E : Value → Shared → Prop} {s : Shared} {a b : Addr} {xs ys : List Value} {ss ts : List Str} {Q : Value → Shared → Prop}
theorem ne_strs (ha : s.heap.IsList a xs.toArray) (hb : s.heap.IsList b ys.toArray) (hi : StrsAre xs ss) (hj : StrsAre ys ts) (oi : ss.all PyData.strOk = true) (oj : ts.all PyData.strOk = true) (hu : A.units + 64 < cLine) (h : Q (.bool (!decide (ss = ts))) s) :
    wpAny (model prog w) A (compareOp .NotEq (.ref a) (.ref b)) Q E s :=
  ne_dataH_same (reads_newData ha hi.carried) (reads_newData hb hj.carried) (shaped_strs _ oi) (shaped_strs _ oj) hu (SeqAt.noMix_of_shape (.list .str) rfl _ _ (list_map_has fun _ => rfl) (list_map_has fun _ => rfl)) (by rw [same_strs]; exact h)
theorem eq_strs (ha : s.heap.IsList a xs.toArray) (hb : s.heap.IsList b ys.toArray) (hi : StrsAre xs ss) (hj : StrsAre ys ts) (oi : ss.all PyData.strOk = true) (oj : ts.all PyData.strOk = true) (hu : A.units + 64 < cLine) (h : Q (.bool (decide (ss = ts))) s) :
    wpAny (model prog w) A (compareOp .Eq (.ref a) (.ref b)) Q E s :=
  eq_dataH_same (reads_newData ha hi.carried) (reads_newData hb hj.carried) (shaped_strs _ oi) (shaped_strs _ oj) hu (SeqAt.noMix_of_shape (.list .str) rfl _ _ (list_map_has fun _ => rfl) (list_map_has fun _ => rfl)) (by rw [same_strs]; exact h)
end
theorem strs_back {vs : List Value} {ss : List Str} (h : StrsAre vs ss) (hne : ss ≠ []) : ∃ us t, vs = us ++ [.str (ss.getLastD Str.empty) t] ∧ StrsAre us ss.dropLast := by
  induction h with
  | nil => exact absurd rfl hne
  | @cons x t vs r hr ih =>
    cases r with
    | nil => cases hr; exact ⟨[], _, rfl, .nil⟩
    | cons y r =>
      obtain ⟨us, t', e, hu⟩ := ih (by simp)
      refine ⟨.str x t :: us, t', ?_, .cons x t hu⟩
      rw [e]
      rfl
section
variable {prog : Program} {w : World} {A : Around} {E : Value → Shared → Prop} {s : Shared} {Q : Value → Shared → Prop} {h₀ : Heap} {L D : Addr} {m : Str → Option Value} {news news' : List (Addr × Obj)} {vs : List Value} {ss : List Str} {nn : Nat}
theorem last_ls {value slice : Expr} {u : Tok} (N : News h₀ L s.heap news) (hm : (D, ({ cls := .type "list", data := .seq vs.toArray nn } : Obj)) ∈ news) (hi : StrsAre vs ss) (hne : ss ≠ [])
    (h : ∀ t', Q (.str (ss.getLastD Str.empty) t') s) (hs : subscripted slice false (.ref D) (.int (-1) u) = operate [.ref D, .int (-1) u] (getItem (.ref D) (.int (-1) u)) := by with_unfolding_all rfl) (hg : ∀ x, letTemporaryGo value (.ref D) x = pure () := by intro _; with_unfolding_all rfl) :
    wpAny (model prog w) A (subscriptTail value slice (.ref D) (.int (-1) u)) Q E s := by
  obtain ⟨us, t, e, _⟩ := strs_back hi hne
  subst e
  refine kim_back N hm rfl rfl (by omega) (by simp; omega) (by omega) ?_ (h t) hs hg
  have e : (-1 + ((us ++ [Value.str (ss.getLastD Str.empty) t]).length : Int)).toNat = us.length := by simp; omega
  rw [e]
  simp
theorem pop_ls {f : Obj → List (Addr × Obj)} (F : Fr h₀ L s.heap m) (N : News h₀ L s.heap news) (hi : StrsAre vs ss) (hne : ss ≠ []) (U : ∀ o, Upd D (listOf vs.toArray nn) o news (f o)) (hl : ss.length ≤ 1000000)
    (h : ∀ h' t us, StrsAre us ss.dropLast → Fr h₀ L h' m → News h₀ L h' (f (listOf us.toArray (nn + 1))) → Q (.str (ss.getLastD Str.empty) t) { s with heap := h' }) : wpAny (model prog w) A (call (.builtin "list.pop") [.ref D]) Q E s := by
  have hl' : vs.length = ss.length := hi.length
  obtain ⟨us, t, e, hu⟩ := strs_back hi hne
  subst e
  exact kl_pop F N (by rw [List.toList_toArray]; exact kpa_last _ _) (U _) (by rw [List.toList_toArray, sizeLine_eq]; omega) fun h' F' N' => h h' t us hu F' N'
end
@[irreducible] noncomputable def bhS (left : List Str) (c : Int) : List Str := if left = [] then left else if (Builtin.Str.occurrences (left.getLastD Str.empty) ⟨#[c.toNat]⟩ 0 (left.getLastD Str.empty).length 1).isEmpty = true then left else left.dropLast
@[irreducible] noncomputable def bhN (rs : List Str) (pre : List Int) : List Str := pre.foldl bhS rs
@[irreducible] noncomputable def bhF (rs : List Str) (nm : Str) : Bool := decide (bhN rs (KStt.codes (Txt.sliceBy nm none none (-1, 0))) = [])
theorem slice_tok (x : Str) (t u : Tok) : Txt.sliceBy x none none (-1, t) = Txt.sliceBy x none none (-1, u) := rfl
theorem ok_drop {l : List Str} (h : l.all PyData.strOk = true) : l.dropLast.all PyData.strOk = true := by
  rw [List.all_eq_true] at h ⊢
  exact fun x hx => h x (List.dropLast_sublist l |>.subset hx)
theorem bh0 {rs : List Str} (ho : rs.all PyData.strOk = true) : rs = bhN rs [] ∧ rs.all PyData.strOk = true ∧ rs.length ≤ rs.length := ⟨by unfold bhN; rfl, ho, Nat.le_refl _⟩
theorem bh1 {rs l : List Str} {pre : List Int} {c : Nat} (i : l = bhN rs pre ∧ l.all PyData.strOk = true ∧ l.length ≤ rs.length) (e : (decide (l = [])) = true) : l = bhN rs (pre ++ [(c : Int)]) ∧ l.all PyData.strOk = true ∧ l.length ≤ rs.length := by
  obtain ⟨h, ho, hl⟩ := i
  refine ⟨?_, ho, hl⟩
  unfold bhN at h ⊢
  rw [List.foldl_append, ← h]
  show _ = bhS l c
  unfold bhS
  rw [if_pos (of_decide_eq_true e)]
theorem bh2 {rs l : List Str} {pre : List Int} {c : Nat} (i : l = bhN rs pre ∧ l.all PyData.strOk = true ∧ l.length ≤ rs.length) (e : (decide (l = [])) = false) (o : (Builtin.Str.occurrences (l.getLastD Str.empty) ⟨#[c]⟩ 0 (l.getLastD Str.empty).length 1).isEmpty = true) : l = bhN rs (pre ++ [(c : Int)]) ∧ l.all PyData.strOk = true ∧ l.length ≤ rs.length := by
  obtain ⟨h, ho, hl⟩ := i
  refine ⟨?_, ho, hl⟩
  unfold bhN at h ⊢
  rw [List.foldl_append, ← h]
  show _ = bhS l c
  unfold bhS
  rw [if_neg (of_decide_eq_false e), Int.toNat_natCast, if_pos o]
theorem bh3 {rs l : List Str} {pre : List Int} {c : Nat} (i : l = bhN rs pre ∧ l.all PyData.strOk = true ∧ l.length ≤ rs.length) (e : (decide (l = [])) = false) (o : (Builtin.Str.occurrences (l.getLastD Str.empty) ⟨#[c]⟩ 0 (l.getLastD Str.empty).length 1).isEmpty = false) : l.dropLast = bhN rs (pre ++ [(c : Int)]) ∧ l.dropLast.all PyData.strOk = true ∧ l.dropLast.length ≤ rs.length := by
  obtain ⟨h, ho, hl⟩ := i
  refine ⟨?_, ok_drop ho, by rw [List.length_dropLast]; omega⟩
  unfold bhN at h ⊢
  rw [List.foldl_append, ← h]
  show _ = bhS l c
  unfold bhS
  rw [if_neg (of_decide_eq_false e), Int.toNat_natCast, if_neg (by rw [o]; exact Bool.false_ne_true)]
noncomputable def Stg (news : List (Addr × Obj)) (vs : List Value) (ms : List (Int × Int)) : Prop := Al (fun v p => ∃ (t : Addr) (ot : Obj) (nt : Nat) (t1 t2 : Tok), v = .ref t ∧ (t, ot) ∈ news ∧ ot.cls = .type "tuple" ∧ ot.data = .seq #[.int p.1 t1, .int p.2 t2] nt) vs ms
theorem Al.get {α β : Type} {R : α → β → Prop} {xs : List α} {ys : List β} (h : Al R xs ys) : ∀ {i : Nat} {x : α}, xs[i]? = some x → ∃ y, ys[i]? = some y ∧ R x y := by
  induction h with
  | nil => intro i x h; simp at h
  | cons r _ ih =>
    intro i x h
    cases i with
    | zero => simp at h; subst h; exact ⟨_, rfl, r⟩
    | succ i => simpa using ih (by simpa using h)
theorem Al.mono {α β : Type} {R S : α → β → Prop} {xs : List α} {ys : List β} (h : Al R xs ys) (k : ∀ x y, R x y → S x y) : Al S xs ys := by
  induction h with
  | nil => exact .nil
  | cons r _ ih => exact .cons (k _ _ r) ih
theorem Stg.mono {a b : List (Addr × Obj)} {vs : List Value} {ms : List (Int × Int)} (h : Stg a vs ms) (k : ∀ p ∈ a, p ∈ b) : Stg b vs ms :=
  Al.mono h fun _ _ ⟨t, ot, nt, t1, t2, e, hm, r⟩ => ⟨t, ot, nt, t1, t2, e, k _ hm, r⟩
theorem getD_some {α : Type} {l : List α} {i : Nat} {x d : α} (h : l[i]? = some x) : l.getD i d = x := by simp [List.getD, h]
theorem range_getD {α : Type} (l : List α) (d : α) : (List.range l.length).map (fun i => l.getD i d) = l := by
  apply List.ext_getElem
  · simp
  · intro i h1 h2
    simp [List.getD, List.getElem?_eq_getElem h2]
theorem range_filter {α : Type} (l : List α) (d : α) (p : α → Bool) : ((List.range l.length).filter (fun i => p (l.getD i d))).map (fun i => l.getD i d) = l.filter p := by
  have h := congrArg (List.filter p) (range_getD l d)
  rw [List.filter_map] at h
  exact h
section
variable {prog : Program} {w : World} {A : Around} {h₀ : Heap} {L : Addr} {m : Str → Option Value} {env : Env} {ct elt : Expr} {x x₂ : Str} {scope : Scope} {cl : List (Str × Addr)} {s : Shared} {S : List (Addr × Obj) → Prop} {P : Nat → Value → Prop} {Fin : List Value → List (Addr × Obj) → Prop} {news : List (Addr × Obj)}
theorem compP_all {vs : List Value} {ms : List (Int × Int)} (hs : Stg news vs ms) (elm : Int × Int → Value → Prop) {n : Nat} (hn : n = ms.length)
    (turn : ∀ p t₁ t₂ I oI C oC D m₂ ys h tk (E' : Value → Shared → Prop), p ∈ ms → LCg.NsObj oC m₂ → m₂ x = some (.int p.1 t₁) → m₂ x₂ = some (.int p.2 t₂) → Fr h₀ L h m → News h₀ L h ((I, oI) :: (C, oC) :: (D, LCg.lst ys) :: news) → LCg.Off3 I C D news → ((@Ne Nat I C) ∧ (@Ne Nat I D) ∧ (@Ne Nat C D)) →
      wpAny (model prog w) A (eval elt (compEnvC scope cl C env)) (LCg.CompEnd h₀ L m { s with heap := h, toks := tk } I oI C oC D (LCg.lst ys) S (fun y news' => news' = news ∧ elm p y)) E' { s with heap := h, toks := tk })
    (fin : ∀ ys, Al (fun y p => elm p y) ys ms → Fin ys news) : LCp.CompRestP prog w A h₀ L m env elt x x₂ scope cl s S (fun i v => vs.toArray[i]? = some v) Fin n 0 [] news := by
  have key : ∀ (j i : Nat) (ys : List Value), i + j = n → Al (fun y p => elm p y) ys (ms.take i) → LCp.CompRestP prog w A h₀ L m env elt x x₂ scope cl s S (fun i v => vs.toArray[i]? = some v) Fin j i ys news := by
    intro j
    induction j with
    | zero =>
      intro i ys hi hy
      have e : ms.take i = ms := List.take_of_length_le (by omega)
      rw [e] at hy
      exact LCp.CompRestP.zero (fin ys hy)
    | succ j ih =>
      intro i ys hi hy
      refine LCp.CompRestP.succ ?_
      intro v hv
      obtain ⟨p, hp, t, ot, nt, t1, t2, e, hm, hc, hd⟩ := Al.get hs (i := i) (x := v) (by simpa using hv)
      refine ⟨t, ot, _, _, nt, e, hm, hc, hd, ?_⟩
      intro I oI C oC D m₂ h tk E' hC hx hx₂ F N off ne
      refine wpAny_mono (turn p t1 t2 I oI C oC D m₂ ys h tk E' (List.mem_of_getElem? hp) hC hx hx₂ F N off ne) (fun y s₂ hr => ?_) fun _ _ e => e
      obtain ⟨h', tk', nw, e, F', N', off', hS, hn, he⟩ := hr
      subst hn
      refine ⟨h', tk', nw, e, F', N', off', hS, ih (i + 1) _ (by omega) ?_⟩
      rw [List.take_add_one, hp]
      exact hy.snoc he
  exact key n 0 [] (by omega) .nil
theorem compT_strs {its : Array Value} {vs : List Value} {nms : List Str} (hi : its = vs.toArray) (hs : StrsAre vs nms) (p : Str → Bool) {n : Nat} (hn : n = nms.length)
    (turn : ∀ z t I oI C oC D m₂ ys h tk (E' : Value → Shared → Prop), z ∈ nms → LCg.NsObj oC m₂ → m₂ x = some (.str z t) → Fr h₀ L h m → News h₀ L h ((I, oI) :: (C, oC) :: (D, LCg.lst ys) :: news) → LCg.Off3 I C D news → ((@Ne Nat I C) ∧ (@Ne Nat I D) ∧ (@Ne Nat C D)) →
      wpAny (model prog w) A (isTrue ct (compEnvC scope cl C env) (eval ct (compEnvC scope cl C env))) (fun ok s' => if ok = true then
        wpAny (model prog w) A (eval elt (compEnvC scope cl C env)) (LCg.CompEnd h₀ L m { s with heap := h, toks := tk } I oI C oC D (LCg.lst ys) S (fun y news' => news' = news ∧ p z = true ∧ ∃ t, y = .str z t)) E' s'
        else LCg.CompEnd h₀ L m { s with heap := h, toks := tk } I oI C oC D (LCg.lst ys) S (fun _ news' => news' = news ∧ p z = false) Value.none s') E' { s with heap := h, toks := tk })
    (fin : ∀ ys, StrsAre ys (nms.filter p) → Fin ys news) : LCt.CompRestT prog w A h₀ L m env ct elt x scope cl s S (fun i v => its[i]? = some v) Fin n 0 [] news := by
  subst hi
  subst hn
  refine compT_all (fun i => p (nms.getD i Str.empty)) (fun i y => ∃ t, y = .str (nms.getD i Str.empty) t) ?_ ?_
  · intro i v I oI C oC D m₂ ys h tk E' hi hv hC hx F N off ne
    obtain ⟨z, t, rfl, hz⟩ := hs.item i v (by simpa using hv)
    rw [getD_some hz]
    exact turn z t I oI C oC D m₂ ys h tk E' (List.mem_of_getElem? hz) hC hx F N off ne
  · intro ys h
    have := strs_of h
    rw [range_filter] at this
    exact fin ys this
end
theorem strs_al {f : Int × Int → Str} {ys : List Value} {ms : List (Int × Int)} (h : Al (fun y p => ∃ t, y = Value.str (f p) t) ys ms) : StrsAre ys (ms.map f) := by
  induction h with
  | nil => exact .nil
  | cons r _ ih => obtain ⟨t, rfl⟩ := r; exact .cons _ t ih
theorem sg_ok {mask : Int} (h : 0 ≤ mask ∧ mask ≤ 7) : PyData.strOk (sgF mask) = true := by
  have q : mask = 0 ∨ mask = 1 ∨ mask = 2 ∨ mask = 3 ∨ mask = 4 ∨ mask = 5 ∨ mask = 6 ∨ mask = 7 := by omega
  rcases q with rfl | rfl | rfl | rfl | rfl | rfl | rfl | rfl <;> decide +kernel
noncomputable abbrev StgOk (ms : List (Int × Int)) : Prop := ∀ p ∈ ms, (1 ≤ p.1 ∧ p.1 ≤ 7) ∧ (0 ≤ p.2 ∧ p.2 ≤ 1)
theorem setsOk {ms : List (Int × Int)} (h : StgOk ms) : (ms.map fun p => sgF p.1).all PyData.strOk = true := by
  rw [List.all_eq_true]
  intro x hx
  obtain ⟨p, hp, rfl⟩ := List.mem_map.mp hx
  exact sg_ok (by have := h p hp; omega)
@[irreducible] noncomputable def wyS (ways : List Int) (size : Int) : List Int :=
  let f1 := size * ways.getD 0 0 + (3 - size) * 0
  let f2 := size * ways.getD 1 0 + (3 - size) * f1
  let f3 := size * ways.getD 2 0 + (3 - size) * f2
  [0, f1, f2, f3]
@[irreducible] noncomputable def wyF (ns : List Int) : List Int := ns.foldl wyS [1, 3, 9, 27]
theorem ints_cases {vs : List Value} {ns : List Int} (h : IntsAre vs ns) (hl : ns.length ≤ 3) : (vs = [] ∧ ns = []) ∨ (∃ a t, vs = [.int a t] ∧ ns = [a]) ∨ (∃ a t b u, vs = [.int a t, .int b u] ∧ ns = [a, b]) ∨ (∃ a t b u c v, vs = [.int a t, .int b u, .int c v] ∧ ns = [a, b, c]) := by
  cases h with
  | nil => exact .inl ⟨rfl, rfl⟩
  | cons a t h => cases h with
    | nil => exact .inr (.inl ⟨a, t, rfl, rfl⟩)
    | cons b u h => cases h with
      | nil => exact .inr (.inr (.inl ⟨a, t, b, u, rfl, rfl⟩))
      | cons c v h => cases h with
        | nil => exact .inr (.inr (.inr ⟨a, t, b, u, c, v, rfl, rfl⟩))
        | cons d w h => simp only [List.length_cons] at hl; omega
noncomputable def Kept (h₀ : Heap) (L : Addr) (g : Heap) (own news : List (Addr × Obj)) : Prop := ∀ p ∈ news, p ∈ own ∨ (g.get? p.1 = some p.2 ∧ p.1 ≠ L ∧ h₀.get? p.1 = none)
theorem kept_hide {h₀ h : Heap} {L : Addr} {own news : List (Addr × Obj)} (N : News h₀ L h news) (NO : News h₀ L h own) : Kept h₀ L (hideAll h (own.map (·.1))) own news := by
  intro p hp
  by_cases q : p.1 ∈ own.map (·.1)
  · obtain ⟨r, hr, e⟩ := List.mem_map.mp q
    have h1 := (N p hp).1
    have h2 := (NO r hr).1
    rw [e, h1] at h2
    have : r = p := Prod.ext e (Option.some.inj h2).symm
    exact .inl (this ▸ hr)
  · exact .inr ⟨hideAll_get _ (N p hp).1 q, (N p hp).2⟩
theorem Kept.back {h₀ g h' : Heap} {L L' : Addr} {m' : Str → Option Value} {own news own' : List (Addr × Obj)} (K : Kept h₀ L g own news) (F : Fr g L' h' m') (N : News h₀ L h' own') (hs : ∀ p ∈ own, p ∈ own') : News h₀ L h' news := fun p hp => by
  rcases K p hp with h | ⟨h1, h2⟩
  · exact N p (hs p h)
  · exact ⟨F.keep _ _ h1, h2⟩
section
variable {prog : Program} {w : World} {A₀ A : Around} {s : Shared} {base h₀ : Heap} {outer : List Env} {L : Addr} {m : Str → Option Value} {env : Env} {news own : List (Addr × Obj)} {K : Frag} {p : Program} {loose : List Str} {mean : ExcName → Option Value} {mg mb : Str → Option Value}
  {R : Result → Shared → Prop} {name qual : Str} {params : Arguments} {body : List Stmt} {scope : Scope} {dV kV doc pm cdv ct oc : Value} {an od : Option Addr} {osl : Array (Option Value)} {f : Addr} {args : Args} {binds : List (Str × Value)}
theorem code_defR (B : Below A₀ base outer h₀) (F : Fr h₀ L s.heap m) (X₀ : K.In h₀) (N : News h₀ L s.heap news) (NO : News h₀ L s.heap own) (T : Top p loose mean mg mb h₀) (hA : A.frames = some (env :: outer)) (hf : env.frame = some L) (hke : env.scope.kind = .function)
    (ho : K.lookup f = some ⟨oc, od, .func (fnOf name qual params body scope dV kV doc pm an cdv ct), osl⟩) (hcd : codeIn K cdv qual = true) (hroom : A.depth < recursionLimit)
    (hbind : BindsTo s (fnOf name qual params body scope dV kV doc pm an cdv ct) args binds) (hloc : ∀ y ∈ binds, scope.names.lookup y.1 = some .local)
    (h : ∀ g L' h₁, Kept h₀ L g own news → Fr h₀ L g m → Fr g L' h₁ (fun y => binds.reverse.lookup y) → News g L' h₁ own → Below A base (env :: outer) g → K.In g → Top p loose mean mg mb g → (∀ q ∈ own, q.1 < L') →
      wpAny (model prog w) (A.deeper (envOf qual scope L' f cdv)) (execs body (envOf qual scope L' f cdv))
        (fun fl s' => LeaveK h₀ L m g R (match fl with | .ret v => v | _ => .none) s')
        (fun e s' => wpAny (model prog w) (A.deeper (envOf qual scope L' f cdv)) (leaving (envOf qual scope L' f cdv) e) (fun _ s'' => R (.error e) s'') (fun e' s'' => R (.error e') s'') s')
        { s with heap := h₁, toks := s.toks + binds.length })
    (hco : scope.isCoroutine = false) (hgen : scope.isGenerator = false) (hk : scope.kind = .function)
    (hcell : ∀ x ∈ scope.names, x.2 ≠ .cell) : codeAny (model prog w) A (.call (.ref f) args) R s := by
  obtain ⟨FG, BG, st, lv⟩ := groundX (R := R) B F NO hA hf hke
  have X := X₀.keeps F.keep
  refine codeAny_call_def (fd := fnOf name qual params body scope dV kV doc pm an cdv ct) (body := body) (binds := binds) hroom (X _ _ ho) rfl (T.nolimit.keeps F.keep) (codeRec_of X hcd) rfl hbind hcell hloc (fun h₁ hns hk₁ => ?_) hco hgen hk
  have lt : ∀ q ∈ own, q.1 < s.heap.objs.size := fun q hq => Heap.lt_size (NO q hq).1
  have F₁ : Fr (hideAll s.heap (own.map (·.1))) s.heap.objs.size h₁ (fun y => binds.reverse.lookup y) := ⟨hns, fun b o e => hk₁ b o (of_hideAll _ e), Nat.le_of_eq (hideAll_size _ _)⟩
  have N₁ : News (hideAll s.heap (own.map (·.1))) s.heap.objs.size h₁ own := fun q hq => ⟨hk₁ _ _ (NO q hq).1, Nat.ne_of_lt (lt q hq), hideAll_none _ (List.mem_map_of_mem hq)⟩
  exact wpAny_mono (h _ s.heap.objs.size h₁ (kept_hide N NO) FG F₁ N₁ BG (X₀.keeps st) (T.keeps st) lt) (fun fl s' hl => lv _ _ hl) fun _ _ y => y
theorem code_defCR (B : Below A₀ base outer h₀) (F : Fr h₀ L s.heap m) (X₀ : K.In h₀) (N : News h₀ L s.heap news) (NO : News h₀ L s.heap own) (T : Top p loose mean mg mb h₀) (hA : A.frames = some (env :: outer)) (hf : env.frame = some L) (hke : env.scope.kind = .function)
    (ho : K.lookup f = some ⟨oc, od, .func (fnOf name qual params body scope dV kV doc pm an cdv ct), osl⟩) (hcd : codeIn K cdv qual = true) (hroom : A.depth < recursionLimit)
    (hbind : BindsTo s (fnOf name qual params body scope dV kV doc pm an cdv ct) args binds) (hkind : (binds.all fun y => scope.names.lookup y.1 == some .local || scope.names.lookup y.1 == some .cell) = true)
    (hnd : ((cellsFrom 0 scope.names []).map (·.1)).Nodup)
    (h : ∀ g L' h₁ tk cells, Kept h₀ L g own news → Fr h₀ L g m → Fr g L' h₁ (bindL (envOfC qual scope L' f cdv).kindOf binds fun _ => none) → News g L' h₁ (cells ++ own) →
      CellsAre (bindC (envOfC qual scope L' f cdv).kindOf binds fun _ => none) (cellsFrom (L' + 1) scope.names []) cells → Below A base (env :: outer) g → K.In g → Top p loose mean mg mb g → (∀ q ∈ own, q.1 < L') →
      wpAny (model prog w) (A.deeper (envOfC qual scope L' f cdv)) (execs body (envOfC qual scope L' f cdv))
        (fun fl s' => LeaveK h₀ L m g R (match fl with | .ret v => v | _ => .none) s')
        (fun e s' => wpAny (model prog w) (A.deeper (envOfC qual scope L' f cdv)) (leaving (envOfC qual scope L' f cdv) e) (fun _ s'' => R (.error e) s'') (fun e' s'' => R (.error e') s'') s')
        { s with heap := h₁, toks := tk })
    (hco : scope.isCoroutine = false) (hgen : scope.isGenerator = false) (hk : scope.kind = .function) : codeAny (model prog w) A (.call (.ref f) args) R s := by
  obtain ⟨FG, BG, st, lv⟩ := groundX (R := R) B F NO hA hf hke
  have X := X₀.keeps F.keep
  refine codeAny_call_function hroom (X _ _ ho) rfl hco hgen rfl (codeRec_of X hcd) (hbind _ _ _ _ ?_)
  refine wpAny_newFunctionEnv_cells hk (kindsX hkind _) fun env' he s' x => ?_
  subst he
  refine ⟨(T.nolimit.keeps F.keep).keeps x.toInCall.keep, codeAny_func ?_⟩
  obtain ⟨h₁, tk, rfl, _⟩ := x.done
  have hk₁ := x.toInCall.keep
  have lt : ∀ q ∈ own, q.1 < s.heap.objs.size := fun q hq => Heap.lt_size (NO q hq).1
  obtain ⟨cells, NC, Y⟩ := Cl.news (h₀ := s.heap) (Nat.le_refl _) fun n c hm => ⟨x.cell n c (lookup_of_mem_nodup (cellsFrom_names scope.names 0 (s.heap.objs.size + 1) [] [] rfl ▸ hnd) hm), x.above n c hm⟩
  have F₁ : Fr (hideAll s.heap (own.map (·.1))) s.heap.objs.size h₁ (bindL (envOfC qual scope s.heap.objs.size f cdv).kindOf binds fun _ => none) := ⟨x.toInCall.ns, fun b o e => hk₁ b o (of_hideAll _ e), Nat.le_of_eq (hideAll_size _ _)⟩
  have N₁ : News (hideAll s.heap (own.map (·.1))) s.heap.objs.size h₁ (cells ++ own) := fun q hq => by
    rcases List.mem_append.mp hq with hq | hq
    · refine ⟨(NC q hq).1, (NC q hq).2.1, ?_⟩
      cases z : (hideAll s.heap (own.map (·.1))).get? q.1 with
      | none => rfl
      | some o => have := of_hideAll _ z; rw [(NC q hq).2.2] at this; cases this
    · exact ⟨hk₁ _ _ (NO q hq).1, Nat.ne_of_lt (lt q hq), hideAll_none _ (List.mem_map_of_mem hq)⟩
  exact wpAny_mono (h _ s.heap.objs.size h₁ tk cells (kept_hide N NO) FG F₁ N₁ Y BG (X₀.keeps st) (T.keeps st) lt) (fun fl s' hl => lv _ _ hl) fun _ _ y => y
end
theorem newsNil {h₀ h : Heap} {L : Addr} : News h₀ L h [] := fun _ hp => nomatch hp
theorem newsCons {h₀ h : Heap} {L : Addr} {news own : List (Addr × Obj)} {p : Addr × Obj} (N : News h₀ L h news) (hp : p ∈ news) (NO : News h₀ L h own) : News h₀ L h (p :: own) := fun q hq => by
  rcases List.mem_cons.mp hq with rfl | hq
  · exact N _ hp
  · exact NO _ hq
section
variable {prog : Program} {w : World} {A : Around} {E : Value → Shared → Prop} {s : Shared} {env : Env} {h₀ : Heap} {x : Str} {body : List Stmt} {Q : Flow → Shared → Prop}
noncomputable def LedS {σ : Type} (Led : σ → List (Addr × Obj)) (ps : σ → List (Str × Value)) (x : Str) (stored : List Str) (m₀ : Str → Option Value) (P : σ → Prop) (I : Addr) (m : Str → Option Value) (nx : List (Addr × Obj)) : Prop :=
  ∃ c : σ, nx = Led c ∧ (∀ p ∈ ps c, m p.1 = some p.2) ∧ (∀ z, z ≠ x → (∀ p ∈ ps c, z ≠ p.1) → stored.contains z = false → m z = m₀ z) ∧ (∀ p ∈ Led c, p.1 ≠ I) ∧ P c
theorem ledList {σ : Type} {ax : Addr} {lo : Obj} {vs : List Value} {n : Nat} {m₀ : Str → Option Value} (Led : σ → List (Addr × Obj)) (ps : σ → List (Str × Value)) (stored : List Str) (P : List Value → σ → Prop) (c₀ : σ)
    (hh : A.handled = none) (F : Fr h₀ env.locals s.heap m₀) (N : News h₀ env.locals s.heap (Led c₀)) (hm : ∀ c, (ax, lo) ∈ Led c) (hc : lo.cls = .type "list") (hd : lo.data = .seq vs.toArray n) (hk : ∀ p ∈ ps c₀, m₀ p.1 = some p.2) (hp : P [] c₀)
    (turn : ∀ (c : σ) pre v post (u : Str → Option Value) (I : Addr) it h tk, vs = pre ++ v :: post → P pre c → it.cls = .type "list_iterator" → (∀ p ∈ Led c, p.1 ≠ I) →
      Fr h₀ env.locals h (fun y => if y = x then some v else kstB (fun z => if stored.contains z then u z else m₀ z) (ps c) y) → News h₀ env.locals h ((I, it) :: Led c) →
      wpAny (model prog w) A (execs body env) (UnrPost h₀ env.locals { s with heap := h, toks := tk } I it (fun m' n' => LedS Led ps x stored m₀ (P (pre ++ [v])) I m' n') Q) E { s with heap := h, toks := tk })
    (done : ∀ (c : σ) (u : Str → Option Value) h tk, P vs c → Fr h₀ env.locals h (fun y => if y = x then u y else kstB (fun z => if stored.contains z then u z else m₀ z) (ps c) y) → News h₀ env.locals h (Led c) → Q .next { s with heap := h, toks := tk }) :
    wpAny (model prog w) A (pyIter (.ref ax)) (fun it s₂ => LoopAtV prog w A h₀ env x body Q E it s₂) E s := by
  refine iter_listUnr hh F N (hm c₀) hc hd fun I hI => ?_
  have key : ∀ (post pre : List Value) (m : Str → Option Value) (news : List (Addr × Obj)), vs = pre ++ post → LedS Led ps x stored m₀ (P pre) I m news → ListRest prog w A E h₀ env x body Q s I (ax, lo) post m news := by
    intro post
    induction post with
    | nil =>
      rintro pre m news e ⟨c, rfl, h1, h2, _, h4⟩
      rw [List.append_nil] at e
      subst e
      exact ListRest.zero fun h tk F' N' => done c m h tk h4 (kst_frOut h1 h2 F') N'
    | cons v post ih =>
      rintro pre m news e ⟨c, rfl, h1, h2, h3, h4⟩
      refine ListRest.succ fun it h tk hit F' N' => ?_
      refine wpAny_mono (turn c pre v post m I it h tk e h4 hit h3 (kst_fr h1 h2 F') N') (fun f s₂ q => ?_) fun _ _ y => y
      have up : UnrEnd h₀ env.locals { s with heap := h, toks := tk } I it (fun m' n' => LedS Led ps x stored m₀ (P (pre ++ [v])) I m' n') s₂ →
          UnrEnd h₀ env.locals { s with heap := h, toks := tk } I it (fun m' n' => (ax, lo) ∈ n' ∧ ListRest prog w A E h₀ env x body Q s I (ax, lo) post m' n') s₂ := by
        rintro ⟨h', tk', m', news', e', F'', N'', off, r⟩
        refine ⟨h', tk', m', news', e', F'', N'', off, ?_, ih (pre ++ [v]) m' news' (by simpa using e) r⟩
        obtain ⟨c', rfl, _⟩ := r
        exact hm c'
      cases f with
      | ret v => exact q
      | brk => exact q
      | next => exact up q
      | cont => exact up q
  exact key vs [] m₀ (Led c₀) rfl ⟨c₀, rfl, hk, fun _ _ _ _ => rfl, fun p hp => Nat.ne_of_lt (hI p hp), hp⟩
theorem ledRange {σ : Type} {r : Addr} {a₀ b₀ : Int} {t₀ u₀ v₀ : Tok} {n : Nat} {m₀ : Str → Option Value} (Led : σ → List (Addr × Obj)) (ps : σ → List (Str × Value)) (stored : List Str) (P : Nat → σ → Prop) (c₀ : σ)
    (hh : A.handled = none) (hr : IsRange s.heap r a₀ b₀ 1 t₀ u₀ v₀) (hsmall : Builtin.Range.small a₀ b₀ 1 = true) (hn : Builtin.Range.rangeSize a₀ b₀ 1 = (n : Int)) (F : Fr h₀ env.locals s.heap m₀) (N : News h₀ env.locals s.heap (Led c₀)) (hk : ∀ p ∈ ps c₀, m₀ p.1 = some p.2) (hp : P 0 c₀)
    (turn : ∀ (c : σ) i (u : Str → Option Value) (I : Addr) it t h tk, i < n → P i c → (∀ p ∈ Led c, p.1 ≠ I) →
      Fr h₀ env.locals h (fun y => if y = x then some (.int (a₀ + (i : Int)) t) else kstB (fun z => if stored.contains z then u z else m₀ z) (ps c) y) → News h₀ env.locals h ((I, it) :: Led c) →
      wpAny (model prog w) A (execs body env) (UnrPost h₀ env.locals { s with heap := h, toks := tk } I it (fun m' n' => LedS Led ps x stored m₀ (P (i + 1)) I m' n') Q) E { s with heap := h, toks := tk })
    (done : ∀ (c : σ) (u : Str → Option Value) h tk, P n c → Fr h₀ env.locals h (fun y => if y = x then u y else kstB (fun z => if stored.contains z then u z else m₀ z) (ps c) y) → News h₀ env.locals h (Led c) → Q .next { s with heap := h, toks := tk }) :
    wpAny (model prog w) A (pyIter (.ref r)) (fun it s₂ => LoopAtV prog w A h₀ env x body Q E it s₂) E s := by
  refine iter_rangeUnr hh hr hsmall hn F N fun I hI => ?_
  have key : ∀ (j i : Nat) (m : Str → Option Value) (news : List (Addr × Obj)), i + j = n → LedS Led ps x stored m₀ (P i) I m news → RangeRest prog w A E h₀ env x body Q s I a₀ n j i m news := by
    intro j
    induction j with
    | zero =>
      rintro i m news e ⟨c, rfl, h1, h2, _, h4⟩
      have e' : i = n := by omega
      subst e'
      exact RangeRest.zero fun h tk F' N' => done c m h tk h4 (kst_frOut h1 h2 F') N'
    | succ j ih =>
      rintro i m news e ⟨c, rfl, h1, h2, h3, h4⟩
      refine RangeRest.succ fun t h tk F' N' => ?_
      refine wpAny_mono (turn c i m I _ t h tk (by omega) h4 h3 (kst_fr h1 h2 F') N') (fun f s₂ q => ?_) fun _ _ y => y
      have up : ∀ it, UnrEnd h₀ env.locals { s with heap := h, toks := tk } I it (fun m' n' => LedS Led ps x stored m₀ (P (i + 1)) I m' n') s₂ →
          UnrEnd h₀ env.locals { s with heap := h, toks := tk } I it (RangeRest prog w A E h₀ env x body Q s I a₀ n j (i + 1)) s₂ := by
        rintro it ⟨h', tk', m', news', e', F'', N'', off, r⟩
        exact ⟨h', tk', m', news', e', F'', N'', off, ih (i + 1) m' news' (by omega) r⟩
      cases f with
      | ret v => exact q
      | brk => exact q
      | next => exact up _ q
      | cont => exact up _ q
  exact key n 0 m₀ (Led c₀) (by omega) ⟨c₀, rfl, hk, fun _ _ _ _ => rfl, fun p hp => Nat.ne_of_lt (hI p hp), hp⟩
theorem led_end {σ : Type} {Led : σ → List (Addr × Obj)} {ps : σ → List (Str × Value)} {stored : List Str} {m₀ : Str → Option Value} {P : σ → Prop} {I L : Addr} {it : Obj} (c : σ) {m' : Str → Option Value} {all : List (Addr × Obj)} {s₁ : Shared} {h' : Heap} {tk : Nat}
    (F : Fr h₀ L h' m') (N : News h₀ L h' all) (sub : ∀ p ∈ (I, it) :: Led c, p ∈ all) (off : ∀ p ∈ Led c, p.1 ≠ I) (hk : ∀ p ∈ ps c, m' p.1 = some p.2) (hr : ∀ z, z ≠ x → (∀ p ∈ ps c, z ≠ p.1) → stored.contains z = false → m' z = m₀ z) (hp : P c) :
    UnrEnd h₀ L s₁ I it (fun m' n' => LedS Led ps x stored m₀ P I m' n') { s₁ with heap := h', toks := tk } := UnrEnd.intro F N (Led c) sub off ⟨c, rfl, hk, hr, off, hp⟩
end
theorem ints_mid {pre post : List Value} {v : Value} {ns np : List Int} (h : IntsAre (pre ++ v :: post) ns) (hp : IntsAre pre np) : ∃ a t nq, v = .int a t ∧ ns = np ++ a :: nq ∧ IntsAre (pre ++ [v]) (np ++ [a]) := by
  induction hp generalizing ns with
  | nil =>
    cases h with
    | cons a t h => exact ⟨a, t, _, rfl, rfl, .cons a t .nil⟩
  | cons a t _ ih =>
    cases h with
    | cons a t h =>
      obtain ⟨b, u, nq, e, e2, hi⟩ := ih h
      exact ⟨b, u, nq, e, by rw [e2]; rfl, .cons a t hi⟩
theorem ints_uniq {vs : List Value} {a b : List Int} (h : IntsAre vs a) (h' : IntsAre vs b) : a = b := by
  induction h generalizing b with
  | nil => cases h'; rfl
  | cons n t _ ih => cases h' with
    | cons _ _ h' => rw [ih h']
theorem wy_step {ns : List Int} {a w0 w1 w2 w3 : Int} (h : wyF ns = [w0, w1, w2, w3]) {f1 f2 f3 : Int} (e1 : f1 = a * w0 + (3 - a) * 0) (e2 : f2 = a * w1 + (3 - a) * f1) (e3 : f3 = a * w2 + (3 - a) * f2) : wyF (ns ++ [a]) = [0, f1, f2, f3] := by
  unfold wyF at h ⊢
  rw [List.foldl_append, h]
  subst e3
  subst e2
  subst e1
  show wyS _ _ = _
  unfold wyS
  rfl
section
variable {prog : Program} {w : World} {A : Around} {E : Value → Shared → Prop} {s : Shared} {Q : Value → Shared → Prop}
theorem is_ints {x y : Int} {t u : Tok} (h0 : t ≠ 0) (h1 : u ≠ 0) (hn : x ≠ y → t ≠ u) (hx : 0 ≤ x ∧ x ≤ 3) (h : Q (.bool (decide (x = y))) s) : wpAny (model prog w) A (compareOp .Is (.int x t) (.int y u)) Q E s := by
  show wpAny _ A (do return .bool (← isSame (.int x t) (.int y u))) Q E s
  have z : (t == 0 || u == 0) = false := by
    have a : (t == 0) = false := beq_eq_false_iff_ne.mpr h0
    have b : (u == 0) = false := beq_eq_false_iff_ne.mpr h1
    rw [a, b]; rfl
  refine wpAny_bind ?_
  by_cases e : x = y
  · subst e
    rw [decide_eq_true rfl] at h
    have c : (x == x && smallInt x) = true := by
      unfold smallInt
      simp
      omega
    show wpAny _ A (if (x == x && smallInt x) = true then isSame.cachedInt t u else isSame.created (x == x) t u) _ _ _
    rw [if_pos c]
    unfold isSame.cachedInt
    rw [z]
    simp only [Bool.false_eq_true, if_false]
    exact wpAny_bind (wpAny_rule (wpAny_pure (wpAny_pure h)))
  · rw [decide_eq_false e] at h
    have c : (x == y && smallInt x) = false := by
      have : (x == y) = false := beq_eq_false_iff_ne.mpr e
      rw [this]; rfl
    have d : (x == y) = false := beq_eq_false_iff_ne.mpr e
    have tu : (t == u) = false := beq_eq_false_iff_ne.mpr (hn e)
    show wpAny _ A (if (x == y && smallInt x) = true then isSame.cachedInt t u else isSame.created (x == y) t u) _ _ _
    rw [if_neg (by rw [c]; exact Bool.false_ne_true)]
    unfold isSame.created
    rw [z, tu, d]
    simp only [Bool.false_eq_true, if_false, Bool.not_false, if_true]
    exact wpAny_pure (wpAny_pure h)
end
theorem cnt1 {np : List Int} {a b k : Int} (h : k = ((np.count b : Nat) : Int)) (e : a = b) : k + 1 = (((np ++ [a]).count b : Nat) : Int) := by
  subst e
  rw [List.count_append, h]
  simp
theorem cnt2 {np : List Int} {a b k : Int} (h : k = ((np.count b : Nat) : Int)) (e : a ≠ b) : k = (((np ++ [a]).count b : Nat) : Int) := by
  rw [List.count_append, h]
  simp [List.count_singleton, e]
section
variable {prog : Program} {w : World} {A : Around} {E : Value → Shared → Prop} {s : Shared} {h₀ : Heap} {L : Addr} {m : Str → Option Value} {env : Env}
open LCg LCt in
noncomputable def SrcST (prog : Program) (w : World) (A : Around) (h₀ : Heap) (L : Addr) (m : Str → Option Value) (env : Env) (ct elt : Expr) (x : Str) (scope : Scope) (cl : List (Str × Addr)) (Fin : Shared → List Value → List (Addr × Obj) → Prop) (xv : Value) (s₁ : Shared) : Prop :=
  ∃ tx t news, xv = .str tx t ∧ A.handled = none ∧ Fr h₀ L s₁.heap m ∧ News h₀ L s₁.heap news ∧ tx.cps.all (· < 128) = true ∧ tx.cps.size ≤ sizeLine ∧
    ∀ s₂ : Shared, (∃ h, s₂ = { s₁ with heap := h }) → CompRestT prog w A h₀ L m env ct elt x scope cl s₂ (fun _ => True) (SignAt tx) (Fin s₂) tx.cps.size 0 [] news
open LCg LCt in
theorem listComp_TS {ct elt iter : Expr} {x : Str} {px : Pos} {scope : Scope} {cl : List (Str × Addr)} {pos : Pos} {Q : Value → Shared → Prop} (_F₀ : Fr h₀ L s.heap m)
    (hclos : closureFor scope env = pure cl) (hcell : ∀ y ∈ scope.names, y.2 ≠ .cell) (hkind : scope.kind = .function)
    (hnames : ∀ y ∈ scope.names, y.2 = .local → scope.names.lookup y.1 = some .local) (hx : scope.names.lookup x = some .local)
    (h : wpAny (model prog w) A (eval iter env) (SrcST prog w A h₀ L m env ct elt x scope cl (fun s₂ => FinE h₀ L m s₂ Q)) E s)
    (hs : ∀ x, foldedSetIterable iter env x = pure x := by intro _; rfl) :
    wpAny (model prog w) A (eval (.ListComp elt [⟨.Name x px, iter, [ct], 0⟩] scope pos) env) Q E s := by
  rw [eval_ListComp]
  refine wpAny_comprehension_free (use := none) rfl hs hclos hkind hnames (wpAny_mono h (fun xv s₁ h₁ => ?_) fun _ _ e => e)
  obtain ⟨tx, t, news, rfl, hh, F, N, ha, hsz, R⟩ := h₁
  refine wpAny_pyIter_ascii ha ?_
  have up : ∀ b o, s₁.heap.get? b = some o → (s₁.heap.push { cls := .type "str_ascii_iterator", data := .fields #[.str tx t, .int 0 0] }).get? b = some o := fun b o e => Heap.get?_push_of_some _ e
  refine block_T (Walks.strAscii hh s₁.heap.objs.size tx t) hsz (fun i h st => let ⟨o, e, _⟩ := st; ⟨o, e⟩) (fun i h h' o nw st e e' _ _ _ => ?_) hcell hkind hx ⟨_, Heap.get?_push_size _ rfl, rfl, rfl⟩ (fun b hb => ?_)
    (F.keeps up) (N.grown up) (Nat.ne_of_lt F.ns.lt) (next_is_new F) (fun p hp => Nat.ne_of_lt (Heap.lt_size (N p hp).1)) trivial (R _ ⟨_, rfl⟩) ?_
  · obtain ⟨o', q, r⟩ := st
    rw [e] at q
    cases q
    exact ⟨o, e', r⟩
  · rw [List.mem_singleton.mp hb]
    have e : (s₁.heap.push { cls := .type "str_ascii_iterator", data := .fields #[.str tx t, .int 0 0] }).objs.size = s₁.heap.objs.size + 1 := Heap.size_push ..
    rw [e]
    exact Nat.lt_succ_self _
  · intro D C h tk m' ys news' F' N' o1 hn hC₀ hD₀ hCL hDL hCD offC fin
    refine ⟨m', hn, fun h'' hs'' => fin D h'' tk (F'.change hs'' hCL hC₀) (fun p hp => ⟨hs''.extBut _ _ ?_ (N' p hp).1, (N' p hp).2⟩) o1⟩
    rcases List.mem_cons.mp hp with rfl | hp
    · exact Ne.symm hCD
    · exact offC p hp
end
theorem sign_abc {i : Nat} {v : Value} (h : SignAt (Str.ofString "abc") i v) : ∃ u, v = .str ⟨#[97 + i]⟩ u := by
  obtain ⟨c, u, hc, rfl⟩ := h
  have hi : i < 3 := by
    have := (Array.getElem?_eq_some_iff.mp hc).1
    exact this
  have : c = 97 + i := by
    have q : i = 0 ∨ i = 1 ∨ i = 2 := by omega
    rcases q with rfl | rfl | rfl <;> (injection hc with e; exact e.symm)
  subst this
  exact ⟨u, rfl⟩
theorem abc_size : (Str.ofString "abc").cps.size = 3 := by decide +kernel
theorem SrcST.abc {prog : Program} {w : World} {A : Around} {h₀ : Heap} {L : Addr} {m : Str → Option Value} {env : Env} {ct elt : Expr} {x : Str} {scope : Scope} {cl : List (Str × Addr)} {Fin : Shared → List Value → List (Addr × Obj) → Prop} {t : Tok} {news : List (Addr × Obj)} {s₁ : Shared}
    (hh : A.handled = none) (F : Fr h₀ L s₁.heap m) (N : News h₀ L s₁.heap news)
    (h : ∀ g, LCt.CompRestT prog w A h₀ L m env ct elt x scope cl { s₁ with heap := g } (fun _ => True) (SignAt (Str.ofString "abc")) (Fin { s₁ with heap := g }) 3 0 [] news) :
    SrcST prog w A h₀ L m env ct elt x scope cl Fin (.str (Str.ofString "abc") t) s₁ :=
  ⟨_, _, news, rfl, hh, F, N, by decide +kernel, by rw [abc_size, sizeLine_eq]; omega, fun _ ⟨g, e⟩ => by subst e; rw [abc_size]; exact h g⟩
@[irreducible] noncomputable def pcT (x : Str) (i : Nat) : Bool := (!(Builtin.Str.occurrences (Txt.slice x (some 1) (some (-1))) ⟨#[97 + i]⟩ 0 (Txt.slice x (some 1) (some (-1))).length 1).isEmpty) != (Txt.slice (Txt.slice x (some 1) (some (-1))) none (some 1) == Str.ofString "^")
@[irreducible] noncomputable def pcL (x : Str) : List Str := ((List.range 3).filter (pcT x)).map fun i => ⟨#[97 + i]⟩
@[irreducible] noncomputable def pcF (x : Str) : Str :=
  if (x == Str.ofString ".") = true then Str.ofString "abc" else
  if (Txt.slice x none (some 1) != Str.ofString "[") = true then (if (x.length : Int) = 1 then x else Str.ofString "") else
  if (Txt.slice x (some (-1)) none != Str.ofString "]") = true then (if (x.length : Int) = 1 then x else Str.ofString "") else
  if (Txt.slice x (some 1) (some (-1)) == Str.ofString "a-c") = true then Str.ofString "abc" else Txt.join (Str.ofString "") (pcL x)
theorem neg_b {b : Bool} (h : b = false) : ¬ b = true := by rw [h]; exact Bool.false_ne_true
theorem pc1 {x : Str} (a : (x == Str.ofString ".") = true) : Str.ofString "abc" = pcF x := by unfold pcF; rw [if_pos a]
theorem pc2 {x : Str} (a : (x == Str.ofString ".") = false) (b : (Txt.slice x none (some 1) != Str.ofString "[") = true) (c : (x.length : Int) = 1) : x = pcF x := by unfold pcF; rw [if_neg (neg_b a), if_pos b, if_pos c]
theorem pc3 {x : Str} (a : (x == Str.ofString ".") = false) (b : (Txt.slice x none (some 1) != Str.ofString "[") = true) (c : (x.length : Int) ≠ 1) : Str.ofString "" = pcF x := by unfold pcF; rw [if_neg (neg_b a), if_pos b, if_neg c]
theorem pc4 {x : Str} (a : (x == Str.ofString ".") = false) (b : (Txt.slice x none (some 1) != Str.ofString "[") = false) (d : (Txt.slice x (some (-1)) none != Str.ofString "]") = true) (c : (x.length : Int) = 1) : x = pcF x := by unfold pcF; rw [if_neg (neg_b a), if_neg (neg_b b), if_pos d, if_pos c]
theorem pc5 {x : Str} (a : (x == Str.ofString ".") = false) (b : (Txt.slice x none (some 1) != Str.ofString "[") = false) (d : (Txt.slice x (some (-1)) none != Str.ofString "]") = true) (c : (x.length : Int) ≠ 1) : Str.ofString "" = pcF x := by unfold pcF; rw [if_neg (neg_b a), if_neg (neg_b b), if_pos d, if_neg c]
theorem pc6 {x : Str} (a : (x == Str.ofString ".") = false) (b : (Txt.slice x none (some 1) != Str.ofString "[") = false) (d : (Txt.slice x (some (-1)) none != Str.ofString "]") = false) (e : (Txt.slice x (some 1) (some (-1)) == Str.ofString "a-c") = true) : Str.ofString "abc" = pcF x := by unfold pcF; rw [if_neg (neg_b a), if_neg (neg_b b), if_neg (neg_b d), if_pos e]
theorem pc7 {x : Str} (a : (x == Str.ofString ".") = false) (b : (Txt.slice x none (some 1) != Str.ofString "[") = false) (d : (Txt.slice x (some (-1)) none != Str.ofString "]") = false) (e : (Txt.slice x (some 1) (some (-1)) == Str.ofString "a-c") = false) : Txt.join (Str.ofString "") (pcL x) = pcF x := by unfold pcF; rw [if_neg (neg_b a), if_neg (neg_b b), if_neg (neg_b d), if_neg (neg_b e)]
theorem pc_len (x : Str) : ((pcL x).map (·.length)).sum + (pcL x).length * (Str.ofString "").length ≤ 16777216 := by
  have e0 : (Str.ofString "").length = 0 := by decide +kernel
  have l1 : ∀ i : Nat, (⟨#[97 + i]⟩ : Str).length = 1 := fun _ => rfl
  rw [e0]
  unfold pcL
  cases h0 : pcT x 0 <;> cases h1 : pcT x 1 <;> cases h2 : pcT x 2 <;> simp [List.range_succ, List.filter_append, h0, h1, h2, l1] <;> decide
@[irreducible] noncomputable def Stop (P : Prop) : Prop := P
theorem Stop.mk {P : Prop} (h : Stop P) : P := by unfold Stop at h; exact h
theorem Stop.go {P : Prop} (h : P) : Stop P := by unfold Stop; exact h
noncomputable def tuI {α : Type} (l : List α) (x : Int) (y : α) : List α :=
  l.take (if x < 0 then (x + (l.length : Int)).toNat else min x.toNat l.length) ++ y :: l.drop (if x < 0 then (x + (l.length : Int)).toNat else min x.toNat l.length)
theorem Al.take {α β : Type} {R : α → β → Prop} {xs : List α} {ys : List β} (h : Al R xs ys) : ∀ k, Al R (xs.take k) (ys.take k) := by
  induction h with
  | nil => intro k; simp; exact .nil
  | cons r _ ih => intro k; cases k with
    | zero => exact .nil
    | succ k => exact .cons r (ih k)
theorem Al.drop {α β : Type} {R : α → β → Prop} {xs : List α} {ys : List β} (h : Al R xs ys) : ∀ k, Al R (xs.drop k) (ys.drop k) := by
  induction h with
  | nil => intro k; simp; exact .nil
  | cons r t ih => intro k; cases k with
    | zero => exact .cons r t
    | succ k => exact ih k
theorem Al.app {α β : Type} {R : α → β → Prop} {xs xs' : List α} {ys ys' : List β} (h : Al R xs ys) (h' : Al R xs' ys') : Al R (xs ++ xs') (ys ++ ys') := by
  induction h with
  | nil => exact h'
  | cons r _ ih => exact .cons r ih
theorem Al.ins {R : Value → Int × Int → Prop} {xs : List Value} {ys : List (Int × Int)} (h : Al R xs ys) {x : Int} {v : Value} {p : Int × Int} (r : R v p) : Al R (kl_ins xs x v) (tuI ys x p) := by
  have e := h.len
  unfold kl_ins tuI
  rw [e]
  exact (h.take _).app (.cons r (h.drop _))
theorem stg_at {news : List (Addr × Obj)} {vs : List Value} {ms : List (Int × Int)} (h : Stg news vs ms) {i : Nat} (hi : i < ms.length) : ∃ (t : Addr) (ot : Obj) (nt : Nat) (t1 t2 : Tok), vs[i]? = some (.ref t) ∧ (t, ot) ∈ news ∧ ot.cls = .type "tuple" ∧ ot.data = .seq #[.int (ms.getD i (0, 0)).1 t1, .int (ms.getD i (0, 0)).2 t2] nt := by
  have hv : i < vs.length := by have := h.len; omega
  obtain ⟨p, hp, t, ot, nt, t1, t2, e, r1, r2, r3⟩ := Al.get h (i := i) (x := vs[i]) (List.getElem?_eq_getElem hv)
  refine ⟨t, ot, nt, t1, t2, by rw [List.getElem?_eq_getElem hv, e], r1, r2, ?_⟩
  rw [getD_some hp]
  exact r3
@[irreducible] noncomputable def tuV (mask turn : Int) : Int := Builtin.bitAnd (Builtin.bitOr (mask * 2 ^ turn.toNat) (mask.fdiv (2 ^ (3 - turn).toNat))) 7
@[irreducible] noncomputable def tuT (d : Int) : Int := (d.fmod 18).fdiv 6
@[irreducible] noncomputable def tuN (ms : List (Int × Int)) (ds : List Int) (n : Nat) : List (Int × Int) := (List.range n).foldl (fun rs j => tuI rs ((ds.getD j 0).fmod (j + 1)) (tuV (ms.getD j (0, 0)).1 (tuT (ds.getD j 0)), (ms.getD j (0, 0)).2)) []
theorem tu_step {ms : List (Int × Int)} {ds : List Int} {n : Nat} : tuI (tuN ms ds n) ((ds.getD n 0).fmod (n + 1)) (tuV (ms.getD n (0, 0)).1 (tuT (ds.getD n 0)), (ms.getD n (0, 0)).2) = tuN ms ds (n + 1) := by
  unfold tuN
  rw [List.range_succ, List.foldl_append]
  rfl
section
variable {prog : Program} {w : World} {A : Around} {E : Value → Shared → Prop} {s : Shared} {Q : Value → Shared → Prop} {h₀ : Heap} {L D : Addr} {news : List (Addr × Obj)} {value slice : Expr} {u : Tok} {k : Int} {nn : Nat}
theorem item_is {l : List Value} {ns : List Int} (N : News h₀ L s.heap news) (hm : (D, ({ cls := .type "list", data := .seq l.toArray nn } : Obj)) ∈ news) (hi : IntsAre l ns) (h0 : 0 ≤ k) (h1 : k < (ns.length : Int)) (hf : ns.length ≤ 1000000)
    (h : ∀ t, Q (.int (ns.getD k.toNat 0) t) s) (hs : subscripted slice false (.ref D) (.int k u) = operate [.ref D, .int k u] (getItem (.ref D) (.int k u)) := by with_unfolding_all rfl) (hg : ∀ r, letTemporaryGo value (.ref D) r = pure () := by intro _; with_unfolding_all rfl) :
    wpAny (model prog w) A (subscriptTail value slice (.ref D) (.int k u)) Q E s := by
  have hk : k.toNat < ns.length := by omega
  have hl := hi.length
  have : ∀ {vs : List Value} {ms : List Int}, IntsAre vs ms → ∀ i, i < ms.length → ∃ t, vs[i]? = some (.int (ms.getD i 0) t) := by
    intro vs ms h
    induction h with
    | nil => intro i hi; simp at hi
    | cons n t _ ih =>
      intro i hi
      cases i with
      | zero => exact ⟨t, rfl⟩
      | succ i =>
        obtain ⟨t', e⟩ := ih i (by simpa using hi)
        exact ⟨t', by simpa using e⟩
  obtain ⟨t, e⟩ := this hi k.toNat hk
  exact kim_list N hm rfl rfl h0 (by omega) e (h t) hs hg
end
theorem fm_b (d : Int) : 0 ≤ (d.fmod 18).fdiv 6 ∧ (d.fmod 18).fdiv 6 ≤ 2 := by
  have e : d.fmod 18 = d % 18 := Int.fmod_eq_emod_of_nonneg d (by omega)
  have e2 : ∀ x : Int, x.fdiv 6 = x / 6 := fun x => Int.fdiv_eq_ediv_of_nonneg x (by omega)
  rw [e, e2]
  omega
theorem stg_ok {ms : List (Int × Int)} (h : StgOk ms) {i : Nat} (hi : i < ms.length) : (1 ≤ (ms.getD i (0, 0)).1 ∧ (ms.getD i (0, 0)).1 ≤ 7) ∧ (0 ≤ (ms.getD i (0, 0)).2 ∧ (ms.getD i (0, 0)).2 ≤ 1) := by
  rw [getD_some (List.getElem?_eq_getElem hi)]
  exact h _ (List.getElem_mem hi)
theorem fm_i (d : Int) {i : Nat} (h : i < 3) : 0 ≤ d.fmod (0 + (i : Int) + 1) ∧ d.fmod (0 + (i : Int) + 1) ≤ 3 := by
  have e : d.fmod (0 + (i : Int) + 1) = d % (0 + (i : Int) + 1) := Int.fmod_eq_emod_of_nonneg d (by omega)
  rw [e]
  have h1 := Int.emod_nonneg d (b := 0 + (i : Int) + 1) (by omega)
  have h2 := Int.emod_lt_of_pos d (b := 0 + (i : Int) + 1) (by omega)
  omega
theorem fits_small {x : Int} (h : 0 ≤ x ∧ x ≤ 3) : Builtin.List.listFitsIndex x = true := by
  have q : x = 0 ∨ x = 1 ∨ x = 2 ∨ x = 3 := by omega
  rcases q with rfl | rfl | rfl | rfl <;> decide +kernel
section
variable {prog : Program} {w : World} {A : Around} {E : Value → Shared → Prop} {s : Shared} {Q : Value → Shared → Prop} {h₀ : Heap} {L D : Addr} {m : Str → Option Value} {news : List (Addr × Obj)} {u : Tok} {x : Int} {y : Value} {nn : Nat} {vs : List Value}
theorem ins_ls {f : Obj → List (Addr × Obj)} (F : Fr h₀ L s.heap m) (N : News h₀ L s.heap news) (hx : 0 ≤ x ∧ x ≤ 3) (U : ∀ o, Upd D (listOf vs.toArray nn) o news (f o)) (hl : vs.length ≤ 1000000)
    (h : ∀ h', Fr h₀ L h' m → News h₀ L h' (f (listOf (kl_ins vs x y).toArray (nn + 1))) → Q .none { s with heap := h' }) : wpAny (model prog w) A (call (.builtin "list.insert") [.ref D, .int x u, y]) Q E s :=
  kl_insert F N (fits_small hx) (by rw [List.toList_toArray]) (U _) (by rw [List.toList_toArray, sizeLine_eq]; omega) fun h' F' N' => h h' F' N'
end
theorem sub_ins {x y z : Addr × Obj} {ts news : List (Addr × Obj)} : ∀ p ∈ y :: z :: ((x :: ts) ++ news), p ∈ x :: y :: z :: (ts ++ news) := by
  intro p hp
  simp only [List.cons_append, List.mem_cons] at hp ⊢
  rcases hp with h | h | h | h
  · exact .inr (.inl h)
  · exact .inr (.inr (.inl h))
  · exact .inl h
  · exact .inr (.inr (.inr h))
theorem off_ins {x : Addr × Obj} {D I : Addr} {o o' : Obj} {ts news : List (Addr × Obj)} (h : ∀ p ∈ (D, o) :: (ts ++ news), p.1 ≠ I) (hx : x.1 ≠ I) : ∀ p ∈ (D, o') :: ((x :: ts) ++ news), p.1 ≠ I := by
  intro p hp
  simp only [List.cons_append, List.mem_cons] at hp
  rcases hp with rfl | rfl | hp
  · exact h (D, o) List.mem_cons_self
  · exact hx
  · exact h p (List.mem_cons_of_mem _ hp)
theorem tuI_len {α : Type} (l : List α) (x : Int) (y : α) : (tuI l x y).length = l.length + 1 := by
  unfold tuI
  rw [List.length_append, List.length_cons, List.length_take, List.length_drop]
  omega
theorem tu_end {ms : List (Int × Int)} {ds : List Int} {i : Nat} {D' D : Addr} {rv : List Value} {ts news : List (Addr × Obj)} {t u : Tok} {n : Nat} (h : Stg ts rv (tuN ms ds i)) (hl : (tuN ms ds i).length ≤ i) (hne : ∀ p ∈ ts ++ news, p.1 ≠ D) (hx : D' ≠ D) :
    Stg ((D', { cls := .type "tuple", data := .seq #[.int (Builtin.bitAnd (Builtin.bitOr ((ms.getD i (0, 0)).1 * 2 ^ (((ds.getD (0 + (i : Int)).toNat 0).fmod 18).fdiv 6).toNat) ((ms.getD i (0, 0)).1.fdiv (2 ^ (3 - ((ds.getD (0 + (i : Int)).toNat 0).fmod 18).fdiv 6).toNat))) 7) t, .int (ms.getD i (0, 0)).2 u] n }) :: ts)
      (kl_ins rv ((ds.getD (0 + (i : Int)).toNat 0).fmod (0 + (i : Int) + 1)) (.ref D')) (tuN ms ds (i + 1)) ∧ (tuN ms ds (i + 1)).length ≤ i + 1 ∧
      ∀ p ∈ (((D', { cls := .type "tuple", data := .seq #[.int (Builtin.bitAnd (Builtin.bitOr ((ms.getD i (0, 0)).1 * 2 ^ (((ds.getD (0 + (i : Int)).toNat 0).fmod 18).fdiv 6).toNat) ((ms.getD i (0, 0)).1.fdiv (2 ^ (3 - ((ds.getD (0 + (i : Int)).toNat 0).fmod 18).fdiv 6).toNat))) 7) t, .int (ms.getD i (0, 0)).2 u] n }) : Addr × Obj) :: ts) ++ news, p.1 ≠ D := by
  have e : (0 + (i : Int)).toNat = i := by omega
  have e' : (0 + (i : Int) + 1) = (i : Int) + 1 := by omega
  rw [e, e', ← tu_step]
  refine ⟨Al.ins (h.mono fun p hp => List.mem_cons_of_mem _ hp) ⟨D', _, n, t, u, rfl, List.mem_cons_self, rfl, ?_⟩, by rw [tuI_len]; omega, ?_⟩
  · unfold tuV tuT
    rfl
  · intro p hp
    rcases List.mem_cons.mp hp with rfl | hp
    · exact hx
    · exact hne p hp
noncomputable def nmN : Nat → List Str
  | 0 => [Str.ofString ""]
  | i + 1 => Str.ofString "" :: (Str.ofString "abc").cps.toList.flatMap fun c => (nmN i).map ((⟨#[c]⟩ : Str) ++ ·)
set_option Elab.async false
set_option maxRecDepth 100000
set_option maxHeartbeats 8000000
noncomputable abbrev rw0 : OpenLaw := PySem.Challenge.rw_in0163_01
noncomputable abbrev row0 : OpenRow := OpenLaw.row PySem.Challenge.rw_in0163_01
noncomputable def viewq : Program := { PySem.Challenge.pw_in0163_01 with main := { PySem.Challenge.pw_in0163_01.main with body := ([0, 2, 3, 4, 5, 6, 7, 8, 9, 11, 12, 14, 15, 17, 18, 20, 22, 23, 24, 25, 26, 27, 28, 29, 30, 31, 32, 33] : List Nat).filterMap fun i => PySem.Challenge.pw_in0163_01.main.body[i]? } }
noncomputable abbrev hk0 : Hook := kmHook KF KAs (fun _ => rfl) (nat_lit 113 :: [])
noncomputable abbrev loose0 : List Str := [Str.ofString "_twin_re_1", Str.ofString "_special_chars_map"]
noncomputable abbrev Left0 : Prop := LeftO row0.toRowW.prog viewq loose0 (fun s => xlAt viewq [] s && recOk (RowW.records row0.toRowW) s) (Hook.obs hk0) (Hook.val hk0) 4434
set_option Elab.async false
set_option maxRecDepth 100000
set_option maxHeartbeats 0


noncomputable abbrev seenB (s : Shared) := (openSeen viewq loose0 (importedModules row0.toRowW.prog.main.body) (fun s => xlAt viewq [] s && recOk (RowW.records row0.toRowW) s) true s, (Hook.obs hk0) s)
noncomputable abbrev LB (w : World) : Prop := (openEnds treeTable row0.toRowW.prog w 4434).map (fun s => (openSeen viewq loose0 (importedModules row0.toRowW.prog.main.body) (fun s => xlAt viewq [] s && recOk (RowW.records row0.toRowW) s) true s, (Hook.obs hk0) s)) = some (openGood viewq loose0, (Hook.val hk0) w)
noncomputable abbrev LP (w : World) : Prop := (fencedOpening treeTable row0.toRowW.prog w 4434).map (fun s₀ =>
        ((topFrom treeTable row0.toRowW.prog (w.withFollow "special-get-raises" false) 4434 s₀).map seenB,
         (topFrom treeTable row0.toRowW.prog (w.withFollow "special-get-raises" true) 4434 s₀).map seenB)) =
      some (some (openGood viewq loose0, (Hook.val hk0) (w.withFollow "special-get-raises" false)), some (openGood viewq loose0, (Hook.val hk0) (w.withFollow "special-get-raises" true)))
theorem lp_lb {w : World} (h : LP w) : LB w := by
  obtain ⟨s₀, a, b⟩ := Option.map_eq_some_iff.mp h
  obtain ⟨b1, b2⟩ := Prod.mk.inj b
  have e := World.withFollow_self w "special-get-raises"
  unfold LB openEnds
  rw [a]
  cases hb : w.params.followText "special-get-raises" <;> rw [hb] at e
  · rw [e] at b1; exact b1
  · rw [e] at b2; exact b2
theorem l1 : ∀ w : World, LP (w.withFollow "comprehension-iter-twice" false) := fun w => by kernel_rfl
theorem l2 : ∀ w : World, LP (w.withFollow "comprehension-iter-twice" true) := fun w => by kernel_rfl
theorem left0 : Left0 := fun w => byRow2 "comprehension-iter-twice" (P := LB) (fun w => lp_lb (l1 w)) (fun w => lp_lb (l2 w)) w
set_option maxRecDepth 100000
theorem compTurn_two0 (elt t0 i0 t1 i1 : Expr) (scope : Scope) (pos : Pos) (it acc : Value) (env : Env) :
    compTurn (.ListComp elt [⟨t0, i0, [], 0⟩, ⟨t1, i1, [], 0⟩] scope pos) 0 it acc env = (standAt i0.pos >>= fun _ => pyNext it >>= fun r => match r with
      | none => pure (.done .next)
      | some v => letOwnedTupleGo t0 it v >>= fun _ => assign t0 env v >>= fun _ =>
        (eval i1 env >>= fun x => standAt i1.pos >>= fun _ => foldedSetIterable i1 env x >>= fun x => holding [x] (pyIter x) >>= fun y => runOwn (.compStart (.ListComp elt [⟨t0, i0, [], 0⟩, ⟨t1, i1, [], 0⟩] scope pos) 1 y acc env) env >>= fun _ => 
          again (.compLoop (.ListComp elt [⟨t0, i0, [], 0⟩, ⟨t1, i1, [], 0⟩] scope pos) 0 it acc env))) := by rfl
theorem compTurn_two1 (elt t0 i0 t1 i1 : Expr) (scope : Scope) (pos : Pos) (it acc : Value) (env : Env) :
    compTurn (.ListComp elt [⟨t0, i0, [], 0⟩, ⟨t1, i1, [], 0⟩] scope pos) 1 it acc env = (standAt i1.pos >>= fun _ => pyNext it >>= fun r => match r with
      | none => pure (.done .next)
      | some v => letOwnedTupleGo t1 it v >>= fun _ => assign t1 env v >>= fun _ =>
        (eval elt env >>= fun x => call (.builtin "list.append") [acc, x] >>= fun _ => pure ()) >>= fun _ =>
          again (.compLoop (.ListComp elt [⟨t0, i0, [], 0⟩, ⟨t1, i1, [], 0⟩] scope pos) 1 it acc env)) := by rfl
section
variable {prog : Program} {w : World} {A : Around} {R : Result → Shared → Prop} {E : Value → Shared → Prop} {env : Env}
noncomputable def TKeep (ex : List Addr) (h h' : Heap) : Prop := ∀ b o, b ∉ ex → h.get? b = some o → h'.get? b = some o
theorem two_inner {elt i0 i1 : Expr} {x0 x1 : Str} {p0 p1 : Pos} {scope : Scope} {pos : Pos} {cenv : Env} {C D I ax : Addr} {vs : List Value} {rs : List Str} {c : Str} {t : Tok} (hC : cenv.locals = C)
    (hx1 : cenv.kindOf x1 = some .local) (hp : (cenv.scope.kind == .class || (cenv.scope.kind == .module && cenv.locals != cenv.globals)) = false) (h01 : x0 ≠ x1) (hh : A.handled = none) (hs : StrsAre vs rs)
    (hel : ∀ (s' : Shared) (m' : Str → Option Value) (r : Str) (u : Tok) (Q : Value → Shared → Prop) (E : Value → Shared → Prop), r ∈ rs → s'.heap.Ns C m' → m' x0 = some (.str c t) → m' x1 = some (.str r u) → (∀ t' tk, Q (.str (c ++ r) t') { s' with toks := tk }) → wpAny (model prog w) A (eval elt cenv) Q E s')
    (d1 : I ≠ C) (d2 : I ≠ D) (d3 : C ≠ D) (d4 : ax ≠ I) (d5 : ax ≠ C) (d6 : ax ≠ D) {s : Shared} {m : Str → Option Value} {ys : List Value} {ds : List Str} (hys : StrsAre ys ds) (hyl : ys.length + vs.length ≤ 1000)
    (hi : s.heap.IsListIter I ax 0) (hl : s.heap.IsList ax vs.toArray) (hd : s.heap.get? D = some (LCg.lst ys)) (hn : s.heap.Ns C m) (hm : m x0 = some (.str c t))
    (hR : ∀ h' tk m' ys', TKeep [I, C, D] s.heap h' → h'.Ns C m' → m' x0 = some (.str c t) → h'.get? D = some (LCg.lst ys') → ys'.length = ys.length + vs.length → StrsAre ys' (ds ++ rs.map (c ++ ·)) → R (.ok .next) { s with heap := h', toks := tk }) :
    codeAny (model prog w) A (.compLoop (.ListComp elt [⟨.Name x0 p0, i0, [], 0⟩, ⟨.Name x1 p1, i1, [], 0⟩] scope pos) 1 (.ref I) (.ref D) cenv) R s := by
  subst hC
  have W := Walks.list (prog := prog) (w := w) hh I ax d4 vs.toArray
  have hsz : vs.toArray.size = vs.length := List.size_toArray ..
  rw [hsz] at W
  refine codeAny_loop rfl (fun k s' => ∃ h' tk j ys' m', s' = { s with heap := h', toks := tk } ∧ j ≤ vs.length ∧ k = vs.length + 1 - j ∧ (h'.IsListIter I ax j ∧ h'.IsList ax vs.toArray) ∧ TKeep [I, cenv.locals, D] s.heap h' ∧ h'.Ns cenv.locals m' ∧ m' x0 = some (.str c t) ∧
    h'.get? D = some (LCg.lst ys') ∧ ys'.length = ys.length + j ∧ StrsAre ys' (ds ++ (rs.take j).map (c ++ ·))) (fun k s' hI => ?_) (vs.length + 1)
    ⟨s.heap, s.toks, 0, ys, m, rfl, Nat.zero_le _, rfl, ⟨hi, hl⟩, fun _ _ _ e => e, hn, hm, hd, rfl, by simpa using hys⟩
  obtain ⟨h', tk, j, ys', m', rfl, hj, rfl, hst, hk, hn', hm', hd', hyl', hys'⟩ := hI
  show wpAny _ _ ((compTurn (.ListComp elt [⟨.Name x0 p0, i0, [], 0⟩, ⟨.Name x1 p1, i1, [], 0⟩] scope pos) 1 (.ref I) (.ref D) cenv).onRaise (fun x => do noteFrame x cenv; theTreesLotGoes x)) _ _ _
  refine wpAny_noted ?_
  rw [compTurn_two1]
  refine wpAny_bind (wpAny_standAt (wpAny_bind ?_))
  by_cases hlt : j < vs.length
  · refine W.item j _ _ _ hlt hst fun v h₂ tk₂ hPv hst₂ hk₂ => ?_
    have hv : vs[j]? = some v := by simpa using hPv
    obtain ⟨r, u, rfl, hr⟩ := hs.item j v hv
    refine wpAny_bind (wpAny_of_eq (rfl : letOwnedTupleGo (.Name x1 p1) (.ref I) (.str r u) = pure ()) ?_)
    have hn₂ : h₂.Ns cenv.locals m' := hn'.at' fun o e => hk₂ _ o (by simpa using Ne.symm d1) e
    refine wpAny_bind (wpAny_assign_Name (wpAny_storeName_local hx1 hn₂ (fun h₃ hn₃ hs₃ => ?_) hp))
    refine wpAny_bind (wpAny_bind (hel _ _ r u _ _ (List.mem_of_getElem? hr) hn₃ (by simp [h01, hm']) (by simp) fun t' tk' => ?_))
    have hd₃ : h₃.get? D = some (LCg.lst ys') := hs₃.extBut _ _ (Ne.symm d3) (hk₂ _ _ (by simpa using Ne.symm d2) hd')
    refine wpAny_bind (append_at (hsz := by show ys'.toArray.size ≤ sizeLine; rw [List.size_toArray, sizeLine_eq]; omega) hd₃ fun h₄ hs₄ hd₄ => ?_)
    refine wpAny_pure (wpAny_pure ⟨rfl, vs.length + 1 - (j + 1), by omega, h₄, _, j + 1, ys' ++ [.str (c ++ r) t'], _, rfl, hlt, rfl, ?_, ?_, hn₃.sameBut hs₄ d3, by simp [h01, hm'], ?_, ?_, ?_⟩)
    · refine W.frame _ _ _ hst₂ fun b hb o e => ?_
      have hb' : b = I ∨ b = ax := by simpa using hb
      refine hs₄.extBut b o (fun q => ?_) (hs₃.extBut b o (fun q => ?_) e)
      · rcases hb' with h | h
        · exact d2 (h.symm.trans q)
        · exact d6 (h.symm.trans q)
      · rcases hb' with h | h
        · exact d1 (h.symm.trans q)
        · exact d5 (h.symm.trans q)
    · intro b o hb e
      have hb' : b ≠ I ∧ b ≠ cenv.locals ∧ b ≠ D := by simpa using hb
      exact hs₄.extBut b o hb'.2.2 (hs₃.extBut b o hb'.2.1 (hk₂ b o (by simpa using hb'.1) (hk b o hb e)))
    · exact hd₄.trans (congrArg some (LCg.lst_snoc ys' _))
    · rw [List.length_append, hyl']; simp; omega
    · have e : rs.take (j + 1) = rs.take j ++ [r] := by rw [List.take_add_one, hr]; rfl
      rw [e, List.map_append, ← List.append_assoc]
      exact hys'.append' (.cons _ _ .nil)
  · have ej : j = vs.length := by omega
    subst ej
    refine W.done _ _ _ hst fun h₂ tk₂ hk₂ => ?_
    refine wpAny_pure ?_
    refine hR h₂ tk₂ m' ys' (fun b o hb e => ?_) (hn'.at' fun o e => hk₂ _ o (by simpa using Ne.symm d1) e) hm' (hk₂ _ _ (by simpa using Ne.symm d2) hd') hyl' ?_
    · have hb' : b ≠ I ∧ b ≠ cenv.locals ∧ b ≠ D := by simpa using hb
      exact hk₂ b o (by simpa using hb'.1) (hk b o hb e)
    · have e : rs.take vs.length = rs := by rw [hs.length]; exact List.take_length
      rw [e] at hys'
      exact hys'
theorem two_start {elt i0 i1 t0 t1 : Expr} {scope : Scope} {pos : Pos} {cenv : Env} {it acc : Value} {s : Shared}
    (h0 : codeAny (model prog w) A (.compLoop (.ListComp elt [⟨t0, i0, [], 0⟩, ⟨t1, i1, [], 0⟩] scope pos) 1 it acc cenv) R s)
    (h : wpAny (model prog w) A (pyIter it) (fun it' s' => codeAny (model prog w) A (.compLoop (.ListComp elt [⟨t0, i0, [], 0⟩, ⟨t1, i1, [], 0⟩] scope pos) 1 it' acc cenv) R s')
      (notedBy (model prog w) A cenv fun x s' => R (.error x) s') s) :
    codeAny (model prog w) A (.compStart (.ListComp elt [⟨t0, i0, [], 0⟩, ⟨t1, i1, [], 0⟩] scope pos) 1 it acc cenv) R s := by
  refine codeAny_of_tree ?_
  show wpAny _ _ ((compStart (.ListComp elt [⟨t0, i0, [], 0⟩, ⟨t1, i1, [], 0⟩] scope pos) 1 it acc cenv).onRaise (fun x => do noteFrame x cenv; standAt theWindowsPlace)) _ _ s
  refine wpAny_notedAt ?_
  unfold compStart
  show wpAny _ _ (ask >>= _) _ _ s
  refine wpAny_bind (wpAny_askSetting (wpAny_ite ?_))
  split
  · first
      | exact wpAny_bind (wpAny_pure (wpAny_pure (And.intro rfl h0)))
      | exact wpAny_pure (And.intro rfl h0)
  · refine wpAny_bind (wpAny_rule ?_)
    show wpAny _ _ (standAt i1.pos >>= _) _ _ s
    exact wpAny_bind (wpAny_standAt (wpAny_bind (wpAny_mono h (fun it' s' h' => wpAny_pure (And.intro rfl h')) fun _ _ x => x)))
noncomputable def twoF (tx : Str) (rs : List Str) (i : Nat) : List Str := (tx.cps.toList.take i).flatMap fun c => rs.map ((⟨#[c]⟩ : Str) ++ ·)
noncomputable def TwoJ (s : Shared) (I C D : Addr) (tx : Str) (t : Tok) (vs : List Value) (rs : List Str) (k : Nat) (s' : Shared) : Prop := ∃ h' tk j ys' m', s' = { s with heap := h', toks := tk } ∧ j ≤ tx.cps.size ∧ k = tx.cps.size + 1 - j ∧ h'.IsStrIter I "str_ascii_iterator" tx t j ∧ TKeep [I, C, D] s.heap h' ∧ h'.Ns C m' ∧ h'.get? D = some (LCg.lst ys') ∧ ys'.length = j * vs.length ∧ StrsAre ys' (twoF tx rs j)
theorem two_outer {elt i0 i1 : Expr} {x0 x1 : Str} {p0 p1 : Pos} {scope : Scope} {pos : Pos} {cenv : Env} {C D I ax : Addr} {vs : List Value} {rs : List Str} {tx : Str} {t : Tok} (hC : cenv.locals = C)
    (hx0 : cenv.kindOf x0 = some .local) (hx1 : cenv.kindOf x1 = some .local) (hp : (cenv.scope.kind == .class || (cenv.scope.kind == .module && cenv.locals != cenv.globals)) = false) (h01 : x0 ≠ x1) (hh : A.handled = none) (hs : StrsAre vs rs)
    {s : Shared} {m : Str → Option Value}
    (hel : ∀ (s' : Shared) (m' : Str → Option Value) (c r : Str) (t u : Tok) (Q : Value → Shared → Prop) (E : Value → Shared → Prop), c.length = 1 → r ∈ rs → s'.heap.Ns C m' → m' x0 = some (.str c t) → m' x1 = some (.str r u) → (∀ t' tk, Q (.str (c ++ r) t') { s' with toks := tk }) → wpAny (model prog w) A (eval elt cenv) Q E s')
    (hit : ∀ (s' : Shared) (Q : Value → Shared → Prop) (E : Value → Shared → Prop), TKeep [I, C, D] s.heap s'.heap → Q (.ref ax) s' → wpAny (model prog w) A (eval i1 cenv) Q E s') (hfold : ∀ x, foldedSetIterable i1 cenv x = pure x)
    (d1 : I ≠ C) (d2 : I ≠ D) (d3 : C ≠ D) (d4 : ax ≠ I) (d5 : ax ≠ C) (d6 : ax ≠ D) (hyl : tx.cps.size * vs.length + vs.length ≤ 1000)
    (hi : s.heap.IsStrIter I "str_ascii_iterator" tx t 0) (hl : s.heap.IsList ax vs.toArray) (hd : s.heap.get? D = some (LCg.lst [])) (hn : s.heap.Ns C m)
    (hR : ∀ h' tk m' ys', TKeep [I, C, D] s.heap h' → h'.Ns C m' → h'.get? D = some (LCg.lst ys') → StrsAre ys' (twoF tx rs tx.cps.size) → R (.ok .next) { s with heap := h', toks := tk }) :
    codeAny (model prog w) A (.compLoop (.ListComp elt [⟨.Name x0 p0, i0, [], 0⟩, ⟨.Name x1 p1, i1, [], 0⟩] scope pos) 0 (.ref I) (.ref D) cenv) R s := by
  subst hC
  have W := Walks.strAscii (prog := prog) (w := w) hh I tx t
  refine codeAny_loop rfl (TwoJ s I cenv.locals D tx t vs rs) (fun k s' hI => ?_) (tx.cps.size + 1)
    ⟨s.heap, s.toks, 0, [], m, rfl, Nat.zero_le _, rfl, hi, fun _ _ _ e => e, hn, hd, by simp, .nil⟩
  obtain ⟨h', tk, j, ys', m', rfl, hj, rfl, hst, hk, hn', hd', hyl', hys'⟩ := hI
  show wpAny _ _ ((compTurn (.ListComp elt [⟨.Name x0 p0, i0, [], 0⟩, ⟨.Name x1 p1, i1, [], 0⟩] scope pos) 0 (.ref I) (.ref D) cenv).onRaise (fun x => do noteFrame x cenv; theTreesLotGoes x)) _ _ _
  refine wpAny_noted ?_
  rw [compTurn_two0]
  refine wpAny_bind (wpAny_standAt (wpAny_bind ?_))
  by_cases hlt : j < tx.cps.size
  · refine W.item j _ _ _ hlt hst fun v h₂ tk₂ hPv hst₂ hk₂ => ?_
    obtain ⟨c, u, hc, rfl⟩ := hPv
    refine wpAny_bind (wpAny_of_eq (rfl : letOwnedTupleGo (.Name x0 p0) (.ref I) (.str ⟨#[c]⟩ u) = pure ()) ?_)
    have hn₂ : h₂.Ns cenv.locals m' := hn'.at' fun o e => hk₂ _ o (by simpa using Ne.symm d1) e
    refine wpAny_bind (wpAny_assign_Name (wpAny_storeName_local hx0 hn₂ (fun h₃ hn₃ hs₃ => ?_) hp))
    have hk₃ : TKeep [I, cenv.locals, D] s.heap h₃ := fun b o hb e => by
      have hb' : b ≠ I ∧ b ≠ cenv.locals ∧ b ≠ D := by simpa using hb
      exact hs₃.extBut b o hb'.2.1 (hk₂ b o (by simpa using hb'.1) (hk b o hb e))
    have hst₃ : h₃.IsStrIter I "str_ascii_iterator" tx t (j + 1) := W.frame (j + 1) _ _ hst₂ fun b hb o e => hs₃.extBut b o (fun q => d1 ((List.mem_singleton.mp hb).symm.trans q)) e
    have hl₃ : h₃.IsList ax vs.toArray := by
      obtain ⟨o, e, r⟩ := hl
      exact ⟨o, hk₃ ax o (by simp [d4, d5, d6]) e, r⟩
    have hd₃ : h₃.get? D = some (LCg.lst ys') := hs₃.extBut _ _ (Ne.symm d3) (hk₂ _ _ (by simpa using Ne.symm d2) hd')
    refine wpAny_bind (hit _ _ _ hk₃ ?_)
    refine wpAny_bind (wpAny_standAt (wpAny_bind (wpAny_of_eq (hfold _) (wpAny_bind (wpAny_holding (wpAny_pyIter_list hl₃ ?_))))))
    have up : ∀ b o, h₃.get? b = some o → (h₃.push { cls := .type "list_iterator", data := .fields #[.ref ax, .int 0 0] }).get? b = some o := fun b o e => Heap.get?_push_of_some _ e
    have lt : ∀ b o, h₃.get? b = some o → b ≠ h₃.objs.size := fun b o e => Nat.ne_of_lt (Heap.lt_size e)
    obtain ⟨oax, eax, rax⟩ := hl₃
    obtain ⟨oI, eI, rI⟩ := hst₃
    have hCs : cenv.locals ≠ h₃.objs.size := Nat.ne_of_lt hn₃.lt
    have hjv : (j + 1) * vs.length ≤ tx.cps.size * vs.length := Nat.mul_le_mul_right _ hlt
    have e1 : (j + 1) * vs.length = j * vs.length + vs.length := by rw [Nat.add_mul, Nat.one_mul]
    have hiter : (h₃.push { cls := .type "list_iterator", data := .fields #[.ref ax, .int 0 0] }).IsListIter h₃.objs.size ax 0 := ⟨_, Heap.get?_push_size _ rfl, rfl, rfl⟩
    have loop : codeAny (model prog w) (A.mark none) (.compLoop (.ListComp elt [⟨.Name x0 p0, i0, [], 0⟩, ⟨.Name x1 p1, i1, [], 0⟩] scope pos) 1 (.ref h₃.objs.size) (.ref D) cenv) (fun r s' => match r with
        | .ok f => wpAny (model prog w) A (again (.compLoop (.ListComp elt [⟨.Name x0 p0, i0, [], 0⟩, ⟨.Name x1 p1, i1, [], 0⟩] scope pos) 0 (.ref I) (.ref D) cenv)) (fun (fin : PySem.Fin) s' => match fin with
            | .done f => R (.ok f) s'
            | .again c' => c' = .compLoop (.ListComp elt [⟨.Name x0 p0, i0, [], 0⟩, ⟨.Name x1 p1, i1, [], 0⟩] scope pos) 0 (.ref I) (.ref D) cenv ∧ ∃ m, m < tx.cps.size + 1 - j ∧ TwoJ s I cenv.locals D tx t vs rs m s') (notedBy (model prog w) A cenv fun e s' => R (.error e) s') s'
        | .error e => cameBackBy (model prog w) A cenv (notedBy (model prog w) A cenv fun e s' => R (.error e) s') e s')
        { s with heap := h₃.push { cls := .type "list_iterator", data := .fields #[.ref ax, .int 0 0] }, toks := tk₂ + 1 } := by
      refine two_inner (c := ⟨#[c]⟩) (t := u) rfl hx1 hp h01 hh hs (fun s' m' r u' Q E hr hn hm hm' hq => hel s' m' ⟨#[c]⟩ r u u' Q E rfl hr hn hm hm' hq) (Ne.symm hCs) (Ne.symm (lt _ _ hd₃)) d3 (lt _ _ eax) d5 d6 hys' (by omega) hiter ⟨oax, up _ _ eax, rax⟩ (up _ _ hd₃) (hn₃.push _) (by simp) ?_
      intro h₄ tk₄ m₄ ys₄ hk₄ hn₄ hm₄ hd₄ hyl₄ hys₄
      refine wpAny_pure ⟨rfl, tx.cps.size + 1 - (j + 1), by omega, h₄, tk₄, j + 1, ys₄, m₄, rfl, hlt, rfl, ⟨oI, hk₄ _ _ (by simp [lt _ _ eI, d1, d2]) (up _ _ eI), rI⟩, ?_, hn₄, hd₄, by omega, ?_⟩
      · intro b o hb e
        have hb' : b ≠ I ∧ b ≠ cenv.locals ∧ b ≠ D := by simpa using hb
        have e3 := hk₃ b o hb e
        exact hk₄ b o (by simp [lt _ _ e3, hb'.2.1, hb'.2.2]) (up _ _ e3)
      · have hc' : tx.cps.toList[j]? = some c := by simpa using hc
        have e : twoF tx rs (j + 1) = twoF tx rs j ++ rs.map ((⟨#[c]⟩ : Str) ++ ·) := by
          unfold twoF
          rw [List.take_add_one, hc', List.flatMap_append]
          simp
        rw [e]
        exact hys₄
    refine wpAny_bind (wpAny_runOwn (two_start loop (wpAny_pyIter_listiter hiter loop)))
  · have ej : j = tx.cps.size := by omega
    subst ej
    refine W.done _ _ _ hst fun h₂ tk₂ hk₂ => ?_
    refine wpAny_pure ?_
    refine hR h₂ tk₂ m' ys' (fun b o hb e => ?_) (hn'.at' fun o e => hk₂ _ o (by simpa using Ne.symm d1) e) (hk₂ _ _ (by simpa using Ne.symm d2) hd') hys'
    have hb' : b ≠ I ∧ b ≠ cenv.locals ∧ b ≠ D := by simpa using hb
    exact hk₂ b o (by simpa using hb'.1) (hk b o hb e)
open LCg in
theorem listComp_two {elt i0 i1 : Expr} {x0 x1 : Str} {p0 p1 : Pos} {scope : Scope} {cl : List (Str × Addr)} {pos : Pos} {s : Shared} {h₀ : Heap} {L ax : Addr} {nn : Nat} {m : Str → Option Value} {news : List (Addr × Obj)} {vs : List Value} {rs : List Str} {tx : Str} {Q : Value → Shared → Prop}
    (F : Fr h₀ L s.heap m) (N : News h₀ L s.heap news) (hax : (ax, listOf vs.toArray nn) ∈ news) (hs : StrsAre vs rs) (hh : A.handled = none) (ha : tx.cps.all (· < 128) = true) (hyl : tx.cps.size * vs.length + vs.length ≤ 1000)
    (hclos : closureFor scope env = pure cl) (hcell : ∀ y ∈ scope.names, y.2 ≠ .cell) (hkind : scope.kind = .function)
    (hnames : ∀ y ∈ scope.names, y.2 = .local → scope.names.lookup y.1 = some .local) (hx0 : scope.names.lookup x0 = some .local) (hx1 : scope.names.lookup x1 = some .local) (h01 : x0 ≠ x1)
    (hi0 : ∀ (s' : Shared) (Q : Value → Shared → Prop) (E : Value → Shared → Prop), (∀ t tk, Q (.str tx t) { s' with toks := tk }) → wpAny (model prog w) A (eval i0 env) Q E s')
    (hel : ∀ (C : Addr) (s' : Shared) (m' : Str → Option Value) (c r : Str) (t u : Tok) (Q : Value → Shared → Prop) (E : Value → Shared → Prop), c.length = 1 → r ∈ rs → s'.heap.Ns C m' → m' x0 = some (.str c t) → m' x1 = some (.str r u) → (∀ t' tk, Q (.str (c ++ r) t') { s' with toks := tk }) → wpAny (model prog w) A (eval elt (compEnvC scope cl C env)) Q E s')
    (hit : ∀ (C : Addr) (s' : Shared) (Q : Value → Shared → Prop) (E : Value → Shared → Prop), (∀ p ∈ news, s'.heap.get? p.1 = some p.2) → Q (.ref ax) s' → wpAny (model prog w) A (eval i1 (compEnvC scope cl C env)) Q E s') (hfold : ∀ C x, foldedSetIterable i1 (compEnvC scope cl C env) x = pure x)
    (hfold0 : ∀ x, foldedSetIterable i0 env x = pure x)
    (hQ : ∀ D ys h' tk, Fr h₀ L h' m → News h₀ L h' ((D, lst ys) :: news) → (∀ p ∈ news, p.1 < D) → StrsAre ys (twoF tx rs tx.cps.size) → Q (.ref D) { s with heap := h', toks := tk }) :
    wpAny (model prog w) A (eval (.ListComp elt [⟨.Name x0 p0, i0, [], 0⟩, ⟨.Name x1 p1, i1, [], 0⟩] scope pos) env) Q E s := by
  rw [eval_ListComp]
  refine wpAny_comprehension_free (use := none) rfl hfold0 hclos hkind hnames (hi0 _ _ _ fun t tk => ?_)
  refine wpAny_pyIter_ascii ha ?_
  dsimp only
  generalize hH1 : s.heap.push { cls := .type "str_ascii_iterator", data := .fields #[.str tx t, .int 0 0] } = H1
  refine wpAny_newObj_type (wpAny_newFunctionEnv hcell (by intro y hy; simp at hy) (fun h₁ hns₁ hsb₁ => ?_) hkind)
  dsimp only at hns₁ hsb₁ ⊢
  generalize hH2 : H1.push { cls := .type "list", dict := none, data := .seq ([] : List Value).toArray } = H2 at hns₁ hsb₁ ⊢
  have s1 : H1.objs.size = s.heap.objs.size + 1 := by rw [← hH1, Heap.size_push]
  have s2 : H2.objs.size = s.heap.objs.size + 2 := by rw [← hH2, Heap.size_push, s1]
  have k1 : ∀ b o, s.heap.get? b = some o → H1.get? b = some o := fun b o e => hH1 ▸ Heap.get?_push_of_some _ e
  have k2 : ∀ b o, H1.get? b = some o → H2.get? b = some o := fun b o e => hH2 ▸ Heap.get?_push_of_some _ e
  have n1 : H1.get? s.heap.objs.size = some { cls := .type "str_ascii_iterator", data := .fields #[.str tx t, .int 0 0] } := hH1 ▸ Heap.get?_push_size _ rfl
  have n2 : H2.get? H1.objs.size = some (lst []) := hH2 ▸ Heap.get?_push_size _ rfl
  have old : ∀ b o, s.heap.get? b = some o → b < s.heap.objs.size ∧ h₁.get? b = some o := fun b o e =>
    ⟨Heap.lt_size e, hsb₁.extBut b o (Nat.ne_of_lt (Nat.lt_of_lt_of_le (Heap.lt_size e) (by rw [s2]; omega))) (Heap.get?_push_of_some _ (k2 _ _ (k1 _ _ e)))⟩
  have eI : h₁.get? s.heap.objs.size = some { cls := .type "str_ascii_iterator", data := .fields #[.str tx t, .int 0 0] } := hsb₁.extBut _ _ (Nat.ne_of_lt (by rw [s2]; omega)) (Heap.get?_push_of_some _ (k2 _ _ n1))
  have eD : h₁.get? H1.objs.size = some (lst []) := hsb₁.extBut _ _ (Nat.ne_of_lt (by rw [s1, s2]; omega)) (Heap.get?_push_of_some _ n2)
  have eax := old ax _ (N _ hax).1
  have loop : codeAny (model prog w) A (.compLoop (.ListComp elt [⟨.Name x0 p0, i0, [], 0⟩, ⟨.Name x1 p1, i1, [], 0⟩] scope pos) 0 (.ref s.heap.objs.size) (.ref H1.objs.size) (compEnvC scope cl H2.objs.size env))
      (compPost (model prog w) A E none Q (.ref H1.objs.size) H2.objs.size) { s with heap := h₁, toks := tk + ([] : List (Str × Value)).length } := by
    refine two_outer (cenv := compEnvC scope cl H2.objs.size env) (C := H2.objs.size) (D := H1.objs.size) (I := s.heap.objs.size) (ax := ax) (t := t) rfl (lookup_relabel_local hx0) (lookup_relabel_local hx1) (by simp [compEnvC, relabel, hkind]) h01 hh hs (hel _) (fun s' Q E hk q => hit _ s' Q E (fun p hp => ?_) q) (hfold _)
      (by rw [s2]; exact Nat.ne_of_lt (by omega)) (by rw [s1]; exact Nat.ne_of_lt (by omega)) (by rw [s1, s2]; exact Nat.ne_of_gt (by omega)) (Nat.ne_of_lt eax.1) (Nat.ne_of_lt (Nat.lt_of_lt_of_le eax.1 (by rw [s2]; omega))) (Nat.ne_of_lt (Nat.lt_of_lt_of_le eax.1 (by rw [s1]; omega))) hyl ⟨_, eI, rfl, rfl⟩ ⟨_, eax.2, rfl, nn, rfl⟩ eD hns₁ ?_
    · have e := old p.1 p.2 (N p hp).1
      exact hk _ _ (by simp; refine ⟨Nat.ne_of_lt e.1, Nat.ne_of_lt (Nat.lt_of_lt_of_le e.1 (by rw [s2]; omega)), Nat.ne_of_lt (Nat.lt_of_lt_of_le e.1 (by rw [s1]; omega))⟩) e.2
    · intro h' tk' m' ys hk hn' hd' hys
      refine ⟨m', hn', fun h'' hs'' => ?_⟩
      have all : ∀ b o, s.heap.get? b = some o → h''.get? b = some o := fun b o e => by
        have q := old b o e
        have q2 : b ≠ H2.objs.size := Nat.ne_of_lt (Nat.lt_of_lt_of_le q.1 (by rw [s2]; omega))
        exact hs''.extBut b o q2 (hk _ _ (by simp; exact ⟨Nat.ne_of_lt q.1, q2, Nat.ne_of_lt (Nat.lt_of_lt_of_le q.1 (by rw [s1]; omega))⟩) q.2)
      refine hQ _ ys h'' tk' (F.keeps all) (fun p hp => ?_) (fun p hp => by rw [s1]; exact Nat.lt_succ_of_lt (Heap.lt_size (N p hp).1)) hys
      rcases List.mem_cons.mp hp with rfl | hp
      · refine ⟨hs''.extBut _ _ (Nat.ne_of_lt (by rw [s1, s2]; omega)) hd', Nat.ne_of_gt (Nat.lt_of_lt_of_le F.ns.lt (by rw [s1]; omega)), ?_⟩
        cases z : h₀.get? H1.objs.size with
        | none => rfl
        | some o => exact absurd (Heap.lt_size (F.keep _ _ z)) (by rw [s1]; exact Nat.not_lt.mpr (Nat.le_succ _))
      · exact ⟨all _ _ (N p hp).1, (N p hp).2⟩
  exact codeAny_compStart_list loop (wpAny_pyIter_striter_ascii ⟨_, eI, rfl, rfl⟩ loop)
theorem two_elt {x0 x1 : Str} {q0 q1 : Pos} {bp : Pos} {scope : Scope} {cl : List (Str × Addr)} {C : Addr} {s : Shared} {m : Str → Option Value} {c r : Str} {t u : Tok} {Q : Value → Shared → Prop} {E : Value → Shared → Prop} (hkind : scope.kind = .function) (hx0 : scope.names.lookup x0 = some .local) (hx1 : scope.names.lookup x1 = some .local)
    (hd0 : (x0 == ("__debug__" : Str)) = false) (hd1 : (x1 == ("__debug__" : Str)) = false) (hl : c.length + r.length ≤ 1000) (hn : s.heap.Ns C m) (h0 : m x0 = some (.str c t)) (h1 : m x1 = some (.str r u)) (h : ∀ t' tk, Q (.str (c ++ r) t') { s with toks := tk }) :
    wpAny (model prog w) A (eval (.BinOp (.Name x0 q0) .Add (.Name x1 q1) bp) (compEnvC scope cl C env)) Q E s := by
  have hk : (compEnvC scope cl C env).scope.kind = .function := by simp [compEnvC, relabel, hkind]
  refine wpAny_BinOp (wpAny_Name (wpAny_loadName_local hk (lookup_relabel_local hx0) hn h0 ?_) hd0)
  refine wpAny_Name (wpAny_loadName_local hk (lookup_relabel_local hx1) hn h1 ?_) hd1
  exact add_str h (by rw [sizeLine_eq]; omega)
end
theorem nm_len {i : Nat} (h : i < 3) : (nmN i).length ≤ 13 ∧ ∀ r ∈ nmN i, r.length ≤ 3 := by
  have q : i = 0 ∨ i = 1 ∨ i = 2 := by omega
  rcases q with rfl | rfl | rfl <;> decide +kernel
theorem nm_step (i : Nat) : Str.ofString "" :: twoF (Str.ofString "abc") (nmN i) (Str.ofString "abc").cps.size = nmN (i + 1) := by
  show _ = Str.ofString "" :: _
  unfold twoF
  rfl
set_option maxRecDepth 100000
set_option maxHeartbeats 2000000
set_option Elab.async false
open Sem (wp)
local macro_rules | `(tactic| wp_step) => `(tactic| (first
  | with_reducible (first
      | refine wpAny_pure ?_ | refine wpAny_bind ?_ | refine wpAny_holding ?_ | refine wpAny_standAt ?_ | refine wpAny_point ?_ | refine wpAny_rule ?_
      | refine wpAny_letGo ?_ | refine wpAny_mkInt' ?_ | refine wpAny_fresh' ?_ | refine wpAny_alloc' ?_ | refine wpAny_attempt ?_ | refine wpAny_throw ?_
      | refine wpAny_of_eq (by assumption) ?_ | refine wpAny_typeOf (by assumption) ?_
      | refine wpAny_specialOf_val (by assumption) (by assumption) ?_ | refine wpAny_specialOf (by assumption) (by assumption) ?_
      | refine wpAny_isInstance_val (by assumption) (by assumption) ?_ | refine wpAny_isInstance (by assumption) (by assumption) ?_
      | refine wpAny_call ?_ | refine wpAny_runValue ?_ | refine wpAny_run ?_)
  | ((with_reducible refine wpAny_mkStr' (hx := ?hx9) ?_); case hx9 => size_fits)
  | ((with_reducible show wpAny _ _ (load _) _ _ _); (with_reducible apply wpAny_load'); focus (first | (with_reducible assumption; done) | (heap_get; done)))
  | ((with_reducible show wpAny _ _ (update _ _) _ _ _); (with_reducible apply wpAny_update'); focus (first | (with_reducible assumption; done) | (heap_get; done)))
  | ((with_reducible show wpAny _ _ (loadPart _ _) _ _ _); (with_reducible apply wpAny_loadPart'); focus (first | (with_reducible assumption; done) | (heap_get; done)))
  | ((with_reducible show wpAny _ _ (updatePart _ _ _) _ _ _); (with_reducible apply wpAny_updatePart'); focus (first | (with_reducible assumption; done) | (heap_get; done)))
  | ((with_reducible refine wpAny_handled_none ?_ ?_); focus (assumption; done))
  | ((with_reducible refine wpAny_ite_false ?_ ?_); focus (rfl; done))
  | ((with_reducible refine wpAny_ite_true ?_ ?_); focus (rfl; done))
  | ((with_reducible refine wpAny_ite_false ?_ ?_); focus (simp [*]; done))
  | ((with_reducible refine wpAny_ite_true ?_ ?_); focus (simp [*]; done))
  | wp_delta))
theorem typeOf_la : typeOf (.builtin "list.append") = pure (.type "method_descriptor") := by kernel_rfl
theorem slot_md_get : Slot "method_descriptor" "__get__" "method_descriptor.__get__" :=
  .of (owner := "method_descriptor") (n := "__get__") (by rw [typeLookup_type, builtinLookup_eq_fast]; kernel_rfl) (by decide +kernel) (by decide +kernel) (by decide +kernel)
    (by first | exact .inl (by decide +kernel) | exact .inr (by decide +kernel)) (by rw [isSubtype_type]; kernel_rfl)
theorem md_set_none : typeLookup (.type "method_descriptor") "__set__" = pure none := by rw [typeLookup_type, builtinLookup_eq_fast]; kernel_rfl
theorem md_del_none : typeLookup (.type "method_descriptor") "__delete__" = pure none := by rw [typeLookup_type, builtinLookup_eq_fast]; kernel_rfl
theorem entry_md_get : entryFor table "method_descriptor.__get__" = some Builtin.«method_descriptor.__get__» := entryFor_of_tree (by kernel_rfl)
theorem args_md_get (a b c : Value) : argsOk "method_descriptor.__get__" ⟨[a, b, c], []⟩ := by unfold argsOk; kernel_rfl
theorem lk_la : typeLookup (.type "list") "append" = pure (some (.builtin "list.append")) := by rw [typeLookup_type, builtinLookup_eq_fast]; kernel_rfl
theorem sub_ll : isSubtype (.type "list") (.type "list") = pure true := by rw [isSubtype_type]; kernel_rfl
theorem own_la : "list.append".cutAt '.' = ["list", "append"] := by first | rfl | decide +kernel
theorem told_la : Manifest.toldItsClass.contains "list.append" = false := by decide +kernel
theorem owner_la : (".".intercalate ("list.append".cutAt '.').dropLast) = "list" := by rw [own_la]; decide +kernel
theorem sub_la_owner : isSubtype (.type "list") (.type (".".intercalate ("list.append".cutAt '.').dropLast)) = pure true := by rw [owner_la, isSubtype_type]; kernel_rfl
section
variable {prog : Program} {w : World} {A : Around} {E : Value → Shared → Prop} {h : Heap} {g : Array GenState} {d : Drawn} {t : Nat} {os : OsState} {a : Addr} {o : Obj}
theorem md_get_list {R : Result → Shared → Prop} (hx : h.get? a = some o) (hc : o.cls = .type "list")
    (hq : R (.ok (.ret (.ref h.objs.size))) ⟨h.push { cls := .type "builtin_function_or_method", data := .fields #[.builtin "list.append", .ref a] }, g, d, t, os⟩) :
    codeAny (model prog w) A (.call (.builtin "method_descriptor.__get__") ⟨[.builtin "list.append", .ref a, .type "list"], []⟩) R ⟨h, g, d, t, os⟩ := by
  have hT : (⟨h, g, d, t, os⟩ : Shared).TypeIs (.ref a) "list" := ⟨_, hx, hc⟩
  have hT5 : (⟨h, g, d, t, os⟩ : Shared).TypeIs (.builtin "list.append") "method_descriptor" := typeOf_la
  have f8 := sub_la_owner
  have f7 := told_la
  refine codeAny_call_builtin slot_md_get.plain entry_md_get (slot_md_get.check _ _ _ _ _ _ _ _ hT5 (args_md_get _ _ _) ?_)
  repeat (any_goals (first | assumption | wp_step))
theorem entry_ga_la {tk : Tok} {Q : Fin → Shared → Prop} {xs : Array Value} {k : Nat} {sl : Array (Option Value)} (hx : h.get? a = some { cls := .type "list", dict := none, data := .seq xs k, slots := sl }) (hq : Q (.done (.ret (.ref h.objs.size))) ⟨h.push { cls := .type "builtin_function_or_method", data := .fields #[.builtin "list.append", .ref a] }, g, d, t, os⟩) :
    wpAny (model prog w) A (Builtin.«object.__getattribute__» ⟨[.ref a, .str "append" tk], []⟩) Q E ⟨h, g, d, t, os⟩ := by
  have hT : (⟨h, g, d, t, os⟩ : Shared).TypeIs (.ref a) "list" := ⟨_, hx, rfl⟩
  have hT5 : (⟨h, g, d, t, os⟩ : Shared).TypeIs (.builtin "list.append") "method_descriptor" := typeOf_la
  have f4 := lk_la
  have f5 := typeOf_la
  have f6 := slot_md_get.lookup
  have f7 := md_set_none
  have f8 := md_del_none
  repeat (any_goals (first | assumption | wp_step))
  refine md_get_list hx rfl ?_
  repeat (any_goals (first | assumption | wp_step))
theorem call_ga_la {tk : Tok} {R : Result → Shared → Prop} {xs : Array Value} {k : Nat} {sl : Array (Option Value)} (hx : h.get? a = some { cls := .type "list", dict := none, data := .seq xs k, slots := sl }) (hq : R (.ok (.ret (.ref h.objs.size))) ⟨h.push { cls := .type "builtin_function_or_method", data := .fields #[.builtin "list.append", .ref a] }, g, d, t, os⟩) :
    codeAny (model prog w) A (.call (.builtin "list.__getattribute__") ⟨[.ref a, .str "append" tk], []⟩) R ⟨h, g, d, t, os⟩ :=
  codeAny_call_builtin F.slot_list_getattribute.plain F.entry_list_ga (F.slot_list_getattribute.check _ _ _ _ _ _ _ _ (show (⟨h, g, d, t, os⟩ : Shared).TypeIs (.ref a) "list" from ⟨_, hx, rfl⟩) (F.args_list_getattribute_2 _ _) (entry_ga_la hx hq))
theorem getAttr_append {xs : Array Value} {k : Nat} {sl : Array (Option Value)} {s : Shared} {Q : Value → Shared → Prop} (hx : s.heap.get? a = some { cls := .type "list", dict := none, data := .seq xs k, slots := sl })
    (hq : Q (.ref s.heap.objs.size) { s with heap := s.heap.push { cls := .type "builtin_function_or_method", data := .fields #[.builtin "list.append", .ref a] }, toks := s.toks + 1 }) :
    wpAny (model prog w) A (getAttr (.ref a) "append" true) Q E s := by
  obtain ⟨h, g, d, t, os⟩ := s
  have hT : ∀ t, (⟨h, g, d, t, os⟩ : Shared).TypeIs (.ref a) "list" := fun _ => ⟨_, hx, rfl⟩
  have f2 := F.slot_list_getattribute.lookup
  have f3 := F.slot_list_getattribute.bind (.ref a)
  unfold getAttr getAttrBy
  repeat (any_goals (first | assumption | exact hT _ | wp_step))
  refine call_ga_la hx ?_
  repeat (any_goals (first | assumption | exact hT _ | wp_step))
end

theorem sub_lm : isSubtype (.type "list") (.type "module") = pure false := by rw [isSubtype_type]; kernel_rfl
theorem va_la : Manifest.varargsMethods.contains "list.append" = false := by decide +kernel
section
variable {prog : Program} {w : World} {A : Around} {E : Value → Shared → Prop} {D M : Addr} {s : Shared} 
theorem bound_append {its : Array Value} {n : Nat} {x : Value} {Q : Value → Shared → Prop} (hM : s.heap.get? M = some { cls := .type "builtin_function_or_method", data := .fields #[.builtin "list.append", .ref D] }) (ho : s.heap.get? D = some { cls := .type "list", data := .seq its n })
    (h : ∀ h', Heap.SameBut D s.heap h' → h'.get? D = some { cls := .type "list", data := .seq (its.push x) (n + 1) } → Q .none { s with heap := h' })
    (hsz : its.size ≤ sizeLine) :
    wpAny (model prog w) A (call (.ref M) [x]) Q E s := by
  obtain ⟨hp, g, d, t, os⟩ := s
  refine wpAny_call (codeAny_of_tree ?_)
  show wpAny _ A.in1 (callAny (.ref M) ⟨[x], []⟩) _ _ _
  have hT : (⟨hp, g, d, t, os⟩ : Shared).TypeIs (.ref D) "list" := ⟨_, ho, rfl⟩
  have f1 : isSubtype ({ cls := Value.type "list", data := Data.seq its n } : Obj).cls (.type "module") = pure false := sub_lm
  have f2 := va_la
  unfold callAny
  repeat (any_goals (first | with_reducible assumption | wp_step))
  refine ⟨Code.quiet_builtin _ (by decide +kernel), codeAny_builtin entry_list_append ?_⟩
  show wpAny _ _ (updateSeq D (·.push x) >>= fun _ => ret .none) _ _ _
  refine wpAny_bind ?_
  refine wpAny_updateSeq ho rfl (wpAny_pure (h _ (Heap.SameBut.update ..) ?_))
  rw [Heap.get?_update_self _ ho (by rw [mapSeq_push]; rfl), mapSeq_push]

noncomputable abbrev bmO (D : Addr) : Obj := { cls := .type "builtin_function_or_method", data := .fields #[.builtin "list.append", .ref D] }
variable {Q : Value → Shared → Prop} {h₀ : Heap} {L : Addr} {m : Str → Option Value} {news news' : List (Addr × Obj)} {its : Array Value} {n : Nat} {x : Value}
theorem getAttr_appendK (F : Fr h₀ L s.heap m) (N : News h₀ L s.heap news) (hm : (D, listOf its n) ∈ news)
    (h : ∀ D', D' = D → ∀ M h' tk, Fr h₀ L h' m → News h₀ L h' ((M, bmO D) :: news) → (∀ p ∈ news, p.1 < M) → Q (.ref M) { s with heap := h', toks := tk }) :
    wpAny (model prog w) A (getAttr (.ref D) "append" true) Q E s :=
  getAttr_append (N _ hm).1 (h _ rfl _ _ _ (F.push _) (N.push F _) fun q hq => Heap.lt_size (N q hq).1)
theorem bound_appendK (F : Fr h₀ L s.heap m) (N : News h₀ L s.heap news) (hM : (M, bmO D) ∈ news) (U : Upd D (listOf its n) (listOf (its.push x) (n + 1)) news news')
    (h : ∀ h', Fr h₀ L h' m → News h₀ L h' news' → Q .none { s with heap := h' }) (hsz : its.size ≤ sizeLine) : wpAny (model prog w) A (call (.ref M) [x]) Q E s := by
  obtain ⟨pre, post, rfl, rfl, a, b⟩ := U.split
  have z := N (D, listOf its n) (List.mem_append.mpr (.inr (.head _)))
  exact bound_append (N _ hM).1 z.1 (fun h' hs ho' => h h' (F.change hs z.2.1 z.2.2) (news_set N a b hs ho')) hsz
noncomputable def BmAt (u D : Addr) (h : Heap) : Prop := h.get? u = some (bmO D)
theorem bmAt {u : Addr} {h : Heap} (N : News h₀ L h news) (hm : (u, bmO D) ∈ news) : BmAt u D h := (N _ hm).1
theorem callWith_bm {pos : Pos} {u : Addr} {env : Env} {e : Expr} {rest : List Expr}
    (h : wpAny (model prog w) A (spliced (backTo pos (starEach (e :: rest) env))) (fun vs s₁ => BmAt u D s₁.heap ∧ wpAny (model prog w) A (call (.ref u) vs) Q E s₁) E s)
    (he : starEach (e :: rest) env = (false, eval e env) :: starEach rest env := by rfl) (hplain : (backTo pos (starEach rest env)).any (·.1) = false := by rfl) :
    wpAny (model prog w) A (callWith pos (.ref u) [] (backTo pos (starEach (e :: rest) env)) []) Q E s := by
  rw [he] at h ⊢
  have hst : ((backTo pos ((false, eval e env) :: starEach rest env)).any (fun x => x.fst) || ([] : List (Option Str × Sem Value)).any fun x => x.fst.isNone) = false := by
    show ((false || (backTo pos (starEach rest env)).any (·.1)) || false) = false
    rw [hplain]; rfl
  unfold callWith
  refine wpAny_bind (wpAny_holding (Calls.evalArgs_plain (wpAny_mono h (fun vs s₁ h₁ => ?_) fun _ _ x => x)))
  obtain ⟨hM, hcall⟩ := h₁
  refine wpAny_bind (wpAny_standAt ?_)
  rw [hst]
  refine wpAny_bind (m := keeperOf (.ref u)) ?_
  unfold keeperOf
  refine wpAny_bind (wpAny_load hM ?_)
  simp only [bmO, show (Value.type "builtin_function_or_method" != Value.type "method") = true by decide, show (Value.type "builtin_function_or_method" == Value.type "builtin_function_or_method" || Value.type "builtin_function_or_method" == Value.type "method-wrapper") = true by decide, if_true]
  refine wpAny_pure ?_
  exact wpAny_bind (wpAny_mono hcall (fun r s₂ hr => wpAny_bind (wpAny_holding (wpAny_point (wpAny_pure hr)))) fun _ _ x => x)
end

theorem forIn_one {β : Type} (a : Nat) (b : β) (f : Nat → β → Sem (ForInStep β)) : forIn (#[a] : Array Nat) b f = (f a b >>= fun r => match r with | .done b => pure b | .yield b => pure b) := by
  rfl
noncomputable def smOkE (e : DictEntry) : Bool := match e.key with
  | .int k _ => e.hash == hashInt k
  | _ => false
theorem sm_keys {prog : Program} {w : World} {es : Array DictEntry} (q : es.all smOkE = true) : KeysOf (intKind prog w) es := by
  intro e he
  have z := (Array.all_eq_true_iff_forall_mem.mp q) e he
  unfold smOkE at z
  cases hk : e.key with
  | int k t => rw [hk] at z; exact ⟨k, by simp [intKind, Value.isInt], by simpa [intKind] using z⟩
  | _ => rw [hk] at z; simp at z
theorem sm_map {prog : Program} {w : World} {h : Heap} (X : (KF w.params).In h) : ∃ f, h.MapOf (intKind prog w) 101 f ∧ f 97 = none ∧ f 98 = none ∧ f 99 = none := by
  refine ⟨_, ⟨_, _, _, X 101 _ (by rfl), ⟨rfl, rfl, rfl⟩, rfl, sm_keys (by kernel_rfl), fun _ => rfl⟩, by kernel_rfl, by kernel_rfl, by kernel_rfl⟩
theorem sub_KL : isSubtype (.type "KeyError") (.type "LookupError") = pure true := by rw [isSubtype_type]; kernel_rfl
section
variable {prog : Program} {w : World} {A : Around} {E : Value → Shared → Prop} {s : Shared}
theorem look_keep {c : Nat} {f : Int → Option Value} {Q : Builtin.Str.Mapped → Shared → Prop} (hm : s.heap.MapOf (intKind prog w) 101 f) (hf : f (c : Int) = none) (hh : A.handled = none)
    (h : ∀ h' tk, (∀ b o, s.heap.get? b = some o → h'.get? b = some o) → Q .keep { s with heap := h', toks := tk }) : wpAny (model prog w) A (Builtin.Str.tableLookup (.ref 101) c) Q E s := by
  unfold Builtin.Str.tableLookup
  refine wpAny_bind (wpAny_attempt (wpAny_bind (wpAny_mkInt (wpAny_getItem_missing_of (knd := intKind prog w) (f := f) (k := (c : Int)) (by simp [intKind, Value.isInt]) (by decide) hh hm hf fun h' e hx => ?_))))
  obtain ⟨ob, t, he, hc, hd⟩ := hx.there
  have hT : (⟨h', s.gens, s.drawn, s.toks + 1 + 1, s.os⟩ : Shared).TypeIs (.ref e) "KeyError" := ⟨_, he, hc⟩
  have f8 := sub_KL
  dsimp only
  repeat (any_goals (first | assumption | wp_step))
  exact h _ _ hx.keeps
theorem trans_keep {c : Nat} {t : Tok} {f : Int → Option Value} {Q : Value → Shared → Prop} (hm : s.heap.MapOf (intKind prog w) 101 f) (hf : f (c : Int) = none) (hc : c < 128) (hh : A.handled = none)
    (h : ∀ h' t' tk, (∀ b o, s.heap.get? b = some o → h'.get? b = some o) → Q (.str ⟨#[c]⟩ t') { s with heap := h', toks := tk }) : wpAny (model prog w) A (call (.builtin "str.translate") [.str ⟨#[c]⟩ t, .ref 101]) Q E s := by
  obtain ⟨hp, g, d, tk, os⟩ := s
  have hT : (⟨hp, g, d, tk, os⟩ : Shared).TypeIs (.str ⟨#[c]⟩ t) "str" := rfl
  refine wpAny_call (codeAny_call_builtin F.slot_str_translate.plain F.entry_str_translate (F.slot_str_translate.check _ _ _ _ _ _ _ _ hT (F.args_str_translate_2 _ _) ?_))
  have hh1 : A.in1.handled = none := hh
  have tl := fun {Q : Builtin.Str.Mapped → Shared → Prop} {E : Value → Shared → Prop} => look_keep (A := A.in1) (Q := Q) (E := E) hm hf hh1
  unfold Builtin.«str.translate»
  repeat (any_goals (first | assumption | ((with_reducible show wpAny _ _ (Builtin.Str.tableLookup _ _) _ _ _); refine tl fun h2 tk2 hk2 => ?_) | wp_step))
  all_goals first | exact h _ _ _ hk2
end

section
variable {prog : Program} {w : World} {A : Around} {E : Value → Shared → Prop} {s : Shared} {h₀ : Heap} {L : Addr} {m : Str → Option Value} {news : List (Addr × Obj)} {x : Str} {t : Tok}
theorem strNoRef : ∀ a, Value.str x t = .ref a → ∃ o, s.heap.get? a = some o ∧ o.dict = none := fun _ e => nomatch e
theorem gm_translate {pl : Sem Bool} {Q : Value × List Value → Shared → Prop} (h : Q (.builtin "str.translate", [.str x t]) s) : wpAny (model prog w) A (getMethod (.str x t) "translate" pl) Q E s := by
  refine getMethod_builtin (T := "str") (id := "str.translate") ?h0 ?a ?b ?c ?d ?h
  case h0 => exact typeIs_str _ _ _
  case a => exact F.plainAttrs_str
  case b => exact F.slot_str_translate
  case c => exact F.type_str_translate
  case d => exact strNoRef
  case h => exact h
theorem trans_K {c : Nat} {Q : Value → Shared → Prop} (F : Fr h₀ L s.heap m) (N : News h₀ L s.heap news) (X : (KF w.params).In h₀) (hh : A.handled = none) (hx : x = ⟨#[c]⟩) (hc : c = 97 ∨ c = 98 ∨ c = 99)
    (h : ∀ h' t' tk, Fr h₀ L h' m → News h₀ L h' news → Q (.str x t') { s with heap := h', toks := tk }) : wpAny (model prog w) A (call (.builtin "str.translate") [.str x t, .ref 101]) Q E s := by
  subst hx
  obtain ⟨f, hm, h1, h2, h3⟩ := sm_map (prog := prog) (w := w) (X.keeps F.keep)
  refine trans_keep hm ?_ (by omega) hh fun h' t' tk hk => h h' t' tk (F.keeps hk) (N.grown hk)
  rcases hc with rfl | rfl | rfl
  · exact h1
  · exact h2
  · exact h3
end

section
open Builtin Builtin.Str
variable {prog : Program} {w : World} {A : Around} {E : Value → Shared → Prop} {s : Shared} {Q : Value → Shared → Prop} {x y z : Str} {t u v t2 : Tok}
theorem rep_none (h : (occurrences x y 0 x.length (x.length + 1)).isEmpty = true) (hq : Q (.str x t) s) : wpAny (model prog w) A (call (.builtin "str.replace") [.str x t, .str y u, .str z v]) Q E s := by
  refine call_gives F.slot_str_replace (typeIs_str _ _ _) F.entry_str_replace (F.args_str_replace_3 _ _ _) (gives_str_replace x y z t u v fun e => ?_) ?_
  · rw [h] at e; simp at e
  · rw [h]; exact hq
theorem notIn_w {b : Bool} (h : (!(!(occurrences x y 0 x.length 1).isEmpty)) = b) (hq : Q (.bool b) s) : wpAny (model prog w) A (compareOp .NotIn (.str y u) (.str x t)) Q E s := by
  subst h
  exact PyProof.Rows.notIn_str hq
theorem gives_find_to {i j : Int} : «str.find» ⟨[.str x t, .str y u, .int i v, .int j t2], []⟩ = (match occurrences x y (fromIndex x.length i) (min (fromIndex x.length j) x.length) 1 with | k :: _ => retInt k | [] => (do rule "str.find.not-found"; retInt (-1))) := by rfl
theorem gives_find_from {i : Int} : «str.find» ⟨[.str x t, .str y u, .int i v], []⟩ = (match occurrences x y (fromIndex x.length i) (min x.length x.length) 1 with | k :: _ => retInt k | [] => (do rule "str.find.not-found"; retInt (-1))) := by rfl
theorem gives_hit {i j : Int} {p : Nat} (h : occurrences x y (fromIndex x.length i) (min (fromIndex x.length j) x.length) 1 = [p]) : Gives («str.find» ⟨[.str x t, .str y u, .int i v, .int j t2], []⟩) (.int p) := by
  rw [gives_find_to, h]; exact .of_eq rfl
theorem gives_miss {i j : Int} (h : occurrences x y (fromIndex x.length i) (min (fromIndex x.length j) x.length) 1 = []) : Gives («str.find» ⟨[.str x t, .str y u, .int i v, .int j t2], []⟩) (.int (-1)) := by
  rw [gives_find_to, h]; exact .rule (.of_eq rfl)
theorem gives_hit3 {i : Int} {p : Nat} (h : occurrences x y (fromIndex x.length i) x.length 1 = [p]) : Gives («str.find» ⟨[.str x t, .str y u, .int i v], []⟩) (.int p) := by
  rw [gives_find_from, Nat.min_self, h]; exact .of_eq rfl
theorem find_hit {i j : Int} {p : Nat} (h : occurrences x y (fromIndex x.length i) (min (fromIndex x.length j) x.length) 1 = [p]) (hq : ∀ t' tk, Q (.int p t') { s with toks := tk }) : wpAny (model prog w) A (call (.builtin "str.find") [.str x t, .str y u, .int i v, .int j t2]) Q E s :=
  call_gives F.slot_str_find (typeIs_str _ _ _) F.entry_str_find (F.args_str_find_4 _ _ _ _) (gives_hit h) (hq _ _)
theorem find_miss {i j : Int} (h : occurrences x y (fromIndex x.length i) (min (fromIndex x.length j) x.length) 1 = []) (hq : ∀ t' tk, Q (.int (-1) t') { s with toks := tk }) : wpAny (model prog w) A (call (.builtin "str.find") [.str x t, .str y u, .int i v, .int j t2]) Q E s :=
  call_gives F.slot_str_find (typeIs_str _ _ _) F.entry_str_find (F.args_str_find_4 _ _ _ _) (gives_miss h) (hq _ _)
theorem find_hit3 {i : Int} {p : Nat} (h : occurrences x y (fromIndex x.length i) x.length 1 = [p]) (hq : ∀ t' tk, Q (.int p t') { s with toks := tk }) : wpAny (model prog w) A (call (.builtin "str.find") [.str x t, .str y u, .int i v]) Q E s :=
  call_gives F.slot_str_find (typeIs_str _ _ _) F.entry_str_find (F.args_str_find_3 _ _ _) (gives_hit3 h) (hq _ _)
end

section
open Builtin Builtin.Re
noncomputable def drv : Nat → Sre.M → Option Sre.M
  | 0, _ => none
  | k + 1, m => if (m.runFor reTurnSteps).outcome.isSome then some (m.runFor reTurnSteps) else drv k (m.runFor reTurnSteps)
noncomputable def isFail (m : Sre.M) : Bool := match m.outcome with
  | some .failed => true
  | _ => false
noncomputable def drvFail (k : Nat) (m : Sre.M) : Bool := match drv k m with
  | some m => isFail m
  | none => false
section
variable {prog : Program} {w : World} {A : Around} {E : Value → Shared → Prop} {s : Shared}
theorem drive_ok {Q : Sre.M → Shared → Prop} : ∀ (k n : Nat) (m m' : Sre.M), k ≤ n → drv k m = some m' → Q m' s → wpAny (model prog w) A (reDrive n m) Q E s
  | 0, _, _, _, _, h, _ => by simp [drv] at h
  | k + 1, 0, _, _, hn, _, _ => absurd hn (by omega)
  | k + 1, n + 1, m, m', hn, h, hq => by
    unfold reDrive
    dsimp only
    unfold drv at h
    by_cases c : (m.runFor reTurnSteps).outcome.isSome = true
    · rw [if_pos c] at h ⊢
      cases h
      exact wpAny_pure hq
    · rw [if_neg c] at h ⊢
      exact wpAny_bind (wpAny_rule (drive_ok k n _ m' (by omega) h hq))
theorem rules_ok {Q : PUnit → Shared → Prop} (c : Nat → Bool) (f : Nat → String) (hq : Q ⟨⟩ s) : ∀ l : List Nat, wpAny (model prog w) A (forIn l PUnit.unit fun i _ => do
      if c i = true then rule (f i)
      pure (ForInStep.yield PUnit.unit)) Q E s
  | [] => wpAny_pure hq
  | i :: l => by
    rw [List.forIn_cons]
    refine wpAny_bind ?_
    by_cases h : c i = true
    · rw [if_pos h]
      exact wpAny_bind (wpAny_rule (wpAny_pure (rules_ok c f hq l)))
    · rw [if_neg h]
      exact wpAny_pure (rules_ok c f hq l)
theorem run_fail {Q : Option Sre.M → Shared → Prop} {m : Sre.M} (k : Nat) (hk : k ≤ 1000) (h : drvFail k m = true) (hq : Q none s) : wpAny (model prog w) A (reRunToEnd m) Q E s := by
  unfold drvFail at h
  cases hd : drv k m with
  | none => rw [hd] at h; simp at h
  | some m' =>
    rw [hd] at h
    unfold reRunToEnd
    refine wpAny_bind (drive_ok k _ m m' (by omega) hd ?_)
    refine wpAny_bind ?_
    refine rules_ok _ _ ?_ _
    dsimp only at h
    unfold isFail at h
    cases ho : m'.outcome with
    | none => rw [ho] at h; simp at h
    | some o =>
      rw [ho] at h
      cases o with
      | failed => exact wpAny_pure hq
      | matched => simp at h
      | stuck w => simp at h
end
noncomputable def reCode : Array Nat := #[14, 14, 4, 1, 1, 9, 0, 64, 0, 1342177280, 0, 0, 0, 0, 0, 17, 0, 13, 11, 9, 0, 64, 0, 1342177280, 0, 0, 0, 0, 0, 17, 1, 1]
noncomputable def reNo (x : Str) : Bool := drvFail 40 (Sre.forSearch reCode x.cps 1 0 x.cps.size false)
theorem slot_re_sub : Slot "re.Pattern" "sub" "re.Pattern.sub" :=
  .of (owner := "re.Pattern") (n := "sub") (by rw [typeLookup_type, builtinLookup_eq_fast]; kernel_rfl) (by decide +kernel) (by decide +kernel) (by decide +kernel)
    (by first | exact .inl (by decide +kernel) | exact .inr (by decide +kernel)) (by rw [isSubtype_type]; kernel_rfl)
theorem type_re_sub : typeOf (.builtin "re.Pattern.sub") = pure (.type "method_descriptor") := by kernel_rfl
theorem entry_re_sub : entryFor table "re.Pattern.sub" = some Builtin.«re.Pattern.sub» := entryFor_of_tree (by kernel_rfl)
theorem entry_re_loop : entryFor table "re.Pattern.sub.loop" = some Builtin.«re.Pattern.sub.loop» := entryFor_of_tree (by kernel_rfl)
theorem args_re_sub (a b c : Value) : argsOk "re.Pattern.sub" ⟨[a, b, c], []⟩ := by unfold argsOk; kernel_rfl
theorem plain_re : PlainAttrs "re.Pattern" where
  ga := ⟨"object.__getattribute__", by rw [typeLookup_type, builtinLookup_eq_fast]; kernel_rfl, by decide +kernel⟩
  noGetattr := by rw [typeLookup_type, builtinLookup_eq_fast]; kernel_rfl
theorem sub_sb : isSubtype (.type "str") (.type "bytearray") = pure false := by rw [isSubtype_type]; kernel_rfl
theorem fn_call : typeLookup (.type "function") "__call__" = pure (some (.builtin "function.__call__")) := by rw [typeLookup_type, builtinLookup_eq_fast]; kernel_rfl
section
variable {prog : Program} {w : World} {A : Around} {E : Value → Shared → Prop} {s : Shared}
theorem slice_ok {text : Array Nat} {b e : Nat} {Q : Value → Shared → Prop} (hs : (text.extract b e).size ≤ 100) (h : ∀ t' tk, Q (.str ⟨text.extract b e⟩ t') { s with toks := tk }) : wpAny (model prog w) A (reSlice text 0 b e) Q E s := by
  show wpAny _ _ (mkStr ⟨text.extract b e⟩) _ _ _
  unfold mkStr
  rw [if_neg (by show ¬ ((text.extract b e).size > sizeLine); rw [sizeLine_eq]; omega)]
  exact wpAny_bind (wpAny_fresh (wpAny_pure (h _ _)))
theorem join_it {D : Addr} {sep x : Str} {u : Tok} {Q : Value → Shared → Prop} (hl : ∃ t, s.heap.IsList D #[.str x t]) (h0 : sep.length = 0) (hx : x.length ≤ 100) (h : ∀ t' tk, Q (.str x t') { s with toks := tk }) : wpAny (model prog w) A (call (.builtin "str.join") [.str sep u, .ref D]) Q E s := by
  obtain ⟨t, hl⟩ := hl
  refine join_list (ys := [x]) hl (.cons _ _ .nil) (by simp [h0]; omega) ?_
  intro t' tk
  exact h t' tk
theorem upd_list {h2 : Heap} {D : Addr} {x y : Str} {t0 : Tok} (hD : h2.get? D = some { cls := .type "list", data := .seq #[] }) (e : y = x) : ∃ t, (h2.update D (Obj.mapSeq (·.push (.str y t0)))).IsList D #[.str x t] := by
  subst e
  exact ⟨t0, _, Heap.get?_update_self _ hD rfl, rfl, 1, rfl⟩
noncomputable abbrev rePat : Obj := ⟨.type "re.Pattern", none, .fields #[.str (Str.ofString "([&~|])") 353, .int 32 388, .int 1 0, .none, .none, .ref 91, .int 0 0], #[]⟩
theorem re_at {h : Heap} (X : (KF w.params).In h) : h.get? 92 = some rePat := X 92 _ (by rfl)
theorem re_at2 {h : Heap} (X : (KF w.params).In h) : ∃ its n, h.get? 91 = some ⟨.type "tuple", none, .seq its n, #[]⟩ ∧ (its.map reRawOf).map (·.toNat) = reCode := ⟨_, _, X 91 _ (by rfl), by kernel_rfl⟩
theorem sub_none {f : Addr} {fo : Obj} {x : Str} {t : Tok} {Q : Value → Shared → Prop} (X : (KF w.params).In s.heap) (hf : s.heap.get? f = some fo) (hfc : fo.cls = .type "function") (hx : reNo x = true) (hx1 : x.cps.size ≤ 100) (hx0 : 0 < x.cps.size) (hh : A.handled = none)
    (h : ∀ h' t' tk, (∀ b o, s.heap.get? b = some o → h'.get? b = some o) → Q (.str x t') { s with heap := h', toks := tk }) : wpAny (model prog w) A (call (.builtin "re.Pattern.sub") [.ref 92, .ref f, .str x t]) Q E s := by
  obtain ⟨hp, g, d, tk, os⟩ := s
  obtain ⟨fc, fdd, fdat, fsl⟩ := fo
  dsimp only at hfc
  subst hfc
  have hT : (⟨hp, g, d, tk, os⟩ : Shared).TypeIs (.ref 92) "re.Pattern" := ⟨_, re_at X, rfl⟩
  have hT2 : ∀ tk, (⟨hp, g, d, tk, os⟩ : Shared).TypeIs (.ref f) "function" := fun _ => ⟨_, hf, rfl⟩
  have e1 := re_at X
  obtain ⟨its, n, e2, e3⟩ := re_at2 X
  have e4 := fn_call
  have e5 := sub_sb
  refine wpAny_call (codeAny_call_builtin slot_re_sub.plain entry_re_sub (slot_re_sub.check _ _ _ _ _ _ _ _ hT (args_re_sub _ _ _) ?_))
  unfold Builtin.«re.Pattern.sub» reSubstitute
  repeat (any_goals (first | assumption | exact hT2 _ | wp_step))
  refine ⟨Code.quiet_builtin _ (by decide +kernel), codeAny_builtin entry_re_loop ?_⟩
  have k1 : ∀ b o, hp.get? b = some o → (hp.push { cls := Value.type "list", data := Data.seq #[] }).get? b = some o := fun b o e => Heap.get?_push_of_some _ e
  have hD : (hp.push { cls := Value.type "list", data := Data.seq #[] }).get? hp.objs.size = some { cls := Value.type "list", data := Data.seq #[] } := Heap.get?_push_size _ rfl
  generalize hp.push { cls := Value.type "list", data := Data.seq #[] } = h2 at k1 hD
  have e1 := k1 _ _ e1
  have e2 := k1 _ _ e2
  have hT3 : (⟨h2, g, d, tk, os⟩ : Shared).TypeIs (.ref 92) "re.Pattern" := ⟨_, e1, rfl⟩
  unfold Builtin.«re.Pattern.sub.loop» reNextFound
  repeat (any_goals (first | assumption | ((with_reducible show wpAny _ _ (reRunToEnd _) _ _ _); refine run_fail 40 (by decide) (by (show drvFail 40 (Sre.forSearch ((its.map reRawOf).map (·.toNat)) x.cps 1 0 x.cps.size false) = true); rw [e3]; exact hx) ?_) | ((with_reducible show wpAny _ _ (reSlice _ _ _ _) _ _ _); refine slice_ok (by first | (show (x.cps.extract 0 x.cps.size).size ≤ 100; rw [Array.extract_size]; exact hx1) | (show (x.cps.extract 0 0).size ≤ 100; simp)) fun t2 tk2 => ?_) | ((fail_if_success (with_reducible show wpAny _ _ (call _ _ _) _ _ _)); wp_step)))
  have ex : x.cps.extract 0 x.cps.size = x.cps := Array.extract_size
  refine join_it (D := hp.objs.size) (x := x) ?_ (by show (x.cps.extract 0 0).size = 0; simp) hx1 fun t3 tk3 => ?_
  · have ey : (⟨x.cps.extract 0 x.cps.size⟩ : Str) = x := by rw [ex]
    exact upd_list hD ey
  repeat (any_goals (first | assumption | wp_step))
  refine h _ _ _ fun b o e => ?_
  exact ((Heap.SameBut.update ..).2 b (Nat.ne_of_lt (Heap.lt_size e))).trans (k1 b o e)
end
end
section
variable {prog : Program} {w : World} {A : Around} {E : Value → Shared → Prop} {s : Shared} {h₀ : Heap} {L : Addr} {m : Str → Option Value} {news : List (Addr × Obj)} {x : Str} {t : Tok}
theorem gm_sub {pl : Sem Bool} {Q : Value × List Value → Shared → Prop} (F : Fr h₀ L s.heap m) (X : (KF w.params).In h₀) (h : Q (.builtin "re.Pattern.sub", [.ref 92]) s) : wpAny (model prog w) A (getMethod (.ref 92) "sub" pl) Q E s :=
  getMethod_builtin ⟨_, re_at (X.keeps F.keep), rfl⟩ plain_re slot_re_sub type_re_sub (fun a e => by injection e with e; subst e; exact ⟨_, re_at (X.keeps F.keep), rfl⟩) h
theorem resub_K {f : Addr} {fo : Obj} {Q : Value → Shared → Prop} (F : Fr h₀ L s.heap m) (N : News h₀ L s.heap news) (X : (KF w.params).In h₀) (hm : (f, fo) ∈ news) (hfc : fo.cls = .type "function") (hx : reNo x = true) (hx1 : x.cps.size ≤ 100) (hx0 : 0 < x.cps.size) (hh : A.handled = none)
    (h : ∀ h' t' tk, Fr h₀ L h' m → News h₀ L h' news → Q (.str x t') { s with heap := h', toks := tk }) : wpAny (model prog w) A (call (.builtin "re.Pattern.sub") [.ref 92, .ref f, .str x t]) Q E s :=
  sub_none (X.keeps F.keep) (N _ hm).1 hfc hx hx1 hx0 hh fun h' t' tk hk => h h' t' tk (F.keeps hk) (N.grown hk)
end

noncomputable def TabOk (ps : Array Value) : Prop := TriplesOk ps.toList ∧ ∀ pos, codeAmong pos ps.toList = none ∨ ∃ c, codeAmong pos ps.toList = some (.ref c)
theorem tab_nil : TabOk #[] := ⟨True.intro, fun _ => .inl rfl⟩
theorem trip_snoc (l : List Value) (h : TriplesOk l) (a b : Int) (t u : Tok) (c : Value) : TriplesOk (l ++ [.int a t, .int b u, c]) := by
  fun_induction TriplesOk l with
  | case1 => exact True.intro
  | case2 x t' y u' z rest ih => exact ih h
  | case3 => exact absurd h id
theorem among_snoc (pos : Pos) (l : List Value) (h : TriplesOk l) (a b : Int) (t u : Tok) (c : Addr) (hl : codeAmong pos l = none ∨ ∃ c, codeAmong pos l = some (.ref c)) :
    codeAmong pos (l ++ [.int a t, .int b u, .ref c]) = none ∨ ∃ c', codeAmong pos (l ++ [.int a t, .int b u, .ref c]) = some (.ref c') := by
  fun_induction TriplesOk l with
  | case1 =>
    simp only [List.nil_append, codeAmong]
    split
    · exact .inr ⟨c, rfl⟩
    · exact .inl rfl
  | case2 x t' y u' z rest ih =>
    simp only [List.cons_append, codeAmong] at hl ⊢
    split
    · rename_i q; rw [if_pos q] at hl
      rcases hl with hl | hl
      · cases hl
      · exact .inr hl
    · rename_i q; rw [if_neg q] at hl
      exact ih h hl
  | case3 => exact absurd h id
theorem tab_snoc {ps : Array Value} (h : TabOk ps) (a b : Int) (t u : Tok) (c : Addr) : TabOk (ps ++ #[.int a t, .int b u, .ref c]) := by
  have e : (ps ++ #[Value.int a t, .int b u, .ref c]).toList = ps.toList ++ [.int a t, .int b u, .ref c] := by simp
  refine ⟨?_, fun pos => ?_⟩
  · rw [e]; exact trip_snoc _ h.1 a b t u _
  · rw [e]; exact among_snoc pos _ h.1 a b t u c (h.2 pos)
section
variable {M : Model} {A : Around} {E : Value → Shared → Prop} {s : Shared} {h₀ : Heap} {L a c P : Addr} {m mg mb : Str → Option Value} {cn : Str} {cs : Scope} {ccd : Value} {cl : List (Str × Addr)} {news : List (Addr × Obj)} {g : Obj → List (Addr × Obj)}
  {p : Program} {loose : List Str} {mean : ExcName → Option Value} {name qual : Str} {params : Arguments} {body : Expr} {scope : Scope} {ps : Array Value} {pos : Pos} {firstLine : Nat} {clos : List (Str × Addr)}
theorem updF_self {d : Addr} {o : Obj} {l : List (Addr × Obj)} {g : Obj → List (Addr × Obj)} (U : UpdF d o l g) : g o = l := by
  obtain ⟨pre, post, e, hg, _⟩ := U.split
  rw [hg, e]
theorem lam_K {Q : Value → Shared → Prop} (F : Fr h₀ L s.heap m) (N : News h₀ L s.heap news) (T : Top p loose mean mg mb h₀) (C : CodeHd h₀ c P) (hcd : ccd = .ref c) (U : UpdF P (tabObj ps) news g) (ht : TabOk ps)
    (hcl : closureFor scope (envX cn cs L a ccd cl) = pure clos)
    (h : ∀ f fo h' tk ps', Fr h₀ L h' m → News h₀ L h' ((f, fo) :: g (tabObj ps')) → fo.cls = .type "function" → TabOk ps' → (∀ q ∈ news, q.1 < f) → Q (.ref f) { s with heap := h', toks := tk }) :
    wpAny M A (makeFunction name qual params (.expr body) scope (envX cn cs L a ccd cl) [] [] [] pos firstLine) Q E s := by
  rcases ht.2 pos with hn | ⟨c', hs⟩
  · refine kla_nest F N T C hcd U ht.1 hn hcl fun f c' oc vs t ctv h' tk F' N' _ _ l1 l2 => ?_
    exact h f _ h' tk _ F' (fun q hq => N' q (by
      rcases List.mem_cons.mp hq with rfl | hq
      · exact List.mem_cons_self
      · exact List.mem_cons_of_mem _ (List.mem_cons_of_mem _ hq))) rfl (tab_snoc ht _ _ _ _ _) fun q hq => Nat.lt_trans (l1 q hq) l2
  · obtain ⟨pre, post, e, hg, _⟩ := id U.split
    have hmem : (P, tabObj ps) ∈ news := by rw [e]; exact List.mem_append_right _ (.head _)
    refine kla_hit F N T C hcd hmem ht.1 hs hcl fun f ctv h' tk F' N' l1 => ?_
    exact h f _ h' tk ps F' (by rw [updF_self U]; exact N') rfl ht l1
end
set_option maxRecDepth 100000
set_option maxHeartbeats 2000000
set_option Elab.async false
theorem called_obj : TypeCalled "object" "object.__new__" "object.__init__" where
  notType := by decide +kernel
  canCreate := by decide +kernel
  mro := ⟨.type "object", [], by kernel_rfl⟩
  made := by kernel_rfl
  plain := by decide +kernel
  sub := by rw [isSubtype_type]; kernel_rfl
  init := F.slot_object_init
theorem typeCall_obj : checkTypeCall "object" ⟨[], []⟩ = pure () := by kernel_rfl
theorem newCall_obj : checkBuiltinCall "object.__new__" ⟨[.type "object"], []⟩ = pure () := by kernel_rfl
theorem mh_obj : Bind.madeHere "object.__new__" (.type "object") = pure () := by kernel_rfl
noncomputable abbrev obO : Obj := { cls := .type "object", data := .plain }
section
variable {prog : Program} {w : World} {A : Around} {E : Value → Shared → Prop} {s : Shared}
theorem call_obj {Q : Value → Shared → Prop} (h : Q (.ref s.heap.objs.size) { s with heap := s.heap.push obO }) : wpAny (model prog w) A (call (.type "object") []) Q E s := by
  obtain ⟨hp, g, d, tk, os⟩ := s
  refine callType_codes (Q₁ := fun obj s₁ => obj = .ref hp.objs.size ∧ s₁ = ⟨hp.push obO, g, d, tk, os⟩) called_obj typeCall_obj F.entry_object_init ?_ ?_
  · refine codeAny_call_builtin (by decide +kernel) F.entry_object_new ?_
    rw [newCall_obj]
    refine wpAny_pure ?_
    have f1 := mh_obj
    unfold Builtin.«object.__new__»
    repeat (any_goals (first | assumption | wp_step))
    exact ⟨rfl, rfl⟩
  · intro obj s₁ h₁
    obtain ⟨rfl, rfl⟩ := h₁
    refine ⟨⟨_, Heap.get?_push_size _ rfl, rfl⟩, F.args_object_init_1 _, ?_⟩
    unfold Builtin.«object.__init__»
    repeat (any_goals (first | assumption | wp_step))
    exact ⟨rfl, h⟩
variable {h₀ : Heap} {L : Addr} {m : Str → Option Value} {news : List (Addr × Obj)}
theorem call_objK {Q : Value → Shared → Prop} (F : Fr h₀ L s.heap m) (N : News h₀ L s.heap news) (h : ∀ S h', Fr h₀ L h' m → News h₀ L h' ((S, obO) :: news) → (∀ p ∈ news, p.1 < S) → Q (.ref S) { s with heap := h' }) : wpAny (model prog w) A (call (.type "object") []) Q E s :=
  call_obj (h _ _ (F.push _) (N.push F _) fun q hq => Heap.lt_size (N q hq).1)
end
set_option Elab.async false
set_option maxRecDepth 100000
set_option maxHeartbeats 8000000
section
variable {prog : Program} {w : World} {A : Around} {E : Value → Shared → Prop} {s : Shared} {Q : Value → Shared → Prop} {h₀ : Heap} {L a b : Addr} {m : Str → Option Value} {news : List (Addr × Obj)} {vs ws : List Value} {ns ms : List Str}
theorem add_ls (F : Fr h₀ L s.heap m) (N : News h₀ L s.heap news) (ha : s.heap.IsList a vs.toArray) (hb : s.heap.IsList b ws.toArray) (hi : StrsAre vs ns) (hj : StrsAre ws ms) (hl : ns.length + ms.length ≤ 1000)
    (h : ∀ D us h', Fr h₀ L h' m → News h₀ L h' ((D, listOf (List.toArray us) 0) :: news) → (∀ p ∈ news, p.1 < D) → StrsAre us (ns ++ ms) → Q (.ref D) { s with heap := h' }) : wpAny (model prog w) A (binaryOp .Add (.ref a) (.ref b)) Q E s :=
  add_lists (hsz := by rw [hi.length, hj.length, sizeLine_eq]; omega) F N ha hb fun h' F' N' => h _ _ h' F' N' (fun p hp => Heap.lt_size (N p hp).1) (hi.append' hj)
end
theorem nm_le {i : Nat} (h : i < 3) : (nmN (i + 1)).length ≤ 40 := by
  have q : i = 0 ∨ i = 1 ∨ i = 2 := by omega
  rcases q with rfl | rfl | rfl <;> decide +kernel
inductive It : List Nat → Str → Prop
  | q : It [63] (Str.ofString ".")
  | lit (c : Nat) (h : c = 97 ∨ c = 98 ∨ c = 99) : It [c] ⟨#[c]⟩
  | in2 (c d : Nat) (h : (c = 97 ∧ d = 98) ∨ (c = 97 ∧ d = 99) ∨ (c = 98 ∧ d = 99)) : It [91, c, d, 93] ⟨#[91, c, d, 93]⟩
  | out1 (c : Nat) (h : c = 97 ∨ c = 98 ∨ c = 99) : It [91, 33, c, 93] ⟨#[91, 94, c, 93]⟩
  | out2 (c d : Nat) (h : (c = 97 ∧ d = 98) ∨ (c = 97 ∧ d = 99) ∨ (c = 98 ∧ d = 99)) : It [91, 33, c, d, 93] ⟨#[91, 94, c, d, 93]⟩
  | rng : It [91, 97, 45, 99, 93] ⟨#[91, 97, 45, 99, 93]⟩
inductive Tk : Bool → List Nat → List (Option Str) → Prop
  | nil : Tk false [] []
  | star {cs ps} : Tk false cs ps → Tk true (42 :: cs) (none :: ps)
  | item {t p cs ps} : It t p → Tk true cs ps → Tk false (t ++ cs) (some p :: ps)
noncomputable def PartsAre (S : Addr) (vs : List Value) (ps : List (Option Str)) : Prop := Al (fun y p => match p with | none => y = .ref S | some x => ∃ t, y = Value.str x t) vs ps
theorem len_cps (x : Str) : x.cps.toList.length = x.length := by simp [Str.length]
section
variable {prog : Program} {w : World} {A : Around} {E : Value → Shared → Prop} {s : Shared} {Q : Value → Shared → Prop} {h₀ : Heap} {L : Addr} {m : Str → Option Value} {news : List (Addr × Obj)} {pat : Str} {pre post : List Nat} {value slice : Expr} {t u : Tok} {i j : Int}
theorem tr_item {k c : Nat} (hpat : pat.cps.toList = pre ++ post) (hl : pat.length ≤ 1000) (hi : i = (pre.length : Int) + (k : Int)) (hk : post[k]? = some c)
    (h : ∀ t' tk, Q (.str ⟨#[c]⟩ t') { s with toks := tk })
    (hs : subscripted slice false (.str pat t) (.int i u) = operate [.str pat t, .int i u] (getItem (.str pat t) (.int i u)) := by with_unfolding_all rfl)
    (ht : ∀ r, letTemporaryGo value (.str pat t) r = pure () := by intro _; with_unfolding_all rfl) :
    wpAny (model prog w) A (subscriptTail value slice (.str pat t) (.int i u)) Q E s := by
  have e1 := len_cps pat
  rw [hpat, List.length_append] at e1
  have e2 : k < post.length := (List.getElem?_eq_some_iff.mp hk).1
  have e3 : i.toNat = pre.length + k := by omega
  have e4 : pat.cps[i.toNat]? = some c := by
    rw [← Array.getElem?_toList, hpat, e3, List.getElem?_append_right (by omega), ← hk]
    congr 1
    omega
  have e5 := item_meets (x := pat) (i := i) (by omega) e4
  refine item_str (fitsSsize_of (N := 9223372036854775808) (by omega) (by omega) (Int.le_refl _)) (by omega) (by omega) (fun _ => ?_) hs ht
  rw [e5]
  exact h _ _
theorem tr_cut {a b : Nat} {cs : List Nat} (hpat : pat.cps.toList = pre ++ post) (hi : i = (pre.length : Int) + (a : Int)) (hj : j = (pre.length : Int) + (b : Int)) (hab : a ≤ b) (hb : b ≤ post.length) (hc : (post.drop a).take (b - a) = cs) : Txt.slice pat (some i) (some j) = ⟨cs.toArray⟩ := by
  have e1 := len_cps pat
  rw [hpat, List.length_append] at e1
  have h := beq_iff_eq.mp (slice_closesL (x := pat) (i := i) (j := j) (by omega) (by omega) (by omega))
  rw [h, ← hc, hpat]
  have e3 : i.toNat = pre.length + a := by omega
  have e4 : (j - i).toNat = b - a := by omega
  rw [e3, e4, ← List.drop_drop]
  simp
theorem tr_slice {a b : Nat} {z : Str} {ui uj : Tok} (hpat : pat.cps.toList = pre ++ post) (hl : pat.length ≤ 1000) (hi : i = (pre.length : Int) + (a : Int)) (hj : j = (pre.length : Int) + (b : Int)) (hab : a ≤ b) (hb : b ≤ post.length) (hc : (⟨((post.drop a).take (b - a)).toArray⟩ : Str) = z)
    (hF : Fr h₀ L s.heap m) (hN : News h₀ L s.heap news) (h : ∀ h' t' k, Fr h₀ L h' m → News h₀ L h' news → Q (.str z t') { s with heap := h', toks := k })
    (hs : subscripted slice false (.str pat t) (.ref s.heap.objs.size) = operate [.ref s.heap.objs.size, .str pat t] (getItem (.str pat t) (.ref s.heap.objs.size)) := by with_unfolding_all rfl)
    (ht : ∀ r, letTemporaryGo value (.str pat t) r = pure () := by intro _; with_unfolding_all rfl) :
    wpAny (model prog w) A (subscriptTail value slice (.str pat t) (.ref s.heap.objs.size)) Q E { s with heap := s.heap.push { cls := .type "slice", data := .fields #[.int i ui, .int j uj, .none] } } := by
  have e := tr_cut hpat hi hj hab hb rfl
  rw [hc] at e
  refine slice_strN_ss hF hN (fun h' t' k F' N' => ?_) hs ht (by rw [sizeLine_eq]; omega)
  rw [e]
  exact h h' t' k F' N'
end
namespace Occ
open Builtin Builtin.Str StrLaws
theorem full (s sub : Str) (hi : Nat) : ∀ (l : List Nat) (st : Array Nat × Nat), st.fst.size = 1 → (forIn l st (occBody s sub hi 1)).run.fst = st.fst
  | [], st, _ => rfl
  | a :: l, st, h => by
    rw [List.forIn_cons]
    unfold occBody
    rw [if_neg (fun c => by have := c.1.1.1; omega)]
    exact full s sub hi l _ h
theorem go (s sub : Str) (hi p free : Nat) (l2 : List Nat) (h1 : free ≤ p) (h2 : p + sub.length ≤ hi) (h3 : subAt s sub p = true) : ∀ (l1 : List Nat), (∀ i ∈ l1, ¬ (i + sub.length ≤ hi ∧ subAt s sub i = true)) → (forIn (l1 ++ p :: l2) ((#[] : Array Nat), free) (occBody s sub hi 1)).run.fst = #[p]
  | [], _ => by
    rw [List.nil_append, List.forIn_cons]
    unfold occBody
    rw [if_pos ⟨⟨⟨by simp, h1⟩, h2⟩, h3⟩]
    exact full s sub hi l2 _ rfl
  | a :: l1, h => by
    rw [List.cons_append, List.forIn_cons]
    unfold occBody
    rw [if_neg (fun c => h a List.mem_cons_self ⟨c.1.2, c.2⟩)]
    exact go s sub hi p free l2 h1 h2 h3 l1 fun i hi' => h i (List.mem_cons_of_mem _ hi')
theorem first {x : Str} {c lo hi p : Nat} (h : ∀ j, lo ≤ j → j < p → x.cps.toList[j]? ≠ some c) (hp : x.cps.toList[p]? = some c) (h1 : lo ≤ p) (h2 : p + 1 ≤ hi) : occurrences x ⟨#[c]⟩ lo hi 1 = [p] := by
  rw [occ_eq]
  have e : List.range' lo (hi + 1 - lo) = List.range' lo (p - lo) ++ p :: List.range' (p + 1) (hi - p) := by
    have e1 : hi + 1 - lo = (p - lo) + ((hi - p) + 1) := by omega
    rw [e1, ← List.range'_append_1, List.range'_succ]
    have e2 : lo + (p - lo) = p := by omega
    rw [e2]
  have q := (subAt_one x c p).mpr hp
  rw [e, go x ⟨#[c]⟩ hi p lo _ h1 h2 q.2 _ fun i hi' hc => ?_]
  obtain ⟨h3, h4⟩ := List.mem_range'_1.mp hi'
  have hlt : x.cps.toList[p]?.isSome := by rw [hp]; rfl
  have hpl : p < x.cps.toList.length := by simpa using hlt
  refine h i h3 (by omega) ((subAt_one x c i).mp ⟨?_, hc.2⟩)
  have := len_cps x
  show i + 1 ≤ x.length
  omega
theorem none {x : Str} {c lo hi : Nat} (h : ∀ j, lo ≤ j → j < hi → x.cps.toList[j]? ≠ some c) (hh : hi ≤ x.length) : occurrences x ⟨#[c]⟩ lo hi 1 = [] := by
  rw [occ_eq]
  have e := (occ_none x ⟨#[c]⟩ hi (List.range' lo (hi + 1 - lo)) lo (fun i hi' => (List.mem_range'_1.mp hi').1)).mpr fun i hi' hc => ?_
  · rw [e]
  · obtain ⟨h3, h4⟩ := List.mem_range'_1.mp hi'
    have hc1 : i + 1 ≤ hi := hc.1
    exact h i h3 (by omega) ((subAt_one x c i).mp ⟨by show i + 1 ≤ x.length; omega, hc.2⟩)
end Occ
noncomputable def TrP (pat : Str) (parts : List (Option Str)) (S : Addr) (i : Int) (vs : List Value) : Prop :=
  ∃ pre post done rem b, pat.cps.toList = pre ++ post ∧ i = (pre.length : Int) ∧ Tk b post rem ∧ parts = done ++ rem ∧ PartsAre S vs done ∧ (b = true → vs = [] ∨ ∃ us x t, vs = us ++ [Value.str x t]) ∧ vs.length ≤ pre.length
theorem tr_start {pat : Str} {parts : List (Option Str)} {S : Addr} (h : Tk true pat.cps.toList parts) : TrP pat parts S 0 [] :=
  ⟨[], _, [], _, true, rfl, rfl, h, rfl, .nil, fun _ => .inl rfl, Nat.le_refl _⟩
theorem tr_len {pat : Str} {pre post : List Nat} (h : pat.cps.toList = pre ++ post) : (pat.length : Int) = (pre.length : Int) + (post.length : Int) := by
  have e1 := len_cps pat
  rw [h, List.length_append] at e1
  omega
theorem tr_some {pat : Str} {parts done : List (Option Str)} {S : Addr} {vs : List Value} {pre tk cs : List Nat} {x : Str} {rem : List (Option Str)} {i : Int} {t : Tok} (hpat : pat.cps.toList = pre ++ (tk ++ cs)) (hi : i = (pre.length : Int) + (tk.length : Int)) (hT : Tk true cs rem)
    (hp : parts = done ++ some x :: rem) (hd : PartsAre S vs done) (hv : vs.length ≤ pre.length) (h1 : 1 ≤ tk.length) : TrP pat parts S i (vs ++ [.str x t]) :=
  ⟨pre ++ tk, cs, done ++ [some x], rem, true, by rw [hpat, List.append_assoc], by rw [List.length_append]; omega, hT, by rw [hp]; simp, hd.snoc ⟨t, rfl⟩, fun _ => .inr ⟨_, _, _, rfl⟩, by simp only [List.length_append, List.length_cons, List.length_nil]; omega⟩
theorem tr_star {pat : Str} {parts done : List (Option Str)} {S : Addr} {vs : List Value} {pre cs : List Nat} {rem : List (Option Str)} {i : Int} (hpat : pat.cps.toList = pre ++ 42 :: cs) (hi : i = (pre.length : Int) + 1) (hT : Tk false cs rem)
    (hp : parts = done ++ none :: rem) (hd : PartsAre S vs done) (hv : vs.length ≤ pre.length) : TrP pat parts S i (vs ++ [.ref S]) :=
  ⟨pre ++ [42], cs, done ++ [none], rem, false, by rw [hpat]; simp, by simp; omega, hT, by rw [hp]; simp, hd.snoc rfl, fun e => (nomatch e), by simp only [List.length_append, List.length_cons, List.length_nil]; omega⟩
theorem tr_open {pat : Str} {parts : List (Option Str)} {S : Addr} {i : Int} {vs : List Value} (h : TrP pat parts S i vs) :
  ∃ pre post done rem b, pat.cps.toList = pre ++ post ∧ i = (pre.length : Int) ∧ Tk b post rem ∧ parts = done ++ rem ∧ PartsAre S vs done ∧ (b = true → vs = [] ∨ ∃ us x t, vs = us ++ [Value.str x t]) ∧ vs.length ≤ pre.length := h
section
variable {prog : Program} {w : World} {A : Around} {E : Value → Shared → Prop} {s : Shared} {h₀ : Heap} {L D S : Addr} {news : List (Addr × Obj)} {n : Nat} {us : List Value} {y : Value}
theorem truthy_snoc {Q : Bool → Shared → Prop} (N : News h₀ L s.heap news) (hm : (D, listOf (us ++ [y]).toArray n) ∈ news) (hl : (us ++ [y]).length ≤ 1000) (h : ∀ tk, Q true { s with toks := tk }) : wpAny (model prog w) A (truthy (.ref D)) Q E s := by
  refine wpAny_truthy_list (isl N hm) (by rw [List.size_toArray]; omega) ?_
  have e : (!(us ++ [y]).toArray.isEmpty) = true := by simp
  rw [e]
  exact h _
theorem truthy_nil {Q : Bool → Shared → Prop} (N : News h₀ L s.heap news) (hm : (D, listOf ([] : List Value).toArray n) ∈ news) (h : ∀ tk, Q false { s with toks := tk }) : wpAny (model prog w) A (truthy (.ref D)) Q E s :=
  wpAny_truthy_list (isl N hm) (by simp) (h _)
theorem last_snoc {value slice : Expr} {u : Tok} {Q : Value → Shared → Prop} (N : News h₀ L s.heap news) (hm : (D, listOf (us ++ [y]).toArray n) ∈ news) (h : Q y s)
    (hs : subscripted slice false (.ref D) (.int (-1) u) = operate [.ref D, .int (-1) u] (getItem (.ref D) (.int (-1) u)) := by with_unfolding_all rfl) (hg : ∀ x, letTemporaryGo value (.ref D) x = pure () := by intro _; with_unfolding_all rfl) :
    wpAny (model prog w) A (subscriptTail value slice (.ref D) (.int (-1) u)) Q E s := by
  refine kim_back N hm rfl rfl (by omega) (by simp; omega) (by omega) ?_ h hs hg
  have e : (-1 + ((us ++ [y]).length : Int)).toNat = us.length := by simp; omega
  rw [e]
  simp
theorem isNot_str_ref {x : Str} {t : Tok} {Q : Value → Shared → Prop} (h : Q (.bool true) s) : wpAny (model prog w) A (compareOp .IsNot (.str x t) (.ref S)) Q E s := wpAny_isNot_other (by rfl) (by intro x; cases x) h
theorem isNot_ref_str {x : Str} {t : Tok} {Q : Value → Shared → Prop} (h : Q (.bool true) s) : wpAny (model prog w) A (compareOp .IsNot (.ref S) (.str x t)) Q E s := wpAny_isNot_other (by rfl) (by intro x; cases x) h
theorem is_str_ref {x : Str} {t : Tok} {Q : Value → Shared → Prop} (h : Q (.bool false) s) : wpAny (model prog w) A (compareOp .Is (.str x t) (.ref S)) Q E s := wpAny_is_other (by rfl) (by intro x; cases x) h
theorem is_ref_self {Q : Value → Shared → Prop} (h : Q (.bool true) s) : wpAny (model prog w) A (compareOp .Is (.ref S) (.ref S)) Q E s := by
  show wpAny _ A (do return Value.bool (← isSame (.ref S) (.ref S))) Q E s
  unfold isSame
  simp only [beq_self_eq_true, if_true]
  exact wpAny_bind (wpAny_pure (wpAny_pure h))
theorem isNot_ref_self {Q : Value → Shared → Prop} (h : Q (.bool false) s) : wpAny (model prog w) A (compareOp .IsNot (.ref S) (.ref S)) Q E s := isnot_ref_same h
end
theorem tr_fin {S : Addr} {vs : List Value} {parts done : List (Option Str)} (hp : parts = done ++ []) (h : PartsAre S vs done) : PartsAre S vs parts := by
  rw [hp, List.append_nil]; exact h
theorem Kept.backT {h₀ g h' : Heap} {L L' P : Addr} {m' : Str → Option Value} {o : Obj} {own news own' : List (Addr × Obj)} (K : Kept h₀ L g own ((P, o) :: news)) (hn : ∀ p ∈ news, p.1 ≠ P) (F : Fr g L' h' m') (N : News h₀ L h' own') (hs : ∀ p ∈ own, p.1 ≠ P → p ∈ own') : News h₀ L h' news := fun p hp => by
  rcases K p (List.mem_cons_of_mem _ hp) with h | ⟨h1, h2⟩
  · exact N p (hs p h (hn p hp))
  · exact ⟨F.keep _ _ h1, h2⟩
theorem tab_at {g : Heap} {A₀ : Around} {base : Heap} {outer : List Env} {c P : Addr} (hC : CodeHd base c P) (B : Below A₀ base outer g) : CodeHd g c P := CodeHd.keeps hC B.stays
section
open Builtin Builtin.Str
variable {prog : Program} {w : World} {A : Around} {E : Value → Shared → Prop} {s : Shared} {Q : Value → Shared → Prop} {pat x y : Str} {t u v t2 : Tok} {pre post : List Nat} {i j : Int} {h₀ : Heap} {L : Addr} {m : Str → Option Value} {news : List (Addr × Obj)} {value slice : Expr}
theorem from_nat {n : Nat} {i : Int} {k : Nat} (h : i = (k : Int)) : fromIndex n i = k := by
  subst h
  unfold fromIndex
  rw [if_neg (by omega)]
  omega
theorem find_hitP {a b c : Nat} (hpat : pat.cps.toList = pre ++ post) (hi : i = (pre.length : Int) + (a : Int)) (hj : j = (pre.length : Int) + (b : Int)) (hc : post[a]? = some c) (hy : y = ⟨#[c]⟩) (hab : a + 1 ≤ b) (hb : b ≤ post.length)
    (hq : ∀ t' tk, Q (.int ((pre.length : Int) + (a : Int)) t') { s with toks := tk }) : wpAny (model prog w) A (call (.builtin "str.find") [.str pat t, .str y u, .int i v, .int j t2]) Q E s := by
  subst hy
  have e1 := len_cps pat
  rw [hpat, List.length_append] at e1
  refine find_hit (p := pre.length + a) ?_ (fun t' tk => by rw [Int.natCast_add]; exact hq t' tk)
  rw [from_nat (k := pre.length + a) (by omega), from_nat (k := pre.length + b) (by omega), Nat.min_eq_left (by omega)]
  refine Occ.first (fun k h1 h2 => absurd h2 (by omega)) ?_ (Nat.le_refl _) (by omega)
  rw [hpat, List.getElem?_append_right (by omega), ← hc]
  congr 1
  omega
theorem find_missP {a b c : Nat} (hpat : pat.cps.toList = pre ++ post) (hi : i = (pre.length : Int) + (a : Int)) (hj : j = (pre.length : Int) + (b : Int)) (hy : y = ⟨#[c]⟩) (hab : b ≤ a) (hb : b ≤ post.length)
    (hq : ∀ t' tk, Q (.int (-1) t') { s with toks := tk }) : wpAny (model prog w) A (call (.builtin "str.find") [.str pat t, .str y u, .int i v, .int j t2]) Q E s := by
  subst hy
  have e1 := len_cps pat
  rw [hpat, List.length_append] at e1
  refine find_miss ?_ hq
  rw [from_nat (k := pre.length + a) (by omega), from_nat (k := pre.length + b) (by omega), Nat.min_eq_left (by omega)]
  exact Occ.none (fun k h1 h2 => absurd h2 (by omega)) (by omega)
theorem slice1_w {ui : Tok} (hz : Txt.slice x (some 1) none = y) (hl : x.length ≤ 1000) (hF : Fr h₀ L s.heap m) (hN : News h₀ L s.heap news) (h : ∀ h' t' k, Fr h₀ L h' m → News h₀ L h' news → Q (.str y t') { s with heap := h', toks := k })
    (hs : subscripted slice false (.str x t) (.ref s.heap.objs.size) = operate [.ref s.heap.objs.size, .str x t] (getItem (.str x t) (.ref s.heap.objs.size)) := by with_unfolding_all rfl)
    (ht : ∀ r, letTemporaryGo value (.str x t) r = pure () := by intro _; with_unfolding_all rfl) :
    wpAny (model prog w) A (subscriptTail value slice (.str x t) (.ref s.heap.objs.size)) Q E { s with heap := s.heap.push { cls := .type "slice", data := .fields #[.int 1 ui, .none, .none] } } := by
  refine slice_strN_sn hF hN (fun h' t' k F' N' => ?_) hs ht (by rw [sizeLine_eq]; omega)
  rw [hz]
  exact h h' t' k F' N'
end
section
variable {prog : Program} {w : World} {A : Around} {E : Value → Shared → Prop} {s : Shared} {Q : Value → Shared → Prop} {D : Addr} {items : Array Value} {ys : List Str} {sep : Str} {u : Tok}
theorem glued_empty : ∀ (ys : List Str) (acc : Array Nat), (ys.foldl (fun acc p => acc ++ (Str.ofString "").cps ++ p.cps) acc).size = acc.size + (ys.map (·.length)).sum
  | [], acc => by simp
  | y :: ys, acc => by
    rw [List.foldl_cons, glued_empty ys]
    have e : (Str.ofString "").cps = #[] := by decide +kernel
    simp only [e, Array.append_empty, Array.size_append, List.map_cons, List.sum_cons]
    show acc.size + y.cps.size + _ = acc.size + (y.cps.size + _)
    omega
theorem join_len : ∀ ys : List Str, (Txt.join (Str.ofString "") ys).length = (ys.map (·.length)).sum
  | [] => by decide +kernel
  | y :: ys => by
    show ((ys.foldl (fun acc p => acc ++ (Str.ofString "").cps ++ p.cps) y.cps)).size = _
    rw [glued_empty]
    rfl
theorem join_any (hl : s.heap.IsList D items) (hi : StrsAre items.toList ys) (hw : (ys.map (·.length)).sum ≤ 500) (h : ∀ y t' k, y = Txt.join (Str.ofString "") ys → y.length ≤ 500 → Q (.str y t') { s with toks := k }) : wpAny (model prog w) A (call (.builtin "str.join") [.str (Str.ofString "") u, .ref D]) Q E s :=
  join_list hl hi (by
    have e : (Str.ofString "").length = 0 := by decide +kernel
    rw [e]; omega) fun t' k => h _ t' k rfl (by rw [join_len]; exact hw)
end
section
variable {prog : Program} {w : World} {A : Around} {E : Value → Shared → Prop} {s : Shared} {Q : Value → Shared → Prop} {D : Addr} {a b c d : Str} {t1 t2 t3 t4 : Tok} {u : Tok}
end
theorem str_add_len (a b : Str) : (a ++ b).length = a.length + b.length := PySem.Str.length_append a b
noncomputable def jnP : List Str → List (Option Str)
  | [] => [none]
  | p :: ps => none :: some p :: jnP ps
@[irreducible] noncomputable def jnW (p : Str) : Str := Str.empty ++ Str.ofString "(?>.*?" ++ p ++ Str.ofString ")"
@[irreducible] noncomputable def jnF (ps : List Str) : Str := Str.empty ++ Str.ofString "(?s:" ++ Txt.join (Str.ofString "") (ps.map jnW ++ [Str.ofString ".*"]) ++ Str.ofString ")\\Z"
theorem jnP_len : ∀ ps : List Str, (jnP ps).length = 2 * ps.length + 1
  | [] => rfl
  | p :: ps => by simp only [jnP, List.length_cons, jnP_len ps]; omega
theorem jn_len {S : Addr} {vs : List Value} {ps : List Str} (h : PartsAre S vs (jnP ps)) : vs.length = 2 * ps.length + 1 := by
  have := h.len
  rw [jnP_len] at this
  omega
theorem jnP_even : ∀ (ps : List Str) (k : Nat), k ≤ ps.length → (jnP ps)[2 * k]? = some none
  | [], k, h => by have : k = 0 := by simpa using h
                   subst this; rfl
  | p :: ps, 0, _ => rfl
  | p :: ps, k + 1, h => by
    have e : 2 * (k + 1) = 2 * k + 1 + 1 := by omega
    rw [e]; simpa [jnP] using jnP_even ps k (by simpa using h)
theorem jnP_odd : ∀ (ps : List Str) (k : Nat) (x : Str), ps[k]? = some x → (jnP ps)[2 * k + 1]? = some (some x)
  | [], k, x, h => by simp at h
  | p :: ps, 0, x, h => by simp at h; subst h; rfl
  | p :: ps, k + 1, x, h => by
    have e : 2 * (k + 1) + 1 = 2 * k + 1 + 1 + 1 := by omega
    rw [e]; simpa [jnP] using jnP_odd ps k x (by simpa using h)
theorem Al.get' {α β : Type} {R : α → β → Prop} {xs : List α} {ys : List β} (h : Al R xs ys) : ∀ {i : Nat} {y : β}, ys[i]? = some y → ∃ x, xs[i]? = some x ∧ R x y := by
  induction h with
  | nil => intro i x h; simp at h
  | cons r _ ih =>
    intro i x h
    cases i with
    | zero => simp at h; subst h; exact ⟨_, rfl, r⟩
    | succ i => simpa using ih (by simpa using h)
theorem jn_star {S : Addr} {vs : List Value} {ps : List Str} (h : PartsAre S vs (jnP ps)) {k : Nat} (hk : k ≤ ps.length) : vs[2 * k]? = some (.ref S) := by
  obtain ⟨v, hv, e⟩ := Al.get' h (jnP_even ps k hk)
  rw [hv]; exact congrArg some e
theorem jn_item {S : Addr} {vs : List Value} {ps : List Str} (h : PartsAre S vs (jnP ps)) {k : Nat} {x : Str} (hk : ps[k]? = some x) : ∃ t, vs[2 * k + 1]? = some (.str x t) := by
  obtain ⟨v, hv, t, e⟩ := Al.get' h (jnP_odd ps k x hk)
  exact ⟨t, by rw [hv, e]⟩
theorem jnW_len {p : Str} (h : p.length ≤ 5) : (jnW p).length ≤ 12 := by
  unfold jnW
  have q1 : (Str.ofString "(?>.*?").length = 6 := by decide +kernel
  have q2 : (Str.ofString ")").length = 1 := by decide +kernel
  have q4 : Str.empty.length = 0 := by decide +kernel
  simp only [str_add_len]
  omega
theorem jn_sum {ps : List Str} (hl : ps.length ≤ 3) (hp : ∀ x ∈ ps, x.length ≤ 5) : ((ps.map jnW ++ [Str.ofString ".*"]).map (·.length)).sum ≤ 500 := by
  have q3 : (Str.ofString ".*").length = 2 := by decide +kernel
  have key : ∀ ps : List Str, (∀ x ∈ ps, x.length ≤ 5) → ((ps.map jnW).map (·.length)).sum ≤ 12 * ps.length := by
    intro ps
    induction ps with
    | nil => intro _; simp
    | cons p ps ih =>
      intro h
      have h1 := jnW_len (h p List.mem_cons_self)
      have h2 := ih fun x hx => h x (List.mem_cons_of_mem _ hx)
      simp only [List.map_cons, List.sum_cons, List.length_cons]
      omega
  have := key ps hp
  rw [List.map_append, List.sum_append]
  simp only [List.map_cons, List.map_nil, List.sum_cons, List.sum_nil, q3]
  omega
theorem jn_step {ps : List Str} {k : Nat} {x : Str} {ys : List Value} {t : Tok} (h : StrsAre ys ((ps.take k).map jnW)) (hx : ps[k]? = some x) : StrsAre (ys ++ [.str (Str.empty ++ Str.ofString "(?>.*?" ++ x ++ Str.ofString ")") t]) ((ps.take (k + 1)).map jnW) := by
  rw [List.take_add_one, hx, List.map_append]
  have e : Str.empty ++ Str.ofString "(?>.*?" ++ x ++ Str.ofString ")" = jnW x := by unfold jnW; rfl
  rw [e]
  exact h.append' (.cons _ _ .nil)
theorem jn_last {ps : List Str} {k : Nat} {ys : List Value} {t : Tok} (h : StrsAre ys ((ps.take k).map jnW)) (hk : k = ps.length) : StrsAre (ys ++ [.str (Str.ofString ".*") t]) (ps.map jnW ++ [Str.ofString ".*"]) := by
  subst hk
  rw [List.take_length] at h
  exact h.append' (.cons _ _ .nil)
theorem jn_get {ps : List Str} {k : Nat} (h : k < ps.length) : ∃ x, ps[k]? = some x := ⟨_, List.getElem?_eq_getElem h⟩
theorem glued_codes : ∀ (ys : List Str) (acc : Array Nat), (ys.foldl (fun acc p => acc ++ (Str.ofString "").cps ++ p.cps) acc).toList = acc.toList ++ ys.flatMap (·.cps.toList)
  | [], acc => by simp
  | y :: ys, acc => by
    have e : (Str.ofString "").cps = #[] := by decide +kernel
    rw [List.foldl_cons, glued_codes ys]
    simp [e]
theorem join_codes : ∀ ys : List Str, (Txt.join (Str.ofString "") ys).cps.toList = ys.flatMap (·.cps.toList)
  | [] => by decide +kernel
  | y :: ys => by
    show (ys.foldl (fun acc p => acc ++ (Str.ofString "").cps ++ p.cps) y.cps).toList = _
    rw [glued_codes]
    simp
theorem add_codes (a b : Str) : (a ++ b).cps.toList = a.cps.toList ++ b.cps.toList := by
  show (a.cps ++ b.cps).toList = _
  simp
noncomputable def gB (ps : List Str) : List Nat := ps.flatMap fun p => [40, 63, 62, 46, 42, 63] ++ (p.cps.toList ++ [41])
theorem jnF_codes (ps : List Str) : (jnF ps).cps.toList = [40, 63, 115, 58] ++ (gB ps ++ [46, 42, 41, 92, 90]) := by
  have c1 : Str.empty.cps.toList = [] := by decide +kernel
  have c2 : (Str.ofString "(?s:").cps.toList = [40, 63, 115, 58] := by decide +kernel
  have c3 : (Str.ofString ")\\Z").cps.toList = [41, 92, 90] := by decide +kernel
  have c4 : (Str.ofString "(?>.*?").cps.toList = [40, 63, 62, 46, 42, 63] := by decide +kernel
  have c5 : (Str.ofString ")").cps.toList = [41] := by decide +kernel
  have c6 : (Str.ofString ".*").cps.toList = [46, 42] := by decide +kernel
  unfold jnF
  rw [add_codes, add_codes, add_codes, join_codes, c1, c2, c3, List.flatMap_append]
  have e : (ps.map jnW).flatMap (·.cps.toList) = gB ps := by
    unfold gB
    rw [List.flatMap_map]
    congr 1
    funext p
    unfold jnW
    rw [add_codes, add_codes, add_codes, c1, c4, c5]
    simp
  rw [e]
  simp [c6]
theorem str_eq {x : Str} {l : List Nat} (h : x.cps.toList = l) : x = ⟨l.toArray⟩ := by
  cases x
  subst h
  simp
theorem sl_neg {x : Str} {i : Int} {u : Option Int} (h0 : i < 0) (h1 : 0 ≤ i + x.length) : Txt.slice x (some i) u = Txt.slice x (some (i + x.length)) u := by
  have e : Builtin.Str.strSliceIndices (some i) u 1 x.length = Builtin.Str.strSliceIndices (some (i + x.length)) u 1 x.length := by
    unfold Builtin.Str.strSliceIndices
    simp only [if_pos h0, if_neg (show ¬ (i + (x.length : Int) < 0) by omega)]
  unfold Txt.slice
  rw [e]
theorem sl_negU {x : Str} {i : Int} {l : Option Int} (h0 : i < 0) (h1 : 0 ≤ i + x.length) : Txt.slice x l (some i) = Txt.slice x l (some (i + x.length)) := by
  have e : Builtin.Str.strSliceIndices l (some i) 1 x.length = Builtin.Str.strSliceIndices l (some (i + x.length)) 1 x.length := by
    unfold Builtin.Str.strSliceIndices
    simp only [if_pos h0, if_neg (show ¬ (i + (x.length : Int) < 0) by omega)]
  unfold Txt.slice
  rw [e]
theorem jn_head (ps : List Str) : Txt.slice (jnF ps) none (some 4) = Str.ofString "(?s:" := by
  have e := jnF_codes ps
  have e1 := len_cps (jnF ps)
  rw [e] at e1
  simp only [List.length_append, List.length_cons, List.length_nil] at e1
  have h := beq_iff_eq.mp (slice_closes_toL (x := jnF ps) (j := 4) (by omega) (by omega))
  rw [h, e]
  simp
  decide +kernel
theorem jn_tail (ps : List Str) : Txt.slice (jnF ps) (some (-5)) none = Str.ofString ".*)\\Z" := by
  have e := jnF_codes ps
  have e1 := len_cps (jnF ps)
  rw [e] at e1
  simp only [List.length_append, List.length_cons, List.length_nil] at e1
  rw [sl_neg (by omega) (by omega)]
  have h := beq_iff_eq.mp (slice_closes_fromL (x := jnF ps) (i := -5 + ((jnF ps).length : Int)) (b := (jnF ps).length) (by omega) (by omega) rfl)
  rw [h, e]
  have q : (-5 + ((jnF ps).length : Int)).toNat = ([40, 63, 115, 58] ++ gB ps).length := by simp only [List.length_append, List.length_cons, List.length_nil]; omega
  have q2 : (((jnF ps).length : Int) - (-5 + ((jnF ps).length : Int))).toNat = 5 := by omega
  rw [q, q2, ← List.append_assoc, List.drop_left]
  decide +kernel
theorem jn_body (ps : List Str) : Txt.slice (jnF ps) (some 4) (some (-5)) = ⟨(gB ps).toArray⟩ := by
  have e := jnF_codes ps
  have e1 := len_cps (jnF ps)
  rw [e] at e1
  simp only [List.length_append, List.length_cons, List.length_nil] at e1
  rw [sl_negU (by omega) (by omega)]
  refine tr_cut (pre := [40, 63, 115, 58]) (a := 0) (b := (gB ps).length) e (by simp) (by simp; omega) (Nat.zero_le _) (by simp) ?_
  simp
section
variable {prog : Program} {w : World} {A : Around} {E : Value → Shared → Prop} {s : Shared} {Q : Value → Shared → Prop} {x y z pat : Str} {t u v : Tok} {h₀ : Heap} {L : Addr} {m : Str → Option Value} {news : List (Addr × Obj)} {value slice : Expr} {i j : Int} {pre post : List Nat}
theorem slice_ns_w {uj : Tok} (hz : Txt.slice x none (some j) = y) (hl : x.length ≤ 1000) (hF : Fr h₀ L s.heap m) (hN : News h₀ L s.heap news) (h : ∀ h' t' k, Fr h₀ L h' m → News h₀ L h' news → Q (.str y t') { s with heap := h', toks := k })
    (hs : subscripted slice false (.str x t) (.ref s.heap.objs.size) = operate [.ref s.heap.objs.size, .str x t] (getItem (.str x t) (.ref s.heap.objs.size)) := by with_unfolding_all rfl)
    (ht : ∀ r, letTemporaryGo value (.str x t) r = pure () := by intro _; with_unfolding_all rfl) :
    wpAny (model prog w) A (subscriptTail value slice (.str x t) (.ref s.heap.objs.size)) Q E { s with heap := s.heap.push { cls := .type "slice", data := .fields #[.none, .int j uj, .none] } } := by
  refine slice_strN_ns hF hN (fun h' t' k F' N' => ?_) hs ht (by rw [sizeLine_eq]; omega)
  rw [hz]
  exact h h' t' k F' N'
theorem slice_sn_w {ui : Tok} (hz : Txt.slice x (some i) none = y) (hl : x.length ≤ 1000) (hF : Fr h₀ L s.heap m) (hN : News h₀ L s.heap news) (h : ∀ h' t' k, Fr h₀ L h' m → News h₀ L h' news → Q (.str y t') { s with heap := h', toks := k })
    (hs : subscripted slice false (.str x t) (.ref s.heap.objs.size) = operate [.ref s.heap.objs.size, .str x t] (getItem (.str x t) (.ref s.heap.objs.size)) := by with_unfolding_all rfl)
    (ht : ∀ r, letTemporaryGo value (.str x t) r = pure () := by intro _; with_unfolding_all rfl) :
    wpAny (model prog w) A (subscriptTail value slice (.str x t) (.ref s.heap.objs.size)) Q E { s with heap := s.heap.push { cls := .type "slice", data := .fields #[.int i ui, .none, .none] } } := by
  refine slice_strN_sn hF hN (fun h' t' k F' N' => ?_) hs ht (by rw [sizeLine_eq]; omega)
  rw [hz]
  exact h h' t' k F' N'
theorem slice_ss_g {ui uj : Tok} {l : List Nat} (hz : Txt.slice x (some i) (some j) = ⟨l.toArray⟩) (hl : x.length ≤ 1000) (hF : Fr h₀ L s.heap m) (hN : News h₀ L s.heap news) (h : ∀ y h' t' k, y.cps.toList = l → Fr h₀ L h' m → News h₀ L h' news → Q (.str y t') { s with heap := h', toks := k })
    (hs : subscripted slice false (.str x t) (.ref s.heap.objs.size) = operate [.ref s.heap.objs.size, .str x t] (getItem (.str x t) (.ref s.heap.objs.size)) := by with_unfolding_all rfl)
    (ht : ∀ r, letTemporaryGo value (.str x t) r = pure () := by intro _; with_unfolding_all rfl) :
    wpAny (model prog w) A (subscriptTail value slice (.str x t) (.ref s.heap.objs.size)) Q E { s with heap := s.heap.push { cls := .type "slice", data := .fields #[.int i ui, .int j uj, .none] } } := by
  refine slice_strN_ss hF hN (fun h' t' k F' N' => ?_) hs ht (by rw [sizeLine_eq]; omega)
  rw [hz]
  exact h _ h' t' k (by simp) F' N'
theorem find_gr {p rest : List Nat} (hpat : pat.cps.toList = pre ++ (40 :: 63 :: 62 :: 46 :: 42 :: 63 :: (p ++ 41 :: rest))) (hi : i = (pre.length : Int)) (hp : 41 ∉ p) (hy : y = ⟨#[41]⟩)
    (hq : ∀ t' tk, Q (.int ((pre.length : Int) + 6 + (p.length : Int)) t') { s with toks := tk }) : wpAny (model prog w) A (call (.builtin "str.find") [.str pat t, .str y u, .int i v]) Q E s := by
  subst hy
  have e1 := len_cps pat
  have e0 := hpat
  rw [hpat] at e1
  simp only [List.length_append, List.length_cons] at e1
  refine find_hit3 (p := pre.length + 6 + p.length) ?_ (fun t' tk => by have := hq t' tk; push_cast; exact this)
  rw [from_nat (k := pre.length) (by omega)]
  have hsp : pat.cps.toList = (pre ++ (40 :: 63 :: 62 :: 46 :: 42 :: 63 :: p)) ++ 41 :: rest := by rw [hpat]; simp
  have hlen : (pre ++ (40 :: 63 :: 62 :: 46 :: 42 :: 63 :: p)).length = pre.length + 6 + p.length := by simp only [List.length_append, List.length_cons]; omega
  refine Occ.first (fun k h1 h2 e => ?_) ?_ (by omega) (by omega)
  · rw [hpat, List.getElem?_append_right h1] at e
    have hk : k - pre.length < 6 + p.length := by omega
    have hm : 41 ∈ (40 :: 63 :: 62 :: 46 :: 42 :: 63 :: p) := by
      have e' : (40 :: 63 :: 62 :: 46 :: 42 :: 63 :: (p ++ 41 :: rest)) = (40 :: 63 :: 62 :: 46 :: 42 :: 63 :: p) ++ 41 :: rest := by simp
      rw [e', List.getElem?_append_left (by simp only [List.length_cons]; omega)] at e
      exact List.mem_of_getElem? e
    simp only [List.mem_cons] at hm
    rcases hm with h | h | h | h | h | h | h
    all_goals first | exact absurd h (by decide) | exact hp h
  · rw [hsp, List.getElem?_append_right (by omega), hlen]
    simp
end
theorem gB_split {ps : List Str} {k : Nat} {x : Str} (h : ps[k]? = some x) : gB ps = gB (ps.take k) ++ (40 :: 63 :: 62 :: 46 :: 42 :: 63 :: (x.cps.toList ++ 41 :: gB (ps.drop (k + 1)))) := by
  have e : ps = ps.take k ++ x :: ps.drop (k + 1) := by
    obtain ⟨hl, e⟩ := List.getElem?_eq_some_iff.mp h
    rw [← e, List.getElem_cons_drop, List.take_append_drop]
  conv => lhs; rw [e]
  unfold gB
  rw [List.flatMap_append, List.flatMap_cons]
  simp
theorem gB_take {ps : List Str} {k : Nat} {x : Str} (h : ps[k]? = some x) : (gB (ps.take (k + 1))).length = (gB (ps.take k)).length + 7 + x.length := by
  rw [List.take_add_one, h]
  unfold gB
  rw [List.flatMap_append, List.length_append]
  have q : x.cps.size = x.length := rfl
  simp
  omega
theorem gB_len {ps : List Str} (hl : ps.length ≤ 3) (hp : ∀ x ∈ ps, x.length ≤ 5) : (gB ps).length ≤ 36 := by
  have key : ∀ ps : List Str, (∀ x ∈ ps, x.length ≤ 5) → (gB ps).length ≤ 12 * ps.length := by
    intro ps
    induction ps with
    | nil => intro _; simp [gB]
    | cons p ps ih =>
      intro h
      have h1 := h p List.mem_cons_self
      have h2 := ih fun x hx => h x (List.mem_cons_of_mem _ hx)
      have h3 := len_cps p
      unfold gB at h2 ⊢
      rw [List.flatMap_cons, List.length_append]
      simp only [List.length_append, List.length_cons, List.length_nil] at *
      omega
  have := key ps hp
  omega
theorem jnF_len {ps : List Str} (hl : ps.length ≤ 3) (hp : ∀ x ∈ ps, x.length ≤ 5) : (jnF ps).length ≤ 45 := by
  have e := len_cps (jnF ps)
  rw [jnF_codes] at e
  have := gB_len hl hp
  simp only [List.length_append, List.length_cons, List.length_nil] at e
  omega
theorem gr_piece (x : Str) (rest : List Nat) : (⟨(((40 :: 63 :: 62 :: 46 :: 42 :: 63 :: (x.cps.toList ++ 41 :: rest)).drop 6).take (6 + x.length - 6)).toArray⟩ : Str) = x := by
  have e : 6 + x.length - 6 = x.cps.toList.length := by rw [len_cps]; omega
  rw [e]
  simp
theorem gr_step {ps : List Str} {k : Nat} {x : Str} {ys : List Value} {t : Tok} (h : StrsAre ys ((ps.take k).map pcF)) (hx : ps[k]? = some x) : StrsAre (ys ++ [.str (pcF x) t]) ((ps.take (k + 1)).map pcF) := by
  rw [List.take_add_one, hx, List.map_append]
  exact h.append' (.cons _ _ .nil)
theorem gr_fin {ps : List Str} {k : Nat} {ys : List Value} (h : StrsAre ys ((ps.take k).map pcF)) (hk : k = ps.length) : StrsAre ys (ps.map pcF) := by
  subst hk
  rw [List.take_length] at h
  exact h
@[irreducible] noncomputable def paF (mask kind : Int) : Str :=
  if kind = 1 then (if mask = 7 then Str.ofString "[a-c]" else Str.ofString "[^" ++ sgF (7 - mask) ++ Str.ofString "]")
  else if mask = 7 then Str.ofString "." else if (sgF mask).length = 1 then sgF mask else Str.ofString "[" ++ sgF mask ++ Str.ofString "]"
theorem it_of {t : List Nat} {p : Str} {t' : List Nat} {p' : Str} (h : It t p) (e1 : t' = t) (e2 : p' = p) : It t' p' := by subst e1; subst e2; exact h
theorem it_all {mask kind : Int} (hm : 1 ≤ mask ∧ mask ≤ 7) (hk : 0 ≤ kind ∧ kind ≤ 1) : It (itF mask kind).cps.toList (paF mask kind) := by
  have q : mask = 1 ∨ mask = 2 ∨ mask = 3 ∨ mask = 4 ∨ mask = 5 ∨ mask = 6 ∨ mask = 7 := by omega
  have q2 : kind = 0 ∨ kind = 1 := by omega
  rcases q2 with rfl | rfl
  · rcases q with rfl | rfl | rfl | rfl | rfl | rfl | rfl
    · exact it_of (.lit 97 (by decide)) (by decide +kernel) (by decide +kernel)
    · exact it_of (.lit 98 (by decide)) (by decide +kernel) (by decide +kernel)
    · exact it_of (.in2 97 98 (by decide)) (by decide +kernel) (by decide +kernel)
    · exact it_of (.lit 99 (by decide)) (by decide +kernel) (by decide +kernel)
    · exact it_of (.in2 97 99 (by decide)) (by decide +kernel) (by decide +kernel)
    · exact it_of (.in2 98 99 (by decide)) (by decide +kernel) (by decide +kernel)
    · exact it_of .q (by decide +kernel) (by decide +kernel)
  · rcases q with rfl | rfl | rfl | rfl | rfl | rfl | rfl
    · exact it_of (.out2 98 99 (by decide)) (by decide +kernel) (by decide +kernel)
    · exact it_of (.out2 97 99 (by decide)) (by decide +kernel) (by decide +kernel)
    · exact it_of (.out1 99 (by decide)) (by decide +kernel) (by decide +kernel)
    · exact it_of (.out2 97 98 (by decide)) (by decide +kernel) (by decide +kernel)
    · exact it_of (.out1 98 (by decide)) (by decide +kernel) (by decide +kernel)
    · exact it_of (.out1 97 (by decide)) (by decide +kernel) (by decide +kernel)
    · exact it_of .rng (by decide +kernel) (by decide +kernel)
theorem pa_facts {mask kind : Int} (hm : 1 ≤ mask ∧ mask ≤ 7) (hk : 0 ≤ kind ∧ kind ≤ 1) : (1 ≤ (paF mask kind).length ∧ (paF mask kind).length ≤ 5) ∧ 41 ∉ (paF mask kind).cps.toList := by
  have q : mask = 1 ∨ mask = 2 ∨ mask = 3 ∨ mask = 4 ∨ mask = 5 ∨ mask = 6 ∨ mask = 7 := by omega
  have q2 : kind = 0 ∨ kind = 1 := by omega
  rcases q2 with rfl | rfl <;> rcases q with rfl | rfl | rfl | rfl | rfl | rfl | rfl <;> decide +kernel
theorem glued_star : ∀ (ys : List Str) (acc : Array Nat), (ys.foldl (fun acc p => acc ++ (Str.ofString "*").cps ++ p.cps) acc).toList = acc.toList ++ ys.flatMap (fun y => 42 :: y.cps.toList)
  | [], acc => by simp
  | y :: ys, acc => by
    have e : (Str.ofString "*").cps.toList = [42] := by decide +kernel
    rw [List.foldl_cons, glued_star ys]
    simp [e]
theorem pat_codes (y : Str) (ys : List Str) : (Str.ofString "*" ++ Txt.join (Str.ofString "*") (y :: ys) ++ Str.ofString "*").cps.toList = (y :: ys).flatMap (fun y => 42 :: y.cps.toList) ++ [42] := by
  have e : (Str.ofString "*").cps.toList = [42] := by decide +kernel
  have j : (Txt.join (Str.ofString "*") (y :: ys)).cps.toList = y.cps.toList ++ ys.flatMap (fun y => 42 :: y.cps.toList) := by
    show (ys.foldl (fun acc p => acc ++ (Str.ofString "*").cps ++ p.cps) y.cps).toList = _
    rw [glued_star]
  rw [add_codes, add_codes, e, j]
  simp
theorem tk_all : ∀ ms : List (Int × Int), StgOk ms → Tk true ((ms.map fun p => itF p.1 p.2).flatMap (fun y => 42 :: y.cps.toList) ++ [42]) (jnP (ms.map fun p => paF p.1 p.2))
  | [], _ => .star .nil
  | p :: ms, h => by
    have h1 := h p List.mem_cons_self
    have ih := tk_all ms fun q hq => h q (List.mem_cons_of_mem _ hq)
    simp only [List.map_cons, List.flatMap_cons, List.cons_append, List.append_assoc, jnP]
    exact .star (.item (it_all h1.1 h1.2) ih)
theorem pat_tk {ms : List (Int × Int)} (h : StgOk ms) (h1 : 1 ≤ ms.length) : Tk true (Str.ofString "*" ++ Txt.join (Str.ofString "*") (ms.map fun p => itF p.1 p.2) ++ Str.ofString "*").cps.toList (jnP (ms.map fun p => paF p.1 p.2)) := by
  cases ms with
  | nil => simp at h1
  | cons p ms =>
    have := tk_all (p :: ms) h
    rw [List.map_cons, pat_codes, ← List.map_cons (f := fun p : Int × Int => itF p.1 p.2)]
    exact this
theorem it_le {mask kind : Int} (hm : 1 ≤ mask ∧ mask ≤ 7) (hk : 0 ≤ kind ∧ kind ≤ 1) : (itF mask kind).length ≤ 5 := by
  have q : mask = 1 ∨ mask = 2 ∨ mask = 3 ∨ mask = 4 ∨ mask = 5 ∨ mask = 6 ∨ mask = 7 := by omega
  have q2 : kind = 0 ∨ kind = 1 := by omega
  rcases q2 with rfl | rfl <;> rcases q with rfl | rfl | rfl | rfl | rfl | rfl | rfl <;> decide +kernel
theorem it_sum {ms : List (Int × Int)} (h : StgOk ms) (hl : ms.length ≤ 3) : ((ms.map fun p => itF p.1 p.2).map (·.length)).sum + (ms.map fun p => itF p.1 p.2).length * (Str.ofString "*").length ≤ 16777216 := by
  have e : (Str.ofString "*").length = 1 := by decide +kernel
  have key : ∀ ms : List (Int × Int), StgOk ms → ((ms.map fun p => itF p.1 p.2).map (·.length)).sum ≤ 5 * ms.length := by
    intro ms
    induction ms with
    | nil => intro _; simp
    | cons p ms ih =>
      intro h
      have h0 := h p List.mem_cons_self
      have h1 := it_le h0.1 h0.2
      have h2 := ih fun q hq => h q (List.mem_cons_of_mem _ hq)
      simp only [List.map_cons, List.sum_cons, List.length_cons]
      omega
  have := key ms h
  rw [List.length_map, e]
  omega
theorem pat_len {ms : List (Int × Int)} (h : StgOk ms) (hl : ms.length ≤ 3) : (Str.ofString "*" ++ Txt.join (Str.ofString "*") (ms.map fun p => itF p.1 p.2) ++ Str.ofString "*").length ≤ 100 := by
  have e := len_cps (Str.ofString "*" ++ Txt.join (Str.ofString "*") (ms.map fun p => itF p.1 p.2) ++ Str.ofString "*")
  cases ms with
  | nil => decide +kernel
  | cons p ms =>
    rw [List.map_cons, pat_codes] at e
    have key : ∀ ms : List (Int × Int), StgOk ms → ((ms.map fun p => itF p.1 p.2).flatMap (fun y => 42 :: y.cps.toList)).length ≤ 6 * ms.length := by
      intro ms
      induction ms with
      | nil => intro _; simp
      | cons p ms ih =>
        intro h
        have h0 := h p List.mem_cons_self
        have h1 := it_le h0.1 h0.2
        have h2 := ih fun q hq => h q (List.mem_cons_of_mem _ hq)
        have h3 := len_cps (itF p.1 p.2)
        simp only [List.map_cons, List.flatMap_cons, List.length_append, List.length_cons]
        omega
    have := key (p :: ms) h
    rw [List.map_cons] at this
    rw [List.length_append, List.length_cons, List.length_nil] at e
    simp only [List.length_cons] at hl this
    rw [List.map_cons]
    omega
theorem join_pat {prog : Program} {w : World} {A : Around} {E : Value → Shared → Prop} {s : Shared} {Q : Value → Shared → Prop} {D : Addr} {vs : List Value} {u : Tok} {ms : List (Int × Int)} (hm : StgOk ms) (hl : ms.length ≤ 3) (hd : s.heap.IsList D vs.toArray) (hi : StrsAre vs (ms.map fun p => itF p.1 p.2))
    (h : ∀ y t' k, y = Txt.join (Str.ofString "*") (ms.map fun p => itF p.1 p.2) → y.length ≤ 98 → Q (.str y t') { s with toks := k }) : wpAny (model prog w) A (call (.builtin "str.join") [.str (Str.ofString "*") u, .ref D]) Q E s :=
  join_list hd hi (it_sum hm hl) fun t' k => h _ t' k rfl (by
    have := pat_len hm hl
    have e : (Str.ofString "*").length = 1 := by decide +kernel
    rw [str_add_len, str_add_len, e] at this
    omega)
theorem nPerm3 {h₀ h : Heap} {L : Addr} {a b c : Addr × Obj} {r : List (Addr × Obj)} (N : News h₀ L h (a :: b :: c :: r)) : News h₀ L h (c :: b :: r) := fun p hp => N p (by
  rcases List.mem_cons.mp hp with rfl | hp
  · exact List.mem_cons_of_mem _ (List.mem_cons_of_mem _ List.mem_cons_self)
  · rcases List.mem_cons.mp hp with rfl | hp
    · exact List.mem_cons_of_mem _ List.mem_cons_self
    · exact List.mem_cons_of_mem _ (List.mem_cons_of_mem _ (List.mem_cons_of_mem _ hp)))
theorem pa_mem {ms : List (Int × Int)} (h : StgOk ms) : ∀ x ∈ ms.map (fun p => paF p.1 p.2), (1 ≤ x.length ∧ x.length ≤ 5) ∧ 41 ∉ x.cps.toList := by
  intro x hx
  obtain ⟨p, hp, rfl⟩ := List.mem_map.mp hx
  have := h p hp
  exact pa_facts this.1 this.2
theorem ne_cell {h₀ h : Heap} {L D C : Addr} {news : List (Addr × Obj)} {its : Array Value} {n : Nat} {o : Obj} {v : Option Value} (N : News h₀ L h news) (h1 : (D, listOf its n) ∈ news) (h2 : (C, o) ∈ news) (hd : o.data = .cell v) : @Ne Nat D C := fun e => by
  have a := (N _ h1).1
  have b := (N _ h2).1
  have e' : D = C := e
  dsimp only at a b
  rw [e', b] at a
  cases a
  cases hd
theorem abc_tok {c : Nat} (h : c = 97 ∨ c = 98 ∨ c = 99) : (⟨#[c]⟩ : Str) = Str.ofString "a" ∨ (⟨#[c]⟩ : Str) = Str.ofString "b" ∨ (⟨#[c]⟩ : Str) = Str.ofString "c" := by
  rcases h with rfl | rfl | rfl
  · exact .inl rfl
  · exact .inr (.inl rfl)
  · exact .inr (.inr rfl)
theorem tokE {p : Nat → Prop} {c : Nat} (h : c = 97 ∨ c = 98 ∨ c = 99) (h1 : p 97) (h2 : p 98) (h3 : p 99) : p c := by
  rcases h with rfl | rfl | rfl <;> assumption
theorem tokE2 {p : Nat → Nat → Prop} {c d : Nat} (h : (c = 97 ∧ d = 98) ∨ (c = 97 ∧ d = 99) ∨ (c = 98 ∧ d = 99)) (h1 : p 97 98) (h2 : p 97 99) (h3 : p 98 99) : p c d := by
  rcases h with ⟨rfl, rfl⟩ | ⟨rfl, rfl⟩ | ⟨rfl, rfl⟩ <;> assumption
set_option Elab.async false
set_option maxRecDepth 100000
set_option maxHeartbeats 8000000
noncomputable abbrev ltS (x y : Str) : Prop := x.cps.toList < y.cps.toList
structure SldP (xs ys : List Str) (i j : Nat) (mi un : List Str) : Prop where
  hi : i ≤ xs.length
  hj : j ≤ ys.length
  em : mi = (xs.take i).filter (fun x => decide (x ∉ ys))
  eu : un = (ys.take j).filter (fun y => decide (y ∉ xs))
  a : ∀ x ∈ xs.take i, ∀ y ∈ ys.drop j, ltS x y
  b : ∀ y ∈ ys.take j, ∀ x ∈ xs.drop i, ltS y x
theorem ltS_ne {x y : Str} (h : ltS x y) : x ≠ y := fun e => by subst e; exact List.lt_irrefl _ h
theorem ltS_trans {x y z : Str} (h : ltS x y) (h' : ltS y z) : ltS x z := List.lt_trans h h'
theorem ltS_tri (x y : Str) : ltS x y ∨ x = y ∨ ltS y x := by
  by_cases h : ltS x y
  · exact .inl h
  · by_cases h' : ltS y x
    · exact .inr (.inr h')
    · have e : x.cps.toList = y.cps.toList := List.le_antisymm (List.not_lt.mp h') (List.not_lt.mp h)
      exact .inr (.inl (by cases x; cases y; simpa using e))
theorem ris_drop {xs : List Str} (hx : xs.Pairwise ltS) {i : Nat} {x : Str} (h : xs[i]? = some x) : xs.drop i = x :: xs.drop (i + 1) ∧ ∀ z ∈ xs.drop (i + 1), ltS x z := by
  obtain ⟨hl, e⟩ := List.getElem?_eq_some_iff.mp h
  have e' : xs.drop i = x :: xs.drop (i + 1) := by rw [List.drop_eq_getElem_cons hl, e]
  refine ⟨e', ?_⟩
  have hp : (xs.drop i).Pairwise ltS := hx.sublist (List.drop_sublist _ _)
  rw [e'] at hp
  exact (List.pairwise_cons.mp hp).1
theorem take_snoc {xs : List Str} {i : Nat} {x : Str} (h : xs[i]? = some x) : xs.take (i + 1) = xs.take i ++ [x] := by rw [List.take_add_one, h]; rfl
theorem mem_split {xs : List Str} (i : Nat) {z : Str} : z ∈ xs ↔ z ∈ xs.take i ∨ z ∈ xs.drop i := by
  rw [← List.mem_append, List.take_append_drop]
theorem SldP.start (xs ys : List Str) : SldP xs ys 0 0 [] [] := ⟨Nat.zero_le _, Nat.zero_le _, rfl, rfl, (fun _ h => nomatch h), (fun _ h => nomatch h)⟩
theorem SldP.lt {xs ys : List Str} {i j : Nat} {mi un : List Str} {x y : Str} (h : SldP xs ys i j mi un) (hx : xs.Pairwise ltS) (hy : ys.Pairwise ltS) (xi : xs[i]? = some x) (yj : ys[j]? = some y) (l : ltS x y) : SldP xs ys (i + 1) j (mi ++ [x]) un := by
  obtain ⟨ex, rx⟩ := ris_drop hx xi
  obtain ⟨ey, ry⟩ := ris_drop hy yj
  have hl := (List.getElem?_eq_some_iff.mp xi).1
  have low : ∀ z ∈ ys.drop j, ltS x z := fun z hz => by
    rw [ey] at hz
    rcases List.mem_cons.mp hz with rfl | hz
    · exact l
    · exact ltS_trans l (ry z hz)
  have nin : x ∉ ys := fun hm => by
    rcases (mem_split j).mp hm with hm | hm
    · exact ltS_ne (h.b x hm x (by rw [ex]; exact List.mem_cons_self)) rfl
    · exact ltS_ne (low x hm) rfl
  refine ⟨hl, h.hj, ?_, h.eu, ?_, ?_⟩
  · rw [take_snoc xi, List.filter_append, ← h.em]
    simp [nin]
  · intro z hz w hw
    rw [take_snoc xi] at hz
    rcases List.mem_append.mp hz with hz | hz
    · exact h.a z hz w hw
    · rw [List.mem_singleton.mp hz]; exact low w hw
  · intro z hz w hw
    exact h.b z hz w (by rw [ex]; exact List.mem_cons_of_mem _ hw)
theorem SldP.swap {xs ys : List Str} {i j : Nat} {mi un : List Str} (h : SldP xs ys i j mi un) : SldP ys xs j i un mi := ⟨h.hj, h.hi, h.eu, h.em, h.b, h.a⟩
theorem SldP.gt {xs ys : List Str} {i j : Nat} {mi un : List Str} {x y : Str} (h : SldP xs ys i j mi un) (hx : xs.Pairwise ltS) (hy : ys.Pairwise ltS) (xi : xs[i]? = some x) (yj : ys[j]? = some y) (l : ltS y x) : SldP xs ys i (j + 1) mi (un ++ [y]) := (h.swap.lt hy hx yj xi l).swap
theorem SldP.eq {xs ys : List Str} {i j : Nat} {mi un : List Str} {x : Str} (h : SldP xs ys i j mi un) (hx : xs.Pairwise ltS) (hy : ys.Pairwise ltS) (xi : xs[i]? = some x) (yj : ys[j]? = some x) : SldP xs ys (i + 1) (j + 1) mi un := by
  obtain ⟨ex, rx⟩ := ris_drop hx xi
  obtain ⟨ey, ry⟩ := ris_drop hy yj
  have h1 := (List.getElem?_eq_some_iff.mp xi).1
  have h2 := (List.getElem?_eq_some_iff.mp yj).1
  have mx : x ∈ xs := List.mem_of_getElem? xi
  have my : x ∈ ys := List.mem_of_getElem? yj
  refine ⟨h1, h2, ?_, ?_, ?_, ?_⟩
  · rw [take_snoc xi, List.filter_append, ← h.em]
    simp [my]
  · rw [take_snoc yj, List.filter_append, ← h.eu]
    simp [mx]
  · intro z hz w hw
    rw [take_snoc xi] at hz
    rcases List.mem_append.mp hz with hz | hz
    · exact h.a z hz w (by rw [ey]; exact List.mem_cons_of_mem _ hw)
    · rw [List.mem_singleton.mp hz]; exact ry w hw
  · intro z hz w hw
    rw [take_snoc yj] at hz
    rcases List.mem_append.mp hz with hz | hz
    · exact h.b z hz w (by rw [ex]; exact List.mem_cons_of_mem _ hw)
    · rw [List.mem_singleton.mp hz]; exact rx w hw
theorem SldP.fin1 {xs ys : List Str} {i j : Nat} {mi un : List Str} (h : SldP xs ys i j mi un) (e : i = xs.length) : mi ++ xs.drop i = xs.filter (fun x => decide (x ∉ ys)) ∧ un ++ ys.drop j = ys.filter (fun y => decide (y ∉ xs)) := by
  subst e
  have q : xs.take xs.length = xs := List.take_length
  constructor
  · rw [h.em, q, List.drop_length, List.append_nil]
  · rw [h.eu]
    conv => rhs; rw [← List.take_append_drop j ys, List.filter_append]
    congr 1
    symm
    rw [List.filter_eq_self]
    intro y hy
    refine decide_eq_true fun hm => ?_
    have := h.a y (by rw [q]; exact hm) y hy
    exact ltS_ne this rfl
theorem SldP.fin {xs ys : List Str} {i j : Nat} {mi un : List Str} (h : SldP xs ys i j mi un) (e : i = xs.length ∨ j = ys.length) : mi ++ xs.drop i = xs.filter (fun x => decide (x ∉ ys)) ∧ un ++ ys.drop j = ys.filter (fun y => decide (y ∉ xs)) := by
  rcases e with e | e
  · exact h.fin1 e
  · exact (h.swap.fin1 e).symm
theorem ris_ne {xs : List Str} (hx : xs.Pairwise ltS) {i : Nat} {x x' : Str} (h : xs[i]? = some x) (h' : xs[i + 1]? = some x') : (x' == x) = false := by
  obtain ⟨_, r⟩ := ris_drop hx h
  have e := (ris_drop hx h').1
  exact beq_eq_false_iff_ne.mpr fun e' => ltS_ne (r x' (by rw [e]; exact List.mem_cons_self)) e'.symm
theorem SldP.len {xs ys : List Str} {i j : Nat} {mi un : List Str} (h : SldP xs ys i j mi un) : mi.length ≤ i ∧ un.length ≤ j := by
  refine ⟨?_, ?_⟩
  · rw [h.em]
    refine Nat.le_trans (List.length_filter_le _ _) ?_
    rw [List.length_take]; omega
  · rw [h.eu]
    refine Nat.le_trans (List.length_filter_le _ _) ?_
    rw [List.length_take]; omega
theorem strs_get {vs : List Value} {xs : List Str} (h : StrsAre vs xs) {n : Nat} {x : Str} (hx : xs[n]? = some x) : ∃ t, vs[n]? = some (.str x t) := by
  induction h generalizing n with
  | nil => simp at hx
  | cons y t _ ih =>
    cases n with
    | zero => simp at hx; subst hx; exact ⟨t, rfl⟩
    | succ n => simpa using ih (by simpa using hx)
theorem strs_drop {vs : List Value} {xs : List Str} (h : StrsAre vs xs) (n : Nat) : StrsAre (vs.drop n) (xs.drop n) := by
  induction h generalizing n with
  | nil => simpa using StrsAre.nil
  | cons y t h ih =>
    cases n with
    | zero => exact .cons y t h
    | succ n => simpa using ih n
section
variable {prog : Program} {w : World} {A : Around} {E : Value → Shared → Prop} {s : Shared} {Q : Value → Shared → Prop} {h₀ : Heap} {L D b l : Addr} {m : Str → Option Value} {news : List (Addr × Obj)} {vs ws : List Value} {xs : List Str} {k : Int} {u : Tok} {nn n2 : Nat} {value slice : Expr}
theorem item_sx {n : Nat} {x : Str} (N : News h₀ L s.heap news) (hm : (D, ({ cls := .type "list", data := .seq vs.toArray nn } : Obj)) ∈ news) (hi : StrsAre vs xs) (hl : xs.length ≤ 1000) (hx : xs[n]? = some x) (hk : k = (n : Int))
    (h : ∀ t, Q (.str x t) s) (hs : subscripted slice false (.ref D) (.int k u) = operate [.ref D, .int k u] (getItem (.ref D) (.int k u)) := by with_unfolding_all rfl) (hg : ∀ r, letTemporaryGo value (.ref D) r = pure () := by intro _; with_unfolding_all rfl) :
    wpAny (model prog w) A (subscriptTail value slice (.ref D) (.int k u)) Q E s := by
  obtain ⟨t, e⟩ := strs_get hi hx
  have hn := (List.getElem?_eq_some_iff.mp hx).1
  subst hk
  exact kim_list N hm rfl rfl (by omega) (by omega) (by rw [Int.toNat_natCast]; exact e) (h t) hs hg
theorem from_sx {ui : Tok} {n : Nat} (F : Fr h₀ L s.heap m) (N : News h₀ L s.heap news) (hm : (l, ({ cls := .type "list", data := .seq vs.toArray nn } : Obj)) ∈ news) (hl : vs.length ≤ 1000) (hk : k = (n : Int)) (hn : n ≤ vs.length)
    (h : ∀ D h', Fr h₀ L h' m → News h₀ L h' ((D, listOf (vs.drop n).toArray 0) :: news) → (∀ p ∈ news, p.1 < D) → Q (.ref D) { s with heap := h' })
    (hs : subscripted slice false (.ref l) (.ref s.heap.objs.size) = operate [.ref s.heap.objs.size, .ref l] (getItem (.ref l) (.ref s.heap.objs.size)) := by with_unfolding_all rfl) (ht : ∀ r, letTemporaryGo value (.ref l) r = pure () := by intro _; with_unfolding_all rfl) :
    wpAny (model prog w) A (subscriptTail value slice (.ref l) (.ref s.heap.objs.size)) Q E { s with heap := s.heap.push { cls := .type "slice", data := .fields #[.int k ui, .none, .none] } } := by
  subst hk
  have e : sliceBounds (some (n : Int)) none none vs.toArray.size = (((n : Nat) : Int), ((vs.length : Nat) : Int), 1) := by
    simp only [sliceBounds, Option.getD_none, show (1 : Int) > 0 by decide, if_true, if_neg (show ¬ ((n : Int) < 0) by omega), List.size_toArray]
    congr 1
    omega
  refine kmk_slice_lit F N (isl N hm) (.int _ _) .none (zs := vs.drop n) ?_ h hs ht (by rw [List.size_toArray, sizeLine_eq]; omega)
  rw [kmk_pick_nat _ e]
  show ((vs.drop n).take (vs.length - n)) = _
  rw [List.take_of_length_le (by rw [List.length_drop]; omega)]
theorem ext_ls {f : Obj → List (Addr × Obj)} (F : Fr h₀ L s.heap m) (N : News h₀ L s.heap news) (hb : (b, listOf ws.toArray n2) ∈ news) (U : ∀ o, Upd D (listOf vs.toArray nn) o news (f o)) (hl : vs.length + ws.length ≤ 1000)
    (h : ∀ h' n', Fr h₀ L h' m → News h₀ L h' (f (listOf (vs ++ ws).toArray n')) → Q .none { s with heap := h' }) : wpAny (model prog w) A (call (.builtin "list.extend") [.ref D, .ref b]) Q E s := by
  have hd : ¬(!vs.toArray.isEmpty && Builtin.List.listTooLong (vs.toArray.size + ws.toArray.size)) = true := by
    rw [List.size_toArray, List.size_toArray]
    unfold Builtin.List.listTooLong
    simp
    intro _
    have := sizeLine_eq
    omega
  by_cases e : ws = []
  · subst e
    refine kxn_extend F N hb rfl (U _) hd (by simp [sizeLine_eq]; omega) (by simp [sizeLine_eq]; omega) fun h' F' N' => h h' nn F' ?_
    rw [List.append_nil]
    exact N'
  · refine kl_extend F N hb (by rw [List.toList_toArray, List.toList_toArray]) (by rw [List.toList_toArray]; exact fun q => e (List.length_eq_zero_iff.mp q)) (U _) hd (by simp [sizeLine_eq]; omega) (by simp [sizeLine_eq]; omega) fun h' F' N' => h h' _ F' N'
end
theorem sld_next {xs : List Str} (hx : xs.Pairwise ltS) {i : Nat} {x : Str} (h : xs[i]? = some x) : i + 1 = xs.length ∨ ∃ x', xs[i + 1]? = some x' ∧ (x' == x) = false := by
  have := (List.getElem?_eq_some_iff.mp h).1
  rcases Nat.lt_or_ge (i + 1) xs.length with q | q
  · obtain ⟨x', e⟩ := jn_get q
    exact .inr ⟨x', e, ris_ne hx h e⟩
  · exact .inl (by omega)
theorem sld_start {xs ys : List Str} {i j : Nat} {mi un : List Str} (h : SldP xs ys i j mi un) :
    i = xs.length ∨ (∃ x, xs[i]? = some x ∧ i < xs.length ∧ j = ys.length) ∨ (∃ x y, xs[i]? = some x ∧ ys[j]? = some y ∧ i < xs.length ∧ j < ys.length ∧ True) := by
  rcases Nat.lt_or_ge i xs.length with hi | hi
  · obtain ⟨x, ex⟩ := jn_get hi
    rcases Nat.lt_or_ge j ys.length with hj | hj
    · obtain ⟨y, ey⟩ := jn_get hj
      exact .inr (.inr ⟨x, y, ex, ey, hi, hj, True.intro⟩)
    · exact .inr (.inl ⟨x, ex, hi, Nat.le_antisymm h.hj hj⟩)
  · exact .inl (Nat.le_antisymm h.hi hi)
theorem sld_if {xs ys : List Str} {i j : Nat} {mi un : List Str} {x y : Str} (h : SldP xs ys i j mi un) (hx : xs.Pairwise ltS) (hy : ys.Pairwise ltS) (ex : xs[i]? = some x) (ey : ys[j]? = some y) :
    (decide (x.cps.toList < y.cps.toList) = true ∧ SldP xs ys (i + 1) j (mi ++ [x]) un ∧ (i + 1 = xs.length ∨ ∃ x', xs[i + 1]? = some x' ∧ (x' == x) = false)) ∨
    (decide (x.cps.toList < y.cps.toList) = false ∧ decide (y.cps.toList < x.cps.toList) = true ∧ SldP xs ys i (j + 1) mi (un ++ [y]) ∧ (j + 1 = ys.length ∨ ∃ y', ys[j + 1]? = some y' ∧ (y' == y) = false)) ∨
    (y = x ∧ decide (x.cps.toList < x.cps.toList) = false ∧ SldP xs ys (i + 1) (j + 1) mi un ∧ (i + 1 = xs.length ∨ ∃ x', xs[i + 1]? = some x' ∧ (x' == x) = false) ∧ (j + 1 = ys.length ∨ ∃ y', ys[j + 1]? = some y' ∧ (y' == x) = false)) := by
  rcases ltS_tri x y with l | l | l
  · exact .inl ⟨decide_eq_true l, h.lt hx hy ex ey l, sld_next hx ex⟩
  · subst l
    exact .inr (.inr ⟨rfl, decide_eq_false (fun q => List.lt_irrefl _ q), h.eq hx hy ex ey, sld_next hx ex, sld_next hy ey⟩)
  · exact .inr (.inl ⟨decide_eq_false (fun q => List.lt_irrefl _ (List.lt_trans q l)), decide_eq_true l, h.gt hx hy ex ey l, sld_next hy ey⟩)
theorem sl_m1 {i j a b : Nat} (hi : i < a) (ha : a ≤ 40) (hj : j < b) (hb : b ≤ 40) : 200 - ((i : Int) + 1).toNat - (j : Int).toNat < 200 - (i : Int).toNat - (j : Int).toNat := by
  show 200 - (i + 1) - j < 200 - i - j; omega
theorem sl_m2 {i j a b : Nat} (hi : i < a) (ha : a ≤ 40) (hj : j < b) (hb : b ≤ 40) : 200 - (i : Int).toNat - ((j : Int) + 1).toNat < 200 - (i : Int).toNat - (j : Int).toNat := by
  show 200 - i - (j + 1) < 200 - i - j; omega
theorem sl_m3 {i j a b : Nat} (hi : i < a) (ha : a ≤ 40) (hj : j < b) (hb : b ≤ 40) : 200 - ((i : Int) + 1).toNat - ((j : Int) + 1).toNat < 200 - (i : Int).toNat - (j : Int).toNat := by
  show 200 - (i + 1) - (j + 1) < 200 - i - j; omega
theorem sl_b {m v i : Nat} (h1 : m ≤ 40) (h2 : v ≤ 40) : m + (v - i) ≤ 1000 := by omega
theorem sl_c {m v i : Nat} (h1 : m ≤ 40) (h2 : v ≤ 40) : m + (0 + 1) + (v - i) ≤ 1000 := by omega
theorem sl_l {a b c n : Nat} {P : Prop} (h1 : a = b) (h2 : b ≤ c ∧ P) (h3 : c ≤ n) (h4 : n ≤ 40) : a ≤ 40 := by omega
theorem sl_r {a b c n : Nat} {P : Prop} (h1 : a = b) (h2 : P ∧ b ≤ c) (h3 : c ≤ n) (h4 : n ≤ 40) : a ≤ 40 := by omega
theorem sl_v1 {v x i : Nat} (h : v = x) (q : i < x) : i ≤ v := by omega
theorem sl_v2 {v x i : Nat} (h : v = x) (q : i < x) : i + 1 ≤ v := by omega
theorem sl_v3 {v x i : Nat} (h : v = x) (q : i = x) : i ≤ v := by omega
theorem sl_v4 {v x i : Nat} (h : v = x) (q : i ≤ x) : i ≤ v := by omega
theorem sl_o1 {v x i : Nat} (h : v = x) (q : i + 1 = x) : (v : Int) ≤ (i : Int) + 1 := by omega
theorem sl_o2 {v x i : Nat} (h : v = x) (q : i = x) : (v : Int) ≤ (i : Int) := by omega
theorem sld_fin {vs ws ms us : List Value} {xs ys : List Str} {i j : Nat} {mi un : List Str} (hs : StrsAre vs xs) (ht : StrsAre ws ys) (h : SldP xs ys i j mi un) (hm : StrsAre ms mi) (hu : StrsAre us un) (e : i = xs.length ∨ j = ys.length) :
    StrsAre (ms ++ vs.drop i) (xs.filter fun x => decide (x ∉ ys)) ∧ StrsAre (us ++ ws.drop j) (ys.filter fun y => decide (y ∉ xs)) := by
  obtain ⟨h1, h2⟩ := h.fin e
  rw [← h1, ← h2]
  exact ⟨hm.append' (strs_drop hs i), hu.append' (strs_drop ht j)⟩
theorem newsDrop2 {h₀ h : Heap} {L : Addr} {a b : Addr × Obj} {l : List (Addr × Obj)} (N : News h₀ L h (a :: b :: l)) : News h₀ L h l := fun p hp => N p (List.mem_cons_of_mem _ (List.mem_cons_of_mem _ hp))
theorem cellOut {h₀ h : Heap} {L D c : Addr} {x : Obj} {o : Obj} {news : List (Addr × Obj)} (N : News h₀ L h ((D, x) :: news)) (hm : (c, o) ∈ news) : News h₀ L h ((D, x) :: (c, o) :: news.filter (fun p => p.1 != c)) := fun p hp => by
  rcases List.mem_cons.mp hp with rfl | hp
  · exact N _ List.mem_cons_self
  · rcases List.mem_cons.mp hp with rfl | hp
    · exact N _ (List.mem_cons_of_mem _ hm)
    · exact N _ (List.mem_cons_of_mem _ (List.mem_filter.mp hp).1)
theorem cellOff (c : Addr) (news : List (Addr × Obj)) : ∀ p ∈ news.filter (fun p => p.1 != c), p.1 ≠ c := fun p hp => by
  have := (List.mem_filter.mp hp).2
  exact bne_iff_ne.mp this
theorem ne_strs_same {prog : Program} {w : World} {A : Around} {E : Value → Shared → Prop} {s : Shared} {a b : Addr} {xs ys : List Value} {ss : List Str} {Q : Value → Shared → Prop} (ha : s.heap.IsList a xs.toArray) (hb : s.heap.IsList b ys.toArray) (hi : StrsAre xs ss) (hj : StrsAre ys ss) (oi : ss.all PyData.strOk = true) (hu : A.units + 64 < cLine) (h : Q (.bool false) s) :
    wpAny (model prog w) A (compareOp .NotEq (.ref a) (.ref b)) Q E s := ne_strs ha hb hi hj oi oi hu (by simpa using h)
theorem canLay_strs : ∀ ss : List Str, ss.all PyData.strOk = true → PyData.canLayAll0 (ss.map PyData.str) = true
  | [], _ => rfl
  | x :: r, h => by
    rw [List.all_cons, Bool.and_eq_true] at h
    simp [PyData.canLayAll0, PyData.canLay0, canLay_strs r h.2, h.1]
theorem depth_strs : ∀ ss : List Str, PyData.depthAll (ss.map PyData.str) = 0
  | [] => rfl
  | _ :: r => by simp [PyData.depthAll, PyData.depth, depth_strs r]
theorem ne_two {prog : Program} {w : World} {A : Around} {E : Value → Shared → Prop} {s : Shared} {h₀ : Heap} {L a b M U M' U' : Addr} {news : List (Addr × Obj)} {n n' q q1 q2 q3 : Nat} {xs ys xs' ys' : List Value} {S S' : List Str} {Q : Value → Shared → Prop}
    (N : News h₀ L s.heap news) (ha : (a, ({ cls := .type "tuple", data := .seq #[.ref M, .ref U] n } : Obj)) ∈ news) (hb : (b, ({ cls := .type "tuple", data := .seq #[.ref M', .ref U'] n' } : Obj)) ∈ news)
    (h1 : (M, listOf (List.toArray xs) q) ∈ news) (h2 : (U, listOf (List.toArray ys) q1) ∈ news) (h3 : (M', listOf (List.toArray xs') q2) ∈ news) (h4 : (U', listOf (List.toArray ys') q3) ∈ news)
    (i1 : StrsAre xs S) (i2 : StrsAre ys S') (i3 : StrsAre xs' S) (i4 : StrsAre ys' S') (o1 : S.all PyData.strOk = true) (o2 : S'.all PyData.strOk = true) (hu : A.units + 64 < cLine) (h : Q (.bool false) s) :
    wpAny (model prog w) A (compareOp .NotEq (.ref a) (.ref b)) Q E s := by
  have rd : ∀ {M U : Addr} {xs ys : List Value} {q q1 : Nat}, (M, listOf (List.toArray xs) q) ∈ news → (U, listOf (List.toArray ys) q1) ∈ news → StrsAre xs S → StrsAre ys S' → ∃ as, ReadsAll s.heap (#[Value.ref M, Value.ref U] : Array Value).toList [.list (S.map PyData.str), .list (S'.map PyData.str)] as := fun hM hU i j =>
    ⟨_, .cons (reads_newData (isl N hM) i.carried) (.cons (reads_newData (isl N hU) j.carried) .nil)⟩
  obtain ⟨as, ra⟩ := rd h1 h2 i1 i2
  obtain ⟨bs, rb⟩ := rd h3 h4 i3 i4
  have hsh : SeqAt.shaped (.tuple [.list (S.map PyData.str), .list (S'.map PyData.str)]) = true := by
    simp [SeqAt.shaped, PyData.canLay0, PyData.canLayAll0, PyData.depth, PyData.depthAll, canLay_strs S o1, canLay_strs S' o2, depth_strs]
  refine ne_dataH_same (reads_tuple_at (N _ ha).1 rfl rfl ra) (reads_tuple_at (N _ hb).1 rfl rfl rb) hsh hsh hu (SeqAt.noMix_of_shape (.tuple [.list .str, .list .str]) rfl _ _ ?_ ?_) ?_
  · simp [PySem.Spec.Shape.has, PySem.Spec.Shape.hasAll]
  · simp [PySem.Spec.Shape.has, PySem.Spec.Shape.hasAll]
  · have e : PySem.Spec.same (.tuple [.list (S.map PyData.str), .list (S'.map PyData.str)]) (.tuple [.list (S.map PyData.str), .list (S'.map PyData.str)]) = true := by
      have a1 := same_strs S S
      have a2 := same_strs S' S'
      simp only [decide_true] at a1 a2
      simp only [PySem.Spec.same, PySem.Spec.sameAll] at a1 a2 ⊢
      simp [a1, a2]
    rw [e]
    exact h
theorem notIn_any (S : List Str) : (fun x : Str => !(S.any (· == x))) = fun x => decide (x ∉ S) := by
  funext x
  by_cases h : x ∈ S
  · have : S.any (· == x) = true := List.any_eq_true.mpr ⟨x, h, by simp⟩
    simp [this, h]
  · have : S.any (· == x) = false := by
      rw [List.any_eq_false]
      intro y hy e
      exact h (beq_iff_eq.mp e ▸ hy)
    simp [this, h]
theorem filtOk {S : List Str} {p : Str → Bool} (h : S.all PyData.strOk = true) : (S.filter p).all PyData.strOk = true := by
  rw [List.all_eq_true] at h ⊢
  exact fun x hx => h x (List.mem_filter.mp hx).1
theorem lens_of {ms : List (Int × Int)} {ys : List Value} (h : Al (fun (i : Nat) y => ∃ t, y = Value.int ((sgF (ms.getD i (0, 0)).1).length : Int) t) (List.range ms.length) ys) : IntsAre ys (ms.map fun p => ((sgF p.1).length : Int)) := by
  have key : ∀ {is : List Nat} {ys : List Value}, Al (fun (i : Nat) y => ∃ t, y = Value.int ((sgF (ms.getD i (0, 0)).1).length : Int) t) is ys → IntsAre ys (is.map fun i => ((sgF (ms.getD i (0, 0)).1).length : Int)) := by
    intro is ys h
    induction h with
    | nil => exact .nil
    | cons r _ ih => obtain ⟨t, rfl⟩ := r; exact .cons _ t ih
  have h2 := key h
  have e : (List.range ms.length).map (fun i => ((sgF (ms.getD i (0, 0)).1).length : Int)) = ms.map fun p => ((sgF p.1).length : Int) := by
    have := congrArg (List.map fun p : Int × Int => ((sgF p.1).length : Int)) (range_getD ms (0, 0))
    rw [List.map_map] at this
    exact this
  rw [e] at h2
  exact h2
theorem lens_ok {ms : List (Int × Int)} (h : StgOk ms) {ns : List Int} (hp : ns.Perm (ms.map fun p => ((sgF p.1).length : Int))) : ∀ x ∈ ns, 0 ≤ x ∧ x ≤ 3 := by
  intro x hx
  obtain ⟨p, hm, rfl⟩ := List.mem_map.mp (hp.mem_iff.mp hx)
  have h1 := h p hm
  have h2 := sg_le (mask := p.1) (by omega)
  omega
theorem dropMid {h₀ h : Heap} {L : Addr} {a b c : Addr × Obj} {l : List (Addr × Obj)} (N : News h₀ L h (a :: b :: c :: l)) : News h₀ L h (a :: l) := fun p hp => by
  rcases List.mem_cons.mp hp with rfl | hp
  · exact N _ List.mem_cons_self
  · exact N _ (List.mem_cons_of_mem _ (List.mem_cons_of_mem _ (List.mem_cons_of_mem _ hp)))
theorem newsSkip {h₀ h : Heap} {L : Addr} {a b : Addr × Obj} {l : List (Addr × Obj)} (N : News h₀ L h (a :: b :: l)) : News h₀ L h (a :: l) := fun p hp => by
  rcases List.mem_cons.mp hp with rfl | hp
  · exact N _ List.mem_cons_self
  · exact N _ (List.mem_cons_of_mem _ (List.mem_cons_of_mem _ hp))
noncomputable def stF (x : Int) : Int × Int := (x.fmod 7 + 1, (x.fmod 14).fdiv 7)
theorem ints_at {vs : List Value} {ns : List Int} (h : IntsAre vs ns) {i : Nat} {v : Value} (hv : vs[i]? = some v) : ∃ a t, v = .int a t ∧ ns[i]? = some a := by
  induction h generalizing i with
  | nil => simp at hv
  | cons a t _ ih =>
    cases i with
    | zero => simp at hv; exact ⟨a, t, hv.symm, rfl⟩
    | succ i => simpa using ih (by simpa using hv)
section
variable {prog : Program} {w : World} {A : Around} {h₀ : Heap} {L : Addr} {m : Str → Option Value} {env : Env} {elt : Expr} {x : Str} {scope : Scope} {cl : List (Str × Addr)} {s : Shared} {Fin : List Value → List (Addr × Obj) → Prop} {news : List (Addr × Obj)} {ax : Addr} {nn : Nat}
theorem off3_all {I C D : Addr} : ∀ {l : List (Addr × Obj)}, (∀ p ∈ l, p.1 ≠ I ∧ p.1 ≠ C ∧ p.1 ≠ D) → LCg.Off3 I C D l
  | [], _ => True.intro
  | p :: _, h => ⟨h p List.mem_cons_self, off3_all fun q hq => h q (List.mem_cons_of_mem _ hq)⟩
theorem comp_stg {ws : List Value} {xs : List Int} (hi : IntsAre ws xs) (f : Int → Int × Int) (hm : (ax, listOf ws.toArray nn) ∈ news) {n : Nat} (hn : n = ws.length)
    (turn : ∀ a t I oI C oC D m₂ ys ts h tk (E' : Value → Shared → Prop), a ∈ xs → LCg.NsObj oC m₂ → m₂ x = some (.int a t) → Fr h₀ L h m → News h₀ L h ((I, oI) :: (C, oC) :: (D, LCg.lst ys) :: (ts ++ news)) →
      wpAny (model prog w) A (eval elt (compEnvC scope cl C env)) (fun y s₂ => Stop (∃ T k t1 t2 h' tk', y = .ref T ∧ s₂ = { s with heap := h', toks := tk' } ∧ Fr h₀ L h' m ∧ News h₀ L h' ((T, ({ cls := .type "tuple", data := .seq #[.int (f a).1 t1, .int (f a).2 t2] k } : Obj)) :: (I, oI) :: (C, oC) :: (D, LCg.lst ys) :: (ts ++ news)) ∧ ∀ p ∈ (I, oI) :: (C, oC) :: (D, LCg.lst ys) :: (ts ++ news), p.1 ≠ T)) E' { s with heap := h, toks := tk })
    (fin : ∀ ys ts, Stg ts ys (xs.map f) → Fin ys (ts ++ news)) : LCg.CompRest prog w A h₀ L m env elt x scope cl s (LCg.SrcAt h₀ ax ws.toArray) (fun i v => ws.toArray[i]? = some v) Fin n 0 [] news := by
  have key : ∀ (j i : Nat) (ys : List Value) (ts : List (Addr × Obj)), i + j = n → Stg ts ys ((xs.take i).map f) → LCg.CompRest prog w A h₀ L m env elt x scope cl s (LCg.SrcAt h₀ ax ws.toArray) (fun i v => ws.toArray[i]? = some v) Fin j i ys (ts ++ news) := by
    intro j
    induction j with
    | zero =>
      intro i ys ts hi' hs
      have e : xs.take i = xs := List.take_of_length_le (by rw [← hi.length]; omega)
      rw [e] at hs
      exact LCg.CompRest.zero (fin ys ts hs)
    | succ j ih =>
      intro i ys ts hi' hs
      refine LCg.CompRest.succ ?_
      intro v I oI C oC D m₂ h tk E' hv hC hx F N off ne
      obtain ⟨a, t, rfl, ha⟩ := ints_at hi (i := i) (by simpa using hv)
      refine wpAny_mono (turn a t I oI C oC D m₂ ys ts h tk E' (List.mem_of_getElem? ha) hC hx F N) (fun y s₂ hq => ?_) fun _ _ e => e
      unfold Stop at hq
      obtain ⟨T, k, t1, t2, h', tk', rfl, rfl, F', N', hT⟩ := hq
      have hoff := LCg.Off3.mem off
      refine LCg.CompEnd.intro F' N' ((T, ({ cls := .type "tuple", data := .seq #[.int (f a).1 t1, .int (f a).2 t2] k } : Obj)) :: (ts ++ news)) (fun p hp => ?_) (off3_all fun p hp => ?_) ?_ ?_
      · simp only [List.mem_cons] at hp ⊢
        rcases hp with h | h | h | h | h
        · exact .inr (.inl h)
        · exact .inr (.inr (.inl h))
        · exact .inr (.inr (.inr (.inl h)))
        · exact .inl h
        · exact .inr (.inr (.inr (.inr h)))
      · rcases List.mem_cons.mp hp with rfl | hp
        · exact ⟨Ne.symm (hT (I, oI) List.mem_cons_self), Ne.symm (hT (C, oC) (List.mem_cons_of_mem _ List.mem_cons_self)), Ne.symm (hT (D, LCg.lst ys) (List.mem_cons_of_mem _ (List.mem_cons_of_mem _ List.mem_cons_self)))⟩
        · exact hoff p hp
      · exact Or.inr ⟨_, List.mem_cons_of_mem _ (List.mem_append_right _ hm), rfl, _, rfl⟩
      · have := ih (i + 1) (ys ++ [.ref T]) ((T, ({ cls := .type "tuple", data := .seq #[.int (f a).1 t1, .int (f a).2 t2] k } : Obj)) :: ts) (by omega) ?_
        · exact this
        · rw [List.take_add_one, ha, List.map_append]
          exact Al.snoc (hs.mono fun p hp => List.mem_cons_of_mem _ hp) ⟨T, _, k, t1, t2, rfl, List.mem_cons_self, rfl, rfl⟩
  have := key n 0 [] [] (by omega) .nil
  exact this
end
@[irreducible] noncomputable def srcF (ns : List Int) : List Int := if ns.take 3 = [] then [1, 9] else ns.take 3
theorem srcF_a {ns : List Int} (h : ns.take 3 ≠ []) : srcF ns = ns.take 3 := by unfold srcF; rw [if_neg h]
theorem srcF_b {ns : List Int} (h : ns.take 3 = []) : srcF ns = [1, 9] := by unfold srcF; rw [if_pos h]
theorem srcF_len (ns : List Int) : (srcF ns).length ≤ 3 := by
  unfold srcF
  split
  · decide
  · rw [List.length_take]; omega
theorem srcF_pos (ns : List Int) : 1 ≤ (srcF ns).length := by
  unfold srcF
  split
  · decide
  · rename_i h
    exact Nat.pos_of_ne_zero fun e => h (List.length_eq_zero_iff.mp e)
theorem sub_src {h₀ h : Heap} {L : Addr} {a b : Addr × Obj} {ts l : List (Addr × Obj)} (N : News h₀ L h (a :: (ts ++ b :: l))) : News h₀ L h (a :: (ts ++ l)) := fun p hp => N p (by
  simp only [List.mem_cons, List.mem_append] at hp ⊢
  rcases hp with h | h | h
  · exact .inl h
  · exact .inr (.inl h)
  · exact .inr (.inr (.inr h)))
theorem stF_ok (x : Int) : (1 ≤ (stF x).1 ∧ (stF x).1 ≤ 7) ∧ (0 ≤ (stF x).2 ∧ (stF x).2 ≤ 1) := by
  unfold stF
  have e : x.fmod 7 = x % 7 := Int.fmod_eq_emod_of_nonneg x (by omega)
  have e2 : x.fmod 14 = x % 14 := Int.fmod_eq_emod_of_nonneg x (by omega)
  have e3 : ∀ y : Int, y.fdiv 7 = y / 7 := fun y => Int.fdiv_eq_ediv_of_nonneg y (by omega)
  simp only [e, e2, e3]
  omega
theorem ltAll {I C D T : Addr} {oI oC oD : Obj} {l : List (Addr × Obj)} (h : (@LT.lt Nat _ I T) ∧ (@LT.lt Nat _ C T) ∧ (@LT.lt Nat _ D T) ∧ AllLt T l) : ∀ p ∈ (I, oI) :: (C, oC) :: (D, oD) :: l, p.1 ≠ T := fun p hp => by
  rcases List.mem_cons.mp hp with rfl | hp
  · exact Nat.ne_of_lt h.1
  · rcases List.mem_cons.mp hp with rfl | hp
    · exact Nat.ne_of_lt h.2.1
    · rcases List.mem_cons.mp hp with rfl | hp
      · exact Nat.ne_of_lt h.2.2.1
      · exact Nat.ne_of_lt (kst_ltOf h.2.2.2 p hp)
section
variable {prog : Program} {w : World} {A : Around} {E : Value → Shared → Prop} {s : Shared} {Q : Value → Shared → Prop} {h₀ : Heap} {L a b D : Addr} {m : Str → Option Value} {news : List (Addr × Obj)} {vs ws : List Value} {ns ms : List Int} {value slice : Expr} {nn : Nat} {k : Int}
theorem add_is (F : Fr h₀ L s.heap m) (N : News h₀ L s.heap news) (ha : s.heap.IsList a vs.toArray) (hb : s.heap.IsList b ws.toArray) (hi : IntsAre vs ns) (hj : IntsAre ws ms) (hl : ns.length + ms.length ≤ 1000)
    (h : ∀ D us h', Fr h₀ L h' m → News h₀ L h' ((D, listOf (List.toArray us) 0) :: news) → (∀ p ∈ news, p.1 < D) → IntsAre us (ns ++ ms) → Q (.ref D) { s with heap := h' }) : wpAny (model prog w) A (binaryOp .Add (.ref a) (.ref b)) Q E s :=
  add_lists (hsz := by rw [hi.length, hj.length, sizeLine_eq]; omega) F N ha hb fun h' F' N' => h _ _ h' F' N' (fun p hp => Heap.lt_size (N p hp).1) (hi.append hj)
theorem from_is {ui : Tok} (F : Fr h₀ L s.heap m) (N : News h₀ L s.heap news) (hm : (D, ({ cls := .type "list", data := .seq vs.toArray nn } : Obj)) ∈ news) (hi : IntsAre vs ns) (hl : ns.length ≤ 1000) (hk : 0 ≤ k)
    (h : ∀ D' us h', Fr h₀ L h' m → News h₀ L h' ((D', listOf (List.toArray us) 0) :: news) → (∀ p ∈ news, p.1 < D') → IntsAre us (ns.drop k.toNat) → Q (.ref D') { s with heap := h' })
    (hs : subscripted slice false (.ref D) (.ref s.heap.objs.size) = operate [.ref s.heap.objs.size, .ref D] (getItem (.ref D) (.ref s.heap.objs.size)) := by with_unfolding_all rfl) (ht : ∀ r, letTemporaryGo value (.ref D) r = pure () := by intro _; with_unfolding_all rfl) :
    wpAny (model prog w) A (subscriptTail value slice (.ref D) (.ref s.heap.objs.size)) Q E { s with heap := s.heap.push { cls := .type "slice", data := .fields #[.int k ui, .none, .none] } } :=
  kmk_slice_ints F N (isl N hm) (.int _ _) .none hi (kmk_from hi hk) rfl (fun D' us h' F' N' l hu _ _ => h D' us h' F' N' l hu) hs ht (by rw [List.size_toArray, hi.length, sizeLine_eq]; omega)
end
set_option maxRecDepth 100000
set_option maxHeartbeats 2000000
set_option Elab.async false
noncomputable def NewX (h h' : Heap) (e : Addr) (c : Value) : Prop :=
  (∀ b o, h.get? b = some o → h'.get? b = some o) ∧ h.get? e = none ∧ ∃ ob tp, h'.get? e = some ob ∧ ob.cls = .type "IndexError" ∧ ob.data = .fields #[tp, .none, c, .none, .bool false, .none]
theorem NewX.of {h h' : Heap} {e : Addr} (x : Heap.NewExc h h' e "IndexError") : NewX h h' e .none := ⟨x.keeps, x.new, x.there⟩
section
variable {prog : Program} {w : World} {α : Type} {A : Around} {E : Value → Shared → Prop} {s : Shared}
theorem entry_unchain : entryFor table "proto.unchain" = some Builtin.«proto.unchain» := entryFor_of_tree (by kernel_rfl)
theorem raise_marked {msg : String} {x : Addr} {ox : Obj} {vx : Array Value} {Q : α → Shared → Prop} (hh : A.handled = some (.ref x)) (hx : s.heap.get? x = some ox) (hd : ox.data = .fields vx) (h2 : vx[2]? = some .none)
    (h : ∀ h' tk e, NewX s.heap h' e (.ref x) → E (.ref e) { s with heap := h', toks := tk }) :
    wpAny (model prog w) A (raiseErrorWords "IndexError" msg : Sem α) Q E s := by
  have hp := plainExc_IndexError
  unfold raiseErrorWords
  refine wpAny_bind (wpAny_mkText (wpAny_bind ?_))
  unfold newExc newTuple
  refine wpAny_bind (wpAny_newObj_type ?_)
  refine wpAny_bind (m := firstArgMember _ _) (wpAny_of_eq (a := Value.none) (by simp only [firstArgMember, hp.first]; rfl) ?_)
  rw [hp.own]
  refine wpAny_newObj_type ?_
  unfold raiseNew
  refine wpAny_bind (wpAny_handled ?_)
  rw [hh]
  have k : ∀ b o, s.heap.get? b = some o → ((s.heap.push { cls := Value.type "tuple", data := Data.seq #[Value.str (Str.ofString msg) s.toks] }).push { cls := .type "IndexError", data := .fields #[.ref s.heap.objs.size, .none, .none, .none, .bool false, .none] }).get? b = some o := fun b o hb => Heap.get?_push_of_some _ (Heap.get?_push_of_some _ hb)
  have hsz : (s.heap.push { cls := Value.type "tuple", data := Data.seq #[Value.str (Str.ofString msg) s.toks] }).objs.size = s.heap.objs.size + 1 := Heap.size_push ..
  have hlt : x < s.heap.objs.size := Heap.lt_size hx
  have hne : (Value.ref x != Value.ref (s.heap.push { cls := Value.type "tuple", data := Data.seq #[Value.str (Str.ofString msg) s.toks] }).objs.size) = true := by
    rw [hsz]
    refine bne_iff_ne.mpr fun q => ?_
    injection q with q
    exact absurd q (Nat.ne_of_lt (Nat.lt_succ_of_lt hlt))
  have he := Heap.get?_push_size (s.heap.push { cls := Value.type "tuple", data := Data.seq #[Value.str (Str.ofString msg) s.toks] }) (o := { cls := .type "IndexError", data := .fields #[.ref s.heap.objs.size, .none, .none, .none, .bool false, .none] }) rfl
  dsimp only
  rw [if_pos hne]
  refine wpAny_bind (wpAny_holding (wpAny_runValue (codeAny_builtin entry_unchain ?_)))
  unfold Builtin.«proto.unchain»
  dsimp only
  refine wpAny_bind (wpAny_field (k _ _ hx) hd h2 ?_)
  rw [if_pos (by rfl)]
  refine wpAny_pure ?_
  dsimp only
  refine wpAny_bind (wpAny_setField (x := .ref x) he rfl (by simp) ?_)
  refine wpAny_throw ?_
  refine h _ _ _ ⟨fun b o hb => ?_, Heap.get?_none_of_le (by rw [hsz]; exact Nat.le_succ _), _, .ref s.heap.objs.size, Heap.get?_update_self _ he rfl, rfl, rfl⟩
  rw [Heap.get?_update_other _ _ (fun q => absurd (Heap.lt_size hb) (by rw [← q, hsz]; exact Nat.not_lt.mpr (Nat.le_succ _)))]
  exact k _ _ hb
theorem item_out_marked {value slice : Expr} {l x : Addr} {items : Array Value} {k : Int} {u : Tok} {Q : Value → Shared → Prop} {ox : Obj} {vx : Array Value} (hA : A.handled = some (.ref x)) (hx : s.heap.get? x = some ox) (hdx : ox.data = .fields vx) (h2 : vx[2]? = some .none) (hl : s.heap.IsList l items)
    (hout : (items.size : Int) ≤ k) (hhi : k < 2 ^ 63)
    (hE : ∀ h' tk e, NewX s.heap h' e (.ref x) → E (.ref e) { s with heap := h', toks := tk })
    (hs : subscripted slice false (.ref l) (.int k u) = operate [.ref l, .int k u] (getItem (.ref l) (.int k u)) := by with_unfolding_all rfl) :
    wpAny (model prog w) A (subscriptTail value slice (.ref l) (.int k u)) Q E s := by
  refine tail_any hl.typeIs slot_list_getitem.lookup ?_ hs
  obtain ⟨o, ho, hc, ne, hd⟩ := id hl
  unfold getItem
  try with_reducible refine wpAny_holding ?_
  first | refine wpAny_bind (wpAny_pure ?_) | skip
  refine wpAny_bind (wpAny_sequenceKey hl.typeIs (by decide) ?_)
  refine wpAny_bind (wpAny_callSpecial?_slot (name := Str.ofString "__getitem__") hl.typeIs slot_list_getitem
    (wpAny_call_entry slot_list_getitem hl.typeIs entry_list_getitem ?_ (args_list_getitem _ _)))
  show wpAny _ _ (Builtin.List.listSubscript? (.int k u) >>= _) _ _ s
  refine wpAny_bind (wpAny_listSubscript_int (fitsIndex_both (by omega) hhi) ?_)
  obtain ⟨j, rfl⟩ : ∃ j : Nat, k = (j : Int) := ⟨k.toNat, by omega⟩
  have hxj : items[j]? = none := Array.getElem?_eq_none (by omega)
  show wpAny _ _ ((seqItemAt l j >>= fun r => pure (r.map (j, ·))) >>= _) _ _ s
  refine wpAny_bind (wpAny_bind (wpAny_seqItemAt ho hd (wpAny_pure ?_)))
  rw [hxj]
  first
    | exact wpAny_bind (wpAny_rule (raise_marked hA hx hdx h2 hE))
    | exact wpAny_bind (wpAny_rule (wpAny_bind (raise_marked hA hx hdx h2 hE)))
    | exact wpAny_bind (wpAny_bind (wpAny_rule (raise_marked hA hx hdx h2 hE)))
    | exact wpAny_rule (raise_marked hA hx hdx h2 hE)
end
noncomputable abbrev frs (l : List Env) : List Addr := l.filterMap (·.frame)
noncomputable def HeldX (g : Heap) (L : Addr) (h : Heap) (own : List (Addr × Obj)) (e : Addr) (c fl : Value) : Prop :=
  ∃ (oe oT : Obj) (T : Addr) (vs ts : Array Value), News g L h ((e, oe) :: (T, oT) :: own) ∧ oe.cls = .type "IndexError" ∧ oe.data = .fields vs ∧ vs[1]? = some (.ref T) ∧ vs[2]? = some c ∧ T ≠ e ∧ oT.data = .fields ts ∧ ts[3]? = some fl ∧ (∀ p ∈ own, p.1 ≠ T ∧ p.1 ≠ e)
theorem HeldX.news {g h : Heap} {L e : Addr} {own : List (Addr × Obj)} {c fl : Value} (H : HeldX g L h own e c fl) : News g L h own := by
  obtain ⟨oe, oT, T, vs, ts, N, _⟩ := H
  exact fun p hp => N p (List.mem_cons_of_mem _ (List.mem_cons_of_mem _ hp))
section
variable {M : Model} {A₀ : Around} {E : Value → Shared → Prop} {s : Shared} {base g h : Heap} {outer : List Env} {L a e : Addr} {m : Str → Option Value} {name : Str} {scope : Scope} {cd c fl : Value} {own : List (Addr × Obj)}
theorem news_upd {p : Addr × Obj} {o' : Obj} {f : Obj → Obj} {h' : Heap} (N : News g L h (p :: own)) (ho : h'.get? p.1 = some o') (hk : ∀ b, b ≠ p.1 → h'.get? b = h.get? b) (hn : ∀ q ∈ own, q.1 ≠ p.1) : News g L h' ((p.1, o') :: own) := fun q hq => by
  rcases List.mem_cons.mp hq with rfl | hq
  · exact ⟨ho, (N p List.mem_cons_self).2⟩
  · exact ⟨(hk q.1 (hn q hq)).trans (N q (List.mem_cons_of_mem _ hq)).1, (N q (List.mem_cons_of_mem _ hq)).2⟩
theorem fr_upd {h' : Heap} {e : Addr} (F : Fr g L h m) (he : g.get? e = none) (hL : e ≠ L) (hk : ∀ b, b ≠ e → h'.get? b = h.get? b) : Fr g L h' m := by
  obtain ⟨o, es, ep, ho, r⟩ := F.ns
  refine ⟨⟨o, es, ep, (hk L (Ne.symm hL)).trans ho, r⟩, fun b o' hb => (hk b fun q => by rw [q, he] at hb; cases hb).trans (F.keep b o' hb), F.above⟩
theorem noteX {A : Around} {oe : Obj} {vs : Array Value} {Q : Unit → Shared → Prop} (hA : A.frames = some (envOf name scope L a cd :: outer)) (K : Below A₀ base outer g) (F : Fr g L s.heap m) (N : News g L s.heap ((e, oe) :: own)) (hcl : oe.cls = .type "IndexError") (hd : oe.data = .fields vs) (h1 : vs[1]? = some .none) (h2 : vs[2]? = some c) (hoff : ∀ p ∈ own, p.1 ≠ e)
    (hQ : ∀ h' g', KtsTurn (frs outer) g g' → Fr g' L h' m → HeldX g' L h' own e c (rawInt L) → Below A₀ base outer g' → Q () { s with heap := h' }) (hk : scope.kind = .function := by rfl) :
    wpAny M A (noteFrame (.ref e) (envOf name scope L a cd)) Q E s := by
  have K' := K.push (name := name) (a := a) (cd := cd) F hk
  have he := (N _ List.mem_cons_self).1
  have heg := (N _ List.mem_cons_self).2.2
  have heL := (N _ List.mem_cons_self).2.1
  have hsz : 1 < vs.size := (Array.getElem?_eq_some_iff.mp h1).1
  have hsz2 : 2 < vs.size := (Array.getElem?_eq_some_iff.mp h2).1
  unfold noteFrame
  simp only [show (envOf name scope L a cd).frame = some L from rfl]
  refine wpAny_bind (wpAny_field he hd h1 ?_)
  rw [if_neg (by decide)]
  refine wpAny_bind (wpAny_frameOf_fun hA K'.frames rfl fun h₁ hs₁ => ?_)
  refine wpAny_bind (wpAny_entryPlaceOf fun pl hpl => ?_)
  unfold EntryCells.newEntry newFields
  refine wpAny_bind (wpAny_newObj_type ?_ (hpl.sizeOk5 _ _ _ _ _))
  have hinL : ∀ b, b ∈ frs (envOf name scope L a cd :: outer) → b = L ∨ b ∈ frs outer := fun b hb => kts_mem hb
  have hene : e ∉ frs (envOf name scope L a cd :: outer) := fun hm => by
    rcases hinL e hm with q | q
    · exact heL q
    · obtain ⟨_, o, ho, _⟩ := K.frames.mem q
      rw [heg] at ho; cases ho
  have he₁ : h₁.get? e = some oe := (hs₁.2.1 e hene).trans he
  have he₂ := Heap.get?_push_of_some (h := h₁) { cls := .type "traceback", dict := none, data := .fields ([Value.none, .ref L, .none, rawInt L, .none] ++ (if pl.isEmpty then List.replicate 6 Value.none else pl)).toArray } he₁
  refine wpAny_setField he₂ hd hsz ?_
  have hTe : h₁.objs.size ≠ e := Nat.ne_of_gt (Heap.lt_size he₁)
  have hd₃ := Obj.data_mapFields hd (·.setIfInBounds 1 (Value.ref h₁.objs.size))
  have he₃ := Heap.get?_update_self (Obj.mapFields (·.setIfInBounds 1 (Value.ref h₁.objs.size))) he₂ (Obj.isFreed_of_fields hd₃)
  have hT₃ := (Heap.get?_update_other (h₁.push { cls := .type "traceback", dict := none, data := .fields ([Value.none, .ref L, .none, rawInt L, .none] ++ (if pl.isEmpty then List.replicate 6 Value.none else pl)).toArray })
    (Obj.mapFields (·.setIfInBounds 1 (Value.ref h₁.objs.size))) (Ne.symm hTe)).trans (Heap.get?_push_size h₁ rfl)
  have keep : ∀ b o, b ≠ e → h₁.get? b = some o →
      ((h₁.push { cls := .type "traceback", dict := none, data := .fields ([Value.none, .ref L, .none, rawInt L, .none] ++ (if pl.isEmpty then List.replicate 6 Value.none else pl)).toArray }).update e (Obj.mapFields (·.setIfInBounds 1 (Value.ref h₁.objs.size)))).get? b = some o :=
    fun b o hbe hb => by
      rw [Heap.get?_update_other _ _ (Ne.symm hbe)]
      exact Heap.get?_push_of_some _ hb
  have notE : ∀ b o, g.get? b = some o → b ≠ e := fun b o hb q => by rw [q, heg] at hb; cases hb
  have nL : g.get? L = none := kts_self F
  obtain ⟨T, S⟩ := kts_turn_at (h := (h₁.push { cls := .type "traceback", dict := none, data := .fields ([Value.none, .ref L, .none, rawInt L, .none] ++ (if pl.isEmpty then List.replicate 6 Value.none else pl)).toArray }).update e (Obj.mapFields (·.setIfInBounds 1 (Value.ref h₁.objs.size)))) (fs := frs outer) (g := g)
    (fun b hb => by
      obtain ⟨_, o, ho, _⟩ := K.frames.mem hb
      exact ⟨o, ho⟩)
    (fun b o hb nm => keep b o (notE b o hb) ((hs₁.2.1 b fun hm => by
      rcases hinL b hm with q | q
      · rw [q, nL] at hb; cases hb
      · exact nm q).trans (F.keep b o hb)))
    (fun b o hb _ => by
      obtain ⟨sl, hsl⟩ := hs₁.2.2 b o (F.keep b o hb)
      exact ⟨sl, keep b _ (notE b o hb) hsl⟩)
  have hsT : h₁.objs.size = s.heap.objs.size := hs₁.1
  have hTnone : s.heap.get? h₁.objs.size = none := Heap.get?_none_of_le (by rw [hsT]; exact Nat.le_refl _)
  have newT : g.get? h₁.objs.size = none := kts_none F.keep hTnone
  have hTL : h₁.objs.size ≠ L := fun q => by
    obtain ⟨o, _, _, ho, _⟩ := F.ns
    rw [q, ho] at hTnone; cases hTnone
  have hlow : ∀ p ∈ own, p.1 ≠ h₁.objs.size := fun p hp q => by
    have := (N p (List.mem_cons_of_mem _ hp)).1
    rw [q, hTnone] at this; cases this
  have Fn : ((h₁.push { cls := .type "traceback", dict := none, data := .fields ([Value.none, .ref L, .none, rawInt L, .none] ++ (if pl.isEmpty then List.replicate 6 Value.none else pl)).toArray }).update e (Obj.mapFields (·.setIfInBounds 1 (Value.ref h₁.objs.size)))).Ns L m := by
    obtain ⟨o, es, ep, ho, hdd, r⟩ := F.ns
    obtain ⟨sl, hsl⟩ := hs₁.2.2 L o ho
    exact ⟨_, es, ep, keep L _ (Ne.symm heL) hsl, hdd, r⟩
  refine hQ _ _ T ⟨Fn, S, by rw [T.size]; exact F.above⟩ ⟨_, { cls := .type "traceback", dict := none, data := .fields ([Value.none, .ref L, .none, rawInt L, .none] ++ (if pl.isEmpty then List.replicate 6 Value.none else pl)).toArray }, h₁.objs.size, _, _, ?_, (Obj.cls_mapFields _ _).trans hcl, hd₃, by simp [hsz], (by rw [Array.getElem?_setIfInBounds_ne (by decide)]; exact h2), hTe, rfl, ?_, fun p hp => ⟨hlow p hp, hoff p hp⟩⟩ ?_
  · intro p hp
    rcases List.mem_cons.mp hp with rfl | hp
    · exact ⟨he₃, heL, T.none_ _ heg⟩
    · rcases List.mem_cons.mp hp with rfl | hp
      · exact ⟨hT₃, hTL, T.none_ _ newT⟩
      · have n := N p (List.mem_cons_of_mem _ hp)
        refine ⟨keep p.1 p.2 (hoff p hp) ((hs₁.2.1 p.1 fun hm => ?_).trans n.1), n.2.1, T.none_ _ n.2.2⟩
        rcases hinL _ hm with q | q
        · exact n.2.1 q
        · obtain ⟨_, o, ho, _⟩ := K.frames.mem q
          rw [n.2.2] at ho; cases ho
  · first | (simp; done) | (rcases hpl with rfl | ⟨_, _, _, _, _, _, _, rfl⟩ <;> simp)
  · refine ⟨K.stack, fun b o q => T.other b o (K.stays b o q) (fun hm => by
      rw [(K.frames.mem hm).1] at q
      cases q), K.frames.of_keeps fun b o q _ => ?_⟩
    obtain ⟨sl, hsl⟩ := T.up q
    exact ⟨_, hsl, rfl⟩
theorem noteAgainX {A : Around} {Q : Unit → Shared → Prop} (H : HeldX g L s.heap own e c (rawInt L)) (hQ : Q () s) : wpAny M A (noteFrame (.ref e) (envOf name scope L a cd)) Q E s := by
  obtain ⟨oe, oT, T, vs, ts, N, hc, hd, h1, h2, hTe, hdT, h3, ho⟩ := H
  have he := (N _ List.mem_cons_self).1
  have hT := (N _ (List.mem_cons_of_mem _ List.mem_cons_self)).1
  unfold noteFrame
  simp only [show (envOf name scope L a cd).frame = some L from rfl]
  refine wpAny_bind (wpAny_field he hd h1 ?_)
  rw [if_pos (show (Value.ref T != Value.none) = true from by simp)]
  refine wpAny_bind (wpAny_field hT hdT h3 ?_)
  rw [if_pos (show (rawInt L == rawInt L) = true from by simp [rawInt])]
  exact wpAny_pure hQ
theorem flightX {A : Around} {Q : Unit → Shared → Prop} {x : Option Addr} (F : Fr g L s.heap m) (H : HeldX g L s.heap own e c fl)
    (hQ : ∀ h', Fr g L h' m → HeldX g L h' own e c (x.elim .none fun f => rawInt f) → Q () { s with heap := h' }) : wpAny M A (setFlight (.ref e) x) Q E s := by
  obtain ⟨oe, oT, T, vs, ts, N, hc, hd, h1, h2, hTe, hdT, h3, ho⟩ := H
  have he := N _ List.mem_cons_self
  have hT := N _ (List.mem_cons_of_mem _ List.mem_cons_self)
  have hsz3 : 3 < ts.size := (Array.getElem?_eq_some_iff.mp h3).1
  have other : ∀ b, b ≠ T → (s.heap.update T (Obj.mapFields (·.setIfInBounds 3 (x.elim Value.none fun f => rawInt f)))).get? b = s.heap.get? b := fun b hb => Heap.get?_update_other _ _ (Ne.symm hb)
  unfold setFlight
  refine wpAny_bind (wpAny_field he.1 hd h1 ?_)
  rw [if_pos (show (Value.ref T != Value.none) = true from by simp)]
  refine wpAny_setField hT.1 hdT hsz3 (hQ _ (fr_upd F hT.2.2 hT.2.1 other) ⟨oe, Obj.mapFields (·.setIfInBounds 3 (x.elim Value.none fun f => rawInt f)) oT, T, vs, ts.setIfInBounds 3 (x.elim Value.none fun f => rawInt f), fun p hp => ?_, hc, hd, h1, h2, hTe, Obj.data_mapFields hdT _, by simp [hsz3], ho⟩)
  rcases List.mem_cons.mp hp with rfl | hp
  · exact ⟨(other e (Ne.symm hTe)).trans he.1, he.2⟩
  · rcases List.mem_cons.mp hp with rfl | hp
    · exact ⟨Heap.get?_update_self _ hT.1 (Obj.isFreed_of_fields (Obj.data_mapFields hdT _)), hT.2⟩
    · have n := N p (List.mem_cons_of_mem _ (List.mem_cons_of_mem _ hp))
      exact ⟨(other p.1 (ho p hp).1).trans n.1, n.2⟩
theorem hasTb {A : Around} {Q : Value → Shared → Prop} (H : HeldX g L s.heap own e c fl) (hQ : ∀ T, Q (.ref T) s) : wpAny M A (field (.ref e) 1) Q E s := by
  obtain ⟨oe, oT, T, vs, ts, N, hc, hd, h1, h2, hTe, hdT, h3, ho⟩ := H
  exact wpAny_field (N _ List.mem_cons_self).1 hd h1 (hQ T)
end
section
variable {prog : Program} {w : World} {A₀ : Around} {E : Value → Shared → Prop} {s : Shared} {base g h : Heap} {outer : List Env} {L a e : Addr} {m : Str → Option Value} {name : Str} {scope : Scope} {cd c fl : Value} {own : List (Addr × Obj)}
  {K : Frag} {p : Program} {loose : List Str} {mean : ExcName → Option Value} {mg mb : Str → Option Value} {np pos : Pos} {b₀ : Stmt} {suite : List Stmt} {rest : List ExceptHandler} {Q : Flow → Shared → Prop}
theorem handleX (F : Fr g L s.heap m) (H : HeldX g L s.heap own e c fl) (X : K.In g) (T : Top p loose mean mg mb g) (ex : nsIn K mainGlobals (Str.ofString "IndexError") = some none)
    (k : ∀ h', Fr g L h' m → HeldX g L h' own e c .none → wpAny (model prog w) ((A₀.deeper (envOf name scope L a cd)).mark (some (.ref e))) (execs (b₀ :: suite) (envOf name scope L a cd)) Q E { s with heap := h' })
    (hk : scope.kind = .function := by rfl) (hx : (envOf name scope L a cd).kindOf (Str.ofString "IndexError") = some .globalImplicit := by rfl)
    (hE : PassesOwnAt (model prog w) ((A₀.deeper (envOf name scope L a cd)).mark (some (.ref e))) (A₀.deeper (envOf name scope L a cd)) (envOf name scope L a cd) E := by passes_own) :
    wpAny (model prog w) (A₀.deeper (envOf name scope L a cd)) (handleBy (.ref e) (envOf name scope L a cd) (.ExceptHandler (some (.Name (Str.ofString "IndexError") np)) none (b₀ :: suite) pos :: rest)) Q E s := by
  have hob : ∃ ob, s.heap.get? e = some ob ∧ ob.cls = .type "IndexError" := by
    obtain ⟨oe, oT, T, vs, ts, N, hc, _⟩ := H
    exact ⟨oe, (N _ List.mem_cons_self).1, hc⟩
  refine wpAny_handleBy_builtin (X := "IndexError") (T := "IndexError") (b := true) PySem.F.isExc_IndexError PySem.F.notTuple_IndexError (by rw [isSubtype_type]; kernel_rfl)
    (name_B F X (topRead_of T) ex PyProof.Rows.Boot.«IndexError» (by decide) ⟨rfl, hob, ?_⟩ hk hx (by decide))
  rw [if_pos rfl]
  exact flightX (x := none) F H fun h' F' H' => wpAny_passesOwnAt hE (k h' F' H')
theorem catchX (F : Fr g L s.heap m) (H : HeldX g L s.heap own e c (rawInt L)) (X : K.In g) (T : Top p loose mean mg mb g) (ex : nsIn K mainGlobals (Str.ofString "IndexError") = some none)
    (k : ∀ h', Fr g L h' m → News g L h' own → wpAny (model prog w) ((A₀.deeper (envOf name scope L a cd)).mark (some (.ref e))) (execs (b₀ :: suite) (envOf name scope L a cd)) Q E { s with heap := h' })
    (hk : scope.kind = .function := by rfl) (hx : (envOf name scope L a cd).kindOf (Str.ofString "IndexError") = some .globalImplicit := by rfl)
    (hE : PassesOwnAt (model prog w) ((A₀.deeper (envOf name scope L a cd)).mark (some (.ref e))) (A₀.deeper (envOf name scope L a cd)) (envOf name scope L a cd) E := by passes_own) :
    wpAny (model prog w) (A₀.deeper (envOf name scope L a cd)) (noteFrame (.ref e) (envOf name scope L a cd))
      (fun _ s₂ => wpAny (model prog w) (A₀.deeper (envOf name scope L a cd)) (setFlight (.ref e) none) (fun _ s₃ =>
        wpAny (model prog w) (A₀.deeper (envOf name scope L a cd)) (handleBy (.ref e) (envOf name scope L a cd) (.ExceptHandler (some (.Name (Str.ofString "IndexError") np)) none (b₀ :: suite) pos :: rest)) Q E s₃) E s₂) E s :=
  noteAgainX H (flightX (x := none) F H fun h' F' H' => handleX (s := { s with heap := h' }) F' H' X T ex (fun h'' F'' H'' => k h'' F'' H''.news) hk hx hE)
end
section
variable {prog : Program} {w : World} {A₀ : Around} {E : Value → Shared → Prop} {s : Shared} {base g h : Heap} {outer : List Env} {L a e : Addr} {m : Str → Option Value} {name : Str} {scope : Scope} {cd c fl : Value} {own : List (Addr × Obj)}
  {K : Frag} {p : Program} {loose : List Str} {mean : ExcName → Option Value} {mg mb : Str → Option Value} {np pos : Pos} {b₀ : Stmt} {suite : List Stmt} {rest : List ExceptHandler} {Q : Flow → Shared → Prop}
theorem newX_news {h₁ : Heap} (x : NewX h h₁ e c) (F : Fr g L h m) (N : News g L h own) : ∃ oe tp, Fr g L h₁ m ∧ News g L h₁ ((e, oe) :: own) ∧ oe.cls = .type "IndexError" ∧ oe.data = .fields #[tp, .none, c, .none, .bool false, .none] ∧ ∀ p ∈ own, p.1 ≠ e := by
  obtain ⟨k, hn, oe, tp, ho, hc, hd⟩ := x
  have F' : Fr g L h₁ m := F.keeps k
  refine ⟨oe, tp, F', fun q hq => ?_, hc, hd, fun q hq he => ?_⟩
  · rcases List.mem_cons.mp hq with rfl | hq
    · refine ⟨ho, fun q => ?_, kts_none F.keep hn⟩
      obtain ⟨o, _, _, hL, _⟩ := F.ns
      have q' : e = L := q
      rw [← q', hn] at hL; cases hL
    · exact ⟨k _ _ (N q hq).1, (N q hq).2⟩
  · have := (N q hq).1
    rw [he, hn] at this; cases this
theorem caughtA (x : NewX h s.heap e c) (B : Below A₀ base outer g) (F : Fr g L h m) (N : News g L h own) (XB : K.In base) (TB : Top p loose mean mg mb base) (ex : nsIn K mainGlobals (Str.ofString "IndexError") = some none)
    (k : ∀ h' g', KtsTurn (frs outer) g g' → Fr g' L h' m → News g' L h' own → Below A₀ base outer g' → K.In g' → Top p loose mean mg mb g' → wpAny (model prog w) ((A₀.deeper (envOf name scope L a cd)).mark (some (.ref e))) (execs (b₀ :: suite) (envOf name scope L a cd)) Q E { s with heap := h' })
    (hk : scope.kind = .function := by rfl) (hx : (envOf name scope L a cd).kindOf (Str.ofString "IndexError") = some .globalImplicit := by rfl)
    (hE : PassesOwnAt (model prog w) ((A₀.deeper (envOf name scope L a cd)).mark (some (.ref e))) (A₀.deeper (envOf name scope L a cd)) (envOf name scope L a cd) E := by passes_own) :
    wpAny (model prog w) (A₀.deeper (envOf name scope L a cd)) (noteFrame (.ref e) (envOf name scope L a cd))
      (fun _ s₂ => wpAny (model prog w) (A₀.deeper (envOf name scope L a cd)) (setFlight (.ref e) none) (fun _ s₃ =>
        wpAny (model prog w) (A₀.deeper (envOf name scope L a cd)) (handleBy (.ref e) (envOf name scope L a cd) (.ExceptHandler (some (.Name (Str.ofString "IndexError") np)) none (b₀ :: suite) pos :: rest)) Q E s₃) E s₂) E s := by
  obtain ⟨oe, tp, F₁, N₁, hc, hd, hoff⟩ := newX_news x F N
  refine noteX (outer := outer) (Around.frames_deeper B.stack) B F₁ N₁ hc hd (by rfl) (by rfl) hoff (fun h' g' T' F' H' B' => ?_) hk
  have X' : K.In g' := XB.keeps B'.stays
  have P' : Top p loose mean mg mb g' := TB.keeps B'.stays
  exact flightX (s := { s with heap := h' }) (x := none) F' H' fun h'' F'' H'' => handleX (s := { s with heap := h'' }) F'' H'' X' P' ex (fun h3 F3 H3 => k h3 g' T' F3 H3.news B' X' P') hk hx hE
theorem finA {f₀ : Stmt} {fs : List Stmt} {E' : Value → Shared → Prop} (x : NewX h s.heap e .none) (B : Below A₀ base outer g) (F : Fr g L h m) (N : News g L h own) (XB : K.In base) (TB : Top p loose mean mg mb base)
    (k : ∀ h' g', KtsTurn (frs outer) g g' → Fr g' L h' m → HeldX g' L h' own e .none .none → Below A₀ base outer g' → K.In g' → Top p loose mean mg mb g' →
      wpAny (model prog w) ((A₀.deeper (envOf name scope L a cd)).mark (some (.ref e))) (execs (f₀ :: fs) (envOf name scope L a cd))
        (fun fl s₂ => match fl with | .next => wpAny (model prog w) (A₀.deeper (envOf name scope L a cd)) (PySem.passOn "try.finally" (.ref e) (envOf name scope L a cd)) Q E s₂ | fl => wpAny (model prog w) (A₀.deeper (envOf name scope L a cd)) (setFlight (.ref e) none) (fun _ s₃ => Q fl s₃) E s₂)
        (notedBy (model prog w) ((A₀.deeper (envOf name scope L a cd)).mark (some (.ref e))) (envOf name scope L a cd) (cameBackBy (model prog w) (A₀.deeper (envOf name scope L a cd)) (envOf name scope L a cd) E)) { s with heap := h' })
    (hk : scope.kind = .function := by rfl) :
    wpAny (model prog w) (A₀.deeper (envOf name scope L a cd)) (noteFrame (.ref e) (envOf name scope L a cd))
      (fun _ s₂ => FinallyRaised prog w (A₀.deeper (envOf name scope L a cd)) E (envOf name scope L a cd) (f₀ :: fs) Q (.ref e) s₂) E' s := by
  obtain ⟨oe, tp, F₁, N₁, hc, hd, hoff⟩ := newX_news x F N
  refine noteX (outer := outer) (Around.frames_deeper B.stack) B F₁ N₁ hc hd (by rfl) (by rfl) hoff (fun h' g' T' F' H' B' => ?_) hk
  have X' : K.In g' := XB.keeps B'.stays
  have P' : Top p loose mean mg mb g' := TB.keeps B'.stays
  exact ⟨ref_ne_byPass e, noteAgainX (s := { s with heap := h' }) H' (flightX (s := { s with heap := h' }) (x := none) F' H' fun h'' F'' H'' => k h'' g' T' F'' H'' B' X' P')⟩
theorem passX {E' : Value → Shared → Prop} {Q' : Flow → Shared → Prop} (F : Fr g L s.heap m) (H : HeldX g L s.heap own e c fl)
    (k : ∀ h', Fr g L h' m → HeldX g L h' own e c (rawInt L) → E' (.ref e) { s with heap := h' }) :
    wpAny (model prog w) (A₀.deeper (envOf name scope L a cd)) (PySem.passOn "try.finally" (.ref e) (envOf name scope L a cd)) Q' E' s := by
  unfold PySem.passOn
  refine wpAny_bind (hasTb H fun T => ?_)
  rw [if_neg (by simp)]
  exact wpAny_bind (flightX (x := some L) F H fun h' F' H' => wpAny_throw (k h' F' H'))
theorem backX {e₁ : Value} {E' : Value → Shared → Prop} (x : NewX h s.heap e c) (B : Below A₀ base outer g) (F : Fr g L h m) (N : News g L h own)
    (k : ∀ h' g', KtsTurn (frs outer) g g' → Fr g' L h' m → HeldX g' L h' own e c (rawInt L) → Below A₀ base outer g' → E' (.ref e) { s with heap := h' })
    (hk : scope.kind = .function := by rfl) :
    notedBy (model prog w) ((A₀.deeper (envOf name scope L a cd)).mark (some e₁)) (envOf name scope L a cd) (cameBackBy (model prog w) (A₀.deeper (envOf name scope L a cd)) (envOf name scope L a cd) E') (.ref e) s := by
  obtain ⟨oe, tp, F₁, N₁, hc, hd, hoff⟩ := newX_news x F N
  unfold notedBy
  refine noteX (outer := outer) (show _ = _ from Around.frames_deeper B.stack) B F₁ N₁ hc hd (by rfl) (by rfl) hoff (fun h' g' T' F' H' B' => ?_) hk
  unfold cameBackBy
  refine wpAny_bind (hasTb (s := { s with heap := h' }) H' fun T => ?_)
  rw [if_neg (by simp)]
  exact flightX (s := { s with heap := h' }) (x := some L) F' H' fun h'' F'' H'' => k h'' g' T' F'' H'' B'
theorem backX0 {E' : Value → Shared → Prop} (x : NewX h s.heap e c) (B : Below A₀ base outer g) (F : Fr g L h m) (N : News g L h own)
    (k : ∀ h' g', KtsTurn (frs outer) g g' → Fr g' L h' m → HeldX g' L h' own e c (rawInt L) → Below A₀ base outer g' → E' (.ref e) { s with heap := h' })
    (hk : scope.kind = .function := by rfl) :
    notedBy (model prog w) (A₀.deeper (envOf name scope L a cd)) (envOf name scope L a cd) (cameBackBy (model prog w) (A₀.deeper (envOf name scope L a cd)) (envOf name scope L a cd) E') (.ref e) s := by
  obtain ⟨oe, tp, F₁, N₁, hc, hd, hoff⟩ := newX_news x F N
  unfold notedBy
  refine noteX (outer := outer) (Around.frames_deeper B.stack) B F₁ N₁ hc hd (by rfl) (by rfl) hoff (fun h' g' T' F' H' B' => ?_) hk
  unfold cameBackBy
  refine wpAny_bind (hasTb (s := { s with heap := h' }) H' fun T => ?_)
  rw [if_neg (by simp)]
  exact flightX (s := { s with heap := h' }) (x := some L) F' H' fun h'' F'' H'' => k h'' g' T' F'' H'' B'
end
@[irreducible] noncomputable def LeaveX (h₀ : Heap) (L : Addr) (m : Str → Option Value) (g : Heap) (R : Result → Shared → Prop) (v : Value) (s' : Shared) : Prop :=
  ∃ g' L' m', KtsTurn [L] g g' ∧ Fr g' L' s'.heap m' ∧ (Fr h₀ L s'.heap m → (∀ l, News g' L' s'.heap l → News h₀ L s'.heap l) → R (.ok (.ret v)) s')
theorem LeaveX.mk {h₀ g g' : Heap} {L L' : Addr} {m m' : Str → Option Value} {R : Result → Shared → Prop} {v : Value} {s' : Shared} (T : KtsTurn [L] g g') (F : Fr g' L' s'.heap m') (h : Fr h₀ L s'.heap m → (∀ l, News g' L' s'.heap l → News h₀ L s'.heap l) → R (.ok (.ret v)) s') : LeaveX h₀ L m g R v s' := by
  unfold LeaveX
  exact ⟨g', L', m', T, F, h⟩
theorem Kept.backX {h₀ g g' h' : Heap} {L L' : Addr} {m' : Str → Option Value} {own news own' : List (Addr × Obj)} (K : Kept h₀ L g own news) (T : KtsTurn [L] g g') (F : Fr g' L' h' m') (N : News h₀ L h' own') (hs : ∀ p ∈ own, p ∈ own') : News h₀ L h' news := fun p hp => by
  rcases K p hp with h | ⟨h1, h2⟩
  · exact N p (hs p h)
  · exact ⟨F.keep _ _ (T.other _ _ h1 fun hm => h2.1 (List.mem_singleton.mp hm)), h2⟩
section
variable {prog : Program} {w : World} {A₀ A : Around} {s : Shared} {base h₀ : Heap} {L : Addr} {m : Str → Option Value} {env : Env} {news own : List (Addr × Obj)} {K : Frag} {p : Program} {loose : List Str} {mean : ExcName → Option Value} {mg mb : Str → Option Value}
  {R : Result → Shared → Prop} {name qual : Str} {params : Arguments} {body : List Stmt} {scope : Scope} {dV kV doc pm cdv ct oc : Value} {an od : Option Addr} {osl : Array (Option Value)} {f : Addr} {args : Args} {binds : List (Str × Value)}
theorem code_defSR (B : Below A₀ base [] h₀) (F : Fr h₀ L s.heap m) (X₀ : K.In h₀) (N : News h₀ L s.heap news) (NO : News h₀ L s.heap own) (T : Top p loose mean mg mb h₀) (hA : A.frames = some [env]) (hf : env.frame = some L) (hke : env.scope.kind = .function)
    (ho : K.lookup f = some ⟨oc, od, .func (fnOf name qual params body scope dV kV doc pm an cdv ct), osl⟩) (hcd : codeIn K cdv qual = true) (hroom : A.depth < recursionLimit)
    (hbind : BindsTo s (fnOf name qual params body scope dV kV doc pm an cdv ct) args binds) (hloc : ∀ y ∈ binds, scope.names.lookup y.1 = some .local)
    (h : ∀ g L' h₁, Kept h₀ L g own news → Fr h₀ L g m → Fr g L' h₁ (fun y => binds.reverse.lookup y) → News g L' h₁ own → Below A base [env] g → K.In g → Top p loose mean mg mb g → (∀ q ∈ own, q.1 < L') → frs [env] = [L] →
      wpAny (model prog w) (A.deeper (envOf qual scope L' f cdv)) (execs body (envOf qual scope L' f cdv))
        (fun fl s' => Stop (LeaveX h₀ L m g R (match fl with | .ret v => v | _ => .none) s'))
        (fun e s' => wpAny (model prog w) (A.deeper (envOf qual scope L' f cdv)) (leaving (envOf qual scope L' f cdv) e) (fun _ s'' => R (.error e) s'') (fun e' s'' => R (.error e') s'') s')
        { s with heap := h₁, toks := s.toks + binds.length })
    (hco : scope.isCoroutine = false) (hgen : scope.isGenerator = false) (hk : scope.kind = .function)
    (hcell : ∀ x ∈ scope.names, x.2 ≠ .cell) : codeAny (model prog w) A (.call (.ref f) args) R s := by
  obtain ⟨FG, BG, st, lv⟩ := groundX (R := R) B F NO hA hf hke
  have X := X₀.keeps F.keep
  refine codeAny_call_def (fd := fnOf name qual params body scope dV kV doc pm an cdv ct) (body := body) (binds := binds) hroom (X _ _ ho) rfl (T.nolimit.keeps F.keep) (codeRec_of X hcd) rfl hbind hcell hloc (fun h₁ hns hk₁ => ?_) hco hgen hk
  have lt : ∀ q ∈ own, q.1 < s.heap.objs.size := fun q hq => Heap.lt_size (NO q hq).1
  have F₁ : Fr (hideAll s.heap (own.map (·.1))) s.heap.objs.size h₁ (fun y => binds.reverse.lookup y) := ⟨hns, fun b o e => hk₁ b o (of_hideAll _ e), Nat.le_of_eq (hideAll_size _ _)⟩
  have N₁ : News (hideAll s.heap (own.map (·.1))) s.heap.objs.size h₁ own := fun q hq => ⟨hk₁ _ _ (NO q hq).1, Nat.ne_of_lt (lt q hq), hideAll_none _ (List.mem_map_of_mem hq)⟩
  refine wpAny_mono (h _ s.heap.objs.size h₁ (kept_hide N NO) FG F₁ N₁ BG (X₀.keeps st) (T.keeps st) lt (by simp [frs, hf])) (fun fl s' hl => ?_) fun _ _ y => y
  unfold Stop LeaveX at hl
  obtain ⟨g', L', m', T', F', k⟩ := hl
  obtain ⟨oL, es, ep, hL, hLd, r⟩ := FG.ns
  obtain ⟨sl, hsl⟩ := T'.up hL
  have nL₀ : h₀.get? L = none := kts_self F
  have ne : ∀ b o, h₀.get? b = some o → b ∉ [L] := fun b o hb hm => by rw [List.mem_singleton.mp hm, nL₀] at hb; cases hb
  refine k ⟨⟨_, es, ep, F'.keep _ _ hsl, hLd, r⟩, fun b o hb => F'.keep b o (T'.other b o (FG.keep b o hb) (ne b o hb)), F.above⟩ fun l Nl q hq => ⟨(Nl q hq).1, fun e => ?_, ?_⟩
  · have := (Nl q hq).2.2; rw [e, hsl] at this; cases this
  · cases z : h₀.get? q.1 with
    | none => rfl
    | some o =>
      obtain ⟨sl', h'⟩ := T'.up (FG.keep _ _ z)
      rw [(Nl q hq).2.2] at h'; cases h'
end
set_option maxRecDepth 100000
set_option maxHeartbeats 2000000
set_option Elab.async false
noncomputable def fnBody (i : Nat) : List Stmt := match PySem.Challenge.pw_in0163_01.main.body[i]? with
  | some (.FunctionDef _ _ b _ _ _ _ _ _ _) => b
  | _ => []
noncomputable def fnScope (i : Nat) : Scope := match PySem.Challenge.pw_in0163_01.main.body[i]? with
  | some (.FunctionDef _ _ _ _ _ _ sc _ _ _) => sc
  | _ => { kind := .function, names := [], isGenerator := false, isCoroutine := false }
noncomputable def stmtAt (i k : Nat) : Stmt := match (fnBody i).drop k with
  | s :: _ => s
  | [] => .Break ⟨0, 0, 0, 0⟩
noncomputable def whTest (s : Stmt) : Expr := match s with
  | .While t _ _ _ => t
  | _ => .Constant .none 0 ⟨0, 0, 0, 0⟩
noncomputable def whBody (s : Stmt) : List Stmt := match s with
  | .While _ b _ _ => b
  | _ => []
noncomputable def lawSc : { x : Scope // x = fnScope 33 } := by
  refine' ⟨_, _⟩
  rotate_left
  · conv => { rhs; whnf }
noncomputable def lawS0 : { x : Stmt // x = stmtAt 33 0 } := by
  refine' ⟨_, _⟩
  rotate_left
  · conv => { rhs; whnf }
noncomputable def lawS1 : { x : Stmt // x = stmtAt 33 1 } := by
  refine' ⟨_, _⟩
  rotate_left
  · conv => { rhs; whnf }
noncomputable def lawS2 : { x : Stmt // x = stmtAt 33 2 } := by
  refine' ⟨_, _⟩
  rotate_left
  · conv => { rhs; whnf }
noncomputable def lawS3 : { x : Stmt // x = stmtAt 33 3 } := by
  refine' ⟨_, _⟩
  rotate_left
  · conv => { rhs; whnf }
noncomputable def lawS4 : { x : Stmt // x = stmtAt 33 4 } := by
  refine' ⟨_, _⟩
  rotate_left
  · conv => { rhs; whnf }
noncomputable def lawS5 : { x : Stmt // x = stmtAt 33 5 } := by
  refine' ⟨_, _⟩
  rotate_left
  · conv => { rhs; whnf }
noncomputable def lawS6 : { x : Stmt // x = stmtAt 33 6 } := by
  refine' ⟨_, _⟩
  rotate_left
  · conv => { rhs; whnf }
noncomputable def lawS7 : { x : Stmt // x = stmtAt 33 7 } := by
  refine' ⟨_, _⟩
  rotate_left
  · conv => { rhs; whnf }
noncomputable def lawS8 : { x : Stmt // x = stmtAt 33 8 } := by
  refine' ⟨_, _⟩
  rotate_left
  · conv => { rhs; whnf }
noncomputable def lawS9 : { x : Stmt // x = stmtAt 33 9 } := by
  refine' ⟨_, _⟩
  rotate_left
  · conv => { rhs; whnf }
noncomputable def lawS10 : { x : Stmt // x = stmtAt 33 10 } := by
  refine' ⟨_, _⟩
  rotate_left
  · conv => { rhs; whnf }
noncomputable def lawS11 : { x : Stmt // x = stmtAt 33 11 } := by
  refine' ⟨_, _⟩
  rotate_left
  · conv => { rhs; whnf }
noncomputable def lawS12 : { x : Stmt // x = stmtAt 33 12 } := by
  refine' ⟨_, _⟩
  rotate_left
  · conv => { rhs; whnf }
noncomputable def lawS13 : { x : Stmt // x = stmtAt 33 13 } := by
  refine' ⟨_, _⟩
  rotate_left
  · conv => { rhs; whnf }
noncomputable def lawS14 : { x : Stmt // x = stmtAt 33 14 } := by
  refine' ⟨_, _⟩
  rotate_left
  · conv => { rhs; whnf }
noncomputable def trSc : { x : Scope // x = fnScope 17 } := by
  refine' ⟨_, _⟩
  rotate_left
  · conv => { rhs; whnf }
noncomputable def trTest : { x : Expr // x = whTest (stmtAt 17 3) } := by
  refine' ⟨_, _⟩
  rotate_left
  · conv => { rhs; whnf }
noncomputable def trBody : { x : List Stmt // x = whBody (stmtAt 17 3) } := by
  refine' ⟨_, _⟩
  rotate_left
  · conv => { rhs; whnf }
noncomputable def lawCl (L : Addr) : List (Str × Addr) := [(Str.ofString "other", L + 1 + 1), (Str.ofString "plain", L + 1)]
set_option Elab.async false
set_option maxRecDepth 100000
set_option maxHeartbeats 5000000
section
variable {w : World} {o : OsState} {mean : ExcName → Option Value} {loose : List Str} {mg mb : Str → Option Value} {dp un : Nat} {gd : Option (List Code)} {cn : Str} {cs : Scope} {a : Addr} {ccd : Value} {cl : List (Str × Addr)} {outer : List Env} {A₀ : Around} {base h₀ : Heap} {L : Addr} {m : Str → Option Value} {news : List (Addr × Obj)} {s : Shared} {Q E : Value → Shared → Prop}
noncomputable def s0iter : { x : Expr // x = (match lawS0.1 with | .Assign _ (.ListComp _ [⟨_, it, _, _⟩] _ _) _ => it | _ => .Constant .none 0 ⟨0, 0, 0, 0⟩) } := by
  refine' ⟨_, _⟩
  rotate_left
  · conv => { rhs; whnf }
theorem st0a (B : Below A₀ base [] h₀) (F : Fr h₀ L s.heap m) (X : (KF w.params).In h₀) (N : News h₀ L s.heap news) (T : Top topProg loose mean mg mb h₀) (hd : dp + 4 < recursionLimit) (hu : un + 60 < cLine) {sc : Addr} {vs : List Value} {ns : List Int} (hsc : h₀.IsList sc vs.toArray) (hI : IntsAre vs ns) (hlen : ns.length ≤ 63) (m1 : m (Str.ofString "script") = some (.ref sc))
  (ret : ∀ D ws q h' tk', Fr h₀ L h' m → News h₀ L h' ((D, listOf (List.toArray ws) q) :: news) → IntsAre ws (srcF ns) → Q (.ref D) { s with heap := h', toks := tk' }) :
  wpAny (model (OpenLaw.row PySem.Challenge.rw_in0163_01).toRowW.prog w) (ktrTop dp un gd (Str.ofString "law") lawSc.1 L a ccd (lawCl L) []) (eval s0iter.1 (envX (Str.ofString "law") lawSc.1 L a ccd (lawCl L))) Q E s := by
  dsimp only [s0iter, lawSc, lawCl]
  revert X; k_fill; intro X
  k_with_none
  k_with "execs cons" => ((k_dflt (refine wpAny_execs_cons ?_)); (try dsimp only))
  k_with "execs nil" => (k_dflt (refine wpAny_execs_nil ?_))
  k_with "exec If" => (k_dflt (refine wpAny_If ?_))
  k_with "exec Assign" => (k_dflt (refine wpAny_Assign_Name ?_))
  k_with "eval Name" => (k_dflt (refine' nameX_L ?F ?v ?_ ?a ?b ?d; (case F => k_asm); (case a => rfl); (case b => kernel_rfl!); (case d => kernel_rfl); (case v => first | rfl | assumption); k_whole))
  k_with "storeName" => (k_dflt (refine' storeX_L ?F ?N ?_ ?a ?b; (case F => k_asm); (case N => k_asm); (case a => rfl); (case b => rfl); k_whole; intro hS7 FS7 NS7; (try k_sweep)))
  k_with "spliced" => (k_dflt (first | refine args_cons ?_ | (refine args_nil ?_; try simp only [List.cons_append, List.nil_append])))
  k_with "ite" => (k_dflt (first | refine ite_pos (by decide +kernel) ?_ | refine ite_neg (by decide +kernel) ?_))
  k_with "And" => ((with_reducible show PySem.Str.length (_ ++ _) ≤ sizeLine ∧ _); refine ⟨Nat.le_of_ble_eq_true (by kernel_rfl!), ?_⟩)
  k_with "exec Assign cons Tuple" => (k_dflt (refine Assign_Tuple ?_))
  k_with "callWith ref" => (k_dflt (refine' callWith_K ?k1 ?k2 ?_; (case k1 => k_asm); (case k2 => k_is); k_whole))
  k_with "truthy bool" => (k_dflt (refine wpAny_truthy_bool ?_))
  k_with "isTrue Compare" => (k_dflt (refine wpAny_isTrue_Compare1 ?_))
  k_with "room" => (k_dflt (first | exact om_s2 (by assumption) (by rfl) | exact om_s1 (by assumption) (by rfl) | exact om_s0 (by assumption)))
  k_with "ne" => with_reducible (first | assumption | exact om_sy (by assumption) | exact Nat.ne_of_gt (by assumption) | exact Nat.ne_of_lt (by assumption) | exact om_n1 (by assumption) | exact om_n2 (by assumption) | exact om_n3 (by assumption) | exact om_z2 (by assumption) | exact om_z3 (by assumption) | exact om_z4 (by assumption) | exact (om_n1 (by assumption)).symm | exact (om_n2 (by assumption)).symm | exact (om_n3 (by assumption)).symm | exact (om_z2 (by assumption)).symm | exact (om_z3 (by assumption)).symm | exact (om_z4 (by assumption)).symm | exact om_n4 (by assumption) | exact om_z5 (by assumption) | exact (om_n4 (by assumption)).symm | exact (om_z5 (by assumption)).symm | exact om_n5 (by assumption) | exact om_z6 (by assumption) | exact (om_n5 (by assumption)).symm | exact (om_z6 (by assumption)).symm | exact om_e1 (by assumption) | exact om_e2 (by assumption) | exact om_e3 (by assumption))
  k_with "om" => with_reducible (first | ((show _ ≠ _); k_extra "ne") | ((show @LT.lt Nat _ (_ + _ + _) _); exact om_s2 (by assumption) (by decide)) | ((show @LT.lt Nat _ (_ + _) _); exact om_s1 (by assumption) (by decide)) | ((show @LT.lt Nat _ _ _); first | assumption | exact om_s0 (by assumption)) | ((show @LE.le Nat _ (_ + 1) _); exact om_succ (by assumption) (by assumption)) | ((show @LE.le Nat _ _ _); first | exact Nat.zero_le _ | assumption | exact om_le (by assumption) (by decide) | exact om_lt_le (by assumption) (by decide) | exact om_eq_le (by assumption) (by assumption) (by decide) | exact om_eq_le' (by assumption) (by assumption) (by decide)) | ((show _ ∧ _); first | exact om_rg (by assumption) (by decide) | exact om_r1 (by assumption) (by decide)))
  k_with "all" => exact fun p9 hp9 => Nat.ne_of_lt (by first | exact l1 p9 hp9 | exact Nat.lt_succ_of_lt (l1 p9 hp9))
  k_steps
  all_goals first | exact ret _ _ _ _ _ (by k_asm) (by k_asm) (by rw [srcF_a (List.ne_nil_of_length_pos (by omega))]; assumption) | exact ret _ _ _ _ _ (by k_asm) (newsSkip (by k_asm)) (by rw [srcF_b (List.length_eq_zero_iff.mp (by omega))]; exact .cons _ _ (.cons _ _ .nil))
end
set_option Elab.async false
set_option maxRecDepth 100000
set_option maxHeartbeats 5000000
section
variable {w : World} {o : OsState} {mean : ExcName → Option Value} {loose : List Str} {mg mb : Str → Option Value} {dp un : Nat} {gd : Option (List Code)} {cn : Str} {cs : Scope} {a : Addr} {ccd : Value} {cl : List (Str × Addr)} {outer : List Env} {A₀ : Around} {base h₀ : Heap} {L : Addr} {m : Str → Option Value} {news : List (Addr × Obj)} {s : Shared} {Q E : Value → Shared → Prop}
theorem st0 (B : Below A₀ base [] h₀) (F : Fr h₀ L s.heap m) (X : (KF w.params).In h₀) (N : News h₀ L s.heap news) (T : Top topProg loose mean mg mb h₀) (hd : dp + 4 < recursionLimit) (hu : un + 60 < cLine) {Q : Flow → Shared → Prop} {sc : Addr} {vs : List Value} {ns : List Int} (hsc : h₀.IsList sc vs.toArray) (hI : IntsAre vs ns) (hlen : ns.length ≤ 63) (m1 : m (Str.ofString "script") = some (.ref sc))
  (ret : ∀ D ys q ts h' tk', Fr h₀ L h' (fun y => if y = Str.ofString "stages" then some (.ref D) else m y) → News h₀ L h' ((D, listOf (List.toArray ys) q) :: (ts ++ news)) → Stg ts ys ((srcF ns).map stF) → Q .next { s with heap := h', toks := tk' }) :
  wpAny (model (OpenLaw.row PySem.Challenge.rw_in0163_01).toRowW.prog w) (ktrTop dp un gd (Str.ofString "law") lawSc.1 L a ccd (lawCl L) []) (exec lawS0.1 (envX (Str.ofString "law") lawSc.1 L a ccd (lawCl L))) Q E s := by
  have hsl : (srcF ns).length ≤ 3 := srcF_len ns
  dsimp only [lawS0, lawSc, lawCl]
  revert X; k_fill; intro X
  k_with_none
  k_with "execs cons" => ((k_dflt (refine wpAny_execs_cons ?_)); (try dsimp only))
  k_with "execs nil" => (k_dflt (refine wpAny_execs_nil ?_))
  k_with "exec If" => (k_dflt (refine wpAny_If ?_))
  k_with "exec Assign" => (k_dflt (refine wpAny_Assign_Name ?_))
  k_with "eval Name" => (k_dflt (refine' nameX_L ?F ?v ?_ ?a ?b ?d; (case F => k_asm); (case a => rfl); (case b => kernel_rfl!); (case d => kernel_rfl); (case v => first | rfl | assumption); k_whole))
  k_with "storeName" => (k_dflt (refine' storeX_L ?F ?N ?_ ?a ?b; (case F => k_asm); (case N => k_asm); (case a => rfl); (case b => rfl); k_whole; intro hS7 FS7 NS7; (try k_sweep)))
  k_with "spliced" => (k_dflt (first | refine args_cons ?_ | (refine args_nil ?_; try simp only [List.cons_append, List.nil_append])))
  k_with "ite" => (k_dflt (first | refine ite_pos (by decide +kernel) ?_ | refine ite_neg (by decide +kernel) ?_))
  k_with "And" => ((with_reducible show PySem.Str.length (_ ++ _) ≤ sizeLine ∧ _); refine ⟨Nat.le_of_ble_eq_true (by kernel_rfl!), ?_⟩)
  k_with "exec Assign cons Tuple" => (k_dflt (refine Assign_Tuple ?_))
  k_with "callWith ref" => (k_dflt (refine' callWith_K ?k1 ?k2 ?_; (case k1 => k_asm); (case k2 => k_is); k_whole))
  k_with "truthy bool" => (k_dflt (refine wpAny_truthy_bool ?_))
  k_with "isTrue Compare" => (k_dflt (refine wpAny_isTrue_Compare1 ?_))
  k_with "room" => (k_dflt (first | exact om_s2 (by assumption) (by rfl) | exact om_s1 (by assumption) (by rfl) | exact om_s0 (by assumption)))
  k_with "ne" => with_reducible (first | assumption | exact om_sy (by assumption) | exact Nat.ne_of_gt (by assumption) | exact Nat.ne_of_lt (by assumption) | exact om_n1 (by assumption) | exact om_n2 (by assumption) | exact om_n3 (by assumption) | exact om_z2 (by assumption) | exact om_z3 (by assumption) | exact om_z4 (by assumption) | exact (om_n1 (by assumption)).symm | exact (om_n2 (by assumption)).symm | exact (om_n3 (by assumption)).symm | exact (om_z2 (by assumption)).symm | exact (om_z3 (by assumption)).symm | exact (om_z4 (by assumption)).symm | exact om_n4 (by assumption) | exact om_z5 (by assumption) | exact (om_n4 (by assumption)).symm | exact (om_z5 (by assumption)).symm | exact om_n5 (by assumption) | exact om_z6 (by assumption) | exact (om_n5 (by assumption)).symm | exact (om_z6 (by assumption)).symm | exact om_e1 (by assumption) | exact om_e2 (by assumption) | exact om_e3 (by assumption))
  k_with "om" => with_reducible (first | ((show _ ≠ _); k_extra "ne") | ((show @LT.lt Nat _ (_ + _ + _) _); exact om_s2 (by assumption) (by decide)) | ((show @LT.lt Nat _ (_ + _) _); exact om_s1 (by assumption) (by decide)) | ((show @LT.lt Nat _ _ _); first | assumption | exact om_s0 (by assumption)) | ((show @LE.le Nat _ (_ + 1) _); exact om_succ (by assumption) (by assumption)) | ((show @LE.le Nat _ _ _); first | exact Nat.zero_le _ | assumption | exact om_le (by assumption) (by decide) | exact om_lt_le (by assumption) (by decide) | exact om_eq_le (by assumption) (by assumption) (by decide) | exact om_eq_le' (by assumption) (by assumption) (by decide)) | ((show _ ∧ _); first | exact om_rg (by assumption) (by decide) | exact om_r1 (by assumption) (by decide)))
  k_with "all" => exact fun p9 hp9 => Nat.ne_of_lt (by first | exact l1 p9 hp9 | exact Nat.lt_succ_of_lt (l1 p9 hp9))
  refine LCg.Assign_ListComp_U (F₀ := F) rfl (by with_unfolding_all rfl) (by with_unfolding_all rfl) (by decide) rfl (by decide) rfl rfl rfl ?_
  refine st0a B F X N T (by omega) (by omega) hsc hI hlen m1 fun D9 ws9 q9 h9 tk9 F9 N9 hi9 => ?_
  have hwl := hi9.length
  refine LCg.CompSrc.ledger (by rfl) F9 N9 List.mem_cons_self (by rw [List.size_toArray, sizeLine_eq]; omega) fun g9 => ?_
  refine comp_stg (ax := D9) (nn := q9) hi9 stF List.mem_cons_self (List.size_toArray ..) ?_ ?_
  rotate_left
  · intro ys8 ts8 hs8 D8 h8 tk8 F8 N8 _
    exact ret D8 ys8 _ ts8 h8 tk8 F8 (sub_src N8) hs8
  intro a' t' I' oI' C' oC' D' m' ys' ts' h' tk' E' ha' hC' hx' F' N'
  k_with "eval Name" => (k_dflt (refine LCgL.ld_own (by k_asm) (by k_mem) (by assumption) (by assumption) ?_))
  k_steps
  all_goals first | exact Stop.go ⟨_, _, _, _, _, _, rfl, rfl, by k_asm, by k_asm, ltAll (by assumption)⟩
end
set_option Elab.async false
set_option maxRecDepth 100000
set_option maxHeartbeats 5000000
section
variable {w : World} {o : OsState} {mean : ExcName → Option Value} {loose : List Str} {mg mb : Str → Option Value} {dp un : Nat} {gd : Option (List Code)} {cn : Str} {cs : Scope} {a : Addr} {ccd : Value} {cl : List (Str × Addr)} {outer : List Env} {A₀ : Around} {base h₀ : Heap} {L : Addr} {m : Str → Option Value} {news : List (Addr × Obj)} {s : Shared} {Q E : Value → Shared → Prop}
theorem and_c (B : Below A₀ base outer h₀) (F : Fr h₀ L s.heap m) (X : (KF w.params).In h₀) (N : News h₀ L s.heap news) (T : Top topProg loose mean mg mb h₀) (hk : cs.kind = .function) (hd : dp + 1 < recursionLimit) (hu : un + 8 < cLine) {x y : Int} {t u : Tok}
  (ret : ∀ t h' tk', Fr h₀ L h' m → News h₀ L h' news → Q (.int (Builtin.bitAnd x y) t) { s with heap := h', toks := tk' }) :
  wpAny (model (OpenLaw.row PySem.Challenge.rw_in0163_01).toRowW.prog w) (ktrTop dp un gd cn cs L a ccd cl outer) (call (.ref 45) [.int x t, .int y u]) Q E s := by
  revert X; k_fill; intro X
  k_with_none
  k_with "execs cons" => ((k_dflt (refine wpAny_execs_cons ?_)); (try dsimp only))
  k_with "execs nil" => (k_dflt (refine wpAny_execs_nil ?_))
  k_with "exec If" => (k_dflt (refine wpAny_If ?_))
  k_with "exec Assign" => (k_dflt (refine wpAny_Assign_Name ?_))
  k_with "eval Name" => (k_dflt (refine' nameX_L ?F ?v ?_ ?a ?b ?d; (case F => k_asm); (case a => rfl); (case b => kernel_rfl!); (case d => kernel_rfl); (case v => first | rfl | assumption); k_whole))
  k_with "storeName" => (k_dflt (refine' storeX_L ?F ?N ?_ ?a ?b; (case F => k_asm); (case N => k_asm); (case a => rfl); (case b => rfl); k_whole; intro hS7 FS7 NS7; (try k_sweep)))
  k_with "spliced" => (k_dflt (first | refine args_cons ?_ | (refine args_nil ?_; try simp only [List.cons_append, List.nil_append])))
  k_with "ite" => (k_dflt (first | refine ite_pos (by decide +kernel) ?_ | refine ite_neg (by decide +kernel) ?_))
  k_with "And" => ((with_reducible show PySem.Str.length (_ ++ _) ≤ sizeLine ∧ _); refine ⟨Nat.le_of_ble_eq_true (by kernel_rfl!), ?_⟩)
  k_with "exec Assign cons Tuple" => (k_dflt (refine Assign_Tuple ?_))
  k_with "callWith ref" => (k_dflt (refine' callWith_K ?k1 ?k2 ?_; (case k1 => k_asm); (case k2 => k_is); k_whole))
  k_with "truthy bool" => (k_dflt (refine wpAny_truthy_bool ?_))
  k_with "isTrue Compare" => (k_dflt (refine wpAny_isTrue_Compare1 ?_))
  k_with "room" => (k_dflt (first | exact om_s2 (by assumption) (by rfl) | exact om_s1 (by assumption) (by rfl) | exact om_s0 (by assumption)))
  k_with "ne" => with_reducible (first | assumption | exact om_sy (by assumption) | exact Nat.ne_of_gt (by assumption) | exact Nat.ne_of_lt (by assumption) | exact om_n1 (by assumption) | exact om_n2 (by assumption) | exact om_n3 (by assumption) | exact om_z2 (by assumption) | exact om_z3 (by assumption) | exact om_z4 (by assumption) | exact (om_n1 (by assumption)).symm | exact (om_n2 (by assumption)).symm | exact (om_n3 (by assumption)).symm | exact (om_z2 (by assumption)).symm | exact (om_z3 (by assumption)).symm | exact (om_z4 (by assumption)).symm | exact om_n4 (by assumption) | exact om_z5 (by assumption) | exact (om_n4 (by assumption)).symm | exact (om_z5 (by assumption)).symm | exact om_n5 (by assumption) | exact om_z6 (by assumption) | exact (om_n5 (by assumption)).symm | exact (om_z6 (by assumption)).symm | exact om_e1 (by assumption) | exact om_e2 (by assumption) | exact om_e3 (by assumption))
  k_with "om" => with_reducible (first | ((show _ ≠ _); k_extra "ne") | ((show @LT.lt Nat _ (_ + _ + _) _); exact om_s2 (by assumption) (by decide)) | ((show @LT.lt Nat _ (_ + _) _); exact om_s1 (by assumption) (by decide)) | ((show @LT.lt Nat _ _ _); first | assumption | exact om_s0 (by assumption)) | ((show @LE.le Nat _ (_ + 1) _); exact om_succ (by assumption) (by assumption)) | ((show @LE.le Nat _ _ _); first | exact Nat.zero_le _ | assumption | exact om_le (by assumption) (by decide) | exact om_lt_le (by assumption) (by decide) | exact om_eq_le (by assumption) (by assumption) (by decide) | exact om_eq_le' (by assumption) (by assumption) (by decide)) | ((show _ ∧ _); first | exact om_rg (by assumption) (by decide) | exact om_r1 (by assumption) (by decide)))
  k_with "all" => exact fun p9 hp9 => Nat.ne_of_lt (by first | exact l1 p9 hp9 | exact Nat.lt_succ_of_lt (l1 p9 hp9))
  refine wpAny_call ?_
  k_dflt cell_enter
  k_steps
  all_goals exact ret _ _ _ (by k_asm) (by k_asm)
theorem lshift_c (B : Below A₀ base outer h₀) (F : Fr h₀ L s.heap m) (X : (KF w.params).In h₀) (N : News h₀ L s.heap news) (T : Top topProg loose mean mg mb h₀) (hk : cs.kind = .function) (hd : dp + 1 < recursionLimit) (hu : un + 8 < cLine) {x y : Int} {t u : Tok} (hx : 0 ≤ x ∧ x ≤ 7) (hy : 0 ≤ y ∧ y ≤ 7)
  (ret : ∀ t h' tk', Fr h₀ L h' m → News h₀ L h' news → Q (.int (x * 2 ^ y.toNat) t) { s with heap := h', toks := tk' }) :
  wpAny (model (OpenLaw.row PySem.Challenge.rw_in0163_01).toRowW.prog w) (ktrTop dp un gd cn cs L a ccd cl outer) (call (.ref 52) [.int x t, .int y u]) Q E s := by
  revert X; k_fill; intro X
  k_with_none
  k_with "execs cons" => ((k_dflt (refine wpAny_execs_cons ?_)); (try dsimp only))
  k_with "execs nil" => (k_dflt (refine wpAny_execs_nil ?_))
  k_with "exec If" => (k_dflt (refine wpAny_If ?_))
  k_with "exec Assign" => (k_dflt (refine wpAny_Assign_Name ?_))
  k_with "eval Name" => (k_dflt (refine' nameX_L ?F ?v ?_ ?a ?b ?d; (case F => k_asm); (case a => rfl); (case b => kernel_rfl!); (case d => kernel_rfl); (case v => first | rfl | assumption); k_whole))
  k_with "storeName" => (k_dflt (refine' storeX_L ?F ?N ?_ ?a ?b; (case F => k_asm); (case N => k_asm); (case a => rfl); (case b => rfl); k_whole; intro hS7 FS7 NS7; (try k_sweep)))
  k_with "spliced" => (k_dflt (first | refine args_cons ?_ | (refine args_nil ?_; try simp only [List.cons_append, List.nil_append])))
  k_with "ite" => (k_dflt (first | refine ite_pos (by decide +kernel) ?_ | refine ite_neg (by decide +kernel) ?_))
  k_with "And" => ((with_reducible show PySem.Str.length (_ ++ _) ≤ sizeLine ∧ _); refine ⟨Nat.le_of_ble_eq_true (by kernel_rfl!), ?_⟩)
  k_with "exec Assign cons Tuple" => (k_dflt (refine Assign_Tuple ?_))
  k_with "callWith ref" => (k_dflt (refine' callWith_K ?k1 ?k2 ?_; (case k1 => k_asm); (case k2 => k_is); k_whole))
  k_with "truthy bool" => (k_dflt (refine wpAny_truthy_bool ?_))
  k_with "isTrue Compare" => (k_dflt (refine wpAny_isTrue_Compare1 ?_))
  k_with "room" => (k_dflt (first | exact om_s2 (by assumption) (by rfl) | exact om_s1 (by assumption) (by rfl) | exact om_s0 (by assumption)))
  k_with "ne" => with_reducible (first | assumption | exact om_sy (by assumption) | exact Nat.ne_of_gt (by assumption) | exact Nat.ne_of_lt (by assumption) | exact om_n1 (by assumption) | exact om_n2 (by assumption) | exact om_n3 (by assumption) | exact om_z2 (by assumption) | exact om_z3 (by assumption) | exact om_z4 (by assumption) | exact (om_n1 (by assumption)).symm | exact (om_n2 (by assumption)).symm | exact (om_n3 (by assumption)).symm | exact (om_z2 (by assumption)).symm | exact (om_z3 (by assumption)).symm | exact (om_z4 (by assumption)).symm | exact om_n4 (by assumption) | exact om_z5 (by assumption) | exact (om_n4 (by assumption)).symm | exact (om_z5 (by assumption)).symm | exact om_n5 (by assumption) | exact om_z6 (by assumption) | exact (om_n5 (by assumption)).symm | exact (om_z6 (by assumption)).symm | exact om_e1 (by assumption) | exact om_e2 (by assumption) | exact om_e3 (by assumption))
  k_with "om" => with_reducible (first | ((show _ ≠ _); k_extra "ne") | ((show @LT.lt Nat _ (_ + _ + _) _); exact om_s2 (by assumption) (by decide)) | ((show @LT.lt Nat _ (_ + _) _); exact om_s1 (by assumption) (by decide)) | ((show @LT.lt Nat _ _ _); first | assumption | exact om_s0 (by assumption)) | ((show @LE.le Nat _ (_ + 1) _); exact om_succ (by assumption) (by assumption)) | ((show @LE.le Nat _ _ _); first | exact Nat.zero_le _ | assumption | exact om_le (by assumption) (by decide) | exact om_lt_le (by assumption) (by decide) | exact om_eq_le (by assumption) (by assumption) (by decide) | exact om_eq_le' (by assumption) (by assumption) (by decide)) | ((show _ ∧ _); first | exact om_rg (by assumption) (by decide) | exact om_r1 (by assumption) (by decide)))
  k_with "all" => exact fun p9 hp9 => Nat.ne_of_lt (by first | exact l1 p9 hp9 | exact Nat.lt_succ_of_lt (l1 p9 hp9))
  refine wpAny_call ?_
  k_dflt cell_enter
  k_steps
  all_goals exact ret _ _ _ (by k_asm) (by k_asm)
theorem sub_c (B : Below A₀ base outer h₀) (F : Fr h₀ L s.heap m) (X : (KF w.params).In h₀) (N : News h₀ L s.heap news) (T : Top topProg loose mean mg mb h₀) (hk : cs.kind = .function) (hd : dp + 1 < recursionLimit) (hu : un + 8 < cLine) {x y : Int} {t u : Tok}
  (ret : ∀ t h' tk', Fr h₀ L h' m → News h₀ L h' news → Q (.int (x - y) t) { s with heap := h', toks := tk' }) :
  wpAny (model (OpenLaw.row PySem.Challenge.rw_in0163_01).toRowW.prog w) (ktrTop dp un gd cn cs L a ccd cl outer) (call (.ref 80) [.int x t, .int y u]) Q E s := by
  revert X; k_fill; intro X
  k_with_none
  k_with "execs cons" => ((k_dflt (refine wpAny_execs_cons ?_)); (try dsimp only))
  k_with "execs nil" => (k_dflt (refine wpAny_execs_nil ?_))
  k_with "exec If" => (k_dflt (refine wpAny_If ?_))
  k_with "exec Assign" => (k_dflt (refine wpAny_Assign_Name ?_))
  k_with "eval Name" => (k_dflt (refine' nameX_L ?F ?v ?_ ?a ?b ?d; (case F => k_asm); (case a => rfl); (case b => kernel_rfl!); (case d => kernel_rfl); (case v => first | rfl | assumption); k_whole))
  k_with "storeName" => (k_dflt (refine' storeX_L ?F ?N ?_ ?a ?b; (case F => k_asm); (case N => k_asm); (case a => rfl); (case b => rfl); k_whole; intro hS7 FS7 NS7; (try k_sweep)))
  k_with "spliced" => (k_dflt (first | refine args_cons ?_ | (refine args_nil ?_; try simp only [List.cons_append, List.nil_append])))
  k_with "ite" => (k_dflt (first | refine ite_pos (by decide +kernel) ?_ | refine ite_neg (by decide +kernel) ?_))
  k_with "And" => ((with_reducible show PySem.Str.length (_ ++ _) ≤ sizeLine ∧ _); refine ⟨Nat.le_of_ble_eq_true (by kernel_rfl!), ?_⟩)
  k_with "exec Assign cons Tuple" => (k_dflt (refine Assign_Tuple ?_))
  k_with "callWith ref" => (k_dflt (refine' callWith_K ?k1 ?k2 ?_; (case k1 => k_asm); (case k2 => k_is); k_whole))
  k_with "truthy bool" => (k_dflt (refine wpAny_truthy_bool ?_))
  k_with "isTrue Compare" => (k_dflt (refine wpAny_isTrue_Compare1 ?_))
  k_with "room" => (k_dflt (first | exact om_s2 (by assumption) (by rfl) | exact om_s1 (by assumption) (by rfl) | exact om_s0 (by assumption)))
  k_with "ne" => with_reducible (first | assumption | exact om_sy (by assumption) | exact Nat.ne_of_gt (by assumption) | exact Nat.ne_of_lt (by assumption) | exact om_n1 (by assumption) | exact om_n2 (by assumption) | exact om_n3 (by assumption) | exact om_z2 (by assumption) | exact om_z3 (by assumption) | exact om_z4 (by assumption) | exact (om_n1 (by assumption)).symm | exact (om_n2 (by assumption)).symm | exact (om_n3 (by assumption)).symm | exact (om_z2 (by assumption)).symm | exact (om_z3 (by assumption)).symm | exact (om_z4 (by assumption)).symm | exact om_n4 (by assumption) | exact om_z5 (by assumption) | exact (om_n4 (by assumption)).symm | exact (om_z5 (by assumption)).symm | exact om_n5 (by assumption) | exact om_z6 (by assumption) | exact (om_n5 (by assumption)).symm | exact (om_z6 (by assumption)).symm | exact om_e1 (by assumption) | exact om_e2 (by assumption) | exact om_e3 (by assumption))
  k_with "om" => with_reducible (first | ((show _ ≠ _); k_extra "ne") | ((show @LT.lt Nat _ (_ + _ + _) _); exact om_s2 (by assumption) (by decide)) | ((show @LT.lt Nat _ (_ + _) _); exact om_s1 (by assumption) (by decide)) | ((show @LT.lt Nat _ _ _); first | assumption | exact om_s0 (by assumption)) | ((show @LE.le Nat _ (_ + 1) _); exact om_succ (by assumption) (by assumption)) | ((show @LE.le Nat _ _ _); first | exact Nat.zero_le _ | assumption | exact om_le (by assumption) (by decide) | exact om_lt_le (by assumption) (by decide) | exact om_eq_le (by assumption) (by assumption) (by decide) | exact om_eq_le' (by assumption) (by assumption) (by decide)) | ((show _ ∧ _); first | exact om_rg (by assumption) (by decide) | exact om_r1 (by assumption) (by decide)))
  k_with "all" => exact fun p9 hp9 => Nat.ne_of_lt (by first | exact l1 p9 hp9 | exact Nat.lt_succ_of_lt (l1 p9 hp9))
  refine wpAny_call ?_
  k_dflt cell_enter
  k_steps
  all_goals exact ret _ _ _ (by k_asm) (by k_asm)
theorem add_c (B : Below A₀ base outer h₀) (F : Fr h₀ L s.heap m) (X : (KF w.params).In h₀) (N : News h₀ L s.heap news) (T : Top topProg loose mean mg mb h₀) (hk : cs.kind = .function) (hd : dp + 1 < recursionLimit) (hu : un + 8 < cLine) {x y : Int} {t u : Tok}
  (ret : ∀ t h' tk', Fr h₀ L h' m → News h₀ L h' news → Q (.int (x + y) t) { s with heap := h', toks := tk' }) :
  wpAny (model (OpenLaw.row PySem.Challenge.rw_in0163_01).toRowW.prog w) (ktrTop dp un gd cn cs L a ccd cl outer) (call (.ref 38) [.int x t, .int y u]) Q E s := by
  revert X; k_fill; intro X
  k_with_none
  k_with "execs cons" => ((k_dflt (refine wpAny_execs_cons ?_)); (try dsimp only))
  k_with "execs nil" => (k_dflt (refine wpAny_execs_nil ?_))
  k_with "exec If" => (k_dflt (refine wpAny_If ?_))
  k_with "exec Assign" => (k_dflt (refine wpAny_Assign_Name ?_))
  k_with "eval Name" => (k_dflt (refine' nameX_L ?F ?v ?_ ?a ?b ?d; (case F => k_asm); (case a => rfl); (case b => kernel_rfl!); (case d => kernel_rfl); (case v => first | rfl | assumption); k_whole))
  k_with "storeName" => (k_dflt (refine' storeX_L ?F ?N ?_ ?a ?b; (case F => k_asm); (case N => k_asm); (case a => rfl); (case b => rfl); k_whole; intro hS7 FS7 NS7; (try k_sweep)))
  k_with "spliced" => (k_dflt (first | refine args_cons ?_ | (refine args_nil ?_; try simp only [List.cons_append, List.nil_append])))
  k_with "ite" => (k_dflt (first | refine ite_pos (by decide +kernel) ?_ | refine ite_neg (by decide +kernel) ?_))
  k_with "And" => ((with_reducible show PySem.Str.length (_ ++ _) ≤ sizeLine ∧ _); refine ⟨Nat.le_of_ble_eq_true (by kernel_rfl!), ?_⟩)
  k_with "exec Assign cons Tuple" => (k_dflt (refine Assign_Tuple ?_))
  k_with "callWith ref" => (k_dflt (refine' callWith_K ?k1 ?k2 ?_; (case k1 => k_asm); (case k2 => k_is); k_whole))
  k_with "truthy bool" => (k_dflt (refine wpAny_truthy_bool ?_))
  k_with "isTrue Compare" => (k_dflt (refine wpAny_isTrue_Compare1 ?_))
  k_with "room" => (k_dflt (first | exact om_s2 (by assumption) (by rfl) | exact om_s1 (by assumption) (by rfl) | exact om_s0 (by assumption)))
  k_with "ne" => with_reducible (first | assumption | exact om_sy (by assumption) | exact Nat.ne_of_gt (by assumption) | exact Nat.ne_of_lt (by assumption) | exact om_n1 (by assumption) | exact om_n2 (by assumption) | exact om_n3 (by assumption) | exact om_z2 (by assumption) | exact om_z3 (by assumption) | exact om_z4 (by assumption) | exact (om_n1 (by assumption)).symm | exact (om_n2 (by assumption)).symm | exact (om_n3 (by assumption)).symm | exact (om_z2 (by assumption)).symm | exact (om_z3 (by assumption)).symm | exact (om_z4 (by assumption)).symm | exact om_n4 (by assumption) | exact om_z5 (by assumption) | exact (om_n4 (by assumption)).symm | exact (om_z5 (by assumption)).symm | exact om_n5 (by assumption) | exact om_z6 (by assumption) | exact (om_n5 (by assumption)).symm | exact (om_z6 (by assumption)).symm | exact om_e1 (by assumption) | exact om_e2 (by assumption) | exact om_e3 (by assumption))
  k_with "om" => with_reducible (first | ((show _ ≠ _); k_extra "ne") | ((show @LT.lt Nat _ (_ + _ + _) _); exact om_s2 (by assumption) (by decide)) | ((show @LT.lt Nat _ (_ + _) _); exact om_s1 (by assumption) (by decide)) | ((show @LT.lt Nat _ _ _); first | assumption | exact om_s0 (by assumption)) | ((show @LE.le Nat _ (_ + 1) _); exact om_succ (by assumption) (by assumption)) | ((show @LE.le Nat _ _ _); first | exact Nat.zero_le _ | assumption | exact om_le (by assumption) (by decide) | exact om_lt_le (by assumption) (by decide) | exact om_eq_le (by assumption) (by assumption) (by decide) | exact om_eq_le' (by assumption) (by assumption) (by decide)) | ((show _ ∧ _); first | exact om_rg (by assumption) (by decide) | exact om_r1 (by assumption) (by decide)))
  k_with "all" => exact fun p9 hp9 => Nat.ne_of_lt (by first | exact l1 p9 hp9 | exact Nat.lt_succ_of_lt (l1 p9 hp9))
  refine wpAny_call ?_
  k_dflt cell_enter
  k_steps
  all_goals exact ret _ _ _ (by k_asm) (by k_asm)
theorem or_c (B : Below A₀ base outer h₀) (F : Fr h₀ L s.heap m) (X : (KF w.params).In h₀) (N : News h₀ L s.heap news) (T : Top topProg loose mean mg mb h₀) (hk : cs.kind = .function) (hd : dp + 1 < recursionLimit) (hu : un + 8 < cLine) {x y : Int} {t u : Tok}
  (ret : ∀ t h' tk', Fr h₀ L h' m → News h₀ L h' news → Q (.int (Builtin.bitOr x y) t) { s with heap := h', toks := tk' }) :
  wpAny (model (OpenLaw.row PySem.Challenge.rw_in0163_01).toRowW.prog w) (ktrTop dp un gd cn cs L a ccd cl outer) (call (.ref 66) [.int x t, .int y u]) Q E s := by
  revert X; k_fill; intro X
  k_with_none
  k_with "execs cons" => ((k_dflt (refine wpAny_execs_cons ?_)); (try dsimp only))
  k_with "execs nil" => (k_dflt (refine wpAny_execs_nil ?_))
  k_with "exec If" => (k_dflt (refine wpAny_If ?_))
  k_with "exec Assign" => (k_dflt (refine wpAny_Assign_Name ?_))
  k_with "eval Name" => (k_dflt (refine' nameX_L ?F ?v ?_ ?a ?b ?d; (case F => k_asm); (case a => rfl); (case b => kernel_rfl!); (case d => kernel_rfl); (case v => first | rfl | assumption); k_whole))
  k_with "storeName" => (k_dflt (refine' storeX_L ?F ?N ?_ ?a ?b; (case F => k_asm); (case N => k_asm); (case a => rfl); (case b => rfl); k_whole; intro hS7 FS7 NS7; (try k_sweep)))
  k_with "spliced" => (k_dflt (first | refine args_cons ?_ | (refine args_nil ?_; try simp only [List.cons_append, List.nil_append])))
  k_with "ite" => (k_dflt (first | refine ite_pos (by decide +kernel) ?_ | refine ite_neg (by decide +kernel) ?_))
  k_with "And" => ((with_reducible show PySem.Str.length (_ ++ _) ≤ sizeLine ∧ _); refine ⟨Nat.le_of_ble_eq_true (by kernel_rfl!), ?_⟩)
  k_with "exec Assign cons Tuple" => (k_dflt (refine Assign_Tuple ?_))
  k_with "callWith ref" => (k_dflt (refine' callWith_K ?k1 ?k2 ?_; (case k1 => k_asm); (case k2 => k_is); k_whole))
  k_with "truthy bool" => (k_dflt (refine wpAny_truthy_bool ?_))
  k_with "isTrue Compare" => (k_dflt (refine wpAny_isTrue_Compare1 ?_))
  k_with "room" => (k_dflt (first | exact om_s2 (by assumption) (by rfl) | exact om_s1 (by assumption) (by rfl) | exact om_s0 (by assumption)))
  k_with "ne" => with_reducible (first | assumption | exact om_sy (by assumption) | exact Nat.ne_of_gt (by assumption) | exact Nat.ne_of_lt (by assumption) | exact om_n1 (by assumption) | exact om_n2 (by assumption) | exact om_n3 (by assumption) | exact om_z2 (by assumption) | exact om_z3 (by assumption) | exact om_z4 (by assumption) | exact (om_n1 (by assumption)).symm | exact (om_n2 (by assumption)).symm | exact (om_n3 (by assumption)).symm | exact (om_z2 (by assumption)).symm | exact (om_z3 (by assumption)).symm | exact (om_z4 (by assumption)).symm | exact om_n4 (by assumption) | exact om_z5 (by assumption) | exact (om_n4 (by assumption)).symm | exact (om_z5 (by assumption)).symm | exact om_n5 (by assumption) | exact om_z6 (by assumption) | exact (om_n5 (by assumption)).symm | exact (om_z6 (by assumption)).symm | exact om_e1 (by assumption) | exact om_e2 (by assumption) | exact om_e3 (by assumption))
  k_with "om" => with_reducible (first | ((show _ ≠ _); k_extra "ne") | ((show @LT.lt Nat _ (_ + _ + _) _); exact om_s2 (by assumption) (by decide)) | ((show @LT.lt Nat _ (_ + _) _); exact om_s1 (by assumption) (by decide)) | ((show @LT.lt Nat _ _ _); first | assumption | exact om_s0 (by assumption)) | ((show @LE.le Nat _ (_ + 1) _); exact om_succ (by assumption) (by assumption)) | ((show @LE.le Nat _ _ _); first | exact Nat.zero_le _ | assumption | exact om_le (by assumption) (by decide) | exact om_lt_le (by assumption) (by decide) | exact om_eq_le (by assumption) (by assumption) (by decide) | exact om_eq_le' (by assumption) (by assumption) (by decide)) | ((show _ ∧ _); first | exact om_rg (by assumption) (by decide) | exact om_r1 (by assumption) (by decide)))
  k_with "all" => exact fun p9 hp9 => Nat.ne_of_lt (by first | exact l1 p9 hp9 | exact Nat.lt_succ_of_lt (l1 p9 hp9))
  refine wpAny_call ?_
  k_dflt cell_enter
  k_steps
  all_goals exact ret _ _ _ (by k_asm) (by k_asm)
theorem rshift_c (B : Below A₀ base outer h₀) (F : Fr h₀ L s.heap m) (X : (KF w.params).In h₀) (N : News h₀ L s.heap news) (T : Top topProg loose mean mg mb h₀) (hk : cs.kind = .function) (hd : dp + 1 < recursionLimit) (hu : un + 8 < cLine) {x y : Int} {t u : Tok} (hx : 0 ≤ x ∧ x ≤ 7) (hy : 0 ≤ y ∧ y ≤ 7)
  (ret : ∀ t h' tk', Fr h₀ L h' m → News h₀ L h' news → Q (.int (x.fdiv (2 ^ y.toNat)) t) { s with heap := h', toks := tk' }) :
  wpAny (model (OpenLaw.row PySem.Challenge.rw_in0163_01).toRowW.prog w) (ktrTop dp un gd cn cs L a ccd cl outer) (call (.ref 73) [.int x t, .int y u]) Q E s := by
  revert X; k_fill; intro X
  k_with_none
  k_with "execs cons" => ((k_dflt (refine wpAny_execs_cons ?_)); (try dsimp only))
  k_with "execs nil" => (k_dflt (refine wpAny_execs_nil ?_))
  k_with "exec If" => (k_dflt (refine wpAny_If ?_))
  k_with "exec Assign" => (k_dflt (refine wpAny_Assign_Name ?_))
  k_with "eval Name" => (k_dflt (refine' nameX_L ?F ?v ?_ ?a ?b ?d; (case F => k_asm); (case a => rfl); (case b => kernel_rfl!); (case d => kernel_rfl); (case v => first | rfl | assumption); k_whole))
  k_with "storeName" => (k_dflt (refine' storeX_L ?F ?N ?_ ?a ?b; (case F => k_asm); (case N => k_asm); (case a => rfl); (case b => rfl); k_whole; intro hS7 FS7 NS7; (try k_sweep)))
  k_with "spliced" => (k_dflt (first | refine args_cons ?_ | (refine args_nil ?_; try simp only [List.cons_append, List.nil_append])))
  k_with "ite" => (k_dflt (first | refine ite_pos (by decide +kernel) ?_ | refine ite_neg (by decide +kernel) ?_))
  k_with "And" => ((with_reducible show PySem.Str.length (_ ++ _) ≤ sizeLine ∧ _); refine ⟨Nat.le_of_ble_eq_true (by kernel_rfl!), ?_⟩)
  k_with "exec Assign cons Tuple" => (k_dflt (refine Assign_Tuple ?_))
  k_with "callWith ref" => (k_dflt (refine' callWith_K ?k1 ?k2 ?_; (case k1 => k_asm); (case k2 => k_is); k_whole))
  k_with "truthy bool" => (k_dflt (refine wpAny_truthy_bool ?_))
  k_with "isTrue Compare" => (k_dflt (refine wpAny_isTrue_Compare1 ?_))
  k_with "room" => (k_dflt (first | exact om_s2 (by assumption) (by rfl) | exact om_s1 (by assumption) (by rfl) | exact om_s0 (by assumption)))
  k_with "ne" => with_reducible (first | assumption | exact om_sy (by assumption) | exact Nat.ne_of_gt (by assumption) | exact Nat.ne_of_lt (by assumption) | exact om_n1 (by assumption) | exact om_n2 (by assumption) | exact om_n3 (by assumption) | exact om_z2 (by assumption) | exact om_z3 (by assumption) | exact om_z4 (by assumption) | exact (om_n1 (by assumption)).symm | exact (om_n2 (by assumption)).symm | exact (om_n3 (by assumption)).symm | exact (om_z2 (by assumption)).symm | exact (om_z3 (by assumption)).symm | exact (om_z4 (by assumption)).symm | exact om_n4 (by assumption) | exact om_z5 (by assumption) | exact (om_n4 (by assumption)).symm | exact (om_z5 (by assumption)).symm | exact om_n5 (by assumption) | exact om_z6 (by assumption) | exact (om_n5 (by assumption)).symm | exact (om_z6 (by assumption)).symm | exact om_e1 (by assumption) | exact om_e2 (by assumption) | exact om_e3 (by assumption))
  k_with "om" => with_reducible (first | ((show _ ≠ _); k_extra "ne") | ((show @LT.lt Nat _ (_ + _ + _) _); exact om_s2 (by assumption) (by decide)) | ((show @LT.lt Nat _ (_ + _) _); exact om_s1 (by assumption) (by decide)) | ((show @LT.lt Nat _ _ _); first | assumption | exact om_s0 (by assumption)) | ((show @LE.le Nat _ (_ + 1) _); exact om_succ (by assumption) (by assumption)) | ((show @LE.le Nat _ _ _); first | exact Nat.zero_le _ | assumption | exact om_le (by assumption) (by decide) | exact om_lt_le (by assumption) (by decide) | exact om_eq_le (by assumption) (by assumption) (by decide) | exact om_eq_le' (by assumption) (by assumption) (by decide)) | ((show _ ∧ _); first | exact om_rg (by assumption) (by decide) | exact om_r1 (by assumption) (by decide)))
  k_with "all" => exact fun p9 hp9 => Nat.ne_of_lt (by first | exact l1 p9 hp9 | exact Nat.lt_succ_of_lt (l1 p9 hp9))
  refine wpAny_call ?_
  k_dflt cell_enter
  k_steps
  all_goals exact ret _ _ _ (by k_asm) (by k_asm)
theorem mul_c (B : Below A₀ base outer h₀) (F : Fr h₀ L s.heap m) (X : (KF w.params).In h₀) (N : News h₀ L s.heap news) (T : Top topProg loose mean mg mb h₀) (hk : cs.kind = .function) (hd : dp + 1 < recursionLimit) (hu : un + 8 < cLine) {x y : Int} {t u : Tok} (hx : 0 ≤ x ∧ x ≤ 10)
  (ret : ∀ t h' tk', Fr h₀ L h' m → News h₀ L h' news → Q (.int (x * y) t) { s with heap := h', toks := tk' }) :
  wpAny (model (OpenLaw.row PySem.Challenge.rw_in0163_01).toRowW.prog w) (ktrTop dp un gd cn cs L a ccd cl outer) (call (.ref 59) [.int x t, .int y u]) Q E s := by
  revert X; k_fill; intro X
  k_with_none
  k_with "execs cons" => ((k_dflt (refine wpAny_execs_cons ?_)); (try dsimp only))
  k_with "execs nil" => (k_dflt (refine wpAny_execs_nil ?_))
  k_with "exec If" => (k_dflt (refine wpAny_If ?_))
  k_with "exec Assign" => (k_dflt (refine wpAny_Assign_Name ?_))
  k_with "eval Name" => (k_dflt (refine' nameX_L ?F ?v ?_ ?a ?b ?d; (case F => k_asm); (case a => rfl); (case b => kernel_rfl!); (case d => kernel_rfl); (case v => first | rfl | assumption); k_whole))
  k_with "storeName" => (k_dflt (refine' storeX_L ?F ?N ?_ ?a ?b; (case F => k_asm); (case N => k_asm); (case a => rfl); (case b => rfl); k_whole; intro hS7 FS7 NS7; (try k_sweep)))
  k_with "spliced" => (k_dflt (first | refine args_cons ?_ | (refine args_nil ?_; try simp only [List.cons_append, List.nil_append])))
  k_with "ite" => (k_dflt (first | refine ite_pos (by decide +kernel) ?_ | refine ite_neg (by decide +kernel) ?_))
  k_with "And" => ((with_reducible show PySem.Str.length (_ ++ _) ≤ sizeLine ∧ _); refine ⟨Nat.le_of_ble_eq_true (by kernel_rfl!), ?_⟩)
  k_with "exec Assign cons Tuple" => (k_dflt (refine Assign_Tuple ?_))
  k_with "callWith ref" => (k_dflt (refine' callWith_K ?k1 ?k2 ?_; (case k1 => k_asm); (case k2 => k_is); k_whole))
  k_with "truthy bool" => (k_dflt (refine wpAny_truthy_bool ?_))
  k_with "isTrue Compare" => (k_dflt (refine wpAny_isTrue_Compare1 ?_))
  k_with "room" => (k_dflt (first | exact om_s2 (by assumption) (by rfl) | exact om_s1 (by assumption) (by rfl) | exact om_s0 (by assumption)))
  k_with "ne" => with_reducible (first | assumption | exact om_sy (by assumption) | exact Nat.ne_of_gt (by assumption) | exact Nat.ne_of_lt (by assumption) | exact om_n1 (by assumption) | exact om_n2 (by assumption) | exact om_n3 (by assumption) | exact om_z2 (by assumption) | exact om_z3 (by assumption) | exact om_z4 (by assumption) | exact (om_n1 (by assumption)).symm | exact (om_n2 (by assumption)).symm | exact (om_n3 (by assumption)).symm | exact (om_z2 (by assumption)).symm | exact (om_z3 (by assumption)).symm | exact (om_z4 (by assumption)).symm | exact om_n4 (by assumption) | exact om_z5 (by assumption) | exact (om_n4 (by assumption)).symm | exact (om_z5 (by assumption)).symm | exact om_n5 (by assumption) | exact om_z6 (by assumption) | exact (om_n5 (by assumption)).symm | exact (om_z6 (by assumption)).symm | exact om_e1 (by assumption) | exact om_e2 (by assumption) | exact om_e3 (by assumption))
  k_with "om" => with_reducible (first | ((show _ ≠ _); k_extra "ne") | ((show @LT.lt Nat _ (_ + _ + _) _); exact om_s2 (by assumption) (by decide)) | ((show @LT.lt Nat _ (_ + _) _); exact om_s1 (by assumption) (by decide)) | ((show @LT.lt Nat _ _ _); first | assumption | exact om_s0 (by assumption)) | ((show @LE.le Nat _ (_ + 1) _); exact om_succ (by assumption) (by assumption)) | ((show @LE.le Nat _ _ _); first | exact Nat.zero_le _ | assumption | exact om_le (by assumption) (by decide) | exact om_lt_le (by assumption) (by decide) | exact om_eq_le (by assumption) (by assumption) (by decide) | exact om_eq_le' (by assumption) (by assumption) (by decide)) | ((show _ ∧ _); first | exact om_rg (by assumption) (by decide) | exact om_r1 (by assumption) (by decide)))
  k_with "all" => exact fun p9 hp9 => Nat.ne_of_lt (by first | exact l1 p9 hp9 | exact Nat.lt_succ_of_lt (l1 p9 hp9))
  refine wpAny_call ?_
  k_dflt cell_enter
  k_steps
  all_goals (refine' cb_retI ret ?e1 ?e2 ?e3; (case e2 => k_asm); (case e3 => first | k_asm | (exact Kept.back (by assumption) (by assumption) (by assumption) (by intro p9 hp9; repeat (first | exact hp9 | refine List.mem_cons_of_mem _ ?_))) | (refine' cb_drop ?cbN ?cbS; (case cbN => assumption); (case cbS => (intro p9 hp9; repeat (first | exact hp9 | refine List.mem_cons_of_mem _ ?_))))); (case e1 => rfl))

theorem add_z (B : Below A₀ base outer h₀) (F : Fr h₀ L s.heap m) (X : (KF w.params).In h₀) (N : News h₀ L s.heap news) (T : Top topProg loose mean mg mb h₀) (hk : cs.kind = .function) (hd : dp + 1 < recursionLimit) (hu : un + 8 < cLine) {x y : Int} {t u : Tok}
  (ret : ∀ z t h' tk', z = x + y → Fr h₀ L h' m → News h₀ L h' news → Q (.int z t) { s with heap := h', toks := tk' }) :
  wpAny (model (OpenLaw.row PySem.Challenge.rw_in0163_01).toRowW.prog w) (ktrTop dp un gd cn cs L a ccd cl outer) (call (.ref 38) [.int x t, .int y u]) Q E s := add_c B F X N T hk hd hu fun t h' tk' => ret _ t h' tk' rfl

theorem sub_z (B : Below A₀ base outer h₀) (F : Fr h₀ L s.heap m) (X : (KF w.params).In h₀) (N : News h₀ L s.heap news) (T : Top topProg loose mean mg mb h₀) (hk : cs.kind = .function) (hd : dp + 1 < recursionLimit) (hu : un + 8 < cLine) {x y : Int} {t u : Tok}
  (ret : ∀ z t h' tk', z = x - y → Fr h₀ L h' m → News h₀ L h' news → Q (.int z t) { s with heap := h', toks := tk' }) :
  wpAny (model (OpenLaw.row PySem.Challenge.rw_in0163_01).toRowW.prog w) (ktrTop dp un gd cn cs L a ccd cl outer) (call (.ref 80) [.int x t, .int y u]) Q E s := sub_c B F X N T hk hd hu fun t h' tk' => ret _ t h' tk' rfl

theorem mul_z (B : Below A₀ base outer h₀) (F : Fr h₀ L s.heap m) (X : (KF w.params).In h₀) (N : News h₀ L s.heap news) (T : Top topProg loose mean mg mb h₀) (hk : cs.kind = .function) (hd : dp + 1 < recursionLimit) (hu : un + 8 < cLine) {x y : Int} {t u : Tok} (hx : 0 ≤ x ∧ x ≤ 10)
  (ret : ∀ z t h' tk', z = x * y → Fr h₀ L h' m → News h₀ L h' news → Q (.int z t) { s with heap := h', toks := tk' }) :
  wpAny (model (OpenLaw.row PySem.Challenge.rw_in0163_01).toRowW.prog w) (ktrTop dp un gd cn cs L a ccd cl outer) (call (.ref 59) [.int x t, .int y u]) Q E s := mul_c B F X N T hk hd hu hx fun t h' tk' => ret _ t h' tk' rfl
end
set_option Elab.async false
set_option maxRecDepth 100000
set_option maxHeartbeats 5000000
section
variable {w : World} {o : OsState} {mean : ExcName → Option Value} {loose : List Str} {mg mb : Str → Option Value} {dp un : Nat} {gd : Option (List Code)} {cn : Str} {cs : Scope} {a : Addr} {ccd : Value} {cl : List (Str × Addr)} {outer : List Env} {A₀ : Around} {base h₀ : Heap} {L : Addr} {m : Str → Option Value} {news : List (Addr × Obj)} {s : Shared} {Q E : Value → Shared → Prop}
theorem turned_c (B : Below A₀ base outer h₀) (F : Fr h₀ L s.heap m) (X : (KF w.params).In h₀) (N : News h₀ L s.heap news) (T : Top topProg loose mean mg mb h₀) (hk : cs.kind = .function) (hd : dp + 2 < recursionLimit) (hu : un + 24 < cLine) {ra rb : Addr} {vs ws : List Value} {na nb : Nat} {ms : List (Int × Int)} {ds : List Int} (hra : (ra, listOf vs.toArray na) ∈ news) (hs : Stg news vs ms) (hl : ms.length ≤ 3) (hm : StgOk ms)
  (hrb : (rb, listOf ws.toArray nb) ∈ news) (hds : IntsAre ws ds) (hd3 : ds.length = 3)
  (ret : ∀ D c ys ts h' tk', Fr h₀ L h' m → News h₀ L h' ((D, listOf (List.toArray ys) c) :: (ts ++ news)) → Stg ts ys (tuN ms ds ms.length) → Q (.ref D) { s with heap := h', toks := tk' }) :
  wpAny (model (OpenLaw.row PySem.Challenge.rw_in0163_01).toRowW.prog w) (ktrTop dp un gd cn cs L a ccd cl outer) (call (.ref 151) [.ref ra, .ref rb]) Q E s := by
  revert X; k_fill; intro X
  k_with_none
  k_with "execs cons" => ((k_dflt (refine wpAny_execs_cons ?_)); (try dsimp only))
  k_with "execs nil" => (k_dflt (refine wpAny_execs_nil ?_))
  k_with "exec If" => (k_dflt (refine wpAny_If ?_))
  k_with "exec Assign" => (k_dflt (refine wpAny_Assign_Name ?_))
  k_with "eval Name" => (k_dflt (refine' nameX_L ?F ?v ?_ ?a ?b ?d; (case F => k_asm); (case a => rfl); (case b => kernel_rfl!); (case d => kernel_rfl); (case v => first | rfl | assumption); k_whole))
  k_with "storeName" => (k_dflt (refine' storeX_L ?F ?N ?_ ?a ?b; (case F => k_asm); (case N => k_asm); (case a => rfl); (case b => rfl); k_whole; intro hS7 FS7 NS7; (try k_sweep)))
  k_with "spliced" => (k_dflt (first | refine args_cons ?_ | (refine args_nil ?_; try simp only [List.cons_append, List.nil_append])))
  k_with "ite" => (k_dflt (first | refine ite_pos (by decide +kernel) ?_ | refine ite_neg (by decide +kernel) ?_))
  k_with "And" => ((with_reducible show PySem.Str.length (_ ++ _) ≤ sizeLine ∧ _); refine ⟨Nat.le_of_ble_eq_true (by kernel_rfl!), ?_⟩)
  k_with "exec Assign cons Tuple" => (k_dflt (refine Assign_Tuple ?_))
  k_with "callWith ref" => (k_dflt (refine' callWith_K ?k1 ?k2 ?_; (case k1 => k_asm); (case k2 => k_is); k_whole))
  k_with "truthy bool" => (k_dflt (refine wpAny_truthy_bool ?_))
  k_with "isTrue Compare" => (k_dflt (refine wpAny_isTrue_Compare1 ?_))
  k_with "room" => (k_dflt (first | exact om_s2 (by assumption) (by rfl) | exact om_s1 (by assumption) (by rfl) | exact om_s0 (by assumption)))
  k_with "ne" => with_reducible (first | assumption | exact om_sy (by assumption) | exact Nat.ne_of_gt (by assumption) | exact Nat.ne_of_lt (by assumption) | exact om_n1 (by assumption) | exact om_n2 (by assumption) | exact om_n3 (by assumption) | exact om_z2 (by assumption) | exact om_z3 (by assumption) | exact om_z4 (by assumption) | exact (om_n1 (by assumption)).symm | exact (om_n2 (by assumption)).symm | exact (om_n3 (by assumption)).symm | exact (om_z2 (by assumption)).symm | exact (om_z3 (by assumption)).symm | exact (om_z4 (by assumption)).symm | exact om_n4 (by assumption) | exact om_z5 (by assumption) | exact (om_n4 (by assumption)).symm | exact (om_z5 (by assumption)).symm | exact om_n5 (by assumption) | exact om_z6 (by assumption) | exact (om_n5 (by assumption)).symm | exact (om_z6 (by assumption)).symm | exact om_e1 (by assumption) | exact om_e2 (by assumption) | exact om_e3 (by assumption))
  k_with "om" => with_reducible (first | ((show _ ≠ _); k_extra "ne") | ((show @LT.lt Nat _ (_ + _ + _) _); exact om_s2 (by assumption) (by decide)) | ((show @LT.lt Nat _ (_ + _) _); exact om_s1 (by assumption) (by decide)) | ((show @LT.lt Nat _ _ _); first | assumption | exact om_s0 (by assumption)) | ((show @LE.le Nat _ (_ + 1) _); exact om_succ (by assumption) (by assumption)) | ((show @LE.le Nat _ _ _); first | exact Nat.zero_le _ | assumption | exact om_le (by assumption) (by decide) | exact om_lt_le (by assumption) (by decide) | exact om_eq_le (by assumption) (by assumption) (by decide) | exact om_eq_le' (by assumption) (by assumption) (by decide)) | ((show _ ∧ _); first | exact om_rg (by assumption) (by decide) | exact om_r1 (by assumption) (by decide)))
  k_with "all" => exact fun p9 hp9 => Nat.ne_of_lt (by first | exact l1 p9 hp9 | exact Nat.lt_succ_of_lt (l1 p9 hp9))
  have hvl : vs.toArray.size = ms.length := by rw [List.size_toArray]; exact hs.len.symm
  k_with "call builtin:len" => (refine len_l (by k_asm) (by repeat (first | assumption | exact List.mem_cons_self | exact List.mem_append_left _ (by assumption) | exact List.mem_append_right _ (by assumption) | refine List.mem_cons_of_mem _ ?_)) hvl (by omega) ?_; intro t9' k9')
  k_with "pyIter ref" => ((rename Fr _ _ _ _ => lF'); (rename News _ _ _ _ => lN'); (rename IsRange _ _ _ _ _ _ _ _ => rgX); (with_unfolding_all refine' ledRange (n := ms.length) (σ := Addr × Nat × List Value × List (Addr × Obj)) (fun c => (c.1, listOf c.2.2.1.toArray c.2.1) :: (c.2.2.2 ++ news)) (fun c => [(Str.ofString "row", .ref c.1)]) [Str.ofString "turn", Str.ofString "mask", Str.ofString "moved"] (fun i c => Stg c.2.2.2 c.2.2.1 (tuN ms ds i) ∧ (tuN ms ds i).length ≤ i ∧ ∀ p ∈ c.2.2.2 ++ news, p.1 ≠ c.1) ⟨_, _, [], []⟩ (by rfl) rgX (by exact small_one (by omega) (by omega) (by omega) (by omega)) (by exact rangeSize_nat _ _) lF' lN' ?hk ?hp ?_ ?_; (case hk => kst_all); (case hp => exact ⟨Al.nil, Nat.le_refl _, fun p9 hp9 => Nat.ne_of_lt (by first | exact kst_ltOf (by assumption) p9 hp9 | exact (by assumption : ∀ p ∈ news, p.1 < _) p9 hp9)⟩)); (clear lF' lN'); (rotate_left; (intro c9 u9 h9 tk9 hp9 F9 N9; obtain ⟨D9, q9, rv9, ts9⟩ := c9; (dsimp only at *)); rotate_left); (intro c9 i9 u9 I9 it9 t9 h9 tk9 hi9 hp9 hI9 F9 N9; obtain ⟨D9, q9, rv9, ts9⟩ := c9; obtain ⟨hp9, hlen9, hne9⟩ := hp9; obtain ⟨sa9, so9, sn9, s19, s29, hsv9, hsm9, hsc9, hsd9⟩ := stg_at hs hi9; have hok9 := stg_ok hm hi9; have hID9 : D9 ≠ I9 := hI9 _ List.mem_cons_self; have hrl9 : rv9.length = (tuN ms ds i9).length := hp9.len.symm; have hrb9 : rv9.length ≤ 1000000 := Nat.le_trans (Nat.le_of_eq hrl9) (Nat.le_trans hlen9 (by omega)); have hfi9 := fm_i (ds.getD (0 + (i9 : Int)).toNat 0) (i := i9) (by omega); have hfm9 := fm_b (ds.getD (0 + (i9 : Int)).toNat 0); (dsimp only at *); (simp only [kstB] at F9)))
  k_with "subscriptTail" => ((with_reducible show wpAny _ _ (subscriptTail _ _ (Value.ref sa9) (Value.int 0 _)) _ _ _); k_dflt (refine kim_tup (j := 0) (by k_asm) (by repeat (first | assumption | exact List.mem_cons_self | exact List.mem_append_left _ (by assumption) | exact List.mem_append_right _ (by assumption) | refine List.mem_cons_of_mem _ ?_)) hsc9 hsd9 (by omega) (by omega) (by rfl) (by rfl) ?_))
  k_with "subscriptTail" => ((with_reducible show wpAny _ _ (subscriptTail _ _ (Value.ref sa9) (Value.int 1 _)) _ _ _); k_dflt (refine kim_tup (j := 1) (by k_asm) (by repeat (first | assumption | exact List.mem_cons_self | exact List.mem_append_left _ (by assumption) | exact List.mem_append_right _ (by assumption) | refine List.mem_cons_of_mem _ ?_)) hsc9 hsd9 (by omega) (by omega) (by rfl) (by rfl) ?_))
  k_with "subscriptTail" => ((with_reducible show wpAny _ _ (subscriptTail _ _ (Value.ref ra) (Value.int _ _)) _ _ _); k_dflt (refine kim_list (x := .ref sa9) (by k_asm) (by repeat (first | assumption | exact List.mem_cons_self | exact List.mem_append_left _ (by assumption) | exact List.mem_append_right _ (by assumption) | refine List.mem_cons_of_mem _ ?_)) rfl rfl (by omega) (by omega) (by (have e9 : (0 + (i9 : Int)).toNat = i9 := by omega); rw [e9]; exact hsv9) ?_))
  k_with "subscriptTail" => ((with_reducible show wpAny _ _ (subscriptTail _ _ (Value.ref rb) (Value.int _ _)) _ _ _); k_dflt (refine item_is (by k_asm) (by repeat (first | assumption | exact List.mem_cons_self | exact List.mem_append_left _ (by assumption) | exact List.mem_append_right _ (by assumption) | refine List.mem_cons_of_mem _ ?_)) hds (by omega) (by omega) (by omega) ?_; intro t9'))
  k_with "call builtin:list.insert" => (k_dflt (refine' ins_ls ?p1 ?p2 ?p3 ?p4 ?p5 ?_; (case p1 => k_asm); (case p2 => k_asm); (case p3 => exact hfi9); (case p4 => (intro o9'; exact .tail (by k_ne) (.tail (Ne.symm hID9) (.head hne9)))); (case p5 => exact hrb9)); intro h9' F9' N9'; (try dsimp only at N9'))
  k_with "UnrEnd" => ((with_reducible show UnrEnd _ _ _ _ _ (fun m' n' => LedS _ _ _ _ _ _ _ m' n') _); (rename News _ _ _ _ => nE9); (with_reducible refine' led_end ⟨D9, q9 + 1, _, _ :: ts9⟩ ?F ?N ?sub ?off ?hk ?hr ?hp); (case F => assumption); (case N => exact nE9); (case hk => with_unfolding_all kst_all); (case sub => ((try dsimp only); exact sub_ins)); (case hr => with_unfolding_all kst_same); (case off => exact off_ins hI9 (by k_ne)); (case hp => exact tu_end hp9 hlen9 hne9 (by k_ne)))
  k_with "all" => exact hne9
  k_with "call ref" => (k_dflt (refine' and_c ?k1 ?k2 ?k3 ?k4 ?k5 ?k6 ?k7 ?k8  ?_; (case k1 => k_asm); (case k2 => k_asm); (case k3 => k_asm); (case k4 => k_asm); (case k5 => k_asm); (case k6 => first | exact rfl | assumption); (case k7 => ktr_room); (case k8 => ktr_units); intro t9 h9 tk9 F9 N9; (try dsimp only); (try k_fold)))
  k_with "call ref" => (k_dflt (refine' or_c ?k1 ?k2 ?k3 ?k4 ?k5 ?k6 ?k7 ?k8  ?_; (case k1 => k_asm); (case k2 => k_asm); (case k3 => k_asm); (case k4 => k_asm); (case k5 => k_asm); (case k6 => first | exact rfl | assumption); (case k7 => ktr_room); (case k8 => ktr_units); intro t9 h9 tk9 F9 N9; (try dsimp only); (try k_fold)))
  k_with "call ref" => (k_dflt (refine' sub_c ?k1 ?k2 ?k3 ?k4 ?k5 ?k6 ?k7 ?k8  ?_; (case k1 => k_asm); (case k2 => k_asm); (case k3 => k_asm); (case k4 => k_asm); (case k5 => k_asm); (case k6 => first | exact rfl | assumption); (case k7 => ktr_room); (case k8 => ktr_units); intro t9 h9 tk9 F9 N9; (try dsimp only); (try k_fold)))
  k_with "call ref" => (k_dflt (refine' lshift_c ?k1 ?k2 ?k3 ?k4 ?k5 ?k6 ?k7 ?k8 ?x1 ?x2 ?_; (case k1 => k_asm); (case k2 => k_asm); (case k3 => k_asm); (case k4 => k_asm); (case k5 => k_asm); (case k6 => first | exact rfl | assumption); (case k7 => ktr_room); (case k8 => ktr_units); (case x1 => omega); (case x2 => omega); intro t9 h9 tk9 F9 N9; (try dsimp only); (try k_fold)))
  k_with "call ref" => (k_dflt (refine' rshift_c ?k1 ?k2 ?k3 ?k4 ?k5 ?k6 ?k7 ?k8 ?x1 ?x2 ?_; (case k1 => k_asm); (case k2 => k_asm); (case k3 => k_asm); (case k4 => k_asm); (case k5 => k_asm); (case k6 => first | exact rfl | assumption); (case k7 => ktr_room); (case k8 => ktr_units); (case x1 => omega); (case x2 => omega); intro t9 h9 tk9 F9 N9; (try dsimp only); (try k_fold)))
  refine wpAny_call ?_
  k_dflt cell_enter
  k_steps
  all_goals exact ret D9 q9 rv9 ts9 _ _ (by k_asm) (by assumption) (by first | exact hp9.1 | assumption)
end
set_option Elab.async false
set_option maxRecDepth 100000
set_option maxHeartbeats 5000000
section
variable {w : World} {o : OsState} {mean : ExcName → Option Value} {loose : List Str} {mg mb : Str → Option Value} {dp un : Nat} {gd : Option (List Code)} {cn : Str} {cs : Scope} {a : Addr} {ccd : Value} {cl : List (Str × Addr)} {outer : List Env} {A₀ : Around} {base h₀ : Heap} {L : Addr} {m : Str → Option Value} {news : List (Addr × Obj)} {s : Shared} {Q E : Value → Shared → Prop}
theorem keep_src {h₀ h : Heap} {L : Addr} {a : Addr × Obj} {ts big l : List (Addr × Obj)} (N : News h₀ L h (a :: (ts ++ big))) (k : ∀ p ∈ l, p ∈ big) : News h₀ L h (a :: (ts ++ l)) := fun p hp => N p (by
  simp only [List.mem_cons, List.mem_append] at hp ⊢
  rcases hp with h | h | h
  · exact .inl h
  · exact .inr (.inl h)
  · exact .inr (.inr (k p h)))
theorem st1 (B : Below A₀ base [] h₀) (F : Fr h₀ L s.heap m) (X : (KF w.params).In h₀) (N : News h₀ L s.heap news) (T : Top topProg loose mean mg mb h₀) (hd : dp + 4 < recursionLimit) (hu : un + 100 < cLine) {Q : Flow → Shared → Prop} {sc ra : Addr} {vs ss : List Value} {ns : List Int} {na : Nat} {ms : List (Int × Int)} (hsc : h₀.IsList sc vs.toArray) (hI : IntsAre vs ns) (hlen : ns.length ≤ 63) (m1 : m (Str.ofString "script") = some (.ref sc)) (m2 : m (Str.ofString "stages") = some (.ref ra))
  (hra : (ra, listOf ss.toArray na) ∈ news) (hs : Stg news ss ms) (hl : ms.length ≤ 3) (hm : StgOk ms)
  (ret : ∀ D ys q ts ds h' tk', Fr h₀ L h' (fun y => if y = Str.ofString "turned" then some (.ref D) else m y) → News h₀ L h' ((D, listOf (List.toArray ys) q) :: (ts ++ news)) → Stg ts ys (tuN ms ds ms.length) → Q .next { s with heap := h', toks := tk' }) :
  wpAny (model (OpenLaw.row PySem.Challenge.rw_in0163_01).toRowW.prog w) (ktrTop dp un gd (Str.ofString "law") lawSc.1 L a ccd (lawCl L) []) (exec lawS1.1 (envX (Str.ofString "law") lawSc.1 L a ccd (lawCl L))) Q E s := by
  dsimp only [lawS1, lawSc, lawCl]
  revert X; k_fill; intro X
  k_with_none
  k_with "execs cons" => ((k_dflt (refine wpAny_execs_cons ?_)); (try dsimp only))
  k_with "execs nil" => (k_dflt (refine wpAny_execs_nil ?_))
  k_with "exec If" => (k_dflt (refine wpAny_If ?_))
  k_with "exec Assign" => (k_dflt (refine wpAny_Assign_Name ?_))
  k_with "eval Name" => (k_dflt (refine' nameX_L ?F ?v ?_ ?a ?b ?d; (case F => k_asm); (case a => rfl); (case b => kernel_rfl!); (case d => kernel_rfl); (case v => first | rfl | assumption); k_whole))
  k_with "storeName" => (k_dflt (refine' storeX_L ?F ?N ?_ ?a ?b; (case F => k_asm); (case N => k_asm); (case a => rfl); (case b => rfl); k_whole; intro hS7 FS7 NS7; (try k_sweep)))
  k_with "spliced" => (k_dflt (first | refine args_cons ?_ | (refine args_nil ?_; try simp only [List.cons_append, List.nil_append])))
  k_with "ite" => (k_dflt (first | refine ite_pos (by decide +kernel) ?_ | refine ite_neg (by decide +kernel) ?_))
  k_with "And" => ((with_reducible show PySem.Str.length (_ ++ _) ≤ sizeLine ∧ _); refine ⟨Nat.le_of_ble_eq_true (by kernel_rfl!), ?_⟩)
  k_with "exec Assign cons Tuple" => (k_dflt (refine Assign_Tuple ?_))
  k_with "callWith ref" => (k_dflt (refine' callWith_K ?k1 ?k2 ?_; (case k1 => k_asm); (case k2 => k_is); k_whole))
  k_with "truthy bool" => (k_dflt (refine wpAny_truthy_bool ?_))
  k_with "isTrue Compare" => (k_dflt (refine wpAny_isTrue_Compare1 ?_))
  k_with "room" => (k_dflt (first | exact om_s2 (by assumption) (by rfl) | exact om_s1 (by assumption) (by rfl) | exact om_s0 (by assumption)))
  k_with "ne" => with_reducible (first | assumption | exact om_sy (by assumption) | exact Nat.ne_of_gt (by assumption) | exact Nat.ne_of_lt (by assumption) | exact om_n1 (by assumption) | exact om_n2 (by assumption) | exact om_n3 (by assumption) | exact om_z2 (by assumption) | exact om_z3 (by assumption) | exact om_z4 (by assumption) | exact (om_n1 (by assumption)).symm | exact (om_n2 (by assumption)).symm | exact (om_n3 (by assumption)).symm | exact (om_z2 (by assumption)).symm | exact (om_z3 (by assumption)).symm | exact (om_z4 (by assumption)).symm | exact om_n4 (by assumption) | exact om_z5 (by assumption) | exact (om_n4 (by assumption)).symm | exact (om_z5 (by assumption)).symm | exact om_n5 (by assumption) | exact om_z6 (by assumption) | exact (om_n5 (by assumption)).symm | exact (om_z6 (by assumption)).symm | exact om_e1 (by assumption) | exact om_e2 (by assumption) | exact om_e3 (by assumption))
  k_with "om" => with_reducible (first | ((show _ ≠ _); k_extra "ne") | ((show @LT.lt Nat _ (_ + _ + _) _); exact om_s2 (by assumption) (by decide)) | ((show @LT.lt Nat _ (_ + _) _); exact om_s1 (by assumption) (by decide)) | ((show @LT.lt Nat _ _ _); first | assumption | exact om_s0 (by assumption)) | ((show @LE.le Nat _ (_ + 1) _); exact om_succ (by assumption) (by assumption)) | ((show @LE.le Nat _ _ _); first | exact Nat.zero_le _ | assumption | exact om_le (by assumption) (by decide) | exact om_lt_le (by assumption) (by decide) | exact om_eq_le (by assumption) (by assumption) (by decide) | exact om_eq_le' (by assumption) (by assumption) (by decide)) | ((show _ ∧ _); first | exact om_rg (by assumption) (by decide) | exact om_r1 (by assumption) (by decide)))
  k_with "all" => exact fun p9 hp9 => Nat.ne_of_lt (by first | exact l1 p9 hp9 | exact Nat.lt_succ_of_lt (l1 p9 hp9))
  k_with "subscriptTail List cons Slice ref ref" => (k_dflt (refine kba_turn (value' := PySem.Expr.Name (PySem.Str.ofString "_") ⟨0, 0, 0, 0⟩) (fun _ => rfl) ?_; refine from_is (by k_asm) (by k_asm) (by repeat (first | assumption | exact List.mem_cons_self | exact List.mem_append_left _ (by assumption) | exact List.mem_append_right _ (by assumption) | refine List.mem_cons_of_mem _ ?_)) (.cons _ _ (.cons _ _ (.cons _ _ .nil))) (by decide) (by omega) ?_); intro D6' us6' h6' F6' N6' l6' hi6'; (try k_lt l6'))
  k_with "binaryOp Add ref ref" => (k_dflt (refine add_is (by k_asm) (by k_asm) (isl (by k_asm) (by repeat (first | assumption | exact List.mem_cons_self | exact List.mem_append_left _ (by assumption) | exact List.mem_append_right _ (by assumption) | refine List.mem_cons_of_mem _ ?_))) (isl (by k_asm) List.mem_cons_self) (by assumption) (by assumption) (by simp only [List.length_drop, List.length_take, List.length_cons, List.length_nil]; omega) ?_); intro D7' us7' h7' F7' N7' l7' hi7'; (try k_lt l7'))
  k_with "call ref" => (k_dflt (refine' turned_c ?k1 ?k2 ?k3 ?k4 ?k5 ?k6 ?k7 ?k8 (vs := ss) (na := na) ?x1 ?x0 hl hm ?x2 hi7' ?x3 ?_; (case k1 => k_asm); (case k2 => k_asm); (case k3 => k_asm); (case k4 => k_asm); (case k5 => k_asm); (case k6 => exact rfl); (case k7 => ktr_room); (case k8 => ktr_units); (case x0 => exact hs.mono (by intro p9 hp9; repeat (first | exact hp9 | refine List.mem_cons_of_mem _ ?_))); (case x1 => exact (by repeat (first | assumption | exact List.mem_cons_self | exact List.mem_append_left _ (by assumption) | exact List.mem_append_right _ (by assumption) | refine List.mem_cons_of_mem _ ?_))); (case x2 => exact List.mem_cons_self); (case x3 => simp only [List.length_append, List.length_drop, List.length_take, List.length_cons, List.length_nil]; omega)); intro D9 c9 ys9 ts9 h9 tk9 F9 N9 hy9; (try dsimp only))
  k_steps
  all_goals first | exact ret _ _ _ _ _ _ _ (by k_asm) (keep_src (by assumption) (by intro p9 hp9; repeat (first | exact hp9 | refine List.mem_cons_of_mem _ ?_))) (by assumption)
end
set_option Elab.async false
set_option maxRecDepth 100000
set_option maxHeartbeats 5000000
section
variable {w : World} {o : OsState} {mean : ExcName → Option Value} {loose : List Str} {mg mb : Str → Option Value} {dp un : Nat} {gd : Option (List Code)} {cn : Str} {cs : Scope} {a : Addr} {ccd : Value} {cl : List (Str × Addr)} {outer : List Env} {A₀ : Around} {base h₀ : Heap} {L : Addr} {m : Str → Option Value} {news : List (Addr × Obj)} {s : Shared} {Q E : Value → Shared → Prop}
theorem names_c (B : Below A₀ base outer h₀) (F : Fr h₀ L s.heap m) (X : (KF w.params).In h₀) (N : News h₀ L s.heap news) (T : Top topProg loose mean mg mb h₀) (hk : cs.kind = .function) (hd : dp + 2 < recursionLimit) (hu : un + 24 < cLine)
  (ret : ∀ D c ys h' tk', Fr h₀ L h' m → News h₀ L h' ((D, listOf (List.toArray ys) c) :: news) → StrsAre ys (nmN 3) → Q (.ref D) { s with heap := h', toks := tk' }) :
  wpAny (model (OpenLaw.row PySem.Challenge.rw_in0163_01).toRowW.prog w) (ktrTop dp un gd cn cs L a ccd cl outer) (call (.ref 156) []) Q E s := by
  revert X; k_fill; intro X
  k_with_none
  k_with "execs cons" => ((k_dflt (refine wpAny_execs_cons ?_)); (try dsimp only))
  k_with "execs nil" => (k_dflt (refine wpAny_execs_nil ?_))
  k_with "exec If" => (k_dflt (refine wpAny_If ?_))
  k_with "exec Assign" => (k_dflt (refine wpAny_Assign_Name ?_))
  k_with "eval Name" => (k_dflt (refine' nameX_L ?F ?v ?_ ?a ?b ?d; (case F => k_asm); (case a => rfl); (case b => kernel_rfl!); (case d => kernel_rfl); (case v => first | rfl | assumption); k_whole))
  k_with "storeName" => (k_dflt (refine' storeX_L ?F ?N ?_ ?a ?b; (case F => k_asm); (case N => k_asm); (case a => rfl); (case b => rfl); k_whole; intro hS7 FS7 NS7; (try k_sweep)))
  k_with "spliced" => (k_dflt (first | refine args_cons ?_ | (refine args_nil ?_; try simp only [List.cons_append, List.nil_append])))
  k_with "ite" => (k_dflt (first | refine ite_pos (by decide +kernel) ?_ | refine ite_neg (by decide +kernel) ?_))
  k_with "And" => ((with_reducible show PySem.Str.length (_ ++ _) ≤ sizeLine ∧ _); refine ⟨Nat.le_of_ble_eq_true (by kernel_rfl!), ?_⟩)
  k_with "exec Assign cons Tuple" => (k_dflt (refine Assign_Tuple ?_))
  k_with "callWith ref" => (k_dflt (refine' callWith_K ?k1 ?k2 ?_; (case k1 => k_asm); (case k2 => k_is); k_whole))
  k_with "truthy bool" => (k_dflt (refine wpAny_truthy_bool ?_))
  k_with "isTrue Compare" => (k_dflt (refine wpAny_isTrue_Compare1 ?_))
  k_with "room" => (k_dflt (first | exact om_s2 (by assumption) (by rfl) | exact om_s1 (by assumption) (by rfl) | exact om_s0 (by assumption)))
  k_with "ne" => with_reducible (first | assumption | exact om_sy (by assumption) | exact Nat.ne_of_gt (by assumption) | exact Nat.ne_of_lt (by assumption) | exact om_n1 (by assumption) | exact om_n2 (by assumption) | exact om_n3 (by assumption) | exact om_z2 (by assumption) | exact om_z3 (by assumption) | exact om_z4 (by assumption) | exact (om_n1 (by assumption)).symm | exact (om_n2 (by assumption)).symm | exact (om_n3 (by assumption)).symm | exact (om_z2 (by assumption)).symm | exact (om_z3 (by assumption)).symm | exact (om_z4 (by assumption)).symm | exact om_n4 (by assumption) | exact om_z5 (by assumption) | exact (om_n4 (by assumption)).symm | exact (om_z5 (by assumption)).symm | exact om_n5 (by assumption) | exact om_z6 (by assumption) | exact (om_n5 (by assumption)).symm | exact (om_z6 (by assumption)).symm | exact om_e1 (by assumption) | exact om_e2 (by assumption) | exact om_e3 (by assumption))
  k_with "om" => with_reducible (first | ((show _ ≠ _); k_extra "ne") | ((show @LT.lt Nat _ (_ + _ + _) _); exact om_s2 (by assumption) (by decide)) | ((show @LT.lt Nat _ (_ + _) _); exact om_s1 (by assumption) (by decide)) | ((show @LT.lt Nat _ _ _); first | assumption | exact om_s0 (by assumption)) | ((show @LE.le Nat _ (_ + 1) _); exact om_succ (by assumption) (by assumption)) | ((show @LE.le Nat _ _ _); first | exact Nat.zero_le _ | assumption | exact om_le (by assumption) (by decide) | exact om_lt_le (by assumption) (by decide) | exact om_eq_le (by assumption) (by assumption) (by decide) | exact om_eq_le' (by assumption) (by assumption) (by decide)) | ((show _ ∧ _); first | exact om_rg (by assumption) (by decide) | exact om_r1 (by assumption) (by decide)))
  k_with "all" => exact fun p9 hp9 => Nat.ne_of_lt (by first | exact l1 p9 hp9 | exact Nat.lt_succ_of_lt (l1 p9 hp9))
  k_with "pyIter ref" => ((rename Fr _ _ _ _ => lF'); (rename News _ _ _ _ => lN'); (rename IsRange _ _ _ _ _ _ _ _ => rgX); (with_unfolding_all refine' ledRange (n := 3) (σ := Obj × Addr × Nat × List Value) (fun c => [(c.2.1, listOf c.2.2.2.toArray c.2.2.1), (L' + 1, c.1)]) (fun c => []) [] (fun i c => c.1.data = .cell (some (.ref c.2.1)) ∧ StrsAre c.2.2.2 (nmN i) ∧ @Ne Nat c.2.1 (L' + 1)) ⟨_, _, _, _⟩ (by rfl) rgX (by first | decide | rfl) (by first | decide | rfl) lF' lN' ?hk ?hp ?_ ?_; (case hk => kst_all); (case hp => exact ⟨by assumption, .cons _ _ .nil, Nat.ne_of_gt (by assumption)⟩)); (clear lF' lN'); (rotate_left; (intro c9 u9 h9 tk9 hp9 F9 N9; obtain ⟨o9, D9, q9, rv9⟩ := c9; obtain ⟨hc9, hs9, hn9⟩ := hp9; (dsimp only at *)); rotate_left); (intro c9 i9 u9 I9 it9 t9 h9 tk9 hi9 hp9 hI9 F9 N9; obtain ⟨o9, D9, q9, rv9⟩ := c9; obtain ⟨hc9, hs9, hn9⟩ := hp9; have hIc : @Ne Nat (L' + 1) I9 := hI9 (L' + 1, o9) (List.mem_cons_of_mem _ List.mem_cons_self); (dsimp only at *); (simp only [kstB] at F9)))
  k_with "eval ListComp" => (k_here; (rename News _ _ _ _ => lN'); k_dflt (refine' listComp_two (s := _) (h₀ := g') (L := L') (vs := rv9) (rs := nmN i9) (tx := Str.ofString "abc") (ax := D9) (nn := q9) ?p1 lN' ?p3 ?p4 ?p5 ?p6 ?p7 ?p8 ?p9 ?pA ?pB ?pC ?pD ?pE ?pF ?pG ?pH ?pI ?pJ ?_); (case p1 => k_asm); (case p3 => k_mem); (case p4 => assumption); (case p5 => rfl); (case p6 => decide +kernel); (case p7 => (have z9 := hs9.length; have y9 := nm_len hi9; rw [abc_size]; omega)); (case p8 => with_unfolding_all rfl); (case p9 => decide); (case pA => rfl); (case pB => decide); (case pC => rfl); (case pD => rfl); (case pE => decide); (case pF => (intro s8 Q8 E8 h8; exact wpAny_Constant_str (h8 _ _))); (case pG => (intro C8 s8 m8 c8 r8 t8 u8 Q8 E8 hl8 hr8 hn8 h08 h18 h8; exact two_elt rfl rfl rfl (by decide) (by decide) (by have y9 := (nm_len hi9).2 _ hr8; omega) hn8 h08 h18 h8)); (case pH => (intro C8 s8 Q8 E8 hk8 h8; refine wpAny_Name (wpAny_loadName_cell (c := L' + 1) rfl rfl rfl ⟨o9, hk8 (L' + 1, o9) (by k_mem), hc9⟩ h8) (by decide))); (case pI => (intro C8 x8; rfl)); (case pJ => (intro x8; rfl)); k_whole; intro D9' ys9' h9' tk9' F9' N9' l19 hy9'; (try k_lt l19))
  k_with "binaryOp Add ref ref" => (k_here; k_dflt (refine' add_ls (ns := [Str.ofString ""]) ?p1 ?p2 ?p3 ?p4 ?p5 ?p6 ?p7 ?_); (case p1 => k_asm); (case p2 => k_asm); (case p3 => exact isl (its := List.toArray [_]) (by k_asm) (by k_mem)); (case p4 => exact isl (by k_asm) (by k_mem)); (case p5 => exact .cons _ _ .nil); (case p6 => assumption); (case p7 => (have z9 := hy9'.length; have y9 := congrArg List.length (nm_step i9); have x9 := nm_le hi9; simp only [List.length_cons, List.length_nil] at *; omega)); k_whole; intro D8' us8' h8' F8' N8' l18 hu8'; (try k_lt l18))
  k_with "UnrEnd" => ((with_reducible show UnrEnd _ _ _ _ _ (fun m' n' => LedS _ _ _ _ _ _ _ m' n') _); (rename News _ _ _ _ => nE9); (with_reducible refine' led_end ⟨_, D8', _, us8'⟩ ?F ?N ?sub ?off ?hk ?hr ?hp); (case F => assumption); (case N => exact nE9); (case sub => ((try dsimp only); with_unfolding_all exact List.forall_mem_cons.mpr ⟨(by repeat (first | assumption | exact List.mem_cons_self | exact List.mem_append_left _ (by assumption) | exact List.mem_append_right _ (by assumption) | refine List.mem_cons_of_mem _ ?_)), List.forall_mem_cons.mpr ⟨(by repeat (first | assumption | exact List.mem_cons_self | exact List.mem_append_left _ (by assumption) | exact List.mem_append_right _ (by assumption) | refine List.mem_cons_of_mem _ ?_)), List.forall_mem_cons.mpr ⟨(by repeat (first | assumption | exact List.mem_cons_self | exact List.mem_append_left _ (by assumption) | exact List.mem_append_right _ (by assumption) | refine List.mem_cons_of_mem _ ?_)), List.forall_mem_nil _⟩⟩⟩)); (case hk => with_unfolding_all kst_all); (case hr => with_unfolding_all kst_same); (case off => exact List.forall_mem_cons.mpr ⟨by k_ne, List.forall_mem_cons.mpr ⟨hI9 (L' + 1, o9) (by repeat (first | assumption | exact List.mem_cons_self | exact List.mem_append_left _ (by assumption) | exact List.mem_append_right _ (by assumption) | refine List.mem_cons_of_mem _ ?_)), List.forall_mem_nil _⟩⟩); (case hp => exact ⟨by assumption, nm_step i9 ▸ hu8', (by (try dsimp only); omega)⟩))
  refine wpAny_call ?_
  (k_dflt (refine' code_defCR ?k1 ?k2 ?k3 ?k4 ?kO ?k5 ?kA ?kF ?kK ?k6 ?k7 ?k8 ?k9 ?kB ?kD ?_ ?c2 ?c3 ?c4; (case kO => exact (newsNil (h₀ := h₀) (L := L) (h := s.heap))); (case kA => exact rfl); (case kF => exact rfl); (case kK => assumption); (case k1 => k_asm); (case k2 => k_asm); (case k3 => k_asm); (case k4 => exact N); (case k5 => k_asm); (case k6 => k_is); (case k7 => k_is); (case k8 => ktr_room); (case k9 => exact BindsTo.of_eq rfl); (case kB => exact rfl); (case kD => decide +kernel); (case c2 => exact rfl); (case c3 => exact rfl); (case c4 => exact rfl); k_whole; intro g' L' h' tk' cells' K' FG' F' N' Y' B' X' T' l1; clear N; (try k_lt l1); k_cells Y'; (try simp only [List.cons_append, List.nil_append] at N'); (try dsimp only); (try k_lift B'); (try k_fold)))
  k_steps
  all_goals first | (refine' ret _ _ _ _ _ ?e1 ?e2 ?e3; (case e1 => k_asm); (case e2 => refine newsCons (by assumption) (by repeat (first | assumption | exact List.mem_cons_self | exact List.mem_append_left _ (by assumption) | exact List.mem_append_right _ (by assumption) | refine List.mem_cons_of_mem _ ?_)) ?_; (exact Kept.back (by assumption) (by assumption) (by assumption) (by intro p9 hp9; repeat (first | exact hp9 | refine List.mem_cons_of_mem _ ?_)))); (case e3 => (exact hs9)))
end
set_option Elab.async false
set_option maxRecDepth 100000
set_option maxHeartbeats 5000000
section
variable {w : World} {o : OsState} {mean : ExcName → Option Value} {loose : List Str} {mg mb : Str → Option Value} {dp un : Nat} {gd : Option (List Code)} {cn : Str} {cs : Scope} {a : Addr} {ccd : Value} {cl : List (Str × Addr)} {outer : List Env} {A₀ : Around} {base h₀ : Heap} {L : Addr} {m : Str → Option Value} {news : List (Addr × Obj)} {s : Shared} {Q E : Value → Shared → Prop}
theorem st2 (B : Below A₀ base [] h₀) (F : Fr h₀ L s.heap m) (X : (KF w.params).In h₀) (N : News h₀ L s.heap news) (T : Top topProg loose mean mg mb h₀) (hd : dp + 4 < recursionLimit) (hu : un + 60 < cLine) {Q : Flow → Shared → Prop}
  (ret : ∀ D c ys h' tk', Fr h₀ L h' (fun y => if y = Str.ofString "names" then some (.ref D) else m y) → News h₀ L h' ((D, listOf (List.toArray ys) c) :: news) → StrsAre ys (nmN 3) → Q .next { s with heap := h', toks := tk' }) :
  wpAny (model (OpenLaw.row PySem.Challenge.rw_in0163_01).toRowW.prog w) (ktrTop dp un gd (Str.ofString "law") lawSc.1 L a ccd (lawCl L) []) (exec lawS2.1 (envX (Str.ofString "law") lawSc.1 L a ccd (lawCl L))) Q E s := by
  dsimp only [lawS2, lawSc, lawCl]
  revert X; k_fill; intro X
  k_with_none
  k_with "execs cons" => ((k_dflt (refine wpAny_execs_cons ?_)); (try dsimp only))
  k_with "execs nil" => (k_dflt (refine wpAny_execs_nil ?_))
  k_with "exec If" => (k_dflt (refine wpAny_If ?_))
  k_with "exec Assign" => (k_dflt (refine wpAny_Assign_Name ?_))
  k_with "eval Name" => (k_dflt (refine' nameX_L ?F ?v ?_ ?a ?b ?d; (case F => k_asm); (case a => rfl); (case b => kernel_rfl!); (case d => kernel_rfl); (case v => first | rfl | assumption); k_whole))
  k_with "storeName" => (k_dflt (refine' storeX_L ?F ?N ?_ ?a ?b; (case F => k_asm); (case N => k_asm); (case a => rfl); (case b => rfl); k_whole; intro hS7 FS7 NS7; (try k_sweep)))
  k_with "spliced" => (k_dflt (first | refine args_cons ?_ | (refine args_nil ?_; try simp only [List.cons_append, List.nil_append])))
  k_with "ite" => (k_dflt (first | refine ite_pos (by decide +kernel) ?_ | refine ite_neg (by decide +kernel) ?_))
  k_with "And" => ((with_reducible show PySem.Str.length (_ ++ _) ≤ sizeLine ∧ _); refine ⟨Nat.le_of_ble_eq_true (by kernel_rfl!), ?_⟩)
  k_with "exec Assign cons Tuple" => (k_dflt (refine Assign_Tuple ?_))
  k_with "callWith ref" => (k_dflt (refine' callWith_K ?k1 ?k2 ?_; (case k1 => k_asm); (case k2 => k_is); k_whole))
  k_with "truthy bool" => (k_dflt (refine wpAny_truthy_bool ?_))
  k_with "isTrue Compare" => (k_dflt (refine wpAny_isTrue_Compare1 ?_))
  k_with "room" => (k_dflt (first | exact om_s2 (by assumption) (by rfl) | exact om_s1 (by assumption) (by rfl) | exact om_s0 (by assumption)))
  k_with "ne" => with_reducible (first | assumption | exact om_sy (by assumption) | exact Nat.ne_of_gt (by assumption) | exact Nat.ne_of_lt (by assumption) | exact om_n1 (by assumption) | exact om_n2 (by assumption) | exact om_n3 (by assumption) | exact om_z2 (by assumption) | exact om_z3 (by assumption) | exact om_z4 (by assumption) | exact (om_n1 (by assumption)).symm | exact (om_n2 (by assumption)).symm | exact (om_n3 (by assumption)).symm | exact (om_z2 (by assumption)).symm | exact (om_z3 (by assumption)).symm | exact (om_z4 (by assumption)).symm | exact om_n4 (by assumption) | exact om_z5 (by assumption) | exact (om_n4 (by assumption)).symm | exact (om_z5 (by assumption)).symm | exact om_n5 (by assumption) | exact om_z6 (by assumption) | exact (om_n5 (by assumption)).symm | exact (om_z6 (by assumption)).symm | exact om_e1 (by assumption) | exact om_e2 (by assumption) | exact om_e3 (by assumption))
  k_with "om" => with_reducible (first | ((show _ ≠ _); k_extra "ne") | ((show @LT.lt Nat _ (_ + _ + _) _); exact om_s2 (by assumption) (by decide)) | ((show @LT.lt Nat _ (_ + _) _); exact om_s1 (by assumption) (by decide)) | ((show @LT.lt Nat _ _ _); first | assumption | exact om_s0 (by assumption)) | ((show @LE.le Nat _ (_ + 1) _); exact om_succ (by assumption) (by assumption)) | ((show @LE.le Nat _ _ _); first | exact Nat.zero_le _ | assumption | exact om_le (by assumption) (by decide) | exact om_lt_le (by assumption) (by decide) | exact om_eq_le (by assumption) (by assumption) (by decide) | exact om_eq_le' (by assumption) (by assumption) (by decide)) | ((show _ ∧ _); first | exact om_rg (by assumption) (by decide) | exact om_r1 (by assumption) (by decide)))
  k_with "all" => exact fun p9 hp9 => Nat.ne_of_lt (by first | exact l1 p9 hp9 | exact Nat.lt_succ_of_lt (l1 p9 hp9))
  k_with "call ref" => (k_dflt (refine' names_c ?k1 ?k2 ?k3 ?k4 ?k5 ?k6 ?k7 ?k8 ?_; (case k1 => k_asm); (case k2 => k_asm); (case k3 => k_asm); (case k4 => k_asm); (case k5 => k_asm); (case k6 => exact rfl); (case k7 => ktr_room); (case k8 => ktr_units)); intro D9 c9 ys9 h9 tk9 F9 N9 hy9; (try dsimp only))
  k_steps
  all_goals first | exact ret _ _ _ _ _ (by k_asm) (by k_asm) (by assumption)
end
set_option Elab.async false
set_option maxRecDepth 100000
set_option maxHeartbeats 5000000
section
variable {w : World} {o : OsState} {mean : ExcName → Option Value} {loose : List Str} {mg mb : Str → Option Value} {dp un : Nat} {gd : Option (List Code)} {cn : Str} {cs : Scope} {a : Addr} {ccd : Value} {cl : List (Str × Addr)} {outer : List Env} {A₀ : Around} {base h₀ : Heap} {L : Addr} {m : Str → Option Value} {news : List (Addr × Obj)} {s : Shared} {Q E : Value → Shared → Prop}
theorem signs_c (B : Below A₀ base outer h₀) (F : Fr h₀ L s.heap m) (X : (KF w.params).In h₀) (N : News h₀ L s.heap news) (T : Top topProg loose mean mg mb h₀) (hk : cs.kind = .function) (hd : dp + 2 < recursionLimit) (hu : un + 16 < cLine) {t : Tok} {mask : Int} (hm : 0 ≤ mask ∧ mask ≤ 7)
  (ret : ∀ t h' tk', Fr h₀ L h' m → News h₀ L h' news → Q (.str (sgF mask) t) { s with heap := h', toks := tk' }) :
  wpAny (model (OpenLaw.row PySem.Challenge.rw_in0163_01).toRowW.prog w) (ktrTop dp un gd cn cs L a ccd cl outer) (call (.ref 137) [.int mask t]) Q E s := by
  revert X; k_fill; intro X
  k_with_none
  k_with "execs cons" => ((k_dflt (refine wpAny_execs_cons ?_)); (try dsimp only))
  k_with "execs nil" => (k_dflt (refine wpAny_execs_nil ?_))
  k_with "exec If" => (k_dflt (refine wpAny_If ?_))
  k_with "exec Assign" => (k_dflt (refine wpAny_Assign_Name ?_))
  k_with "eval Name" => (k_dflt (refine' nameX_L ?F ?v ?_ ?a ?b ?d; (case F => k_asm); (case a => rfl); (case b => kernel_rfl!); (case d => kernel_rfl); (case v => first | rfl | assumption); k_whole))
  k_with "storeName" => (k_dflt (refine' storeX_L ?F ?N ?_ ?a ?b; (case F => k_asm); (case N => k_asm); (case a => rfl); (case b => rfl); k_whole; intro hS7 FS7 NS7; (try k_sweep)))
  k_with "spliced" => (k_dflt (first | refine args_cons ?_ | (refine args_nil ?_; try simp only [List.cons_append, List.nil_append])))
  k_with "ite" => (k_dflt (first | refine ite_pos (by decide +kernel) ?_ | refine ite_neg (by decide +kernel) ?_))
  k_with "And" => ((with_reducible show PySem.Str.length (_ ++ _) ≤ sizeLine ∧ _); refine ⟨Nat.le_of_ble_eq_true (by kernel_rfl!), ?_⟩)
  k_with "exec Assign cons Tuple" => (k_dflt (refine Assign_Tuple ?_))
  k_with "callWith ref" => (k_dflt (refine' callWith_K ?k1 ?k2 ?_; (case k1 => k_asm); (case k2 => k_is); k_whole))
  k_with "truthy bool" => (k_dflt (refine wpAny_truthy_bool ?_))
  k_with "isTrue Compare" => (k_dflt (refine wpAny_isTrue_Compare1 ?_))
  k_with "room" => (k_dflt (first | exact om_s2 (by assumption) (by rfl) | exact om_s1 (by assumption) (by rfl) | exact om_s0 (by assumption)))
  k_with "ne" => with_reducible (first | assumption | exact om_sy (by assumption) | exact Nat.ne_of_gt (by assumption) | exact Nat.ne_of_lt (by assumption) | exact om_n1 (by assumption) | exact om_n2 (by assumption) | exact om_n3 (by assumption) | exact om_z2 (by assumption) | exact om_z3 (by assumption) | exact om_z4 (by assumption) | exact (om_n1 (by assumption)).symm | exact (om_n2 (by assumption)).symm | exact (om_n3 (by assumption)).symm | exact (om_z2 (by assumption)).symm | exact (om_z3 (by assumption)).symm | exact (om_z4 (by assumption)).symm | exact om_n4 (by assumption) | exact om_z5 (by assumption) | exact (om_n4 (by assumption)).symm | exact (om_z5 (by assumption)).symm | exact om_n5 (by assumption) | exact om_z6 (by assumption) | exact (om_n5 (by assumption)).symm | exact (om_z6 (by assumption)).symm | exact om_e1 (by assumption) | exact om_e2 (by assumption) | exact om_e3 (by assumption))
  k_with "om" => with_reducible (first | ((show _ ≠ _); k_extra "ne") | ((show @LT.lt Nat _ (_ + _ + _) _); exact om_s2 (by assumption) (by decide)) | ((show @LT.lt Nat _ (_ + _) _); exact om_s1 (by assumption) (by decide)) | ((show @LT.lt Nat _ _ _); first | assumption | exact om_s0 (by assumption)) | ((show @LE.le Nat _ (_ + 1) _); exact om_succ (by assumption) (by assumption)) | ((show @LE.le Nat _ _ _); first | exact Nat.zero_le _ | assumption | exact om_le (by assumption) (by decide) | exact om_lt_le (by assumption) (by decide) | exact om_eq_le (by assumption) (by assumption) (by decide) | exact om_eq_le' (by assumption) (by assumption) (by decide)) | ((show _ ∧ _); first | exact om_rg (by assumption) (by decide) | exact om_r1 (by assumption) (by decide)))
  k_with "all" => exact fun p9 hp9 => Nat.ne_of_lt (by first | exact l1 p9 hp9 | exact Nat.lt_succ_of_lt (l1 p9 hp9))
  k_with "CompEnd" => (k_dflt (refine LCg.CompEnd.intro (by k_asm) (by k_asm) _ (fun p hp => hp) (by first | assumption | (simp only [LCg.Off3, and_true]; done)) (by first | assumption | exact True.intro | exact Or.inr ⟨_, (by repeat (first | assumption | exact List.mem_cons_self | exact List.mem_append_left _ (by assumption) | exact List.mem_append_right _ (by assumption) | refine List.mem_cons_of_mem _ ?_)), rfl, _, rfl⟩) ?_); (try dsimp only); (try (k_dflt (k_extra "ce"))))
  k_with "call ref" => (k_dflt (refine' and_c ?k1 ?k2 ?k3 ?k4 ?k5 ?k6 ?k7 ?k8  ?_; (case k1 => k_asm); (case k2 => k_asm); (case k3 => k_asm); (case k4 => k_asm); (case k5 => k_asm); (case k6 => first | exact rfl | assumption); (case k7 => ktr_room); (case k8 => ktr_units); intro t9 h9 tk9 F9 N9; (try dsimp only); (try k_fold)))
  k_with "call ref" => (k_dflt (refine' lshift_c ?k1 ?k2 ?k3 ?k4 ?k5 ?k6 ?k7 ?k8 ?x1 ?x2 ?_; (case k1 => k_asm); (case k2 => k_asm); (case k3 => k_asm); (case k4 => k_asm); (case k5 => k_asm); (case k6 => first | exact rfl | assumption); (case k7 => ktr_room); (case k8 => ktr_units); (case x1 => omega); (case x2 => omega); intro t9 h9 tk9 F9 N9; (try dsimp only); (try k_fold)))
  k_with "CompRestT" => (refine compT_all (n := 3) (sgT mask) (fun i y => ∃ t, y = .str (sgI i) t) ?_ ?_; (rotate_left; (intro ys' hys'; replace hys' : StrsAre ys' (sgL mask) := by unfold sgL; exact strs_of hys'); rotate_left); (intro i' v' I' oI' C' oC' D' m' ys' h' tk' E' hi' hv' hC' hx' F' N' off' ne'; (obtain ⟨t9', hv9'⟩ := hv'; subst hv9'); (try simp only [LCg.Off3, and_true] at off')))
  k_with "call builtin:str.join" => (refine join_list (isl (by k_asm) (by k_mem)) (by assumption) (sg_len hm) ?_; intro t9' k9')
  k_with "ce" => exact ⟨rfl, by unfold sgT; exact decide_eq_true (by assumption), ⟨_, by unfold sgI; rfl⟩⟩
  k_with "ce" => exact ⟨rfl, by unfold sgT; exact decide_eq_false (fun hn => hn (by assumption))⟩
  refine wpAny_call ?_
  k_dflt (refine' code_defC ?k1 ?k2 ?k3 ?k4 ?k5 ?kA ?kF ?kK ?k6 ?k7 ?k8 ?k9 ?kB ?kD ?_ ?c2 ?c3 ?c4; (case kA => exact rfl); (case kF => exact rfl); (case kK => assumption); (case k1 => k_asm); (case k2 => k_asm); (case k3 => k_asm); (case k4 => k_asm); (case k5 => k_asm); (case k6 => k_is); (case k7 => k_is); (case k8 => ktr_room); (case k9 => exact BindsTo.of_eq rfl); (case kB => exact rfl); (case kD => decide +kernel); (case c2 => exact rfl); (case c3 => exact rfl); (case c4 => exact rfl); k_whole; intro g' L' h' tk' cells' FG' F' N' Y' B' X' T' l1; (try k_lt l1); k_cells Y'; (try simp only [List.cons_append, List.nil_append] at N'); (try dsimp only); (try k_lift B'); (try k_fold))
  k_steps
  all_goals (refine' cb_retS ret ?e1 ?e2 ?e3; (case e2 => k_asm); (case e3 => first | k_asm | (exact Kept.back (by assumption) (by assumption) (by assumption) (by intro p9 hp9; repeat (first | exact hp9 | refine List.mem_cons_of_mem _ ?_))) | (refine' cb_drop ?cbN ?cbS; (case cbN => assumption); (case cbS => (intro p9 hp9; repeat (first | exact hp9 | refine List.mem_cons_of_mem _ ?_))))); (case e1 => (unfold sgF; rfl)))
end
set_option Elab.async false
set_option maxRecDepth 100000
set_option maxHeartbeats 5000000
section
variable {w : World} {o : OsState} {mean : ExcName → Option Value} {loose : List Str} {mg mb : Str → Option Value} {dp un : Nat} {gd : Option (List Code)} {cn : Str} {cs : Scope} {a : Addr} {ccd : Value} {cl : List (Str × Addr)} {outer : List Env} {A₀ : Around} {base h₀ : Heap} {L : Addr} {m : Str → Option Value} {news : List (Addr × Obj)} {s : Shared} {Q E : Value → Shared → Prop}
theorem item_c (B : Below A₀ base outer h₀) (F : Fr h₀ L s.heap m) (X : (KF w.params).In h₀) (N : News h₀ L s.heap news) (T : Top topProg loose mean mg mb h₀) (hk : cs.kind = .function) (hd : dp + 3 < recursionLimit) (hu : un + 24 < cLine) {t u : Tok} {mask kind : Int} (hm : 1 ≤ mask ∧ mask ≤ 7) (hk2 : 0 ≤ kind ∧ kind ≤ 1)
  (ret : ∀ t h' tk', Fr h₀ L h' m → News h₀ L h' news → Q (.str (itF mask kind) t) { s with heap := h', toks := tk' }) :
  wpAny (model (OpenLaw.row PySem.Challenge.rw_in0163_01).toRowW.prog w) (ktrTop dp un gd cn cs L a ccd cl outer) (call (.ref 144) [.int mask t, .int kind u]) Q E s := by
  revert X; k_fill; intro X
  k_with_none
  k_with "execs cons" => ((k_dflt (refine wpAny_execs_cons ?_)); (try dsimp only))
  k_with "execs nil" => (k_dflt (refine wpAny_execs_nil ?_))
  k_with "exec If" => (k_dflt (refine wpAny_If ?_))
  k_with "exec Assign" => (k_dflt (refine wpAny_Assign_Name ?_))
  k_with "eval Name" => (k_dflt (refine' nameX_L ?F ?v ?_ ?a ?b ?d; (case F => k_asm); (case a => rfl); (case b => kernel_rfl!); (case d => kernel_rfl); (case v => first | rfl | assumption); k_whole))
  k_with "storeName" => (k_dflt (refine' storeX_L ?F ?N ?_ ?a ?b; (case F => k_asm); (case N => k_asm); (case a => rfl); (case b => rfl); k_whole; intro hS7 FS7 NS7; (try k_sweep)))
  k_with "spliced" => (k_dflt (first | refine args_cons ?_ | (refine args_nil ?_; try simp only [List.cons_append, List.nil_append])))
  k_with "ite" => (k_dflt (first | refine ite_pos (by decide +kernel) ?_ | refine ite_neg (by decide +kernel) ?_))
  k_with "And" => ((with_reducible show PySem.Str.length (_ ++ _) ≤ sizeLine ∧ _); refine ⟨Nat.le_of_ble_eq_true (by kernel_rfl!), ?_⟩)
  k_with "exec Assign cons Tuple" => (k_dflt (refine Assign_Tuple ?_))
  k_with "callWith ref" => (k_dflt (refine' callWith_K ?k1 ?k2 ?_; (case k1 => k_asm); (case k2 => k_is); k_whole))
  k_with "truthy bool" => (k_dflt (refine wpAny_truthy_bool ?_))
  k_with "isTrue Compare" => (k_dflt (refine wpAny_isTrue_Compare1 ?_))
  k_with "room" => (k_dflt (first | exact om_s2 (by assumption) (by rfl) | exact om_s1 (by assumption) (by rfl) | exact om_s0 (by assumption)))
  k_with "ne" => with_reducible (first | assumption | exact om_sy (by assumption) | exact Nat.ne_of_gt (by assumption) | exact Nat.ne_of_lt (by assumption) | exact om_n1 (by assumption) | exact om_n2 (by assumption) | exact om_n3 (by assumption) | exact om_z2 (by assumption) | exact om_z3 (by assumption) | exact om_z4 (by assumption) | exact (om_n1 (by assumption)).symm | exact (om_n2 (by assumption)).symm | exact (om_n3 (by assumption)).symm | exact (om_z2 (by assumption)).symm | exact (om_z3 (by assumption)).symm | exact (om_z4 (by assumption)).symm | exact om_n4 (by assumption) | exact om_z5 (by assumption) | exact (om_n4 (by assumption)).symm | exact (om_z5 (by assumption)).symm | exact om_n5 (by assumption) | exact om_z6 (by assumption) | exact (om_n5 (by assumption)).symm | exact (om_z6 (by assumption)).symm | exact om_e1 (by assumption) | exact om_e2 (by assumption) | exact om_e3 (by assumption))
  k_with "om" => with_reducible (first | ((show _ ≠ _); k_extra "ne") | ((show @LT.lt Nat _ (_ + _ + _) _); exact om_s2 (by assumption) (by decide)) | ((show @LT.lt Nat _ (_ + _) _); exact om_s1 (by assumption) (by decide)) | ((show @LT.lt Nat _ _ _); first | assumption | exact om_s0 (by assumption)) | ((show @LE.le Nat _ (_ + 1) _); exact om_succ (by assumption) (by assumption)) | ((show @LE.le Nat _ _ _); first | exact Nat.zero_le _ | assumption | exact om_le (by assumption) (by decide) | exact om_lt_le (by assumption) (by decide) | exact om_eq_le (by assumption) (by assumption) (by decide) | exact om_eq_le' (by assumption) (by assumption) (by decide)) | ((show _ ∧ _); first | exact om_rg (by assumption) (by decide) | exact om_r1 (by assumption) (by decide)))
  k_with "all" => exact fun p9 hp9 => Nat.ne_of_lt (by first | exact l1 p9 hp9 | exact Nat.lt_succ_of_lt (l1 p9 hp9))
  have h1 := sg_le (mask := mask) (by omega)
  have h2 := sg_le (mask := 7 - mask) (by omega)
  k_with "call ref" => (k_dflt (refine' signs_c ?k1 ?k2 ?k3 ?k4 ?k5 ?k6 ?k7 ?k8 ?x1 ?_; (case k1 => k_asm); (case k2 => k_asm); (case k3 => k_asm); (case k4 => k_asm); (case k5 => k_asm); (case k6 => first | exact rfl | assumption); (case k7 => ktr_room); (case k8 => ktr_units); (case x1 => omega); intro t9 h9 tk9 F9 N9; (try dsimp only); (try k_fold)))
  k_with "call ref" => (k_dflt (refine' sub_c ?k1 ?k2 ?k3 ?k4 ?k5 ?k6 ?k7 ?k8  ?_; (case k1 => k_asm); (case k2 => k_asm); (case k3 => k_asm); (case k4 => k_asm); (case k5 => k_asm); (case k6 => first | exact rfl | assumption); (case k7 => ktr_room); (case k8 => ktr_units); intro t9 h9 tk9 F9 N9; (try dsimp only); (try k_fold)))
  refine wpAny_call ?_
  k_dflt cell_enter
  k_steps
  all_goals (refine' cb_retS ret ?e1 ?e2 ?e3; (case e2 => k_asm); (case e3 => first | k_asm | (exact Kept.back (by assumption) (by assumption) (by assumption) (by intro p9 hp9; repeat (first | exact hp9 | refine List.mem_cons_of_mem _ ?_))) | (refine' cb_drop ?cbN ?cbS; (case cbN => assumption); (case cbS => (intro p9 hp9; repeat (first | exact hp9 | refine List.mem_cons_of_mem _ ?_))))); (case e1 => (first | ((with_reducible refine it1 ?_ ?_) <;> with_reducible assumption) | ((with_reducible refine it2 ?_ ?_) <;> with_reducible assumption) | ((with_reducible refine it3 ?_ ?_) <;> with_reducible assumption) | ((with_reducible refine it4 ?_ ?_ ?_) <;> with_reducible assumption) | ((with_reducible refine it5 ?_ ?_ ?_) <;> with_reducible assumption))))
end
set_option Elab.async false
set_option maxRecDepth 100000
set_option maxHeartbeats 5000000
section
variable {w : World} {o : OsState} {mean : ExcName → Option Value} {loose : List Str} {mg mb : Str → Option Value} {dp un : Nat} {gd : Option (List Code)} {cn : Str} {cs : Scope} {a : Addr} {ccd : Value} {cl : List (Str × Addr)} {outer : List Env} {A₀ : Around} {base h₀ : Heap} {L : Addr} {m : Str → Option Value} {news : List (Addr × Obj)} {s : Shared} {Q E : Value → Shared → Prop}
theorem takes_c (B : Below A₀ base outer h₀) (F : Fr h₀ L s.heap m) (X : (KF w.params).In h₀) (N : News h₀ L s.heap news) (T : Top topProg loose mean mg mb h₀) (hk : cs.kind = .function) (hd : dp + 2 < recursionLimit) (hu : un + 16 < cLine) {r : Addr} {t : Tok} {nm : Str} {vs : List Value} {nn : Nat} {rs : List Str} (hr : (r, listOf vs.toArray nn) ∈ news) (hs : StrsAre vs rs) (hl : rs.length ≤ 3) (hn : nm.length ≤ 3)
  (ret : ∀ (_ : Tok) h' tk', Fr h₀ L h' m → News h₀ L h' news → Q (.bool (tkF rs nm)) { s with heap := h', toks := tk' }) :
  wpAny (model (OpenLaw.row PySem.Challenge.rw_in0163_01).toRowW.prog w) (ktrTop dp un gd cn cs L a ccd cl outer) (call (.ref 175) [.ref r, .str nm t]) Q E s := by
  revert X; k_fill; intro X
  k_with_none
  k_with "execs cons" => ((k_dflt (refine wpAny_execs_cons ?_)); (try dsimp only))
  k_with "execs nil" => (k_dflt (refine wpAny_execs_nil ?_))
  k_with "exec If" => (k_dflt (refine wpAny_If ?_))
  k_with "exec Assign" => (k_dflt (refine wpAny_Assign_Name ?_))
  k_with "eval Name" => (k_dflt (refine' nameX_L ?F ?v ?_ ?a ?b ?d; (case F => k_asm); (case a => rfl); (case b => kernel_rfl!); (case d => kernel_rfl); (case v => first | rfl | assumption); k_whole))
  k_with "storeName" => (k_dflt (refine' storeX_L ?F ?N ?_ ?a ?b; (case F => k_asm); (case N => k_asm); (case a => rfl); (case b => rfl); k_whole; intro hS7 FS7 NS7; (try k_sweep)))
  k_with "spliced" => (k_dflt (first | refine args_cons ?_ | (refine args_nil ?_; try simp only [List.cons_append, List.nil_append])))
  k_with "ite" => (k_dflt (first | refine ite_pos (by decide +kernel) ?_ | refine ite_neg (by decide +kernel) ?_))
  k_with "And" => ((with_reducible show PySem.Str.length (_ ++ _) ≤ sizeLine ∧ _); refine ⟨Nat.le_of_ble_eq_true (by kernel_rfl!), ?_⟩)
  k_with "exec Assign cons Tuple" => (k_dflt (refine Assign_Tuple ?_))
  k_with "callWith ref" => (k_dflt (refine' callWith_K ?k1 ?k2 ?_; (case k1 => k_asm); (case k2 => k_is); k_whole))
  k_with "truthy bool" => (k_dflt (refine wpAny_truthy_bool ?_))
  k_with "isTrue Compare" => (k_dflt (refine wpAny_isTrue_Compare1 ?_))
  k_with "room" => (k_dflt (first | exact om_s2 (by assumption) (by rfl) | exact om_s1 (by assumption) (by rfl) | exact om_s0 (by assumption)))
  k_with "ne" => with_reducible (first | assumption | exact om_sy (by assumption) | exact Nat.ne_of_gt (by assumption) | exact Nat.ne_of_lt (by assumption) | exact om_n1 (by assumption) | exact om_n2 (by assumption) | exact om_n3 (by assumption) | exact om_z2 (by assumption) | exact om_z3 (by assumption) | exact om_z4 (by assumption) | exact (om_n1 (by assumption)).symm | exact (om_n2 (by assumption)).symm | exact (om_n3 (by assumption)).symm | exact (om_z2 (by assumption)).symm | exact (om_z3 (by assumption)).symm | exact (om_z4 (by assumption)).symm | exact om_n4 (by assumption) | exact om_z5 (by assumption) | exact (om_n4 (by assumption)).symm | exact (om_z5 (by assumption)).symm | exact om_n5 (by assumption) | exact om_z6 (by assumption) | exact (om_n5 (by assumption)).symm | exact (om_z6 (by assumption)).symm | exact om_e1 (by assumption) | exact om_e2 (by assumption) | exact om_e3 (by assumption))
  k_with "om" => with_reducible (first | ((show _ ≠ _); k_extra "ne") | ((show @LT.lt Nat _ (_ + _ + _) _); exact om_s2 (by assumption) (by decide)) | ((show @LT.lt Nat _ (_ + _) _); exact om_s1 (by assumption) (by decide)) | ((show @LT.lt Nat _ _ _); first | assumption | exact om_s0 (by assumption)) | ((show @LE.le Nat _ (_ + 1) _); exact om_succ (by assumption) (by assumption)) | ((show @LE.le Nat _ _ _); first | exact Nat.zero_le _ | assumption | exact om_le (by assumption) (by decide) | exact om_lt_le (by assumption) (by decide) | exact om_eq_le (by assumption) (by assumption) (by decide) | exact om_eq_le' (by assumption) (by assumption) (by decide)) | ((show _ ∧ _); first | exact om_rg (by assumption) (by decide) | exact om_r1 (by assumption) (by decide)))
  k_with "all" => exact fun p9 hp9 => Nat.ne_of_lt (by first | exact l1 p9 hp9 | exact Nat.lt_succ_of_lt (l1 p9 hp9))
  have hvl : vs.toArray.size = rs.length := by rw [List.size_toArray]; exact hs.length
  k_with "pyIter str" => k_state (fun pre d => d = tkN rs pre ∧ 0 ≤ d ∧ d ≤ (rs.length : Int)) "done"
  k_with "call builtin:len" => (refine len_l (by k_asm) (by k_mem) hvl (by omega) ?_; intro t9' k9')
  k_with "subscriptTail" => (k_dflt (refine item_ls (by k_asm) (by k_mem) hs (by omega) (by omega) (by omega) ?_; intro t9'))
  k_with "state" => first | exact tk0 | exact tk1 (by assumption) (by assumption) (by assumption) (by assumption) | exact tk2 (by assumption) (by assumption) (by assumption) (by assumption) | exact tk3 (by assumption) (by assumption) (by assumption) (by assumption)
  refine wpAny_call ?_
  k_dflt cell_enter
  k_steps
  all_goals (refine' cb_retB ret ?e1 ?e2 ?e3; (case e2 => k_asm); (case e3 => first | k_asm | (exact Kept.back (by assumption) (by assumption) (by assumption) (by intro p9 hp9; repeat (first | exact hp9 | refine List.mem_cons_of_mem _ ?_))) | (refine' cb_drop ?cbN ?cbS; (case cbN => assumption); (case cbS => (intro p9 hp9; repeat (first | exact hp9 | refine List.mem_cons_of_mem _ ?_))))); (case e1 => (unfold tkF; exact congrArg (fun z => z == _) (by assumption))))
end
set_option Elab.async false
set_option maxRecDepth 100000
set_option maxHeartbeats 5000000
section
variable {w : World} {o : OsState} {mean : ExcName → Option Value} {loose : List Str} {mg mb : Str → Option Value} {dp un : Nat} {gd : Option (List Code)} {cn : Str} {cs : Scope} {a : Addr} {ccd : Value} {cl : List (Str × Addr)} {outer : List Env} {A₀ : Around} {base h₀ : Heap} {L : Addr} {m : Str → Option Value} {news : List (Addr × Obj)} {s : Shared} {Q E : Value → Shared → Prop}
theorem esc_c (B : Below A₀ base outer h₀) (F : Fr h₀ L s.heap m) (X : (KF w.params).In h₀) (N : News h₀ L s.heap news) (T : Top topProg loose mean mg mb h₀) (hk : cs.kind = .function) (hd : dp + 1 < recursionLimit) (hu : un + 16 < cLine) {x : Str} {t : Tok} (hx : x = Str.ofString "a" ∨ x = Str.ofString "b" ∨ x = Str.ofString "c")
  (ret : ∀ t h' tk', Fr h₀ L h' m → News h₀ L h' news → Q (.str x t) { s with heap := h', toks := tk' }) :
  wpAny (model (OpenLaw.row PySem.Challenge.rw_in0163_01).toRowW.prog w) (ktrTop dp un gd cn cs L a ccd cl outer) (call (.ref 111) [.str x t]) Q E s := by
  revert X; k_fill; intro X
  k_with_none
  k_with "execs cons" => ((k_dflt (refine wpAny_execs_cons ?_)); (try dsimp only))
  k_with "execs nil" => (k_dflt (refine wpAny_execs_nil ?_))
  k_with "exec If" => (k_dflt (refine wpAny_If ?_))
  k_with "exec Assign" => (k_dflt (refine wpAny_Assign_Name ?_))
  k_with "eval Name" => (k_dflt (refine' nameX_L ?F ?v ?_ ?a ?b ?d; (case F => k_asm); (case a => rfl); (case b => kernel_rfl!); (case d => kernel_rfl); (case v => first | rfl | assumption); k_whole))
  k_with "storeName" => (k_dflt (refine' storeX_L ?F ?N ?_ ?a ?b; (case F => k_asm); (case N => k_asm); (case a => rfl); (case b => rfl); k_whole; intro hS7 FS7 NS7; (try k_sweep)))
  k_with "spliced" => (k_dflt (first | refine args_cons ?_ | (refine args_nil ?_; try simp only [List.cons_append, List.nil_append])))
  k_with "ite" => (k_dflt (first | refine ite_pos (by decide +kernel) ?_ | refine ite_neg (by decide +kernel) ?_))
  k_with "And" => ((with_reducible show PySem.Str.length (_ ++ _) ≤ sizeLine ∧ _); refine ⟨Nat.le_of_ble_eq_true (by kernel_rfl!), ?_⟩)
  k_with "exec Assign cons Tuple" => (k_dflt (refine Assign_Tuple ?_))
  k_with "callWith ref" => (k_dflt (refine' callWith_K ?k1 ?k2 ?_; (case k1 => k_asm); (case k2 => k_is); k_whole))
  k_with "truthy bool" => (k_dflt (refine wpAny_truthy_bool ?_))
  k_with "isTrue Compare" => (k_dflt (refine wpAny_isTrue_Compare1 ?_))
  k_with "room" => (k_dflt (first | exact om_s2 (by assumption) (by rfl) | exact om_s1 (by assumption) (by rfl) | exact om_s0 (by assumption)))
  k_with "ne" => with_reducible (first | assumption | exact om_sy (by assumption) | exact Nat.ne_of_gt (by assumption) | exact Nat.ne_of_lt (by assumption) | exact om_n1 (by assumption) | exact om_n2 (by assumption) | exact om_n3 (by assumption) | exact om_z2 (by assumption) | exact om_z3 (by assumption) | exact om_z4 (by assumption) | exact (om_n1 (by assumption)).symm | exact (om_n2 (by assumption)).symm | exact (om_n3 (by assumption)).symm | exact (om_z2 (by assumption)).symm | exact (om_z3 (by assumption)).symm | exact (om_z4 (by assumption)).symm | exact om_n4 (by assumption) | exact om_z5 (by assumption) | exact (om_n4 (by assumption)).symm | exact (om_z5 (by assumption)).symm | exact om_n5 (by assumption) | exact om_z6 (by assumption) | exact (om_n5 (by assumption)).symm | exact (om_z6 (by assumption)).symm | exact om_e1 (by assumption) | exact om_e2 (by assumption) | exact om_e3 (by assumption))
  k_with "om" => with_reducible (first | ((show _ ≠ _); k_extra "ne") | ((show @LT.lt Nat _ (_ + _ + _) _); exact om_s2 (by assumption) (by decide)) | ((show @LT.lt Nat _ (_ + _) _); exact om_s1 (by assumption) (by decide)) | ((show @LT.lt Nat _ _ _); first | assumption | exact om_s0 (by assumption)) | ((show @LE.le Nat _ (_ + 1) _); exact om_succ (by assumption) (by assumption)) | ((show @LE.le Nat _ _ _); first | exact Nat.zero_le _ | assumption | exact om_le (by assumption) (by decide) | exact om_lt_le (by assumption) (by decide) | exact om_eq_le (by assumption) (by assumption) (by decide) | exact om_eq_le' (by assumption) (by assumption) (by decide)) | ((show _ ∧ _); first | exact om_rg (by assumption) (by decide) | exact om_r1 (by assumption) (by decide)))
  k_with "all" => exact fun p9 hp9 => Nat.ne_of_lt (by first | exact l1 p9 hp9 | exact Nat.lt_succ_of_lt (l1 p9 hp9))
  have hx' : ∃ c, x = ⟨#[c]⟩ ∧ (c = 97 ∨ c = 98 ∨ c = 99) := by rcases hx with rfl | rfl | rfl <;> exact ⟨_, rfl, by decide⟩
  obtain ⟨c, hx1, hc⟩ := hx'
  k_with "getMethod str" => (refine gm_translate ?_)
  k_with "call builtin:str.translate" => (k_dflt (refine trans_K (by k_asm) (by k_asm) (by assumption) (by rfl) hx1 hc ?_); intro h8' t8' k8' F8' N8')
  refine wpAny_call ?_
  k_dflt cell_enter
  k_steps
  all_goals first | (refine' cb_retS ret ?e1 ?e2 ?e3; (case e2 => k_asm); (case e3 => first | k_asm | (exact Kept.back (by assumption) (by assumption) (by assumption) (by intro p9 hp9; repeat (first | exact hp9 | refine List.mem_cons_of_mem _ ?_))) | (refine' cb_drop ?cbN ?cbS; (case cbN => assumption); (case cbS => (intro p9 hp9; repeat (first | exact hp9 | refine List.mem_cons_of_mem _ ?_))))); (case e1 => rfl))
end
set_option maxRecDepth 100000
set_option maxHeartbeats 2000000
set_option Elab.async false
noncomputable abbrev Bare (o : OsState) (s : Shared) : Prop := AllBare s.gens ∧ s.os = o
theorem isCode_of {h : Heap} {c P : Addr} {ps : Array Value} (C : CodeHd h c P) (hP : h.get? P = some (tabObj ps)) (ht : TriplesOk ps.toList) : h.IsCode c P ps := by
  obtain ⟨o, vs, file, tf, flags, tg, inF, text, tt, ho, _, hd, _, h11, h18, h7, h9, h10, hne⟩ := C
  exact ⟨o, vs, file, tf, flags, tg, inF, text, tt, _, ho, hd, h11, h18, h7, h9, h10, hP, rfl, ht, hne⟩
section
variable {M : Model} {A : Around} {E : Value → Shared → Prop} {s : Shared} {c P : Addr} {ps : Array Value} {env : Env} {pos : Pos} {qualname : Str} {scope : Scope}
theorem genexprCode_K {Q : Value → Shared → Prop} (hc : env.code = .ref c) (C : CodeHd s.heap c P) (hP : s.heap.get? P = some (tabObj ps)) (ht : TabOk ps)
    (hQ : ∀ code h' tk ps', Heap.ExtBut P s.heap h' → s.heap.objs.size ≤ h'.objs.size → h'.get? P = some (tabObj ps') → TabOk ps' → Q code { s with heap := h', toks := tk }) :
    wpAny M A (genexprCode env pos qualname scope) Q E s := by
  obtain ⟨o, vs, file, tf, flags, tg, inF, text, tt, op, ho, hd, h11, h2, h7, h9, h10, hop, hpd, htr, hne⟩ := isCode_of C hP ht.1
  rw [hP] at hop
  cases hop
  unfold genexprCode codeAt
  rw [hc, if_neg (show ¬ ((Value.ref c == Value.none) = true) from Bool.false_ne_true)]
  refine wpAny_bind (wpAny_fieldsOf ho hd ?_)
  rw [h11]
  refine wpAny_bind (wpAny_fieldsOf hP hpd ?_)
  cases hnf : codeAmong pos ps.toList with
  | some cv => exact wpAny_pure (hQ cv s.heap s.toks ps (Heap.ExtBut.refl _ _) (Nat.le_refl _) hP ht)
  | none =>
    rw [h2, h7, h9, h10]
    refine wpAny_bind (wpAny_newCode fun c' P' h' tk hk hc' hP' hcode' hrec' => ?_)
    have hop' := hk _ _ hP
    refine wpAny_bind (wpAny_updateFieldsOfTheText hop' hpd ?_)
    have hnew : (Obj.mapFields (fun vs => if (codeAmong pos vs.toList).isSome = true then vs else vs ++ #[rawInt pos.line, rawInt pos.col, .ref c']) (tabObj ps)) = tabObj (ps ++ #[rawInt pos.line, rawInt pos.col, .ref c']) := by
      simp only [Obj.mapFields, hnf, Option.isSome_none, Bool.false_eq_true, if_false]
    have hget := Heap.get?_update_self (h := h') (fun o => Obj.mapFields (fun vs => if (codeAmong pos vs.toList).isSome = true then vs else
      vs ++ #[rawInt pos.line, rawInt pos.col, .ref c']) o) hop' (by rw [hnew]; rfl)
    rw [hnew] at hget
    refine wpAny_bind (wpAny_fieldsOf hget rfl ?_)
    have hl : (ps ++ #[rawInt pos.line, rawInt pos.col, Value.ref c']).toList = ps.toList ++ [rawInt pos.line, rawInt pos.col, .ref c'] := by simp
    rw [hl, codeAmong_snoc _ htr hnf]
    refine wpAny_pure (hQ _ _ _ (ps ++ #[rawInt pos.line, rawInt pos.col, .ref c']) (fun b o' hb e => ((Heap.SameBut.update ..).extBut b o' hb (hk b o' e))) ?_ hget (tab_snoc ht _ _ _ _ _))
    have h2' : (h'.update P (fun o => Obj.mapFields (fun vs => if (codeAmong pos vs.toList).isSome = true then vs else vs ++ #[rawInt pos.line, rawInt pos.col, .ref c']) o)).objs.size = h'.objs.size := (Heap.SameBut.update ..).1
    rw [h2']
    exact Nat.le_of_lt (Nat.lt_of_le_of_lt hc' hcode'.lt.1)
end
section
variable {o : OsState} {prog : Program} {w : World} {A : Around} {E : Value → Shared → Prop} {s : Shared} {h₀ : Heap} {L c P D : Addr} {m mg mb : Str → Option Value} {news : List (Addr × Obj)} {g : Obj → List (Addr × Obj)}
  {p : Program} {loose : List Str} {mean : ExcName → Option Value} {ps : Array Value} {pos : Pos} {env : Env} {elt iter : Expr} {x : Str} {px : Pos} {scope : Scope} {cl : List (Str × Addr)} {vs : List Value} {ts : List Str} {n : Nat}
theorem genexp_K {Q : Value → Shared → Prop} (F : Fr h₀ L s.heap m) (N : News h₀ L s.heap news) (T : Top p loose mean mg mb h₀) (C : CodeHd h₀ c P) (hcode : env.code = .ref c) (U : UpdF P (tabObj ps) news g) (ht : TabOk ps) (hG : Bare o s)
    (hm : (D, listOf vs.toArray n) ∈ news) (hs : StrsAre vs ts) (hge : env.globals = mainGlobals)
    (hh : A.handled = none) (hco : scope.isCoroutine = false) (hclos : closureFor scope env = pure cl) (hcell : ∀ y ∈ scope.names, y.2 ≠ .cell) (h0 : scope.names.lookup (".0" : Str) = some NameKind.local)
    (hx : scope.names.lookup x = some .local) (hkind : scope.kind = .function) (hroom : A.depth < recursionLimit)
    (hiter : wpAny (model prog w) A (eval iter env) (fun v s₁ => v = .ref D ∧ s₁ = s) E s)
    (helt : ∀ (C : Addr) (code : Value) (A' : Around) E' (a : Str) (t : Tok) (s₂ : Shared) m₂, a ∈ ts → s₂.heap.Ns (genEnv scope cl C code builtinsNs env).locals m₂ → m₂ x = some (.str a t) →
      wpAny (model prog w) A' (eval elt (genEnv scope cl C code builtinsNs env)) (fun y s₃ => (∃ t', y = .str a t') ∧ Keeps s₂ s₃) E' s₂)
    (hQ : ∀ a s₅ ps' K, Fr h₀ L s₅.heap m → News h₀ L s₅.heap (g (tabObj ps')) → TabOk ps' → Bare o s₅ → Gen prog w A K a (passOnS ts fun _ => true).length (fun j y => ∃ i, (passOnS ts fun _ => true)[j]? = some i ∧ ∃ t', y = .str (ts.getD i "") t') s₅ →
      L ≤ K → (∀ q ∈ g (tabObj ps'), q.1 ≤ K) → h₀.objs.size ≤ K + 1 → Q (.ref a) s₅)
    (hf : ∀ x, genFold iter env x = pure x) :
    wpAny (model prog w) A (eval (.GeneratorExp elt [⟨.Name x px, iter, [], 0⟩] scope pos) env) Q E s := by
  obtain ⟨own, rest, hne, hgr, h1, h2⟩ := U.split
  have hmP := N (P, tabObj ps) (by rw [hne]; exact List.mem_append_right _ (.head _))
  have hgs := T.g.keeps F.keep
  obtain ⟨bm, ob, b1, b2, b3, b4, b5, b6⟩ := T.bmain
  have hgP : mainGlobals ≠ P := fun q => by
    obtain ⟨o, es, ep, e, hd, _⟩ := hgs
    rw [q, hmP.1] at e; cases e; cases hd
  have hbP : bm ≠ P := fun q => by
    have e := F.keep _ _ b3
    rw [q, hmP.1] at e; cases e; cases b4
  have hl : s.heap.IsList D vs.toArray := isl N hm
  have hlt : D < s.heap.objs.size := Heap.lt_size (N _ hm).1
  have hPlt : P < s.heap.objs.size := Heap.lt_size hmP.1
  have hDP : D ≠ P := fun e => by
    obtain ⟨o, ho, hc, _⟩ := hl
    rw [e, hmP.1] at ho; cases ho; exact absurd hc (by simp)
  have hlim : s.heap.NoLimit := T.nolimit.keeps F.keep
  have hcP : cStatics ≠ P := fun e => by
    obtain ⟨_, hns, _⟩ := hlim
    obtain ⟨o, es, ep, ho, hd, _⟩ := hns
    rw [e, hmP.1] at ho; cases ho; cases hd
  have hclt : cStatics < s.heap.objs.size := let ⟨_, hn, _⟩ := hlim; hn.lt
  have hLlt : L < s.heap.objs.size := F.ns.lt
  refine wpAny_GeneratorExp_walksQ hh hco hclos hcell h0 hx hkind hroom (wpAny_mono hiter (fun xv s₁ h₁ => ?_) fun _ _ e => e) hf
  obtain ⟨rfl, rfl⟩ := h₁
  refine wpAny_pyIter_list hl ?_
  have up : ∀ b o, s₁.heap.get? b = some o → (s₁.heap.push { cls := .type "list_iterator", data := .fields #[.ref D, .int 0 0] }).get? b = some o := fun b o e => Heap.get?_push_of_some _ e
  have e2 : (s₁.heap.push { cls := .type "list_iterator", data := .fields #[.ref D, .int 0 0] }).objs.size = s₁.heap.objs.size + 1 := Heap.size_push ..
  have hit : (s₁.heap.push { cls := .type "list_iterator", data := .fields #[.ref D, .int 0 0] }).IsListIter s₁.heap.objs.size D 0 := ⟨_, Heap.get?_push_size _ rfl, rfl, rfl⟩
  refine ⟨hlim.push _, genexprCode_K hcode (C.keeps fun b o e => up b o (F.keep b o e)) (up _ _ hmP.1) ht fun code h₃ tk₃ ps' hx₃ hsz hP₃ ht' => ?_⟩
  replace hsz : (s₁.heap.push { cls := .type "list_iterator", data := .fields #[.ref D, .int 0 0] }).objs.size ≤ h₃.objs.size := hsz
  rw [e2] at hsz
  have hl₃ : h₃.NoLimit := (hlim.push _).extBut hx₃ hcP
  have old : ∀ b o, b ≠ P → s₁.heap.get? b = some o → h₃.get? b = some o := fun b o hb e => hx₃ b o hb (up b o e)
  have hns₃ : h₃.Ns mainGlobals mg := by
    obtain ⟨o, es, ep, e, r⟩ := hgs
    exact ⟨o, es, ep, old _ _ hgP e, r⟩
  rw [hge]
  refine wpAny_builtinsFor hns₃ b1 b2 (old _ _ hbP (F.keep _ _ b3)) b4 b5 b6 ?_
  refine ⟨s₁.heap.objs.size, [s₁.heap.objs.size, D], [s₁.heap.objs.size], vs.toArray.size, (fun i v => vs.toArray[i]? = some v), _, (fun _ => true), (fun i y => ∃ t', y = .str (ts.getD i "") t'), rfl, (fun A' hA => Walks.list hA _ _ (Nat.ne_of_lt hlt) vs.toArray),
    (Walks.list (prog := prog) (w := w) hh _ _ (Nat.ne_of_lt hlt) vs.toArray).frame _ _ _ ⟨hit, hl.push _⟩ (fun b hb o e => hx₃ b o (fun e' => ?_) e), ?_, hl₃, ?_, ?_, ?_⟩
  · rcases List.mem_cons.mp hb with rfl | hb
    · exact Nat.lt_irrefl _ (e' ▸ hPlt)
    · rcases List.mem_cons.mp hb with rfl | hb
      · exact hDP e'
      · cases hb
  · intro b hb
    show b < h₃.objs.size
    rcases List.mem_cons.mp hb with rfl | hb
    · exact hsz
    · rcases List.mem_cons.mp hb with rfl | hb
      · exact Nat.lt_trans hlt hsz
      · cases hb
  · intro hb
    exact Nat.ne_of_lt hclt (List.mem_singleton.mp hb)
  · intro href hk
    refine ⟨fun A' E' i v s₂ m₂ hA hP hn hm₂ hk₂ => wpAny_pure ⟨rfl, _, _, rfl, fun _ _ e => e⟩, fun A' E' i v s₂ m₂ hA hP _ hn hm₂ hk₂ => ?_⟩
    obtain ⟨z, t, rfl, hz⟩ := hs.item i v (by simpa using hP)
    refine wpAny_mono (helt _ code A' E' z t s₂ m₂ (List.mem_of_getElem? hz) hn hm₂) (fun y s₃ hy => ⟨?_, hy.2⟩) fun _ _ e => e
    rw [getD_some hz]
    exact hy.1
  · intro a h₅ tk gs hgb hag hsz₅ hk₅ W hat
    have hn : vs.toArray.size = ts.length := by rw [List.size_toArray]; exact hs.length
    have keep : ∀ b o, b ≠ P → s₁.heap.get? b = some o → h₅.get? b = some o := fun b o hb e => hk₅ b o (old b o hb e)
    have hP0 : h₀.get? P = none := hmP.2.2
    have hK : s₁.heap.objs.size - 1 + 1 = s₁.heap.objs.size := Nat.succ_pred_eq_of_pos (Nat.lt_of_le_of_lt (Nat.zero_le _) hLlt)
    have le : ∀ b : Addr, b < s₁.heap.objs.size → b ≤ s₁.heap.objs.size - 1 := fun b hb => Nat.le_of_lt_succ (hK.symm ▸ hb)
    rw [hn] at W hat
    refine hQ a _ ps' (s₁.heap.objs.size - 1) ⟨?_, fun b o e => keep b o (fun q => by rw [q, hP0] at e; cases e) (F.keep b o e), F.above⟩ ?_ ht' ⟨hG.1.push hgb, hG.2⟩ ⟨_, _, _, _, W, hat, (fun i s' st => st.1.typeIs), List.mem_cons_self, ?_, ?_⟩ (le _ hLlt) ?_ ?_
    · obtain ⟨o, es, ep, e, r⟩ := F.ns
      exact ⟨o, es, ep, keep _ _ (fun q => hmP.2.1 q.symm) e, r⟩
    · intro q hq
      rw [hgr] at hq
      have : ∀ q ∈ own ++ (P, tabObj ps) :: rest, q.1 ≠ P → h₅.get? q.1 = some q.2 ∧ q.1 ≠ L ∧ h₀.get? q.1 = none := fun q hq hne' => by
        have n := N q (hne ▸ hq)
        exact ⟨keep _ _ hne' n.1, n.2⟩
      rcases List.mem_append.mp hq with hq | hq
      · exact this q (List.mem_append_left _ hq) (h1 q hq)
      · rcases List.mem_cons.mp hq with rfl | hq
        · exact ⟨hk₅ _ _ hP₃, hmP.2⟩
        · exact this q (List.mem_append_right _ (.tail _ hq)) (h2 q hq)
    · intro b hb
      show b < h₅.objs.size
      rw [hsz₅]
      rcases List.mem_cons.mp hb with rfl | hb
      · exact Nat.lt_succ_self _
      · rcases List.mem_cons.mp hb with rfl | hb
        · exact Nat.lt_succ_of_lt hag
        · exact Nat.lt_succ_of_lt (Nat.lt_trans (List.mem_range.mp hb) hag)
    · intro b hb
      rcases List.mem_cons.mp hb with rfl | hb
      · exact Nat.lt_of_le_of_lt (Nat.sub_le _ _) hsz
      · rw [List.mem_singleton.mp hb]
        exact Nat.lt_of_lt_of_eq (Nat.lt_succ_self _) hK
    · intro q hq
      rw [hgr] at hq
      rcases List.mem_append.mp hq with hq | hq
      · exact le _ (Heap.lt_size (N q (hne ▸ List.mem_append_left _ hq)).1)
      · rcases List.mem_cons.mp hq with rfl | hq
        · exact le _ hPlt
        · exact le _ (Heap.lt_size (N q (hne ▸ List.mem_append_right _ (.tail _ hq))).1)
    · rw [hK]
      exact Nat.le_trans F.above (Nat.le_of_lt hLlt)
end
section
variable {o : OsState} {prog : Program} {w : World} {A : Around} {E : Value → Shared → Prop} {s : Shared} {h₀ : Heap} {L K a : Addr} {m : Str → Option Value} {news : List (Addr × Obj)} {ts : List Str} {sep : Str} {t : Tok}
theorem join_genK {Q : Value → Shared → Prop} (Fh : Fr h₀ L s.heap m) (N : News h₀ L s.heap news) (G : Bare o s) (X : Gen prog w A K a (passOnS ts fun _ => true).length (fun j y => ∃ i, (passOnS ts fun _ => true)[j]? = some i ∧ ∃ t', y = .str (ts.getD i "") t') s)
    (hLK : L ≤ K) (hn : ∀ q ∈ news, q.1 ≤ K) (hok : (ts.map (·.length)).sum + ts.length * sep.length ≤ 1000) (hlen : ts.length ≤ 1000)
    (hQ : ∀ s' t', Fr h₀ L s'.heap m → News h₀ L s'.heap news → Bare o s' → Q (.str (Txt.join sep ts) t') s') : wpAny (model prog w) A (call (.builtin "str.join") [.str sep t, .ref a]) Q E s := by
  have e0 : ts.filter (fun _ => true) = ts := List.filter_eq_self.mpr fun _ _ => rfl
  have e : (List.range (passOnS ts fun _ => true).length).map (fun j => ts.getD ((passOnS ts fun _ => true).getD j 0) "") = ts := by
    rw [map_range (passOnS ts fun _ => true) (fun i => ts.getD i ""), passOnS_map, e0]
  have hl : (passOnS ts fun _ => true).length ≤ sizeLine := by
    have e1 := congrArg List.length (passOnS_map ts fun _ => true)
    rw [List.length_map, e0] at e1
    rw [e1, sizeLine_eq]; omega
  refine join_rowsK Fh G.1 X hLK (fun j => ts.getD ((passOnS ts fun _ => true).getD j 0) "") (fun j v hv => ?_) (by rw [e]; exact joinOk_of (by omega)) (fun s' t' F' G' ho hk => ?_) hl
  · obtain ⟨i, hi, t', rfl⟩ := hv
    exact ⟨t', by simp [List.getD_eq_getElem?_getD, hi]⟩
  · rw [e]
    exact hQ s' t' F' (fun q hq => ⟨hk _ _ (hn q hq) (N q hq).1, (N q hq).2⟩) ⟨G', ho.trans G.2⟩
end
section
open Builtin Builtin.Str
variable {o : OsState} {prog : Program} {w : World} {A : Around} {E : Value → Shared → Prop} {s : Shared} {env : Env}
theorem name_gen {scope : Scope} {cl : List (Str × Addr)} {C bi : Addr} {code : Value} {x : Str} {px : Pos} {m₂ : Str → Option Value} {v : Value} {Q : Value → Shared → Prop} (hkind : scope.kind = .function) (hx : scope.names.lookup x = some .local) (hd : (x == ("__debug__" : Str)) = false)
    (hn : s.heap.Ns (genEnv scope cl C code bi env).locals m₂) (hm : m₂ x = some v) (h : Q v s) : wpAny (model prog w) A (eval (.Name x px) (genEnv scope cl C code bi env)) Q E s :=
  wpAny_Name (wpAny_loadName_local (by simp [genEnv, hkind]) hx hn hm h) hd
theorem elt_K {scope : Scope} {cl : List (Str × Addr)} {C bi : Addr} {code : Value} {x : Str} {px : Pos} {m₂ : Str → Option Value} {a : Str} {t : Tok} {y1 z1 y2 z2 : Str} {k1 k2 k3 k4 : Nat} {p1 p2 p3 p4 q1 q2 r1 r2 : Pos} {pl1 pl2 : Sem Bool} (hkind : scope.kind = .function) (hx : scope.names.lookup x = some .local) (hd : (x == ("__debug__" : Str)) = false)
    (hn : s.heap.Ns (genEnv scope cl C code bi env).locals m₂) (hm : m₂ x = some (.str a t)) (h1 : (occurrences a y1 0 a.length (a.length + 1)).isEmpty = true) (h2 : (occurrences a y2 0 a.length (a.length + 1)).isEmpty = true)
    (he1 : eval (.Call (.Attribute (.Name x px) "replace" q1) [.Constant (.str y1) k1 p1, .Constant (.str z1) k2 p2] [] r1) (genEnv scope cl C code bi env) = (do
      let ov ← eval (.Name x px) (genEnv scope cl C code bi env)
      standAt q1.atName
      let (f, first) ← holding [ov] (getMethod ov "replace" pl1)
      callWith r1 f first (backTo r1 (starEach [.Constant (.str y1) k1 p1, .Constant (.str z1) k2 p2] (genEnv scope cl C code bi env))) []) := by with_unfolding_all rfl)
    (he2 : eval (.Call (.Attribute (.Call (.Attribute (.Name x px) "replace" q1) [.Constant (.str y1) k1 p1, .Constant (.str z1) k2 p2] [] r1) "replace" q2) [.Constant (.str y2) k3 p3, .Constant (.str z2) k4 p4] [] r2) (genEnv scope cl C code bi env) = (do
      let ov ← eval (.Call (.Attribute (.Name x px) "replace" q1) [.Constant (.str y1) k1 p1, .Constant (.str z1) k2 p2] [] r1) (genEnv scope cl C code bi env)
      standAt q2.atName
      let (f, first) ← holding [ov] (getMethod ov "replace" pl2)
      callWith r2 f first (backTo r2 (starEach [.Constant (.str y2) k3 p3, .Constant (.str z2) k4 p4] (genEnv scope cl C code bi env))) []) := by with_unfolding_all rfl) :
    wpAny (model prog w) A (eval (.Call (.Attribute (.Call (.Attribute (.Name x px) "replace" q1) [.Constant (.str y1) k1 p1, .Constant (.str z1) k2 p2] [] r1) "replace" q2) [.Constant (.str y2) k3 p3, .Constant (.str z2) k4 p4] [] r2) (genEnv scope cl C code bi env))
      (fun y s₃ => (∃ t', y = .str a t') ∧ Keeps s s₃) E s := by
  refine MethodCall_ (he := he2) (MethodCall_ (he := he1) (name_gen hkind hx hd hn hm (GM.replace (callWith_method1 (spliced_more (wpAny_Constant_str (spliced_more (wpAny_Constant_str (spliced_none (rep_none h1 ?_))))))))))
  exact GM.replace (callWith_method1 (spliced_more (wpAny_Constant_str (spliced_more (wpAny_Constant_str (spliced_none (rep_none h2 ⟨⟨t, rfl⟩, s.heap, _, rfl, fun _ _ e => e⟩)))))))
end
noncomputable def GwEnd (o : OsState) {σ : Type} (h₀ : Heap) (L : Addr) (Led : σ → List (Addr × Obj)) (ps : σ → List (Str × Value)) (stored : List Str) (m₀ : Str → Option Value) (P : σ → Prop) (μ : σ → Nat) (c : σ) (s₂ : Shared) : Prop :=
  ∃ (c' : σ) (m' : Str → Option Value) (news' : List (Addr × Obj)), Fr h₀ L s₂.heap m' ∧ News h₀ L s₂.heap news' ∧ (∀ p ∈ Led c', p ∈ news') ∧ (∀ p ∈ ps c', m' p.1 = some p.2) ∧ (∀ z, (∀ p ∈ ps c', z ≠ p.1) → stored.contains z = false → m' z = m₀ z) ∧ P c' ∧ Bare o s₂ ∧ μ c' < μ c
noncomputable def GwPost (o : OsState) {σ : Type} (h₀ : Heap) (L : Addr) (Led : σ → List (Addr × Obj)) (ps : σ → List (Str × Value)) (stored : List Str) (m₀ : Str → Option Value) (P : σ → Prop) (μ : σ → Nat) (Q : Flow → Shared → Prop) (c : σ) (f : Flow) (s₂ : Shared) : Prop :=
  match f with
  | .ret v => Q (.ret v) s₂
  | .brk => Q .next s₂
  | _ => GwEnd o h₀ L Led ps stored m₀ P μ c s₂
theorem gw_end {o : OsState} {σ : Type} {h₀ : Heap} {L : Addr} {Led : σ → List (Addr × Obj)} {ps : σ → List (Str × Value)} {stored : List Str} {m₀ m' : Str → Option Value} {P : σ → Prop} {μ : σ → Nat} {c : σ} {s₂ : Shared} {news' : List (Addr × Obj)} (c' : σ)
    (F : Fr h₀ L s₂.heap m') (N : News h₀ L s₂.heap news') (hG : Bare o s₂) (hn : ∀ p ∈ Led c', p ∈ news') (hk : ∀ p ∈ ps c', m' p.1 = some p.2) (hr : ∀ z, (∀ p ∈ ps c', z ≠ p.1) → stored.contains z = false → m' z = m₀ z) (hp : P c') (hm : μ c' < μ c) :
    GwEnd o h₀ L Led ps stored m₀ P μ c s₂ := ⟨c', m', news', F, N, hn, hk, hr, hp, hG, hm⟩
section
variable {o : OsState} {prog : Program} {w : World} {A : Around} {E : Value → Shared → Prop} {Q : Flow → Shared → Prop} {s : Shared} {env : Env} {h₀ : Heap} {L : Addr}
theorem gw_while {σ : Type} {test : Expr} {body : List Stmt} {pos : Pos} {m₀ : Str → Option Value} (Led : σ → List (Addr × Obj)) (ps : σ → List (Str × Value)) (stored : List Str) (P : σ → Prop) (μ : σ → Nat) (c₀ : σ)
    (F : Fr h₀ L s.heap m₀) (N : News h₀ L s.heap (Led c₀)) (hG : Bare o s) (hk : ∀ p ∈ ps c₀, m₀ p.1 = some p.2) (hp : P c₀)
    (turn : ∀ (c : σ) (u : Str → Option Value) (s₁ : Shared), P c → Bare o s₁ → Fr h₀ L s₁.heap (kstB (fun z => if stored.contains z then u z else m₀ z) (ps c)) → News h₀ L s₁.heap (Led c) →
      wpAny (model prog w) A (isTrue test env (eval test env)) (fun b s₂ =>
        if b = true then wpAny (model prog w) A (execs body env) (GwPost o h₀ L Led ps stored m₀ P μ Q c) E s₂ else Q .next s₂) E s₁)
    (hE : PassesOwn (model prog w) A env E := by passes_own) :
    wpAny (model prog w) A (exec (.While test body [] pos) env) Q E s := by
  refine wpAny_While (codeAny_whileLoop (fun n s' => ∃ (c : σ) (m₁ : Str → Option Value), μ c = n ∧ Fr h₀ L s'.heap m₁ ∧ News h₀ L s'.heap (Led c) ∧ Bare o s' ∧ (∀ p ∈ ps c, m₁ p.1 = some p.2) ∧ (∀ z, (∀ p ∈ ps c, z ≠ p.1) → stored.contains z = false → m₁ z = m₀ z) ∧ P c) ?_ (μ c₀) ⟨c₀, m₀, rfl, F, N, hG, hk, fun _ _ _ => rfl, hp⟩)
  rintro n s' ⟨c, m₁, rfl, F₁, N₁, G₁, h1, h2, hp₁⟩
  refine wpAny_mono (turn c m₁ s' hp₁ G₁ (ksw_fr h1 h2 F₁) N₁) (fun b s₂ q => ?_) hE
  cases b with
  | false =>
    simp only [Bool.false_eq_true, if_false] at q ⊢
    exact wpAny_execs_nil q
  | true =>
    simp only [if_true] at q ⊢
    refine wpAny_mono q (fun f s₃ q₃ => ?_) hE
    cases f with
    | next =>
      obtain ⟨c', m', news', F', N', hn, hk', hr', hp', hG', hm'⟩ := q₃
      exact ⟨_, hm', c', m', rfl, F', fun p hp => N' p (hn p hp), hG', hk', hr', hp'⟩
    | cont =>
      obtain ⟨c', m', news', F', N', hn, hk', hr', hp', hG', hm'⟩ := q₃
      exact ⟨_, hm', c', m', rfl, F', fun p hp => N' p (hn p hp), hG', hk', hr', hp'⟩
    | brk => exact q₃
    | ret v => exact q₃
end
set_option Elab.async false
set_option maxRecDepth 100000
set_option maxHeartbeats 5000000
section
variable {w : World} {o : OsState} {mean : ExcName → Option Value} {loose : List Str} {mg mb : Str → Option Value} {dp un : Nat} {gd : Option (List Code)} {cn : Str} {cs : Scope} {a : Addr} {ccd : Value} {cl : List (Str × Addr)} {outer : List Env} {A₀ : Around} {base h₀ : Heap} {L : Addr} {m : Str → Option Value} {news : List (Addr × Obj)} {s : Shared} {Q E : Value → Shared → Prop}
noncomputable abbrev trM (pat : Str) (t u : Tok) (S M9 D9 : Addr) (ti tn : Tok) : Str → Option Value := fun z => if z = Str.ofString "i" then some (.int 0 ti) else if z = Str.ofString "n" then some (.int pat.length tn) else if z = Str.ofString "add" then some (.ref M9) else if z = Str.ofString "res" then some (.ref D9) else
  List.lookup z [(Str.ofString "QUESTION_MARK", Value.str (Str.ofString ".") u), (Str.ofString "STAR", Value.ref S), (Str.ofString "pat", Value.str pat t)]
theorem tr_m1 {n p c : Nat} (h : (n : Int) = (p : Int) + ((c + 1 : Nat) : Int)) : n - ((p : Int) + 1).toNat < n - (p : Int).toNat := by
  show n - (p + 1) < n - p; omega
theorem tr_m4 {n p c : Nat} (h : (n : Int) = (p : Int) + ((c + 1 : Nat) : Int)) : n - ((p : Int) + 1 + 1 + 1 + 1).toNat < n - (p : Int).toNat := by
  show n - (p + 1 + 1 + 1 + 1) < n - p; omega
theorem tr_m5 {n p c : Nat} (h : (n : Int) = (p : Int) + ((c + 1 : Nat) : Int)) : n - ((p : Int) + 1 + 1 + 1 + 1 + 1).toNat < n - (p : Int).toNat := by
  show n - (p + 1 + 1 + 1 + 1 + 1) < n - p; omega
end
set_option Elab.async false
set_option maxRecDepth 100000
set_option maxHeartbeats 5000000
section
variable {w : World} {o : OsState} {mean : ExcName → Option Value} {loose : List Str} {mg mb : Str → Option Value} {dp un : Nat} {gd : Option (List Code)} {cn : Str} {cs : Scope} {a : Addr} {ccd : Value} {cl : List (Str × Addr)} {outer : List Env} {A₀ : Around} {base h₀ : Heap} {L : Addr} {m : Str → Option Value} {news : List (Addr × Obj)} {s : Shared} {Q E : Value → Shared → Prop}
theorem trt1 (B : Below A₀ base outer h₀) (X : (KF w.params).In h₀) (T : Top topProg loose mean mg mb h₀) (hd : dp + 2 < recursionLimit) (hu : un + 60 < cLine) (hC : CodeHd base 117 113) {Q : Flow → Shared → Prop} {pat : Str} {t u it9 : Tok} {S M9 D9 : Addr} {ti tn : Tok} {parts done9 rem9 : List (Option Str)} {q9 : Nat} {ps9 : Array Value} {pre9 cs9 : List Nat} {u9 : Str → Option Value} 
    (hS3 : @Ne Nat S 113) (l1 : @LT.lt Nat _ S L ∧ @LT.lt Nat _ 113 L) (l2 : @LT.lt Nat _ S D9 ∧ @LT.lt Nat _ 113 D9) (l3 : @LT.lt Nat _ D9 M9 ∧ @LT.lt Nat _ S M9 ∧ @LT.lt Nat _ 113 M9) (hl : pat.length ≤ 100) (hpat9 : pat.cps.toList = pre9 ++ 42 :: cs9) (hT9 : Tk false cs9 rem9) (hparts9 : parts = done9 ++ none :: rem9) (hvs9 : PartsAre S ([] : List Value) done9) (hvl9 : (([] : List Value)).length ≤ pre9.length) (hps9 : TabOk ps9) (G9 : Bare o s) (hE : PassesOwn (model (OpenLaw.row PySem.Challenge.rw_in0163_01).toRowW.prog w) (ktrTop dp un gd (Str.ofString "_translate") trSc.1 L 118 (.ref 117) [] outer) (envX (Str.ofString "_translate") trSc.1 L 118 (.ref 117) []) E)
    (F9 : Fr h₀ L s.heap fun z => if z = Str.ofString "i" then some (.int (pre9.length : Int) it9) else if ([Str.ofString "c", Str.ofString "j", Str.ofString "stuff", Str.ofString "chunks", Str.ofString "k", Str.ofString "chunk"]).contains z then u9 z else (trM pat t u S M9 D9 ti tn) z) (N9 : News h₀ L s.heap [(M9, bmO D9), (D9, listOf (List.toArray ([] : List Value)) q9), (S, obO), (113, tabObj ps9)]) :
    wpAny (model (OpenLaw.row PySem.Challenge.rw_in0163_01).toRowW.prog w) (ktrTop dp un gd (Str.ofString "_translate") trSc.1 L 118 (.ref 117) [] outer) (isTrue trTest.1 (envX (Str.ofString "_translate") trSc.1 L 118 (.ref 117) []) (eval trTest.1 (envX (Str.ofString "_translate") trSc.1 L 118 (.ref 117) []))) (fun b s₂ => if b = true then wpAny (model (OpenLaw.row PySem.Challenge.rw_in0163_01).toRowW.prog w) (ktrTop dp un gd (Str.ofString "_translate") trSc.1 L 118 (.ref 117) [] outer) (execs trBody.1 (envX (Str.ofString "_translate") trSc.1 L 118 (.ref 117) [])) (GwPost o h₀ L (σ := (Int × Tok) × Nat × List Value × Array Value) (fun c => [(M9, bmO D9), (D9, listOf c.2.2.1.toArray c.2.1), (S, obO), (113, tabObj c.2.2.2)]) (fun c => [(Str.ofString "i", .int c.1.1 c.1.2)]) [Str.ofString "c", Str.ofString "j", Str.ofString "stuff", Str.ofString "chunks", Str.ofString "k", Str.ofString "chunk"] (trM pat t u S M9 D9 ti tn) (fun c => TrP pat parts S c.1.1 c.2.2.1 ∧ TabOk c.2.2.2) (fun c => pat.length - c.1.1.toNat) Q ⟨⟨(pre9.length : Int), it9⟩, q9, ([] : List Value), ps9⟩) E s₂ else Q .next s₂) E s := by
  have hn9 := tr_len hpat9
  have B' := B
  (try simp only [List.length_cons, List.length_nil] at hn9)
  dsimp only [trTest, trBody, trSc]
  revert X; k_fill; intro X
  k_with_none
  k_with "execs cons" => ((k_dflt (refine wpAny_execs_cons ?_)); (try dsimp only))
  k_with "execs nil" => (k_dflt (refine wpAny_execs_nil ?_))
  k_with "exec If" => (k_dflt (refine wpAny_If ?_))
  k_with "exec Assign" => (k_dflt (refine wpAny_Assign_Name ?_))
  k_with "eval Name" => (k_dflt (refine' nameX_L ?F ?v ?_ ?a ?b ?d; (case F => k_asm); (case a => rfl); (case b => kernel_rfl!); (case d => kernel_rfl); (case v => first | rfl | assumption); k_whole))
  k_with "storeName" => (k_dflt (refine' storeX_L ?F ?N ?_ ?a ?b; (case F => k_asm); (case N => k_asm); (case a => rfl); (case b => rfl); k_whole; intro hS7 FS7 NS7; (try k_sweep)))
  k_with "spliced" => (k_dflt (first | refine args_cons ?_ | (refine args_nil ?_; try simp only [List.cons_append, List.nil_append])))
  k_with "ite" => (k_dflt (first | refine ite_pos (by decide +kernel) ?_ | refine ite_neg (by decide +kernel) ?_))
  k_with "And" => ((with_reducible show PySem.Str.length (_ ++ _) ≤ sizeLine ∧ _); refine ⟨Nat.le_of_ble_eq_true (by kernel_rfl!), ?_⟩)
  k_with "exec Assign cons Tuple" => (k_dflt (refine Assign_Tuple ?_))
  k_with "callWith ref" => (k_dflt (refine' callWith_K ?k1 ?k2 ?_; (case k1 => k_asm); (case k2 => k_is); k_whole))
  k_with "truthy bool" => (k_dflt (refine wpAny_truthy_bool ?_))
  k_with "isTrue Compare" => (k_dflt (refine wpAny_isTrue_Compare1 ?_))
  k_with "room" => (k_dflt (first | exact om_s2 (by assumption) (by rfl) | exact om_s1 (by assumption) (by rfl) | exact om_s0 (by assumption)))
  k_with "ne" => with_reducible (first | assumption | exact om_sy (by assumption) | exact Nat.ne_of_gt (by assumption) | exact Nat.ne_of_lt (by assumption) | exact om_n1 (by assumption) | exact om_n2 (by assumption) | exact om_n3 (by assumption) | exact om_z2 (by assumption) | exact om_z3 (by assumption) | exact om_z4 (by assumption) | exact (om_n1 (by assumption)).symm | exact (om_n2 (by assumption)).symm | exact (om_n3 (by assumption)).symm | exact (om_z2 (by assumption)).symm | exact (om_z3 (by assumption)).symm | exact (om_z4 (by assumption)).symm | exact om_n4 (by assumption) | exact om_z5 (by assumption) | exact (om_n4 (by assumption)).symm | exact (om_z5 (by assumption)).symm | exact om_n5 (by assumption) | exact om_z6 (by assumption) | exact (om_n5 (by assumption)).symm | exact (om_z6 (by assumption)).symm | exact om_e1 (by assumption) | exact om_e2 (by assumption) | exact om_e3 (by assumption))
  k_with "om" => with_reducible (first | ((show _ ≠ _); k_extra "ne") | ((show @LT.lt Nat _ (_ + _ + _) _); exact om_s2 (by assumption) (by decide)) | ((show @LT.lt Nat _ (_ + _) _); exact om_s1 (by assumption) (by decide)) | ((show @LT.lt Nat _ _ _); first | assumption | exact om_s0 (by assumption)) | ((show @LE.le Nat _ (_ + 1) _); exact om_succ (by assumption) (by assumption)) | ((show @LE.le Nat _ _ _); first | exact Nat.zero_le _ | assumption | exact om_le (by assumption) (by decide) | exact om_lt_le (by assumption) (by decide) | exact om_eq_le (by assumption) (by assumption) (by decide) | exact om_eq_le' (by assumption) (by assumption) (by decide)) | ((show _ ∧ _); first | exact om_rg (by assumption) (by decide) | exact om_r1 (by assumption) (by decide)))
  k_with "all" => exact fun p9 hp9 => Nat.ne_of_lt (by first | exact l1 p9 hp9 | exact Nat.lt_succ_of_lt (l1 p9 hp9))
  k_with "om" => with_reducible (first | exact tr_m1 hn9 | exact tr_m4 hn9 | exact tr_m5 hn9)
  k_with "WhlRest" => (k_dflt (refine' whl_turn ?hE ?_; (case hE => exact hE)); (try k_sweep))
  k_with "subscriptTail Name Name str int" => ((with_reducible show wpAny _ _ (subscriptTail _ _ (Value.str pat _) (Value.int _ _)) _ _ _); first | (refine tr_item (k := 0) hpat9 (by omega) (by omega) rfl ?_; intro t8' k8') | (refine tr_item (k := 1) hpat9 (by omega) (by omega) rfl ?_; intro t8' k8') | (refine tr_item (k := 2) hpat9 (by omega) (by omega) rfl ?_; intro t8' k8') | (refine tr_item (k := 3) hpat9 (by omega) (by omega) rfl ?_; intro t8' k8') | (refine tr_item (k := 4) hpat9 (by omega) (by omega) rfl ?_; intro t8' k8'))
  k_with "truthy ref" => (k_dflt (first | (refine truthy_snoc (by k_asm) (by k_mem) (by omega) ?_; intro k8') | (refine truthy_nil (by k_asm) (by k_mem) ?_; intro k8')))
  k_with "subscriptTail Name UnaryOp ref int" => (k_dflt (refine last_snoc (by k_asm) (by k_mem) ?_))
  k_with "compareOp IsNot str ref" => (refine isNot_str_ref ?_)
  k_with "callWith ref" => ((with_reducible show wpAny _ _ (callWith _ (Value.ref M9) [] _ []) _ _ _); k_dflt (refine callWith_bm (D := D9) ?_))
  k_with "BmAt" => (k_dflt (exact bmAt (by k_asm) (by k_mem)))
  k_with "call ref" => ((with_reducible show wpAny _ _ (call (Value.ref M9) [_]) _ _ _); k_dflt (refine' bound_appendK ?p1 ?p2 ?p3 ?p4 ?_ ?p5; (case p1 => k_asm); (case p2 => k_asm); (case p3 => k_mem); (case p4 => k_upd); (case p5 => (rw [List.size_toArray, sizeLine_eq]; omega))); intro h8' F8' N8'; (try simp only [List.push_toArray] at N8'))
  k_with "call ref" => (k_dflt (refine' esc_c ?k1 ?k2 ?k3 ?k4 ?k5 ?k6 ?k7 ?k8 ?x1 ?_; (case k1 => k_asm); (case k2 => k_asm); (case k3 => k_asm); (case k4 => k_asm); (case k5 => k_asm); (case k6 => first | exact rfl | assumption); (case k7 => ktr_room); (case k8 => ktr_units); (case x1 => exact abc_tok hc9); intro t9 h9 tk9 F9 N9; (try dsimp only); (try k_fold)))
  k_with "exec While" => (k_here; (with_reducible show wpAny _ _ (exec (Stmt.While (Expr.BoolOp _ _ _) _ _ _) _) _ _ _); k_dflt (refine whl_start 100 ?_))
  k_with "exec While" => (k_here; (with_reducible show wpAny _ _ (exec (Stmt.While (Expr.Constant _ _ _) _ _ _) _) _ _ _); k_dflt (refine whl_start 100 ?_))
  k_with "subscriptTail Name Slice str ref" => ((with_reducible show wpAny _ _ (subscriptTail _ _ (Value.str pat _) _) _ _ _); (rename Fr _ _ _ _ => sF'); (rename News _ _ _ _ => sN'); k_dflt (first | (refine tr_slice (a := 1) (b := 3) (z := ⟨#[a9, d9]⟩) hpat9 (by omega) (by omega) (by omega) (by omega) (by (simp only [List.length_cons]; omega)) rfl sF' sN' ?_) | (refine tr_slice (a := 1) (b := 3) (z := ⟨#[33, a9]⟩) hpat9 (by omega) (by omega) (by omega) (by omega) (by (simp only [List.length_cons]; omega)) rfl sF' sN' ?_) | (refine tr_slice (a := 1) (b := 4) (z := ⟨#[33, a9, d9]⟩) hpat9 (by omega) (by omega) (by omega) (by omega) (by (simp only [List.length_cons]; omega)) rfl sF' sN' ?_) | (refine tr_slice (a := 1) (b := 4) (z := ⟨#[97, 45, 99]⟩) hpat9 (by omega) (by omega) (by omega) (by omega) (by (simp only [List.length_cons]; omega)) rfl sF' sN' ?_) | (refine tr_slice (a := 1) (b := 2) (z := ⟨#[97]⟩) hpat9 (by omega) (by omega) (by omega) (by omega) (by (simp only [List.length_cons]; omega)) rfl sF' sN' ?_) | (refine tr_slice (a := 3) (b := 4) (z := ⟨#[99]⟩) hpat9 (by omega) (by omega) (by omega) (by omega) (by (simp only [List.length_cons]; omega)) rfl sF' sN' ?_)); intro h8' t8' k8' F8' N8')
  k_with "subscriptTail Name Slice str ref" => ((with_reducible show wpAny _ _ (subscriptTail _ _ (Value.str ⟨#[33, a9]⟩ _) _) _ _ _); (rename Fr _ _ _ _ => sF'); (rename News _ _ _ _ => sN'); k_dflt (refine slice1_w (y := ⟨#[a9]⟩) ((by first | decide +kernel | (apply tokE hc9; decide +kernel; decide +kernel; decide +kernel) | (apply tokE2 hc9; decide +kernel; decide +kernel; decide +kernel))) (Nat.le_of_ble_eq_true rfl) sF' sN' ?_); intro h8' t8' k8' F8' N8')
  k_with "subscriptTail Name Slice str ref" => ((with_reducible show wpAny _ _ (subscriptTail _ _ (Value.str ⟨#[33, a9, d9]⟩ _) _) _ _ _); (rename Fr _ _ _ _ => sF'); (rename News _ _ _ _ => sN'); k_dflt (refine slice1_w (y := ⟨#[a9, d9]⟩) ((by first | decide +kernel | (apply tokE hc9; decide +kernel; decide +kernel; decide +kernel) | (apply tokE2 hc9; decide +kernel; decide +kernel; decide +kernel))) (Nat.le_of_ble_eq_true rfl) sF' sN' ?_); intro h8' t8' k8' F8' N8')
  k_with "call builtin:str.find" => (k_dflt (first | (refine find_hitP (a := 2) (b := 4) hpat9 (by omega) (by omega) rfl rfl (by omega) (by (simp only [List.length_cons]; omega)) ?_) | (refine find_missP (a := 5) (b := 4) hpat9 (by omega) (by omega) rfl (by omega) (by (simp only [List.length_cons]; omega)) ?_)); intro t8' k8')
  k_with "compareOp NotIn str str" => first | (refine notIn_w (b := true) ((by first | decide +kernel | (apply tokE hc9; decide +kernel; decide +kernel; decide +kernel) | (apply tokE2 hc9; decide +kernel; decide +kernel; decide +kernel))) ?_) | (refine notIn_w (b := false) ((by first | decide +kernel | (apply tokE hc9; decide +kernel; decide +kernel; decide +kernel) | (apply tokE2 hc9; decide +kernel; decide +kernel; decide +kernel))) ?_)
  k_with "call builtin:str.replace" => (refine rep_none ((by first | decide +kernel | (apply tokE hc9; decide +kernel; decide +kernel; decide +kernel) | (apply tokE2 hc9; decide +kernel; decide +kernel; decide +kernel))) ?_)
  k_with "getMethod ref" => (k_dflt (refine gm_sub (by k_asm) (by assumption) ?_))
  k_with "call builtin:re.Pattern.sub" => (k_dflt (refine' resub_K ?p1 ?p2 ?p3 ?p4 ?p5 ?p6 ?p7 ?p8 ?p9 ?_; (case p1 => k_asm); (case p2 => k_asm); (case p3 => assumption); (case p4 => k_mem); (case p5 => assumption); (case p6 => exact (by first | decide +kernel | (apply tokE hc9; decide +kernel; decide +kernel; decide +kernel) | (apply tokE2 hc9; decide +kernel; decide +kernel; decide +kernel))); (case p7 => exact Nat.le_of_ble_eq_true rfl); (case p8 => exact Nat.le_of_ble_eq_true rfl); (case p9 => rfl)); intro h8' t8' k8' F8' N8')
  k_with "eval Lambda" => (k_here; k_dflt (refine' kla_eval ?d0 ?_; (case d0 => exact rfl)); k_dflt (refine' lam_K ?F ?N ?T ?C ?cd ?U ?ht ?cl ?_; (case F => k_asm); (case N => k_asm); (case T => assumption); (case C => exact tab_at hC B'); (case cd => exact rfl); (case U => k_updF); (case ht => assumption); (case cl => exact rfl)); intro f8' fo8' h8' k8' ps8' F8' N8' hf8' ht8' l8'; (try dsimp only at N8'); (try k_lt l8'))
  k_with "eval GeneratorExp" => (k_here; k_dflt (refine' genexp_K (vs := [_, _]) (ts := [Str.ofString "a", Str.ofString "c"]) ?p1 ?p2 ?p3 ?p4 ?p5 ?p6 ?p7 ?p8 ?p9 ?pA ?pB ?pC ?pD ?pE ?pF ?pG ?pH ?pI ?pJ ?pK ?pL ?_ ?pM; (case p1 => k_asm); (case p2 => k_asm); (case p3 => assumption); (case p4 => exact tab_at hC B'); (case p5 => rfl); (case p6 => k_updF); (case p7 => assumption); (case p8 => exact G9); (case p9 => k_mem); (case pA => exact .cons _ _ (.cons _ _ .nil)); (case pB => rfl); (case pC => rfl); (case pD => rfl); (case pE => with_unfolding_all rfl); (case pF => decide); (case pG => rfl); (case pH => rfl); (case pI => rfl); (case pJ => ktr_room); (case pK => ((rename Fr _ _ _ _ => gF'); exact wpAny_Name (wpAny_loadName_local rfl rfl gF'.ns (by with_unfolding_all rfl) ⟨rfl, rfl⟩) (by decide))); (case pL => (intro C8 code8 A8 E8 a8 t8 s8 m8 ha8 hn8 hm8; (have hz8 : a8 = Str.ofString "a" ∨ a8 = Str.ofString "c" := by simpa using ha8); rcases hz8 with rfl | rfl <;> exact elt_K rfl rfl (by decide) hn8 hm8 (by decide +kernel) (by decide +kernel))); (case pM => (intro x8; with_unfolding_all rfl))); intro aG sG psG KG FG NG hpsG hGG XG hLKG hnKG hbKG; (try dsimp only at NG hnKG))
  k_with "call builtin:str.join" => (k_dflt (refine' join_genK ?p1 ?p2 ?p3 XG hLKG ?p4 ?p5 ?p6 ?_; (case p1 => k_asm); (case p2 => exact NG); (case p3 => exact hGG); (case p4 => exact hnKG); (case p5 => decide +kernel); (case p6 => decide)); intro s8' t8' F8' N8' G8')
  k_with "truthy str" => (refine KXt.truthy (by with_unfolding_all rfl) (Nat.le_of_ble_eq_true rfl) ?_; intro k8')
  k_with "ite" => (k_dflt (first | refine ite_pos ((by first | decide +kernel | (apply tokE hc9; decide +kernel; decide +kernel; decide +kernel) | (apply tokE2 hc9; decide +kernel; decide +kernel; decide +kernel))) ?_ | refine ite_neg ((by first | decide +kernel | (apply tokE hc9; decide +kernel; decide +kernel; decide +kernel) | (apply tokE2 hc9; decide +kernel; decide +kernel; decide +kernel))) ?_))
  k_with "formatField str" => (refine formatField_str ?_ (Nat.le_of_ble_eq_true rfl); intro t8' k8')
  k_with "subscriptTail Name BinOp ref int" => (k_dflt (refine kim_list (by k_asm) (by k_mem) rfl rfl (by omega) (by omega) (by rfl) ?_))
  k_with "subscriptTail Name Name ref int" => (k_dflt (refine kim_list (by k_asm) (by k_mem) rfl rfl (by omega) (by omega) (by rfl) ?_))
  k_steps
  all_goals first | (exfalso; omega) | ((rename Fr _ _ _ _ => eF'); (rename News _ _ _ _ => eN'); (refine' gw_end ⟨⟨_, _⟩, q9 + 1, _, _⟩ eF' eN' ?hGG ?hn ?hk ?hr ?hp ?hm); (case hGG => assumption); (case hk => with_unfolding_all kst_all); (case hn => ((try dsimp only); with_unfolding_all exact List.forall_mem_cons.mpr ⟨(by repeat (first | assumption | exact List.mem_cons_self | exact List.mem_append_left _ (by assumption) | exact List.mem_append_right _ (by assumption) | refine List.mem_cons_of_mem _ ?_)), List.forall_mem_cons.mpr ⟨(by repeat (first | assumption | exact List.mem_cons_self | exact List.mem_append_left _ (by assumption) | exact List.mem_append_right _ (by assumption) | refine List.mem_cons_of_mem _ ?_)), List.forall_mem_cons.mpr ⟨(by repeat (first | assumption | exact List.mem_cons_self | exact List.mem_append_left _ (by assumption) | exact List.mem_append_right _ (by assumption) | refine List.mem_cons_of_mem _ ?_)), List.forall_mem_cons.mpr ⟨(by repeat (first | assumption | exact List.mem_cons_self | exact List.mem_append_left _ (by assumption) | exact List.mem_append_right _ (by assumption) | refine List.mem_cons_of_mem _ ?_)), List.forall_mem_nil _⟩⟩⟩⟩)); (case hr => with_unfolding_all ksw_same); (case hp => refine ⟨?_, by assumption⟩; first | exact tr_some (tk := [_]) hpat9 (by first | rfl | omega | (dsimp only; omega)) hT9 hparts9 hvs9 hvl9 (Nat.le_of_ble_eq_true rfl) | exact tr_some (tk := [_, _, _, _]) hpat9 (by first | rfl | omega | (dsimp only; omega) | (simp only [List.length_cons, List.length_nil]; omega)) hT9 hparts9 hvs9 hvl9 (Nat.le_of_ble_eq_true rfl) | exact tr_some (tk := [_, _, _, _, _]) hpat9 (by first | rfl | omega | (dsimp only; omega) | (simp only [List.length_cons, List.length_nil]; omega)) hT9 hparts9 hvs9 hvl9 (Nat.le_of_ble_eq_true rfl) | exact tr_star hpat9 (by first | rfl | omega | (dsimp only; omega)) hT9 hparts9 hvs9 hvl9); (case hm => (dsimp only; omega)))
end
set_option Elab.async false
set_option maxRecDepth 100000
set_option maxHeartbeats 5000000
section
variable {w : World} {o : OsState} {mean : ExcName → Option Value} {loose : List Str} {mg mb : Str → Option Value} {dp un : Nat} {gd : Option (List Code)} {cn : Str} {cs : Scope} {a : Addr} {ccd : Value} {cl : List (Str × Addr)} {outer : List Env} {A₀ : Around} {base h₀ : Heap} {L : Addr} {m : Str → Option Value} {news : List (Addr × Obj)} {s : Shared} {Q E : Value → Shared → Prop}
theorem trt2 (B : Below A₀ base outer h₀) (X : (KF w.params).In h₀) (T : Top topProg loose mean mg mb h₀) (hd : dp + 2 < recursionLimit) (hu : un + 60 < cLine) (hC : CodeHd base 117 113) {Q : Flow → Shared → Prop} {pat : Str} {t u it9 : Tok} {S M9 D9 : Addr} {ti tn : Tok} {parts done9 rem9 : List (Option Str)} {q9 : Nat} {ps9 : Array Value} {pre9 cs9 : List Nat} {u9 : Str → Option Value} {us9 : List Value} {x9 : Str} {xt9 : Tok} 
    (hS3 : @Ne Nat S 113) (l1 : @LT.lt Nat _ S L ∧ @LT.lt Nat _ 113 L) (l2 : @LT.lt Nat _ S D9 ∧ @LT.lt Nat _ 113 D9) (l3 : @LT.lt Nat _ D9 M9 ∧ @LT.lt Nat _ S M9 ∧ @LT.lt Nat _ 113 M9) (hl : pat.length ≤ 100) (hpat9 : pat.cps.toList = pre9 ++ 42 :: cs9) (hT9 : Tk false cs9 rem9) (hparts9 : parts = done9 ++ none :: rem9) (hvs9 : PartsAre S (us9 ++ [Value.str x9 xt9]) done9) (hvl9 : ((us9 ++ [Value.str x9 xt9])).length ≤ pre9.length) (hps9 : TabOk ps9) (G9 : Bare o s) (hE : PassesOwn (model (OpenLaw.row PySem.Challenge.rw_in0163_01).toRowW.prog w) (ktrTop dp un gd (Str.ofString "_translate") trSc.1 L 118 (.ref 117) [] outer) (envX (Str.ofString "_translate") trSc.1 L 118 (.ref 117) []) E)
    (F9 : Fr h₀ L s.heap fun z => if z = Str.ofString "i" then some (.int (pre9.length : Int) it9) else if ([Str.ofString "c", Str.ofString "j", Str.ofString "stuff", Str.ofString "chunks", Str.ofString "k", Str.ofString "chunk"]).contains z then u9 z else (trM pat t u S M9 D9 ti tn) z) (N9 : News h₀ L s.heap [(M9, bmO D9), (D9, listOf (List.toArray (us9 ++ [Value.str x9 xt9])) q9), (S, obO), (113, tabObj ps9)]) :
    wpAny (model (OpenLaw.row PySem.Challenge.rw_in0163_01).toRowW.prog w) (ktrTop dp un gd (Str.ofString "_translate") trSc.1 L 118 (.ref 117) [] outer) (isTrue trTest.1 (envX (Str.ofString "_translate") trSc.1 L 118 (.ref 117) []) (eval trTest.1 (envX (Str.ofString "_translate") trSc.1 L 118 (.ref 117) []))) (fun b s₂ => if b = true then wpAny (model (OpenLaw.row PySem.Challenge.rw_in0163_01).toRowW.prog w) (ktrTop dp un gd (Str.ofString "_translate") trSc.1 L 118 (.ref 117) [] outer) (execs trBody.1 (envX (Str.ofString "_translate") trSc.1 L 118 (.ref 117) [])) (GwPost o h₀ L (σ := (Int × Tok) × Nat × List Value × Array Value) (fun c => [(M9, bmO D9), (D9, listOf c.2.2.1.toArray c.2.1), (S, obO), (113, tabObj c.2.2.2)]) (fun c => [(Str.ofString "i", .int c.1.1 c.1.2)]) [Str.ofString "c", Str.ofString "j", Str.ofString "stuff", Str.ofString "chunks", Str.ofString "k", Str.ofString "chunk"] (trM pat t u S M9 D9 ti tn) (fun c => TrP pat parts S c.1.1 c.2.2.1 ∧ TabOk c.2.2.2) (fun c => pat.length - c.1.1.toNat) Q ⟨⟨(pre9.length : Int), it9⟩, q9, (us9 ++ [Value.str x9 xt9]), ps9⟩) E s₂ else Q .next s₂) E s := by
  have hn9 := tr_len hpat9
  have B' := B
  (try simp only [List.length_cons, List.length_nil] at hn9)
  dsimp only [trTest, trBody, trSc]
  revert X; k_fill; intro X
  k_with_none
  k_with "execs cons" => ((k_dflt (refine wpAny_execs_cons ?_)); (try dsimp only))
  k_with "execs nil" => (k_dflt (refine wpAny_execs_nil ?_))
  k_with "exec If" => (k_dflt (refine wpAny_If ?_))
  k_with "exec Assign" => (k_dflt (refine wpAny_Assign_Name ?_))
  k_with "eval Name" => (k_dflt (refine' nameX_L ?F ?v ?_ ?a ?b ?d; (case F => k_asm); (case a => rfl); (case b => kernel_rfl!); (case d => kernel_rfl); (case v => first | rfl | assumption); k_whole))
  k_with "storeName" => (k_dflt (refine' storeX_L ?F ?N ?_ ?a ?b; (case F => k_asm); (case N => k_asm); (case a => rfl); (case b => rfl); k_whole; intro hS7 FS7 NS7; (try k_sweep)))
  k_with "spliced" => (k_dflt (first | refine args_cons ?_ | (refine args_nil ?_; try simp only [List.cons_append, List.nil_append])))
  k_with "ite" => (k_dflt (first | refine ite_pos (by decide +kernel) ?_ | refine ite_neg (by decide +kernel) ?_))
  k_with "And" => ((with_reducible show PySem.Str.length (_ ++ _) ≤ sizeLine ∧ _); refine ⟨Nat.le_of_ble_eq_true (by kernel_rfl!), ?_⟩)
  k_with "exec Assign cons Tuple" => (k_dflt (refine Assign_Tuple ?_))
  k_with "callWith ref" => (k_dflt (refine' callWith_K ?k1 ?k2 ?_; (case k1 => k_asm); (case k2 => k_is); k_whole))
  k_with "truthy bool" => (k_dflt (refine wpAny_truthy_bool ?_))
  k_with "isTrue Compare" => (k_dflt (refine wpAny_isTrue_Compare1 ?_))
  k_with "room" => (k_dflt (first | exact om_s2 (by assumption) (by rfl) | exact om_s1 (by assumption) (by rfl) | exact om_s0 (by assumption)))
  k_with "ne" => with_reducible (first | assumption | exact om_sy (by assumption) | exact Nat.ne_of_gt (by assumption) | exact Nat.ne_of_lt (by assumption) | exact om_n1 (by assumption) | exact om_n2 (by assumption) | exact om_n3 (by assumption) | exact om_z2 (by assumption) | exact om_z3 (by assumption) | exact om_z4 (by assumption) | exact (om_n1 (by assumption)).symm | exact (om_n2 (by assumption)).symm | exact (om_n3 (by assumption)).symm | exact (om_z2 (by assumption)).symm | exact (om_z3 (by assumption)).symm | exact (om_z4 (by assumption)).symm | exact om_n4 (by assumption) | exact om_z5 (by assumption) | exact (om_n4 (by assumption)).symm | exact (om_z5 (by assumption)).symm | exact om_n5 (by assumption) | exact om_z6 (by assumption) | exact (om_n5 (by assumption)).symm | exact (om_z6 (by assumption)).symm | exact om_e1 (by assumption) | exact om_e2 (by assumption) | exact om_e3 (by assumption))
  k_with "om" => with_reducible (first | ((show _ ≠ _); k_extra "ne") | ((show @LT.lt Nat _ (_ + _ + _) _); exact om_s2 (by assumption) (by decide)) | ((show @LT.lt Nat _ (_ + _) _); exact om_s1 (by assumption) (by decide)) | ((show @LT.lt Nat _ _ _); first | assumption | exact om_s0 (by assumption)) | ((show @LE.le Nat _ (_ + 1) _); exact om_succ (by assumption) (by assumption)) | ((show @LE.le Nat _ _ _); first | exact Nat.zero_le _ | assumption | exact om_le (by assumption) (by decide) | exact om_lt_le (by assumption) (by decide) | exact om_eq_le (by assumption) (by assumption) (by decide) | exact om_eq_le' (by assumption) (by assumption) (by decide)) | ((show _ ∧ _); first | exact om_rg (by assumption) (by decide) | exact om_r1 (by assumption) (by decide)))
  k_with "all" => exact fun p9 hp9 => Nat.ne_of_lt (by first | exact l1 p9 hp9 | exact Nat.lt_succ_of_lt (l1 p9 hp9))
  k_with "om" => with_reducible (first | exact tr_m1 hn9 | exact tr_m4 hn9 | exact tr_m5 hn9)
  k_with "WhlRest" => (k_dflt (refine' whl_turn ?hE ?_; (case hE => exact hE)); (try k_sweep))
  k_with "subscriptTail Name Name str int" => ((with_reducible show wpAny _ _ (subscriptTail _ _ (Value.str pat _) (Value.int _ _)) _ _ _); first | (refine tr_item (k := 0) hpat9 (by omega) (by omega) rfl ?_; intro t8' k8') | (refine tr_item (k := 1) hpat9 (by omega) (by omega) rfl ?_; intro t8' k8') | (refine tr_item (k := 2) hpat9 (by omega) (by omega) rfl ?_; intro t8' k8') | (refine tr_item (k := 3) hpat9 (by omega) (by omega) rfl ?_; intro t8' k8') | (refine tr_item (k := 4) hpat9 (by omega) (by omega) rfl ?_; intro t8' k8'))
  k_with "truthy ref" => (k_dflt (first | (refine truthy_snoc (by k_asm) (by k_mem) (by omega) ?_; intro k8') | (refine truthy_nil (by k_asm) (by k_mem) ?_; intro k8')))
  k_with "subscriptTail Name UnaryOp ref int" => (k_dflt (refine last_snoc (by k_asm) (by k_mem) ?_))
  k_with "compareOp IsNot str ref" => (refine isNot_str_ref ?_)
  k_with "callWith ref" => ((with_reducible show wpAny _ _ (callWith _ (Value.ref M9) [] _ []) _ _ _); k_dflt (refine callWith_bm (D := D9) ?_))
  k_with "BmAt" => (k_dflt (exact bmAt (by k_asm) (by k_mem)))
  k_with "call ref" => ((with_reducible show wpAny _ _ (call (Value.ref M9) [_]) _ _ _); k_dflt (refine' bound_appendK ?p1 ?p2 ?p3 ?p4 ?_ ?p5; (case p1 => k_asm); (case p2 => k_asm); (case p3 => k_mem); (case p4 => k_upd); (case p5 => (rw [List.size_toArray, sizeLine_eq]; omega))); intro h8' F8' N8'; (try simp only [List.push_toArray] at N8'))
  k_with "call ref" => (k_dflt (refine' esc_c ?k1 ?k2 ?k3 ?k4 ?k5 ?k6 ?k7 ?k8 ?x1 ?_; (case k1 => k_asm); (case k2 => k_asm); (case k3 => k_asm); (case k4 => k_asm); (case k5 => k_asm); (case k6 => first | exact rfl | assumption); (case k7 => ktr_room); (case k8 => ktr_units); (case x1 => exact abc_tok hc9); intro t9 h9 tk9 F9 N9; (try dsimp only); (try k_fold)))
  k_with "exec While" => (k_here; (with_reducible show wpAny _ _ (exec (Stmt.While (Expr.BoolOp _ _ _) _ _ _) _) _ _ _); k_dflt (refine whl_start 100 ?_))
  k_with "exec While" => (k_here; (with_reducible show wpAny _ _ (exec (Stmt.While (Expr.Constant _ _ _) _ _ _) _) _ _ _); k_dflt (refine whl_start 100 ?_))
  k_with "subscriptTail Name Slice str ref" => ((with_reducible show wpAny _ _ (subscriptTail _ _ (Value.str pat _) _) _ _ _); (rename Fr _ _ _ _ => sF'); (rename News _ _ _ _ => sN'); k_dflt (first | (refine tr_slice (a := 1) (b := 3) (z := ⟨#[a9, d9]⟩) hpat9 (by omega) (by omega) (by omega) (by omega) (by (simp only [List.length_cons]; omega)) rfl sF' sN' ?_) | (refine tr_slice (a := 1) (b := 3) (z := ⟨#[33, a9]⟩) hpat9 (by omega) (by omega) (by omega) (by omega) (by (simp only [List.length_cons]; omega)) rfl sF' sN' ?_) | (refine tr_slice (a := 1) (b := 4) (z := ⟨#[33, a9, d9]⟩) hpat9 (by omega) (by omega) (by omega) (by omega) (by (simp only [List.length_cons]; omega)) rfl sF' sN' ?_) | (refine tr_slice (a := 1) (b := 4) (z := ⟨#[97, 45, 99]⟩) hpat9 (by omega) (by omega) (by omega) (by omega) (by (simp only [List.length_cons]; omega)) rfl sF' sN' ?_) | (refine tr_slice (a := 1) (b := 2) (z := ⟨#[97]⟩) hpat9 (by omega) (by omega) (by omega) (by omega) (by (simp only [List.length_cons]; omega)) rfl sF' sN' ?_) | (refine tr_slice (a := 3) (b := 4) (z := ⟨#[99]⟩) hpat9 (by omega) (by omega) (by omega) (by omega) (by (simp only [List.length_cons]; omega)) rfl sF' sN' ?_)); intro h8' t8' k8' F8' N8')
  k_with "subscriptTail Name Slice str ref" => ((with_reducible show wpAny _ _ (subscriptTail _ _ (Value.str ⟨#[33, a9]⟩ _) _) _ _ _); (rename Fr _ _ _ _ => sF'); (rename News _ _ _ _ => sN'); k_dflt (refine slice1_w (y := ⟨#[a9]⟩) ((by first | decide +kernel | (apply tokE hc9; decide +kernel; decide +kernel; decide +kernel) | (apply tokE2 hc9; decide +kernel; decide +kernel; decide +kernel))) (Nat.le_of_ble_eq_true rfl) sF' sN' ?_); intro h8' t8' k8' F8' N8')
  k_with "subscriptTail Name Slice str ref" => ((with_reducible show wpAny _ _ (subscriptTail _ _ (Value.str ⟨#[33, a9, d9]⟩ _) _) _ _ _); (rename Fr _ _ _ _ => sF'); (rename News _ _ _ _ => sN'); k_dflt (refine slice1_w (y := ⟨#[a9, d9]⟩) ((by first | decide +kernel | (apply tokE hc9; decide +kernel; decide +kernel; decide +kernel) | (apply tokE2 hc9; decide +kernel; decide +kernel; decide +kernel))) (Nat.le_of_ble_eq_true rfl) sF' sN' ?_); intro h8' t8' k8' F8' N8')
  k_with "call builtin:str.find" => (k_dflt (first | (refine find_hitP (a := 2) (b := 4) hpat9 (by omega) (by omega) rfl rfl (by omega) (by (simp only [List.length_cons]; omega)) ?_) | (refine find_missP (a := 5) (b := 4) hpat9 (by omega) (by omega) rfl (by omega) (by (simp only [List.length_cons]; omega)) ?_)); intro t8' k8')
  k_with "compareOp NotIn str str" => first | (refine notIn_w (b := true) ((by first | decide +kernel | (apply tokE hc9; decide +kernel; decide +kernel; decide +kernel) | (apply tokE2 hc9; decide +kernel; decide +kernel; decide +kernel))) ?_) | (refine notIn_w (b := false) ((by first | decide +kernel | (apply tokE hc9; decide +kernel; decide +kernel; decide +kernel) | (apply tokE2 hc9; decide +kernel; decide +kernel; decide +kernel))) ?_)
  k_with "call builtin:str.replace" => (refine rep_none ((by first | decide +kernel | (apply tokE hc9; decide +kernel; decide +kernel; decide +kernel) | (apply tokE2 hc9; decide +kernel; decide +kernel; decide +kernel))) ?_)
  k_with "getMethod ref" => (k_dflt (refine gm_sub (by k_asm) (by assumption) ?_))
  k_with "call builtin:re.Pattern.sub" => (k_dflt (refine' resub_K ?p1 ?p2 ?p3 ?p4 ?p5 ?p6 ?p7 ?p8 ?p9 ?_; (case p1 => k_asm); (case p2 => k_asm); (case p3 => assumption); (case p4 => k_mem); (case p5 => assumption); (case p6 => exact (by first | decide +kernel | (apply tokE hc9; decide +kernel; decide +kernel; decide +kernel) | (apply tokE2 hc9; decide +kernel; decide +kernel; decide +kernel))); (case p7 => exact Nat.le_of_ble_eq_true rfl); (case p8 => exact Nat.le_of_ble_eq_true rfl); (case p9 => rfl)); intro h8' t8' k8' F8' N8')
  k_with "eval Lambda" => (k_here; k_dflt (refine' kla_eval ?d0 ?_; (case d0 => exact rfl)); k_dflt (refine' lam_K ?F ?N ?T ?C ?cd ?U ?ht ?cl ?_; (case F => k_asm); (case N => k_asm); (case T => assumption); (case C => exact tab_at hC B'); (case cd => exact rfl); (case U => k_updF); (case ht => assumption); (case cl => exact rfl)); intro f8' fo8' h8' k8' ps8' F8' N8' hf8' ht8' l8'; (try dsimp only at N8'); (try k_lt l8'))
  k_with "eval GeneratorExp" => (k_here; k_dflt (refine' genexp_K (vs := [_, _]) (ts := [Str.ofString "a", Str.ofString "c"]) ?p1 ?p2 ?p3 ?p4 ?p5 ?p6 ?p7 ?p8 ?p9 ?pA ?pB ?pC ?pD ?pE ?pF ?pG ?pH ?pI ?pJ ?pK ?pL ?_ ?pM; (case p1 => k_asm); (case p2 => k_asm); (case p3 => assumption); (case p4 => exact tab_at hC B'); (case p5 => rfl); (case p6 => k_updF); (case p7 => assumption); (case p8 => exact G9); (case p9 => k_mem); (case pA => exact .cons _ _ (.cons _ _ .nil)); (case pB => rfl); (case pC => rfl); (case pD => rfl); (case pE => with_unfolding_all rfl); (case pF => decide); (case pG => rfl); (case pH => rfl); (case pI => rfl); (case pJ => ktr_room); (case pK => ((rename Fr _ _ _ _ => gF'); exact wpAny_Name (wpAny_loadName_local rfl rfl gF'.ns (by with_unfolding_all rfl) ⟨rfl, rfl⟩) (by decide))); (case pL => (intro C8 code8 A8 E8 a8 t8 s8 m8 ha8 hn8 hm8; (have hz8 : a8 = Str.ofString "a" ∨ a8 = Str.ofString "c" := by simpa using ha8); rcases hz8 with rfl | rfl <;> exact elt_K rfl rfl (by decide) hn8 hm8 (by decide +kernel) (by decide +kernel))); (case pM => (intro x8; with_unfolding_all rfl))); intro aG sG psG KG FG NG hpsG hGG XG hLKG hnKG hbKG; (try dsimp only at NG hnKG))
  k_with "call builtin:str.join" => (k_dflt (refine' join_genK ?p1 ?p2 ?p3 XG hLKG ?p4 ?p5 ?p6 ?_; (case p1 => k_asm); (case p2 => exact NG); (case p3 => exact hGG); (case p4 => exact hnKG); (case p5 => decide +kernel); (case p6 => decide)); intro s8' t8' F8' N8' G8')
  k_with "truthy str" => (refine KXt.truthy (by with_unfolding_all rfl) (Nat.le_of_ble_eq_true rfl) ?_; intro k8')
  k_with "ite" => (k_dflt (first | refine ite_pos ((by first | decide +kernel | (apply tokE hc9; decide +kernel; decide +kernel; decide +kernel) | (apply tokE2 hc9; decide +kernel; decide +kernel; decide +kernel))) ?_ | refine ite_neg ((by first | decide +kernel | (apply tokE hc9; decide +kernel; decide +kernel; decide +kernel) | (apply tokE2 hc9; decide +kernel; decide +kernel; decide +kernel))) ?_))
  k_with "formatField str" => (refine formatField_str ?_ (Nat.le_of_ble_eq_true rfl); intro t8' k8')
  k_with "subscriptTail Name BinOp ref int" => (k_dflt (refine kim_list (by k_asm) (by k_mem) rfl rfl (by omega) (by omega) (by rfl) ?_))
  k_with "subscriptTail Name Name ref int" => (k_dflt (refine kim_list (by k_asm) (by k_mem) rfl rfl (by omega) (by omega) (by rfl) ?_))
  k_steps
  all_goals first | (exfalso; omega) | ((rename Fr _ _ _ _ => eF'); (rename News _ _ _ _ => eN'); (refine' gw_end ⟨⟨_, _⟩, q9 + 1, _, _⟩ eF' eN' ?hGG ?hn ?hk ?hr ?hp ?hm); (case hGG => assumption); (case hk => with_unfolding_all kst_all); (case hn => ((try dsimp only); with_unfolding_all exact List.forall_mem_cons.mpr ⟨(by repeat (first | assumption | exact List.mem_cons_self | exact List.mem_append_left _ (by assumption) | exact List.mem_append_right _ (by assumption) | refine List.mem_cons_of_mem _ ?_)), List.forall_mem_cons.mpr ⟨(by repeat (first | assumption | exact List.mem_cons_self | exact List.mem_append_left _ (by assumption) | exact List.mem_append_right _ (by assumption) | refine List.mem_cons_of_mem _ ?_)), List.forall_mem_cons.mpr ⟨(by repeat (first | assumption | exact List.mem_cons_self | exact List.mem_append_left _ (by assumption) | exact List.mem_append_right _ (by assumption) | refine List.mem_cons_of_mem _ ?_)), List.forall_mem_cons.mpr ⟨(by repeat (first | assumption | exact List.mem_cons_self | exact List.mem_append_left _ (by assumption) | exact List.mem_append_right _ (by assumption) | refine List.mem_cons_of_mem _ ?_)), List.forall_mem_nil _⟩⟩⟩⟩)); (case hr => with_unfolding_all ksw_same); (case hp => refine ⟨?_, by assumption⟩; first | exact tr_some (tk := [_]) hpat9 (by first | rfl | omega | (dsimp only; omega)) hT9 hparts9 hvs9 hvl9 (Nat.le_of_ble_eq_true rfl) | exact tr_some (tk := [_, _, _, _]) hpat9 (by first | rfl | omega | (dsimp only; omega) | (simp only [List.length_cons, List.length_nil]; omega)) hT9 hparts9 hvs9 hvl9 (Nat.le_of_ble_eq_true rfl) | exact tr_some (tk := [_, _, _, _, _]) hpat9 (by first | rfl | omega | (dsimp only; omega) | (simp only [List.length_cons, List.length_nil]; omega)) hT9 hparts9 hvs9 hvl9 (Nat.le_of_ble_eq_true rfl) | exact tr_star hpat9 (by first | rfl | omega | (dsimp only; omega)) hT9 hparts9 hvs9 hvl9); (case hm => (dsimp only; omega)))
end
set_option Elab.async false
set_option maxRecDepth 100000
set_option maxHeartbeats 5000000
section
variable {w : World} {o : OsState} {mean : ExcName → Option Value} {loose : List Str} {mg mb : Str → Option Value} {dp un : Nat} {gd : Option (List Code)} {cn : Str} {cs : Scope} {a : Addr} {ccd : Value} {cl : List (Str × Addr)} {outer : List Env} {A₀ : Around} {base h₀ : Heap} {L : Addr} {m : Str → Option Value} {news : List (Addr × Obj)} {s : Shared} {Q E : Value → Shared → Prop}
theorem trt3 (B : Below A₀ base outer h₀) (X : (KF w.params).In h₀) (T : Top topProg loose mean mg mb h₀) (hd : dp + 2 < recursionLimit) (hu : un + 60 < cLine) (hC : CodeHd base 117 113) {Q : Flow → Shared → Prop} {pat : Str} {t u it9 : Tok} {S M9 D9 : Addr} {ti tn : Tok} {parts done9 rem9 : List (Option Str)} {q9 : Nat} {ps9 : Array Value} {pre9 cs9 : List Nat} {u9 : Str → Option Value} {vs9 : List Value} 
    (hS3 : @Ne Nat S 113) (l1 : @LT.lt Nat _ S L ∧ @LT.lt Nat _ 113 L) (l2 : @LT.lt Nat _ S D9 ∧ @LT.lt Nat _ 113 D9) (l3 : @LT.lt Nat _ D9 M9 ∧ @LT.lt Nat _ S M9 ∧ @LT.lt Nat _ 113 M9) (hl : pat.length ≤ 100) (hpat9 : pat.cps.toList = pre9 ++ 63 :: cs9) (hT9 : Tk true cs9 rem9) (hparts9 : parts = done9 ++ some (Str.ofString ".") :: rem9) (hvs9 : PartsAre S vs9 done9) (hvl9 : (vs9).length ≤ pre9.length) (hps9 : TabOk ps9) (G9 : Bare o s) (hE : PassesOwn (model (OpenLaw.row PySem.Challenge.rw_in0163_01).toRowW.prog w) (ktrTop dp un gd (Str.ofString "_translate") trSc.1 L 118 (.ref 117) [] outer) (envX (Str.ofString "_translate") trSc.1 L 118 (.ref 117) []) E)
    (F9 : Fr h₀ L s.heap fun z => if z = Str.ofString "i" then some (.int (pre9.length : Int) it9) else if ([Str.ofString "c", Str.ofString "j", Str.ofString "stuff", Str.ofString "chunks", Str.ofString "k", Str.ofString "chunk"]).contains z then u9 z else (trM pat t u S M9 D9 ti tn) z) (N9 : News h₀ L s.heap [(M9, bmO D9), (D9, listOf (List.toArray vs9) q9), (S, obO), (113, tabObj ps9)]) :
    wpAny (model (OpenLaw.row PySem.Challenge.rw_in0163_01).toRowW.prog w) (ktrTop dp un gd (Str.ofString "_translate") trSc.1 L 118 (.ref 117) [] outer) (isTrue trTest.1 (envX (Str.ofString "_translate") trSc.1 L 118 (.ref 117) []) (eval trTest.1 (envX (Str.ofString "_translate") trSc.1 L 118 (.ref 117) []))) (fun b s₂ => if b = true then wpAny (model (OpenLaw.row PySem.Challenge.rw_in0163_01).toRowW.prog w) (ktrTop dp un gd (Str.ofString "_translate") trSc.1 L 118 (.ref 117) [] outer) (execs trBody.1 (envX (Str.ofString "_translate") trSc.1 L 118 (.ref 117) [])) (GwPost o h₀ L (σ := (Int × Tok) × Nat × List Value × Array Value) (fun c => [(M9, bmO D9), (D9, listOf c.2.2.1.toArray c.2.1), (S, obO), (113, tabObj c.2.2.2)]) (fun c => [(Str.ofString "i", .int c.1.1 c.1.2)]) [Str.ofString "c", Str.ofString "j", Str.ofString "stuff", Str.ofString "chunks", Str.ofString "k", Str.ofString "chunk"] (trM pat t u S M9 D9 ti tn) (fun c => TrP pat parts S c.1.1 c.2.2.1 ∧ TabOk c.2.2.2) (fun c => pat.length - c.1.1.toNat) Q ⟨⟨(pre9.length : Int), it9⟩, q9, vs9, ps9⟩) E s₂ else Q .next s₂) E s := by
  have hn9 := tr_len hpat9
  have B' := B
  (try simp only [List.length_cons, List.length_nil] at hn9)
  dsimp only [trTest, trBody, trSc]
  revert X; k_fill; intro X
  k_with_none
  k_with "execs cons" => ((k_dflt (refine wpAny_execs_cons ?_)); (try dsimp only))
  k_with "execs nil" => (k_dflt (refine wpAny_execs_nil ?_))
  k_with "exec If" => (k_dflt (refine wpAny_If ?_))
  k_with "exec Assign" => (k_dflt (refine wpAny_Assign_Name ?_))
  k_with "eval Name" => (k_dflt (refine' nameX_L ?F ?v ?_ ?a ?b ?d; (case F => k_asm); (case a => rfl); (case b => kernel_rfl!); (case d => kernel_rfl); (case v => first | rfl | assumption); k_whole))
  k_with "storeName" => (k_dflt (refine' storeX_L ?F ?N ?_ ?a ?b; (case F => k_asm); (case N => k_asm); (case a => rfl); (case b => rfl); k_whole; intro hS7 FS7 NS7; (try k_sweep)))
  k_with "spliced" => (k_dflt (first | refine args_cons ?_ | (refine args_nil ?_; try simp only [List.cons_append, List.nil_append])))
  k_with "ite" => (k_dflt (first | refine ite_pos (by decide +kernel) ?_ | refine ite_neg (by decide +kernel) ?_))
  k_with "And" => ((with_reducible show PySem.Str.length (_ ++ _) ≤ sizeLine ∧ _); refine ⟨Nat.le_of_ble_eq_true (by kernel_rfl!), ?_⟩)
  k_with "exec Assign cons Tuple" => (k_dflt (refine Assign_Tuple ?_))
  k_with "callWith ref" => (k_dflt (refine' callWith_K ?k1 ?k2 ?_; (case k1 => k_asm); (case k2 => k_is); k_whole))
  k_with "truthy bool" => (k_dflt (refine wpAny_truthy_bool ?_))
  k_with "isTrue Compare" => (k_dflt (refine wpAny_isTrue_Compare1 ?_))
  k_with "room" => (k_dflt (first | exact om_s2 (by assumption) (by rfl) | exact om_s1 (by assumption) (by rfl) | exact om_s0 (by assumption)))
  k_with "ne" => with_reducible (first | assumption | exact om_sy (by assumption) | exact Nat.ne_of_gt (by assumption) | exact Nat.ne_of_lt (by assumption) | exact om_n1 (by assumption) | exact om_n2 (by assumption) | exact om_n3 (by assumption) | exact om_z2 (by assumption) | exact om_z3 (by assumption) | exact om_z4 (by assumption) | exact (om_n1 (by assumption)).symm | exact (om_n2 (by assumption)).symm | exact (om_n3 (by assumption)).symm | exact (om_z2 (by assumption)).symm | exact (om_z3 (by assumption)).symm | exact (om_z4 (by assumption)).symm | exact om_n4 (by assumption) | exact om_z5 (by assumption) | exact (om_n4 (by assumption)).symm | exact (om_z5 (by assumption)).symm | exact om_n5 (by assumption) | exact om_z6 (by assumption) | exact (om_n5 (by assumption)).symm | exact (om_z6 (by assumption)).symm | exact om_e1 (by assumption) | exact om_e2 (by assumption) | exact om_e3 (by assumption))
  k_with "om" => with_reducible (first | ((show _ ≠ _); k_extra "ne") | ((show @LT.lt Nat _ (_ + _ + _) _); exact om_s2 (by assumption) (by decide)) | ((show @LT.lt Nat _ (_ + _) _); exact om_s1 (by assumption) (by decide)) | ((show @LT.lt Nat _ _ _); first | assumption | exact om_s0 (by assumption)) | ((show @LE.le Nat _ (_ + 1) _); exact om_succ (by assumption) (by assumption)) | ((show @LE.le Nat _ _ _); first | exact Nat.zero_le _ | assumption | exact om_le (by assumption) (by decide) | exact om_lt_le (by assumption) (by decide) | exact om_eq_le (by assumption) (by assumption) (by decide) | exact om_eq_le' (by assumption) (by assumption) (by decide)) | ((show _ ∧ _); first | exact om_rg (by assumption) (by decide) | exact om_r1 (by assumption) (by decide)))
  k_with "all" => exact fun p9 hp9 => Nat.ne_of_lt (by first | exact l1 p9 hp9 | exact Nat.lt_succ_of_lt (l1 p9 hp9))
  k_with "om" => with_reducible (first | exact tr_m1 hn9 | exact tr_m4 hn9 | exact tr_m5 hn9)
  k_with "WhlRest" => (k_dflt (refine' whl_turn ?hE ?_; (case hE => exact hE)); (try k_sweep))
  k_with "subscriptTail Name Name str int" => ((with_reducible show wpAny _ _ (subscriptTail _ _ (Value.str pat _) (Value.int _ _)) _ _ _); first | (refine tr_item (k := 0) hpat9 (by omega) (by omega) rfl ?_; intro t8' k8') | (refine tr_item (k := 1) hpat9 (by omega) (by omega) rfl ?_; intro t8' k8') | (refine tr_item (k := 2) hpat9 (by omega) (by omega) rfl ?_; intro t8' k8') | (refine tr_item (k := 3) hpat9 (by omega) (by omega) rfl ?_; intro t8' k8') | (refine tr_item (k := 4) hpat9 (by omega) (by omega) rfl ?_; intro t8' k8'))
  k_with "truthy ref" => (k_dflt (first | (refine truthy_snoc (by k_asm) (by k_mem) (by omega) ?_; intro k8') | (refine truthy_nil (by k_asm) (by k_mem) ?_; intro k8')))
  k_with "subscriptTail Name UnaryOp ref int" => (k_dflt (refine last_snoc (by k_asm) (by k_mem) ?_))
  k_with "compareOp IsNot str ref" => (refine isNot_str_ref ?_)
  k_with "callWith ref" => ((with_reducible show wpAny _ _ (callWith _ (Value.ref M9) [] _ []) _ _ _); k_dflt (refine callWith_bm (D := D9) ?_))
  k_with "BmAt" => (k_dflt (exact bmAt (by k_asm) (by k_mem)))
  k_with "call ref" => ((with_reducible show wpAny _ _ (call (Value.ref M9) [_]) _ _ _); k_dflt (refine' bound_appendK ?p1 ?p2 ?p3 ?p4 ?_ ?p5; (case p1 => k_asm); (case p2 => k_asm); (case p3 => k_mem); (case p4 => k_upd); (case p5 => (rw [List.size_toArray, sizeLine_eq]; omega))); intro h8' F8' N8'; (try simp only [List.push_toArray] at N8'))
  k_with "call ref" => (k_dflt (refine' esc_c ?k1 ?k2 ?k3 ?k4 ?k5 ?k6 ?k7 ?k8 ?x1 ?_; (case k1 => k_asm); (case k2 => k_asm); (case k3 => k_asm); (case k4 => k_asm); (case k5 => k_asm); (case k6 => first | exact rfl | assumption); (case k7 => ktr_room); (case k8 => ktr_units); (case x1 => exact abc_tok hc9); intro t9 h9 tk9 F9 N9; (try dsimp only); (try k_fold)))
  k_with "exec While" => (k_here; (with_reducible show wpAny _ _ (exec (Stmt.While (Expr.BoolOp _ _ _) _ _ _) _) _ _ _); k_dflt (refine whl_start 100 ?_))
  k_with "exec While" => (k_here; (with_reducible show wpAny _ _ (exec (Stmt.While (Expr.Constant _ _ _) _ _ _) _) _ _ _); k_dflt (refine whl_start 100 ?_))
  k_with "subscriptTail Name Slice str ref" => ((with_reducible show wpAny _ _ (subscriptTail _ _ (Value.str pat _) _) _ _ _); (rename Fr _ _ _ _ => sF'); (rename News _ _ _ _ => sN'); k_dflt (first | (refine tr_slice (a := 1) (b := 3) (z := ⟨#[a9, d9]⟩) hpat9 (by omega) (by omega) (by omega) (by omega) (by (simp only [List.length_cons]; omega)) rfl sF' sN' ?_) | (refine tr_slice (a := 1) (b := 3) (z := ⟨#[33, a9]⟩) hpat9 (by omega) (by omega) (by omega) (by omega) (by (simp only [List.length_cons]; omega)) rfl sF' sN' ?_) | (refine tr_slice (a := 1) (b := 4) (z := ⟨#[33, a9, d9]⟩) hpat9 (by omega) (by omega) (by omega) (by omega) (by (simp only [List.length_cons]; omega)) rfl sF' sN' ?_) | (refine tr_slice (a := 1) (b := 4) (z := ⟨#[97, 45, 99]⟩) hpat9 (by omega) (by omega) (by omega) (by omega) (by (simp only [List.length_cons]; omega)) rfl sF' sN' ?_) | (refine tr_slice (a := 1) (b := 2) (z := ⟨#[97]⟩) hpat9 (by omega) (by omega) (by omega) (by omega) (by (simp only [List.length_cons]; omega)) rfl sF' sN' ?_) | (refine tr_slice (a := 3) (b := 4) (z := ⟨#[99]⟩) hpat9 (by omega) (by omega) (by omega) (by omega) (by (simp only [List.length_cons]; omega)) rfl sF' sN' ?_)); intro h8' t8' k8' F8' N8')
  k_with "subscriptTail Name Slice str ref" => ((with_reducible show wpAny _ _ (subscriptTail _ _ (Value.str ⟨#[33, a9]⟩ _) _) _ _ _); (rename Fr _ _ _ _ => sF'); (rename News _ _ _ _ => sN'); k_dflt (refine slice1_w (y := ⟨#[a9]⟩) ((by first | decide +kernel | (apply tokE hc9; decide +kernel; decide +kernel; decide +kernel) | (apply tokE2 hc9; decide +kernel; decide +kernel; decide +kernel))) (Nat.le_of_ble_eq_true rfl) sF' sN' ?_); intro h8' t8' k8' F8' N8')
  k_with "subscriptTail Name Slice str ref" => ((with_reducible show wpAny _ _ (subscriptTail _ _ (Value.str ⟨#[33, a9, d9]⟩ _) _) _ _ _); (rename Fr _ _ _ _ => sF'); (rename News _ _ _ _ => sN'); k_dflt (refine slice1_w (y := ⟨#[a9, d9]⟩) ((by first | decide +kernel | (apply tokE hc9; decide +kernel; decide +kernel; decide +kernel) | (apply tokE2 hc9; decide +kernel; decide +kernel; decide +kernel))) (Nat.le_of_ble_eq_true rfl) sF' sN' ?_); intro h8' t8' k8' F8' N8')
  k_with "call builtin:str.find" => (k_dflt (first | (refine find_hitP (a := 2) (b := 4) hpat9 (by omega) (by omega) rfl rfl (by omega) (by (simp only [List.length_cons]; omega)) ?_) | (refine find_missP (a := 5) (b := 4) hpat9 (by omega) (by omega) rfl (by omega) (by (simp only [List.length_cons]; omega)) ?_)); intro t8' k8')
  k_with "compareOp NotIn str str" => first | (refine notIn_w (b := true) ((by first | decide +kernel | (apply tokE hc9; decide +kernel; decide +kernel; decide +kernel) | (apply tokE2 hc9; decide +kernel; decide +kernel; decide +kernel))) ?_) | (refine notIn_w (b := false) ((by first | decide +kernel | (apply tokE hc9; decide +kernel; decide +kernel; decide +kernel) | (apply tokE2 hc9; decide +kernel; decide +kernel; decide +kernel))) ?_)
  k_with "call builtin:str.replace" => (refine rep_none ((by first | decide +kernel | (apply tokE hc9; decide +kernel; decide +kernel; decide +kernel) | (apply tokE2 hc9; decide +kernel; decide +kernel; decide +kernel))) ?_)
  k_with "getMethod ref" => (k_dflt (refine gm_sub (by k_asm) (by assumption) ?_))
  k_with "call builtin:re.Pattern.sub" => (k_dflt (refine' resub_K ?p1 ?p2 ?p3 ?p4 ?p5 ?p6 ?p7 ?p8 ?p9 ?_; (case p1 => k_asm); (case p2 => k_asm); (case p3 => assumption); (case p4 => k_mem); (case p5 => assumption); (case p6 => exact (by first | decide +kernel | (apply tokE hc9; decide +kernel; decide +kernel; decide +kernel) | (apply tokE2 hc9; decide +kernel; decide +kernel; decide +kernel))); (case p7 => exact Nat.le_of_ble_eq_true rfl); (case p8 => exact Nat.le_of_ble_eq_true rfl); (case p9 => rfl)); intro h8' t8' k8' F8' N8')
  k_with "eval Lambda" => (k_here; k_dflt (refine' kla_eval ?d0 ?_; (case d0 => exact rfl)); k_dflt (refine' lam_K ?F ?N ?T ?C ?cd ?U ?ht ?cl ?_; (case F => k_asm); (case N => k_asm); (case T => assumption); (case C => exact tab_at hC B'); (case cd => exact rfl); (case U => k_updF); (case ht => assumption); (case cl => exact rfl)); intro f8' fo8' h8' k8' ps8' F8' N8' hf8' ht8' l8'; (try dsimp only at N8'); (try k_lt l8'))
  k_with "eval GeneratorExp" => (k_here; k_dflt (refine' genexp_K (vs := [_, _]) (ts := [Str.ofString "a", Str.ofString "c"]) ?p1 ?p2 ?p3 ?p4 ?p5 ?p6 ?p7 ?p8 ?p9 ?pA ?pB ?pC ?pD ?pE ?pF ?pG ?pH ?pI ?pJ ?pK ?pL ?_ ?pM; (case p1 => k_asm); (case p2 => k_asm); (case p3 => assumption); (case p4 => exact tab_at hC B'); (case p5 => rfl); (case p6 => k_updF); (case p7 => assumption); (case p8 => exact G9); (case p9 => k_mem); (case pA => exact .cons _ _ (.cons _ _ .nil)); (case pB => rfl); (case pC => rfl); (case pD => rfl); (case pE => with_unfolding_all rfl); (case pF => decide); (case pG => rfl); (case pH => rfl); (case pI => rfl); (case pJ => ktr_room); (case pK => ((rename Fr _ _ _ _ => gF'); exact wpAny_Name (wpAny_loadName_local rfl rfl gF'.ns (by with_unfolding_all rfl) ⟨rfl, rfl⟩) (by decide))); (case pL => (intro C8 code8 A8 E8 a8 t8 s8 m8 ha8 hn8 hm8; (have hz8 : a8 = Str.ofString "a" ∨ a8 = Str.ofString "c" := by simpa using ha8); rcases hz8 with rfl | rfl <;> exact elt_K rfl rfl (by decide) hn8 hm8 (by decide +kernel) (by decide +kernel))); (case pM => (intro x8; with_unfolding_all rfl))); intro aG sG psG KG FG NG hpsG hGG XG hLKG hnKG hbKG; (try dsimp only at NG hnKG))
  k_with "call builtin:str.join" => (k_dflt (refine' join_genK ?p1 ?p2 ?p3 XG hLKG ?p4 ?p5 ?p6 ?_; (case p1 => k_asm); (case p2 => exact NG); (case p3 => exact hGG); (case p4 => exact hnKG); (case p5 => decide +kernel); (case p6 => decide)); intro s8' t8' F8' N8' G8')
  k_with "truthy str" => (refine KXt.truthy (by with_unfolding_all rfl) (Nat.le_of_ble_eq_true rfl) ?_; intro k8')
  k_with "ite" => (k_dflt (first | refine ite_pos ((by first | decide +kernel | (apply tokE hc9; decide +kernel; decide +kernel; decide +kernel) | (apply tokE2 hc9; decide +kernel; decide +kernel; decide +kernel))) ?_ | refine ite_neg ((by first | decide +kernel | (apply tokE hc9; decide +kernel; decide +kernel; decide +kernel) | (apply tokE2 hc9; decide +kernel; decide +kernel; decide +kernel))) ?_))
  k_with "formatField str" => (refine formatField_str ?_ (Nat.le_of_ble_eq_true rfl); intro t8' k8')
  k_with "subscriptTail Name BinOp ref int" => (k_dflt (refine kim_list (by k_asm) (by k_mem) rfl rfl (by omega) (by omega) (by rfl) ?_))
  k_with "subscriptTail Name Name ref int" => (k_dflt (refine kim_list (by k_asm) (by k_mem) rfl rfl (by omega) (by omega) (by rfl) ?_))
  k_steps
  all_goals first | (exfalso; omega) | ((rename Fr _ _ _ _ => eF'); (rename News _ _ _ _ => eN'); (refine' gw_end ⟨⟨_, _⟩, q9 + 1, _, _⟩ eF' eN' ?hGG ?hn ?hk ?hr ?hp ?hm); (case hGG => assumption); (case hk => with_unfolding_all kst_all); (case hn => ((try dsimp only); with_unfolding_all exact List.forall_mem_cons.mpr ⟨(by repeat (first | assumption | exact List.mem_cons_self | exact List.mem_append_left _ (by assumption) | exact List.mem_append_right _ (by assumption) | refine List.mem_cons_of_mem _ ?_)), List.forall_mem_cons.mpr ⟨(by repeat (first | assumption | exact List.mem_cons_self | exact List.mem_append_left _ (by assumption) | exact List.mem_append_right _ (by assumption) | refine List.mem_cons_of_mem _ ?_)), List.forall_mem_cons.mpr ⟨(by repeat (first | assumption | exact List.mem_cons_self | exact List.mem_append_left _ (by assumption) | exact List.mem_append_right _ (by assumption) | refine List.mem_cons_of_mem _ ?_)), List.forall_mem_cons.mpr ⟨(by repeat (first | assumption | exact List.mem_cons_self | exact List.mem_append_left _ (by assumption) | exact List.mem_append_right _ (by assumption) | refine List.mem_cons_of_mem _ ?_)), List.forall_mem_nil _⟩⟩⟩⟩)); (case hr => with_unfolding_all ksw_same); (case hp => refine ⟨?_, by assumption⟩; first | exact tr_some (tk := [_]) hpat9 (by first | rfl | omega | (dsimp only; omega)) hT9 hparts9 hvs9 hvl9 (Nat.le_of_ble_eq_true rfl) | exact tr_some (tk := [_, _, _, _]) hpat9 (by first | rfl | omega | (dsimp only; omega) | (simp only [List.length_cons, List.length_nil]; omega)) hT9 hparts9 hvs9 hvl9 (Nat.le_of_ble_eq_true rfl) | exact tr_some (tk := [_, _, _, _, _]) hpat9 (by first | rfl | omega | (dsimp only; omega) | (simp only [List.length_cons, List.length_nil]; omega)) hT9 hparts9 hvs9 hvl9 (Nat.le_of_ble_eq_true rfl) | exact tr_star hpat9 (by first | rfl | omega | (dsimp only; omega)) hT9 hparts9 hvs9 hvl9); (case hm => (dsimp only; omega)))
end
theorem post_gen {α : Type} {M : Model} {A : Around} {x : Sem α} {P : α → Shared → Prop} {E : Value → Shared → Prop} {s : Shared} (h : ∀ T : α → Shared → Prop, (∀ f s', P f s' → T f s') → wpAny M A x T E s) : wpAny M A x P E s :=
  h P fun _ _ z => z
theorem thru_ {α : Type} {T P : α → Shared → Prop} {f : α} {s' : Shared} (h : ∀ f s', P f s' → T f s') (p : P f s') : T f s' := h f s' p
set_option Elab.async false
set_option maxRecDepth 100000
set_option maxHeartbeats 5000000
section
variable {w : World} {o : OsState} {mean : ExcName → Option Value} {loose : List Str} {mg mb : Str → Option Value} {dp un : Nat} {gd : Option (List Code)} {cn : Str} {cs : Scope} {a : Addr} {ccd : Value} {cl : List (Str × Addr)} {outer : List Env} {A₀ : Around} {base h₀ : Heap} {L : Addr} {m : Str → Option Value} {news : List (Addr × Obj)} {s : Shared} {Q E : Value → Shared → Prop}
theorem trt4 (B : Below A₀ base outer h₀) (X : (KF w.params).In h₀) (T : Top topProg loose mean mg mb h₀) (hd : dp + 2 < recursionLimit) (hu : un + 60 < cLine) (hC : CodeHd base 117 113) {Q : Flow → Shared → Prop} {pat : Str} {t u it9 : Tok} {S M9 D9 : Addr} {ti tn : Tok} {parts done9 rem9 : List (Option Str)} {q9 : Nat} {ps9 : Array Value} {pre9 cs9 : List Nat} {u9 : Str → Option Value} {vs9 : List Value} {a9 : Nat} 
    (hS3 : @Ne Nat S 113) (l1 : @LT.lt Nat _ S L ∧ @LT.lt Nat _ 113 L) (l2 : @LT.lt Nat _ S D9 ∧ @LT.lt Nat _ 113 D9) (l3 : @LT.lt Nat _ D9 M9 ∧ @LT.lt Nat _ S M9 ∧ @LT.lt Nat _ 113 M9) (hl : pat.length ≤ 100) (hpat9 : pat.cps.toList = pre9 ++ a9 :: cs9) (hT9 : Tk true cs9 rem9) (hparts9 : parts = done9 ++ some ⟨#[a9]⟩ :: rem9) (hvs9 : PartsAre S vs9 done9) (hvl9 : (vs9).length ≤ pre9.length) (hc9 : a9 = 97 ∨ a9 = 98 ∨ a9 = 99) (hps9 : TabOk ps9) (G9 : Bare o s) (hE : PassesOwn (model (OpenLaw.row PySem.Challenge.rw_in0163_01).toRowW.prog w) (ktrTop dp un gd (Str.ofString "_translate") trSc.1 L 118 (.ref 117) [] outer) (envX (Str.ofString "_translate") trSc.1 L 118 (.ref 117) []) E)
    (F9 : Fr h₀ L s.heap fun z => if z = Str.ofString "i" then some (.int (pre9.length : Int) it9) else if ([Str.ofString "c", Str.ofString "j", Str.ofString "stuff", Str.ofString "chunks", Str.ofString "k", Str.ofString "chunk"]).contains z then u9 z else (trM pat t u S M9 D9 ti tn) z) (N9 : News h₀ L s.heap [(M9, bmO D9), (D9, listOf (List.toArray vs9) q9), (S, obO), (113, tabObj ps9)]) :
    wpAny (model (OpenLaw.row PySem.Challenge.rw_in0163_01).toRowW.prog w) (ktrTop dp un gd (Str.ofString "_translate") trSc.1 L 118 (.ref 117) [] outer) (isTrue trTest.1 (envX (Str.ofString "_translate") trSc.1 L 118 (.ref 117) []) (eval trTest.1 (envX (Str.ofString "_translate") trSc.1 L 118 (.ref 117) []))) (fun b s₂ => if b = true then wpAny (model (OpenLaw.row PySem.Challenge.rw_in0163_01).toRowW.prog w) (ktrTop dp un gd (Str.ofString "_translate") trSc.1 L 118 (.ref 117) [] outer) (execs trBody.1 (envX (Str.ofString "_translate") trSc.1 L 118 (.ref 117) [])) (GwPost o h₀ L (σ := (Int × Tok) × Nat × List Value × Array Value) (fun c => [(M9, bmO D9), (D9, listOf c.2.2.1.toArray c.2.1), (S, obO), (113, tabObj c.2.2.2)]) (fun c => [(Str.ofString "i", .int c.1.1 c.1.2)]) [Str.ofString "c", Str.ofString "j", Str.ofString "stuff", Str.ofString "chunks", Str.ofString "k", Str.ofString "chunk"] (trM pat t u S M9 D9 ti tn) (fun c => TrP pat parts S c.1.1 c.2.2.1 ∧ TabOk c.2.2.2) (fun c => pat.length - c.1.1.toNat) Q ⟨⟨(pre9.length : Int), it9⟩, q9, vs9, ps9⟩) E s₂ else Q .next s₂) E s := by
  have hn9 := tr_len hpat9
  have B' := B
  (try simp only [List.length_cons, List.length_nil] at hn9)
  dsimp only [trTest, trBody, trSc]
  revert X; k_fill; intro X
  k_with_none
  k_with "execs cons" => ((k_dflt (refine wpAny_execs_cons (post_gen fun T7 hT7 => ?_))); (try dsimp only))
  k_with "execs nil" => (k_dflt (refine wpAny_execs_nil ?_))
  k_with "exec If" => (k_dflt (refine wpAny_If ?_))
  k_with "exec Assign" => (k_dflt (refine wpAny_Assign_Name ?_))
  k_with "eval Name" => (k_dflt (refine' nameX_L ?F ?v ?_ ?a ?b ?d; (case F => k_asm); (case a => rfl); (case b => kernel_rfl!); (case d => kernel_rfl); (case v => first | rfl | assumption); k_whole))
  k_with "storeName" => (k_dflt (refine' storeX_L ?F ?N ?_ ?a ?b; (case F => k_asm); (case N => k_asm); (case a => rfl); (case b => rfl); k_whole; intro hS7 FS7 NS7; (try k_sweep)))
  k_with "spliced" => (k_dflt (first | refine args_cons ?_ | (refine args_nil ?_; try simp only [List.cons_append, List.nil_append])))
  k_with "ite" => (k_dflt (first | refine ite_pos (by decide +kernel) ?_ | refine ite_neg (by decide +kernel) ?_))
  k_with "And" => ((with_reducible show PySem.Str.length (_ ++ _) ≤ sizeLine ∧ _); refine ⟨Nat.le_of_ble_eq_true (by kernel_rfl!), ?_⟩)
  k_with "exec Assign cons Tuple" => (k_dflt (refine Assign_Tuple ?_))
  k_with "callWith ref" => (k_dflt (refine' callWith_K ?k1 ?k2 ?_; (case k1 => k_asm); (case k2 => k_is); k_whole))
  k_with "truthy bool" => (k_dflt (refine wpAny_truthy_bool ?_))
  k_with "isTrue Compare" => (k_dflt (refine wpAny_isTrue_Compare1 ?_))
  k_with "room" => (k_dflt (first | exact om_s2 (by assumption) (by rfl) | exact om_s1 (by assumption) (by rfl) | exact om_s0 (by assumption)))
  k_with "ne" => with_reducible (first | assumption | exact om_sy (by assumption) | exact Nat.ne_of_gt (by assumption) | exact Nat.ne_of_lt (by assumption) | exact om_n1 (by assumption) | exact om_n2 (by assumption) | exact om_n3 (by assumption) | exact om_z2 (by assumption) | exact om_z3 (by assumption) | exact om_z4 (by assumption) | exact (om_n1 (by assumption)).symm | exact (om_n2 (by assumption)).symm | exact (om_n3 (by assumption)).symm | exact (om_z2 (by assumption)).symm | exact (om_z3 (by assumption)).symm | exact (om_z4 (by assumption)).symm | exact om_n4 (by assumption) | exact om_z5 (by assumption) | exact (om_n4 (by assumption)).symm | exact (om_z5 (by assumption)).symm | exact om_n5 (by assumption) | exact om_z6 (by assumption) | exact (om_n5 (by assumption)).symm | exact (om_z6 (by assumption)).symm | exact om_e1 (by assumption) | exact om_e2 (by assumption) | exact om_e3 (by assumption))
  k_with "om" => with_reducible (first | ((show _ ≠ _); k_extra "ne") | ((show @LT.lt Nat _ (_ + _ + _) _); exact om_s2 (by assumption) (by decide)) | ((show @LT.lt Nat _ (_ + _) _); exact om_s1 (by assumption) (by decide)) | ((show @LT.lt Nat _ _ _); first | assumption | exact om_s0 (by assumption)) | ((show @LE.le Nat _ (_ + 1) _); exact om_succ (by assumption) (by assumption)) | ((show @LE.le Nat _ _ _); first | exact Nat.zero_le _ | assumption | exact om_le (by assumption) (by decide) | exact om_lt_le (by assumption) (by decide) | exact om_eq_le (by assumption) (by assumption) (by decide) | exact om_eq_le' (by assumption) (by assumption) (by decide)) | ((show _ ∧ _); first | exact om_rg (by assumption) (by decide) | exact om_r1 (by assumption) (by decide)))
  k_with "leave" => (first | ((with_reducible refine thru_ hT7 ?_); (try clear hT7); (try clear T7)) | (with_reducible refine thru_ (by assumption) ?_))
  k_with "all" => exact fun p9 hp9 => Nat.ne_of_lt (by first | exact l1 p9 hp9 | exact Nat.lt_succ_of_lt (l1 p9 hp9))
  k_with "om" => with_reducible (first | exact tr_m1 hn9 | exact tr_m4 hn9 | exact tr_m5 hn9)
  k_with "WhlRest" => (k_dflt (refine' whl_turn ?hE ?_; (case hE => exact hE)); (try k_sweep))
  k_with "subscriptTail Name Name str int" => ((with_reducible show wpAny _ _ (subscriptTail _ _ (Value.str pat _) (Value.int _ _)) _ _ _); first | (refine tr_item (k := 0) hpat9 (by omega) (by omega) rfl ?_; intro t8' k8') | (refine tr_item (k := 1) hpat9 (by omega) (by omega) rfl ?_; intro t8' k8') | (refine tr_item (k := 2) hpat9 (by omega) (by omega) rfl ?_; intro t8' k8') | (refine tr_item (k := 3) hpat9 (by omega) (by omega) rfl ?_; intro t8' k8') | (refine tr_item (k := 4) hpat9 (by omega) (by omega) rfl ?_; intro t8' k8'))
  k_with "truthy ref" => (k_dflt (first | (refine truthy_snoc (by k_asm) (by k_mem) (by omega) ?_; intro k8') | (refine truthy_nil (by k_asm) (by k_mem) ?_; intro k8')))
  k_with "subscriptTail Name UnaryOp ref int" => (k_dflt (refine last_snoc (by k_asm) (by k_mem) ?_))
  k_with "compareOp IsNot str ref" => (refine isNot_str_ref ?_)
  k_with "callWith ref" => ((with_reducible show wpAny _ _ (callWith _ (Value.ref M9) [] _ []) _ _ _); k_dflt (refine callWith_bm (D := D9) ?_))
  k_with "BmAt" => (k_dflt (exact bmAt (by k_asm) (by k_mem)))
  k_with "call ref" => ((with_reducible show wpAny _ _ (call (Value.ref M9) [_]) _ _ _); k_dflt (refine' bound_appendK ?p1 ?p2 ?p3 ?p4 ?_ ?p5; (case p1 => k_asm); (case p2 => k_asm); (case p3 => k_mem); (case p4 => k_upd); (case p5 => (rw [List.size_toArray, sizeLine_eq]; omega))); intro h8' F8' N8'; (try simp only [List.push_toArray] at N8'))
  k_with "call ref" => (k_dflt (refine' esc_c ?k1 ?k2 ?k3 ?k4 ?k5 ?k6 ?k7 ?k8 ?x1 ?_; (case k1 => k_asm); (case k2 => k_asm); (case k3 => k_asm); (case k4 => k_asm); (case k5 => k_asm); (case k6 => first | exact rfl | assumption); (case k7 => ktr_room); (case k8 => ktr_units); (case x1 => exact abc_tok hc9); intro t9 h9 tk9 F9 N9; (try dsimp only); (try k_fold)))
  k_with "exec While" => (k_here; (with_reducible show wpAny _ _ (exec (Stmt.While (Expr.BoolOp _ _ _) _ _ _) _) _ _ _); k_dflt (refine whl_start 100 ?_))
  k_with "exec While" => (k_here; (with_reducible show wpAny _ _ (exec (Stmt.While (Expr.Constant _ _ _) _ _ _) _) _ _ _); k_dflt (refine whl_start 100 ?_))
  k_with "subscriptTail Name Slice str ref" => ((with_reducible show wpAny _ _ (subscriptTail _ _ (Value.str pat _) _) _ _ _); (rename Fr _ _ _ _ => sF'); (rename News _ _ _ _ => sN'); k_dflt (first | (refine tr_slice (a := 1) (b := 3) (z := ⟨#[a9, d9]⟩) hpat9 (by omega) (by omega) (by omega) (by omega) (by (simp only [List.length_cons]; omega)) rfl sF' sN' ?_) | (refine tr_slice (a := 1) (b := 3) (z := ⟨#[33, a9]⟩) hpat9 (by omega) (by omega) (by omega) (by omega) (by (simp only [List.length_cons]; omega)) rfl sF' sN' ?_) | (refine tr_slice (a := 1) (b := 4) (z := ⟨#[33, a9, d9]⟩) hpat9 (by omega) (by omega) (by omega) (by omega) (by (simp only [List.length_cons]; omega)) rfl sF' sN' ?_) | (refine tr_slice (a := 1) (b := 4) (z := ⟨#[97, 45, 99]⟩) hpat9 (by omega) (by omega) (by omega) (by omega) (by (simp only [List.length_cons]; omega)) rfl sF' sN' ?_) | (refine tr_slice (a := 1) (b := 2) (z := ⟨#[97]⟩) hpat9 (by omega) (by omega) (by omega) (by omega) (by (simp only [List.length_cons]; omega)) rfl sF' sN' ?_) | (refine tr_slice (a := 3) (b := 4) (z := ⟨#[99]⟩) hpat9 (by omega) (by omega) (by omega) (by omega) (by (simp only [List.length_cons]; omega)) rfl sF' sN' ?_)); intro h8' t8' k8' F8' N8')
  k_with "subscriptTail Name Slice str ref" => ((with_reducible show wpAny _ _ (subscriptTail _ _ (Value.str ⟨#[33, a9]⟩ _) _) _ _ _); (rename Fr _ _ _ _ => sF'); (rename News _ _ _ _ => sN'); k_dflt (refine slice1_w (y := ⟨#[a9]⟩) ((by first | decide +kernel | (apply tokE hc9; decide +kernel; decide +kernel; decide +kernel) | (apply tokE2 hc9; decide +kernel; decide +kernel; decide +kernel))) (Nat.le_of_ble_eq_true rfl) sF' sN' ?_); intro h8' t8' k8' F8' N8')
  k_with "subscriptTail Name Slice str ref" => ((with_reducible show wpAny _ _ (subscriptTail _ _ (Value.str ⟨#[33, a9, d9]⟩ _) _) _ _ _); (rename Fr _ _ _ _ => sF'); (rename News _ _ _ _ => sN'); k_dflt (refine slice1_w (y := ⟨#[a9, d9]⟩) ((by first | decide +kernel | (apply tokE hc9; decide +kernel; decide +kernel; decide +kernel) | (apply tokE2 hc9; decide +kernel; decide +kernel; decide +kernel))) (Nat.le_of_ble_eq_true rfl) sF' sN' ?_); intro h8' t8' k8' F8' N8')
  k_with "call builtin:str.find" => (k_dflt (first | (refine find_hitP (a := 2) (b := 4) hpat9 (by omega) (by omega) rfl rfl (by omega) (by (simp only [List.length_cons]; omega)) ?_) | (refine find_missP (a := 5) (b := 4) hpat9 (by omega) (by omega) rfl (by omega) (by (simp only [List.length_cons]; omega)) ?_)); intro t8' k8')
  k_with "compareOp NotIn str str" => first | (refine notIn_w (b := true) ((by first | decide +kernel | (apply tokE hc9; decide +kernel; decide +kernel; decide +kernel) | (apply tokE2 hc9; decide +kernel; decide +kernel; decide +kernel))) ?_) | (refine notIn_w (b := false) ((by first | decide +kernel | (apply tokE hc9; decide +kernel; decide +kernel; decide +kernel) | (apply tokE2 hc9; decide +kernel; decide +kernel; decide +kernel))) ?_)
  k_with "call builtin:str.replace" => (refine rep_none ((by first | decide +kernel | (apply tokE hc9; decide +kernel; decide +kernel; decide +kernel) | (apply tokE2 hc9; decide +kernel; decide +kernel; decide +kernel))) ?_)
  k_with "getMethod ref" => (k_dflt (refine gm_sub (by k_asm) (by assumption) ?_))
  k_with "call builtin:re.Pattern.sub" => (k_dflt (refine' resub_K ?p1 ?p2 ?p3 ?p4 ?p5 ?p6 ?p7 ?p8 ?p9 ?_; (case p1 => k_asm); (case p2 => k_asm); (case p3 => assumption); (case p4 => k_mem); (case p5 => assumption); (case p6 => exact (by first | decide +kernel | (apply tokE hc9; decide +kernel; decide +kernel; decide +kernel) | (apply tokE2 hc9; decide +kernel; decide +kernel; decide +kernel))); (case p7 => exact Nat.le_of_ble_eq_true rfl); (case p8 => exact Nat.le_of_ble_eq_true rfl); (case p9 => rfl)); intro h8' t8' k8' F8' N8')
  k_with "eval Lambda" => (k_here; k_dflt (refine' kla_eval ?d0 ?_; (case d0 => exact rfl)); k_dflt (refine' lam_K ?F ?N ?T ?C ?cd ?U ?ht ?cl ?_; (case F => k_asm); (case N => k_asm); (case T => assumption); (case C => exact tab_at hC B'); (case cd => exact rfl); (case U => k_updF); (case ht => assumption); (case cl => exact rfl)); intro f8' fo8' h8' k8' ps8' F8' N8' hf8' ht8' l8'; (try dsimp only at N8'); (try k_lt l8'))
  k_with "eval GeneratorExp" => (k_here; k_dflt (refine' genexp_K (vs := [_, _]) (ts := [Str.ofString "a", Str.ofString "c"]) ?p1 ?p2 ?p3 ?p4 ?p5 ?p6 ?p7 ?p8 ?p9 ?pA ?pB ?pC ?pD ?pE ?pF ?pG ?pH ?pI ?pJ ?pK ?pL ?_ ?pM; (case p1 => k_asm); (case p2 => k_asm); (case p3 => assumption); (case p4 => exact tab_at hC B'); (case p5 => rfl); (case p6 => k_updF); (case p7 => assumption); (case p8 => exact G9); (case p9 => k_mem); (case pA => exact .cons _ _ (.cons _ _ .nil)); (case pB => rfl); (case pC => rfl); (case pD => rfl); (case pE => with_unfolding_all rfl); (case pF => decide); (case pG => rfl); (case pH => rfl); (case pI => rfl); (case pJ => ktr_room); (case pK => ((rename Fr _ _ _ _ => gF'); exact wpAny_Name (wpAny_loadName_local rfl rfl gF'.ns (by with_unfolding_all rfl) ⟨rfl, rfl⟩) (by decide))); (case pL => (intro C8 code8 A8 E8 a8 t8 s8 m8 ha8 hn8 hm8; (have hz8 : a8 = Str.ofString "a" ∨ a8 = Str.ofString "c" := by simpa using ha8); rcases hz8 with rfl | rfl <;> exact elt_K rfl rfl (by decide) hn8 hm8 (by decide +kernel) (by decide +kernel))); (case pM => (intro x8; with_unfolding_all rfl))); intro aG sG psG KG FG NG hpsG hGG XG hLKG hnKG hbKG; (try dsimp only at NG hnKG))
  k_with "call builtin:str.join" => (k_dflt (refine' join_genK ?p1 ?p2 ?p3 XG hLKG ?p4 ?p5 ?p6 ?_; (case p1 => k_asm); (case p2 => exact NG); (case p3 => exact hGG); (case p4 => exact hnKG); (case p5 => decide +kernel); (case p6 => decide)); intro s8' t8' F8' N8' G8')
  k_with "truthy str" => (refine KXt.truthy (by with_unfolding_all rfl) (Nat.le_of_ble_eq_true rfl) ?_; intro k8')
  k_with "ite" => (k_dflt (first | refine ite_pos ((by first | decide +kernel | (apply tokE hc9; decide +kernel; decide +kernel; decide +kernel) | (apply tokE2 hc9; decide +kernel; decide +kernel; decide +kernel))) ?_ | refine ite_neg ((by first | decide +kernel | (apply tokE hc9; decide +kernel; decide +kernel; decide +kernel) | (apply tokE2 hc9; decide +kernel; decide +kernel; decide +kernel))) ?_))
  k_with "formatField str" => (refine formatField_str ?_ (Nat.le_of_ble_eq_true rfl); intro t8' k8')
  k_with "subscriptTail Name BinOp ref int" => (k_dflt (refine kim_list (by k_asm) (by k_mem) rfl rfl (by omega) (by omega) (by rfl) ?_))
  k_with "subscriptTail Name Name ref int" => (k_dflt (refine kim_list (by k_asm) (by k_mem) rfl rfl (by omega) (by omega) (by rfl) ?_))
  k_steps
  all_goals first | (exfalso; omega) | ((rename Fr _ _ _ _ => eF'); (rename News _ _ _ _ => eN'); (refine' gw_end ⟨⟨_, _⟩, q9 + 1, _, _⟩ eF' eN' ?hGG ?hn ?hk ?hr ?hp ?hm); (case hGG => assumption); (case hk => with_unfolding_all kst_all); (case hn => ((try dsimp only); with_unfolding_all exact List.forall_mem_cons.mpr ⟨(by repeat (first | assumption | exact List.mem_cons_self | exact List.mem_append_left _ (by assumption) | exact List.mem_append_right _ (by assumption) | refine List.mem_cons_of_mem _ ?_)), List.forall_mem_cons.mpr ⟨(by repeat (first | assumption | exact List.mem_cons_self | exact List.mem_append_left _ (by assumption) | exact List.mem_append_right _ (by assumption) | refine List.mem_cons_of_mem _ ?_)), List.forall_mem_cons.mpr ⟨(by repeat (first | assumption | exact List.mem_cons_self | exact List.mem_append_left _ (by assumption) | exact List.mem_append_right _ (by assumption) | refine List.mem_cons_of_mem _ ?_)), List.forall_mem_cons.mpr ⟨(by repeat (first | assumption | exact List.mem_cons_self | exact List.mem_append_left _ (by assumption) | exact List.mem_append_right _ (by assumption) | refine List.mem_cons_of_mem _ ?_)), List.forall_mem_nil _⟩⟩⟩⟩)); (case hr => with_unfolding_all ksw_same); (case hp => refine ⟨?_, by assumption⟩; first | exact tr_some (tk := [_]) hpat9 (by first | rfl | omega | (dsimp only; omega)) hT9 hparts9 hvs9 hvl9 (Nat.le_of_ble_eq_true rfl) | exact tr_some (tk := [_, _, _, _]) hpat9 (by first | rfl | omega | (dsimp only; omega) | (simp only [List.length_cons, List.length_nil]; omega)) hT9 hparts9 hvs9 hvl9 (Nat.le_of_ble_eq_true rfl) | exact tr_some (tk := [_, _, _, _, _]) hpat9 (by first | rfl | omega | (dsimp only; omega) | (simp only [List.length_cons, List.length_nil]; omega)) hT9 hparts9 hvs9 hvl9 (Nat.le_of_ble_eq_true rfl) | exact tr_star hpat9 (by first | rfl | omega | (dsimp only; omega)) hT9 hparts9 hvs9 hvl9); (case hm => (dsimp only; omega)))
end
set_option Elab.async false
set_option maxRecDepth 100000
set_option maxHeartbeats 5000000
section
variable {w : World} {o : OsState} {mean : ExcName → Option Value} {loose : List Str} {mg mb : Str → Option Value} {dp un : Nat} {gd : Option (List Code)} {cn : Str} {cs : Scope} {a : Addr} {ccd : Value} {cl : List (Str × Addr)} {outer : List Env} {A₀ : Around} {base h₀ : Heap} {L : Addr} {m : Str → Option Value} {news : List (Addr × Obj)} {s : Shared} {Q E : Value → Shared → Prop}
theorem trt5 (B : Below A₀ base outer h₀) (X : (KF w.params).In h₀) (T : Top topProg loose mean mg mb h₀) (hd : dp + 2 < recursionLimit) (hu : un + 60 < cLine) (hC : CodeHd base 117 113) {Q : Flow → Shared → Prop} {pat : Str} {t u it9 : Tok} {S M9 D9 : Addr} {ti tn : Tok} {parts done9 rem9 : List (Option Str)} {q9 : Nat} {ps9 : Array Value} {pre9 cs9 : List Nat} {u9 : Str → Option Value} {vs9 : List Value} {a9 : Nat} {d9 : Nat} 
    (hS3 : @Ne Nat S 113) (l1 : @LT.lt Nat _ S L ∧ @LT.lt Nat _ 113 L) (l2 : @LT.lt Nat _ S D9 ∧ @LT.lt Nat _ 113 D9) (l3 : @LT.lt Nat _ D9 M9 ∧ @LT.lt Nat _ S M9 ∧ @LT.lt Nat _ 113 M9) (hl : pat.length ≤ 100) (hpat9 : pat.cps.toList = pre9 ++ 91 :: a9 :: d9 :: 93 :: cs9) (hT9 : Tk true cs9 rem9) (hparts9 : parts = done9 ++ some ⟨#[91, a9, d9, 93]⟩ :: rem9) (hvs9 : PartsAre S vs9 done9) (hvl9 : (vs9).length ≤ pre9.length) (hc9 : (a9 = 97 ∧ d9 = 98) ∨ (a9 = 97 ∧ d9 = 99) ∨ (a9 = 98 ∧ d9 = 99)) (hps9 : TabOk ps9) (G9 : Bare o s) (hE : PassesOwn (model (OpenLaw.row PySem.Challenge.rw_in0163_01).toRowW.prog w) (ktrTop dp un gd (Str.ofString "_translate") trSc.1 L 118 (.ref 117) [] outer) (envX (Str.ofString "_translate") trSc.1 L 118 (.ref 117) []) E)
    (F9 : Fr h₀ L s.heap fun z => if z = Str.ofString "i" then some (.int (pre9.length : Int) it9) else if ([Str.ofString "c", Str.ofString "j", Str.ofString "stuff", Str.ofString "chunks", Str.ofString "k", Str.ofString "chunk"]).contains z then u9 z else (trM pat t u S M9 D9 ti tn) z) (N9 : News h₀ L s.heap [(M9, bmO D9), (D9, listOf (List.toArray vs9) q9), (S, obO), (113, tabObj ps9)]) :
    wpAny (model (OpenLaw.row PySem.Challenge.rw_in0163_01).toRowW.prog w) (ktrTop dp un gd (Str.ofString "_translate") trSc.1 L 118 (.ref 117) [] outer) (isTrue trTest.1 (envX (Str.ofString "_translate") trSc.1 L 118 (.ref 117) []) (eval trTest.1 (envX (Str.ofString "_translate") trSc.1 L 118 (.ref 117) []))) (fun b s₂ => if b = true then wpAny (model (OpenLaw.row PySem.Challenge.rw_in0163_01).toRowW.prog w) (ktrTop dp un gd (Str.ofString "_translate") trSc.1 L 118 (.ref 117) [] outer) (execs trBody.1 (envX (Str.ofString "_translate") trSc.1 L 118 (.ref 117) [])) (GwPost o h₀ L (σ := (Int × Tok) × Nat × List Value × Array Value) (fun c => [(M9, bmO D9), (D9, listOf c.2.2.1.toArray c.2.1), (S, obO), (113, tabObj c.2.2.2)]) (fun c => [(Str.ofString "i", .int c.1.1 c.1.2)]) [Str.ofString "c", Str.ofString "j", Str.ofString "stuff", Str.ofString "chunks", Str.ofString "k", Str.ofString "chunk"] (trM pat t u S M9 D9 ti tn) (fun c => TrP pat parts S c.1.1 c.2.2.1 ∧ TabOk c.2.2.2) (fun c => pat.length - c.1.1.toNat) Q ⟨⟨(pre9.length : Int), it9⟩, q9, vs9, ps9⟩) E s₂ else Q .next s₂) E s := by
  have hn9 := tr_len hpat9
  have B' := B
  (try simp only [List.length_cons, List.length_nil] at hn9)
  dsimp only [trTest, trBody, trSc]
  revert X; k_fill; intro X
  k_with_none
  k_with "execs cons" => ((k_dflt (refine wpAny_execs_cons (post_gen fun T7 hT7 => ?_))); (try dsimp only))
  k_with "execs nil" => (k_dflt (refine wpAny_execs_nil ?_))
  k_with "exec If" => (k_dflt (refine wpAny_If ?_))
  k_with "exec Assign" => (k_dflt (refine wpAny_Assign_Name ?_))
  k_with "eval Name" => (k_dflt (refine' nameX_L ?F ?v ?_ ?a ?b ?d; (case F => k_asm); (case a => rfl); (case b => kernel_rfl!); (case d => kernel_rfl); (case v => first | rfl | assumption); k_whole))
  k_with "storeName" => (k_dflt (refine' storeX_L ?F ?N ?_ ?a ?b; (case F => k_asm); (case N => k_asm); (case a => rfl); (case b => rfl); k_whole; intro hS7 FS7 NS7; (try k_sweep)))
  k_with "spliced" => (k_dflt (first | refine args_cons ?_ | (refine args_nil ?_; try simp only [List.cons_append, List.nil_append])))
  k_with "ite" => (k_dflt (first | refine ite_pos (by decide +kernel) ?_ | refine ite_neg (by decide +kernel) ?_))
  k_with "And" => ((with_reducible show PySem.Str.length (_ ++ _) ≤ sizeLine ∧ _); refine ⟨Nat.le_of_ble_eq_true (by kernel_rfl!), ?_⟩)
  k_with "exec Assign cons Tuple" => (k_dflt (refine Assign_Tuple ?_))
  k_with "callWith ref" => (k_dflt (refine' callWith_K ?k1 ?k2 ?_; (case k1 => k_asm); (case k2 => k_is); k_whole))
  k_with "truthy bool" => (k_dflt (refine wpAny_truthy_bool ?_))
  k_with "isTrue Compare" => (k_dflt (refine wpAny_isTrue_Compare1 ?_))
  k_with "room" => (k_dflt (first | exact om_s2 (by assumption) (by rfl) | exact om_s1 (by assumption) (by rfl) | exact om_s0 (by assumption)))
  k_with "ne" => with_reducible (first | assumption | exact om_sy (by assumption) | exact Nat.ne_of_gt (by assumption) | exact Nat.ne_of_lt (by assumption) | exact om_n1 (by assumption) | exact om_n2 (by assumption) | exact om_n3 (by assumption) | exact om_z2 (by assumption) | exact om_z3 (by assumption) | exact om_z4 (by assumption) | exact (om_n1 (by assumption)).symm | exact (om_n2 (by assumption)).symm | exact (om_n3 (by assumption)).symm | exact (om_z2 (by assumption)).symm | exact (om_z3 (by assumption)).symm | exact (om_z4 (by assumption)).symm | exact om_n4 (by assumption) | exact om_z5 (by assumption) | exact (om_n4 (by assumption)).symm | exact (om_z5 (by assumption)).symm | exact om_n5 (by assumption) | exact om_z6 (by assumption) | exact (om_n5 (by assumption)).symm | exact (om_z6 (by assumption)).symm | exact om_e1 (by assumption) | exact om_e2 (by assumption) | exact om_e3 (by assumption))
  k_with "om" => with_reducible (first | ((show _ ≠ _); k_extra "ne") | ((show @LT.lt Nat _ (_ + _ + _) _); exact om_s2 (by assumption) (by decide)) | ((show @LT.lt Nat _ (_ + _) _); exact om_s1 (by assumption) (by decide)) | ((show @LT.lt Nat _ _ _); first | assumption | exact om_s0 (by assumption)) | ((show @LE.le Nat _ (_ + 1) _); exact om_succ (by assumption) (by assumption)) | ((show @LE.le Nat _ _ _); first | exact Nat.zero_le _ | assumption | exact om_le (by assumption) (by decide) | exact om_lt_le (by assumption) (by decide) | exact om_eq_le (by assumption) (by assumption) (by decide) | exact om_eq_le' (by assumption) (by assumption) (by decide)) | ((show _ ∧ _); first | exact om_rg (by assumption) (by decide) | exact om_r1 (by assumption) (by decide)))
  k_with "leave" => (first | ((with_reducible refine thru_ hT7 ?_); (try clear hT7); (try clear T7)) | (with_reducible refine thru_ (by assumption) ?_))
  k_with "all" => exact fun p9 hp9 => Nat.ne_of_lt (by first | exact l1 p9 hp9 | exact Nat.lt_succ_of_lt (l1 p9 hp9))
  k_with "om" => with_reducible (first | exact tr_m1 hn9 | exact tr_m4 hn9 | exact tr_m5 hn9)
  k_with "WhlRest" => (k_dflt (refine' whl_turn ?hE ?_; (case hE => exact hE)); (try k_sweep))
  k_with "subscriptTail Name Name str int" => ((with_reducible show wpAny _ _ (subscriptTail _ _ (Value.str pat _) (Value.int _ _)) _ _ _); first | (refine tr_item (k := 0) hpat9 (by omega) (by omega) rfl ?_; intro t8' k8') | (refine tr_item (k := 1) hpat9 (by omega) (by omega) rfl ?_; intro t8' k8') | (refine tr_item (k := 2) hpat9 (by omega) (by omega) rfl ?_; intro t8' k8') | (refine tr_item (k := 3) hpat9 (by omega) (by omega) rfl ?_; intro t8' k8') | (refine tr_item (k := 4) hpat9 (by omega) (by omega) rfl ?_; intro t8' k8'))
  k_with "truthy ref" => (k_dflt (first | (refine truthy_snoc (by k_asm) (by k_mem) (by omega) ?_; intro k8') | (refine truthy_nil (by k_asm) (by k_mem) ?_; intro k8')))
  k_with "subscriptTail Name UnaryOp ref int" => (k_dflt (refine last_snoc (by k_asm) (by k_mem) ?_))
  k_with "compareOp IsNot str ref" => (refine isNot_str_ref ?_)
  k_with "callWith ref" => ((with_reducible show wpAny _ _ (callWith _ (Value.ref M9) [] _ []) _ _ _); k_dflt (refine callWith_bm (D := D9) ?_))
  k_with "BmAt" => (k_dflt (exact bmAt (by k_asm) (by k_mem)))
  k_with "call ref" => ((with_reducible show wpAny _ _ (call (Value.ref M9) [_]) _ _ _); k_dflt (refine' bound_appendK ?p1 ?p2 ?p3 ?p4 ?_ ?p5; (case p1 => k_asm); (case p2 => k_asm); (case p3 => k_mem); (case p4 => k_upd); (case p5 => (rw [List.size_toArray, sizeLine_eq]; omega))); intro h8' F8' N8'; (try simp only [List.push_toArray] at N8'))
  k_with "call ref" => (k_dflt (refine' esc_c ?k1 ?k2 ?k3 ?k4 ?k5 ?k6 ?k7 ?k8 ?x1 ?_; (case k1 => k_asm); (case k2 => k_asm); (case k3 => k_asm); (case k4 => k_asm); (case k5 => k_asm); (case k6 => first | exact rfl | assumption); (case k7 => ktr_room); (case k8 => ktr_units); (case x1 => exact abc_tok hc9); intro t9 h9 tk9 F9 N9; (try dsimp only); (try k_fold)))
  k_with "exec While" => (k_here; (with_reducible show wpAny _ _ (exec (Stmt.While (Expr.BoolOp _ _ _) _ _ _) _) _ _ _); k_dflt (refine whl_start 100 ?_))
  k_with "exec While" => (k_here; (with_reducible show wpAny _ _ (exec (Stmt.While (Expr.Constant _ _ _) _ _ _) _) _ _ _); k_dflt (refine whl_start 100 ?_))
  k_with "subscriptTail Name Slice str ref" => ((with_reducible show wpAny _ _ (subscriptTail _ _ (Value.str pat _) _) _ _ _); (rename Fr _ _ _ _ => sF'); (rename News _ _ _ _ => sN'); k_dflt (first | (refine tr_slice (a := 1) (b := 3) (z := ⟨#[a9, d9]⟩) hpat9 (by omega) (by omega) (by omega) (by omega) (by (simp only [List.length_cons]; omega)) rfl sF' sN' ?_) | (refine tr_slice (a := 1) (b := 3) (z := ⟨#[33, a9]⟩) hpat9 (by omega) (by omega) (by omega) (by omega) (by (simp only [List.length_cons]; omega)) rfl sF' sN' ?_) | (refine tr_slice (a := 1) (b := 4) (z := ⟨#[33, a9, d9]⟩) hpat9 (by omega) (by omega) (by omega) (by omega) (by (simp only [List.length_cons]; omega)) rfl sF' sN' ?_) | (refine tr_slice (a := 1) (b := 4) (z := ⟨#[97, 45, 99]⟩) hpat9 (by omega) (by omega) (by omega) (by omega) (by (simp only [List.length_cons]; omega)) rfl sF' sN' ?_) | (refine tr_slice (a := 1) (b := 2) (z := ⟨#[97]⟩) hpat9 (by omega) (by omega) (by omega) (by omega) (by (simp only [List.length_cons]; omega)) rfl sF' sN' ?_) | (refine tr_slice (a := 3) (b := 4) (z := ⟨#[99]⟩) hpat9 (by omega) (by omega) (by omega) (by omega) (by (simp only [List.length_cons]; omega)) rfl sF' sN' ?_)); intro h8' t8' k8' F8' N8')
  k_with "subscriptTail Name Slice str ref" => ((with_reducible show wpAny _ _ (subscriptTail _ _ (Value.str ⟨#[33, a9]⟩ _) _) _ _ _); (rename Fr _ _ _ _ => sF'); (rename News _ _ _ _ => sN'); k_dflt (refine slice1_w (y := ⟨#[a9]⟩) ((by first | decide +kernel | (apply tokE hc9; decide +kernel; decide +kernel; decide +kernel) | (apply tokE2 hc9; decide +kernel; decide +kernel; decide +kernel))) (Nat.le_of_ble_eq_true rfl) sF' sN' ?_); intro h8' t8' k8' F8' N8')
  k_with "subscriptTail Name Slice str ref" => ((with_reducible show wpAny _ _ (subscriptTail _ _ (Value.str ⟨#[33, a9, d9]⟩ _) _) _ _ _); (rename Fr _ _ _ _ => sF'); (rename News _ _ _ _ => sN'); k_dflt (refine slice1_w (y := ⟨#[a9, d9]⟩) ((by first | decide +kernel | (apply tokE hc9; decide +kernel; decide +kernel; decide +kernel) | (apply tokE2 hc9; decide +kernel; decide +kernel; decide +kernel))) (Nat.le_of_ble_eq_true rfl) sF' sN' ?_); intro h8' t8' k8' F8' N8')
  k_with "call builtin:str.find" => (k_dflt (first | (refine find_hitP (a := 2) (b := 4) hpat9 (by omega) (by omega) rfl rfl (by omega) (by (simp only [List.length_cons]; omega)) ?_) | (refine find_missP (a := 5) (b := 4) hpat9 (by omega) (by omega) rfl (by omega) (by (simp only [List.length_cons]; omega)) ?_)); intro t8' k8')
  k_with "compareOp NotIn str str" => first | (refine notIn_w (b := true) ((by first | decide +kernel | (apply tokE hc9; decide +kernel; decide +kernel; decide +kernel) | (apply tokE2 hc9; decide +kernel; decide +kernel; decide +kernel))) ?_) | (refine notIn_w (b := false) ((by first | decide +kernel | (apply tokE hc9; decide +kernel; decide +kernel; decide +kernel) | (apply tokE2 hc9; decide +kernel; decide +kernel; decide +kernel))) ?_)
  k_with "call builtin:str.replace" => (refine rep_none ((by first | decide +kernel | (apply tokE hc9; decide +kernel; decide +kernel; decide +kernel) | (apply tokE2 hc9; decide +kernel; decide +kernel; decide +kernel))) ?_)
  k_with "getMethod ref" => (k_dflt (refine gm_sub (by k_asm) (by assumption) ?_))
  k_with "call builtin:re.Pattern.sub" => (k_dflt (refine' resub_K ?p1 ?p2 ?p3 ?p4 ?p5 ?p6 ?p7 ?p8 ?p9 ?_; (case p1 => k_asm); (case p2 => k_asm); (case p3 => assumption); (case p4 => k_mem); (case p5 => assumption); (case p6 => exact (by first | decide +kernel | (apply tokE hc9; decide +kernel; decide +kernel; decide +kernel) | (apply tokE2 hc9; decide +kernel; decide +kernel; decide +kernel))); (case p7 => exact Nat.le_of_ble_eq_true rfl); (case p8 => exact Nat.le_of_ble_eq_true rfl); (case p9 => rfl)); intro h8' t8' k8' F8' N8')
  k_with "eval Lambda" => (k_here; k_dflt (refine' kla_eval ?d0 ?_; (case d0 => exact rfl)); k_dflt (refine' lam_K ?F ?N ?T ?C ?cd ?U ?ht ?cl ?_; (case F => k_asm); (case N => k_asm); (case T => assumption); (case C => exact tab_at hC B'); (case cd => exact rfl); (case U => k_updF); (case ht => assumption); (case cl => exact rfl)); intro f8' fo8' h8' k8' ps8' F8' N8' hf8' ht8' l8'; (try dsimp only at N8'); (try k_lt l8'))
  k_with "eval GeneratorExp" => (k_here; k_dflt (refine' genexp_K (vs := [_, _]) (ts := [Str.ofString "a", Str.ofString "c"]) ?p1 ?p2 ?p3 ?p4 ?p5 ?p6 ?p7 ?p8 ?p9 ?pA ?pB ?pC ?pD ?pE ?pF ?pG ?pH ?pI ?pJ ?pK ?pL ?_ ?pM; (case p1 => k_asm); (case p2 => k_asm); (case p3 => assumption); (case p4 => exact tab_at hC B'); (case p5 => rfl); (case p6 => k_updF); (case p7 => assumption); (case p8 => exact G9); (case p9 => k_mem); (case pA => exact .cons _ _ (.cons _ _ .nil)); (case pB => rfl); (case pC => rfl); (case pD => rfl); (case pE => with_unfolding_all rfl); (case pF => decide); (case pG => rfl); (case pH => rfl); (case pI => rfl); (case pJ => ktr_room); (case pK => ((rename Fr _ _ _ _ => gF'); exact wpAny_Name (wpAny_loadName_local rfl rfl gF'.ns (by with_unfolding_all rfl) ⟨rfl, rfl⟩) (by decide))); (case pL => (intro C8 code8 A8 E8 a8 t8 s8 m8 ha8 hn8 hm8; (have hz8 : a8 = Str.ofString "a" ∨ a8 = Str.ofString "c" := by simpa using ha8); rcases hz8 with rfl | rfl <;> exact elt_K rfl rfl (by decide) hn8 hm8 (by decide +kernel) (by decide +kernel))); (case pM => (intro x8; with_unfolding_all rfl))); intro aG sG psG KG FG NG hpsG hGG XG hLKG hnKG hbKG; (try dsimp only at NG hnKG))
  k_with "call builtin:str.join" => (k_dflt (refine' join_genK ?p1 ?p2 ?p3 XG hLKG ?p4 ?p5 ?p6 ?_; (case p1 => k_asm); (case p2 => exact NG); (case p3 => exact hGG); (case p4 => exact hnKG); (case p5 => decide +kernel); (case p6 => decide)); intro s8' t8' F8' N8' G8')
  k_with "truthy str" => (refine KXt.truthy (by with_unfolding_all rfl) (Nat.le_of_ble_eq_true rfl) ?_; intro k8')
  k_with "ite" => (k_dflt (first | refine ite_pos ((by first | decide +kernel | (apply tokE hc9; decide +kernel; decide +kernel; decide +kernel) | (apply tokE2 hc9; decide +kernel; decide +kernel; decide +kernel))) ?_ | refine ite_neg ((by first | decide +kernel | (apply tokE hc9; decide +kernel; decide +kernel; decide +kernel) | (apply tokE2 hc9; decide +kernel; decide +kernel; decide +kernel))) ?_))
  k_with "formatField str" => (refine formatField_str ?_ (Nat.le_of_ble_eq_true rfl); intro t8' k8')
  k_with "subscriptTail Name BinOp ref int" => (k_dflt (refine kim_list (by k_asm) (by k_mem) rfl rfl (by omega) (by omega) (by rfl) ?_))
  k_with "subscriptTail Name Name ref int" => (k_dflt (refine kim_list (by k_asm) (by k_mem) rfl rfl (by omega) (by omega) (by rfl) ?_))
  k_steps
  all_goals first | (exfalso; omega) | ((rename Fr _ _ _ _ => eF'); (rename News _ _ _ _ => eN'); (refine' gw_end ⟨⟨_, _⟩, q9 + 1, _, _⟩ eF' eN' ?hGG ?hn ?hk ?hr ?hp ?hm); (case hGG => assumption); (case hk => with_unfolding_all kst_all); (case hn => ((try dsimp only); with_unfolding_all exact List.forall_mem_cons.mpr ⟨(by repeat (first | assumption | exact List.mem_cons_self | exact List.mem_append_left _ (by assumption) | exact List.mem_append_right _ (by assumption) | refine List.mem_cons_of_mem _ ?_)), List.forall_mem_cons.mpr ⟨(by repeat (first | assumption | exact List.mem_cons_self | exact List.mem_append_left _ (by assumption) | exact List.mem_append_right _ (by assumption) | refine List.mem_cons_of_mem _ ?_)), List.forall_mem_cons.mpr ⟨(by repeat (first | assumption | exact List.mem_cons_self | exact List.mem_append_left _ (by assumption) | exact List.mem_append_right _ (by assumption) | refine List.mem_cons_of_mem _ ?_)), List.forall_mem_cons.mpr ⟨(by repeat (first | assumption | exact List.mem_cons_self | exact List.mem_append_left _ (by assumption) | exact List.mem_append_right _ (by assumption) | refine List.mem_cons_of_mem _ ?_)), List.forall_mem_nil _⟩⟩⟩⟩)); (case hr => with_unfolding_all ksw_same); (case hp => refine ⟨?_, by assumption⟩; first | exact tr_some (tk := [_]) hpat9 (by first | rfl | omega | (dsimp only; omega)) hT9 hparts9 hvs9 hvl9 (Nat.le_of_ble_eq_true rfl) | exact tr_some (tk := [_, _, _, _]) hpat9 (by first | rfl | omega | (dsimp only; omega) | (simp only [List.length_cons, List.length_nil]; omega)) hT9 hparts9 hvs9 hvl9 (Nat.le_of_ble_eq_true rfl) | exact tr_some (tk := [_, _, _, _, _]) hpat9 (by first | rfl | omega | (dsimp only; omega) | (simp only [List.length_cons, List.length_nil]; omega)) hT9 hparts9 hvs9 hvl9 (Nat.le_of_ble_eq_true rfl) | exact tr_star hpat9 (by first | rfl | omega | (dsimp only; omega)) hT9 hparts9 hvs9 hvl9); (case hm => (dsimp only; omega)))
end
set_option Elab.async false
set_option maxRecDepth 100000
set_option maxHeartbeats 5000000
section
variable {w : World} {o : OsState} {mean : ExcName → Option Value} {loose : List Str} {mg mb : Str → Option Value} {dp un : Nat} {gd : Option (List Code)} {cn : Str} {cs : Scope} {a : Addr} {ccd : Value} {cl : List (Str × Addr)} {outer : List Env} {A₀ : Around} {base h₀ : Heap} {L : Addr} {m : Str → Option Value} {news : List (Addr × Obj)} {s : Shared} {Q E : Value → Shared → Prop}
theorem trt6 (B : Below A₀ base outer h₀) (X : (KF w.params).In h₀) (T : Top topProg loose mean mg mb h₀) (hd : dp + 2 < recursionLimit) (hu : un + 60 < cLine) (hC : CodeHd base 117 113) {Q : Flow → Shared → Prop} {pat : Str} {t u it9 : Tok} {S M9 D9 : Addr} {ti tn : Tok} {parts done9 rem9 : List (Option Str)} {q9 : Nat} {ps9 : Array Value} {pre9 cs9 : List Nat} {u9 : Str → Option Value} {vs9 : List Value} {a9 : Nat} 
    (hS3 : @Ne Nat S 113) (l1 : @LT.lt Nat _ S L ∧ @LT.lt Nat _ 113 L) (l2 : @LT.lt Nat _ S D9 ∧ @LT.lt Nat _ 113 D9) (l3 : @LT.lt Nat _ D9 M9 ∧ @LT.lt Nat _ S M9 ∧ @LT.lt Nat _ 113 M9) (hl : pat.length ≤ 100) (hpat9 : pat.cps.toList = pre9 ++ 91 :: 33 :: a9 :: 93 :: cs9) (hT9 : Tk true cs9 rem9) (hparts9 : parts = done9 ++ some ⟨#[91, 94, a9, 93]⟩ :: rem9) (hvs9 : PartsAre S vs9 done9) (hvl9 : (vs9).length ≤ pre9.length) (hc9 : a9 = 97 ∨ a9 = 98 ∨ a9 = 99) (hps9 : TabOk ps9) (G9 : Bare o s) (hE : PassesOwn (model (OpenLaw.row PySem.Challenge.rw_in0163_01).toRowW.prog w) (ktrTop dp un gd (Str.ofString "_translate") trSc.1 L 118 (.ref 117) [] outer) (envX (Str.ofString "_translate") trSc.1 L 118 (.ref 117) []) E)
    (F9 : Fr h₀ L s.heap fun z => if z = Str.ofString "i" then some (.int (pre9.length : Int) it9) else if ([Str.ofString "c", Str.ofString "j", Str.ofString "stuff", Str.ofString "chunks", Str.ofString "k", Str.ofString "chunk"]).contains z then u9 z else (trM pat t u S M9 D9 ti tn) z) (N9 : News h₀ L s.heap [(M9, bmO D9), (D9, listOf (List.toArray vs9) q9), (S, obO), (113, tabObj ps9)]) :
    wpAny (model (OpenLaw.row PySem.Challenge.rw_in0163_01).toRowW.prog w) (ktrTop dp un gd (Str.ofString "_translate") trSc.1 L 118 (.ref 117) [] outer) (isTrue trTest.1 (envX (Str.ofString "_translate") trSc.1 L 118 (.ref 117) []) (eval trTest.1 (envX (Str.ofString "_translate") trSc.1 L 118 (.ref 117) []))) (fun b s₂ => if b = true then wpAny (model (OpenLaw.row PySem.Challenge.rw_in0163_01).toRowW.prog w) (ktrTop dp un gd (Str.ofString "_translate") trSc.1 L 118 (.ref 117) [] outer) (execs trBody.1 (envX (Str.ofString "_translate") trSc.1 L 118 (.ref 117) [])) (GwPost o h₀ L (σ := (Int × Tok) × Nat × List Value × Array Value) (fun c => [(M9, bmO D9), (D9, listOf c.2.2.1.toArray c.2.1), (S, obO), (113, tabObj c.2.2.2)]) (fun c => [(Str.ofString "i", .int c.1.1 c.1.2)]) [Str.ofString "c", Str.ofString "j", Str.ofString "stuff", Str.ofString "chunks", Str.ofString "k", Str.ofString "chunk"] (trM pat t u S M9 D9 ti tn) (fun c => TrP pat parts S c.1.1 c.2.2.1 ∧ TabOk c.2.2.2) (fun c => pat.length - c.1.1.toNat) Q ⟨⟨(pre9.length : Int), it9⟩, q9, vs9, ps9⟩) E s₂ else Q .next s₂) E s := by
  have hn9 := tr_len hpat9
  have B' := B
  (try simp only [List.length_cons, List.length_nil] at hn9)
  dsimp only [trTest, trBody, trSc]
  revert X; k_fill; intro X
  k_with_none
  k_with "execs cons" => ((k_dflt (refine wpAny_execs_cons (post_gen fun T7 hT7 => ?_))); (try dsimp only))
  k_with "execs nil" => (k_dflt (refine wpAny_execs_nil ?_))
  k_with "exec If" => (k_dflt (refine wpAny_If ?_))
  k_with "exec Assign" => (k_dflt (refine wpAny_Assign_Name ?_))
  k_with "eval Name" => (k_dflt (refine' nameX_L ?F ?v ?_ ?a ?b ?d; (case F => k_asm); (case a => rfl); (case b => kernel_rfl!); (case d => kernel_rfl); (case v => first | rfl | assumption); k_whole))
  k_with "storeName" => (k_dflt (refine' storeX_L ?F ?N ?_ ?a ?b; (case F => k_asm); (case N => k_asm); (case a => rfl); (case b => rfl); k_whole; intro hS7 FS7 NS7; (try k_sweep)))
  k_with "spliced" => (k_dflt (first | refine args_cons ?_ | (refine args_nil ?_; try simp only [List.cons_append, List.nil_append])))
  k_with "ite" => (k_dflt (first | refine ite_pos (by decide +kernel) ?_ | refine ite_neg (by decide +kernel) ?_))
  k_with "And" => ((with_reducible show PySem.Str.length (_ ++ _) ≤ sizeLine ∧ _); refine ⟨Nat.le_of_ble_eq_true (by kernel_rfl!), ?_⟩)
  k_with "exec Assign cons Tuple" => (k_dflt (refine Assign_Tuple ?_))
  k_with "callWith ref" => (k_dflt (refine' callWith_K ?k1 ?k2 ?_; (case k1 => k_asm); (case k2 => k_is); k_whole))
  k_with "truthy bool" => (k_dflt (refine wpAny_truthy_bool ?_))
  k_with "isTrue Compare" => (k_dflt (refine wpAny_isTrue_Compare1 ?_))
  k_with "room" => (k_dflt (first | exact om_s2 (by assumption) (by rfl) | exact om_s1 (by assumption) (by rfl) | exact om_s0 (by assumption)))
  k_with "ne" => with_reducible (first | assumption | exact om_sy (by assumption) | exact Nat.ne_of_gt (by assumption) | exact Nat.ne_of_lt (by assumption) | exact om_n1 (by assumption) | exact om_n2 (by assumption) | exact om_n3 (by assumption) | exact om_z2 (by assumption) | exact om_z3 (by assumption) | exact om_z4 (by assumption) | exact (om_n1 (by assumption)).symm | exact (om_n2 (by assumption)).symm | exact (om_n3 (by assumption)).symm | exact (om_z2 (by assumption)).symm | exact (om_z3 (by assumption)).symm | exact (om_z4 (by assumption)).symm | exact om_n4 (by assumption) | exact om_z5 (by assumption) | exact (om_n4 (by assumption)).symm | exact (om_z5 (by assumption)).symm | exact om_n5 (by assumption) | exact om_z6 (by assumption) | exact (om_n5 (by assumption)).symm | exact (om_z6 (by assumption)).symm | exact om_e1 (by assumption) | exact om_e2 (by assumption) | exact om_e3 (by assumption))
  k_with "om" => with_reducible (first | ((show _ ≠ _); k_extra "ne") | ((show @LT.lt Nat _ (_ + _ + _) _); exact om_s2 (by assumption) (by decide)) | ((show @LT.lt Nat _ (_ + _) _); exact om_s1 (by assumption) (by decide)) | ((show @LT.lt Nat _ _ _); first | assumption | exact om_s0 (by assumption)) | ((show @LE.le Nat _ (_ + 1) _); exact om_succ (by assumption) (by assumption)) | ((show @LE.le Nat _ _ _); first | exact Nat.zero_le _ | assumption | exact om_le (by assumption) (by decide) | exact om_lt_le (by assumption) (by decide) | exact om_eq_le (by assumption) (by assumption) (by decide) | exact om_eq_le' (by assumption) (by assumption) (by decide)) | ((show _ ∧ _); first | exact om_rg (by assumption) (by decide) | exact om_r1 (by assumption) (by decide)))
  k_with "leave" => (first | ((with_reducible refine thru_ hT7 ?_); (try clear hT7); (try clear T7)) | (with_reducible refine thru_ (by assumption) ?_))
  k_with "all" => exact fun p9 hp9 => Nat.ne_of_lt (by first | exact l1 p9 hp9 | exact Nat.lt_succ_of_lt (l1 p9 hp9))
  k_with "om" => with_reducible (first | exact tr_m1 hn9 | exact tr_m4 hn9 | exact tr_m5 hn9)
  k_with "WhlRest" => (k_dflt (refine' whl_turn ?hE ?_; (case hE => exact hE)); (try k_sweep))
  k_with "subscriptTail Name Name str int" => ((with_reducible show wpAny _ _ (subscriptTail _ _ (Value.str pat _) (Value.int _ _)) _ _ _); first | (refine tr_item (k := 0) hpat9 (by omega) (by omega) rfl ?_; intro t8' k8') | (refine tr_item (k := 1) hpat9 (by omega) (by omega) rfl ?_; intro t8' k8') | (refine tr_item (k := 2) hpat9 (by omega) (by omega) rfl ?_; intro t8' k8') | (refine tr_item (k := 3) hpat9 (by omega) (by omega) rfl ?_; intro t8' k8') | (refine tr_item (k := 4) hpat9 (by omega) (by omega) rfl ?_; intro t8' k8'))
  k_with "truthy ref" => (k_dflt (first | (refine truthy_snoc (by k_asm) (by k_mem) (by omega) ?_; intro k8') | (refine truthy_nil (by k_asm) (by k_mem) ?_; intro k8')))
  k_with "subscriptTail Name UnaryOp ref int" => (k_dflt (refine last_snoc (by k_asm) (by k_mem) ?_))
  k_with "compareOp IsNot str ref" => (refine isNot_str_ref ?_)
  k_with "callWith ref" => ((with_reducible show wpAny _ _ (callWith _ (Value.ref M9) [] _ []) _ _ _); k_dflt (refine callWith_bm (D := D9) ?_))
  k_with "BmAt" => (k_dflt (exact bmAt (by k_asm) (by k_mem)))
  k_with "call ref" => ((with_reducible show wpAny _ _ (call (Value.ref M9) [_]) _ _ _); k_dflt (refine' bound_appendK ?p1 ?p2 ?p3 ?p4 ?_ ?p5; (case p1 => k_asm); (case p2 => k_asm); (case p3 => k_mem); (case p4 => k_upd); (case p5 => (rw [List.size_toArray, sizeLine_eq]; omega))); intro h8' F8' N8'; (try simp only [List.push_toArray] at N8'))
  k_with "call ref" => (k_dflt (refine' esc_c ?k1 ?k2 ?k3 ?k4 ?k5 ?k6 ?k7 ?k8 ?x1 ?_; (case k1 => k_asm); (case k2 => k_asm); (case k3 => k_asm); (case k4 => k_asm); (case k5 => k_asm); (case k6 => first | exact rfl | assumption); (case k7 => ktr_room); (case k8 => ktr_units); (case x1 => exact abc_tok hc9); intro t9 h9 tk9 F9 N9; (try dsimp only); (try k_fold)))
  k_with "exec While" => (k_here; (with_reducible show wpAny _ _ (exec (Stmt.While (Expr.BoolOp _ _ _) _ _ _) _) _ _ _); k_dflt (refine whl_start 100 ?_))
  k_with "exec While" => (k_here; (with_reducible show wpAny _ _ (exec (Stmt.While (Expr.Constant _ _ _) _ _ _) _) _ _ _); k_dflt (refine whl_start 100 ?_))
  k_with "subscriptTail Name Slice str ref" => ((with_reducible show wpAny _ _ (subscriptTail _ _ (Value.str pat _) _) _ _ _); (rename Fr _ _ _ _ => sF'); (rename News _ _ _ _ => sN'); k_dflt (first | (refine tr_slice (a := 1) (b := 3) (z := ⟨#[a9, d9]⟩) hpat9 (by omega) (by omega) (by omega) (by omega) (by (simp only [List.length_cons]; omega)) rfl sF' sN' ?_) | (refine tr_slice (a := 1) (b := 3) (z := ⟨#[33, a9]⟩) hpat9 (by omega) (by omega) (by omega) (by omega) (by (simp only [List.length_cons]; omega)) rfl sF' sN' ?_) | (refine tr_slice (a := 1) (b := 4) (z := ⟨#[33, a9, d9]⟩) hpat9 (by omega) (by omega) (by omega) (by omega) (by (simp only [List.length_cons]; omega)) rfl sF' sN' ?_) | (refine tr_slice (a := 1) (b := 4) (z := ⟨#[97, 45, 99]⟩) hpat9 (by omega) (by omega) (by omega) (by omega) (by (simp only [List.length_cons]; omega)) rfl sF' sN' ?_) | (refine tr_slice (a := 1) (b := 2) (z := ⟨#[97]⟩) hpat9 (by omega) (by omega) (by omega) (by omega) (by (simp only [List.length_cons]; omega)) rfl sF' sN' ?_) | (refine tr_slice (a := 3) (b := 4) (z := ⟨#[99]⟩) hpat9 (by omega) (by omega) (by omega) (by omega) (by (simp only [List.length_cons]; omega)) rfl sF' sN' ?_)); intro h8' t8' k8' F8' N8')
  k_with "subscriptTail Name Slice str ref" => ((with_reducible show wpAny _ _ (subscriptTail _ _ (Value.str ⟨#[33, a9]⟩ _) _) _ _ _); (rename Fr _ _ _ _ => sF'); (rename News _ _ _ _ => sN'); k_dflt (refine slice1_w (y := ⟨#[a9]⟩) ((by first | decide +kernel | (apply tokE hc9; decide +kernel; decide +kernel; decide +kernel) | (apply tokE2 hc9; decide +kernel; decide +kernel; decide +kernel))) (Nat.le_of_ble_eq_true rfl) sF' sN' ?_); intro h8' t8' k8' F8' N8')
  k_with "subscriptTail Name Slice str ref" => ((with_reducible show wpAny _ _ (subscriptTail _ _ (Value.str ⟨#[33, a9, d9]⟩ _) _) _ _ _); (rename Fr _ _ _ _ => sF'); (rename News _ _ _ _ => sN'); k_dflt (refine slice1_w (y := ⟨#[a9, d9]⟩) ((by first | decide +kernel | (apply tokE hc9; decide +kernel; decide +kernel; decide +kernel) | (apply tokE2 hc9; decide +kernel; decide +kernel; decide +kernel))) (Nat.le_of_ble_eq_true rfl) sF' sN' ?_); intro h8' t8' k8' F8' N8')
  k_with "call builtin:str.find" => (k_dflt (first | (refine find_hitP (a := 2) (b := 4) hpat9 (by omega) (by omega) rfl rfl (by omega) (by (simp only [List.length_cons]; omega)) ?_) | (refine find_missP (a := 5) (b := 4) hpat9 (by omega) (by omega) rfl (by omega) (by (simp only [List.length_cons]; omega)) ?_)); intro t8' k8')
  k_with "compareOp NotIn str str" => first | (refine notIn_w (b := true) ((by first | decide +kernel | (apply tokE hc9; decide +kernel; decide +kernel; decide +kernel) | (apply tokE2 hc9; decide +kernel; decide +kernel; decide +kernel))) ?_) | (refine notIn_w (b := false) ((by first | decide +kernel | (apply tokE hc9; decide +kernel; decide +kernel; decide +kernel) | (apply tokE2 hc9; decide +kernel; decide +kernel; decide +kernel))) ?_)
  k_with "call builtin:str.replace" => (refine rep_none ((by first | decide +kernel | (apply tokE hc9; decide +kernel; decide +kernel; decide +kernel) | (apply tokE2 hc9; decide +kernel; decide +kernel; decide +kernel))) ?_)
  k_with "getMethod ref" => (k_dflt (refine gm_sub (by k_asm) (by assumption) ?_))
  k_with "call builtin:re.Pattern.sub" => (k_dflt (refine' resub_K ?p1 ?p2 ?p3 ?p4 ?p5 ?p6 ?p7 ?p8 ?p9 ?_; (case p1 => k_asm); (case p2 => k_asm); (case p3 => assumption); (case p4 => k_mem); (case p5 => assumption); (case p6 => exact (by first | decide +kernel | (apply tokE hc9; decide +kernel; decide +kernel; decide +kernel) | (apply tokE2 hc9; decide +kernel; decide +kernel; decide +kernel))); (case p7 => exact Nat.le_of_ble_eq_true rfl); (case p8 => exact Nat.le_of_ble_eq_true rfl); (case p9 => rfl)); intro h8' t8' k8' F8' N8')
  k_with "eval Lambda" => (k_here; k_dflt (refine' kla_eval ?d0 ?_; (case d0 => exact rfl)); k_dflt (refine' lam_K ?F ?N ?T ?C ?cd ?U ?ht ?cl ?_; (case F => k_asm); (case N => k_asm); (case T => assumption); (case C => exact tab_at hC B'); (case cd => exact rfl); (case U => k_updF); (case ht => assumption); (case cl => exact rfl)); intro f8' fo8' h8' k8' ps8' F8' N8' hf8' ht8' l8'; (try dsimp only at N8'); (try k_lt l8'))
  k_with "eval GeneratorExp" => (k_here; k_dflt (refine' genexp_K (vs := [_, _]) (ts := [Str.ofString "a", Str.ofString "c"]) ?p1 ?p2 ?p3 ?p4 ?p5 ?p6 ?p7 ?p8 ?p9 ?pA ?pB ?pC ?pD ?pE ?pF ?pG ?pH ?pI ?pJ ?pK ?pL ?_ ?pM; (case p1 => k_asm); (case p2 => k_asm); (case p3 => assumption); (case p4 => exact tab_at hC B'); (case p5 => rfl); (case p6 => k_updF); (case p7 => assumption); (case p8 => exact G9); (case p9 => k_mem); (case pA => exact .cons _ _ (.cons _ _ .nil)); (case pB => rfl); (case pC => rfl); (case pD => rfl); (case pE => with_unfolding_all rfl); (case pF => decide); (case pG => rfl); (case pH => rfl); (case pI => rfl); (case pJ => ktr_room); (case pK => ((rename Fr _ _ _ _ => gF'); exact wpAny_Name (wpAny_loadName_local rfl rfl gF'.ns (by with_unfolding_all rfl) ⟨rfl, rfl⟩) (by decide))); (case pL => (intro C8 code8 A8 E8 a8 t8 s8 m8 ha8 hn8 hm8; (have hz8 : a8 = Str.ofString "a" ∨ a8 = Str.ofString "c" := by simpa using ha8); rcases hz8 with rfl | rfl <;> exact elt_K rfl rfl (by decide) hn8 hm8 (by decide +kernel) (by decide +kernel))); (case pM => (intro x8; with_unfolding_all rfl))); intro aG sG psG KG FG NG hpsG hGG XG hLKG hnKG hbKG; (try dsimp only at NG hnKG))
  k_with "call builtin:str.join" => (k_dflt (refine' join_genK ?p1 ?p2 ?p3 XG hLKG ?p4 ?p5 ?p6 ?_; (case p1 => k_asm); (case p2 => exact NG); (case p3 => exact hGG); (case p4 => exact hnKG); (case p5 => decide +kernel); (case p6 => decide)); intro s8' t8' F8' N8' G8')
  k_with "truthy str" => (refine KXt.truthy (by with_unfolding_all rfl) (Nat.le_of_ble_eq_true rfl) ?_; intro k8')
  k_with "ite" => (k_dflt (first | refine ite_pos ((by first | decide +kernel | (apply tokE hc9; decide +kernel; decide +kernel; decide +kernel) | (apply tokE2 hc9; decide +kernel; decide +kernel; decide +kernel))) ?_ | refine ite_neg ((by first | decide +kernel | (apply tokE hc9; decide +kernel; decide +kernel; decide +kernel) | (apply tokE2 hc9; decide +kernel; decide +kernel; decide +kernel))) ?_))
  k_with "formatField str" => (refine formatField_str ?_ (Nat.le_of_ble_eq_true rfl); intro t8' k8')
  k_with "subscriptTail Name BinOp ref int" => (k_dflt (refine kim_list (by k_asm) (by k_mem) rfl rfl (by omega) (by omega) (by rfl) ?_))
  k_with "subscriptTail Name Name ref int" => (k_dflt (refine kim_list (by k_asm) (by k_mem) rfl rfl (by omega) (by omega) (by rfl) ?_))
  k_steps
  all_goals first | (exfalso; omega) | ((rename Fr _ _ _ _ => eF'); (rename News _ _ _ _ => eN'); (refine' gw_end ⟨⟨_, _⟩, q9 + 1, _, _⟩ eF' eN' ?hGG ?hn ?hk ?hr ?hp ?hm); (case hGG => assumption); (case hk => with_unfolding_all kst_all); (case hn => ((try dsimp only); with_unfolding_all exact List.forall_mem_cons.mpr ⟨(by repeat (first | assumption | exact List.mem_cons_self | exact List.mem_append_left _ (by assumption) | exact List.mem_append_right _ (by assumption) | refine List.mem_cons_of_mem _ ?_)), List.forall_mem_cons.mpr ⟨(by repeat (first | assumption | exact List.mem_cons_self | exact List.mem_append_left _ (by assumption) | exact List.mem_append_right _ (by assumption) | refine List.mem_cons_of_mem _ ?_)), List.forall_mem_cons.mpr ⟨(by repeat (first | assumption | exact List.mem_cons_self | exact List.mem_append_left _ (by assumption) | exact List.mem_append_right _ (by assumption) | refine List.mem_cons_of_mem _ ?_)), List.forall_mem_cons.mpr ⟨(by repeat (first | assumption | exact List.mem_cons_self | exact List.mem_append_left _ (by assumption) | exact List.mem_append_right _ (by assumption) | refine List.mem_cons_of_mem _ ?_)), List.forall_mem_nil _⟩⟩⟩⟩)); (case hr => with_unfolding_all ksw_same); (case hp => refine ⟨?_, by assumption⟩; first | exact tr_some (tk := [_]) hpat9 (by first | rfl | omega | (dsimp only; omega)) hT9 hparts9 hvs9 hvl9 (Nat.le_of_ble_eq_true rfl) | exact tr_some (tk := [_, _, _, _]) hpat9 (by first | rfl | omega | (dsimp only; omega) | (simp only [List.length_cons, List.length_nil]; omega)) hT9 hparts9 hvs9 hvl9 (Nat.le_of_ble_eq_true rfl) | exact tr_some (tk := [_, _, _, _, _]) hpat9 (by first | rfl | omega | (dsimp only; omega) | (simp only [List.length_cons, List.length_nil]; omega)) hT9 hparts9 hvs9 hvl9 (Nat.le_of_ble_eq_true rfl) | exact tr_star hpat9 (by first | rfl | omega | (dsimp only; omega)) hT9 hparts9 hvs9 hvl9); (case hm => (dsimp only; omega)))
end
set_option Elab.async false
set_option maxRecDepth 100000
set_option maxHeartbeats 5000000
section
variable {w : World} {o : OsState} {mean : ExcName → Option Value} {loose : List Str} {mg mb : Str → Option Value} {dp un : Nat} {gd : Option (List Code)} {cn : Str} {cs : Scope} {a : Addr} {ccd : Value} {cl : List (Str × Addr)} {outer : List Env} {A₀ : Around} {base h₀ : Heap} {L : Addr} {m : Str → Option Value} {news : List (Addr × Obj)} {s : Shared} {Q E : Value → Shared → Prop}
theorem trt7 (B : Below A₀ base outer h₀) (X : (KF w.params).In h₀) (T : Top topProg loose mean mg mb h₀) (hd : dp + 2 < recursionLimit) (hu : un + 60 < cLine) (hC : CodeHd base 117 113) {Q : Flow → Shared → Prop} {pat : Str} {t u it9 : Tok} {S M9 D9 : Addr} {ti tn : Tok} {parts done9 rem9 : List (Option Str)} {q9 : Nat} {ps9 : Array Value} {pre9 cs9 : List Nat} {u9 : Str → Option Value} {vs9 : List Value} {a9 : Nat} {d9 : Nat} 
    (hS3 : @Ne Nat S 113) (l1 : @LT.lt Nat _ S L ∧ @LT.lt Nat _ 113 L) (l2 : @LT.lt Nat _ S D9 ∧ @LT.lt Nat _ 113 D9) (l3 : @LT.lt Nat _ D9 M9 ∧ @LT.lt Nat _ S M9 ∧ @LT.lt Nat _ 113 M9) (hl : pat.length ≤ 100) (hpat9 : pat.cps.toList = pre9 ++ 91 :: 33 :: a9 :: d9 :: 93 :: cs9) (hT9 : Tk true cs9 rem9) (hparts9 : parts = done9 ++ some ⟨#[91, 94, a9, d9, 93]⟩ :: rem9) (hvs9 : PartsAre S vs9 done9) (hvl9 : (vs9).length ≤ pre9.length) (hc9 : (a9 = 97 ∧ d9 = 98) ∨ (a9 = 97 ∧ d9 = 99) ∨ (a9 = 98 ∧ d9 = 99)) (hps9 : TabOk ps9) (G9 : Bare o s) (hE : PassesOwn (model (OpenLaw.row PySem.Challenge.rw_in0163_01).toRowW.prog w) (ktrTop dp un gd (Str.ofString "_translate") trSc.1 L 118 (.ref 117) [] outer) (envX (Str.ofString "_translate") trSc.1 L 118 (.ref 117) []) E)
    (F9 : Fr h₀ L s.heap fun z => if z = Str.ofString "i" then some (.int (pre9.length : Int) it9) else if ([Str.ofString "c", Str.ofString "j", Str.ofString "stuff", Str.ofString "chunks", Str.ofString "k", Str.ofString "chunk"]).contains z then u9 z else (trM pat t u S M9 D9 ti tn) z) (N9 : News h₀ L s.heap [(M9, bmO D9), (D9, listOf (List.toArray vs9) q9), (S, obO), (113, tabObj ps9)]) :
    wpAny (model (OpenLaw.row PySem.Challenge.rw_in0163_01).toRowW.prog w) (ktrTop dp un gd (Str.ofString "_translate") trSc.1 L 118 (.ref 117) [] outer) (isTrue trTest.1 (envX (Str.ofString "_translate") trSc.1 L 118 (.ref 117) []) (eval trTest.1 (envX (Str.ofString "_translate") trSc.1 L 118 (.ref 117) []))) (fun b s₂ => if b = true then wpAny (model (OpenLaw.row PySem.Challenge.rw_in0163_01).toRowW.prog w) (ktrTop dp un gd (Str.ofString "_translate") trSc.1 L 118 (.ref 117) [] outer) (execs trBody.1 (envX (Str.ofString "_translate") trSc.1 L 118 (.ref 117) [])) (GwPost o h₀ L (σ := (Int × Tok) × Nat × List Value × Array Value) (fun c => [(M9, bmO D9), (D9, listOf c.2.2.1.toArray c.2.1), (S, obO), (113, tabObj c.2.2.2)]) (fun c => [(Str.ofString "i", .int c.1.1 c.1.2)]) [Str.ofString "c", Str.ofString "j", Str.ofString "stuff", Str.ofString "chunks", Str.ofString "k", Str.ofString "chunk"] (trM pat t u S M9 D9 ti tn) (fun c => TrP pat parts S c.1.1 c.2.2.1 ∧ TabOk c.2.2.2) (fun c => pat.length - c.1.1.toNat) Q ⟨⟨(pre9.length : Int), it9⟩, q9, vs9, ps9⟩) E s₂ else Q .next s₂) E s := by
  have hn9 := tr_len hpat9
  have B' := B
  (try simp only [List.length_cons, List.length_nil] at hn9)
  dsimp only [trTest, trBody, trSc]
  revert X; k_fill; intro X
  k_with_none
  k_with "execs cons" => ((k_dflt (refine wpAny_execs_cons (post_gen fun T7 hT7 => ?_))); (try dsimp only))
  k_with "execs nil" => (k_dflt (refine wpAny_execs_nil ?_))
  k_with "exec If" => (k_dflt (refine wpAny_If ?_))
  k_with "exec Assign" => (k_dflt (refine wpAny_Assign_Name ?_))
  k_with "eval Name" => (k_dflt (refine' nameX_L ?F ?v ?_ ?a ?b ?d; (case F => k_asm); (case a => rfl); (case b => kernel_rfl!); (case d => kernel_rfl); (case v => first | rfl | assumption); k_whole))
  k_with "storeName" => (k_dflt (refine' storeX_L ?F ?N ?_ ?a ?b; (case F => k_asm); (case N => k_asm); (case a => rfl); (case b => rfl); k_whole; intro hS7 FS7 NS7; (try k_sweep)))
  k_with "spliced" => (k_dflt (first | refine args_cons ?_ | (refine args_nil ?_; try simp only [List.cons_append, List.nil_append])))
  k_with "ite" => (k_dflt (first | refine ite_pos (by decide +kernel) ?_ | refine ite_neg (by decide +kernel) ?_))
  k_with "And" => ((with_reducible show PySem.Str.length (_ ++ _) ≤ sizeLine ∧ _); refine ⟨Nat.le_of_ble_eq_true (by kernel_rfl!), ?_⟩)
  k_with "exec Assign cons Tuple" => (k_dflt (refine Assign_Tuple ?_))
  k_with "callWith ref" => (k_dflt (refine' callWith_K ?k1 ?k2 ?_; (case k1 => k_asm); (case k2 => k_is); k_whole))
  k_with "truthy bool" => (k_dflt (refine wpAny_truthy_bool ?_))
  k_with "isTrue Compare" => (k_dflt (refine wpAny_isTrue_Compare1 ?_))
  k_with "room" => (k_dflt (first | exact om_s2 (by assumption) (by rfl) | exact om_s1 (by assumption) (by rfl) | exact om_s0 (by assumption)))
  k_with "ne" => with_reducible (first | assumption | exact om_sy (by assumption) | exact Nat.ne_of_gt (by assumption) | exact Nat.ne_of_lt (by assumption) | exact om_n1 (by assumption) | exact om_n2 (by assumption) | exact om_n3 (by assumption) | exact om_z2 (by assumption) | exact om_z3 (by assumption) | exact om_z4 (by assumption) | exact (om_n1 (by assumption)).symm | exact (om_n2 (by assumption)).symm | exact (om_n3 (by assumption)).symm | exact (om_z2 (by assumption)).symm | exact (om_z3 (by assumption)).symm | exact (om_z4 (by assumption)).symm | exact om_n4 (by assumption) | exact om_z5 (by assumption) | exact (om_n4 (by assumption)).symm | exact (om_z5 (by assumption)).symm | exact om_n5 (by assumption) | exact om_z6 (by assumption) | exact (om_n5 (by assumption)).symm | exact (om_z6 (by assumption)).symm | exact om_e1 (by assumption) | exact om_e2 (by assumption) | exact om_e3 (by assumption))
  k_with "om" => with_reducible (first | ((show _ ≠ _); k_extra "ne") | ((show @LT.lt Nat _ (_ + _ + _) _); exact om_s2 (by assumption) (by decide)) | ((show @LT.lt Nat _ (_ + _) _); exact om_s1 (by assumption) (by decide)) | ((show @LT.lt Nat _ _ _); first | assumption | exact om_s0 (by assumption)) | ((show @LE.le Nat _ (_ + 1) _); exact om_succ (by assumption) (by assumption)) | ((show @LE.le Nat _ _ _); first | exact Nat.zero_le _ | assumption | exact om_le (by assumption) (by decide) | exact om_lt_le (by assumption) (by decide) | exact om_eq_le (by assumption) (by assumption) (by decide) | exact om_eq_le' (by assumption) (by assumption) (by decide)) | ((show _ ∧ _); first | exact om_rg (by assumption) (by decide) | exact om_r1 (by assumption) (by decide)))
  k_with "leave" => (first | ((with_reducible refine thru_ hT7 ?_); (try clear hT7); (try clear T7)) | (with_reducible refine thru_ (by assumption) ?_))
  k_with "all" => exact fun p9 hp9 => Nat.ne_of_lt (by first | exact l1 p9 hp9 | exact Nat.lt_succ_of_lt (l1 p9 hp9))
  k_with "om" => with_reducible (first | exact tr_m1 hn9 | exact tr_m4 hn9 | exact tr_m5 hn9)
  k_with "WhlRest" => (k_dflt (refine' whl_turn ?hE ?_; (case hE => exact hE)); (try k_sweep))
  k_with "subscriptTail Name Name str int" => ((with_reducible show wpAny _ _ (subscriptTail _ _ (Value.str pat _) (Value.int _ _)) _ _ _); first | (refine tr_item (k := 0) hpat9 (by omega) (by omega) rfl ?_; intro t8' k8') | (refine tr_item (k := 1) hpat9 (by omega) (by omega) rfl ?_; intro t8' k8') | (refine tr_item (k := 2) hpat9 (by omega) (by omega) rfl ?_; intro t8' k8') | (refine tr_item (k := 3) hpat9 (by omega) (by omega) rfl ?_; intro t8' k8') | (refine tr_item (k := 4) hpat9 (by omega) (by omega) rfl ?_; intro t8' k8'))
  k_with "truthy ref" => (k_dflt (first | (refine truthy_snoc (by k_asm) (by k_mem) (by omega) ?_; intro k8') | (refine truthy_nil (by k_asm) (by k_mem) ?_; intro k8')))
  k_with "subscriptTail Name UnaryOp ref int" => (k_dflt (refine last_snoc (by k_asm) (by k_mem) ?_))
  k_with "compareOp IsNot str ref" => (refine isNot_str_ref ?_)
  k_with "callWith ref" => ((with_reducible show wpAny _ _ (callWith _ (Value.ref M9) [] _ []) _ _ _); k_dflt (refine callWith_bm (D := D9) ?_))
  k_with "BmAt" => (k_dflt (exact bmAt (by k_asm) (by k_mem)))
  k_with "call ref" => ((with_reducible show wpAny _ _ (call (Value.ref M9) [_]) _ _ _); k_dflt (refine' bound_appendK ?p1 ?p2 ?p3 ?p4 ?_ ?p5; (case p1 => k_asm); (case p2 => k_asm); (case p3 => k_mem); (case p4 => k_upd); (case p5 => (rw [List.size_toArray, sizeLine_eq]; omega))); intro h8' F8' N8'; (try simp only [List.push_toArray] at N8'))
  k_with "call ref" => (k_dflt (refine' esc_c ?k1 ?k2 ?k3 ?k4 ?k5 ?k6 ?k7 ?k8 ?x1 ?_; (case k1 => k_asm); (case k2 => k_asm); (case k3 => k_asm); (case k4 => k_asm); (case k5 => k_asm); (case k6 => first | exact rfl | assumption); (case k7 => ktr_room); (case k8 => ktr_units); (case x1 => exact abc_tok hc9); intro t9 h9 tk9 F9 N9; (try dsimp only); (try k_fold)))
  k_with "exec While" => (k_here; (with_reducible show wpAny _ _ (exec (Stmt.While (Expr.BoolOp _ _ _) _ _ _) _) _ _ _); k_dflt (refine whl_start 100 ?_))
  k_with "exec While" => (k_here; (with_reducible show wpAny _ _ (exec (Stmt.While (Expr.Constant _ _ _) _ _ _) _) _ _ _); k_dflt (refine whl_start 100 ?_))
  k_with "subscriptTail Name Slice str ref" => ((with_reducible show wpAny _ _ (subscriptTail _ _ (Value.str pat _) _) _ _ _); (rename Fr _ _ _ _ => sF'); (rename News _ _ _ _ => sN'); k_dflt (first | (refine tr_slice (a := 1) (b := 3) (z := ⟨#[a9, d9]⟩) hpat9 (by omega) (by omega) (by omega) (by omega) (by (simp only [List.length_cons]; omega)) rfl sF' sN' ?_) | (refine tr_slice (a := 1) (b := 3) (z := ⟨#[33, a9]⟩) hpat9 (by omega) (by omega) (by omega) (by omega) (by (simp only [List.length_cons]; omega)) rfl sF' sN' ?_) | (refine tr_slice (a := 1) (b := 4) (z := ⟨#[33, a9, d9]⟩) hpat9 (by omega) (by omega) (by omega) (by omega) (by (simp only [List.length_cons]; omega)) rfl sF' sN' ?_) | (refine tr_slice (a := 1) (b := 4) (z := ⟨#[97, 45, 99]⟩) hpat9 (by omega) (by omega) (by omega) (by omega) (by (simp only [List.length_cons]; omega)) rfl sF' sN' ?_) | (refine tr_slice (a := 1) (b := 2) (z := ⟨#[97]⟩) hpat9 (by omega) (by omega) (by omega) (by omega) (by (simp only [List.length_cons]; omega)) rfl sF' sN' ?_) | (refine tr_slice (a := 3) (b := 4) (z := ⟨#[99]⟩) hpat9 (by omega) (by omega) (by omega) (by omega) (by (simp only [List.length_cons]; omega)) rfl sF' sN' ?_)); intro h8' t8' k8' F8' N8')
  k_with "subscriptTail Name Slice str ref" => ((with_reducible show wpAny _ _ (subscriptTail _ _ (Value.str ⟨#[33, a9]⟩ _) _) _ _ _); (rename Fr _ _ _ _ => sF'); (rename News _ _ _ _ => sN'); k_dflt (refine slice1_w (y := ⟨#[a9]⟩) ((by first | decide +kernel | (apply tokE hc9; decide +kernel; decide +kernel; decide +kernel) | (apply tokE2 hc9; decide +kernel; decide +kernel; decide +kernel))) (Nat.le_of_ble_eq_true rfl) sF' sN' ?_); intro h8' t8' k8' F8' N8')
  k_with "subscriptTail Name Slice str ref" => ((with_reducible show wpAny _ _ (subscriptTail _ _ (Value.str ⟨#[33, a9, d9]⟩ _) _) _ _ _); (rename Fr _ _ _ _ => sF'); (rename News _ _ _ _ => sN'); k_dflt (refine slice1_w (y := ⟨#[a9, d9]⟩) ((by first | decide +kernel | (apply tokE hc9; decide +kernel; decide +kernel; decide +kernel) | (apply tokE2 hc9; decide +kernel; decide +kernel; decide +kernel))) (Nat.le_of_ble_eq_true rfl) sF' sN' ?_); intro h8' t8' k8' F8' N8')
  k_with "call builtin:str.find" => (k_dflt (first | (refine find_hitP (a := 2) (b := 4) hpat9 (by omega) (by omega) rfl rfl (by omega) (by (simp only [List.length_cons]; omega)) ?_) | (refine find_missP (a := 5) (b := 4) hpat9 (by omega) (by omega) rfl (by omega) (by (simp only [List.length_cons]; omega)) ?_)); intro t8' k8')
  k_with "compareOp NotIn str str" => first | (refine notIn_w (b := true) ((by first | decide +kernel | (apply tokE hc9; decide +kernel; decide +kernel; decide +kernel) | (apply tokE2 hc9; decide +kernel; decide +kernel; decide +kernel))) ?_) | (refine notIn_w (b := false) ((by first | decide +kernel | (apply tokE hc9; decide +kernel; decide +kernel; decide +kernel) | (apply tokE2 hc9; decide +kernel; decide +kernel; decide +kernel))) ?_)
  k_with "call builtin:str.replace" => (refine rep_none ((by first | decide +kernel | (apply tokE hc9; decide +kernel; decide +kernel; decide +kernel) | (apply tokE2 hc9; decide +kernel; decide +kernel; decide +kernel))) ?_)
  k_with "getMethod ref" => (k_dflt (refine gm_sub (by k_asm) (by assumption) ?_))
  k_with "call builtin:re.Pattern.sub" => (k_dflt (refine' resub_K ?p1 ?p2 ?p3 ?p4 ?p5 ?p6 ?p7 ?p8 ?p9 ?_; (case p1 => k_asm); (case p2 => k_asm); (case p3 => assumption); (case p4 => k_mem); (case p5 => assumption); (case p6 => exact (by first | decide +kernel | (apply tokE hc9; decide +kernel; decide +kernel; decide +kernel) | (apply tokE2 hc9; decide +kernel; decide +kernel; decide +kernel))); (case p7 => exact Nat.le_of_ble_eq_true rfl); (case p8 => exact Nat.le_of_ble_eq_true rfl); (case p9 => rfl)); intro h8' t8' k8' F8' N8')
  k_with "eval Lambda" => (k_here; k_dflt (refine' kla_eval ?d0 ?_; (case d0 => exact rfl)); k_dflt (refine' lam_K ?F ?N ?T ?C ?cd ?U ?ht ?cl ?_; (case F => k_asm); (case N => k_asm); (case T => assumption); (case C => exact tab_at hC B'); (case cd => exact rfl); (case U => k_updF); (case ht => assumption); (case cl => exact rfl)); intro f8' fo8' h8' k8' ps8' F8' N8' hf8' ht8' l8'; (try dsimp only at N8'); (try k_lt l8'))
  k_with "eval GeneratorExp" => (k_here; k_dflt (refine' genexp_K (vs := [_, _]) (ts := [Str.ofString "a", Str.ofString "c"]) ?p1 ?p2 ?p3 ?p4 ?p5 ?p6 ?p7 ?p8 ?p9 ?pA ?pB ?pC ?pD ?pE ?pF ?pG ?pH ?pI ?pJ ?pK ?pL ?_ ?pM; (case p1 => k_asm); (case p2 => k_asm); (case p3 => assumption); (case p4 => exact tab_at hC B'); (case p5 => rfl); (case p6 => k_updF); (case p7 => assumption); (case p8 => exact G9); (case p9 => k_mem); (case pA => exact .cons _ _ (.cons _ _ .nil)); (case pB => rfl); (case pC => rfl); (case pD => rfl); (case pE => with_unfolding_all rfl); (case pF => decide); (case pG => rfl); (case pH => rfl); (case pI => rfl); (case pJ => ktr_room); (case pK => ((rename Fr _ _ _ _ => gF'); exact wpAny_Name (wpAny_loadName_local rfl rfl gF'.ns (by with_unfolding_all rfl) ⟨rfl, rfl⟩) (by decide))); (case pL => (intro C8 code8 A8 E8 a8 t8 s8 m8 ha8 hn8 hm8; (have hz8 : a8 = Str.ofString "a" ∨ a8 = Str.ofString "c" := by simpa using ha8); rcases hz8 with rfl | rfl <;> exact elt_K rfl rfl (by decide) hn8 hm8 (by decide +kernel) (by decide +kernel))); (case pM => (intro x8; with_unfolding_all rfl))); intro aG sG psG KG FG NG hpsG hGG XG hLKG hnKG hbKG; (try dsimp only at NG hnKG))
  k_with "call builtin:str.join" => (k_dflt (refine' join_genK ?p1 ?p2 ?p3 XG hLKG ?p4 ?p5 ?p6 ?_; (case p1 => k_asm); (case p2 => exact NG); (case p3 => exact hGG); (case p4 => exact hnKG); (case p5 => decide +kernel); (case p6 => decide)); intro s8' t8' F8' N8' G8')
  k_with "truthy str" => (refine KXt.truthy (by with_unfolding_all rfl) (Nat.le_of_ble_eq_true rfl) ?_; intro k8')
  k_with "ite" => (k_dflt (first | refine ite_pos ((by first | decide +kernel | (apply tokE hc9; decide +kernel; decide +kernel; decide +kernel) | (apply tokE2 hc9; decide +kernel; decide +kernel; decide +kernel))) ?_ | refine ite_neg ((by first | decide +kernel | (apply tokE hc9; decide +kernel; decide +kernel; decide +kernel) | (apply tokE2 hc9; decide +kernel; decide +kernel; decide +kernel))) ?_))
  k_with "formatField str" => (refine formatField_str ?_ (Nat.le_of_ble_eq_true rfl); intro t8' k8')
  k_with "subscriptTail Name BinOp ref int" => (k_dflt (refine kim_list (by k_asm) (by k_mem) rfl rfl (by omega) (by omega) (by rfl) ?_))
  k_with "subscriptTail Name Name ref int" => (k_dflt (refine kim_list (by k_asm) (by k_mem) rfl rfl (by omega) (by omega) (by rfl) ?_))
  k_steps
  all_goals first | (exfalso; omega) | ((rename Fr _ _ _ _ => eF'); (rename News _ _ _ _ => eN'); (refine' gw_end ⟨⟨_, _⟩, q9 + 1, _, _⟩ eF' eN' ?hGG ?hn ?hk ?hr ?hp ?hm); (case hGG => assumption); (case hk => with_unfolding_all kst_all); (case hn => ((try dsimp only); with_unfolding_all exact List.forall_mem_cons.mpr ⟨(by repeat (first | assumption | exact List.mem_cons_self | exact List.mem_append_left _ (by assumption) | exact List.mem_append_right _ (by assumption) | refine List.mem_cons_of_mem _ ?_)), List.forall_mem_cons.mpr ⟨(by repeat (first | assumption | exact List.mem_cons_self | exact List.mem_append_left _ (by assumption) | exact List.mem_append_right _ (by assumption) | refine List.mem_cons_of_mem _ ?_)), List.forall_mem_cons.mpr ⟨(by repeat (first | assumption | exact List.mem_cons_self | exact List.mem_append_left _ (by assumption) | exact List.mem_append_right _ (by assumption) | refine List.mem_cons_of_mem _ ?_)), List.forall_mem_cons.mpr ⟨(by repeat (first | assumption | exact List.mem_cons_self | exact List.mem_append_left _ (by assumption) | exact List.mem_append_right _ (by assumption) | refine List.mem_cons_of_mem _ ?_)), List.forall_mem_nil _⟩⟩⟩⟩)); (case hr => with_unfolding_all ksw_same); (case hp => refine ⟨?_, by assumption⟩; first | exact tr_some (tk := [_]) hpat9 (by first | rfl | omega | (dsimp only; omega)) hT9 hparts9 hvs9 hvl9 (Nat.le_of_ble_eq_true rfl) | exact tr_some (tk := [_, _, _, _]) hpat9 (by first | rfl | omega | (dsimp only; omega) | (simp only [List.length_cons, List.length_nil]; omega)) hT9 hparts9 hvs9 hvl9 (Nat.le_of_ble_eq_true rfl) | exact tr_some (tk := [_, _, _, _, _]) hpat9 (by first | rfl | omega | (dsimp only; omega) | (simp only [List.length_cons, List.length_nil]; omega)) hT9 hparts9 hvs9 hvl9 (Nat.le_of_ble_eq_true rfl) | exact tr_star hpat9 (by first | rfl | omega | (dsimp only; omega)) hT9 hparts9 hvs9 hvl9); (case hm => (dsimp only; omega)))
end
set_option Elab.async false
set_option maxRecDepth 100000
set_option maxHeartbeats 5000000
section
variable {w : World} {o : OsState} {mean : ExcName → Option Value} {loose : List Str} {mg mb : Str → Option Value} {dp un : Nat} {gd : Option (List Code)} {cn : Str} {cs : Scope} {a : Addr} {ccd : Value} {cl : List (Str × Addr)} {outer : List Env} {A₀ : Around} {base h₀ : Heap} {L : Addr} {m : Str → Option Value} {news : List (Addr × Obj)} {s : Shared} {Q E : Value → Shared → Prop}
theorem trt8 (B : Below A₀ base outer h₀) (X : (KF w.params).In h₀) (T : Top topProg loose mean mg mb h₀) (hd : dp + 2 < recursionLimit) (hu : un + 60 < cLine) (hC : CodeHd base 117 113) {Q : Flow → Shared → Prop} {pat : Str} {t u it9 : Tok} {S M9 D9 : Addr} {ti tn : Tok} {parts done9 rem9 : List (Option Str)} {q9 : Nat} {ps9 : Array Value} {pre9 cs9 : List Nat} {u9 : Str → Option Value} {vs9 : List Value} 
    (hS3 : @Ne Nat S 113) (l1 : @LT.lt Nat _ S L ∧ @LT.lt Nat _ 113 L) (l2 : @LT.lt Nat _ S D9 ∧ @LT.lt Nat _ 113 D9) (l3 : @LT.lt Nat _ D9 M9 ∧ @LT.lt Nat _ S M9 ∧ @LT.lt Nat _ 113 M9) (hl : pat.length ≤ 100) (hpat9 : pat.cps.toList = pre9 ++ 91 :: 97 :: 45 :: 99 :: 93 :: cs9) (hT9 : Tk true cs9 rem9) (hparts9 : parts = done9 ++ some ⟨#[91, 97, 45, 99, 93]⟩ :: rem9) (hvs9 : PartsAre S vs9 done9) (hvl9 : (vs9).length ≤ pre9.length) (hps9 : TabOk ps9) (G9 : Bare o s) (hE : PassesOwn (model (OpenLaw.row PySem.Challenge.rw_in0163_01).toRowW.prog w) (ktrTop dp un gd (Str.ofString "_translate") trSc.1 L 118 (.ref 117) [] outer) (envX (Str.ofString "_translate") trSc.1 L 118 (.ref 117) []) E)
    (F9 : Fr h₀ L s.heap fun z => if z = Str.ofString "i" then some (.int (pre9.length : Int) it9) else if ([Str.ofString "c", Str.ofString "j", Str.ofString "stuff", Str.ofString "chunks", Str.ofString "k", Str.ofString "chunk"]).contains z then u9 z else (trM pat t u S M9 D9 ti tn) z) (N9 : News h₀ L s.heap [(M9, bmO D9), (D9, listOf (List.toArray vs9) q9), (S, obO), (113, tabObj ps9)]) :
    wpAny (model (OpenLaw.row PySem.Challenge.rw_in0163_01).toRowW.prog w) (ktrTop dp un gd (Str.ofString "_translate") trSc.1 L 118 (.ref 117) [] outer) (isTrue trTest.1 (envX (Str.ofString "_translate") trSc.1 L 118 (.ref 117) []) (eval trTest.1 (envX (Str.ofString "_translate") trSc.1 L 118 (.ref 117) []))) (fun b s₂ => if b = true then wpAny (model (OpenLaw.row PySem.Challenge.rw_in0163_01).toRowW.prog w) (ktrTop dp un gd (Str.ofString "_translate") trSc.1 L 118 (.ref 117) [] outer) (execs trBody.1 (envX (Str.ofString "_translate") trSc.1 L 118 (.ref 117) [])) (GwPost o h₀ L (σ := (Int × Tok) × Nat × List Value × Array Value) (fun c => [(M9, bmO D9), (D9, listOf c.2.2.1.toArray c.2.1), (S, obO), (113, tabObj c.2.2.2)]) (fun c => [(Str.ofString "i", .int c.1.1 c.1.2)]) [Str.ofString "c", Str.ofString "j", Str.ofString "stuff", Str.ofString "chunks", Str.ofString "k", Str.ofString "chunk"] (trM pat t u S M9 D9 ti tn) (fun c => TrP pat parts S c.1.1 c.2.2.1 ∧ TabOk c.2.2.2) (fun c => pat.length - c.1.1.toNat) Q ⟨⟨(pre9.length : Int), it9⟩, q9, vs9, ps9⟩) E s₂ else Q .next s₂) E s := by
  have hn9 := tr_len hpat9
  have B' := B
  (try simp only [List.length_cons, List.length_nil] at hn9)
  dsimp only [trTest, trBody, trSc]
  revert X; k_fill; intro X
  k_with_none
  k_with "execs cons" => ((k_dflt (refine wpAny_execs_cons (post_gen fun T7 hT7 => ?_))); (try dsimp only))
  k_with "execs nil" => (k_dflt (refine wpAny_execs_nil ?_))
  k_with "exec If" => (k_dflt (refine wpAny_If ?_))
  k_with "exec Assign" => (k_dflt (refine wpAny_Assign_Name ?_))
  k_with "eval Name" => (k_dflt (refine' nameX_L ?F ?v ?_ ?a ?b ?d; (case F => k_asm); (case a => rfl); (case b => kernel_rfl!); (case d => kernel_rfl); (case v => first | rfl | assumption); k_whole))
  k_with "storeName" => (k_dflt (refine' storeX_L ?F ?N ?_ ?a ?b; (case F => k_asm); (case N => k_asm); (case a => rfl); (case b => rfl); k_whole; intro hS7 FS7 NS7; (try k_sweep)))
  k_with "spliced" => (k_dflt (first | refine args_cons ?_ | (refine args_nil ?_; try simp only [List.cons_append, List.nil_append])))
  k_with "ite" => (k_dflt (first | refine ite_pos (by decide +kernel) ?_ | refine ite_neg (by decide +kernel) ?_))
  k_with "And" => ((with_reducible show PySem.Str.length (_ ++ _) ≤ sizeLine ∧ _); refine ⟨Nat.le_of_ble_eq_true (by kernel_rfl!), ?_⟩)
  k_with "exec Assign cons Tuple" => (k_dflt (refine Assign_Tuple ?_))
  k_with "callWith ref" => (k_dflt (refine' callWith_K ?k1 ?k2 ?_; (case k1 => k_asm); (case k2 => k_is); k_whole))
  k_with "truthy bool" => (k_dflt (refine wpAny_truthy_bool ?_))
  k_with "isTrue Compare" => (k_dflt (refine wpAny_isTrue_Compare1 ?_))
  k_with "room" => (k_dflt (first | exact om_s2 (by assumption) (by rfl) | exact om_s1 (by assumption) (by rfl) | exact om_s0 (by assumption)))
  k_with "ne" => with_reducible (first | assumption | exact om_sy (by assumption) | exact Nat.ne_of_gt (by assumption) | exact Nat.ne_of_lt (by assumption) | exact om_n1 (by assumption) | exact om_n2 (by assumption) | exact om_n3 (by assumption) | exact om_z2 (by assumption) | exact om_z3 (by assumption) | exact om_z4 (by assumption) | exact (om_n1 (by assumption)).symm | exact (om_n2 (by assumption)).symm | exact (om_n3 (by assumption)).symm | exact (om_z2 (by assumption)).symm | exact (om_z3 (by assumption)).symm | exact (om_z4 (by assumption)).symm | exact om_n4 (by assumption) | exact om_z5 (by assumption) | exact (om_n4 (by assumption)).symm | exact (om_z5 (by assumption)).symm | exact om_n5 (by assumption) | exact om_z6 (by assumption) | exact (om_n5 (by assumption)).symm | exact (om_z6 (by assumption)).symm | exact om_e1 (by assumption) | exact om_e2 (by assumption) | exact om_e3 (by assumption))
  k_with "om" => with_reducible (first | ((show _ ≠ _); k_extra "ne") | ((show @LT.lt Nat _ (_ + _ + _) _); exact om_s2 (by assumption) (by decide)) | ((show @LT.lt Nat _ (_ + _) _); exact om_s1 (by assumption) (by decide)) | ((show @LT.lt Nat _ _ _); first | assumption | exact om_s0 (by assumption)) | ((show @LE.le Nat _ (_ + 1) _); exact om_succ (by assumption) (by assumption)) | ((show @LE.le Nat _ _ _); first | exact Nat.zero_le _ | assumption | exact om_le (by assumption) (by decide) | exact om_lt_le (by assumption) (by decide) | exact om_eq_le (by assumption) (by assumption) (by decide) | exact om_eq_le' (by assumption) (by assumption) (by decide)) | ((show _ ∧ _); first | exact om_rg (by assumption) (by decide) | exact om_r1 (by assumption) (by decide)))
  k_with "leave" => (first | ((with_reducible refine thru_ hT7 ?_); (try clear hT7); (try clear T7)) | (with_reducible refine thru_ (by assumption) ?_))
  k_with "all" => exact fun p9 hp9 => Nat.ne_of_lt (by first | exact l1 p9 hp9 | exact Nat.lt_succ_of_lt (l1 p9 hp9))
  k_with "om" => with_reducible (first | exact tr_m1 hn9 | exact tr_m4 hn9 | exact tr_m5 hn9)
  k_with "WhlRest" => (k_dflt (refine' whl_turn ?hE ?_; (case hE => exact hE)); (try k_sweep))
  k_with "subscriptTail Name Name str int" => ((with_reducible show wpAny _ _ (subscriptTail _ _ (Value.str pat _) (Value.int _ _)) _ _ _); first | (refine tr_item (k := 0) hpat9 (by omega) (by omega) rfl ?_; intro t8' k8') | (refine tr_item (k := 1) hpat9 (by omega) (by omega) rfl ?_; intro t8' k8') | (refine tr_item (k := 2) hpat9 (by omega) (by omega) rfl ?_; intro t8' k8') | (refine tr_item (k := 3) hpat9 (by omega) (by omega) rfl ?_; intro t8' k8') | (refine tr_item (k := 4) hpat9 (by omega) (by omega) rfl ?_; intro t8' k8'))
  k_with "truthy ref" => (k_dflt (first | (refine truthy_snoc (by k_asm) (by k_mem) (by omega) ?_; intro k8') | (refine truthy_nil (by k_asm) (by k_mem) ?_; intro k8')))
  k_with "subscriptTail Name UnaryOp ref int" => (k_dflt (refine last_snoc (by k_asm) (by k_mem) ?_))
  k_with "compareOp IsNot str ref" => (refine isNot_str_ref ?_)
  k_with "callWith ref" => ((with_reducible show wpAny _ _ (callWith _ (Value.ref M9) [] _ []) _ _ _); k_dflt (refine callWith_bm (D := D9) ?_))
  k_with "BmAt" => (k_dflt (exact bmAt (by k_asm) (by k_mem)))
  k_with "call ref" => ((with_reducible show wpAny _ _ (call (Value.ref M9) [_]) _ _ _); k_dflt (refine' bound_appendK ?p1 ?p2 ?p3 ?p4 ?_ ?p5; (case p1 => k_asm); (case p2 => k_asm); (case p3 => k_mem); (case p4 => k_upd); (case p5 => (rw [List.size_toArray, sizeLine_eq]; omega))); intro h8' F8' N8'; (try simp only [List.push_toArray] at N8'))
  k_with "call ref" => (k_dflt (refine' esc_c ?k1 ?k2 ?k3 ?k4 ?k5 ?k6 ?k7 ?k8 ?x1 ?_; (case k1 => k_asm); (case k2 => k_asm); (case k3 => k_asm); (case k4 => k_asm); (case k5 => k_asm); (case k6 => first | exact rfl | assumption); (case k7 => ktr_room); (case k8 => ktr_units); (case x1 => exact abc_tok hc9); intro t9 h9 tk9 F9 N9; (try dsimp only); (try k_fold)))
  k_with "exec While" => (k_here; (with_reducible show wpAny _ _ (exec (Stmt.While (Expr.BoolOp _ _ _) _ _ _) _) _ _ _); k_dflt (refine whl_start 100 ?_))
  k_with "exec While" => (k_here; (with_reducible show wpAny _ _ (exec (Stmt.While (Expr.Constant _ _ _) _ _ _) _) _ _ _); k_dflt (refine whl_start 100 ?_))
  k_with "subscriptTail Name Slice str ref" => ((with_reducible show wpAny _ _ (subscriptTail _ _ (Value.str pat _) _) _ _ _); (rename Fr _ _ _ _ => sF'); (rename News _ _ _ _ => sN'); k_dflt (first | (refine tr_slice (a := 1) (b := 3) (z := ⟨#[a9, d9]⟩) hpat9 (by omega) (by omega) (by omega) (by omega) (by (simp only [List.length_cons]; omega)) rfl sF' sN' ?_) | (refine tr_slice (a := 1) (b := 3) (z := ⟨#[33, a9]⟩) hpat9 (by omega) (by omega) (by omega) (by omega) (by (simp only [List.length_cons]; omega)) rfl sF' sN' ?_) | (refine tr_slice (a := 1) (b := 4) (z := ⟨#[33, a9, d9]⟩) hpat9 (by omega) (by omega) (by omega) (by omega) (by (simp only [List.length_cons]; omega)) rfl sF' sN' ?_) | (refine tr_slice (a := 1) (b := 4) (z := ⟨#[97, 45, 99]⟩) hpat9 (by omega) (by omega) (by omega) (by omega) (by (simp only [List.length_cons]; omega)) rfl sF' sN' ?_) | (refine tr_slice (a := 1) (b := 2) (z := ⟨#[97]⟩) hpat9 (by omega) (by omega) (by omega) (by omega) (by (simp only [List.length_cons]; omega)) rfl sF' sN' ?_) | (refine tr_slice (a := 3) (b := 4) (z := ⟨#[99]⟩) hpat9 (by omega) (by omega) (by omega) (by omega) (by (simp only [List.length_cons]; omega)) rfl sF' sN' ?_)); intro h8' t8' k8' F8' N8')
  k_with "subscriptTail Name Slice str ref" => ((with_reducible show wpAny _ _ (subscriptTail _ _ (Value.str ⟨#[33, a9]⟩ _) _) _ _ _); (rename Fr _ _ _ _ => sF'); (rename News _ _ _ _ => sN'); k_dflt (refine slice1_w (y := ⟨#[a9]⟩) ((by first | decide +kernel | (apply tokE hc9; decide +kernel; decide +kernel; decide +kernel) | (apply tokE2 hc9; decide +kernel; decide +kernel; decide +kernel))) (Nat.le_of_ble_eq_true rfl) sF' sN' ?_); intro h8' t8' k8' F8' N8')
  k_with "subscriptTail Name Slice str ref" => ((with_reducible show wpAny _ _ (subscriptTail _ _ (Value.str ⟨#[33, a9, d9]⟩ _) _) _ _ _); (rename Fr _ _ _ _ => sF'); (rename News _ _ _ _ => sN'); k_dflt (refine slice1_w (y := ⟨#[a9, d9]⟩) ((by first | decide +kernel | (apply tokE hc9; decide +kernel; decide +kernel; decide +kernel) | (apply tokE2 hc9; decide +kernel; decide +kernel; decide +kernel))) (Nat.le_of_ble_eq_true rfl) sF' sN' ?_); intro h8' t8' k8' F8' N8')
  k_with "call builtin:str.find" => (k_dflt (first | (refine find_hitP (a := 2) (b := 4) hpat9 (by omega) (by omega) rfl rfl (by omega) (by (simp only [List.length_cons]; omega)) ?_) | (refine find_missP (a := 5) (b := 4) hpat9 (by omega) (by omega) rfl (by omega) (by (simp only [List.length_cons]; omega)) ?_)); intro t8' k8')
  k_with "compareOp NotIn str str" => first | (refine notIn_w (b := true) ((by first | decide +kernel | (apply tokE hc9; decide +kernel; decide +kernel; decide +kernel) | (apply tokE2 hc9; decide +kernel; decide +kernel; decide +kernel))) ?_) | (refine notIn_w (b := false) ((by first | decide +kernel | (apply tokE hc9; decide +kernel; decide +kernel; decide +kernel) | (apply tokE2 hc9; decide +kernel; decide +kernel; decide +kernel))) ?_)
  k_with "call builtin:str.replace" => (refine rep_none ((by first | decide +kernel | (apply tokE hc9; decide +kernel; decide +kernel; decide +kernel) | (apply tokE2 hc9; decide +kernel; decide +kernel; decide +kernel))) ?_)
  k_with "getMethod ref" => (k_dflt (refine gm_sub (by k_asm) (by assumption) ?_))
  k_with "call builtin:re.Pattern.sub" => (k_dflt (refine' resub_K ?p1 ?p2 ?p3 ?p4 ?p5 ?p6 ?p7 ?p8 ?p9 ?_; (case p1 => k_asm); (case p2 => k_asm); (case p3 => assumption); (case p4 => k_mem); (case p5 => assumption); (case p6 => exact (by first | decide +kernel | (apply tokE hc9; decide +kernel; decide +kernel; decide +kernel) | (apply tokE2 hc9; decide +kernel; decide +kernel; decide +kernel))); (case p7 => exact Nat.le_of_ble_eq_true rfl); (case p8 => exact Nat.le_of_ble_eq_true rfl); (case p9 => rfl)); intro h8' t8' k8' F8' N8')
  k_with "eval Lambda" => (k_here; k_dflt (refine' kla_eval ?d0 ?_; (case d0 => exact rfl)); k_dflt (refine' lam_K ?F ?N ?T ?C ?cd ?U ?ht ?cl ?_; (case F => k_asm); (case N => k_asm); (case T => assumption); (case C => exact tab_at hC B'); (case cd => exact rfl); (case U => k_updF); (case ht => assumption); (case cl => exact rfl)); intro f8' fo8' h8' k8' ps8' F8' N8' hf8' ht8' l8'; (try dsimp only at N8'); (try k_lt l8'))
  k_with "eval GeneratorExp" => (k_here; k_dflt (refine' genexp_K (vs := [_, _]) (ts := [Str.ofString "a", Str.ofString "c"]) ?p1 ?p2 ?p3 ?p4 ?p5 ?p6 ?p7 ?p8 ?p9 ?pA ?pB ?pC ?pD ?pE ?pF ?pG ?pH ?pI ?pJ ?pK ?pL ?_ ?pM; (case p1 => k_asm); (case p2 => k_asm); (case p3 => assumption); (case p4 => exact tab_at hC B'); (case p5 => rfl); (case p6 => k_updF); (case p7 => assumption); (case p8 => exact G9); (case p9 => k_mem); (case pA => exact .cons _ _ (.cons _ _ .nil)); (case pB => rfl); (case pC => rfl); (case pD => rfl); (case pE => with_unfolding_all rfl); (case pF => decide); (case pG => rfl); (case pH => rfl); (case pI => rfl); (case pJ => ktr_room); (case pK => ((rename Fr _ _ _ _ => gF'); exact wpAny_Name (wpAny_loadName_local rfl rfl gF'.ns (by with_unfolding_all rfl) ⟨rfl, rfl⟩) (by decide))); (case pL => (intro C8 code8 A8 E8 a8 t8 s8 m8 ha8 hn8 hm8; (have hz8 : a8 = Str.ofString "a" ∨ a8 = Str.ofString "c" := by simpa using ha8); rcases hz8 with rfl | rfl <;> exact elt_K rfl rfl (by decide) hn8 hm8 (by decide +kernel) (by decide +kernel))); (case pM => (intro x8; with_unfolding_all rfl))); intro aG sG psG KG FG NG hpsG hGG XG hLKG hnKG hbKG; (try dsimp only at NG hnKG))
  k_with "call builtin:str.join" => (k_dflt (refine' join_genK ?p1 ?p2 ?p3 XG hLKG ?p4 ?p5 ?p6 ?_; (case p1 => k_asm); (case p2 => exact NG); (case p3 => exact hGG); (case p4 => exact hnKG); (case p5 => decide +kernel); (case p6 => decide)); intro s8' t8' F8' N8' G8')
  k_with "truthy str" => (refine KXt.truthy (by with_unfolding_all rfl) (Nat.le_of_ble_eq_true rfl) ?_; intro k8')
  k_with "ite" => (k_dflt (first | refine ite_pos ((by first | decide +kernel | (apply tokE hc9; decide +kernel; decide +kernel; decide +kernel) | (apply tokE2 hc9; decide +kernel; decide +kernel; decide +kernel))) ?_ | refine ite_neg ((by first | decide +kernel | (apply tokE hc9; decide +kernel; decide +kernel; decide +kernel) | (apply tokE2 hc9; decide +kernel; decide +kernel; decide +kernel))) ?_))
  k_with "formatField str" => (refine formatField_str ?_ (Nat.le_of_ble_eq_true rfl); intro t8' k8')
  k_with "subscriptTail Name BinOp ref int" => (k_dflt (refine kim_list (by k_asm) (by k_mem) rfl rfl (by omega) (by omega) (by rfl) ?_))
  k_with "subscriptTail Name Name ref int" => (k_dflt (refine kim_list (by k_asm) (by k_mem) rfl rfl (by omega) (by omega) (by rfl) ?_))
  k_steps
  all_goals first | (exfalso; omega) | ((rename Fr _ _ _ _ => eF'); (rename News _ _ _ _ => eN'); (refine' gw_end ⟨⟨_, _⟩, q9 + 1, _, _⟩ eF' eN' ?hGG ?hn ?hk ?hr ?hp ?hm); (case hGG => assumption); (case hk => with_unfolding_all kst_all); (case hn => ((try dsimp only); with_unfolding_all exact List.forall_mem_cons.mpr ⟨(by repeat (first | assumption | exact List.mem_cons_self | exact List.mem_append_left _ (by assumption) | exact List.mem_append_right _ (by assumption) | refine List.mem_cons_of_mem _ ?_)), List.forall_mem_cons.mpr ⟨(by repeat (first | assumption | exact List.mem_cons_self | exact List.mem_append_left _ (by assumption) | exact List.mem_append_right _ (by assumption) | refine List.mem_cons_of_mem _ ?_)), List.forall_mem_cons.mpr ⟨(by repeat (first | assumption | exact List.mem_cons_self | exact List.mem_append_left _ (by assumption) | exact List.mem_append_right _ (by assumption) | refine List.mem_cons_of_mem _ ?_)), List.forall_mem_cons.mpr ⟨(by repeat (first | assumption | exact List.mem_cons_self | exact List.mem_append_left _ (by assumption) | exact List.mem_append_right _ (by assumption) | refine List.mem_cons_of_mem _ ?_)), List.forall_mem_nil _⟩⟩⟩⟩)); (case hr => with_unfolding_all ksw_same); (case hp => refine ⟨?_, by assumption⟩; first | exact tr_some (tk := [_]) hpat9 (by first | rfl | omega | (dsimp only; omega)) hT9 hparts9 hvs9 hvl9 (Nat.le_of_ble_eq_true rfl) | exact tr_some (tk := [_, _, _, _]) hpat9 (by first | rfl | omega | (dsimp only; omega) | (simp only [List.length_cons, List.length_nil]; omega)) hT9 hparts9 hvs9 hvl9 (Nat.le_of_ble_eq_true rfl) | exact tr_some (tk := [_, _, _, _, _]) hpat9 (by first | rfl | omega | (dsimp only; omega) | (simp only [List.length_cons, List.length_nil]; omega)) hT9 hparts9 hvs9 hvl9 (Nat.le_of_ble_eq_true rfl) | exact tr_star hpat9 (by first | rfl | omega | (dsimp only; omega)) hT9 hparts9 hvs9 hvl9); (case hm => (dsimp only; omega)))
end
set_option Elab.async false
set_option maxRecDepth 100000
set_option maxHeartbeats 5000000
section
variable {w : World} {o : OsState} {mean : ExcName → Option Value} {loose : List Str} {mg mb : Str → Option Value} {dp un : Nat} {gd : Option (List Code)} {cn : Str} {cs : Scope} {a : Addr} {ccd : Value} {cl : List (Str × Addr)} {outer : List Env} {A₀ : Around} {base h₀ : Heap} {L : Addr} {m : Str → Option Value} {news : List (Addr × Obj)} {s : Shared} {Q E : Value → Shared → Prop}
theorem fr_eq {h₀ h : Heap} {L : Addr} {m m' : Str → Option Value} (F : Fr h₀ L h m) (e : m = m') : Fr h₀ L h m' := e ▸ F
theorem transl_c {ps : Array Value} (B : Below A₀ base outer h₀) (F : Fr h₀ L s.heap m) (X : (KF w.params).In h₀) (N : News h₀ L s.heap ((113, tabObj ps) :: news)) (T : Top topProg loose mean mg mb h₀) (hk : cs.kind = .function) (hd : dp + 3 < recursionLimit) (hu : un + 64 < cLine) (hC : CodeHd base 117 113) (hps : TabOk ps) (hnt : ∀ p ∈ news, p.1 ≠ 113) {pat : Str} {t u : Tok} {S : Addr} {parts : List (Option Str)} (hS : (S, obO) ∈ news) (hp : Tk true pat.cps.toList parts) (hl : pat.length ≤ 100) (hG : Bare o s)
  (ret : ∀ D c ys s' ps', Fr h₀ L s'.heap m → News h₀ L s'.heap ((D, listOf (List.toArray ys) c) :: (113, tabObj ps') :: news) → TabOk ps' → Bare o s' → PartsAre S ys parts → Q (.ref D) s') :
  wpAny (model (OpenLaw.row PySem.Challenge.rw_in0163_01).toRowW.prog w) (ktrTop dp un gd cn cs L a ccd cl outer) (call (.ref 118) [.str pat t, .ref S, .str (Str.ofString ".") u]) Q E s := by
  have hS3 : @Ne Nat S 113 := hnt _ hS
  revert X; k_fill; intro X
  k_with_none
  k_with "execs cons" => ((k_dflt (refine wpAny_execs_cons ?_)); (try dsimp only))
  k_with "execs nil" => (k_dflt (refine wpAny_execs_nil ?_))
  k_with "exec If" => (k_dflt (refine wpAny_If ?_))
  k_with "exec Assign" => (k_dflt (refine wpAny_Assign_Name ?_))
  k_with "eval Name" => (k_dflt (refine' nameX_L ?F ?v ?_ ?a ?b ?d; (case F => k_asm); (case a => rfl); (case b => kernel_rfl!); (case d => kernel_rfl); (case v => first | rfl | assumption); k_whole))
  k_with "storeName" => (k_dflt (refine' storeX_L ?F ?N ?_ ?a ?b; (case F => k_asm); (case N => k_asm); (case a => rfl); (case b => rfl); k_whole; intro hS7 FS7 NS7; (try k_sweep)))
  k_with "spliced" => (k_dflt (first | refine args_cons ?_ | (refine args_nil ?_; try simp only [List.cons_append, List.nil_append])))
  k_with "ite" => (k_dflt (first | refine ite_pos (by decide +kernel) ?_ | refine ite_neg (by decide +kernel) ?_))
  k_with "And" => ((with_reducible show PySem.Str.length (_ ++ _) ≤ sizeLine ∧ _); refine ⟨Nat.le_of_ble_eq_true (by kernel_rfl!), ?_⟩)
  k_with "exec Assign cons Tuple" => (k_dflt (refine Assign_Tuple ?_))
  k_with "callWith ref" => (k_dflt (refine' callWith_K ?k1 ?k2 ?_; (case k1 => k_asm); (case k2 => k_is); k_whole))
  k_with "truthy bool" => (k_dflt (refine wpAny_truthy_bool ?_))
  k_with "isTrue Compare" => (k_dflt (refine wpAny_isTrue_Compare1 ?_))
  k_with "room" => (k_dflt (first | exact om_s2 (by assumption) (by rfl) | exact om_s1 (by assumption) (by rfl) | exact om_s0 (by assumption)))
  k_with "ne" => with_reducible (first | assumption | exact om_sy (by assumption) | exact Nat.ne_of_gt (by assumption) | exact Nat.ne_of_lt (by assumption) | exact om_n1 (by assumption) | exact om_n2 (by assumption) | exact om_n3 (by assumption) | exact om_z2 (by assumption) | exact om_z3 (by assumption) | exact om_z4 (by assumption) | exact (om_n1 (by assumption)).symm | exact (om_n2 (by assumption)).symm | exact (om_n3 (by assumption)).symm | exact (om_z2 (by assumption)).symm | exact (om_z3 (by assumption)).symm | exact (om_z4 (by assumption)).symm | exact om_n4 (by assumption) | exact om_z5 (by assumption) | exact (om_n4 (by assumption)).symm | exact (om_z5 (by assumption)).symm | exact om_n5 (by assumption) | exact om_z6 (by assumption) | exact (om_n5 (by assumption)).symm | exact (om_z6 (by assumption)).symm | exact om_e1 (by assumption) | exact om_e2 (by assumption) | exact om_e3 (by assumption))
  k_with "om" => with_reducible (first | ((show _ ≠ _); k_extra "ne") | ((show @LT.lt Nat _ (_ + _ + _) _); exact om_s2 (by assumption) (by decide)) | ((show @LT.lt Nat _ (_ + _) _); exact om_s1 (by assumption) (by decide)) | ((show @LT.lt Nat _ _ _); first | assumption | exact om_s0 (by assumption)) | ((show @LE.le Nat _ (_ + 1) _); exact om_succ (by assumption) (by assumption)) | ((show @LE.le Nat _ _ _); first | exact Nat.zero_le _ | assumption | exact om_le (by assumption) (by decide) | exact om_lt_le (by assumption) (by decide) | exact om_eq_le (by assumption) (by assumption) (by decide) | exact om_eq_le' (by assumption) (by assumption) (by decide)) | ((show _ ∧ _); first | exact om_rg (by assumption) (by decide) | exact om_r1 (by assumption) (by decide)))
  k_with "all" => exact fun p9 hp9 => Nat.ne_of_lt (by first | exact l1 p9 hp9 | exact Nat.lt_succ_of_lt (l1 p9 hp9))
  k_with "getAttr ref" => (k_here; k_dflt (refine' getAttr_appendK ?p1 ?p2 ?p3 ?_; (case p1 => k_asm); (case p2 => k_asm); (case p3 => k_mem)); intro D9 eD9; subst eD9; intro M9 hM9 tkM9 FM9 NM9 lM9; (try k_lt lM9))
  k_with "last exec While" => (k_here; (with_reducible show wpAny _ _ (exec (Stmt.While (Expr.Compare (Expr.Name _ _) [CmpOp.Lt] _ _) _ _ _) _) _ _ _); (rename Fr _ _ _ _ => lF'); (rename News _ _ _ _ => lN'); k_dflt (refine' gw_while (m₀ := trM pat t u S M9 D9 (tkM9 + 1) (tkM9 + 1 + 1 + 1)) (σ := (Int × Tok) × Nat × List Value × Array Value) (fun c => [(M9, bmO D9), (D9, listOf c.2.2.1.toArray c.2.1), (S, obO), (113, tabObj c.2.2.2)]) (fun c => [(Str.ofString "i", .int c.1.1 c.1.2)]) [Str.ofString "c", Str.ofString "j", Str.ofString "stuff", Str.ofString "chunks", Str.ofString "k", Str.ofString "chunk"] (fun c => TrP pat parts S c.1.1 c.2.2.1 ∧ TabOk c.2.2.2) (fun c => pat.length - c.1.1.toNat) ⟨⟨_, _⟩, _, [], _⟩ (fr_eq lF' ?hM) (fun p9 hp9 => lN' p9 (List.mem_cons_of_mem _ hp9)) hG ?hk ?hp ?_ ?hE; (case hM => kernel_rfl!); (case hk => kst_all); (case hp => exact ⟨tr_start hp, hps⟩); (case hE => passes_own)); (clear lF' lN'); intro c9 u9 s9 hp9 G9 F9 N9; obtain ⟨⟨i9, it9⟩, q9, vs9, ps9⟩ := c9; obtain ⟨hp9, hps9⟩ := hp9; obtain ⟨pre9, post9, done9, rem9, b9, hpat9, hi9, hT9, hparts9, hvs9, hb9, hvl9⟩ := tr_open hp9; (dsimp only at *); (simp only [kstB] at F9); subst hi9; have hn9 := tr_len hpat9; (rcases hT9 with _ | hT9 | ⟨hIt9, hT9⟩); (rotate_left); (rcases hb9 rfl with rfl | ⟨us9, x9, xt9, rfl⟩); k_dflt (refine' trt1 (dp := dp + 1) (un := un + 3) (gd := gd) (outer := envX cn cs L a ccd cl :: outer) B' X' T' ?ta ?tb hC hS3 ?tc ?td ?te hl hpat9 hT9 hparts9 hvs9 hvl9 hps9 G9 ?tf F9 N9; (case ta => omega); (case tb => omega); (case tc => assumption); (case td => assumption); (case te => assumption); (case tf => passes_own)); k_dflt (refine' trt2 (dp := dp + 1) (un := un + 3) (gd := gd) (outer := envX cn cs L a ccd cl :: outer) B' X' T' ?ta ?tb hC hS3 ?tc ?td ?te hl hpat9 hT9 hparts9 hvs9 hvl9 hps9 G9 ?tf F9 N9; (case ta => omega); (case tb => omega); (case tc => assumption); (case td => assumption); (case te => assumption); (case tf => passes_own)); (rcases hIt9 with _ | ⟨a9, hc9⟩ | ⟨a9, d9, hc9⟩ | ⟨a9, hc9⟩ | ⟨a9, d9, hc9⟩ | _); k_dflt (refine' trt3 (dp := dp + 1) (un := un + 3) (gd := gd) (outer := envX cn cs L a ccd cl :: outer) B' X' T' ?ta ?tb hC hS3 ?tc ?td ?te hl hpat9 hT9 hparts9 hvs9 hvl9 hps9 G9 ?tf F9 N9; (case ta => omega); (case tb => omega); (case tc => assumption); (case td => assumption); (case te => assumption); (case tf => passes_own)); k_dflt (refine' trt4 (dp := dp + 1) (un := un + 3) (gd := gd) (outer := envX cn cs L a ccd cl :: outer) B' X' T' ?ta ?tb hC hS3 ?tc ?td ?te hl hpat9 hT9 hparts9 hvs9 hvl9 hc9 hps9 G9 ?tf F9 N9; (case ta => omega); (case tb => omega); (case tc => assumption); (case td => assumption); (case te => assumption); (case tf => passes_own)); k_dflt (refine' trt5 (dp := dp + 1) (un := un + 3) (gd := gd) (outer := envX cn cs L a ccd cl :: outer) B' X' T' ?ta ?tb hC hS3 ?tc ?td ?te hl hpat9 hT9 hparts9 hvs9 hvl9 hc9 hps9 G9 ?tf F9 N9; (case ta => omega); (case tb => omega); (case tc => assumption); (case td => assumption); (case te => assumption); (case tf => passes_own)); k_dflt (refine' trt6 (dp := dp + 1) (un := un + 3) (gd := gd) (outer := envX cn cs L a ccd cl :: outer) B' X' T' ?ta ?tb hC hS3 ?tc ?td ?te hl hpat9 hT9 hparts9 hvs9 hvl9 hc9 hps9 G9 ?tf F9 N9; (case ta => omega); (case tb => omega); (case tc => assumption); (case td => assumption); (case te => assumption); (case tf => passes_own)); k_dflt (refine' trt7 (dp := dp + 1) (un := un + 3) (gd := gd) (outer := envX cn cs L a ccd cl :: outer) B' X' T' ?ta ?tb hC hS3 ?tc ?td ?te hl hpat9 hT9 hparts9 hvs9 hvl9 hc9 hps9 G9 ?tf F9 N9; (case ta => omega); (case tb => omega); (case tc => assumption); (case td => assumption); (case te => assumption); (case tf => passes_own)); k_dflt (refine' trt8 (dp := dp + 1) (un := un + 3) (gd := gd) (outer := envX cn cs L a ccd cl :: outer) B' X' T' ?ta ?tb hC hS3 ?tc ?td ?te hl hpat9 hT9 hparts9 hvs9 hvl9 hps9 G9 ?tf F9 N9; (case ta => omega); (case tb => omega); (case tc => assumption); (case td => assumption); (case te => assumption); (case tf => passes_own)); (try simp only [List.length_nil] at hn9))
  refine wpAny_call ?_
  (k_dflt (refine' code_defR ?k1 ?k2 ?k3 ?k4 ?kO ?k5 ?kA ?kF ?kK ?k6 ?k7 ?k8 ?k9 ?kB ?_ ?c2 ?c3 ?c4 ?c5; (case kO => exact (newsCons N (List.mem_cons_of_mem _ hS) (newsCons N List.mem_cons_self newsNil))); (case kA => exact rfl); (case kF => exact rfl); (case kK => assumption); (case k1 => k_asm); (case k2 => k_asm); (case k3 => k_asm); (case k4 => exact N); (case k5 => k_asm); (case k6 => k_is); (case k7 => k_is); (case k8 => ktr_room); (case k9 => exact BindsTo.of_eq rfl); (case c5 => decide); (case kB => exact locs rfl); (case c2 => exact rfl); (case c3 => exact rfl); (case c4 => exact rfl); k_whole; intro g' L' h' K' FG' F' N' B' X' T' l1; clear N; (try k_lt l1); (try dsimp only); (try k_lift B'); (try k_fold)))
  k_steps
  all_goals first | (exfalso; omega) | (refine' ret _ _ _ _ _ ?e1 ?e2 hps9 (by assumption) (tr_fin hparts9 hvs9); (case e1 => k_asm); (case e2 => refine newsCons (by assumption) (by repeat (first | assumption | exact List.mem_cons_self | exact List.mem_append_left _ (by assumption) | exact List.mem_append_right _ (by assumption) | refine List.mem_cons_of_mem _ ?_)) (newsCons (by assumption) (by repeat (first | assumption | exact List.mem_cons_self | exact List.mem_append_left _ (by assumption) | exact List.mem_append_right _ (by assumption) | refine List.mem_cons_of_mem _ ?_)) (Kept.backT (by assumption) hnt (by assumption) (by assumption) ?_)); intro p9 hp9 hne9; (simp only [List.mem_cons, List.not_mem_nil, or_false] at hp9); rcases hp9 with rfl | rfl; (exact (by repeat (first | assumption | exact List.mem_cons_self | exact List.mem_append_left _ (by assumption) | exact List.mem_append_right _ (by assumption) | refine List.mem_cons_of_mem _ ?_))); (exact absurd rfl hne9)))
end
set_option Elab.async false
set_option maxRecDepth 100000
set_option maxHeartbeats 5000000
section
variable {w : World} {o : OsState} {mean : ExcName → Option Value} {loose : List Str} {mg mb : Str → Option Value} {dp un : Nat} {gd : Option (List Code)} {cn : Str} {cs : Scope} {a : Addr} {ccd : Value} {cl : List (Str × Addr)} {outer : List Env} {A₀ : Around} {base h₀ : Heap} {L : Addr} {m : Str → Option Value} {news : List (Addr × Obj)} {s : Shared} {Q E : Value → Shared → Prop}
theorem join_c (B : Below A₀ base outer h₀) (F : Fr h₀ L s.heap m) (X : (KF w.params).In h₀) (N : News h₀ L s.heap news) (T : Top topProg loose mean mg mb h₀) (hk : cs.kind = .function) (hd : dp + 2 < recursionLimit) (hu : un + 40 < cLine) {D S : Addr} {c : Nat} {vs : List Value} {ps : List Str} (hD : (D, listOf vs.toArray c) ∈ news) (hvs : PartsAre S vs (jnP ps)) (hl : ps.length ≤ 3) (hp : ∀ x ∈ ps, x.length ≤ 5)
  (ret : ∀ t h' tk', Fr h₀ L h' m → News h₀ L h' news → Q (.str (jnF ps) t) { s with heap := h', toks := tk' }) :
  wpAny (model (OpenLaw.row PySem.Challenge.rw_in0163_01).toRowW.prog w) (ktrTop dp un gd cn cs L a ccd cl outer) (call (.ref 125) [.ref D, .ref S]) Q E s := by
  revert X; k_fill; intro X
  k_with_none
  k_with "execs cons" => ((k_dflt (refine wpAny_execs_cons ?_)); (try dsimp only))
  k_with "execs nil" => (k_dflt (refine wpAny_execs_nil ?_))
  k_with "exec If" => (k_dflt (refine wpAny_If ?_))
  k_with "exec Assign" => (k_dflt (refine wpAny_Assign_Name ?_))
  k_with "eval Name" => (k_dflt (refine' nameX_L ?F ?v ?_ ?a ?b ?d; (case F => k_asm); (case a => rfl); (case b => kernel_rfl!); (case d => kernel_rfl); (case v => first | rfl | assumption); k_whole))
  k_with "storeName" => (k_dflt (refine' storeX_L ?F ?N ?_ ?a ?b; (case F => k_asm); (case N => k_asm); (case a => rfl); (case b => rfl); k_whole; intro hS7 FS7 NS7; (try k_sweep)))
  k_with "spliced" => (k_dflt (first | refine args_cons ?_ | (refine args_nil ?_; try simp only [List.cons_append, List.nil_append])))
  k_with "ite" => (k_dflt (first | refine ite_pos (by decide +kernel) ?_ | refine ite_neg (by decide +kernel) ?_))
  k_with "And" => ((with_reducible show PySem.Str.length (_ ++ _) ≤ sizeLine ∧ _); refine ⟨Nat.le_of_ble_eq_true (by kernel_rfl!), ?_⟩)
  k_with "exec Assign cons Tuple" => (k_dflt (refine Assign_Tuple ?_))
  k_with "callWith ref" => (k_dflt (refine' callWith_K ?k1 ?k2 ?_; (case k1 => k_asm); (case k2 => k_is); k_whole))
  k_with "truthy bool" => (k_dflt (refine wpAny_truthy_bool ?_))
  k_with "isTrue Compare" => (k_dflt (refine wpAny_isTrue_Compare1 ?_))
  k_with "room" => (k_dflt (first | exact om_s2 (by assumption) (by rfl) | exact om_s1 (by assumption) (by rfl) | exact om_s0 (by assumption)))
  k_with "ne" => with_reducible (first | assumption | exact om_sy (by assumption) | exact Nat.ne_of_gt (by assumption) | exact Nat.ne_of_lt (by assumption) | exact om_n1 (by assumption) | exact om_n2 (by assumption) | exact om_n3 (by assumption) | exact om_z2 (by assumption) | exact om_z3 (by assumption) | exact om_z4 (by assumption) | exact (om_n1 (by assumption)).symm | exact (om_n2 (by assumption)).symm | exact (om_n3 (by assumption)).symm | exact (om_z2 (by assumption)).symm | exact (om_z3 (by assumption)).symm | exact (om_z4 (by assumption)).symm | exact om_n4 (by assumption) | exact om_z5 (by assumption) | exact (om_n4 (by assumption)).symm | exact (om_z5 (by assumption)).symm | exact om_n5 (by assumption) | exact om_z6 (by assumption) | exact (om_n5 (by assumption)).symm | exact (om_z6 (by assumption)).symm | exact om_e1 (by assumption) | exact om_e2 (by assumption) | exact om_e3 (by assumption))
  k_with "om" => with_reducible (first | ((show _ ≠ _); k_extra "ne") | ((show @LT.lt Nat _ (_ + _ + _) _); exact om_s2 (by assumption) (by decide)) | ((show @LT.lt Nat _ (_ + _) _); exact om_s1 (by assumption) (by decide)) | ((show @LT.lt Nat _ _ _); first | assumption | exact om_s0 (by assumption)) | ((show @LE.le Nat _ (_ + 1) _); exact om_succ (by assumption) (by assumption)) | ((show @LE.le Nat _ _ _); first | exact Nat.zero_le _ | assumption | exact om_le (by assumption) (by decide) | exact om_lt_le (by assumption) (by decide) | exact om_eq_le (by assumption) (by assumption) (by decide) | exact om_eq_le' (by assumption) (by assumption) (by decide)) | ((show _ ∧ _); first | exact om_rg (by assumption) (by decide) | exact om_r1 (by assumption) (by decide)))
  k_with "all" => exact fun p9 hp9 => Nat.ne_of_lt (by first | exact l1 p9 hp9 | exact Nat.lt_succ_of_lt (l1 p9 hp9))
  have hvl : vs.toArray.size = 2 * ps.length + 1 := by rw [List.size_toArray]; exact jn_len hvs
  k_with "getAttr ref" => (k_here; k_dflt (refine' getAttr_appendK ?p1 ?p2 ?p3 ?_; (case p1 => k_asm); (case p2 => k_asm); (case p3 => k_mem)); intro D9 eD9; subst eD9; intro M9 hM9 tkM9 FM9 NM9 lM9; (try k_lt lM9))
  k_with "call builtin:len" => (refine len_l (by k_asm) (by k_mem) hvl (by omega) ?_; intro t9' k9')
  k_with "callWith ref" => ((with_reducible show wpAny _ _ (callWith _ (Value.ref M9) [] _ []) _ _ _); k_dflt (refine callWith_bm (D := D9) ?_))
  k_with "BmAt" => (k_dflt (exact bmAt (by k_asm) (by k_mem)))
  k_with "call ref" => ((with_reducible show wpAny _ _ (call (Value.ref M9) [_]) _ _ _); k_dflt (refine' bound_appendK ?p1 ?p2 ?p3 ?p4 ?_ ?p5; (case p1 => k_asm); (case p2 => k_asm); (case p3 => k_mem); (case p4 => k_upd); (case p5 => (rw [List.size_toArray, sizeLine_eq]; omega))); intro h8' F8' N8'; (try simp only [List.push_toArray] at N8'))
  k_with "compareOp IsNot str ref" => (refine isNot_str_ref ?_)
  k_with "compareOp IsNot ref ref" => (refine isNot_ref_self ?_)
  k_with "compareOp Is ref ref" => (refine is_ref_self ?_)
  k_with "subscriptTail Name Name ref int" => (k_dflt (first | (refine kim_list (x := .ref S) (by k_asm) (by k_mem) rfl rfl (by omega) (by omega) (by first | exact jn_star hvs (k := 0) (by omega) | ((rw [show Int.toNat _ = 2 * k9 from by omega]); exact jn_star hvs (by omega)) | ((rw [show Int.toNat _ = 2 * (k9 + 1) from by omega]); exact jn_star hvs (by omega))) ?_) | (refine kim_list (by k_asm) (by k_mem) rfl rfl (by omega) (by omega) (by (rw [show Int.toNat _ = 2 * k9 + 1 from by omega]); exact hx9) ?_)))
  k_with "exec While" => (k_here; (with_reducible show wpAny _ _ (exec (Stmt.While (Expr.BoolOp _ _ _) _ _ _) _) _ _ _); k_dflt (refine whl_start 100 ?_))
  k_with "last exec While" => (k_here; (with_reducible show wpAny _ _ (exec (Stmt.While (Expr.BoolOp _ _ _) _ _ _) _) _ _ _); k_dflt (refine whl_start 100 ?_))
  k_with "exec While" => (k_here; (with_reducible show wpAny _ _ (exec (Stmt.While (Expr.Compare (Expr.Name _ _) [CmpOp.Lt] _ _) _ _ _) _) _ _ _); (rename Fr _ _ _ _ => lF'); (rename News _ _ _ _ => lN'); k_dflt (refine' ksw_while (σ := (Int × Tok) × Nat × List Value) (fun c9 => [(M9, bmO D9), (D9, listOf c9.2.2.toArray c9.2.1), (D, listOf vs.toArray c)]) (fun c9 => [(Str.ofString "i", .int c9.1.1 c9.1.2)]) (fun _ => True) [Str.ofString "fixed"] (fun c9 => ∃ k9 : Nat, c9.1.1 = 2 * (k9 : Int) ∧ k9 ≤ ps.length ∧ StrsAre c9.2.2 ((ps.take k9).map jnW)) (fun c9 => 10 - c9.1.1.toNat) ⟨⟨_, _⟩, _, []⟩ lF' (fun p9 hp9 => lN' p9 (List.mem_cons_of_mem _ hp9)) True.intro ?hk ?hp ?_ ?hE; (case hk => kst_all); (case hp => exact ⟨0, rfl, Nat.zero_le _, .nil⟩); (case hE => passes_own)); (clear lF' lN'); intro c9 u9 h9 tk9 _ hp9 F9 N9; obtain ⟨⟨i9, it9⟩, q9, ys9⟩ := c9; obtain ⟨k9, hi9, hk9, hys9⟩ := hp9; (dsimp only at *); (simp only [kstB] at F9); subst hi9; have hyl9 := hys9.length; (rw [List.length_map, List.length_take] at hyl9); (by_cases hkl9 : k9 = ps.length); rotate_left; (obtain ⟨x9, hx9'⟩ := jn_get (k := k9) (ps := ps) (by omega); obtain ⟨xt9, hx9⟩ := jn_item hvs hx9'; have hxl9 := hp _ (List.mem_of_getElem? hx9')); rotate_right)
  k_with "call builtin:str.join" => ((with_reducible show wpAny _ _ (call _ [_, Value.ref D9]) _ _ _); k_dflt (refine' join_any ?p1 ?p2 (jn_sum hl hp) ?_; (case p1 => exact isl (by k_asm) (by k_mem)); (case p2 => exact jn_last hys9 (by omega))); intro y8' t8' k8' hy8' hl8')
  k_with "call builtin:str.join" => (k_dflt (refine' join_it ⟨_, ?p1⟩ ?p2 ?p3 ?_; (case p1 => exact isl (by k_asm) (by k_mem)); (case p2 => decide +kernel); (case p3 => omega)); intro t8' k8')
  refine wpAny_call ?_
  (k_dflt (refine' code_defR ?k1 ?k2 ?k3 ?k4 ?kO ?k5 ?kA ?kF ?kK ?k6 ?k7 ?k8 ?k9 ?kB ?_ ?c2 ?c3 ?c4 ?c5; (case kO => exact (newsCons N hD newsNil)); (case kA => exact rfl); (case kF => exact rfl); (case kK => assumption); (case k1 => k_asm); (case k2 => k_asm); (case k3 => k_asm); (case k4 => exact N); (case k5 => k_asm); (case k6 => k_is); (case k7 => k_is); (case k8 => ktr_room); (case k9 => exact BindsTo.of_eq rfl); (case c5 => decide); (case kB => exact locs rfl); (case c2 => exact rfl); (case c3 => exact rfl); (case c4 => exact rfl); k_whole; intro g' L' h' K' FG' F' N' B' X' T' l1; clear N; (try k_lt l1); (try dsimp only); (try k_lift B'); (try k_fold)))
  k_steps
  all_goals first | (exfalso; omega) | ((rename Fr _ _ _ _ => eF'); (rename News _ _ _ _ => eN'); (refine' ksw_end ⟨⟨_, _⟩, q9 + 1, _⟩ eF' eN' ?hn True.intro ?hk ?hr ?hp ?hm); (case hk => with_unfolding_all kst_all); (case hn => ((try dsimp only); with_unfolding_all exact List.forall_mem_cons.mpr ⟨(by repeat (first | assumption | exact List.mem_cons_self | exact List.mem_append_left _ (by assumption) | exact List.mem_append_right _ (by assumption) | refine List.mem_cons_of_mem _ ?_)), List.forall_mem_cons.mpr ⟨(by repeat (first | assumption | exact List.mem_cons_self | exact List.mem_append_left _ (by assumption) | exact List.mem_append_right _ (by assumption) | refine List.mem_cons_of_mem _ ?_)), List.forall_mem_cons.mpr ⟨(by repeat (first | assumption | exact List.mem_cons_self | exact List.mem_append_left _ (by assumption) | exact List.mem_append_right _ (by assumption) | refine List.mem_cons_of_mem _ ?_)), List.forall_mem_nil _⟩⟩⟩)); (case hr => with_unfolding_all ksw_same); (case hp => exact ⟨k9 + 1, by (dsimp only; omega), by omega, jn_step hys9 hx9'⟩); (case hm => (dsimp only; omega))) | (refine' cb_retS ret ?e1 ?e2 ?e3; (case e2 => k_asm); (case e3 => first | k_asm | (exact Kept.back (by assumption) (by assumption) (by assumption) (by intro p9 hp9; repeat (first | exact hp9 | refine List.mem_cons_of_mem _ ?_))) | (refine' cb_drop ?cbN ?cbS; (case cbN => assumption); (case cbS => (intro p9 hp9; repeat (first | exact hp9 | refine List.mem_cons_of_mem _ ?_))))); (case e1 => (unfold jnF; rw [hy8'])))
end
set_option Elab.async false
set_option maxRecDepth 100000
set_option maxHeartbeats 5000000
section
variable {w : World} {o : OsState} {mean : ExcName → Option Value} {loose : List Str} {mg mb : Str → Option Value} {dp un : Nat} {gd : Option (List Code)} {cn : Str} {cs : Scope} {a : Addr} {ccd : Value} {cl : List (Str × Addr)} {outer : List Env} {A₀ : Around} {base h₀ : Heap} {L : Addr} {m : Str → Option Value} {news : List (Addr × Obj)} {s : Shared} {Q E : Value → Shared → Prop}
theorem tr_c {ps : Array Value} (B : Below A₀ base outer h₀) (F : Fr h₀ L s.heap m) (X : (KF w.params).In h₀) (N : News h₀ L s.heap ((113, tabObj ps) :: news)) (T : Top topProg loose mean mg mb h₀) (hk : cs.kind = .function) (hd : dp + 4 < recursionLimit) (hu : un + 100 < cLine) (hC : CodeHd base 117 113) (hps : TabOk ps) (hnt : ∀ p ∈ news, p.1 ≠ 113) {pat : Str} {t : Tok} {ps0 : List Str} (hp : Tk true pat.cps.toList (jnP ps0)) (hl : pat.length ≤ 100) (hl3 : ps0.length ≤ 3) (hp5 : ∀ x ∈ ps0, x.length ≤ 5) (hG : Bare o s)
  (ret : ∀ t s' ps', Fr h₀ L s'.heap m → News h₀ L s'.heap ((113, tabObj ps') :: news) → TabOk ps' → Bare o s' → Q (.str (jnF ps0) t) s') :
  wpAny (model (OpenLaw.row PySem.Challenge.rw_in0163_01).toRowW.prog w) (ktrTop dp un gd cn cs L a ccd cl outer) (call (.ref 99) [.str pat t]) Q E s := by
  revert X; k_fill; intro X
  k_with_none
  k_with "execs cons" => ((k_dflt (refine wpAny_execs_cons ?_)); (try dsimp only))
  k_with "execs nil" => (k_dflt (refine wpAny_execs_nil ?_))
  k_with "exec If" => (k_dflt (refine wpAny_If ?_))
  k_with "exec Assign" => (k_dflt (refine wpAny_Assign_Name ?_))
  k_with "eval Name" => (k_dflt (refine' nameX_L ?F ?v ?_ ?a ?b ?d; (case F => k_asm); (case a => rfl); (case b => kernel_rfl!); (case d => kernel_rfl); (case v => first | rfl | assumption); k_whole))
  k_with "storeName" => (k_dflt (refine' storeX_L ?F ?N ?_ ?a ?b; (case F => k_asm); (case N => k_asm); (case a => rfl); (case b => rfl); k_whole; intro hS7 FS7 NS7; (try k_sweep)))
  k_with "spliced" => (k_dflt (first | refine args_cons ?_ | (refine args_nil ?_; try simp only [List.cons_append, List.nil_append])))
  k_with "ite" => (k_dflt (first | refine ite_pos (by decide +kernel) ?_ | refine ite_neg (by decide +kernel) ?_))
  k_with "And" => ((with_reducible show PySem.Str.length (_ ++ _) ≤ sizeLine ∧ _); refine ⟨Nat.le_of_ble_eq_true (by kernel_rfl!), ?_⟩)
  k_with "exec Assign cons Tuple" => (k_dflt (refine Assign_Tuple ?_))
  k_with "callWith ref" => (k_dflt (refine' callWith_K ?k1 ?k2 ?_; (case k1 => k_asm); (case k2 => k_is); k_whole))
  k_with "truthy bool" => (k_dflt (refine wpAny_truthy_bool ?_))
  k_with "isTrue Compare" => (k_dflt (refine wpAny_isTrue_Compare1 ?_))
  k_with "room" => (k_dflt (first | exact om_s2 (by assumption) (by rfl) | exact om_s1 (by assumption) (by rfl) | exact om_s0 (by assumption)))
  k_with "ne" => with_reducible (first | assumption | exact om_sy (by assumption) | exact Nat.ne_of_gt (by assumption) | exact Nat.ne_of_lt (by assumption) | exact om_n1 (by assumption) | exact om_n2 (by assumption) | exact om_n3 (by assumption) | exact om_z2 (by assumption) | exact om_z3 (by assumption) | exact om_z4 (by assumption) | exact (om_n1 (by assumption)).symm | exact (om_n2 (by assumption)).symm | exact (om_n3 (by assumption)).symm | exact (om_z2 (by assumption)).symm | exact (om_z3 (by assumption)).symm | exact (om_z4 (by assumption)).symm | exact om_n4 (by assumption) | exact om_z5 (by assumption) | exact (om_n4 (by assumption)).symm | exact (om_z5 (by assumption)).symm | exact om_n5 (by assumption) | exact om_z6 (by assumption) | exact (om_n5 (by assumption)).symm | exact (om_z6 (by assumption)).symm | exact om_e1 (by assumption) | exact om_e2 (by assumption) | exact om_e3 (by assumption))
  k_with "om" => with_reducible (first | ((show _ ≠ _); k_extra "ne") | ((show @LT.lt Nat _ (_ + _ + _) _); exact om_s2 (by assumption) (by decide)) | ((show @LT.lt Nat _ (_ + _) _); exact om_s1 (by assumption) (by decide)) | ((show @LT.lt Nat _ _ _); first | assumption | exact om_s0 (by assumption)) | ((show @LE.le Nat _ (_ + 1) _); exact om_succ (by assumption) (by assumption)) | ((show @LE.le Nat _ _ _); first | exact Nat.zero_le _ | assumption | exact om_le (by assumption) (by decide) | exact om_lt_le (by assumption) (by decide) | exact om_eq_le (by assumption) (by assumption) (by decide) | exact om_eq_le' (by assumption) (by assumption) (by decide)) | ((show _ ∧ _); first | exact om_rg (by assumption) (by decide) | exact om_r1 (by assumption) (by decide)))
  k_with "all" => exact fun p9 hp9 => Nat.ne_of_lt (by first | exact l1 p9 hp9 | exact Nat.lt_succ_of_lt (l1 p9 hp9))
  k_with "call type:object" => (k_dflt (refine call_objK (by k_asm) (by k_asm) ?_); intro S9 h8' F8' N8' l8'; (try k_lt l8'))
  k_with "call ref" => (k_dflt (refine' transl_c (news := [(S9, obO)]) ?k1 ?k2 ?k3 ?k4 ?k5 ?k6 ?k7 ?k8 hC ?x1 ?x2 ?x3 hp hl ?x4 ?_; (case k1 => k_asm); (case k2 => k_asm); (case k3 => k_asm); (case k4 => exact newsCons (by k_asm) (by k_mem) (newsCons (by k_asm) (by k_mem) newsNil)); (case k5 => k_asm); (case k6 => first | exact rfl | assumption); (case k7 => ktr_room); (case k8 => ktr_units); (case x1 => assumption); (case x2 => (intro p9 hp9; simp only [List.mem_cons, List.not_mem_nil, or_false] at hp9; subst hp9; k_ne)); (case x3 => k_mem); (case x4 => assumption)); intro D9 c9 ys9 s9 ps9 F9 N9 hps9 hG9 hy9; (try dsimp only))
  k_with "call ref" => (k_dflt (refine' join_c ?k1 ?k2 ?k3 ?k4 ?k5 ?k6 ?k7 ?k8 ?x1 hy9 hl3 hp5 ?_; (case k1 => k_asm); (case k2 => k_asm); (case k3 => k_asm); (case k4 => k_asm); (case k5 => k_asm); (case k6 => first | exact rfl | assumption); (case k7 => ktr_room); (case k8 => ktr_units); (case x1 => k_mem)); intro t9 h9 tk9 F9 N9; (try dsimp only))
  refine wpAny_call ?_
  (k_dflt (refine' code_defR ?k1 ?k2 ?k3 ?k4 ?kO ?k5 ?kA ?kF ?kK ?k6 ?k7 ?k8 ?k9 ?kB ?_ ?c2 ?c3 ?c4 ?c5; (case kO => exact (newsCons N List.mem_cons_self newsNil)); (case kA => exact rfl); (case kF => exact rfl); (case kK => assumption); (case k1 => k_asm); (case k2 => k_asm); (case k3 => k_asm); (case k4 => exact N); (case k5 => k_asm); (case k6 => k_is); (case k7 => k_is); (case k8 => ktr_room); (case k9 => exact BindsTo.of_eq rfl); (case c5 => decide); (case kB => exact locs rfl); (case c2 => exact rfl); (case c3 => exact rfl); (case c4 => exact rfl); k_whole; intro g' L' h' K' FG' F' N' B' X' T' l1; clear N; (try k_lt l1); (try dsimp only); (try k_lift B'); (try k_fold)))
  k_steps
  all_goals first | (refine' ret _ _ ps9 ?e1 ?e2 hps9 hG9; (case e1 => k_asm); (case e2 => (refine newsCons (by assumption) (by repeat (first | assumption | exact List.mem_cons_self | exact List.mem_append_left _ (by assumption) | exact List.mem_append_right _ (by assumption) | refine List.mem_cons_of_mem _ ?_)) (Kept.backT (by assumption) hnt (by assumption) (by assumption) ?_); intro p9 hp9 hne9; (simp only [List.mem_cons, List.not_mem_nil, or_false] at hp9); subst hp9; exact absurd rfl hne9)))
end
set_option Elab.async false
set_option maxRecDepth 100000
set_option maxHeartbeats 5000000
section
variable {w : World} {o : OsState} {mean : ExcName → Option Value} {loose : List Str} {mg mb : Str → Option Value} {dp un : Nat} {gd : Option (List Code)} {cn : Str} {cs : Scope} {a : Addr} {ccd : Value} {cl : List (Str × Addr)} {outer : List Env} {A₀ : Around} {base h₀ : Heap} {L : Addr} {m : Str → Option Value} {news : List (Addr × Obj)} {s : Shared} {Q E : Value → Shared → Prop}
theorem piece_c (B : Below A₀ base outer h₀) (F : Fr h₀ L s.heap m) (X : (KF w.params).In h₀) (N : News h₀ L s.heap news) (T : Top topProg loose mean mg mb h₀) (hk : cs.kind = .function) (hd : dp + 2 < recursionLimit) (hu : un + 24 < cLine) {x : Str} {t : Tok} (hx1 : 1 ≤ x.length) (hx5 : x.length ≤ 5)
  (ret : ∀ t h' tk', Fr h₀ L h' m → News h₀ L h' news → Q (.str (pcF x) t) { s with heap := h', toks := tk' }) :
  wpAny (model (OpenLaw.row PySem.Challenge.rw_in0163_01).toRowW.prog w) (ktrTop dp un gd cn cs L a ccd cl outer) (call (.ref 161) [.str x t]) Q E s := by
  revert X; k_fill; intro X
  k_with_none
  k_with "execs cons" => ((k_dflt (refine wpAny_execs_cons ?_)); (try dsimp only))
  k_with "execs nil" => (k_dflt (refine wpAny_execs_nil ?_))
  k_with "exec If" => (k_dflt (refine wpAny_If ?_))
  k_with "exec Assign" => (k_dflt (refine wpAny_Assign_Name ?_))
  k_with "eval Name" => (k_dflt (refine' nameX_L ?F ?v ?_ ?a ?b ?d; (case F => k_asm); (case a => rfl); (case b => kernel_rfl!); (case d => kernel_rfl); (case v => first | rfl | assumption); k_whole))
  k_with "storeName" => (k_dflt (refine' storeX_L ?F ?N ?_ ?a ?b; (case F => k_asm); (case N => k_asm); (case a => rfl); (case b => rfl); k_whole; intro hS7 FS7 NS7; (try k_sweep)))
  k_with "spliced" => (k_dflt (first | refine args_cons ?_ | (refine args_nil ?_; try simp only [List.cons_append, List.nil_append])))
  k_with "ite" => (k_dflt (first | refine ite_pos (by decide +kernel) ?_ | refine ite_neg (by decide +kernel) ?_))
  k_with "And" => ((with_reducible show PySem.Str.length (_ ++ _) ≤ sizeLine ∧ _); refine ⟨Nat.le_of_ble_eq_true (by kernel_rfl!), ?_⟩)
  k_with "exec Assign cons Tuple" => (k_dflt (refine Assign_Tuple ?_))
  k_with "callWith ref" => (k_dflt (refine' callWith_K ?k1 ?k2 ?_; (case k1 => k_asm); (case k2 => k_is); k_whole))
  k_with "truthy bool" => (k_dflt (refine wpAny_truthy_bool ?_))
  k_with "isTrue Compare" => (k_dflt (refine wpAny_isTrue_Compare1 ?_))
  k_with "room" => (k_dflt (first | exact om_s2 (by assumption) (by rfl) | exact om_s1 (by assumption) (by rfl) | exact om_s0 (by assumption)))
  k_with "ne" => with_reducible (first | assumption | exact om_sy (by assumption) | exact Nat.ne_of_gt (by assumption) | exact Nat.ne_of_lt (by assumption) | exact om_n1 (by assumption) | exact om_n2 (by assumption) | exact om_n3 (by assumption) | exact om_z2 (by assumption) | exact om_z3 (by assumption) | exact om_z4 (by assumption) | exact (om_n1 (by assumption)).symm | exact (om_n2 (by assumption)).symm | exact (om_n3 (by assumption)).symm | exact (om_z2 (by assumption)).symm | exact (om_z3 (by assumption)).symm | exact (om_z4 (by assumption)).symm | exact om_n4 (by assumption) | exact om_z5 (by assumption) | exact (om_n4 (by assumption)).symm | exact (om_z5 (by assumption)).symm | exact om_n5 (by assumption) | exact om_z6 (by assumption) | exact (om_n5 (by assumption)).symm | exact (om_z6 (by assumption)).symm | exact om_e1 (by assumption) | exact om_e2 (by assumption) | exact om_e3 (by assumption))
  k_with "om" => with_reducible (first | ((show _ ≠ _); k_extra "ne") | ((show @LT.lt Nat _ (_ + _ + _) _); exact om_s2 (by assumption) (by decide)) | ((show @LT.lt Nat _ (_ + _) _); exact om_s1 (by assumption) (by decide)) | ((show @LT.lt Nat _ _ _); first | assumption | exact om_s0 (by assumption)) | ((show @LE.le Nat _ (_ + 1) _); exact om_succ (by assumption) (by assumption)) | ((show @LE.le Nat _ _ _); first | exact Nat.zero_le _ | assumption | exact om_le (by assumption) (by decide) | exact om_lt_le (by assumption) (by decide) | exact om_eq_le (by assumption) (by assumption) (by decide) | exact om_eq_le' (by assumption) (by assumption) (by decide)) | ((show _ ∧ _); first | exact om_rg (by assumption) (by decide) | exact om_r1 (by assumption) (by decide)))
  k_with "all" => exact fun p9 hp9 => Nat.ne_of_lt (by first | exact l1 p9 hp9 | exact Nat.lt_succ_of_lt (l1 p9 hp9))
  k_with "eval ListComp" => (k_here; k_dflt (refine listComp_TS (by k_asm) (by with_unfolding_all rfl) (by decide) (by rfl) (by decide) (by rfl) ?_))
  k_with "SrcST" => (k_dflt (refine SrcST.abc (by rfl) (by k_asm) (by k_asm) ?_; intro g9'; (refine compT_all (n := 3) (pcT x) (fun i y => ∃ t, y = .str ⟨#[97 + i]⟩ t) ?_ ?_); (rotate_left; (intro ys' hys'; replace hys' : StrsAre ys' (pcL x) := by unfold pcL; exact strs_of hys'); rotate_left)); (intro i' v' I' oI' C' oC' D' m' ys' h' tk' E' hi' hv' hC' hx' F' N' off' ne'; (obtain ⟨t9', hv9'⟩ := sign_abc hv'; subst hv9'); (try simp only [LCg.Off3, and_true] at off')))
  k_with "call builtin:str.join" => (refine join_list (isl (by k_asm) (by k_mem)) (by assumption) (pc_len x) ?_; intro t9' k9')
  k_with "ce" => exact ⟨rfl, by unfold pcT; assumption, ⟨_, rfl⟩⟩
  k_with "ce" => exact ⟨rfl, by unfold pcT; assumption⟩
  refine wpAny_call ?_
  (k_dflt (refine' code_defCR ?k1 ?k2 ?k3 ?k4 ?kO ?k5 ?kA ?kF ?kK ?k6 ?k7 ?k8 ?k9 ?kB ?kD ?_ ?c2 ?c3 ?c4; (case kO => exact (newsNil (h₀ := h₀) (L := L) (h := s.heap))); (case kA => exact rfl); (case kF => exact rfl); (case kK => assumption); (case k1 => k_asm); (case k2 => k_asm); (case k3 => k_asm); (case k4 => exact N); (case k5 => k_asm); (case k6 => k_is); (case k7 => k_is); (case k8 => ktr_room); (case k9 => exact BindsTo.of_eq rfl); (case kB => exact rfl); (case kD => decide +kernel); (case c2 => exact rfl); (case c3 => exact rfl); (case c4 => exact rfl); k_whole; intro g' L' h' tk' cells' K' FG' F' N' Y' B' X' T' l1; clear N; (try k_lt l1); k_cells Y'; (try simp only [List.cons_append, List.nil_append] at N'); (try dsimp only); (try k_lift B'); (try k_fold)))
  k_steps
  all_goals first | (refine' cb_retS ret ?e1 ?e2 ?e3; (case e2 => k_asm); (case e3 => first | k_asm | (exact Kept.back (by assumption) (by assumption) (by assumption) (by intro p9 hp9; repeat (first | exact hp9 | refine List.mem_cons_of_mem _ ?_))) | (refine' cb_drop ?cbN ?cbS; (case cbN => assumption); (case cbS => (intro p9 hp9; repeat (first | exact hp9 | refine List.mem_cons_of_mem _ ?_))))); (case e1 => (first | exact pc1 (by assumption) | exact pc2 (by assumption) (by assumption) (by assumption) | exact pc3 (by assumption) (by assumption) (by assumption) | exact pc4 (by assumption) (by assumption) (by assumption) (by assumption) | exact pc5 (by assumption) (by assumption) (by assumption) (by assumption) | exact pc6 (by assumption) (by assumption) (by assumption) (by assumption) | exact pc7 (by assumption) (by assumption) (by assumption) (by assumption)))) | (with_reducible show pcT _ _ = _; unfold pcT; trace_state; assumption)
end
set_option Elab.async false
set_option maxRecDepth 100000
set_option maxHeartbeats 5000000
section
variable {w : World} {o : OsState} {mean : ExcName → Option Value} {loose : List Str} {mg mb : Str → Option Value} {dp un : Nat} {gd : Option (List Code)} {cn : Str} {cs : Scope} {a : Addr} {ccd : Value} {cl : List (Str × Addr)} {outer : List Env} {A₀ : Around} {base h₀ : Heap} {L : Addr} {m : Str → Option Value} {news : List (Addr × Obj)} {s : Shared} {Q E : Value → Shared → Prop}
theorem groups_c (B : Below A₀ base outer h₀) (F : Fr h₀ L s.heap m) (X : (KF w.params).In h₀) (N : News h₀ L s.heap news) (T : Top topProg loose mean mg mb h₀) (hk : cs.kind = .function) (hd : dp + 3 < recursionLimit) (hu : un + 64 < cLine) {text : Str} {t : Tok} {ps : List Str} (ht : text = jnF ps) (hl : ps.length ≤ 3) (hp : ∀ x ∈ ps, 1 ≤ x.length ∧ x.length ≤ 5) (hq : ∀ x ∈ ps, 41 ∉ x.cps.toList)
  (ret : ∀ D c ys h' tk', Fr h₀ L h' m → News h₀ L h' ((D, listOf (List.toArray ys) c) :: news) → StrsAre ys (ps.map pcF) → Q (.ref D) { s with heap := h', toks := tk' }) :
  wpAny (model (OpenLaw.row PySem.Challenge.rw_in0163_01).toRowW.prog w) (ktrTop dp un gd cn cs L a ccd cl outer) (call (.ref 168) [.str text t]) Q E s := by
  revert X; k_fill; intro X
  k_with_none
  k_with "execs cons" => ((k_dflt (refine wpAny_execs_cons ?_)); (try dsimp only))
  k_with "execs nil" => (k_dflt (refine wpAny_execs_nil ?_))
  k_with "exec If" => (k_dflt (refine wpAny_If ?_))
  k_with "exec Assign" => (k_dflt (refine wpAny_Assign_Name ?_))
  k_with "eval Name" => (k_dflt (refine' nameX_L ?F ?v ?_ ?a ?b ?d; (case F => k_asm); (case a => rfl); (case b => kernel_rfl!); (case d => kernel_rfl); (case v => first | rfl | assumption); k_whole))
  k_with "storeName" => (k_dflt (refine' storeX_L ?F ?N ?_ ?a ?b; (case F => k_asm); (case N => k_asm); (case a => rfl); (case b => rfl); k_whole; intro hS7 FS7 NS7; (try k_sweep)))
  k_with "spliced" => (k_dflt (first | refine args_cons ?_ | (refine args_nil ?_; try simp only [List.cons_append, List.nil_append])))
  k_with "ite" => (k_dflt (first | refine ite_pos (by decide +kernel) ?_ | refine ite_neg (by decide +kernel) ?_))
  k_with "And" => ((with_reducible show PySem.Str.length (_ ++ _) ≤ sizeLine ∧ _); refine ⟨Nat.le_of_ble_eq_true (by kernel_rfl!), ?_⟩)
  k_with "exec Assign cons Tuple" => (k_dflt (refine Assign_Tuple ?_))
  k_with "callWith ref" => (k_dflt (refine' callWith_K ?k1 ?k2 ?_; (case k1 => k_asm); (case k2 => k_is); k_whole))
  k_with "truthy bool" => (k_dflt (refine wpAny_truthy_bool ?_))
  k_with "isTrue Compare" => (k_dflt (refine wpAny_isTrue_Compare1 ?_))
  k_with "room" => (k_dflt (first | exact om_s2 (by assumption) (by rfl) | exact om_s1 (by assumption) (by rfl) | exact om_s0 (by assumption)))
  k_with "ne" => with_reducible (first | assumption | exact om_sy (by assumption) | exact Nat.ne_of_gt (by assumption) | exact Nat.ne_of_lt (by assumption) | exact om_n1 (by assumption) | exact om_n2 (by assumption) | exact om_n3 (by assumption) | exact om_z2 (by assumption) | exact om_z3 (by assumption) | exact om_z4 (by assumption) | exact (om_n1 (by assumption)).symm | exact (om_n2 (by assumption)).symm | exact (om_n3 (by assumption)).symm | exact (om_z2 (by assumption)).symm | exact (om_z3 (by assumption)).symm | exact (om_z4 (by assumption)).symm | exact om_n4 (by assumption) | exact om_z5 (by assumption) | exact (om_n4 (by assumption)).symm | exact (om_z5 (by assumption)).symm | exact om_n5 (by assumption) | exact om_z6 (by assumption) | exact (om_n5 (by assumption)).symm | exact (om_z6 (by assumption)).symm | exact om_e1 (by assumption) | exact om_e2 (by assumption) | exact om_e3 (by assumption))
  k_with "om" => with_reducible (first | ((show _ ≠ _); k_extra "ne") | ((show @LT.lt Nat _ (_ + _ + _) _); exact om_s2 (by assumption) (by decide)) | ((show @LT.lt Nat _ (_ + _) _); exact om_s1 (by assumption) (by decide)) | ((show @LT.lt Nat _ _ _); first | assumption | exact om_s0 (by assumption)) | ((show @LE.le Nat _ (_ + 1) _); exact om_succ (by assumption) (by assumption)) | ((show @LE.le Nat _ _ _); first | exact Nat.zero_le _ | assumption | exact om_le (by assumption) (by decide) | exact om_lt_le (by assumption) (by decide) | exact om_eq_le (by assumption) (by assumption) (by decide) | exact om_eq_le' (by assumption) (by assumption) (by decide)) | ((show _ ∧ _); first | exact om_rg (by assumption) (by decide) | exact om_r1 (by assumption) (by decide)))
  k_with "all" => exact fun p9 hp9 => Nat.ne_of_lt (by first | exact l1 p9 hp9 | exact Nat.lt_succ_of_lt (l1 p9 hp9))
  have hp5 : ∀ x ∈ ps, x.length ≤ 5 := fun x hx => (hp x hx).2
  have htl : text.length ≤ 45 := by rw [ht]; exact jnF_len hl hp5
  have hgl := gB_len hl hp5
  k_with "subscriptTail Name Slice str ref" => ((with_reducible show wpAny _ _ (subscriptTail _ _ (Value.str text _) _) _ _ _); (rename Fr _ _ _ _ => sF'); (rename News _ _ _ _ => sN'); k_dflt (first | (refine slice_ns_w (y := Str.ofString "(?s:") (by rw [ht]; exact jn_head ps) (by omega) sF' sN' ?_; intro h8' t8' k8' F8' N8') | (refine slice_sn_w (y := Str.ofString ".*)\\Z") (by rw [ht]; exact jn_tail ps) (by omega) sF' sN' ?_; intro h8' t8' k8' F8' N8') | (refine slice_ss_g (l := gB ps) (by rw [ht]; exact jn_body ps) (by omega) sF' sN' ?_; intro bd9 h8' t8' k8' hbd9 F8' N8'; have hbl9 := len_cps bd9; rw [hbd9] at hbl9)))
  k_with "exec While Compare" => (k_here; (rename Fr _ _ _ _ => lF'); (rename News _ _ _ _ => lN'); k_dflt (refine' ksw_while (σ := (Int × Tok) × Nat × List Value × Addr) (fun c9 => [(c9.2.2.2, listOf c9.2.2.1.toArray c9.2.1)]) (fun c9 => [(Str.ofString "at", .int c9.1.1 c9.1.2), (Str.ofString "row", .ref c9.2.2.2)]) (fun _ => True) [Str.ofString "stop"] (fun c9 => ∃ k9 : Nat, c9.1.1 = ((gB (ps.take k9)).length : Int) ∧ k9 ≤ ps.length ∧ StrsAre c9.2.2.1 ((ps.take k9).map pcF)) (fun c9 => 100 - c9.1.1.toNat) ⟨⟨_, _⟩, _, [], _⟩ lF' lN' True.intro ?hk ?hp ?_ ?hE; (case hk => kst_all); (case hp => exact ⟨0, rfl, Nat.zero_le _, .nil⟩); (case hE => passes_own)); (clear lF' lN'); intro c9 u9 h9 tk9 _ hp9 F9 N9; obtain ⟨⟨i9, it9⟩, q9, ys9, D9⟩ := c9; obtain ⟨k9, hi9, hk9, hys9⟩ := hp9; (dsimp only at *); (simp only [kstB] at F9); have hyl9 := hys9.length; (rw [List.length_map, List.length_take] at hyl9); (by_cases hkl9 : k9 = ps.length); (have hend9 : (gB (ps.take k9)).length = (gB ps).length := by rw [hkl9, List.take_length]); rotate_left; (obtain ⟨x9, hx9⟩ := jn_get (k := k9) (ps := ps) (by omega); have hxl9 := hp _ (List.mem_of_getElem? hx9); have hxq9 := hq _ (List.mem_of_getElem? hx9); have hpat9 := hbd9.trans (gB_split hx9); have htk9 := gB_take hx9; have hn9 := tr_len hpat9; (simp only [List.length_cons, List.length_append] at hn9); have hxc9 := len_cps x9); rotate_right)
  k_with "subscriptTail Name Slice str ref" => ((with_reducible show wpAny _ _ (subscriptTail _ _ (Value.str bd9 _) _) _ _ _); (rename Fr _ _ _ _ => sF'); (rename News _ _ _ _ => sN'); k_dflt (first | (refine tr_slice (a := 0) (b := 6) (z := Str.ofString "(?>.*?") hpat9 (by omega) (by omega) (by omega) (by omega) (by (simp only [List.length_cons]; omega)) rfl sF' sN' ?_; intro h8' t8' k8' F8' N8') | (refine tr_slice (a := 6) (b := 6 + x9.length) (z := x9) hpat9 (by omega) (by omega) (by omega) (by omega) (by (simp only [List.length_cons, List.length_append]; omega)) (gr_piece x9 _) sF' sN' ?_; intro h8' t8' k8' F8' N8')))
  k_with "call builtin:str.find" => (k_dflt (refine find_gr hpat9 (by omega) hxq9 rfl ?_); intro t8' k8')
  k_with "call ref" => (k_dflt (refine' piece_c ?k1 ?k2 ?k3 ?k4 ?k5 ?k6 ?k7 ?k8 ?x1 ?x2 ?_; (case k1 => k_asm); (case k2 => k_asm); (case k3 => k_asm); (case k4 => k_asm); (case k5 => k_asm); (case k6 => first | exact rfl | assumption); (case k7 => ktr_room); (case k8 => ktr_units); (case x1 => omega); (case x2 => omega); intro t9 h9 tk9 F9 N9; (try dsimp only); (try k_fold)))
  refine wpAny_call ?_
  (k_dflt (refine' code_defR ?k1 ?k2 ?k3 ?k4 ?kO ?k5 ?kA ?kF ?kK ?k6 ?k7 ?k8 ?k9 ?kB ?_ ?c2 ?c3 ?c4 ?c5; (case kO => exact (newsNil (h₀ := h₀) (L := L) (h := s.heap))); (case kA => exact rfl); (case kF => exact rfl); (case kK => assumption); (case k1 => k_asm); (case k2 => k_asm); (case k3 => k_asm); (case k4 => exact N); (case k5 => k_asm); (case k6 => k_is); (case k7 => k_is); (case k8 => ktr_room); (case k9 => exact BindsTo.of_eq rfl); (case c5 => decide); (case kB => exact locs rfl); (case c2 => exact rfl); (case c3 => exact rfl); (case c4 => exact rfl); k_whole; intro g' L' h' K' FG' F' N' B' X' T' l1; clear N; (try k_lt l1); (try dsimp only); (try k_lift B'); (try k_fold)))
  k_steps
  all_goals first | (exfalso; omega) | ((rename Fr _ _ _ _ => eF'); (rename News _ _ _ _ => eN'); (try simp only [List.push_toArray] at eN'); (refine' ksw_end ⟨⟨_, _⟩, q9 + 1, _, D9⟩ eF' eN' ?hn True.intro ?hk ?hr ?hp ?hm); (case hk => with_unfolding_all kst_all); (case hn => ((try dsimp only); with_unfolding_all exact List.forall_mem_cons.mpr ⟨(by repeat (first | assumption | exact List.mem_cons_self | exact List.mem_append_left _ (by assumption) | exact List.mem_append_right _ (by assumption) | refine List.mem_cons_of_mem _ ?_)), List.forall_mem_nil _⟩)); (case hr => with_unfolding_all ksw_same); (case hp => exact ⟨k9 + 1, by (dsimp only; omega), by omega, gr_step hys9 hx9⟩); (case hm => (dsimp only; omega))) | (refine' ret D9 _ _ _ _ ?e1 ?e2 (gr_fin hys9 hkl9); (case e1 => k_asm); (case e2 => refine newsCons (by assumption) (by repeat (first | assumption | exact List.mem_cons_self | exact List.mem_append_left _ (by assumption) | exact List.mem_append_right _ (by assumption) | refine List.mem_cons_of_mem _ ?_)) ?_; (exact Kept.back (by assumption) (by assumption) (by assumption) (by intro p9 hp9; repeat (first | exact hp9 | refine List.mem_cons_of_mem _ ?_)))))
end
set_option Elab.async false
set_option maxRecDepth 100000
set_option maxHeartbeats 5000000
section
variable {w : World} {o : OsState} {mean : ExcName → Option Value} {loose : List Str} {mg mb : Str → Option Value} {dp un : Nat} {gd : Option (List Code)} {cn : Str} {cs : Scope} {a : Addr} {ccd : Value} {cl : List (Str × Addr)} {outer : List Env} {A₀ : Around} {base h₀ : Heap} {L : Addr} {m : Str → Option Value} {news : List (Addr × Obj)} {s : Shared} {Q E : Value → Shared → Prop}
theorem taken_c {ps : Array Value} (B : Below A₀ base outer h₀) (F : Fr h₀ L s.heap m) (X : (KF w.params).In h₀) (N : News h₀ L s.heap ((113, tabObj ps) :: news)) (T : Top topProg loose mean mg mb h₀) (hk : cs.kind = .function) (hd : dp + 6 < recursionLimit) (hu : un + 200 < cLine) (hC : CodeHd base 117 113) (hps : TabOk ps) (hnt : ∀ p ∈ news, p.1 ≠ 113) {ra rb : Addr} {vs ns : List Value} {na nb : Nat} {ms : List (Int × Int)} {nms : List Str} (hra : (ra, listOf vs.toArray na) ∈ news) (hs : Stg news vs ms) (hl : ms.length ≤ 3) (hl1 : 1 ≤ ms.length) (hm : StgOk ms)
  (hrb : (rb, listOf ns.toArray nb) ∈ news) (hns : StrsAre ns nms) (hnl : nms.length ≤ 40) (hn3 : ∀ x ∈ nms, x.length ≤ 3) (hG : Bare o s)
  (ret : ∀ D c ys s' ps', Fr h₀ L s'.heap m → News h₀ L s'.heap ((D, listOf (List.toArray ys) c) :: (113, tabObj ps') :: news) → TabOk ps' → Bare o s' → StrsAre ys (nms.filter (tkF ((ms.map fun p => paF p.1 p.2).map pcF))) → Q (.ref D) s') :
  wpAny (model (OpenLaw.row PySem.Challenge.rw_in0163_01).toRowW.prog w) (ktrTop dp un gd cn cs L a ccd cl outer) (call (.ref 180) [.ref rb, .ref ra]) Q E s := by
  revert X; k_fill; intro X
  k_with_none
  k_with "execs cons" => ((k_dflt (refine wpAny_execs_cons ?_)); (try dsimp only))
  k_with "execs nil" => (k_dflt (refine wpAny_execs_nil ?_))
  k_with "exec If" => (k_dflt (refine wpAny_If ?_))
  k_with "exec Assign" => (k_dflt (refine wpAny_Assign_Name ?_))
  k_with "eval Name" => (k_dflt (refine' nameX_L ?F ?v ?_ ?a ?b ?d; (case F => k_asm); (case a => rfl); (case b => kernel_rfl!); (case d => kernel_rfl); (case v => first | rfl | assumption); k_whole))
  k_with "storeName" => (k_dflt (refine' storeX_L ?F ?N ?_ ?a ?b; (case F => k_asm); (case N => k_asm); (case a => rfl); (case b => rfl); k_whole; intro hS7 FS7 NS7; (try k_sweep)))
  k_with "spliced" => (k_dflt (first | refine args_cons ?_ | (refine args_nil ?_; try simp only [List.cons_append, List.nil_append])))
  k_with "ite" => (k_dflt (first | refine ite_pos (by decide +kernel) ?_ | refine ite_neg (by decide +kernel) ?_))
  k_with "And" => ((with_reducible show PySem.Str.length (_ ++ _) ≤ sizeLine ∧ _); refine ⟨Nat.le_of_ble_eq_true (by kernel_rfl!), ?_⟩)
  k_with "exec Assign cons Tuple" => (k_dflt (refine Assign_Tuple ?_))
  k_with "callWith ref" => (k_dflt (refine' callWith_K ?k1 ?k2 ?_; (case k1 => k_asm); (case k2 => k_is); k_whole))
  k_with "truthy bool" => (k_dflt (refine wpAny_truthy_bool ?_))
  k_with "isTrue Compare" => (k_dflt (refine wpAny_isTrue_Compare1 ?_))
  k_with "room" => (k_dflt (first | exact om_s2 (by assumption) (by rfl) | exact om_s1 (by assumption) (by rfl) | exact om_s0 (by assumption)))
  k_with "ne" => with_reducible (first | assumption | exact om_sy (by assumption) | exact Nat.ne_of_gt (by assumption) | exact Nat.ne_of_lt (by assumption) | exact om_n1 (by assumption) | exact om_n2 (by assumption) | exact om_n3 (by assumption) | exact om_z2 (by assumption) | exact om_z3 (by assumption) | exact om_z4 (by assumption) | exact (om_n1 (by assumption)).symm | exact (om_n2 (by assumption)).symm | exact (om_n3 (by assumption)).symm | exact (om_z2 (by assumption)).symm | exact (om_z3 (by assumption)).symm | exact (om_z4 (by assumption)).symm | exact om_n4 (by assumption) | exact om_z5 (by assumption) | exact (om_n4 (by assumption)).symm | exact (om_z5 (by assumption)).symm | exact om_n5 (by assumption) | exact om_z6 (by assumption) | exact (om_n5 (by assumption)).symm | exact (om_z6 (by assumption)).symm | exact om_e1 (by assumption) | exact om_e2 (by assumption) | exact om_e3 (by assumption))
  k_with "om" => with_reducible (first | ((show _ ≠ _); k_extra "ne") | ((show @LT.lt Nat _ (_ + _ + _) _); exact om_s2 (by assumption) (by decide)) | ((show @LT.lt Nat _ (_ + _) _); exact om_s1 (by assumption) (by decide)) | ((show @LT.lt Nat _ _ _); first | assumption | exact om_s0 (by assumption)) | ((show @LE.le Nat _ (_ + 1) _); exact om_succ (by assumption) (by assumption)) | ((show @LE.le Nat _ _ _); first | exact Nat.zero_le _ | assumption | exact om_le (by assumption) (by decide) | exact om_lt_le (by assumption) (by decide) | exact om_eq_le (by assumption) (by assumption) (by decide) | exact om_eq_le' (by assumption) (by assumption) (by decide)) | ((show _ ∧ _); first | exact om_rg (by assumption) (by decide) | exact om_r1 (by assumption) (by decide)))
  k_with "all" => exact fun p9 hp9 => Nat.ne_of_lt (by first | exact l1 p9 hp9 | exact Nat.lt_succ_of_lt (l1 p9 hp9))
  have hvl : vs.toArray.size = ms.length := by rw [List.size_toArray]; exact hs.len.symm
  have hnl' : ns.toArray.size = nms.length := by rw [List.size_toArray]; exact hns.length
  k_with "CompEnd" => (k_dflt (refine LCg.CompEnd.intro (by k_asm) (by k_asm) _ (fun p hp => hp) (by first | assumption | (simp only [LCg.Off3, and_true]; done)) (by first | assumption | exact True.intro | exact Or.inr ⟨_, (by repeat (first | assumption | exact List.mem_cons_self | exact List.mem_append_left _ (by assumption) | exact List.mem_append_right _ (by assumption) | refine List.mem_cons_of_mem _ ?_)), rfl, _, rfl⟩) ?_); (try dsimp only); (try (k_dflt (k_extra "ce"))))
  k_with "call ref" => (k_dflt (refine' item_c ?k1 ?k2 ?k3 ?k4 ?k5 ?k6 ?k7 ?k8 ?x1 ?x2 ?_; (case k1 => k_asm); (case k2 => k_asm); (case k3 => k_asm); (case k4 => k_asm); (case k5 => k_asm); (case k6 => first | exact rfl | assumption); (case k7 => ktr_room); (case k8 => ktr_units); (case x1 => (have z9 := hm _ (by assumption); omega)); (case x2 => (have z9 := hm _ (by assumption); omega)); intro t9 h9 tk9 F9 N9; (try dsimp only); (try k_fold)))
  k_with "exec Assign cons ListComp" => (k_here; lcp_look; k_dflt (refine wpAny_Assign_Name ?_ (by with_unfolding_all rfl)))
  k_with "eval ListComp" => (k_here; lcp_look; k_dflt (refine LCp.ListComp_P (F₀ := by k_asm) (by with_unfolding_all rfl) (by decide) (by rfl) (by decide) (by rfl) (by rfl) (by decide) ?_))
  k_with "eval ListComp" => (k_here; lct_look; k_dflt (refine LCt.ListComp_T (F₀ := by k_asm) (by with_unfolding_all rfl) (by decide) (by rfl) (by decide) (by rfl) ?_))
  k_with "SrcLP" => (k_dflt (refine LCp.SrcLP.ledger (by rfl) (by k_asm) (by k_asm) (by repeat (first | assumption | exact List.mem_cons_self | exact List.mem_append_left _ (by assumption) | exact List.mem_append_right _ (by assumption) | refine List.mem_cons_of_mem _ ?_)) (by rw [hvl, sizeLine_eq]; omega) ?_; intro g9'; (refine compP_all (hs.mono (by intro p9 hp9; repeat (first | exact hp9 | refine List.mem_cons_of_mem _ ?_))) (fun p y => ∃ t, y = .str (itF p.1 p.2) t) hvl ?_ ?_); (rotate_left; (intro ys' hys'; replace hys' := strs_al (f := fun p => itF p.1 p.2) hys'); rotate_left)); (intro p' t₁' t₂' I' oI' C' oC' D' m' ys' h' tk' E' hp' hC' hx' hy' F' N' off' ne'; (try simp only [LCg.Off3, and_true] at off')))
  k_with "ce" => exact ⟨rfl, ⟨_, rfl⟩⟩
  k_with "call builtin:str.join" => (k_dflt (refine join_pat hm hl (isl (by k_asm) (by k_mem)) (by assumption) ?_); intro y8' t8' k8' hy8' hl8')
  k_with "call ref" => (k_dflt (refine' tr_c (ps0 := ms.map fun p => paF p.1 p.2) ?k1 ?k2 ?k3 ?k4 ?k5 ?k6 ?k7 ?k8 hC ?x1 ?x2 ?x3 ?x4 ?x5 ?x6 ?x7 ?_; (case k1 => k_asm); (case k2 => k_asm); (case k3 => k_asm); (case k4 => first | exact nPerm3 (by k_asm) | exact nPerm2 (by k_asm)); (case k5 => k_asm); (case k6 => first | exact rfl | assumption); (case k7 => ktr_room); (case k8 => ktr_units); (case x1 => assumption); (case x2 => exact List.forall_mem_cons.mpr ⟨by k_ne, hnt⟩); (case x3 => (rw [hy8']; exact pat_tk hm hl1)); (case x4 => (rw [hy8']; exact pat_len hm hl)); (case x5 => (rw [List.length_map]; exact hl)); (case x6 => exact fun x hx => (pa_mem hm x hx).1.2); (case x7 => assumption)); intro t9 s9 ps9 F9 N9 hps9 hG9; (try dsimp only))
  k_with "call ref" => (k_dflt (refine' groups_c ?k1 ?k2 ?k3 ?k4 ?k5 ?k6 ?k7 ?k8 ?x1 ?x2 ?x3 ?x4 ?_; (case k1 => k_asm); (case k2 => k_asm); (case k3 => k_asm); (case k4 => k_asm); (case k5 => k_asm); (case k6 => first | exact rfl | assumption); (case k7 => ktr_room); (case k8 => ktr_units); (case x1 => exact rfl); (case x2 => (rw [List.length_map]; exact hl)); (case x3 => exact fun x hx => (pa_mem hm x hx).1); (case x4 => exact fun x hx => (pa_mem hm x hx).2); intro DG cG yG hpG tkG FG NG hyG; (have hneG : @Ne Nat DG (L' + 1) := ne_cell NG List.mem_cons_self (List.mem_cons_of_mem _ (List.mem_cons_of_mem _ List.mem_cons_self)) (by assumption)); (try dsimp only); (try k_fold)))
  k_with "all" => exact fun p9 hp9 => Nat.ne_of_lt (by first | exact Nat.lt_succ_of_lt (kst_ltOf l1.2 p9 hp9) | exact kst_ltOf l1.2 p9 hp9)
  k_with "storeName" => (k_here; (with_reducible show wpAny _ _ (storeName _ _ (Value.ref DG)) _ _ _); with_unfolding_all refine' storeX_C ?F ?N ?c ?U ?d ?_ ?a ?b; (case a => rfl); (case b => rfl); (case F => k_asm); (case N => k_asm); (case c => rfl); (case U => exact .tail hneG (.tail (by k_ne) (.head (fun p9 hp9 => Nat.ne_of_lt (Nat.lt_succ_of_lt (kst_ltOf l1.2 p9 hp9)))))); (case d => k_asm); k_whole; intro h8' o8' F8' N8' d8'; (try dsimp only at N8'))
  k_with "call ref" => (k_dflt (refine' takes_c ?k1 ?k2 ?k3 ?k4 ?k5 ?k6 ?k7 ?k8 ?x1 ?x2 ?x3 ?x4 ?_; (case k1 => k_asm); (case k2 => k_asm); (case k3 => k_asm); (case k4 => k_asm); (case k5 => k_asm); (case k6 => first | exact rfl | assumption); (case k7 => ktr_room); (case k8 => ktr_units); (case x1 => k_mem); (case x2 => assumption); (case x3 => ((rw [List.length_map, List.length_map]; exact hl))); (case x4 => exact hn3 _ (by assumption)); intro t9 h9 tk9 F9 N9; (try dsimp only); (try k_fold)))
  k_with "CompSrcT" => (k_dflt (refine LCt.CompSrcT.ledger (by rfl) (by k_asm) (by k_asm) (by repeat (first | assumption | exact List.mem_cons_self | exact List.mem_append_left _ (by assumption) | exact List.mem_append_right _ (by assumption) | refine List.mem_cons_of_mem _ ?_)) (by rw [hnl', sizeLine_eq]; omega) ?_; intro g9'; (refine compT_strs rfl hns (tkF ((ms.map fun p => paF p.1 p.2).map pcF)) hnl' ?_ ?_); (rotate_left; (intro ys' hys'); rotate_left)); (intro z' t₁' I' oI' C' oC' D' m' ys' h' tk' E' hp' hC' hx' F' N' off' ne'; (try simp only [LCg.Off3, and_true] at off')))
  k_with "ce" => exact ⟨rfl, by assumption, ⟨_, rfl⟩⟩
  k_with "ce" => exact ⟨rfl, by assumption⟩
  refine wpAny_call ?_
  k_dflt (refine' code_defC ?k1 ?k2 ?k3 ?k4 ?k5 ?kA ?kF ?kK ?k6 ?k7 ?k8 ?k9 ?kB ?kD ?_ ?c2 ?c3 ?c4; (case kA => exact rfl); (case kF => exact rfl); (case kK => assumption); (case k1 => k_asm); (case k2 => k_asm); (case k3 => k_asm); (case k4 => k_asm); (case k5 => k_asm); (case k6 => k_is); (case k7 => k_is); (case k8 => ktr_room); (case k9 => exact BindsTo.of_eq rfl); (case kB => exact rfl); (case kD => decide +kernel); (case c2 => exact rfl); (case c3 => exact rfl); (case c4 => exact rfl); k_whole; intro g' L' h' tk' cells' FG' F' N' Y' B' X' T' l1; (try k_lt l1); k_cells Y'; (try simp only [List.cons_append, List.nil_append] at N'); (try dsimp only); (try k_lift B'); (try k_fold))
  k_steps
  all_goals first | (refine' ret _ _ _ _ ps9 ?e1 ?e2 hps9 hG9 ?e3; (case e1 => k_asm); (case e3 => assumption); (case e2 => (refine' cb_drop ?cbN ?cbS; (case cbN => assumption); (case cbS => (intro p9 hp9; rcases List.mem_cons.mp hp9 with rfl | hp9; (exact (by repeat (first | assumption | exact List.mem_cons_self | exact List.mem_append_left _ (by assumption) | exact List.mem_append_right _ (by assumption) | refine List.mem_cons_of_mem _ ?_))); rcases List.mem_cons.mp hp9 with rfl | hp9; (exact (by repeat (first | assumption | exact List.mem_cons_self | exact List.mem_append_left _ (by assumption) | exact List.mem_append_right _ (by assumption) | refine List.mem_cons_of_mem _ ?_))); (repeat (first | exact hp9 | refine List.mem_cons_of_mem _ ?_)))))))
end
set_option Elab.async false
set_option maxRecDepth 100000
set_option maxHeartbeats 5000000
section
variable {w : World} {o : OsState} {mean : ExcName → Option Value} {loose : List Str} {mg mb : Str → Option Value} {dp un : Nat} {gd : Option (List Code)} {cn : Str} {cs : Scope} {a : Addr} {ccd : Value} {cl : List (Str × Addr)} {outer : List Env} {A₀ : Around} {base h₀ : Heap} {L : Addr} {m : Str → Option Value} {news : List (Addr × Obj)} {s : Shared} {Q E : Value → Shared → Prop}
theorem st3 {ps : Array Value} (B : Below A₀ base [] h₀) (F : Fr h₀ L s.heap m) (X : (KF w.params).In h₀) (N : News h₀ L s.heap ((113, tabObj ps) :: news)) (T : Top topProg loose mean mg mb h₀) (hd : dp + 8 < recursionLimit) (hu : un + 300 < cLine) (hC : CodeHd base 117 113) (hps : TabOk ps) (hnt : ∀ p ∈ news, p.1 ≠ 113) {Q : Flow → Shared → Prop} {ra rb : Addr} {vs ns : List Value} {na nb : Nat} {ms : List (Int × Int)} {nms : List Str} (hra : (ra, listOf vs.toArray na) ∈ news) (hs : Stg news vs ms) (hl : ms.length ≤ 3) (hl1 : 1 ≤ ms.length) (hm : StgOk ms)
  (hrb : (rb, listOf ns.toArray nb) ∈ news) (hns : StrsAre ns nms) (hnl : nms.length ≤ 40) (hn3 : ∀ x ∈ nms, x.length ≤ 3) (hG : Bare o s) (m1 : m (Str.ofString "names") = some (.ref rb)) (m2 : m (Str.ofString "stages") = some (.ref ra))
  (ret : ∀ D c ys s' ps', Fr h₀ L s'.heap (fun y => if y = Str.ofString "one" then some (.ref D) else m y) → News h₀ L s'.heap ((D, listOf (List.toArray ys) c) :: (113, tabObj ps') :: news) → TabOk ps' → Bare o s' → StrsAre ys (nms.filter (tkF ((ms.map fun p => paF p.1 p.2).map pcF))) → Q .next s') :
  wpAny (model (OpenLaw.row PySem.Challenge.rw_in0163_01).toRowW.prog w) (ktrTop dp un gd (Str.ofString "law") lawSc.1 L a ccd (lawCl L) []) (exec lawS3.1 (envX (Str.ofString "law") lawSc.1 L a ccd (lawCl L))) Q E s := by
  dsimp only [lawS3, lawSc, lawCl]
  revert X; k_fill; intro X
  k_with_none
  k_with "execs cons" => ((k_dflt (refine wpAny_execs_cons ?_)); (try dsimp only))
  k_with "execs nil" => (k_dflt (refine wpAny_execs_nil ?_))
  k_with "exec If" => (k_dflt (refine wpAny_If ?_))
  k_with "exec Assign" => (k_dflt (refine wpAny_Assign_Name ?_))
  k_with "eval Name" => (k_dflt (refine' nameX_L ?F ?v ?_ ?a ?b ?d; (case F => k_asm); (case a => rfl); (case b => kernel_rfl!); (case d => kernel_rfl); (case v => first | rfl | assumption); k_whole))
  k_with "storeName" => (k_dflt (refine' storeX_L ?F ?N ?_ ?a ?b; (case F => k_asm); (case N => k_asm); (case a => rfl); (case b => rfl); k_whole; intro hS7 FS7 NS7; (try k_sweep)))
  k_with "spliced" => (k_dflt (first | refine args_cons ?_ | (refine args_nil ?_; try simp only [List.cons_append, List.nil_append])))
  k_with "ite" => (k_dflt (first | refine ite_pos (by decide +kernel) ?_ | refine ite_neg (by decide +kernel) ?_))
  k_with "And" => ((with_reducible show PySem.Str.length (_ ++ _) ≤ sizeLine ∧ _); refine ⟨Nat.le_of_ble_eq_true (by kernel_rfl!), ?_⟩)
  k_with "exec Assign cons Tuple" => (k_dflt (refine Assign_Tuple ?_))
  k_with "callWith ref" => (k_dflt (refine' callWith_K ?k1 ?k2 ?_; (case k1 => k_asm); (case k2 => k_is); k_whole))
  k_with "truthy bool" => (k_dflt (refine wpAny_truthy_bool ?_))
  k_with "isTrue Compare" => (k_dflt (refine wpAny_isTrue_Compare1 ?_))
  k_with "room" => (k_dflt (first | exact om_s2 (by assumption) (by rfl) | exact om_s1 (by assumption) (by rfl) | exact om_s0 (by assumption)))
  k_with "ne" => with_reducible (first | assumption | exact om_sy (by assumption) | exact Nat.ne_of_gt (by assumption) | exact Nat.ne_of_lt (by assumption) | exact om_n1 (by assumption) | exact om_n2 (by assumption) | exact om_n3 (by assumption) | exact om_z2 (by assumption) | exact om_z3 (by assumption) | exact om_z4 (by assumption) | exact (om_n1 (by assumption)).symm | exact (om_n2 (by assumption)).symm | exact (om_n3 (by assumption)).symm | exact (om_z2 (by assumption)).symm | exact (om_z3 (by assumption)).symm | exact (om_z4 (by assumption)).symm | exact om_n4 (by assumption) | exact om_z5 (by assumption) | exact (om_n4 (by assumption)).symm | exact (om_z5 (by assumption)).symm | exact om_n5 (by assumption) | exact om_z6 (by assumption) | exact (om_n5 (by assumption)).symm | exact (om_z6 (by assumption)).symm | exact om_e1 (by assumption) | exact om_e2 (by assumption) | exact om_e3 (by assumption))
  k_with "om" => with_reducible (first | ((show _ ≠ _); k_extra "ne") | ((show @LT.lt Nat _ (_ + _ + _) _); exact om_s2 (by assumption) (by decide)) | ((show @LT.lt Nat _ (_ + _) _); exact om_s1 (by assumption) (by decide)) | ((show @LT.lt Nat _ _ _); first | assumption | exact om_s0 (by assumption)) | ((show @LE.le Nat _ (_ + 1) _); exact om_succ (by assumption) (by assumption)) | ((show @LE.le Nat _ _ _); first | exact Nat.zero_le _ | assumption | exact om_le (by assumption) (by decide) | exact om_lt_le (by assumption) (by decide) | exact om_eq_le (by assumption) (by assumption) (by decide) | exact om_eq_le' (by assumption) (by assumption) (by decide)) | ((show _ ∧ _); first | exact om_rg (by assumption) (by decide) | exact om_r1 (by assumption) (by decide)))
  k_with "all" => exact fun p9 hp9 => Nat.ne_of_lt (by first | exact l1 p9 hp9 | exact Nat.lt_succ_of_lt (l1 p9 hp9))
  k_with "call ref" => (k_dflt (refine' taken_c ?k1 ?k2 ?k3 ?k4 ?k5 ?k6 ?k7 ?k8 hC hps hnt hra hs hl hl1 hm hrb hns hnl hn3 ?kG ?_; (case k1 => k_asm); (case k2 => k_asm); (case k3 => k_asm); (case k4 => k_asm); (case k5 => k_asm); (case k6 => exact rfl); (case k7 => ktr_room); (case k8 => ktr_units); (case kG => assumption)); intro D9 c9 ys9 s9 ps9 F9 N9 hps9 hG9 hy9; (try dsimp only))
  k_steps
  all_goals first | exact ret _ _ _ _ _ (by k_asm) (by k_asm) (by assumption) (by assumption) (by assumption)
end
set_option Elab.async false
set_option maxRecDepth 100000
set_option maxHeartbeats 5000000
section
variable {w : World} {o : OsState} {mean : ExcName → Option Value} {loose : List Str} {mg mb : Str → Option Value} {dp un : Nat} {gd : Option (List Code)} {cn : Str} {cs : Scope} {a : Addr} {ccd : Value} {cl : List (Str × Addr)} {outer : List Env} {A₀ : Around} {base h₀ : Heap} {L : Addr} {m : Str → Option Value} {news : List (Addr × Obj)} {s : Shared} {Q E : Value → Shared → Prop}
theorem st4 {ps : Array Value} (B : Below A₀ base [] h₀) (F : Fr h₀ L s.heap m) (X : (KF w.params).In h₀) (N : News h₀ L s.heap ((113, tabObj ps) :: news)) (T : Top topProg loose mean mg mb h₀) (hd : dp + 8 < recursionLimit) (hu : un + 300 < cLine) (hC : CodeHd base 117 113) (hps : TabOk ps) (hnt : ∀ p ∈ news, p.1 ≠ 113) {Q : Flow → Shared → Prop} {ra rb : Addr} {vs ns : List Value} {na nb : Nat} {ms : List (Int × Int)} {nms : List Str} (hra : (ra, listOf vs.toArray na) ∈ news) (hs : Stg news vs ms) (hl : ms.length ≤ 3) (hl1 : 1 ≤ ms.length) (hm : StgOk ms)
  (hrb : (rb, listOf ns.toArray nb) ∈ news) (hns : StrsAre ns nms) (hnl : nms.length ≤ 40) (hn3 : ∀ x ∈ nms, x.length ≤ 3) (hG : Bare o s) (m1 : m (Str.ofString "names") = some (.ref rb)) (m2 : m (Str.ofString "turned") = some (.ref ra))
  (ret : ∀ D c ys s' ps', Fr h₀ L s'.heap (fun y => if y = Str.ofString "two" then some (.ref D) else m y) → News h₀ L s'.heap ((D, listOf (List.toArray ys) c) :: (113, tabObj ps') :: news) → TabOk ps' → Bare o s' → StrsAre ys (nms.filter (tkF ((ms.map fun p => paF p.1 p.2).map pcF))) → Q .next s') :
  wpAny (model (OpenLaw.row PySem.Challenge.rw_in0163_01).toRowW.prog w) (ktrTop dp un gd (Str.ofString "law") lawSc.1 L a ccd (lawCl L) []) (exec lawS4.1 (envX (Str.ofString "law") lawSc.1 L a ccd (lawCl L))) Q E s := by
  dsimp only [lawS4, lawSc, lawCl]
  revert X; k_fill; intro X
  k_with_none
  k_with "execs cons" => ((k_dflt (refine wpAny_execs_cons ?_)); (try dsimp only))
  k_with "execs nil" => (k_dflt (refine wpAny_execs_nil ?_))
  k_with "exec If" => (k_dflt (refine wpAny_If ?_))
  k_with "exec Assign" => (k_dflt (refine wpAny_Assign_Name ?_))
  k_with "eval Name" => (k_dflt (refine' nameX_L ?F ?v ?_ ?a ?b ?d; (case F => k_asm); (case a => rfl); (case b => kernel_rfl!); (case d => kernel_rfl); (case v => first | rfl | assumption); k_whole))
  k_with "storeName" => (k_dflt (refine' storeX_L ?F ?N ?_ ?a ?b; (case F => k_asm); (case N => k_asm); (case a => rfl); (case b => rfl); k_whole; intro hS7 FS7 NS7; (try k_sweep)))
  k_with "spliced" => (k_dflt (first | refine args_cons ?_ | (refine args_nil ?_; try simp only [List.cons_append, List.nil_append])))
  k_with "ite" => (k_dflt (first | refine ite_pos (by decide +kernel) ?_ | refine ite_neg (by decide +kernel) ?_))
  k_with "And" => ((with_reducible show PySem.Str.length (_ ++ _) ≤ sizeLine ∧ _); refine ⟨Nat.le_of_ble_eq_true (by kernel_rfl!), ?_⟩)
  k_with "exec Assign cons Tuple" => (k_dflt (refine Assign_Tuple ?_))
  k_with "callWith ref" => (k_dflt (refine' callWith_K ?k1 ?k2 ?_; (case k1 => k_asm); (case k2 => k_is); k_whole))
  k_with "truthy bool" => (k_dflt (refine wpAny_truthy_bool ?_))
  k_with "isTrue Compare" => (k_dflt (refine wpAny_isTrue_Compare1 ?_))
  k_with "room" => (k_dflt (first | exact om_s2 (by assumption) (by rfl) | exact om_s1 (by assumption) (by rfl) | exact om_s0 (by assumption)))
  k_with "ne" => with_reducible (first | assumption | exact om_sy (by assumption) | exact Nat.ne_of_gt (by assumption) | exact Nat.ne_of_lt (by assumption) | exact om_n1 (by assumption) | exact om_n2 (by assumption) | exact om_n3 (by assumption) | exact om_z2 (by assumption) | exact om_z3 (by assumption) | exact om_z4 (by assumption) | exact (om_n1 (by assumption)).symm | exact (om_n2 (by assumption)).symm | exact (om_n3 (by assumption)).symm | exact (om_z2 (by assumption)).symm | exact (om_z3 (by assumption)).symm | exact (om_z4 (by assumption)).symm | exact om_n4 (by assumption) | exact om_z5 (by assumption) | exact (om_n4 (by assumption)).symm | exact (om_z5 (by assumption)).symm | exact om_n5 (by assumption) | exact om_z6 (by assumption) | exact (om_n5 (by assumption)).symm | exact (om_z6 (by assumption)).symm | exact om_e1 (by assumption) | exact om_e2 (by assumption) | exact om_e3 (by assumption))
  k_with "om" => with_reducible (first | ((show _ ≠ _); k_extra "ne") | ((show @LT.lt Nat _ (_ + _ + _) _); exact om_s2 (by assumption) (by decide)) | ((show @LT.lt Nat _ (_ + _) _); exact om_s1 (by assumption) (by decide)) | ((show @LT.lt Nat _ _ _); first | assumption | exact om_s0 (by assumption)) | ((show @LE.le Nat _ (_ + 1) _); exact om_succ (by assumption) (by assumption)) | ((show @LE.le Nat _ _ _); first | exact Nat.zero_le _ | assumption | exact om_le (by assumption) (by decide) | exact om_lt_le (by assumption) (by decide) | exact om_eq_le (by assumption) (by assumption) (by decide) | exact om_eq_le' (by assumption) (by assumption) (by decide)) | ((show _ ∧ _); first | exact om_rg (by assumption) (by decide) | exact om_r1 (by assumption) (by decide)))
  k_with "all" => exact fun p9 hp9 => Nat.ne_of_lt (by first | exact l1 p9 hp9 | exact Nat.lt_succ_of_lt (l1 p9 hp9))
  k_with "call ref" => (k_dflt (refine' taken_c ?k1 ?k2 ?k3 ?k4 ?k5 ?k6 ?k7 ?k8 hC hps hnt hra hs hl hl1 hm hrb hns hnl hn3 ?kG ?_; (case k1 => k_asm); (case k2 => k_asm); (case k3 => k_asm); (case k4 => k_asm); (case k5 => k_asm); (case k6 => exact rfl); (case k7 => ktr_room); (case k8 => ktr_units); (case kG => assumption)); intro D9 c9 ys9 s9 ps9 F9 N9 hps9 hG9 hy9; (try dsimp only))
  k_steps
  all_goals first | exact ret _ _ _ _ _ (by k_asm) (by k_asm) (by assumption) (by assumption) (by assumption)
end
set_option Elab.async false
set_option maxRecDepth 100000
set_option maxHeartbeats 5000000
section
variable {w : World} {o : OsState} {mean : ExcName → Option Value} {loose : List Str} {mg mb : Str → Option Value} {dp un : Nat} {gd : Option (List Code)} {cn : Str} {cs : Scope} {a : Addr} {ccd : Value} {cl : List (Str × Addr)} {outer : List Env} {A₀ : Around} {base h₀ : Heap} {L : Addr} {m : Str → Option Value} {news : List (Addr × Obj)} {s : Shared} {Q E : Value → Shared → Prop}
theorem behind_c (B : Below A₀ base outer h₀) (F : Fr h₀ L s.heap m) (X : (KF w.params).In h₀) (N : News h₀ L s.heap news) (T : Top topProg loose mean mg mb h₀) (hk : cs.kind = .function) (hd : dp + 2 < recursionLimit) (hu : un + 128 < cLine) {r : Addr} {t : Tok} {nm : Str} {vs : List Value} {nn : Nat} {rs : List Str} (hr : (r, listOf vs.toArray nn) ∈ news) (hs : StrsAre vs rs) (hl : rs.length ≤ 3) (hn : nm.length ≤ 3) (ho : rs.all PyData.strOk = true)
  (ret : ∀ (_ : Tok) h' tk', Fr h₀ L h' m → News h₀ L h' news → Q (.bool (bhF rs nm)) { s with heap := h', toks := tk' }) :
  wpAny (model (OpenLaw.row PySem.Challenge.rw_in0163_01).toRowW.prog w) (ktrTop dp un gd cn cs L a ccd cl outer) (call (.ref 187) [.ref r, .str nm t]) Q E s := by
  revert X; k_fill; intro X
  k_with_none
  k_with "execs cons" => ((k_dflt (refine wpAny_execs_cons ?_)); (try dsimp only))
  k_with "execs nil" => (k_dflt (refine wpAny_execs_nil ?_))
  k_with "exec If" => (k_dflt (refine wpAny_If ?_))
  k_with "exec Assign" => (k_dflt (refine wpAny_Assign_Name ?_))
  k_with "eval Name" => (k_dflt (refine' nameX_L ?F ?v ?_ ?a ?b ?d; (case F => k_asm); (case a => rfl); (case b => kernel_rfl!); (case d => kernel_rfl); (case v => first | rfl | assumption); k_whole))
  k_with "storeName" => (k_dflt (refine' storeX_L ?F ?N ?_ ?a ?b; (case F => k_asm); (case N => k_asm); (case a => rfl); (case b => rfl); k_whole; intro hS7 FS7 NS7; (try k_sweep)))
  k_with "spliced" => (k_dflt (first | refine args_cons ?_ | (refine args_nil ?_; try simp only [List.cons_append, List.nil_append])))
  k_with "ite" => (k_dflt (first | refine ite_pos (by decide +kernel) ?_ | refine ite_neg (by decide +kernel) ?_))
  k_with "And" => ((with_reducible show PySem.Str.length (_ ++ _) ≤ sizeLine ∧ _); refine ⟨Nat.le_of_ble_eq_true (by kernel_rfl!), ?_⟩)
  k_with "exec Assign cons Tuple" => (k_dflt (refine Assign_Tuple ?_))
  k_with "callWith ref" => (k_dflt (refine' callWith_K ?k1 ?k2 ?_; (case k1 => k_asm); (case k2 => k_is); k_whole))
  k_with "truthy bool" => (k_dflt (refine wpAny_truthy_bool ?_))
  k_with "isTrue Compare" => (k_dflt (refine wpAny_isTrue_Compare1 ?_))
  k_with "room" => (k_dflt (first | exact om_s2 (by assumption) (by rfl) | exact om_s1 (by assumption) (by rfl) | exact om_s0 (by assumption)))
  k_with "ne" => with_reducible (first | assumption | exact om_sy (by assumption) | exact Nat.ne_of_gt (by assumption) | exact Nat.ne_of_lt (by assumption) | exact om_n1 (by assumption) | exact om_n2 (by assumption) | exact om_n3 (by assumption) | exact om_z2 (by assumption) | exact om_z3 (by assumption) | exact om_z4 (by assumption) | exact (om_n1 (by assumption)).symm | exact (om_n2 (by assumption)).symm | exact (om_n3 (by assumption)).symm | exact (om_z2 (by assumption)).symm | exact (om_z3 (by assumption)).symm | exact (om_z4 (by assumption)).symm | exact om_n4 (by assumption) | exact om_z5 (by assumption) | exact (om_n4 (by assumption)).symm | exact (om_z5 (by assumption)).symm | exact om_n5 (by assumption) | exact om_z6 (by assumption) | exact (om_n5 (by assumption)).symm | exact (om_z6 (by assumption)).symm | exact om_e1 (by assumption) | exact om_e2 (by assumption) | exact om_e3 (by assumption))
  k_with "om" => with_reducible (first | ((show _ ≠ _); k_extra "ne") | ((show @LT.lt Nat _ (_ + _ + _) _); exact om_s2 (by assumption) (by decide)) | ((show @LT.lt Nat _ (_ + _) _); exact om_s1 (by assumption) (by decide)) | ((show @LT.lt Nat _ _ _); first | assumption | exact om_s0 (by assumption)) | ((show @LE.le Nat _ (_ + 1) _); exact om_succ (by assumption) (by assumption)) | ((show @LE.le Nat _ _ _); first | exact Nat.zero_le _ | assumption | exact om_le (by assumption) (by decide) | exact om_lt_le (by assumption) (by decide) | exact om_eq_le (by assumption) (by assumption) (by decide) | exact om_eq_le' (by assumption) (by assumption) (by decide)) | ((show _ ∧ _); first | exact om_rg (by assumption) (by decide) | exact om_r1 (by assumption) (by decide)))
  k_with "all" => exact fun p9 hp9 => Nat.ne_of_lt (by first | exact l1 p9 hp9 | exact Nat.lt_succ_of_lt (l1 p9 hp9))
  have hvl : vs.toArray.size = rs.length := by rw [List.size_toArray]; exact hs.length
  k_with "call type:list" => (k_dflt (refine list_copyK (by k_asm) (by k_asm) (isl (by k_asm) (by k_mem)) ?_ (by rw [hvl, sizeLine_eq]; omega)); intro D' c' h' F' N' l1)
  k_with "exec For Name Subscript cons nil" => ((rename Fr _ _ _ _ => lF'); (with_unfolding_all refine' For_invVF lF' ?k1 ?k2 ?_; (case k1 => exact rfl); (case k2 => exact rfl); k_whole))
  k_with "pyIter str" => k_state (fun pre left => left = bhN rs pre ∧ left.all PyData.strOk = true ∧ left.length ≤ rs.length) "left"
  k_with "compareOp NotEq ref ref" => (k_dflt (refine' ne_strs ?p1 ?p2 ?p3 ?p4 ?p5 ?p6 ?p7 ?_; (case p1 => exact isl (by k_asm) (by k_mem)); (case p2 => exact isl (its := List.toArray []) (by k_asm) (by k_mem)); (case p3 => assumption); (case p4 => exact .nil); (case p5 => assumption); (case p6 => rfl); (case p7 => ktr_units); k_whole))
  k_with "compareOp Eq ref ref" => (k_dflt (refine' eq_strs ?p1 ?p2 ?p3 ?p4 ?p5 ?p6 ?p7 ?_; (case p1 => exact isl (by k_asm) (by k_mem)); (case p2 => exact isl (its := List.toArray []) (by k_asm) (by k_mem)); (case p3 => assumption); (case p4 => exact .nil); (case p5 => assumption); (case p6 => rfl); (case p7 => ktr_units); k_whole))
  k_with "subscriptTail" => (k_dflt (refine' last_ls ?p1 ?p2 ?p3 ?p4 ?_; (case p1 => k_asm); (case p2 => k_mem); (case p3 => assumption); (case p4 => exact of_decide_eq_false (by assumption))); intro t9')
  k_with "call builtin:list.pop" => (k_dflt (refine' pop_ls ?p1 ?p2 ?p3 ?p4 ?p5 ?p6 ?_; (case p1 => k_asm); (case p2 => k_asm); (case p3 => assumption); (case p4 => exact of_decide_eq_false (by assumption)); (case p5 => (intro o9'; k_upd)); (case p6 => omega)); intro h9' t9' us9' hu9' F9' N9'; (try dsimp only at N9'))
  k_with "state" => first | exact bh0 (by assumption) | exact bh1 ⟨by assumption, by assumption, by assumption⟩ (by assumption) | exact bh2 ⟨by assumption, by assumption, by assumption⟩ (by assumption) (by assumption) | exact bh3 ⟨by assumption, by assumption, by assumption⟩ (by assumption) (by assumption)
  refine wpAny_call ?_
  k_dflt cell_enter
  k_steps
  all_goals first | (refine' cb_retB ret ?e1 ?e2 ?e3; (case e2 => k_asm); (case e3 => first | k_asm | (exact Kept.back (by assumption) (by assumption) (by assumption) (by intro p9 hp9; repeat (first | exact hp9 | refine List.mem_cons_of_mem _ ?_))) | (refine' cb_drop ?cbN ?cbS; (case cbN => assumption); (case cbS => (intro p9 hp9; repeat (first | exact hp9 | refine List.mem_cons_of_mem _ ?_))))); (case e1 => (unfold bhF; exact congrArg (fun z => decide (z = [])) (by assumption))))
end
set_option Elab.async false
set_option maxRecDepth 100000
set_option maxHeartbeats 5000000
section
variable {w : World} {o : OsState} {mean : ExcName → Option Value} {loose : List Str} {mg mb : Str → Option Value} {dp un : Nat} {gd : Option (List Code)} {cn : Str} {cs : Scope} {a : Addr} {ccd : Value} {cl : List (Str × Addr)} {outer : List Env} {A₀ : Around} {base h₀ : Heap} {L : Addr} {m : Str → Option Value} {news : List (Addr × Obj)} {s : Shared} {Q E : Value → Shared → Prop}
theorem due_c (B : Below A₀ base outer h₀) (F : Fr h₀ L s.heap m) (X : (KF w.params).In h₀) (N : News h₀ L s.heap news) (T : Top topProg loose mean mg mb h₀) (hk : cs.kind = .function) (hd : dp + 4 < recursionLimit) (hu : un + 160 < cLine) {ra rb : Addr} {vs ns : List Value} {na nb : Nat} {ms : List (Int × Int)} {nms : List Str} (hra : (ra, listOf vs.toArray na) ∈ news) (hs : Stg news vs ms) (hl : ms.length ≤ 3) (hm : StgOk ms)
  (hrb : (rb, listOf ns.toArray nb) ∈ news) (hns : StrsAre ns nms) (hnl : nms.length ≤ 40) (hn3 : ∀ x ∈ nms, x.length ≤ 3)
  (ret : ∀ D c ys h' tk', Fr h₀ L h' m → News h₀ L h' ((D, listOf (List.toArray ys) c) :: news) → StrsAre ys (nms.filter (bhF (ms.map fun p => sgF p.1))) → Q (.ref D) { s with heap := h', toks := tk' }) :
  wpAny (model (OpenLaw.row PySem.Challenge.rw_in0163_01).toRowW.prog w) (ktrTop dp un gd cn cs L a ccd cl outer) (call (.ref 192) [.ref rb, .ref ra]) Q E s := by
  revert X; k_fill; intro X
  k_with_none
  k_with "execs cons" => ((k_dflt (refine wpAny_execs_cons ?_)); (try dsimp only))
  k_with "execs nil" => (k_dflt (refine wpAny_execs_nil ?_))
  k_with "exec If" => (k_dflt (refine wpAny_If ?_))
  k_with "exec Assign" => (k_dflt (refine wpAny_Assign_Name ?_))
  k_with "eval Name" => (k_dflt (refine' nameX_L ?F ?v ?_ ?a ?b ?d; (case F => k_asm); (case a => rfl); (case b => kernel_rfl!); (case d => kernel_rfl); (case v => first | rfl | assumption); k_whole))
  k_with "storeName" => (k_dflt (refine' storeX_L ?F ?N ?_ ?a ?b; (case F => k_asm); (case N => k_asm); (case a => rfl); (case b => rfl); k_whole; intro hS7 FS7 NS7; (try k_sweep)))
  k_with "spliced" => (k_dflt (first | refine args_cons ?_ | (refine args_nil ?_; try simp only [List.cons_append, List.nil_append])))
  k_with "ite" => (k_dflt (first | refine ite_pos (by decide +kernel) ?_ | refine ite_neg (by decide +kernel) ?_))
  k_with "And" => ((with_reducible show PySem.Str.length (_ ++ _) ≤ sizeLine ∧ _); refine ⟨Nat.le_of_ble_eq_true (by kernel_rfl!), ?_⟩)
  k_with "exec Assign cons Tuple" => (k_dflt (refine Assign_Tuple ?_))
  k_with "callWith ref" => (k_dflt (refine' callWith_K ?k1 ?k2 ?_; (case k1 => k_asm); (case k2 => k_is); k_whole))
  k_with "truthy bool" => (k_dflt (refine wpAny_truthy_bool ?_))
  k_with "isTrue Compare" => (k_dflt (refine wpAny_isTrue_Compare1 ?_))
  k_with "room" => (k_dflt (first | exact om_s2 (by assumption) (by rfl) | exact om_s1 (by assumption) (by rfl) | exact om_s0 (by assumption)))
  k_with "ne" => with_reducible (first | assumption | exact om_sy (by assumption) | exact Nat.ne_of_gt (by assumption) | exact Nat.ne_of_lt (by assumption) | exact om_n1 (by assumption) | exact om_n2 (by assumption) | exact om_n3 (by assumption) | exact om_z2 (by assumption) | exact om_z3 (by assumption) | exact om_z4 (by assumption) | exact (om_n1 (by assumption)).symm | exact (om_n2 (by assumption)).symm | exact (om_n3 (by assumption)).symm | exact (om_z2 (by assumption)).symm | exact (om_z3 (by assumption)).symm | exact (om_z4 (by assumption)).symm | exact om_n4 (by assumption) | exact om_z5 (by assumption) | exact (om_n4 (by assumption)).symm | exact (om_z5 (by assumption)).symm | exact om_n5 (by assumption) | exact om_z6 (by assumption) | exact (om_n5 (by assumption)).symm | exact (om_z6 (by assumption)).symm | exact om_e1 (by assumption) | exact om_e2 (by assumption) | exact om_e3 (by assumption))
  k_with "om" => with_reducible (first | ((show _ ≠ _); k_extra "ne") | ((show @LT.lt Nat _ (_ + _ + _) _); exact om_s2 (by assumption) (by decide)) | ((show @LT.lt Nat _ (_ + _) _); exact om_s1 (by assumption) (by decide)) | ((show @LT.lt Nat _ _ _); first | assumption | exact om_s0 (by assumption)) | ((show @LE.le Nat _ (_ + 1) _); exact om_succ (by assumption) (by assumption)) | ((show @LE.le Nat _ _ _); first | exact Nat.zero_le _ | assumption | exact om_le (by assumption) (by decide) | exact om_lt_le (by assumption) (by decide) | exact om_eq_le (by assumption) (by assumption) (by decide) | exact om_eq_le' (by assumption) (by assumption) (by decide)) | ((show _ ∧ _); first | exact om_rg (by assumption) (by decide) | exact om_r1 (by assumption) (by decide)))
  k_with "all" => exact fun p9 hp9 => Nat.ne_of_lt (by first | exact l1 p9 hp9 | exact Nat.lt_succ_of_lt (l1 p9 hp9))
  have hvl : vs.toArray.size = ms.length := by rw [List.size_toArray]; exact hs.len.symm
  have hnl' : ns.toArray.size = nms.length := by rw [List.size_toArray]; exact hns.length
  k_with "CompEnd" => (k_dflt (refine LCg.CompEnd.intro (by k_asm) (by k_asm) _ (fun p hp => hp) (by first | assumption | (simp only [LCg.Off3, and_true]; done)) (by first | assumption | exact True.intro | exact Or.inr ⟨_, (by repeat (first | assumption | exact List.mem_cons_self | exact List.mem_append_left _ (by assumption) | exact List.mem_append_right _ (by assumption) | refine List.mem_cons_of_mem _ ?_)), rfl, _, rfl⟩) ?_); (try dsimp only); (try (k_dflt (k_extra "ce"))))
  k_with "call ref" => (k_dflt (refine' signs_c ?k1 ?k2 ?k3 ?k4 ?k5 ?k6 ?k7 ?k8 ?x1 ?_; (case k1 => k_asm); (case k2 => k_asm); (case k3 => k_asm); (case k4 => k_asm); (case k5 => k_asm); (case k6 => first | exact rfl | assumption); (case k7 => ktr_room); (case k8 => ktr_units); (case x1 => (have z9 := hm _ (by assumption); omega)); intro t9 h9 tk9 F9 N9; (try dsimp only); (try k_fold)))
  k_with "call ref" => (k_dflt (refine' behind_c ?k1 ?k2 ?k3 ?k4 ?k5 ?k6 ?k7 ?k8 ?x1 ?x2 ?x3 ?x4 ?x5 ?_; (case k1 => k_asm); (case k2 => k_asm); (case k3 => k_asm); (case k4 => k_asm); (case k5 => k_asm); (case k6 => first | exact rfl | assumption); (case k7 => ktr_room); (case k8 => ktr_units); (case x1 => k_mem); (case x2 => assumption); (case x3 => (rw [List.length_map]; assumption)); (case x4 => exact hn3 _ (by assumption)); (case x5 => exact setsOk hm); intro t9 h9 tk9 F9 N9; (try dsimp only); (try k_fold)))
  k_with "exec Assign cons ListComp" => (k_here; lcp_look; k_dflt (refine wpAny_Assign_Name ?_ (by with_unfolding_all rfl)))
  k_with "eval ListComp" => (k_here; lcp_look; k_dflt (refine LCp.ListComp_P (F₀ := by k_asm) (by with_unfolding_all rfl) (by decide) (by rfl) (by decide) (by rfl) (by rfl) (by decide) ?_))
  k_with "eval ListComp" => (k_here; lct_look; k_dflt (refine LCt.ListComp_T (F₀ := by k_asm) (by with_unfolding_all rfl) (by decide) (by rfl) (by decide) (by rfl) ?_))
  k_with "CompSrcT" => (k_dflt (refine LCt.CompSrcT.ledger (by rfl) (by k_asm) (by k_asm) (by repeat (first | assumption | exact List.mem_cons_self | exact List.mem_append_left _ (by assumption) | exact List.mem_append_right _ (by assumption) | refine List.mem_cons_of_mem _ ?_)) (by rw [hnl', sizeLine_eq]; omega) ?_; intro g9'; (refine compT_strs rfl hns (bhF (ms.map fun p => sgF p.1)) hnl' ?_ ?_); (rotate_left; (intro ys' hys'); rotate_left)); (intro z' t₁' I' oI' C' oC' D' m' ys' h' tk' E' hp' hC' hx' F' N' off' ne'; (try simp only [LCg.Off3, and_true] at off')))
  k_with "ce" => exact ⟨rfl, by assumption, ⟨_, rfl⟩⟩
  k_with "ce" => exact ⟨rfl, by assumption⟩
  k_with "SrcLP" => (k_dflt (refine LCp.SrcLP.ledger (by rfl) (by k_asm) (by k_asm) (by repeat (first | assumption | exact List.mem_cons_self | exact List.mem_append_left _ (by assumption) | exact List.mem_append_right _ (by assumption) | refine List.mem_cons_of_mem _ ?_)) (by rw [hvl, sizeLine_eq]; omega) ?_; intro g9'; (refine compP_all (hs.mono (by intro p9 hp9; repeat (first | exact hp9 | refine List.mem_cons_of_mem _ ?_))) (fun p y => ∃ t, y = .str (sgF p.1) t) hvl ?_ ?_); (rotate_left; (intro ys' hys'; replace hys' := strs_al (f := fun p => sgF p.1) hys'); rotate_left)); (intro p' t₁' t₂' I' oI' C' oC' D' m' ys' h' tk' E' hp' hC' hx' hy' F' N' off' ne'; (try simp only [LCg.Off3, and_true] at off')))
  k_with "ce" => exact ⟨rfl, ⟨_, rfl⟩⟩
  refine wpAny_call ?_
  k_dflt (refine' code_defC ?k1 ?k2 ?k3 ?k4 ?k5 ?kA ?kF ?kK ?k6 ?k7 ?k8 ?k9 ?kB ?kD ?_ ?c2 ?c3 ?c4; (case kA => exact rfl); (case kF => exact rfl); (case kK => assumption); (case k1 => k_asm); (case k2 => k_asm); (case k3 => k_asm); (case k4 => k_asm); (case k5 => k_asm); (case k6 => k_is); (case k7 => k_is); (case k8 => ktr_room); (case k9 => exact BindsTo.of_eq rfl); (case kB => exact rfl); (case kD => decide +kernel); (case c2 => exact rfl); (case c3 => exact rfl); (case c4 => exact rfl); k_whole; intro g' L' h' tk' cells' FG' F' N' Y' B' X' T' l1; (try k_lt l1); k_cells Y'; (try simp only [List.cons_append, List.nil_append] at N'); (try dsimp only); (try k_lift B'); (try k_fold))
  k_steps
  all_goals first | (refine' ret _ _ _ _ _ ?e1 ?e2 ?e3; (case e1 => k_asm); (case e3 => assumption); (case e2 => (refine' cb_drop ?cbN ?cbS; (case cbN => assumption); (case cbS => (intro p9 hp9; rcases List.mem_cons.mp hp9 with rfl | hp9; (exact List.mem_cons_self); (repeat (first | exact hp9 | refine List.mem_cons_of_mem _ ?_)))))))
end
set_option Elab.async false
set_option maxRecDepth 100000
set_option maxHeartbeats 5000000
section
variable {w : World} {o : OsState} {mean : ExcName → Option Value} {loose : List Str} {mg mb : Str → Option Value} {dp un : Nat} {gd : Option (List Code)} {cn : Str} {cs : Scope} {a : Addr} {ccd : Value} {cl : List (Str × Addr)} {outer : List Env} {A₀ : Around} {base h₀ : Heap} {L : Addr} {m : Str → Option Value} {news : List (Addr × Obj)} {s : Shared} {Q E : Value → Shared → Prop}
theorem st5 (B : Below A₀ base [] h₀) (F : Fr h₀ L s.heap m) (X : (KF w.params).In h₀) (N : News h₀ L s.heap news) (T : Top topProg loose mean mg mb h₀) (hd : dp + 8 < recursionLimit) (hu : un + 300 < cLine) {Q : Flow → Shared → Prop} {o₁ : Obj} {v₁ : Option Value} {ra rb : Addr} {vs ns : List Value} {na nb : Nat} {ms : List (Int × Int)} {nms : List Str} (hcm : (L + 1, o₁) ∈ news) (hcd : o₁.data = .cell v₁) (hra : (ra, listOf vs.toArray na) ∈ news) (hs : Stg news vs ms) (hl : ms.length ≤ 3) (hm : StgOk ms)
  (hrb : (rb, listOf ns.toArray nb) ∈ news) (hns : StrsAre ns nms) (hnl : nms.length ≤ 40) (hn3 : ∀ x ∈ nms, x.length ≤ 3) (m1 : m (Str.ofString "names") = some (.ref rb)) (m2 : m (Str.ofString "stages") = some (.ref ra))
  (ret : ∀ D c ys o' h' tk', Fr h₀ L h' m → News h₀ L h' ((D, listOf (List.toArray ys) c) :: (L + 1, o') :: news.filter (fun p => p.1 != L + 1)) → o'.data = .cell (some (.ref D)) → StrsAre ys (nms.filter (bhF (ms.map fun p => sgF p.1))) → Q .next { s with heap := h', toks := tk' }) :
  wpAny (model (OpenLaw.row PySem.Challenge.rw_in0163_01).toRowW.prog w) (ktrTop dp un gd (Str.ofString "law") lawSc.1 L a ccd (lawCl L) []) (exec lawS5.1 (envX (Str.ofString "law") lawSc.1 L a ccd (lawCl L))) Q E s := by
  dsimp only [lawS5, lawSc, lawCl]
  revert X; k_fill; intro X
  k_with_none
  k_with "execs cons" => ((k_dflt (refine wpAny_execs_cons ?_)); (try dsimp only))
  k_with "execs nil" => (k_dflt (refine wpAny_execs_nil ?_))
  k_with "exec If" => (k_dflt (refine wpAny_If ?_))
  k_with "exec Assign" => (k_dflt (refine wpAny_Assign_Name ?_))
  k_with "eval Name" => (k_dflt (refine' nameX_L ?F ?v ?_ ?a ?b ?d; (case F => k_asm); (case a => rfl); (case b => kernel_rfl!); (case d => kernel_rfl); (case v => first | rfl | assumption); k_whole))
  k_with "storeName" => (k_dflt (refine' storeX_L ?F ?N ?_ ?a ?b; (case F => k_asm); (case N => k_asm); (case a => rfl); (case b => rfl); k_whole; intro hS7 FS7 NS7; (try k_sweep)))
  k_with "spliced" => (k_dflt (first | refine args_cons ?_ | (refine args_nil ?_; try simp only [List.cons_append, List.nil_append])))
  k_with "ite" => (k_dflt (first | refine ite_pos (by decide +kernel) ?_ | refine ite_neg (by decide +kernel) ?_))
  k_with "And" => ((with_reducible show PySem.Str.length (_ ++ _) ≤ sizeLine ∧ _); refine ⟨Nat.le_of_ble_eq_true (by kernel_rfl!), ?_⟩)
  k_with "exec Assign cons Tuple" => (k_dflt (refine Assign_Tuple ?_))
  k_with "callWith ref" => (k_dflt (refine' callWith_K ?k1 ?k2 ?_; (case k1 => k_asm); (case k2 => k_is); k_whole))
  k_with "truthy bool" => (k_dflt (refine wpAny_truthy_bool ?_))
  k_with "isTrue Compare" => (k_dflt (refine wpAny_isTrue_Compare1 ?_))
  k_with "room" => (k_dflt (first | exact om_s2 (by assumption) (by rfl) | exact om_s1 (by assumption) (by rfl) | exact om_s0 (by assumption)))
  k_with "ne" => with_reducible (first | assumption | exact om_sy (by assumption) | exact Nat.ne_of_gt (by assumption) | exact Nat.ne_of_lt (by assumption) | exact om_n1 (by assumption) | exact om_n2 (by assumption) | exact om_n3 (by assumption) | exact om_z2 (by assumption) | exact om_z3 (by assumption) | exact om_z4 (by assumption) | exact (om_n1 (by assumption)).symm | exact (om_n2 (by assumption)).symm | exact (om_n3 (by assumption)).symm | exact (om_z2 (by assumption)).symm | exact (om_z3 (by assumption)).symm | exact (om_z4 (by assumption)).symm | exact om_n4 (by assumption) | exact om_z5 (by assumption) | exact (om_n4 (by assumption)).symm | exact (om_z5 (by assumption)).symm | exact om_n5 (by assumption) | exact om_z6 (by assumption) | exact (om_n5 (by assumption)).symm | exact (om_z6 (by assumption)).symm | exact om_e1 (by assumption) | exact om_e2 (by assumption) | exact om_e3 (by assumption))
  k_with "om" => with_reducible (first | ((show _ ≠ _); k_extra "ne") | ((show @LT.lt Nat _ (_ + _ + _) _); exact om_s2 (by assumption) (by decide)) | ((show @LT.lt Nat _ (_ + _) _); exact om_s1 (by assumption) (by decide)) | ((show @LT.lt Nat _ _ _); first | assumption | exact om_s0 (by assumption)) | ((show @LE.le Nat _ (_ + 1) _); exact om_succ (by assumption) (by assumption)) | ((show @LE.le Nat _ _ _); first | exact Nat.zero_le _ | assumption | exact om_le (by assumption) (by decide) | exact om_lt_le (by assumption) (by decide) | exact om_eq_le (by assumption) (by assumption) (by decide) | exact om_eq_le' (by assumption) (by assumption) (by decide)) | ((show _ ∧ _); first | exact om_rg (by assumption) (by decide) | exact om_r1 (by assumption) (by decide)))
  k_with "all" => exact fun p9 hp9 => Nat.ne_of_lt (by first | exact l1 p9 hp9 | exact Nat.lt_succ_of_lt (l1 p9 hp9))
  k_with "call ref" => (k_dflt (refine' due_c ?k1 ?k2 ?k3 ?k4 ?k5 ?k6 ?k7 ?k8 hra hs hl hm hrb hns hnl hn3 ?_; (case k1 => k_asm); (case k2 => k_asm); (case k3 => k_asm); (case k4 => k_asm); (case k5 => k_asm); (case k6 => exact rfl); (case k7 => ktr_room); (case k8 => ktr_units)); intro D9 c9 ys9 h9 tk9 F9 N9 hy9; (have ne9 : @Ne Nat D9 (L + 1) := ne_cell N9 List.mem_cons_self (List.mem_cons_of_mem _ hcm) hcd); (replace N9 := cellOut N9 hcm); (try dsimp only))
  k_with "storeName" => (k_dflt (refine' storeX_C ?F ?N ?c ?U ?d ?_ ?a ?b; (case a => rfl); (case b => rfl); (case F => k_asm); (case N => k_asm); (case c => rfl); (case U => exact .tail ne9 (.head (cellOff _ _))); (case d => exact hcd); k_whole; intro h8' o8' F8' N8' d8'; (try dsimp only at N8')))
  k_steps
  all_goals first | exact ret _ _ _ _ _ _ (by k_asm) (by k_asm) (by assumption) (by assumption)
end
set_option Elab.async false
set_option maxRecDepth 100000
set_option maxHeartbeats 5000000
section
variable {w : World} {o : OsState} {mean : ExcName → Option Value} {loose : List Str} {mg mb : Str → Option Value} {dp un : Nat} {gd : Option (List Code)} {cn : Str} {cs : Scope} {a : Addr} {ccd : Value} {cl : List (Str × Addr)} {outer : List Env} {A₀ : Around} {base h₀ : Heap} {L : Addr} {m : Str → Option Value} {news : List (Addr × Obj)} {s : Shared} {Q E : Value → Shared → Prop}
theorem st6 (B : Below A₀ base [] h₀) (F : Fr h₀ L s.heap m) (X : (KF w.params).In h₀) (N : News h₀ L s.heap news) (T : Top topProg loose mean mg mb h₀) (hd : dp + 8 < recursionLimit) (hu : un + 300 < cLine) {Q : Flow → Shared → Prop} {o₁ : Obj} {v₁ : Option Value} {ra rb : Addr} {vs ns : List Value} {na nb : Nat} {ms : List (Int × Int)} {nms : List Str} (hcm : (L + 1 + 1, o₁) ∈ news) (hcd : o₁.data = .cell v₁) (hra : (ra, listOf vs.toArray na) ∈ news) (hs : Stg news vs ms) (hl : ms.length ≤ 3) (hm : StgOk ms)
  (hrb : (rb, listOf ns.toArray nb) ∈ news) (hns : StrsAre ns nms) (hnl : nms.length ≤ 40) (hn3 : ∀ x ∈ nms, x.length ≤ 3) (m1 : m (Str.ofString "names") = some (.ref rb)) (m2 : m (Str.ofString "turned") = some (.ref ra))
  (ret : ∀ D c ys o' h' tk', Fr h₀ L h' m → News h₀ L h' ((D, listOf (List.toArray ys) c) :: (L + 1 + 1, o') :: news.filter (fun p => p.1 != L + 1 + 1)) → o'.data = .cell (some (.ref D)) → StrsAre ys (nms.filter (bhF (ms.map fun p => sgF p.1))) → Q .next { s with heap := h', toks := tk' }) :
  wpAny (model (OpenLaw.row PySem.Challenge.rw_in0163_01).toRowW.prog w) (ktrTop dp un gd (Str.ofString "law") lawSc.1 L a ccd (lawCl L) []) (exec lawS6.1 (envX (Str.ofString "law") lawSc.1 L a ccd (lawCl L))) Q E s := by
  dsimp only [lawS6, lawSc, lawCl]
  revert X; k_fill; intro X
  k_with_none
  k_with "execs cons" => ((k_dflt (refine wpAny_execs_cons ?_)); (try dsimp only))
  k_with "execs nil" => (k_dflt (refine wpAny_execs_nil ?_))
  k_with "exec If" => (k_dflt (refine wpAny_If ?_))
  k_with "exec Assign" => (k_dflt (refine wpAny_Assign_Name ?_))
  k_with "eval Name" => (k_dflt (refine' nameX_L ?F ?v ?_ ?a ?b ?d; (case F => k_asm); (case a => rfl); (case b => kernel_rfl!); (case d => kernel_rfl); (case v => first | rfl | assumption); k_whole))
  k_with "storeName" => (k_dflt (refine' storeX_L ?F ?N ?_ ?a ?b; (case F => k_asm); (case N => k_asm); (case a => rfl); (case b => rfl); k_whole; intro hS7 FS7 NS7; (try k_sweep)))
  k_with "spliced" => (k_dflt (first | refine args_cons ?_ | (refine args_nil ?_; try simp only [List.cons_append, List.nil_append])))
  k_with "ite" => (k_dflt (first | refine ite_pos (by decide +kernel) ?_ | refine ite_neg (by decide +kernel) ?_))
  k_with "And" => ((with_reducible show PySem.Str.length (_ ++ _) ≤ sizeLine ∧ _); refine ⟨Nat.le_of_ble_eq_true (by kernel_rfl!), ?_⟩)
  k_with "exec Assign cons Tuple" => (k_dflt (refine Assign_Tuple ?_))
  k_with "callWith ref" => (k_dflt (refine' callWith_K ?k1 ?k2 ?_; (case k1 => k_asm); (case k2 => k_is); k_whole))
  k_with "truthy bool" => (k_dflt (refine wpAny_truthy_bool ?_))
  k_with "isTrue Compare" => (k_dflt (refine wpAny_isTrue_Compare1 ?_))
  k_with "room" => (k_dflt (first | exact om_s2 (by assumption) (by rfl) | exact om_s1 (by assumption) (by rfl) | exact om_s0 (by assumption)))
  k_with "ne" => with_reducible (first | assumption | exact om_sy (by assumption) | exact Nat.ne_of_gt (by assumption) | exact Nat.ne_of_lt (by assumption) | exact om_n1 (by assumption) | exact om_n2 (by assumption) | exact om_n3 (by assumption) | exact om_z2 (by assumption) | exact om_z3 (by assumption) | exact om_z4 (by assumption) | exact (om_n1 (by assumption)).symm | exact (om_n2 (by assumption)).symm | exact (om_n3 (by assumption)).symm | exact (om_z2 (by assumption)).symm | exact (om_z3 (by assumption)).symm | exact (om_z4 (by assumption)).symm | exact om_n4 (by assumption) | exact om_z5 (by assumption) | exact (om_n4 (by assumption)).symm | exact (om_z5 (by assumption)).symm | exact om_n5 (by assumption) | exact om_z6 (by assumption) | exact (om_n5 (by assumption)).symm | exact (om_z6 (by assumption)).symm | exact om_e1 (by assumption) | exact om_e2 (by assumption) | exact om_e3 (by assumption))
  k_with "om" => with_reducible (first | ((show _ ≠ _); k_extra "ne") | ((show @LT.lt Nat _ (_ + _ + _) _); exact om_s2 (by assumption) (by decide)) | ((show @LT.lt Nat _ (_ + _) _); exact om_s1 (by assumption) (by decide)) | ((show @LT.lt Nat _ _ _); first | assumption | exact om_s0 (by assumption)) | ((show @LE.le Nat _ (_ + 1) _); exact om_succ (by assumption) (by assumption)) | ((show @LE.le Nat _ _ _); first | exact Nat.zero_le _ | assumption | exact om_le (by assumption) (by decide) | exact om_lt_le (by assumption) (by decide) | exact om_eq_le (by assumption) (by assumption) (by decide) | exact om_eq_le' (by assumption) (by assumption) (by decide)) | ((show _ ∧ _); first | exact om_rg (by assumption) (by decide) | exact om_r1 (by assumption) (by decide)))
  k_with "all" => exact fun p9 hp9 => Nat.ne_of_lt (by first | exact l1 p9 hp9 | exact Nat.lt_succ_of_lt (l1 p9 hp9))
  k_with "call ref" => (k_dflt (refine' due_c ?k1 ?k2 ?k3 ?k4 ?k5 ?k6 ?k7 ?k8 hra hs hl hm hrb hns hnl hn3 ?_; (case k1 => k_asm); (case k2 => k_asm); (case k3 => k_asm); (case k4 => k_asm); (case k5 => k_asm); (case k6 => exact rfl); (case k7 => ktr_room); (case k8 => ktr_units)); intro D9 c9 ys9 h9 tk9 F9 N9 hy9; (have ne9 : @Ne Nat D9 (L + 1 + 1) := ne_cell N9 List.mem_cons_self (List.mem_cons_of_mem _ hcm) hcd); (replace N9 := cellOut N9 hcm); (try dsimp only))
  k_with "storeName" => (k_dflt (refine' storeX_C ?F ?N ?c ?U ?d ?_ ?a ?b; (case a => rfl); (case b => rfl); (case F => k_asm); (case N => k_asm); (case c => rfl); (case U => exact .tail ne9 (.head (cellOff _ _))); (case d => exact hcd); k_whole; intro h8' o8' F8' N8' d8'; (try dsimp only at N8')))
  k_steps
  all_goals first | exact ret _ _ _ _ _ _ (by k_asm) (by k_asm) (by assumption) (by assumption)
end
set_option Elab.async false
set_option maxRecDepth 100000
set_option maxHeartbeats 5000000
section
variable {w : World} {o : OsState} {mean : ExcName → Option Value} {loose : List Str} {mg mb : Str → Option Value} {dp un : Nat} {gd : Option (List Code)} {cn : Str} {cs : Scope} {a : Addr} {ccd : Value} {cl : List (Str × Addr)} {outer : List Env} {A₀ : Around} {base h₀ : Heap} {L : Addr} {m : Str → Option Value} {news : List (Addr × Obj)} {s : Shared} {Q E : Value → Shared → Prop}
theorem st7 (B : Below A₀ base [] h₀) (F : Fr h₀ L s.heap m) (X : (KF w.params).In h₀) (N : News h₀ L s.heap news) (T : Top topProg loose mean mg mb h₀) (hd : dp + 4 < recursionLimit) (hu : un + 200 < cLine) {Q : Flow → Shared → Prop} {a1 a2 b1 b2 : Addr} {o₁ o₂ : Obj} {v1 v2 w1 w2 : List Value} {n1 n2 k1 k2 : Nat} {S1 S2 : List Str} (hc1 : (L + 1, o₁) ∈ news) (hd1 : o₁.data = .cell (some (.ref b1))) (hc2 : (L + 1 + 1, o₂) ∈ news) (hd2 : o₂.data = .cell (some (.ref b2)))
  (ha1 : (a1, listOf v1.toArray n1) ∈ news) (hb1 : (b1, listOf w1.toArray k1) ∈ news) (ha2 : (a2, listOf v2.toArray n2) ∈ news) (hb2 : (b2, listOf w2.toArray k2) ∈ news) (hv1 : StrsAre v1 S1) (hw1 : StrsAre w1 S1) (hv2 : StrsAre v2 S2) (hw2 : StrsAre w2 S2) (ok1 : S1.all PyData.strOk = true) (ok2 : S2.all PyData.strOk = true)
  (m1 : m (Str.ofString "one") = some (.ref a1)) (m2 : m (Str.ofString "two") = some (.ref a2))
  (ret : ∀ h' tk', Fr h₀ L h' m → News h₀ L h' news → Q .next { s with heap := h', toks := tk' }) :
  wpAny (model (OpenLaw.row PySem.Challenge.rw_in0163_01).toRowW.prog w) (ktrTop dp un gd (Str.ofString "law") lawSc.1 L a ccd (lawCl L) []) (exec lawS7.1 (envX (Str.ofString "law") lawSc.1 L a ccd (lawCl L))) Q E s := by
  dsimp only [lawS7, lawSc, lawCl]
  revert X; k_fill; intro X
  k_with_none
  k_with "execs cons" => ((k_dflt (refine wpAny_execs_cons ?_)); (try dsimp only))
  k_with "execs nil" => (k_dflt (refine wpAny_execs_nil ?_))
  k_with "exec If" => (k_dflt (refine wpAny_If ?_))
  k_with "exec Assign" => (k_dflt (refine wpAny_Assign_Name ?_))
  k_with "eval Name" => (k_dflt (refine' nameX_L ?F ?v ?_ ?a ?b ?d; (case F => k_asm); (case a => rfl); (case b => kernel_rfl!); (case d => kernel_rfl); (case v => first | rfl | assumption); k_whole))
  k_with "storeName" => (k_dflt (refine' storeX_L ?F ?N ?_ ?a ?b; (case F => k_asm); (case N => k_asm); (case a => rfl); (case b => rfl); k_whole; intro hS7 FS7 NS7; (try k_sweep)))
  k_with "spliced" => (k_dflt (first | refine args_cons ?_ | (refine args_nil ?_; try simp only [List.cons_append, List.nil_append])))
  k_with "ite" => (k_dflt (first | refine ite_pos (by decide +kernel) ?_ | refine ite_neg (by decide +kernel) ?_))
  k_with "And" => ((with_reducible show PySem.Str.length (_ ++ _) ≤ sizeLine ∧ _); refine ⟨Nat.le_of_ble_eq_true (by kernel_rfl!), ?_⟩)
  k_with "exec Assign cons Tuple" => (k_dflt (refine Assign_Tuple ?_))
  k_with "callWith ref" => (k_dflt (refine' callWith_K ?k1 ?k2 ?_; (case k1 => k_asm); (case k2 => k_is); k_whole))
  k_with "truthy bool" => (k_dflt (refine wpAny_truthy_bool ?_))
  k_with "isTrue Compare" => (k_dflt (refine wpAny_isTrue_Compare1 ?_))
  k_with "room" => (k_dflt (first | exact om_s2 (by assumption) (by rfl) | exact om_s1 (by assumption) (by rfl) | exact om_s0 (by assumption)))
  k_with "ne" => with_reducible (first | assumption | exact om_sy (by assumption) | exact Nat.ne_of_gt (by assumption) | exact Nat.ne_of_lt (by assumption) | exact om_n1 (by assumption) | exact om_n2 (by assumption) | exact om_n3 (by assumption) | exact om_z2 (by assumption) | exact om_z3 (by assumption) | exact om_z4 (by assumption) | exact (om_n1 (by assumption)).symm | exact (om_n2 (by assumption)).symm | exact (om_n3 (by assumption)).symm | exact (om_z2 (by assumption)).symm | exact (om_z3 (by assumption)).symm | exact (om_z4 (by assumption)).symm | exact om_n4 (by assumption) | exact om_z5 (by assumption) | exact (om_n4 (by assumption)).symm | exact (om_z5 (by assumption)).symm | exact om_n5 (by assumption) | exact om_z6 (by assumption) | exact (om_n5 (by assumption)).symm | exact (om_z6 (by assumption)).symm | exact om_e1 (by assumption) | exact om_e2 (by assumption) | exact om_e3 (by assumption))
  k_with "om" => with_reducible (first | ((show _ ≠ _); k_extra "ne") | ((show @LT.lt Nat _ (_ + _ + _) _); exact om_s2 (by assumption) (by decide)) | ((show @LT.lt Nat _ (_ + _) _); exact om_s1 (by assumption) (by decide)) | ((show @LT.lt Nat _ _ _); first | assumption | exact om_s0 (by assumption)) | ((show @LE.le Nat _ (_ + 1) _); exact om_succ (by assumption) (by assumption)) | ((show @LE.le Nat _ _ _); first | exact Nat.zero_le _ | assumption | exact om_le (by assumption) (by decide) | exact om_lt_le (by assumption) (by decide) | exact om_eq_le (by assumption) (by assumption) (by decide) | exact om_eq_le' (by assumption) (by assumption) (by decide)) | ((show _ ∧ _); first | exact om_rg (by assumption) (by decide) | exact om_r1 (by assumption) (by decide)))
  k_with "all" => exact fun p9 hp9 => Nat.ne_of_lt (by first | exact l1 p9 hp9 | exact Nat.lt_succ_of_lt (l1 p9 hp9))
  k_with "eval Name" => (k_dflt (first | (refine' nameX_C ?N ?c hc1 hd1 ?_ ?a ?b; (case a => rfl); (case b => rfl); (case N => k_asm); (case c => rfl); k_whole) | (refine' nameX_C ?N ?c hc2 hd2 ?_ ?a ?b; (case a => rfl); (case b => rfl); (case N => k_asm); (case c => rfl); k_whole)))
  k_with "eval Name" => (k_dflt (refine' nameX_L ?F ?v ?_ ?a ?b ?d; (case F => k_asm); (case a => rfl); (case b => kernel_rfl!); (case d => kernel_rfl); (case v => first | rfl | assumption); k_whole))
  k_with "compareOp NotEq ref ref" => (k_dflt (first | (refine' ne_strs_same (isl (by k_asm) ha1) (isl (by k_asm) hb1) hv1 hw1 ok1 ?u ?_; (case u => ktr_units)) | (refine' ne_strs_same (isl (by k_asm) ha2) (isl (by k_asm) hb2) hv2 hw2 ok2 ?u ?_; (case u => ktr_units))))
  k_steps
  all_goals first | exact ret _ _ (by k_asm) (by k_asm)
end
set_option Elab.async false
set_option maxRecDepth 100000
set_option maxHeartbeats 5000000
section
variable {w : World} {o : OsState} {mean : ExcName → Option Value} {loose : List Str} {mg mb : Str → Option Value} {dp un : Nat} {gd : Option (List Code)} {cn : Str} {cs : Scope} {a : Addr} {ccd : Value} {cl : List (Str × Addr)} {outer : List Env} {A₀ : Around} {base h₀ : Heap} {L : Addr} {m : Str → Option Value} {news : List (Addr × Obj)} {s : Shared} {Q E : Value → Shared → Prop}
theorem sld_c (B : Below A₀ base [] h₀) (F : Fr h₀ L s.heap m) (X : (KF w.params).In h₀) (N : News h₀ L s.heap news) (T : Top topProg loose mean mg mb h₀) (hk : cs.kind = .function) (hd : dp + 2 < recursionLimit) (hu : un + 40 < cLine) (XB : (KF w.params).In base) (TB : Top topProg loose mean mg mb base) {ra rb : Addr} {vs ws : List Value} {na nb : Nat} {xs ys : List Str} (hra : (ra, listOf vs.toArray na) ∈ news) (hs : StrsAre vs xs) (hrb : (rb, listOf ws.toArray nb) ∈ news) (ht : StrsAre ws ys) (hl : xs.length ≤ 40) (hm : ys.length ≤ 40) (hx : xs.Pairwise ltS) (hy : ys.Pairwise ltS)
  (ret : ∀ T M U n q1 q2 ms us h' tk', Fr h₀ L h' m → News h₀ L h' ((T, { cls := .type "tuple", data := .seq #[.ref M, .ref U] n }) :: (M, listOf (List.toArray ms) q1) :: (U, listOf (List.toArray us) q2) :: news) →
    StrsAre ms (xs.filter fun x => decide (x ∉ ys)) → StrsAre us (ys.filter fun y => decide (y ∉ xs)) → Q (.ref T) { s with heap := h', toks := tk' }) :
  wpAny (model (OpenLaw.row PySem.Challenge.rw_in0163_01).toRowW.prog w) (ktrTop dp un gd cn cs L a ccd cl []) (call (.ref 132) [.ref ra, .ref rb]) Q E s := by
  revert X; k_fill; intro X
  k_with_none
  k_with "execs cons" => ((k_dflt (refine wpAny_execs_cons (post_gen fun T7 hT7 => ?_))); (try dsimp only))
  k_with "execs nil" => (k_dflt (refine wpAny_execs_nil ?_))
  k_with "exec If" => (k_dflt (refine wpAny_If ?_))
  k_with "exec Assign" => (k_dflt (refine wpAny_Assign_Name ?_))
  k_with "eval Name" => (k_dflt (refine' nameX_L ?F ?v ?_ ?a ?b ?d; (case F => k_asm); (case a => rfl); (case b => kernel_rfl!); (case d => kernel_rfl); (case v => first | rfl | assumption); k_whole))
  k_with "storeName" => (k_dflt (refine' storeX_L ?F ?N ?_ ?a ?b; (case F => k_asm); (case N => k_asm); (case a => rfl); (case b => rfl); k_whole; intro hS7 FS7 NS7; (try k_sweep)))
  k_with "spliced" => (k_dflt (first | refine args_cons ?_ | (refine args_nil ?_; try simp only [List.cons_append, List.nil_append])))
  k_with "ite" => (k_dflt (first | refine ite_pos (by decide +kernel) ?_ | refine ite_neg (by decide +kernel) ?_))
  k_with "And" => ((with_reducible show PySem.Str.length (_ ++ _) ≤ sizeLine ∧ _); refine ⟨Nat.le_of_ble_eq_true (by kernel_rfl!), ?_⟩)
  k_with "exec Assign cons Tuple" => (k_dflt (refine Assign_Tuple ?_))
  k_with "callWith ref" => (k_dflt (refine' callWith_K ?k1 ?k2 ?_; (case k1 => k_asm); (case k2 => k_is); k_whole))
  k_with "truthy bool" => (k_dflt (refine wpAny_truthy_bool ?_))
  k_with "isTrue Compare" => (k_dflt (refine wpAny_isTrue_Compare1 ?_))
  k_with "room" => (k_dflt (first | exact om_s2 (by assumption) (by rfl) | exact om_s1 (by assumption) (by rfl) | exact om_s0 (by assumption)))
  k_with "ne" => with_reducible (first | assumption | exact om_sy (by assumption) | exact Nat.ne_of_gt (by assumption) | exact Nat.ne_of_lt (by assumption) | exact om_n1 (by assumption) | exact om_n2 (by assumption) | exact om_n3 (by assumption) | exact om_z2 (by assumption) | exact om_z3 (by assumption) | exact om_z4 (by assumption) | exact (om_n1 (by assumption)).symm | exact (om_n2 (by assumption)).symm | exact (om_n3 (by assumption)).symm | exact (om_z2 (by assumption)).symm | exact (om_z3 (by assumption)).symm | exact (om_z4 (by assumption)).symm | exact om_n4 (by assumption) | exact om_z5 (by assumption) | exact (om_n4 (by assumption)).symm | exact (om_z5 (by assumption)).symm | exact om_n5 (by assumption) | exact om_z6 (by assumption) | exact (om_n5 (by assumption)).symm | exact (om_z6 (by assumption)).symm | exact om_e1 (by assumption) | exact om_e2 (by assumption) | exact om_e3 (by assumption))
  k_with "om" => with_reducible (first | ((show _ ≠ _); k_extra "ne") | ((show @LT.lt Nat _ (_ + _ + _) _); exact om_s2 (by assumption) (by decide)) | ((show @LT.lt Nat _ (_ + _) _); exact om_s1 (by assumption) (by decide)) | ((show @LT.lt Nat _ _ _); first | assumption | exact om_s0 (by assumption)) | ((show @LE.le Nat _ (_ + 1) _); exact om_succ (by assumption) (by assumption)) | ((show @LE.le Nat _ _ _); first | exact Nat.zero_le _ | assumption | exact om_le (by assumption) (by decide) | exact om_lt_le (by assumption) (by decide) | exact om_eq_le (by assumption) (by assumption) (by decide) | exact om_eq_le' (by assumption) (by assumption) (by decide)) | ((show _ ∧ _); first | exact om_rg (by assumption) (by decide) | exact om_r1 (by assumption) (by decide)))
  k_with "leave" => (first | ((with_reducible refine thru_ hT7 ?_); (try clear hT7); (try clear T7)) | (with_reducible refine thru_ (by assumption) ?_))
  k_with "all" => exact fun p9 hp9 => Nat.ne_of_lt (by first | exact l1 p9 hp9 | exact Nat.lt_succ_of_lt (l1 p9 hp9))
  have hvl := hs.length
  have hwl := ht.length
  have hvl4 : vs.length ≤ 40 := hvl ▸ hl
  have hwl4 : ws.length ≤ 40 := hwl ▸ hm
  k_with "exec While Constant cons nil" => (k_here; (rename Fr _ _ _ _ => lF'); (rename News _ _ _ _ => lN'); k_dflt (refine' ksw_while (σ := (Int × Tok) × (Int × Tok) × (Nat × List Value × Addr) × (Nat × List Value × Addr)) (fun c9 => [(c9.2.2.2.2.2, listOf c9.2.2.2.2.1.toArray c9.2.2.2.1), (c9.2.2.1.2.2, listOf c9.2.2.1.2.1.toArray c9.2.2.1.1), (ra, listOf vs.toArray na), (rb, listOf ws.toArray nb)]) (fun c9 => [(Str.ofString "i", .int c9.1.1 c9.1.2), (Str.ofString "j", .int c9.2.1.1 c9.2.1.2), (Str.ofString "missing", .ref c9.2.2.1.2.2), (Str.ofString "unexpected", .ref c9.2.2.2.2.2)]) (fun _ => True) [Str.ofString "e", Str.ofString "a"] (fun c9 => ∃ (i9 j9 : Nat) (mi9 un9 : List Str), c9.1.1 = (i9 : Int) ∧ c9.2.1.1 = (j9 : Int) ∧ SldP xs ys i9 j9 mi9 un9 ∧ StrsAre c9.2.2.1.2.1 mi9 ∧ StrsAre c9.2.2.2.2.1 un9 ∧ (@Ne Nat c9.2.2.1.2.2 c9.2.2.2.2.2) ∧ (@Ne Nat c9.2.2.1.2.2 ra) ∧ (@Ne Nat c9.2.2.1.2.2 rb) ∧ (@Ne Nat c9.2.2.2.2.2 ra) ∧ (@Ne Nat c9.2.2.2.2.2 rb)) (fun c9 => 200 - c9.1.1.toNat - c9.2.1.1.toNat) ⟨⟨_, _⟩, ⟨_, _⟩, ⟨_, [], _⟩, ⟨_, [], _⟩⟩ lF' lN' True.intro ?hk ?hp ?_ ?hE; (case hk => kst_all); (case hp => exact ⟨0, 0, [], [], rfl, rfl, SldP.start xs ys, .nil, .nil, by (try dsimp only); omega, by (try dsimp only); omega, by (try dsimp only); omega, by (try dsimp only); omega, by (try dsimp only); omega⟩); (case hE => passes_own)); (clear lF' lN'); intro c9 u9 h9 tk9 _ hp9 F9 N9; obtain ⟨⟨i8, ti9⟩, ⟨j8, tj9⟩, ⟨q9, ms9, M9⟩, ⟨r9, us9, U9⟩⟩ := c9; obtain ⟨i9, j9, mi9, un9, ei9, ej9, hS9, hms9, hus9, hn91, hn92, hn93, hn94, hn95⟩ := hp9; (dsimp only at *); (simp only [kstB] at F9); subst ei9; subst ej9; have hml9 := hms9.length; have hul9 := hus9.length; have hSl9 := hS9.len; have hSi9 := hS9.hi; have hSj9 := hS9.hj; have hm49 := sl_l hml9 hSl9 hSi9 hl; have hu49 := sl_r hul9 hSl9 hSj9 hm; (rcases sld_start hS9 with hI9 | ⟨x0, hx0, hi0, hJ9⟩ | ⟨x0, y0, hx0, hy0, hi0, hj0, hM9⟩))
  k_with "exec If" => (clear hM9; (rcases sld_if hS9 hx hy hx0 hy0 with ⟨hlt9, hS8, hK9⟩ | ⟨hlt9, hgt9, hS8, hKb9⟩ | ⟨rfl, hlt9, hS8, hK9, hKb9⟩))
  k_with "exec While" => (k_here; (with_reducible show wpAny _ _ (exec (Stmt.While (Expr.Compare (Expr.Subscript _ _ _) _ _ _) _ _ _) _) _ _ _); (first | (rcases hK9 with hI8 | ⟨x1, hx1, hn1⟩) | (rcases hKb9 with hJ8 | ⟨y1, hy1, hn2⟩)); all_goals (k_dflt (refine whl_start 100 ?_)))
  k_with "om" => with_reducible (first | ((show @LE.le Nat _ _ _); (first | exact sl_v1 (by assumption) (by assumption) | exact sl_v2 (by assumption) (by assumption) | exact sl_v3 (by assumption) (by assumption) | exact sl_v4 (by assumption) (by assumption) | exact sl_b (by assumption) (by assumption) | exact sl_c (by assumption) (by assumption))) | ((show @LT.lt Nat _ _ _); (first | exact sl_m1 (by assumption) hl (by assumption) hm | exact sl_m2 (by assumption) hl (by assumption) hm | exact sl_m3 (by assumption) hl (by assumption) hm)))
  k_with "subscriptTail Name Name ref int" => ((with_reducible show wpAny _ _ (subscriptTail _ _ (Value.ref ra) (Value.int _ _)) _ _ _); k_dflt (first | refine item_sx (n := i9) (by k_asm) (by repeat (first | assumption | exact List.mem_cons_self | exact List.mem_append_left _ (by assumption) | exact List.mem_append_right _ (by assumption) | refine List.mem_cons_of_mem _ ?_)) hs (by omega) hx0 (by omega) ?_ | refine item_sx (n := i9 + 1) (by k_asm) (by repeat (first | assumption | exact List.mem_cons_self | exact List.mem_append_left _ (by assumption) | exact List.mem_append_right _ (by assumption) | refine List.mem_cons_of_mem _ ?_)) hs (by omega) hx1 (by omega) ?_ | (refine item_outK rfl (isl (by k_asm) (by repeat (first | assumption | exact List.mem_cons_self | exact List.mem_append_left _ (by assumption) | exact List.mem_append_right _ (by assumption) | refine List.mem_cons_of_mem _ ?_))) (.inr (by (rw [List.size_toArray]; omega))) (by omega) (by omega) ?_; intro h8' tk8' e8' hx8')))
  k_with "subscriptTail Name Name ref int" => ((with_reducible show wpAny _ _ (subscriptTail _ _ (Value.ref rb) (Value.int _ _)) _ _ _); k_dflt (first | refine item_sx (n := j9) (by k_asm) (by repeat (first | assumption | exact List.mem_cons_self | exact List.mem_append_left _ (by assumption) | exact List.mem_append_right _ (by assumption) | refine List.mem_cons_of_mem _ ?_)) ht (by omega) hy0 (by omega) ?_ | refine item_sx (n := j9 + 1) (by k_asm) (by repeat (first | assumption | exact List.mem_cons_self | exact List.mem_append_left _ (by assumption) | exact List.mem_append_right _ (by assumption) | refine List.mem_cons_of_mem _ ?_)) ht (by omega) hy1 (by omega) ?_ | (refine item_outK rfl (isl (by k_asm) (by repeat (first | assumption | exact List.mem_cons_self | exact List.mem_append_left _ (by assumption) | exact List.mem_append_right _ (by assumption) | refine List.mem_cons_of_mem _ ?_))) (.inr (by (rw [List.size_toArray]; omega))) (by omega) (by omega) ?_; intro h8' tk8' e8' hx8') | (refine' item_out_marked (ox := oe5) (vx := vs5) rfl ?hx hX2 hX4 ?hl ?ho ?hh ?_; (case hx => exact News.get (by k_asm) (by repeat (first | assumption | exact List.mem_cons_self | exact List.mem_append_left _ (by assumption) | exact List.mem_append_right _ (by assumption) | refine List.mem_cons_of_mem _ ?_))); (case hl => exact isl (by k_asm) (by repeat (first | assumption | exact List.mem_cons_self | exact List.mem_append_left _ (by assumption) | exact List.mem_append_right _ (by assumption) | refine List.mem_cons_of_mem _ ?_))); (case ho => (rw [List.size_toArray]; omega)); (case hh => omega); intro h8' tk8' e8' hx8')))
  k_with "call builtin:list.append" => (k_dflt (refine' append_K ?k1 ?k2 ?k3 ?_ ?z; (case k1 => k_asm); (case k2 => k_asm); (case k3 => k_upd); (case z => (rw [List.size_toArray, sizeLine_eq]; omega)); k_whole); intro h7' F7' N7'; (try simp only [List.push_toArray] at N7'))
  k_with "subscriptTail Name Slice ref ref" => ((with_reducible show wpAny _ _ (subscriptTail _ _ (Value.ref ra) _) _ _ _); k_dflt (first | refine from_sx (n := i9) (by k_asm) (by k_asm) (by repeat (first | assumption | exact List.mem_cons_self | exact List.mem_append_left _ (by assumption) | exact List.mem_append_right _ (by assumption) | refine List.mem_cons_of_mem _ ?_)) (by omega) (by omega) (by omega) ?_ | refine from_sx (n := i9 + 1) (by k_asm) (by k_asm) (by repeat (first | assumption | exact List.mem_cons_self | exact List.mem_append_left _ (by assumption) | exact List.mem_append_right _ (by assumption) | refine List.mem_cons_of_mem _ ?_)) (by omega) (by omega) (by omega) ?_); intro D6' h6' F6' N6' l6'; (try k_lt l6'))
  k_with "subscriptTail Name Slice ref ref" => ((with_reducible show wpAny _ _ (subscriptTail _ _ (Value.ref rb) _) _ _ _); k_dflt (first | refine from_sx (n := j9) (by k_asm) (by k_asm) (by repeat (first | assumption | exact List.mem_cons_self | exact List.mem_append_left _ (by assumption) | exact List.mem_append_right _ (by assumption) | refine List.mem_cons_of_mem _ ?_)) (by omega) (by omega) (by omega) ?_ | refine from_sx (n := j9 + 1) (by k_asm) (by k_asm) (by repeat (first | assumption | exact List.mem_cons_self | exact List.mem_append_left _ (by assumption) | exact List.mem_append_right _ (by assumption) | refine List.mem_cons_of_mem _ ?_)) (by omega) (by omega) (by omega) ?_); intro D6' h6' F6' N6' l6'; (try k_lt l6'))
  k_with "call builtin:list.extend" => (k_dflt (refine' ext_ls ?p1 ?p2 ?p3 ?p4 ?p5 ?_; (case p1 => k_asm); (case p2 => k_asm); (case p3 => k_mem); (case p4 => (intro o9'; k_upd)); (case p5 => ((try simp only [List.length_drop, List.length_append, List.length_cons, List.length_nil]); omega))); intro h7' n7' F7' N7'; (try dsimp only at N7'))
  k_with "noteFrame ref" => (k_dflt (refine' caughtA (NewX.of hx8') ?B ?F ?N XB TB ?ex ?_; (case B => k_asm); (case F => k_asm); (case N => k_asm); (case ex => k_is)); intro h5' g5' T5' F5' N5' B5' X5' P5')
  k_with "noteFrame ref" => ((with_reducible show wpAny _ _ _ (fun _ s₂ => FinallyRaised _ _ _ _ _ _ _ _ s₂) _ _); k_dflt (refine' finA (NewX.of hx8') ?B ?F ?N XB TB ?_; (case B => k_asm); (case F => k_asm); (case N => k_asm)); intro h5' g5' T5' F5' H5' B5' X5' P5'; obtain ⟨oe5, oT5, A5, vs5, ts5, N5', hX1, hX2, hX3, hX4, hX5, hX6, hX7, hX8⟩ := H5')
  k_with "passOn" => (k_dflt (refine' passX ?F ⟨oe5, oT5, A5, vs5, ts5, ?N, hX1, hX2, hX3, hX4, hX5, hX6, hX7, hX8⟩ ?_; (case F => k_asm); (case N => k_asm)); intro h4' F4' H4')
  k_with "noteFrame ref" => (k_dflt (refine' catchX ?F H4' ?X ?P ?ex ?_; (case F => k_asm); (case X => k_asm); (case P => k_asm); (case ex => k_is)); intro h3' F3' N3')
  k_with "notedBy" => (k_dflt (refine' backX0 (NewX.of hx8') ?B ?F ?N ?_; (case B => k_asm); (case F => k_asm); (case N => k_asm)); intro h4' g5' T5' F4' H4' B5'; (have X5' := Frag.In.keeps XB B5'.stays); (have P5' := Top.keeps TB B5'.stays))
  k_with "notedBy" => (k_dflt (refine' backX hx8' ?B ?F ?N ?_; (case B => k_asm); (case F => k_asm); (case N => exact newsDrop2 (by k_asm))); intro h4' g6' T6' F4' H4' B5'; (have X5' := Frag.In.keeps XB B5'.stays); (have P5' := Top.keeps TB B5'.stays))
  k_with "WhlIf" => first | rw [hn1] | rw [hn2]
  refine wpAny_call ?_
  (k_dflt (refine' code_defSR ?k1 ?k2 ?k3 ?k4 ?kO ?k5 ?kA ?kF ?kK ?k6 ?k7 ?k8 ?k9 ?kB ?_ ?c2 ?c3 ?c4 ?c5; (case kO => exact (newsCons N hra (newsCons N hrb newsNil))); (case kA => exact rfl); (case kF => exact rfl); (case kK => assumption); (case k1 => k_asm); (case k2 => k_asm); (case k3 => k_asm); (case k4 => exact N); (case k5 => k_asm); (case k6 => k_is); (case k7 => k_is); (case k8 => ktr_room); (case k9 => exact BindsTo.of_eq rfl); (case c5 => decide); (case kB => exact locs rfl); (case c2 => exact rfl); (case c3 => exact rfl); (case c4 => exact rfl); k_whole; intro g' L' h' K' FG' F' N' B' X' T' l1 hfr; clear N; (try k_lt l1); (try dsimp only); (try k_lift B'); (try k_fold)))
  k_steps
  all_goals first | ((rename Fr _ _ _ _ => eF'); (rename News _ _ _ _ => eN'); (refine' ksw_end ⟨⟨_, _⟩, ⟨_, _⟩, ⟨_, _, M9⟩, ⟨_, _, U9⟩⟩ eF' eN' ?hn True.intro ?hk ?hr ?hp ?hm); (case hk => with_unfolding_all kst_all); (case hn => ((try dsimp only); with_unfolding_all exact List.forall_mem_cons.mpr ⟨(by repeat (first | assumption | exact List.mem_cons_self | exact List.mem_append_left _ (by assumption) | exact List.mem_append_right _ (by assumption) | refine List.mem_cons_of_mem _ ?_)), List.forall_mem_cons.mpr ⟨(by repeat (first | assumption | exact List.mem_cons_self | exact List.mem_append_left _ (by assumption) | exact List.mem_append_right _ (by assumption) | refine List.mem_cons_of_mem _ ?_)), List.forall_mem_cons.mpr ⟨(by repeat (first | assumption | exact List.mem_cons_self | exact List.mem_append_left _ (by assumption) | exact List.mem_append_right _ (by assumption) | refine List.mem_cons_of_mem _ ?_)), List.forall_mem_cons.mpr ⟨(by repeat (first | assumption | exact List.mem_cons_self | exact List.mem_append_left _ (by assumption) | exact List.mem_append_right _ (by assumption) | refine List.mem_cons_of_mem _ ?_)), List.forall_mem_nil _⟩⟩⟩⟩)); (case hr => with_unfolding_all ksw_same); (case hp => first | exact ⟨i9 + 1, j9, _, _, rfl, rfl, hS8, hms9.append' (.cons _ _ .nil), hus9, hn91, hn92, hn93, hn94, hn95⟩ | exact ⟨i9, j9 + 1, _, _, rfl, rfl, hS8, hms9, hus9.append' (.cons _ _ .nil), hn91, hn92, hn93, hn94, hn95⟩ | exact ⟨i9 + 1, j9 + 1, _, _, rfl, rfl, hS8, hms9, hus9, hn91, hn92, hn93, hn94, hn95⟩); (case hm => (dsimp only; omega))) | ((first | (have TT5 : KtsTurn [L] g' g6' := hfr ▸ (KtsTurn.trans T5' T6')) | (have TT5 : KtsTurn [L] g' g5' := hfr ▸ T5')); (refine Stop.go (LeaveX.mk TT5 (by assumption) fun FF NN => ?_)); (rename News _ _ _ _ => eN'); (have N1 := NN _ eN'); (refine' ret _ M9 U9 _ _ _ _ _ _ _ FF ?e1 ?e2 ?e3); (case e1 => exact newsCons N1 (by repeat (first | assumption | exact List.mem_cons_self | exact List.mem_append_left _ (by assumption) | exact List.mem_append_right _ (by assumption) | refine List.mem_cons_of_mem _ ?_)) (newsCons N1 (by repeat (first | assumption | exact List.mem_cons_self | exact List.mem_append_left _ (by assumption) | exact List.mem_append_right _ (by assumption) | refine List.mem_cons_of_mem _ ?_)) (newsCons N1 (by repeat (first | assumption | exact List.mem_cons_self | exact List.mem_append_left _ (by assumption) | exact List.mem_append_right _ (by assumption) | refine List.mem_cons_of_mem _ ?_)) (Kept.backX K' TT5 (by assumption) N1 (by intro p9 hp9; (repeat (first | (rcases List.mem_cons.mp hp9 with rfl | hp9; (exact (by repeat (first | assumption | exact List.mem_cons_self | exact List.mem_append_left _ (by assumption) | exact List.mem_append_right _ (by assumption) | refine List.mem_cons_of_mem _ ?_)))) | exact absurd hp9 (List.not_mem_nil)))))))); (case e2 => first | exact (sld_fin hs ht hS9 hms9 hus9 (.inl hI9)).1 | exact (sld_fin hs ht hS9 hms9 hus9 (.inr hJ9)).1 | exact (sld_fin hs ht hS8 (hms9.append' (.cons _ _ .nil)) hus9 (.inl hI8)).1 | exact (sld_fin hs ht hS8 hms9 (hus9.append' (.cons _ 0 .nil)) (.inr hJ8)).1 | exact (sld_fin hs ht hS8 hms9 hus9 (.inl hI8)).1 | exact (sld_fin hs ht hS8 hms9 hus9 (.inr hJ8)).1); (case e3 => first | exact (sld_fin hs ht hS9 hms9 hus9 (.inl hI9)).2 | exact (sld_fin hs ht hS9 hms9 hus9 (.inr hJ9)).2 | exact (sld_fin hs ht hS8 (hms9.append' (.cons _ 0 .nil)) hus9 (.inl hI8)).2 | exact (sld_fin hs ht hS8 hms9 (hus9.append' (.cons _ _ .nil)) (.inr hJ8)).2 | exact (sld_fin hs ht hS8 hms9 hus9 (.inl hI8)).2 | exact (sld_fin hs ht hS8 hms9 hus9 (.inr hJ8)).2))
end
set_option Elab.async false
set_option maxRecDepth 100000
set_option maxHeartbeats 5000000
section
variable {w : World} {o : OsState} {mean : ExcName → Option Value} {loose : List Str} {mg mb : Str → Option Value} {dp un : Nat} {gd : Option (List Code)} {cn : Str} {cs : Scope} {a : Addr} {ccd : Value} {cl : List (Str × Addr)} {outer : List Env} {A₀ : Around} {base h₀ : Heap} {L : Addr} {m : Str → Option Value} {news : List (Addr × Obj)} {s : Shared} {Q E : Value → Shared → Prop}
theorem st8 (B : Below A₀ base [] h₀) (F : Fr h₀ L s.heap m) (X : (KF w.params).In h₀) (N : News h₀ L s.heap news) (T : Top topProg loose mean mg mb h₀) (hd : dp + 4 < recursionLimit) (hu : un + 100 < cLine) {Q : Flow → Shared → Prop} (XB : (KF w.params).In base) (TB : Top topProg loose mean mg mb base) {a1 a2 : Addr} {v1 v2 : List Value} {n1 n2 : Nat} {S1 S2 : List Str}
  (ha1 : (a1, listOf v1.toArray n1) ∈ news) (ha2 : (a2, listOf v2.toArray n2) ∈ news) (hv1 : StrsAre v1 S1) (hv2 : StrsAre v2 S2) (l1 : S1.length ≤ 40) (l2 : S2.length ≤ 40) (r1 : S1.Pairwise ltS) (r2 : S2.Pairwise ltS)
  (m1 : m (Str.ofString "one") = some (.ref a1)) (m2 : m (Str.ofString "two") = some (.ref a2))
  (ret : ∀ T M U n q1 q2 ms us h' tk', Fr h₀ L h' (fun y => if y = Str.ofString "lacks" then some (.ref T) else m y) → News h₀ L h' ((T, { cls := .type "tuple", data := .seq #[.ref M, .ref U] n }) :: (M, listOf (List.toArray ms) q1) :: (U, listOf (List.toArray us) q2) :: news) →
    StrsAre ms (S1.filter fun x => decide (x ∉ S2)) → StrsAre us (S2.filter fun y => decide (y ∉ S1)) → Q .next { s with heap := h', toks := tk' }) :
  wpAny (model (OpenLaw.row PySem.Challenge.rw_in0163_01).toRowW.prog w) (ktrTop dp un gd (Str.ofString "law") lawSc.1 L a ccd (lawCl L) []) (exec lawS8.1 (envX (Str.ofString "law") lawSc.1 L a ccd (lawCl L))) Q E s := by
  dsimp only [lawS8, lawSc, lawCl]
  revert X; k_fill; intro X
  k_with_none
  k_with "execs cons" => ((k_dflt (refine wpAny_execs_cons ?_)); (try dsimp only))
  k_with "execs nil" => (k_dflt (refine wpAny_execs_nil ?_))
  k_with "exec If" => (k_dflt (refine wpAny_If ?_))
  k_with "exec Assign" => (k_dflt (refine wpAny_Assign_Name ?_))
  k_with "eval Name" => (k_dflt (refine' nameX_L ?F ?v ?_ ?a ?b ?d; (case F => k_asm); (case a => rfl); (case b => kernel_rfl!); (case d => kernel_rfl); (case v => first | rfl | assumption); k_whole))
  k_with "storeName" => (k_dflt (refine' storeX_L ?F ?N ?_ ?a ?b; (case F => k_asm); (case N => k_asm); (case a => rfl); (case b => rfl); k_whole; intro hS7 FS7 NS7; (try k_sweep)))
  k_with "spliced" => (k_dflt (first | refine args_cons ?_ | (refine args_nil ?_; try simp only [List.cons_append, List.nil_append])))
  k_with "ite" => (k_dflt (first | refine ite_pos (by decide +kernel) ?_ | refine ite_neg (by decide +kernel) ?_))
  k_with "And" => ((with_reducible show PySem.Str.length (_ ++ _) ≤ sizeLine ∧ _); refine ⟨Nat.le_of_ble_eq_true (by kernel_rfl!), ?_⟩)
  k_with "exec Assign cons Tuple" => (k_dflt (refine Assign_Tuple ?_))
  k_with "callWith ref" => (k_dflt (refine' callWith_K ?k1 ?k2 ?_; (case k1 => k_asm); (case k2 => k_is); k_whole))
  k_with "truthy bool" => (k_dflt (refine wpAny_truthy_bool ?_))
  k_with "isTrue Compare" => (k_dflt (refine wpAny_isTrue_Compare1 ?_))
  k_with "room" => (k_dflt (first | exact om_s2 (by assumption) (by rfl) | exact om_s1 (by assumption) (by rfl) | exact om_s0 (by assumption)))
  k_with "ne" => with_reducible (first | assumption | exact om_sy (by assumption) | exact Nat.ne_of_gt (by assumption) | exact Nat.ne_of_lt (by assumption) | exact om_n1 (by assumption) | exact om_n2 (by assumption) | exact om_n3 (by assumption) | exact om_z2 (by assumption) | exact om_z3 (by assumption) | exact om_z4 (by assumption) | exact (om_n1 (by assumption)).symm | exact (om_n2 (by assumption)).symm | exact (om_n3 (by assumption)).symm | exact (om_z2 (by assumption)).symm | exact (om_z3 (by assumption)).symm | exact (om_z4 (by assumption)).symm | exact om_n4 (by assumption) | exact om_z5 (by assumption) | exact (om_n4 (by assumption)).symm | exact (om_z5 (by assumption)).symm | exact om_n5 (by assumption) | exact om_z6 (by assumption) | exact (om_n5 (by assumption)).symm | exact (om_z6 (by assumption)).symm | exact om_e1 (by assumption) | exact om_e2 (by assumption) | exact om_e3 (by assumption))
  k_with "om" => with_reducible (first | ((show _ ≠ _); k_extra "ne") | ((show @LT.lt Nat _ (_ + _ + _) _); exact om_s2 (by assumption) (by decide)) | ((show @LT.lt Nat _ (_ + _) _); exact om_s1 (by assumption) (by decide)) | ((show @LT.lt Nat _ _ _); first | assumption | exact om_s0 (by assumption)) | ((show @LE.le Nat _ (_ + 1) _); exact om_succ (by assumption) (by assumption)) | ((show @LE.le Nat _ _ _); first | exact Nat.zero_le _ | assumption | exact om_le (by assumption) (by decide) | exact om_lt_le (by assumption) (by decide) | exact om_eq_le (by assumption) (by assumption) (by decide) | exact om_eq_le' (by assumption) (by assumption) (by decide)) | ((show _ ∧ _); first | exact om_rg (by assumption) (by decide) | exact om_r1 (by assumption) (by decide)))
  k_with "all" => exact fun p9 hp9 => Nat.ne_of_lt (by first | exact l1 p9 hp9 | exact Nat.lt_succ_of_lt (l1 p9 hp9))
  k_with "call ref" => (k_dflt (refine' sld_c ?k1 ?k2 ?k3 ?k4 ?k5 ?k6 ?k7 ?k8 XB TB ha1 hv1 ha2 hv2 l1 l2 r1 r2 ?_; (case k1 => k_asm); (case k2 => k_asm); (case k3 => k_asm); (case k4 => k_asm); (case k5 => k_asm); (case k6 => exact rfl); (case k7 => ktr_room); (case k8 => ktr_units)); intro T9 M9 U9 n9 q91 q92 ms9 us9 h9 tk9 F9 N9 hms9 hus9; (try dsimp only))
  k_steps
  all_goals first | exact ret _ _ _ _ _ _ _ _ _ _ (by k_asm) (by k_asm) (by assumption) (by assumption)
end
set_option Elab.async false
set_option maxRecDepth 100000
set_option maxHeartbeats 5000000
section
variable {w : World} {o : OsState} {mean : ExcName → Option Value} {loose : List Str} {mg mb : Str → Option Value} {dp un : Nat} {gd : Option (List Code)} {cn : Str} {cs : Scope} {a : Addr} {ccd : Value} {cl : List (Str × Addr)} {outer : List Env} {A₀ : Around} {base h₀ : Heap} {L : Addr} {m : Str → Option Value} {news : List (Addr × Obj)} {s : Shared} {Q E : Value → Shared → Prop}
theorem st9 (B : Below A₀ base [] h₀) (F : Fr h₀ L s.heap m) (X : (KF w.params).In h₀) (N : News h₀ L s.heap news) (T : Top topProg loose mean mg mb h₀) (hd : dp + 4 < recursionLimit) (hu : un + 200 < cLine) {Q : Flow → Shared → Prop} {b1 b2 T9 M9 U9 : Addr} {o₁ o₂ : Obj} {w1 w2 ms9 us9 : List Value} {k1 k2 n9 q1 q2 : Nat} {S1 S2 : List Str} (hc1 : (L + 1, o₁) ∈ news) (hd1 : o₁.data = .cell (some (.ref b1))) (hc2 : (L + 1 + 1, o₂) ∈ news) (hd2 : o₂.data = .cell (some (.ref b2)))
  (hb1 : (b1, listOf w1.toArray k1) ∈ news) (hb2 : (b2, listOf w2.toArray k2) ∈ news) (hw1 : StrsAre w1 S1) (hw2 : StrsAre w2 S2) (ok1 : S1.all PyData.strOk = true) (ok2 : S2.all PyData.strOk = true) (l1 : S1.length ≤ 40) (l2 : S2.length ≤ 40)
  (hT : (T9, ({ cls := .type "tuple", data := .seq #[.ref M9, .ref U9] n9 } : Obj)) ∈ news) (hM : (M9, listOf (List.toArray ms9) q1) ∈ news) (hU : (U9, listOf (List.toArray us9) q2) ∈ news) (hms : StrsAre ms9 (S1.filter fun x => decide (x ∉ S2))) (hus : StrsAre us9 (S2.filter fun y => decide (y ∉ S1)))
  (m1 : m (Str.ofString "lacks") = some (.ref T9))
  (ret : ∀ h' tk', Fr h₀ L h' m → News h₀ L h' news → Q .next { s with heap := h', toks := tk' }) :
  wpAny (model (OpenLaw.row PySem.Challenge.rw_in0163_01).toRowW.prog w) (ktrTop dp un gd (Str.ofString "law") lawSc.1 L a ccd (lawCl L) []) (exec lawS9.1 (envX (Str.ofString "law") lawSc.1 L a ccd (lawCl L))) Q E s := by
  dsimp only [lawS9, lawSc, lawCl]
  revert X; k_fill; intro X
  k_with_none
  k_with "execs cons" => ((k_dflt (refine wpAny_execs_cons ?_)); (try dsimp only))
  k_with "execs nil" => (k_dflt (refine wpAny_execs_nil ?_))
  k_with "exec If" => (k_dflt (refine wpAny_If ?_))
  k_with "exec Assign" => (k_dflt (refine wpAny_Assign_Name ?_))
  k_with "eval Name" => (k_dflt (refine' nameX_L ?F ?v ?_ ?a ?b ?d; (case F => k_asm); (case a => rfl); (case b => kernel_rfl!); (case d => kernel_rfl); (case v => first | rfl | assumption); k_whole))
  k_with "storeName" => (k_dflt (refine' storeX_L ?F ?N ?_ ?a ?b; (case F => k_asm); (case N => k_asm); (case a => rfl); (case b => rfl); k_whole; intro hS7 FS7 NS7; (try k_sweep)))
  k_with "spliced" => (k_dflt (first | refine args_cons ?_ | (refine args_nil ?_; try simp only [List.cons_append, List.nil_append])))
  k_with "ite" => (k_dflt (first | refine ite_pos (by decide +kernel) ?_ | refine ite_neg (by decide +kernel) ?_))
  k_with "And" => ((with_reducible show PySem.Str.length (_ ++ _) ≤ sizeLine ∧ _); refine ⟨Nat.le_of_ble_eq_true (by kernel_rfl!), ?_⟩)
  k_with "exec Assign cons Tuple" => (k_dflt (refine Assign_Tuple ?_))
  k_with "callWith ref" => (k_dflt (refine' callWith_K ?k1 ?k2 ?_; (case k1 => k_asm); (case k2 => k_is); k_whole))
  k_with "truthy bool" => (k_dflt (refine wpAny_truthy_bool ?_))
  k_with "isTrue Compare" => (k_dflt (refine wpAny_isTrue_Compare1 ?_))
  k_with "room" => (k_dflt (first | exact om_s2 (by assumption) (by rfl) | exact om_s1 (by assumption) (by rfl) | exact om_s0 (by assumption)))
  k_with "ne" => with_reducible (first | assumption | exact om_sy (by assumption) | exact Nat.ne_of_gt (by assumption) | exact Nat.ne_of_lt (by assumption) | exact om_n1 (by assumption) | exact om_n2 (by assumption) | exact om_n3 (by assumption) | exact om_z2 (by assumption) | exact om_z3 (by assumption) | exact om_z4 (by assumption) | exact (om_n1 (by assumption)).symm | exact (om_n2 (by assumption)).symm | exact (om_n3 (by assumption)).symm | exact (om_z2 (by assumption)).symm | exact (om_z3 (by assumption)).symm | exact (om_z4 (by assumption)).symm | exact om_n4 (by assumption) | exact om_z5 (by assumption) | exact (om_n4 (by assumption)).symm | exact (om_z5 (by assumption)).symm | exact om_n5 (by assumption) | exact om_z6 (by assumption) | exact (om_n5 (by assumption)).symm | exact (om_z6 (by assumption)).symm | exact om_e1 (by assumption) | exact om_e2 (by assumption) | exact om_e3 (by assumption))
  k_with "om" => with_reducible (first | ((show _ ≠ _); k_extra "ne") | ((show @LT.lt Nat _ (_ + _ + _) _); exact om_s2 (by assumption) (by decide)) | ((show @LT.lt Nat _ (_ + _) _); exact om_s1 (by assumption) (by decide)) | ((show @LT.lt Nat _ _ _); first | assumption | exact om_s0 (by assumption)) | ((show @LE.le Nat _ (_ + 1) _); exact om_succ (by assumption) (by assumption)) | ((show @LE.le Nat _ _ _); first | exact Nat.zero_le _ | assumption | exact om_le (by assumption) (by decide) | exact om_lt_le (by assumption) (by decide) | exact om_eq_le (by assumption) (by assumption) (by decide) | exact om_eq_le' (by assumption) (by assumption) (by decide)) | ((show _ ∧ _); first | exact om_rg (by assumption) (by decide) | exact om_r1 (by assumption) (by decide)))
  k_with "all" => exact fun p9 hp9 => Nat.ne_of_lt (by first | exact l1 p9 hp9 | exact Nat.lt_succ_of_lt (l1 p9 hp9))
  have hl1 : w1.toArray.size = S1.length := by rw [List.size_toArray]; exact hw1.length
  have hl2 : w2.toArray.size = S2.length := by rw [List.size_toArray]; exact hw2.length
  k_with "CompEnd" => (k_dflt (refine LCg.CompEnd.intro (by k_asm) (by k_asm) _ (fun p hp => hp) (by first | assumption | (simp only [LCg.Off3, and_true]; done)) (by first | assumption | exact True.intro | exact Or.inr ⟨_, (by repeat (first | assumption | exact List.mem_cons_self | exact List.mem_append_left _ (by assumption) | exact List.mem_append_right _ (by assumption) | refine List.mem_cons_of_mem _ ?_)), rfl, _, rfl⟩) ?_); (try dsimp only); (try (k_dflt (k_extra "ce"))))
  k_with "eval Name" => (k_dflt (refine' nameX_L ?F ?v ?_ ?a ?b ?d; (case F => k_asm); (case a => rfl); (case b => kernel_rfl!); (case d => kernel_rfl); (case v => first | rfl | assumption); k_whole))
  k_with "eval Name" => ((with_reducible show wpAny _ _ (eval (Expr.Name (Str.ofString "plain") _) (envX _ _ _ _ _ _)) _ _ _); k_dflt (refine nameX_C (c := L + 1) (o := o₁) (by k_asm) (by rfl) (by repeat (first | assumption | exact List.mem_cons_self | exact List.mem_append_left _ (by assumption) | exact List.mem_append_right _ (by assumption) | refine List.mem_cons_of_mem _ ?_)) hd1 ?_ (by rfl) (by rfl)))
  k_with "eval Name" => ((with_reducible show wpAny _ _ (eval (Expr.Name (Str.ofString "other") _) (envX _ _ _ _ _ _)) _ _ _); k_dflt (refine nameX_C (c := L + 1 + 1) (o := o₂) (by k_asm) (by rfl) (by repeat (first | assumption | exact List.mem_cons_self | exact List.mem_append_left _ (by assumption) | exact List.mem_append_right _ (by assumption) | refine List.mem_cons_of_mem _ ?_)) hd2 ?_ (by rfl) (by rfl)))
  k_with "eval Name" => ((with_reducible show wpAny _ _ (eval (Expr.Name (Str.ofString "plain") _) (compEnvC _ _ _ _)) _ _ _); k_dflt (refine lcf_cell (c := L + 1) (o := o₁) (by k_asm) (by rfl) (by repeat (first | assumption | exact List.mem_cons_self | exact List.mem_append_left _ (by assumption) | exact List.mem_append_right _ (by assumption) | refine List.mem_cons_of_mem _ ?_)) hd1 ?_ (by rfl) (by rfl)))
  k_with "eval Name" => ((with_reducible show wpAny _ _ (eval (Expr.Name (Str.ofString "other") _) (compEnvC _ _ _ _)) _ _ _); k_dflt (refine lcf_cell (c := L + 1 + 1) (o := o₂) (by k_asm) (by rfl) (by repeat (first | assumption | exact List.mem_cons_self | exact List.mem_append_left _ (by assumption) | exact List.mem_append_right _ (by assumption) | refine List.mem_cons_of_mem _ ?_)) hd2 ?_ (by rfl) (by rfl)))
  k_with "eval Name" => ((with_reducible show wpAny _ _ (eval (Expr.Name (Str.ofString "name") _) (compEnvC _ _ _ _)) _ _ _); k_dflt (refine LCgL.ld_own (by k_asm) (by k_mem) (by assumption) (by assumption) ?_))
  k_with "eval ListComp" => (k_here; lct_look; k_dflt (refine LCt.ListComp_T (F₀ := by k_asm) (by with_unfolding_all rfl) (by decide) (by rfl) (by decide) (by rfl) ?_))
  k_with "CompSrcT" => ((with_reducible show LCt.CompSrcT _ _ _ _ _ _ _ _ _ _ _ _ _ (Value.ref b1) _); k_dflt (refine LCt.CompSrcT.ledger (by rfl) (by k_asm) (by k_asm) (by repeat (first | assumption | exact List.mem_cons_self | exact List.mem_append_left _ (by assumption) | exact List.mem_append_right _ (by assumption) | refine List.mem_cons_of_mem _ ?_)) (by rw [hl1, sizeLine_eq]; omega) ?_; intro g9'; (refine compT_strs rfl hw1 (fun x => !(S2.any (· == x))) hl1 ?_ ?_); (rotate_left; (intro ys' hys'; rw [notIn_any] at hys'); rotate_left)); (intro z' t₁' I' oI' C' oC' D' m' ys' h' tk' E' hp' hC' hx' F' N' off' ne'; (try simp only [LCg.Off3, and_true] at off')))
  k_with "CompSrcT" => ((with_reducible show LCt.CompSrcT _ _ _ _ _ _ _ _ _ _ _ _ _ (Value.ref b2) _); k_dflt (refine LCt.CompSrcT.ledger (by rfl) (by k_asm) (by k_asm) (by repeat (first | assumption | exact List.mem_cons_self | exact List.mem_append_left _ (by assumption) | exact List.mem_append_right _ (by assumption) | refine List.mem_cons_of_mem _ ?_)) (by rw [hl2, sizeLine_eq]; omega) ?_; intro g9'; (refine compT_strs rfl hw2 (fun x => !(S1.any (· == x))) hl2 ?_ ?_); (rotate_left; (intro ys' hys'; rw [notIn_any] at hys'); rotate_left)); (intro z' t₁' I' oI' C' oC' D' m' ys' h' tk' E' hp' hC' hx' F' N' off' ne'; (try simp only [LCg.Off3, and_true] at off')))
  k_with "compareOp NotIn str ref" => (k_dflt (first | (refine' notin_list_strs (isl (by k_asm) (D := b1) (by repeat (first | assumption | exact List.mem_cons_self | exact List.mem_append_left _ (by assumption) | exact List.mem_append_right _ (by assumption) | refine List.mem_cons_of_mem _ ?_))) hw1 ?_) | (refine' notin_list_strs (isl (by k_asm) (D := b2) (by repeat (first | assumption | exact List.mem_cons_self | exact List.mem_append_left _ (by assumption) | exact List.mem_append_right _ (by assumption) | refine List.mem_cons_of_mem _ ?_))) hw2 ?_)))
  k_with "ce" => exact ⟨rfl, by assumption, ⟨_, rfl⟩⟩
  k_with "ce" => exact ⟨rfl, by assumption⟩
  k_with "compareOp NotEq ref ref" => (k_dflt (refine' ne_two (by k_asm) ?p1 ?p2 ?p3 ?p4 ?p5 ?p6 hms hus ?p7 ?p8 ?p9 ?pa ?pb ?_; (case p1 => exact (by repeat (first | assumption | exact List.mem_cons_self | exact List.mem_append_left _ (by assumption) | exact List.mem_append_right _ (by assumption) | refine List.mem_cons_of_mem _ ?_))); (case p2 => exact (by repeat (first | assumption | exact List.mem_cons_self | exact List.mem_append_left _ (by assumption) | exact List.mem_append_right _ (by assumption) | refine List.mem_cons_of_mem _ ?_))); (case p3 => exact (by repeat (first | assumption | exact List.mem_cons_self | exact List.mem_append_left _ (by assumption) | exact List.mem_append_right _ (by assumption) | refine List.mem_cons_of_mem _ ?_))); (case p4 => exact (by repeat (first | assumption | exact List.mem_cons_self | exact List.mem_append_left _ (by assumption) | exact List.mem_append_right _ (by assumption) | refine List.mem_cons_of_mem _ ?_))); (case p5 => exact (by repeat (first | assumption | exact List.mem_cons_self | exact List.mem_append_left _ (by assumption) | exact List.mem_append_right _ (by assumption) | refine List.mem_cons_of_mem _ ?_))); (case p6 => exact (by repeat (first | assumption | exact List.mem_cons_self | exact List.mem_append_left _ (by assumption) | exact List.mem_append_right _ (by assumption) | refine List.mem_cons_of_mem _ ?_))); (case p7 => assumption); (case p8 => assumption); (case p9 => exact filtOk ok1); (case pa => exact filtOk ok2); (case pb => ktr_units)))
  k_steps
  all_goals first | exact ret _ _ (by k_asm) (cb_drop (by assumption) (by intro p9 hp9; repeat (first | exact hp9 | refine List.mem_cons_of_mem _ ?_))) | assumption | exact congrArg not (by assumption)
end
set_option Elab.async false
set_option maxRecDepth 100000
set_option maxHeartbeats 5000000
section
variable {w : World} {o : OsState} {mean : ExcName → Option Value} {loose : List Str} {mg mb : Str → Option Value} {dp un : Nat} {gd : Option (List Code)} {cn : Str} {cs : Scope} {a : Addr} {ccd : Value} {cl : List (Str × Addr)} {outer : List Env} {A₀ : Around} {base h₀ : Heap} {L : Addr} {m : Str → Option Value} {news : List (Addr × Obj)} {s : Shared} {Q E : Value → Shared → Prop}
theorem ways_c (B : Below A₀ base outer h₀) (F : Fr h₀ L s.heap m) (X : (KF w.params).In h₀) (N : News h₀ L s.heap news) (T : Top topProg loose mean mg mb h₀) (hk : cs.kind = .function) (hd : dp + 2 < recursionLimit) (hu : un + 24 < cLine) {ra : Addr} {vs : List Value} {na : Nat} {ns : List Int} (hra : (ra, listOf vs.toArray na) ∈ news) (hs : IntsAre vs ns) (hsm : ∀ x ∈ ns, 0 ≤ x ∧ x ≤ 3)
  (ret : ∀ D c ys h' tk', Fr h₀ L h' m → News h₀ L h' ((D, listOf (List.toArray ys) c) :: news) → IntsAre ys (wyF ns) → Q (.ref D) { s with heap := h', toks := tk' }) :
  wpAny (model (OpenLaw.row PySem.Challenge.rw_in0163_01).toRowW.prog w) (ktrTop dp un gd cn cs L a ccd cl outer) (call (.ref 199) [.ref ra]) Q E s := by
  revert X; k_fill; intro X
  k_with_none
  k_with "execs cons" => ((k_dflt (refine wpAny_execs_cons (post_gen fun T7 hT7 => ?_))); (try dsimp only))
  k_with "execs nil" => (k_dflt (refine wpAny_execs_nil ?_))
  k_with "exec If" => (k_dflt (refine wpAny_If ?_))
  k_with "exec Assign" => (k_dflt (refine wpAny_Assign_Name ?_))
  k_with "eval Name" => (k_dflt (refine' nameX_L ?F ?v ?_ ?a ?b ?d; (case F => k_asm); (case a => rfl); (case b => kernel_rfl!); (case d => kernel_rfl); (case v => first | rfl | assumption); k_whole))
  k_with "storeName" => (k_dflt (refine' storeX_L ?F ?N ?_ ?a ?b; (case F => k_asm); (case N => k_asm); (case a => rfl); (case b => rfl); k_whole; intro hS7 FS7 NS7; (try k_sweep)))
  k_with "spliced" => (k_dflt (first | refine args_cons ?_ | (refine args_nil ?_; try simp only [List.cons_append, List.nil_append])))
  k_with "ite" => (k_dflt (first | refine ite_pos (by decide +kernel) ?_ | refine ite_neg (by decide +kernel) ?_))
  k_with "And" => ((with_reducible show PySem.Str.length (_ ++ _) ≤ sizeLine ∧ _); refine ⟨Nat.le_of_ble_eq_true (by kernel_rfl!), ?_⟩)
  k_with "exec Assign cons Tuple" => (k_dflt (refine Assign_Tuple ?_))
  k_with "callWith ref" => (k_dflt (refine' callWith_K ?k1 ?k2 ?_; (case k1 => k_asm); (case k2 => k_is); k_whole))
  k_with "truthy bool" => (k_dflt (refine wpAny_truthy_bool ?_))
  k_with "isTrue Compare" => (k_dflt (refine wpAny_isTrue_Compare1 ?_))
  k_with "room" => (k_dflt (first | exact om_s2 (by assumption) (by rfl) | exact om_s1 (by assumption) (by rfl) | exact om_s0 (by assumption)))
  k_with "ne" => with_reducible (first | assumption | exact om_sy (by assumption) | exact Nat.ne_of_gt (by assumption) | exact Nat.ne_of_lt (by assumption) | exact om_n1 (by assumption) | exact om_n2 (by assumption) | exact om_n3 (by assumption) | exact om_z2 (by assumption) | exact om_z3 (by assumption) | exact om_z4 (by assumption) | exact (om_n1 (by assumption)).symm | exact (om_n2 (by assumption)).symm | exact (om_n3 (by assumption)).symm | exact (om_z2 (by assumption)).symm | exact (om_z3 (by assumption)).symm | exact (om_z4 (by assumption)).symm | exact om_n4 (by assumption) | exact om_z5 (by assumption) | exact (om_n4 (by assumption)).symm | exact (om_z5 (by assumption)).symm | exact om_n5 (by assumption) | exact om_z6 (by assumption) | exact (om_n5 (by assumption)).symm | exact (om_z6 (by assumption)).symm | exact om_e1 (by assumption) | exact om_e2 (by assumption) | exact om_e3 (by assumption))
  k_with "om" => with_reducible (first | ((show _ ≠ _); k_extra "ne") | ((show @LT.lt Nat _ (_ + _ + _) _); exact om_s2 (by assumption) (by decide)) | ((show @LT.lt Nat _ (_ + _) _); exact om_s1 (by assumption) (by decide)) | ((show @LT.lt Nat _ _ _); first | assumption | exact om_s0 (by assumption)) | ((show @LE.le Nat _ (_ + 1) _); exact om_succ (by assumption) (by assumption)) | ((show @LE.le Nat _ _ _); first | exact Nat.zero_le _ | assumption | exact om_le (by assumption) (by decide) | exact om_lt_le (by assumption) (by decide) | exact om_eq_le (by assumption) (by assumption) (by decide) | exact om_eq_le' (by assumption) (by assumption) (by decide)) | ((show _ ∧ _); first | exact om_rg (by assumption) (by decide) | exact om_r1 (by assumption) (by decide)))
  k_with "leave" => (first | ((with_reducible refine thru_ hT7 ?_); (try clear hT7); (try clear T7)) | (with_reducible refine thru_ (by assumption) ?_))
  k_with "all" => exact fun p9 hp9 => Nat.ne_of_lt (by first | exact l1 p9 hp9 | exact Nat.lt_succ_of_lt (l1 p9 hp9))
  k_with "call ref" => (k_dflt (refine' add_z ?k1 ?k2 ?k3 ?k4 ?k5 ?k6 ?k7 ?k8  ?_; (case k1 => k_asm); (case k2 => k_asm); (case k3 => k_asm); (case k4 => k_asm); (case k5 => k_asm); (case k6 => first | exact rfl | assumption); (case k7 => ktr_room); (case k8 => ktr_units); intro z9 t9 h9 tk9 hz9 F9 N9; (try dsimp only); (try k_fold)))
  k_with "call ref" => (k_dflt (refine' sub_z ?k1 ?k2 ?k3 ?k4 ?k5 ?k6 ?k7 ?k8  ?_; (case k1 => k_asm); (case k2 => k_asm); (case k3 => k_asm); (case k4 => k_asm); (case k5 => k_asm); (case k6 => first | exact rfl | assumption); (case k7 => ktr_room); (case k8 => ktr_units); intro z9 t9 h9 tk9 hz9 F9 N9; (try dsimp only); (try k_fold)))
  k_with "call ref" => (k_dflt (refine' mul_z ?k1 ?k2 ?k3 ?k4 ?k5 ?k6 ?k7 ?k8 ?x1 ?_; (case k1 => k_asm); (case k2 => k_asm); (case k3 => k_asm); (case k4 => k_asm); (case k5 => k_asm); (case k6 => first | exact rfl | assumption); (case k7 => ktr_room); (case k8 => ktr_units); (case x1 => omega); intro z9 t9 h9 tk9 hz9 F9 N9; (try dsimp only); (try k_fold)))
  k_with "pyIter ref" => ((rename Fr _ _ _ _ => lF'); (rename News _ _ _ _ => lN'); (with_unfolding_all refine' ledList (σ := Addr × Nat × (Int × Tok) × (Int × Tok) × (Int × Tok) × (Int × Tok)) (fun c => [(c.1, listOf #[.int c.2.2.1.1 c.2.2.1.2, .int c.2.2.2.1.1 c.2.2.2.1.2, .int c.2.2.2.2.1.1 c.2.2.2.2.1.2, .int c.2.2.2.2.2.1 c.2.2.2.2.2.2] c.2.1), (ra, listOf vs.toArray na)]) (fun c => [(Str.ofString "ways", .ref c.1)]) [Str.ofString "fresh", Str.ofString "n"] (fun pre c => ∃ np, IntsAre pre np ∧ wyF np = [c.2.2.1.1, c.2.2.2.1.1, c.2.2.2.2.1.1, c.2.2.2.2.2.1]) ⟨_, _, ⟨_, _⟩, ⟨_, _⟩, ⟨_, _⟩, ⟨_, _⟩⟩ (by rfl) lF' lN' ?hm ?hc ?hd ?hk ?hp ?_ ?_; (case hm => (intro c9; exact List.mem_cons_of_mem _ List.mem_cons_self)); (case hc => rfl); (case hd => rfl); (case hk => kst_all); (case hp => exact ⟨[], .nil, by unfold wyF; rfl⟩)); (clear lF' lN'); (rotate_left; (intro c9 u9 h9 tk9 hp9 F9 N9; obtain ⟨D9, q9, ⟨w0, t0⟩, ⟨w1, t1⟩, ⟨w2, t2⟩, ⟨w3, t3⟩⟩ := c9; obtain ⟨np9, hi9, hw9⟩ := hp9; have e9 := ints_uniq hs hi9; subst e9; (dsimp only at *)); rotate_left); (intro c9 pre9 v9 post9 u9 I9 it9 h9 tk9 hv9 hp9 hit9 hI9 F9 N9; obtain ⟨D9, q9, ⟨w0, t0⟩, ⟨w1, t1⟩, ⟨w2, t2⟩, ⟨w3, t3⟩⟩ := c9; obtain ⟨np9, hi9, hw9⟩ := hp9; obtain ⟨a9, ta9, nq9, rfl, en9, hia9⟩ := ints_mid (hv9 ▸ hs) hi9; have hb9 := hsm a9 (by rw [en9]; simp); (dsimp only at *); (simp only [kstB] at F9)))
  k_with "UnrEnd" => ((with_reducible show UnrEnd _ _ _ _ _ (fun m' n' => LedS _ _ _ _ _ _ _ m' n') _); (rename News _ _ _ _ => nE9); (simp only [List.push_toArray, List.nil_append, List.cons_append] at nE9); (with_reducible refine' led_end ⟨_, _, ⟨_, _⟩, ⟨_, _⟩, ⟨_, _⟩, ⟨_, _⟩⟩ ?F ?N ?sub ?off ?hk ?hr ?hp); (case F => assumption); (case N => exact nE9); (case hk => with_unfolding_all kst_all); (case sub => ((try dsimp only); with_unfolding_all exact List.forall_mem_cons.mpr ⟨(by repeat (first | assumption | exact List.mem_cons_self | exact List.mem_append_left _ (by assumption) | exact List.mem_append_right _ (by assumption) | refine List.mem_cons_of_mem _ ?_)), List.forall_mem_cons.mpr ⟨(by repeat (first | assumption | exact List.mem_cons_self | exact List.mem_append_left _ (by assumption) | exact List.mem_append_right _ (by assumption) | refine List.mem_cons_of_mem _ ?_)), List.forall_mem_cons.mpr ⟨(by repeat (first | assumption | exact List.mem_cons_self | exact List.mem_append_left _ (by assumption) | exact List.mem_append_right _ (by assumption) | refine List.mem_cons_of_mem _ ?_)), List.forall_mem_nil _⟩⟩⟩)); (case hr => with_unfolding_all kst_same); (case off => exact List.forall_mem_cons.mpr ⟨by k_ne, List.forall_mem_cons.mpr ⟨hI9 _ (by repeat (first | assumption | exact List.mem_cons_self | exact List.mem_append_left _ (by assumption) | exact List.mem_append_right _ (by assumption) | refine List.mem_cons_of_mem _ ?_)), List.forall_mem_nil _⟩⟩); (case hp => exact ⟨_, hia9, wy_step hw9 (by subst_vars; rfl) (by subst_vars; rfl) (by subst_vars; rfl)⟩))
  refine wpAny_call ?_
  (k_dflt (refine' code_defR ?k1 ?k2 ?k3 ?k4 ?kO ?k5 ?kA ?kF ?kK ?k6 ?k7 ?k8 ?k9 ?kB ?_ ?c2 ?c3 ?c4 ?c5; (case kO => exact (newsCons N hra newsNil)); (case kA => exact rfl); (case kF => exact rfl); (case kK => assumption); (case k1 => k_asm); (case k2 => k_asm); (case k3 => k_asm); (case k4 => exact N); (case k5 => k_asm); (case k6 => k_is); (case k7 => k_is); (case k8 => ktr_room); (case k9 => exact BindsTo.of_eq rfl); (case c5 => decide); (case kB => exact locs rfl); (case c2 => exact rfl); (case c3 => exact rfl); (case c4 => exact rfl); k_whole; intro g' L' h' K' FG' F' N' B' X' T' l1; clear N; (try k_lt l1); (try dsimp only); (try k_lift B'); (try k_fold)))
  k_steps
  all_goals first | (refine' ret _ _ _ _ _ ?e1 ?e2 ?e3; (case e1 => k_asm); (case e2 => refine newsCons (by assumption) (by repeat (first | assumption | exact List.mem_cons_self | exact List.mem_append_left _ (by assumption) | exact List.mem_append_right _ (by assumption) | refine List.mem_cons_of_mem _ ?_)) ?_; (exact Kept.back (by assumption) (by assumption) (by assumption) (by intro p9 hp9; repeat (first | exact hp9 | refine List.mem_cons_of_mem _ ?_)))); (case e3 => (rw [hw9]; exact .cons _ _ (.cons _ _ (.cons _ _ (.cons _ _ .nil))))))
end
set_option Elab.async false
set_option maxRecDepth 100000
set_option maxHeartbeats 5000000
section
variable {w : World} {o : OsState} {mean : ExcName → Option Value} {loose : List Str} {mg mb : Str → Option Value} {dp un : Nat} {gd : Option (List Code)} {cn : Str} {cs : Scope} {a : Addr} {ccd : Value} {cl : List (Str × Addr)} {outer : List Env} {A₀ : Around} {base h₀ : Heap} {L : Addr} {m : Str → Option Value} {news : List (Addr × Obj)} {s : Shared} {Q E : Value → Shared → Prop}
theorem st10 (B : Below A₀ base [] h₀) (F : Fr h₀ L s.heap m) (X : (KF w.params).In h₀) (N : News h₀ L s.heap news) (T : Top topProg loose mean mg mb h₀) (hd : dp + 4 < recursionLimit) (hu : un + 100 < cLine) {Q : Flow → Shared → Prop} {ra : Addr} {vs : List Value} {na : Nat} {ms : List (Int × Int)} (hra : (ra, listOf vs.toArray na) ∈ news) (hs : Stg news vs ms) (hl : ms.length ≤ 3) (hm : StgOk ms) (m1 : m (Str.ofString "stages") = some (.ref ra))
  (ret : ∀ D c ys ns h' tk', Fr h₀ L h' (fun y => if y = Str.ofString "ways" then some (.ref D) else m y) → News h₀ L h' ((D, listOf (List.toArray ys) c) :: news) → IntsAre ys (wyF ns) → ns.Perm (ms.map fun p => ((sgF p.1).length : Int)) → Q .next { s with heap := h', toks := tk' }) :
  wpAny (model (OpenLaw.row PySem.Challenge.rw_in0163_01).toRowW.prog w) (ktrTop dp un gd (Str.ofString "law") lawSc.1 L a ccd (lawCl L) []) (exec lawS10.1 (envX (Str.ofString "law") lawSc.1 L a ccd (lawCl L))) Q E s := by
  dsimp only [lawS10, lawSc, lawCl]
  revert X; k_fill; intro X
  k_with_none
  k_with "execs cons" => ((k_dflt (refine wpAny_execs_cons ?_)); (try dsimp only))
  k_with "execs nil" => (k_dflt (refine wpAny_execs_nil ?_))
  k_with "exec If" => (k_dflt (refine wpAny_If ?_))
  k_with "exec Assign" => (k_dflt (refine wpAny_Assign_Name ?_))
  k_with "eval Name" => (k_dflt (refine' nameX_L ?F ?v ?_ ?a ?b ?d; (case F => k_asm); (case a => rfl); (case b => kernel_rfl!); (case d => kernel_rfl); (case v => first | rfl | assumption); k_whole))
  k_with "storeName" => (k_dflt (refine' storeX_L ?F ?N ?_ ?a ?b; (case F => k_asm); (case N => k_asm); (case a => rfl); (case b => rfl); k_whole; intro hS7 FS7 NS7; (try k_sweep)))
  k_with "spliced" => (k_dflt (first | refine args_cons ?_ | (refine args_nil ?_; try simp only [List.cons_append, List.nil_append])))
  k_with "ite" => (k_dflt (first | refine ite_pos (by decide +kernel) ?_ | refine ite_neg (by decide +kernel) ?_))
  k_with "And" => ((with_reducible show PySem.Str.length (_ ++ _) ≤ sizeLine ∧ _); refine ⟨Nat.le_of_ble_eq_true (by kernel_rfl!), ?_⟩)
  k_with "exec Assign cons Tuple" => (k_dflt (refine Assign_Tuple ?_))
  k_with "callWith ref" => (k_dflt (refine' callWith_K ?k1 ?k2 ?_; (case k1 => k_asm); (case k2 => k_is); k_whole))
  k_with "truthy bool" => (k_dflt (refine wpAny_truthy_bool ?_))
  k_with "isTrue Compare" => (k_dflt (refine wpAny_isTrue_Compare1 ?_))
  k_with "room" => (k_dflt (first | exact om_s2 (by assumption) (by rfl) | exact om_s1 (by assumption) (by rfl) | exact om_s0 (by assumption)))
  k_with "ne" => with_reducible (first | assumption | exact om_sy (by assumption) | exact Nat.ne_of_gt (by assumption) | exact Nat.ne_of_lt (by assumption) | exact om_n1 (by assumption) | exact om_n2 (by assumption) | exact om_n3 (by assumption) | exact om_z2 (by assumption) | exact om_z3 (by assumption) | exact om_z4 (by assumption) | exact (om_n1 (by assumption)).symm | exact (om_n2 (by assumption)).symm | exact (om_n3 (by assumption)).symm | exact (om_z2 (by assumption)).symm | exact (om_z3 (by assumption)).symm | exact (om_z4 (by assumption)).symm | exact om_n4 (by assumption) | exact om_z5 (by assumption) | exact (om_n4 (by assumption)).symm | exact (om_z5 (by assumption)).symm | exact om_n5 (by assumption) | exact om_z6 (by assumption) | exact (om_n5 (by assumption)).symm | exact (om_z6 (by assumption)).symm | exact om_e1 (by assumption) | exact om_e2 (by assumption) | exact om_e3 (by assumption))
  k_with "om" => with_reducible (first | ((show _ ≠ _); k_extra "ne") | ((show @LT.lt Nat _ (_ + _ + _) _); exact om_s2 (by assumption) (by decide)) | ((show @LT.lt Nat _ (_ + _) _); exact om_s1 (by assumption) (by decide)) | ((show @LT.lt Nat _ _ _); first | assumption | exact om_s0 (by assumption)) | ((show @LE.le Nat _ (_ + 1) _); exact om_succ (by assumption) (by assumption)) | ((show @LE.le Nat _ _ _); first | exact Nat.zero_le _ | assumption | exact om_le (by assumption) (by decide) | exact om_lt_le (by assumption) (by decide) | exact om_eq_le (by assumption) (by assumption) (by decide) | exact om_eq_le' (by assumption) (by assumption) (by decide)) | ((show _ ∧ _); first | exact om_rg (by assumption) (by decide) | exact om_r1 (by assumption) (by decide)))
  k_with "all" => exact fun p9 hp9 => Nat.ne_of_lt (by first | exact l1 p9 hp9 | exact Nat.lt_succ_of_lt (l1 p9 hp9))
  have hvl : vs.toArray.size = ms.length := by rw [List.size_toArray]; exact hs.len.symm
  k_with "CompEnd" => (k_dflt (refine LCg.CompEnd.intro (by k_asm) (by k_asm) _ (fun p hp => hp) (by first | assumption | (simp only [LCg.Off3, and_true]; done)) (by first | assumption | exact True.intro | exact Or.inr ⟨_, (by repeat (first | assumption | exact List.mem_cons_self | exact List.mem_append_left _ (by assumption) | exact List.mem_append_right _ (by assumption) | refine List.mem_cons_of_mem _ ?_)), rfl, _, rfl⟩) ?_); (try dsimp only); (try (k_dflt (k_extra "ce"))))
  k_with "eval ListComp" => (k_here; lcg_look; k_dflt (refine LCg.ListComp_U (F₀ := by k_asm) (by with_unfolding_all rfl) (by decide) (by rfl) (by decide) (by rfl) ?_))
  k_with "CompSrc" => (k_dflt (refine LCg.CompSrc.ledger (by rfl) (by k_asm) (by k_asm) (by repeat (first | assumption | exact List.mem_cons_self | exact List.mem_append_left _ (by assumption) | exact List.mem_append_right _ (by assumption) | refine List.mem_cons_of_mem _ ?_)) (by rw [hvl, sizeLine_eq]; omega) ?_; intro g9'; rw [hvl]; (refine comp_all (n := ms.length) (fun i y => ∃ t, y = .int ((sgF (ms.getD i (0, 0)).1).length : Int) t) ?_ ?_); (rotate_left; (intro ys' hys'; replace hys' := lens_of hys'; have hysl' := hys'.length; (rw [List.length_map] at hysl')); rotate_left); (intro i' v' I' oI' C' oC' D' m' ys' h' tk' E' hi' hv' hC' hx' F' N' off' ne'; (obtain ⟨sa9, so9, sn9, s19, s29, hsv9, hsm9, hsc9, hsd9⟩ := stg_at hs hi'); (obtain rfl := Option.some.inj ((show vs[i']? = some v' by simpa using hv').symm.trans hsv9)); have hok9 := stg_ok hm hi'; have hle9 := sg_le (mask := (ms.getD i' (0, 0)).1) (by omega); (try simp only [LCg.Off3, and_true] at off'))))
  k_with "subscriptTail" => ((with_reducible show wpAny _ _ (subscriptTail _ _ (Value.ref sa9) (Value.int 0 _)) _ _ _); k_dflt (refine kim_tup (j := 0) (by k_asm) (by repeat (first | assumption | exact List.mem_cons_self | exact List.mem_append_left _ (by assumption) | exact List.mem_append_right _ (by assumption) | refine List.mem_cons_of_mem _ ?_)) hsc9 hsd9 (by omega) (by omega) (by rfl) (by rfl) ?_))
  k_with "call ref" => (k_dflt (refine' signs_c ?k1 ?k2 ?k3 ?k4 ?k5 ?k6 ?k7 ?k8 ?x1 ?_; (case k1 => k_asm); (case k2 => k_asm); (case k3 => k_asm); (case k4 => k_asm); (case k5 => k_asm); (case k6 => first | exact rfl | assumption); (case k7 => ktr_room); (case k8 => ktr_units); (case x1 => omega); intro t9 h9 tk9 F9 N9; (try dsimp only); (try k_fold)))
  k_with "call builtin:len" => (k_dflt (refine len_str (by omega) ?_))
  k_with "ce" => exact ⟨rfl, ⟨_, rfl⟩⟩
  k_with "call builtin:sorted" => (k_dflt (refine' sorted_N ?F ?N ?hl hys' ?h64 ?_; (case F => k_asm); (case N => k_asm); (case hl => exact isl (by k_asm) (by repeat (first | assumption | exact List.mem_cons_self | exact List.mem_append_left _ (by assumption) | exact List.mem_append_right _ (by assumption) | refine List.mem_cons_of_mem _ ?_))); (case h64 => omega)); intro h7' vs7 ns7 e7 F7' N7' hi7 hp7 ho7; (try dsimp only at N7'))
  k_with "call ref" => (k_dflt (refine' ways_c ?k1 ?k2 ?k3 ?k4 ?k5 ?k6 ?k7 ?k8 ?x1 hi7 (lens_ok hm hp7) ?_; (case k1 => k_asm); (case k2 => k_asm); (case k3 => k_asm); (case k4 => k_asm); (case k5 => k_asm); (case k6 => exact rfl); (case k7 => ktr_room); (case k8 => ktr_units); (case x1 => exact (by repeat (first | assumption | exact List.mem_cons_self | exact List.mem_append_left _ (by assumption) | exact List.mem_append_right _ (by assumption) | refine List.mem_cons_of_mem _ ?_)))); intro D9 c9 ys9 h9 tk9 F9 N9 hy9; (try dsimp only))
  k_steps
  all_goals first | (have N9W := dropMid (by assumption); exact ret _ _ _ _ _ _ (by k_asm) N9W hy9 hp7) | exact ret _ _ _ _ _ _ (by k_asm) (fun p9 hp9 => N9W p9 hp9) (by assumption) hp7
end
set_option maxRecDepth 100000
set_option maxHeartbeats 2000000
set_option Elab.async false
theorem compTurn_one (elt t0 i0 : Expr) (scope : Scope) (pos : Pos) (it acc : Value) (env : Env) :
    compTurn (.ListComp elt [⟨t0, i0, [], 0⟩] scope pos) 0 it acc env = (standAt i0.pos >>= fun _ => pyNext it >>= fun r => match r with
      | none => pure (.done .next)
      | some v => letOwnedTupleGo t0 it v >>= fun _ => assign t0 env v >>= fun _ =>
        (eval elt env >>= fun x => call (.builtin "list.append") [acc, x] >>= fun _ => pure ()) >>= fun _ =>
          again (.compLoop (.ListComp elt [⟨t0, i0, [], 0⟩] scope pos) 0 it acc env)) := by rfl
noncomputable def TokB (ys : List Value) (tk : Nat) : Prop := ∀ x y, Value.int x y ∈ ys → 0 < y ∧ y < tk
theorem tokB_mono {ys : List Value} {a b : Nat} (h : TokB ys a) (hab : a ≤ b) : TokB ys b := fun x y hm => ⟨(h x y hm).1, Nat.lt_of_lt_of_le (h x y hm).2 hab⟩
section
variable {prog : Program} {w : World} {A : Around} {R : Result → Shared → Prop} {E : Value → Shared → Prop} {env : Env}
theorem len_loop {elt i0 : Expr} {x0 : Str} {p0 : Pos} {scope : Scope} {pos : Pos} {cenv : Env} {C D I ax : Addr} {vs : List Value} {rs : List Str} (hC : cenv.locals = C)
    (hx0 : cenv.kindOf x0 = some .local) (hp : (cenv.scope.kind == .class || (cenv.scope.kind == .module && cenv.locals != cenv.globals)) = false) (hh : A.handled = none) (hs : StrsAre vs rs)
    (d1 : I ≠ C) (d2 : I ≠ D) (d3 : C ≠ D) (d4 : ax ≠ I) (d5 : ax ≠ C) (d6 : ax ≠ D) {s : Shared} {m : Str → Option Value} (hyl : vs.length ≤ 1000)
    (hel : ∀ (s' : Shared) (m' : Str → Option Value) (r : Str) (u : Tok) (Q : Value → Shared → Prop) (E : Value → Shared → Prop), r ∈ rs → TKeep [I, C, D] s.heap s'.heap → s'.heap.Ns C m' → m' x0 = some (.str r u) → Q (.int r.length (s'.toks + 1)) { s' with toks := s'.toks + 1 + 1 } → wpAny (model prog w) A (eval elt cenv) Q E s')
    (hi : s.heap.IsListIter I ax 0) (hl : s.heap.IsList ax vs.toArray) (hd : s.heap.get? D = some (LCg.lst [])) (hn : s.heap.Ns C m)
    (hR : ∀ h' tk m' ys', TKeep [I, C, D] s.heap h' → h'.Ns C m' → h'.get? D = some (LCg.lst ys') → IntsAre ys' (rs.map fun r => (r.length : Int)) → TokB ys' tk → R (.ok .next) { s with heap := h', toks := tk }) :
    codeAny (model prog w) A (.compLoop (.ListComp elt [⟨.Name x0 p0, i0, [], 0⟩] scope pos) 0 (.ref I) (.ref D) cenv) R s := by
  subst hC
  have W := Walks.list (prog := prog) (w := w) hh I ax d4 vs.toArray
  have hsz : vs.toArray.size = vs.length := List.size_toArray ..
  rw [hsz] at W
  refine codeAny_loop rfl (fun k s' => ∃ h' tk j ys' m', s' = { s with heap := h', toks := tk } ∧ j ≤ vs.length ∧ k = vs.length + 1 - j ∧ (h'.IsListIter I ax j ∧ h'.IsList ax vs.toArray) ∧ TKeep [I, cenv.locals, D] s.heap h' ∧ h'.Ns cenv.locals m' ∧
    h'.get? D = some (LCg.lst ys') ∧ ys'.length = j ∧ IntsAre ys' ((rs.take j).map fun r => (r.length : Int)) ∧ TokB ys' tk) (fun k s' hI => ?_) (vs.length + 1)
    ⟨s.heap, s.toks, 0, [], m, rfl, Nat.zero_le _, rfl, ⟨hi, hl⟩, fun _ _ _ e => e, hn, hd, rfl, .nil, fun _ _ h => nomatch h⟩
  obtain ⟨h', tk, j, ys', m', rfl, hj, rfl, hst, hk, hn', hd', hyl', hys', htk⟩ := hI
  show wpAny _ _ ((compTurn (.ListComp elt [⟨.Name x0 p0, i0, [], 0⟩] scope pos) 0 (.ref I) (.ref D) cenv).onRaise (fun x => do noteFrame x cenv; theTreesLotGoes x)) _ _ _
  refine wpAny_noted ?_
  rw [compTurn_one]
  refine wpAny_bind (wpAny_standAt (wpAny_bind ?_))
  refine wpAny_with_toks (n := tk) (Nat.le_refl _) ?_
  by_cases hlt : j < vs.length
  · refine W.item j _ _ _ hlt hst fun v h₂ tk₂ hPv hst₂ hk₂ hle => ?_
    have hle : tk ≤ tk₂ := hle
    have hv : vs[j]? = some v := by simpa using hPv
    obtain ⟨r, u, rfl, hr⟩ := hs.item j v hv
    refine wpAny_bind (wpAny_of_eq (rfl : letOwnedTupleGo (.Name x0 p0) (.ref I) (.str r u) = pure ()) ?_)
    have hn₂ : h₂.Ns cenv.locals m' := hn'.at' fun o e => hk₂ _ o (by simpa using Ne.symm d1) e
    refine wpAny_bind (wpAny_assign_Name (wpAny_storeName_local hx0 hn₂ (fun h₃ hn₃ hs₃ => ?_) hp))
    have hk₃ : TKeep [I, cenv.locals, D] s.heap h₃ := fun b o hb e => by
      have hb' : b ≠ I ∧ b ≠ cenv.locals ∧ b ≠ D := by simpa using hb
      exact hs₃.extBut b o hb'.2.1 (hk₂ b o (by simpa using hb'.1) (hk b o hb e))
    refine wpAny_bind (wpAny_bind (hel _ _ r u _ _ (List.mem_of_getElem? hr) hk₃ hn₃ (by simp) ?_))
    have hd₃ : h₃.get? D = some (LCg.lst ys') := hs₃.extBut _ _ (Ne.symm d3) (hk₂ _ _ (by simpa using Ne.symm d2) hd')
    refine wpAny_bind (append_at (hsz := by show ys'.toArray.size ≤ sizeLine; rw [List.size_toArray, sizeLine_eq]; omega) hd₃ fun h₄ hs₄ hd₄ => ?_)
    refine wpAny_pure (wpAny_pure ⟨rfl, vs.length + 1 - (j + 1), by omega, h₄, _, j + 1, ys' ++ [.int r.length (tk₂ + 1 + 1)], _, rfl, hlt, rfl, ?_, ?_, hn₃.sameBut hs₄ d3, ?_, ?_, ?_, ?_⟩)
    · refine W.frame _ _ _ hst₂ fun b hb o e => ?_
      have hb' : b = I ∨ b = ax := by simpa using hb
      refine hs₄.extBut b o (fun q => ?_) (hs₃.extBut b o (fun q => ?_) e)
      · rcases hb' with h | h
        · exact d2 (h.symm.trans q)
        · exact d6 (h.symm.trans q)
      · rcases hb' with h | h
        · exact d1 (h.symm.trans q)
        · exact d5 (h.symm.trans q)
    · intro b o hb e
      have hb' : b ≠ I ∧ b ≠ cenv.locals ∧ b ≠ D := by simpa using hb
      exact hs₄.extBut b o hb'.2.2 (hk₃ b o hb e)
    · exact hd₄.trans (congrArg some (LCg.lst_snoc ys' _))
    · rw [List.length_append, hyl']; simp
    · have e : rs.take (j + 1) = rs.take j ++ [r] := by rw [List.take_add_one, hr]; rfl
      rw [e, List.map_append]
      exact hys'.append (.cons _ _ .nil)
    · intro x y hm
      rcases List.mem_append.mp hm with hm | hm
      · have := htk x y hm
        exact ⟨this.1, Nat.lt_of_lt_of_le this.2 (Nat.le_trans hle (Nat.le_add_right tk₂ 3))⟩
      · have hm := List.mem_singleton.mp hm
        injection hm with _ hy
        subst hy
        exact ⟨Nat.succ_pos _, Nat.lt_succ_self _⟩
  · have ej : j = vs.length := by omega
    subst ej
    refine W.done _ _ _ hst fun h₂ tk₂ hk₂ hle => ?_
    have hle : tk ≤ tk₂ := hle
    refine wpAny_pure ?_
    refine hR h₂ tk₂ m' ys' (fun b o hb e => ?_) (hn'.at' fun o e => hk₂ _ o (by simpa using Ne.symm d1) e) (hk₂ _ _ (by simpa using Ne.symm d2) hd') ?_ ?_
    · have hb' : b ≠ I ∧ b ≠ cenv.locals ∧ b ≠ D := by simpa using hb
      exact hk₂ b o (by simpa using hb'.1) (hk b o hb e)
    · have e : rs.take vs.length = rs := by rw [hs.length]; exact List.take_length
      rw [e] at hys'
      exact hys'
    · intro x y hm
      have := htk x y hm
      exact ⟨this.1, Nat.lt_of_lt_of_le this.2 hle⟩
open LCg in
theorem listComp_len {elt i0 : Expr} {x0 : Str} {p0 : Pos} {scope : Scope} {cl : List (Str × Addr)} {pos : Pos} {s : Shared} {h₀ : Heap} {L ax : Addr} {nn : Nat} {m : Str → Option Value} {news : List (Addr × Obj)} {vs : List Value} {rs : List Str} {Q : Value → Shared → Prop}
    (F : Fr h₀ L s.heap m) (N : News h₀ L s.heap news) (hax : (ax, listOf vs.toArray nn) ∈ news) (hs : StrsAre vs rs) (hh : A.handled = none) (hyl : vs.length ≤ 1000)
    (hclos : closureFor scope env = pure cl) (hcell : ∀ y ∈ scope.names, y.2 ≠ .cell) (hkind : scope.kind = .function)
    (hnames : ∀ y ∈ scope.names, y.2 = .local → scope.names.lookup y.1 = some .local) (hx0 : scope.names.lookup x0 = some .local)
    (hi0 : ∀ (Q : Value → Shared → Prop) (E : Value → Shared → Prop), Q (.ref ax) s → wpAny (model prog w) A (eval i0 env) Q E s)
    (hel : ∀ (C : Addr) (s' : Shared) (m' : Str → Option Value) (r : Str) (u : Tok) (Q : Value → Shared → Prop) (E : Value → Shared → Prop), r ∈ rs → Fr h₀ L s'.heap m → s'.heap.Ns C m' → m' x0 = some (.str r u) → Q (.int r.length (s'.toks + 1)) { s' with toks := s'.toks + 1 + 1 } → wpAny (model prog w) A (eval elt (compEnvC scope cl C env)) Q E s')
    (hfold0 : ∀ x, foldedSetIterable i0 env x = pure x)
    (hQ : ∀ D ys h' tk, Fr h₀ L h' m → News h₀ L h' ((D, lst ys) :: news) → (∀ p ∈ news, p.1 < D) → IntsAre ys (rs.map fun r => (r.length : Int)) → TokB ys tk → Q (.ref D) { s with heap := h', toks := tk }) :
    wpAny (model prog w) A (eval (.ListComp elt [⟨.Name x0 p0, i0, [], 0⟩] scope pos) env) Q E s := by
  rw [eval_ListComp]
  refine wpAny_comprehension_free (use := none) rfl hfold0 hclos hkind hnames (hi0 _ _ ?_)
  refine wpAny_pyIter_list (isl N hax) ?_
  generalize hH1 : s.heap.push { cls := .type "list_iterator", data := .fields #[.ref ax, .int 0 0] } = H1
  refine wpAny_newObj_type (wpAny_newFunctionEnv hcell (by intro y hy; simp at hy) (fun h₁ hns₁ hsb₁ => ?_) hkind)
  dsimp only at hns₁ hsb₁ ⊢
  generalize hH2 : H1.push { cls := .type "list", dict := none, data := .seq ([] : List Value).toArray } = H2 at hns₁ hsb₁ ⊢
  have s1 : H1.objs.size = s.heap.objs.size + 1 := by rw [← hH1, Heap.size_push]
  have s2 : H2.objs.size = s.heap.objs.size + 2 := by rw [← hH2, Heap.size_push, s1]
  have k1 : ∀ b o, s.heap.get? b = some o → H1.get? b = some o := fun b o e => hH1 ▸ Heap.get?_push_of_some _ e
  have k2 : ∀ b o, H1.get? b = some o → H2.get? b = some o := fun b o e => hH2 ▸ Heap.get?_push_of_some _ e
  have n1 : H1.get? s.heap.objs.size = some { cls := .type "list_iterator", data := .fields #[.ref ax, .int 0 0] } := hH1 ▸ Heap.get?_push_size _ rfl
  have n2 : H2.get? H1.objs.size = some (lst []) := hH2 ▸ Heap.get?_push_size _ rfl
  have old : ∀ b o, s.heap.get? b = some o → b < s.heap.objs.size ∧ h₁.get? b = some o := fun b o e =>
    ⟨Heap.lt_size e, hsb₁.extBut b o (Nat.ne_of_lt (Nat.lt_of_lt_of_le (Heap.lt_size e) (by rw [s2]; omega))) (Heap.get?_push_of_some _ (k2 _ _ (k1 _ _ e)))⟩
  have eI : h₁.get? s.heap.objs.size = some { cls := .type "list_iterator", data := .fields #[.ref ax, .int 0 0] } := hsb₁.extBut _ _ (Nat.ne_of_lt (by rw [s2]; omega)) (Heap.get?_push_of_some _ (k2 _ _ n1))
  have eD : h₁.get? H1.objs.size = some (lst []) := hsb₁.extBut _ _ (Nat.ne_of_lt (by rw [s1, s2]; omega)) (Heap.get?_push_of_some _ n2)
  have eax := old ax _ (N _ hax).1
  have all0 : ∀ (h'' : Heap), TKeep [s.heap.objs.size, H2.objs.size, H1.objs.size] h₁ h'' → ∀ b o, s.heap.get? b = some o → h''.get? b = some o := fun h'' hk b o e => by
    have q := old b o e
    exact hk _ _ (by simp; exact ⟨Nat.ne_of_lt q.1, Nat.ne_of_lt (Nat.lt_of_lt_of_le q.1 (by rw [s2]; omega)), Nat.ne_of_lt (Nat.lt_of_lt_of_le q.1 (by rw [s1]; omega))⟩) q.2
  have loop : codeAny (model prog w) A (.compLoop (.ListComp elt [⟨.Name x0 p0, i0, [], 0⟩] scope pos) 0 (.ref s.heap.objs.size) (.ref H1.objs.size) (compEnvC scope cl H2.objs.size env))
      (compPost (model prog w) A E none Q (.ref H1.objs.size) H2.objs.size) { s with heap := h₁, toks := s.toks + ([] : List (Str × Value)).length } := by
    refine len_loop (cenv := compEnvC scope cl H2.objs.size env) (C := H2.objs.size) (D := H1.objs.size) (I := s.heap.objs.size) (ax := ax) rfl (lookup_relabel_local hx0) (by simp [compEnvC, relabel, hkind]) hh hs
      (by rw [s2]; exact Nat.ne_of_lt (by omega)) (by rw [s1]; exact Nat.ne_of_lt (by omega)) (by rw [s1, s2]; exact Nat.ne_of_gt (by omega)) (Nat.ne_of_lt eax.1) (Nat.ne_of_lt (Nat.lt_of_lt_of_le eax.1 (by rw [s2]; omega))) (Nat.ne_of_lt (Nat.lt_of_lt_of_le eax.1 (by rw [s1]; omega))) hyl
      (fun s' m' r u Q E hr hk hn hm hq => hel _ s' m' r u Q E hr (F.keeps (all0 _ hk)) hn hm hq) ⟨_, eI, rfl, rfl⟩ ⟨_, eax.2, rfl, nn, rfl⟩ eD hns₁ ?_
    intro h' tk' m' ys hk hn' hd' hys htk
    refine ⟨m', hn', fun h'' hs'' => ?_⟩
    have all : ∀ b o, s.heap.get? b = some o → h''.get? b = some o := fun b o e => by
      have q := old b o e
      exact hs''.extBut b o (Nat.ne_of_lt (Nat.lt_of_lt_of_le q.1 (by rw [s2]; omega))) (all0 _ hk b o e)
    refine hQ _ ys h'' tk' (F.keeps all) (fun p hp => ?_) (fun p hp => by rw [s1]; exact Nat.lt_succ_of_lt (Heap.lt_size (N p hp).1)) hys htk
    rcases List.mem_cons.mp hp with rfl | hp
    · refine ⟨hs''.extBut _ _ (Nat.ne_of_lt (by rw [s1, s2]; omega)) hd', Nat.ne_of_gt (Nat.lt_of_lt_of_le F.ns.lt (by rw [s1]; omega)), ?_⟩
      cases z : h₀.get? H1.objs.size with
      | none => rfl
      | some o => exact absurd (Heap.lt_size (F.keep _ _ z)) (by rw [s1]; exact Nat.not_lt.mpr (Nat.le_succ _))
    · exact ⟨all _ _ (N p hp).1, (N p hp).2⟩
  exact codeAny_compStart_list loop (wpAny_pyIter_listiter (i := 0) ⟨_, eI, rfl, rfl⟩ loop)
open LCg in
theorem assign_len {y : Str} {py spos : Pos} {elt i0 : Expr} {x0 : Str} {p0 : Pos} {scope : Scope} {cl : List (Str × Addr)} {pos : Pos} {s : Shared} {h₀ : Heap} {L ax : Addr} {nn : Nat} {m : Str → Option Value} {news : List (Addr × Obj)} {vs : List Value} {rs : List Str} {Q : Flow → Shared → Prop} (hLe : env.locals = L) (hsw : swapsWith (.ListComp elt [⟨.Name x0 p0, i0, [], 0⟩] scope pos) (some (.Name y py)) spos.line env = pure true) (hy : env.kindOf y = some .local) (hp : (env.scope.kind == .class || (env.scope.kind == .module && env.locals != env.globals)) = false)
    (F : Fr h₀ L s.heap m) (N : News h₀ L s.heap news) (hax : (ax, listOf vs.toArray nn) ∈ news) (hs : StrsAre vs rs) (hh : A.handled = none) (hyl : vs.length ≤ 1000)
    (hclos : closureFor scope env = pure cl) (hcell : ∀ y ∈ scope.names, y.2 ≠ .cell) (hkind : scope.kind = .function)
    (hnames : ∀ y ∈ scope.names, y.2 = .local → scope.names.lookup y.1 = some .local) (hx0 : scope.names.lookup x0 = some .local)
    (hi0 : ∀ (Q : Value → Shared → Prop) (E : Value → Shared → Prop), Q (.ref ax) s → wpAny (model prog w) A (eval i0 env) Q E s)
    (hel : ∀ (C : Addr) (s' : Shared) (m' : Str → Option Value) (r : Str) (u : Tok) (Q : Value → Shared → Prop) (E : Value → Shared → Prop), r ∈ rs → Fr h₀ L s'.heap m → s'.heap.Ns C m' → m' x0 = some (.str r u) → Q (.int r.length (s'.toks + 1)) { s' with toks := s'.toks + 1 + 1 } → wpAny (model prog w) A (eval elt (compEnvC scope cl C env)) Q E s')
    (hfold0 : ∀ x, foldedSetIterable i0 env x = pure x)
    (hQ : ∀ D ys h' tk, Fr h₀ L h' (fun z => if z = y then some (.ref D) else m z) → News h₀ L h' ((D, lst ys) :: news) → (∀ p ∈ news, p.1 < D) → IntsAre ys (rs.map fun r => (r.length : Int)) → TokB ys tk → Q .next { s with heap := h', toks := tk }) :
    wpAny (model prog w) A (exec (.Assign [.Name y py] (.ListComp elt [⟨.Name x0 p0, i0, [], 0⟩] scope pos) spos) env) Q E s := by
  subst hLe
  rw [exec_Assign_Name_used _ _ _ _ hsw]
  refine wpAny_bind (wpAny_standAt (wpAny_bind ?_))
  show wpAny _ A (do let _ ← comprehension (.ListComp elt [⟨.Name x0 p0, i0, [], 0⟩] scope pos) scope env _ (newList []) false (eval i0 env) (some (assign (.Name y py) env))) _ _ s
  refine wpAny_bind (wpAny_mono (wpAny_comprehension_free (use := some (assign (.Name y py) env)) (Q := fun _ s' => Q .next s') rfl hfold0 hclos hkind hnames (hi0 _ _ ?_)) (fun _ s' hq => wpAny_pure (wpAny_pure hq)) fun _ _ e => e)
  refine wpAny_pyIter_list (isl N hax) ?_
  generalize hH1 : s.heap.push { cls := .type "list_iterator", data := .fields #[.ref ax, .int 0 0] } = H1
  refine wpAny_newObj_type (wpAny_newFunctionEnv hcell (by intro y hy; simp at hy) (fun h₁ hns₁ hsb₁ => ?_) hkind)
  dsimp only at hns₁ hsb₁ ⊢
  generalize hH2 : H1.push { cls := .type "list", dict := none, data := .seq ([] : List Value).toArray } = H2 at hns₁ hsb₁ ⊢
  have s1 : H1.objs.size = s.heap.objs.size + 1 := by rw [← hH1, Heap.size_push]
  have s2 : H2.objs.size = s.heap.objs.size + 2 := by rw [← hH2, Heap.size_push, s1]
  have k1 : ∀ b o, s.heap.get? b = some o → H1.get? b = some o := fun b o e => hH1 ▸ Heap.get?_push_of_some _ e
  have k2 : ∀ b o, H1.get? b = some o → H2.get? b = some o := fun b o e => hH2 ▸ Heap.get?_push_of_some _ e
  have n1 : H1.get? s.heap.objs.size = some { cls := .type "list_iterator", data := .fields #[.ref ax, .int 0 0] } := hH1 ▸ Heap.get?_push_size _ rfl
  have n2 : H2.get? H1.objs.size = some (lst []) := hH2 ▸ Heap.get?_push_size _ rfl
  have old : ∀ b o, s.heap.get? b = some o → b < s.heap.objs.size ∧ h₁.get? b = some o := fun b o e =>
    ⟨Heap.lt_size e, hsb₁.extBut b o (Nat.ne_of_lt (Nat.lt_of_lt_of_le (Heap.lt_size e) (by rw [s2]; omega))) (Heap.get?_push_of_some _ (k2 _ _ (k1 _ _ e)))⟩
  have eI : h₁.get? s.heap.objs.size = some { cls := .type "list_iterator", data := .fields #[.ref ax, .int 0 0] } := hsb₁.extBut _ _ (Nat.ne_of_lt (by rw [s2]; omega)) (Heap.get?_push_of_some _ (k2 _ _ n1))
  have eD : h₁.get? H1.objs.size = some (lst []) := hsb₁.extBut _ _ (Nat.ne_of_lt (by rw [s1, s2]; omega)) (Heap.get?_push_of_some _ n2)
  have eax := old ax _ (N _ hax).1
  have all0 : ∀ (h'' : Heap), TKeep [s.heap.objs.size, H2.objs.size, H1.objs.size] h₁ h'' → ∀ b o, s.heap.get? b = some o → h''.get? b = some o := fun h'' hk b o e => by
    have q := old b o e
    exact hk _ _ (by simp; exact ⟨Nat.ne_of_lt q.1, Nat.ne_of_lt (Nat.lt_of_lt_of_le q.1 (by rw [s2]; omega)), Nat.ne_of_lt (Nat.lt_of_lt_of_le q.1 (by rw [s1]; omega))⟩) q.2
  have loop : codeAny (model prog w) A (.compLoop (.ListComp elt [⟨.Name x0 p0, i0, [], 0⟩] scope pos) 0 (.ref s.heap.objs.size) (.ref H1.objs.size) (compEnvC scope cl H2.objs.size env))
      (compPost (model prog w) A E (some (assign (.Name y py) env)) (fun _ s' => Q .next s') (.ref H1.objs.size) H2.objs.size) { s with heap := h₁, toks := s.toks + ([] : List (Str × Value)).length } := by
    refine len_loop (cenv := compEnvC scope cl H2.objs.size env) (C := H2.objs.size) (D := H1.objs.size) (I := s.heap.objs.size) (ax := ax) rfl (lookup_relabel_local hx0) (by simp [compEnvC, relabel, hkind]) hh hs
      (by rw [s2]; exact Nat.ne_of_lt (by omega)) (by rw [s1]; exact Nat.ne_of_lt (by omega)) (by rw [s1, s2]; exact Nat.ne_of_gt (by omega)) (Nat.ne_of_lt eax.1) (Nat.ne_of_lt (Nat.lt_of_lt_of_le eax.1 (by rw [s2]; omega))) (Nat.ne_of_lt (Nat.lt_of_lt_of_le eax.1 (by rw [s1]; omega))) hyl
      (fun s' m' r u Q E hr hk hn hm hq => hel _ s' m' r u Q E hr (F.keeps (all0 _ hk)) hn hm hq) ⟨_, eI, rfl, rfl⟩ ⟨_, eax.2, rfl, nn, rfl⟩ eD hns₁ ?_
    intro h' tk' m' ys hk hn' hd' hys htk
    have old' : ∀ b o, s.heap.get? b = some o → h'.get? b = some o := all0 _ hk
    have F' : Fr h₀ env.locals h' m := F.keeps old'
    show wpAny _ A (assign (.Name y py) env (.ref H1.objs.size)) _ _ _
    refine wpAny_assign_Name (wpAny_storeName_local hy F'.ns (fun h₂ hn₂ hs₂ => ?_) hp)
    have hCL : H2.objs.size ≠ env.locals := Nat.ne_of_gt (Nat.lt_of_lt_of_le F.ns.lt (by rw [s2]; omega))
    have hDL : H1.objs.size ≠ env.locals := Nat.ne_of_gt (Nat.lt_of_lt_of_le F.ns.lt (by rw [s1]; omega))
    have F₂ := F'.set hn₂ hs₂
    refine ⟨m', hn'.sameBut hs₂ hCL, fun h'' hs'' => ?_⟩
    have hC₀ : ∀ b o, s.heap.get? b = some o → b ≠ H2.objs.size := fun b o e => Nat.ne_of_lt (Nat.lt_of_lt_of_le (Heap.lt_size e) (by rw [s2]; omega))
    refine hQ H1.objs.size ys h'' _ ⟨?_, fun b o hb => hs''.extBut b o (hC₀ b o (F.keep b o hb)) (F₂.keep b o hb), F₂.above⟩ (fun p hp => ?_) (fun p hp => by rw [s1]; exact Nat.lt_succ_of_lt (Heap.lt_size (N p hp).1)) hys (tokB_mono htk (by first | exact Nat.le_refl _ | exact Nat.le_succ _))
    · exact F₂.ns.at' fun o e => hs''.extBut _ o (Ne.symm hCL) e
    · rcases List.mem_cons.mp hp with rfl | hp
      · refine ⟨hs''.extBut _ _ (Nat.ne_of_lt (by rw [s1, s2]; omega)) (hs₂.extBut _ _ hDL hd'), hDL, ?_⟩
        cases z : h₀.get? H1.objs.size with
        | none => rfl
        | some o => exact absurd (Heap.lt_size (F.keep _ _ z)) (by rw [s1]; exact Nat.not_lt.mpr (Nat.le_succ _))
      · exact ⟨hs''.extBut _ _ (hC₀ _ _ (N p hp).1) (hs₂.extBut _ _ (N p hp).2.1 (old' _ _ (N p hp).1)), (N p hp).2⟩
  exact codeAny_compStart_list loop (wpAny_pyIter_listiter (i := 0) ⟨_, eI, rfl, rfl⟩ loop)
end
set_option maxRecDepth 100000
set_option maxHeartbeats 2000000
set_option Elab.async false
section
variable {prog : Program} {w : World} {A : Around} {E : Value → Shared → Prop} {s : Shared} {env : Env} {h₀ : Heap} {x : Str} {px pos : Pos} {body : List Stmt} {iter target : Expr} {Q : Flow → Shared → Prop} {m : Str → Option Value} {news : List (Addr × Obj)}
theorem ForT {M : Model} {orelse : List Stmt} (n : Nat) (hn : n ≤ s.toks)
    (h : wpAny M A (eval iter env) (fun x s₁ => n ≤ s₁.toks → wpAny M A (pyIter x) (fun it s₂ =>
      codeAny M A (.forLoop target it body orelse env) (fun r s' => match r with | .ok f => Q f s' | .error e => cameBackBy M A env E e s') s₂) E s₁) E s)
    (hs : ∀ x, foldedSetIterable iter env x = pure x := by intro _; rfl) : wpAny M A (exec (.For target iter body orelse pos) env) Q E s :=
  wpAny_For (wpAny_with_toks hn (wpAny_mono h (fun _ _ q => q) fun _ _ e _ => e)) hs
theorem for4 {r : Addr} {t₀ u₀ v₀ : Tok} {n T : Nat} (hh : A.handled = none) (hr : IsRange s.heap r 0 (n : Int) 1 t₀ u₀ v₀) (hsm : Builtin.Range.small 0 (n : Int) 1 = true) (hn : Builtin.Range.rangeSize 0 (n : Int) 1 = (n : Int)) (hT : T ≤ s.toks) (hx : env.kindOf x = some .local)
    (hp : (env.scope.kind == .class || (env.scope.kind == .module && env.locals != env.globals)) = false) (F : Fr h₀ env.locals s.heap m) (N : News h₀ env.locals s.heap news)
    (turn : ∀ (i : Nat) (t : Tok) (I : Addr) (it : Obj) h tk (E' : Value → Shared → Prop), i < n → T ≤ t → (∀ p ∈ news, p.1 ≠ I) → Fr h₀ env.locals h (fun y => if y = x then some (.int (i : Int) t) else m y) → News h₀ env.locals h ((I, it) :: news) →
      wpAny (model prog w) A (execs body env) (fun f s₂ => Stop (f = .next ∧ ∃ h' tk', s₂ = { s with heap := h', toks := tk' } ∧ Fr h₀ env.locals h' (fun y => if y = x then some (.int (i : Int) t) else m y) ∧ News h₀ env.locals h' ((I, it) :: news))) E' { s with heap := h, toks := tk })
    (done : ∀ (m' : Str → Option Value) h tk, (∀ y, y ≠ x → m' y = m y) → Fr h₀ env.locals h m' → News h₀ env.locals h news → Q .next { s with heap := h, toks := tk }) :
    wpAny (model prog w) A (pyIter (.ref r)) (fun it s₂ => codeAny (model prog w) A (.forLoop (.Name x px) it body [] env) (fun r s' => match r with | .ok f => Q f s' | .error e => cameBackBy (model prog w) A env E e s') s₂) E s := by
  refine wpAny_pyIter_range hr hsm ?_
  have hnew : h₀.get? s.heap.objs.size = none := kts_none F.keep (Heap.get?_none_of_le (Nat.le_refl _))
  have hIL : s.heap.objs.size ≠ env.locals := fun q => absurd F.ns.lt (q ▸ Nat.lt_irrefl _)
  have off : ∀ p ∈ news, p.1 ≠ s.heap.objs.size := fun p hp => Nat.ne_of_lt (Heap.lt_size (N p hp).1)
  refine codeAny_forLoop (fun k s' => ∃ (i : Nat) (h : Heap) (tk : Nat) (m' : Str → Option Value), s' = { s with heap := h, toks := tk } ∧ k = n + 1 - i ∧ i ≤ n ∧ T ≤ tk ∧ IsRangeIter h s.heap.objs.size (i : Int) ((n : Int) - (i : Int)) 1 ∧ (∀ y, y ≠ x → m' y = m y) ∧ Fr h₀ env.locals h m' ∧ News h₀ env.locals h news) ?_ (n + 1)
    ⟨0, _, _, m, rfl, rfl, Nat.zero_le _, Nat.le_trans hT (by first | exact Nat.le_refl _ | exact Nat.le_succ _), (by show IsRangeIter _ _ _ _ _; rw [hn]; simpa using Heap.get?_push_size _ rfl), fun _ _ => rfl, F.push _, fun p hp => ⟨Heap.get?_push_of_some _ (N p hp).1, (N p hp).2⟩⟩
  rintro k s' ⟨i, h, tk, m', rfl, rfl, hi, htk, hit, hm', F', N'⟩
  by_cases hlt : i < n
  · refine wpAny_pyNext_range_item hit (by omega) fun h' hit' hs' => ?_
    have F₁ : Fr h₀ env.locals h' m' := by
      obtain ⟨o, es, ep, ho, r⟩ := F'.ns
      exact ⟨⟨o, es, ep, hs'.extBut _ _ (Ne.symm hIL) ho, r⟩, fun b o hb => hs'.extBut b o (fun q => by rw [q, hnew] at hb; cases hb) (F'.keep b o hb), F'.above⟩
    refine wpAny_assign_Name (wpAny_storeName_local hx F₁.ns (fun h₂ hn₂ hs₂ => ?_) hp)
    have e : (fun y => if y = x then some (Value.int (i : Int) tk) else m' y) = fun y => if y = x then some (Value.int (i : Int) tk) else m y := by
      funext y
      by_cases q : y = x
      · rw [if_pos q, if_pos q]
      · rw [if_neg q, if_neg q, hm' y q]
    have F₂ := F₁.set hn₂ hs₂
    rw [e] at F₂
    have hiI : h₂.get? s.heap.objs.size = some (itR ((i : Int) + 1) ((n : Int) - (i : Int) - 1)) := hs₂.extBut _ _ hIL hit'
    have N₂ : News h₀ env.locals h₂ ((s.heap.objs.size, itR ((i : Int) + 1) ((n : Int) - (i : Int) - 1)) :: news) := fun p hp => by
      rcases List.mem_cons.mp hp with rfl | hp
      · exact ⟨hiI, hIL, hnew⟩
      · have z := N' p hp
        exact ⟨hs₂.extBut _ _ z.2.1 (hs'.extBut _ _ (off p hp) z.1), z.2⟩
    refine wpAny_with_toks (n := tk) (show tk ≤ tk + 1 + 1 from Nat.le_add_right _ 2) ?_
    refine wpAny_mono (turn i tk _ _ h₂ _ _ hlt htk off F₂ N₂) (fun f s₂ hq hle => ?_) fun _ _ q => q
    unfold Stop at hq
    obtain ⟨rfl, h3, tk3, rfl, F₃, N₃⟩ := hq
    refine ⟨n + 1 - (i + 1), by omega, i + 1, h3, tk3, _, rfl, rfl, hlt, Nat.le_trans htk hle, ?_, (fun y q => if_neg q), F₃, fun p hp => N₃ p (List.mem_cons_of_mem _ hp)⟩
    have z := (N₃ _ List.mem_cons_self).1
    show h3.get? _ = some _
    rw [z]
    have e2 : (n : Int) - ((i + 1 : Nat) : Int) = (n : Int) - (i : Int) - 1 := by omega
    rw [e2]
    rfl
  · have ei : i = n := by omega
    subst ei
    refine wpAny_pyNext_range_end hh hit (by omega) fun h' hk' => ?_
    refine wpAny_execs_nil ?_
    refine done m' h' _ hm' ⟨?_, fun b o hb => hk' b o (fun q => by rw [q, hnew] at hb; cases hb) (F'.keep b o hb), F'.above⟩ fun p hp => ⟨hk' _ _ (off p hp) (N' p hp).1, (N' p hp).2⟩
    exact F'.ns.at' fun o e => hk' _ o (Ne.symm hIL) e
end
theorem ne_intE {prog : Program} {w : World} {A : Around} {E : Value → Shared → Prop} {s : Shared} {a b : Int} {t u : Tok} {Q : Value → Shared → Prop} (e : a = b) (h : Q (.bool false) s) : wpAny (model prog w) A (compareOp .NotEq (.int a t) (.int b u)) Q E s := by
  subst e
  exact ne_int (by simpa using h)
set_option Elab.async false
set_option maxRecDepth 100000
set_option maxHeartbeats 5000000
section
variable {w : World} {o : OsState} {mean : ExcName → Option Value} {loose : List Str} {mg mb : Str → Option Value} {dp un : Nat} {gd : Option (List Code)} {cn : Str} {cs : Scope} {a : Addr} {ccd : Value} {cl : List (Str × Addr)} {outer : List Env} {A₀ : Around} {base h₀ : Heap} {L : Addr} {m : Str → Option Value} {news : List (Addr × Obj)} {s : Shared} {Q E : Value → Shared → Prop}
theorem st11 (B : Below A₀ base [] h₀) (F : Fr h₀ L s.heap m) (X : (KF w.params).In h₀) (N : News h₀ L s.heap news) (T : Top topProg loose mean mg mb h₀) (hd : dp + 4 < recursionLimit) (hu : un + 100 < cLine) {Q : Flow → Shared → Prop} {a1 : Addr} {v1 : List Value} {n1 : Nat} {S1 : List Str} (ha1 : (a1, listOf v1.toArray n1) ∈ news) (hv1 : StrsAre v1 S1) (l1 : S1.length ≤ 40) (l3 : ∀ x ∈ S1, x.length ≤ 3) (m1 : m (Str.ofString "one") = some (.ref a1))
  (ret : ∀ D c ys h' tk', Fr h₀ L h' (fun y => if y = Str.ofString "first" then some (.ref D) else m y) → News h₀ L h' ((D, listOf (List.toArray ys) c) :: news) → IntsAre ys (S1.map fun r => (r.length : Int)) → TokB ys tk' → Q .next { s with heap := h', toks := tk' }) :
  wpAny (model (OpenLaw.row PySem.Challenge.rw_in0163_01).toRowW.prog w) (ktrTop dp un gd (Str.ofString "law") lawSc.1 L a ccd (lawCl L) []) (exec lawS11.1 (envX (Str.ofString "law") lawSc.1 L a ccd (lawCl L))) Q E s := by
  dsimp only [lawS11, lawSc, lawCl]
  revert X; k_fill; intro X
  k_with_none
  k_with "execs cons" => ((k_dflt (refine wpAny_execs_cons ?_)); (try dsimp only))
  k_with "execs nil" => (k_dflt (refine wpAny_execs_nil ?_))
  k_with "exec If" => (k_dflt (refine wpAny_If ?_))
  k_with "exec Assign" => (k_dflt (refine wpAny_Assign_Name ?_))
  k_with "eval Name" => (k_dflt (refine' nameX_L ?F ?v ?_ ?a ?b ?d; (case F => k_asm); (case a => rfl); (case b => kernel_rfl!); (case d => kernel_rfl); (case v => first | rfl | assumption); k_whole))
  k_with "storeName" => (k_dflt (refine' storeX_L ?F ?N ?_ ?a ?b; (case F => k_asm); (case N => k_asm); (case a => rfl); (case b => rfl); k_whole; intro hS7 FS7 NS7; (try k_sweep)))
  k_with "spliced" => (k_dflt (first | refine args_cons ?_ | (refine args_nil ?_; try simp only [List.cons_append, List.nil_append])))
  k_with "ite" => (k_dflt (first | refine ite_pos (by decide +kernel) ?_ | refine ite_neg (by decide +kernel) ?_))
  k_with "And" => ((with_reducible show PySem.Str.length (_ ++ _) ≤ sizeLine ∧ _); refine ⟨Nat.le_of_ble_eq_true (by kernel_rfl!), ?_⟩)
  k_with "exec Assign cons Tuple" => (k_dflt (refine Assign_Tuple ?_))
  k_with "callWith ref" => (k_dflt (refine' callWith_K ?k1 ?k2 ?_; (case k1 => k_asm); (case k2 => k_is); k_whole))
  k_with "truthy bool" => (k_dflt (refine wpAny_truthy_bool ?_))
  k_with "isTrue Compare" => (k_dflt (refine wpAny_isTrue_Compare1 ?_))
  k_with "room" => (k_dflt (first | exact om_s2 (by assumption) (by rfl) | exact om_s1 (by assumption) (by rfl) | exact om_s0 (by assumption)))
  k_with "ne" => with_reducible (first | assumption | exact om_sy (by assumption) | exact Nat.ne_of_gt (by assumption) | exact Nat.ne_of_lt (by assumption) | exact om_n1 (by assumption) | exact om_n2 (by assumption) | exact om_n3 (by assumption) | exact om_z2 (by assumption) | exact om_z3 (by assumption) | exact om_z4 (by assumption) | exact (om_n1 (by assumption)).symm | exact (om_n2 (by assumption)).symm | exact (om_n3 (by assumption)).symm | exact (om_z2 (by assumption)).symm | exact (om_z3 (by assumption)).symm | exact (om_z4 (by assumption)).symm | exact om_n4 (by assumption) | exact om_z5 (by assumption) | exact (om_n4 (by assumption)).symm | exact (om_z5 (by assumption)).symm | exact om_n5 (by assumption) | exact om_z6 (by assumption) | exact (om_n5 (by assumption)).symm | exact (om_z6 (by assumption)).symm | exact om_e1 (by assumption) | exact om_e2 (by assumption) | exact om_e3 (by assumption))
  k_with "om" => with_reducible (first | ((show _ ≠ _); k_extra "ne") | ((show @LT.lt Nat _ (_ + _ + _) _); exact om_s2 (by assumption) (by decide)) | ((show @LT.lt Nat _ (_ + _) _); exact om_s1 (by assumption) (by decide)) | ((show @LT.lt Nat _ _ _); first | assumption | exact om_s0 (by assumption)) | ((show @LE.le Nat _ (_ + 1) _); exact om_succ (by assumption) (by assumption)) | ((show @LE.le Nat _ _ _); first | exact Nat.zero_le _ | assumption | exact om_le (by assumption) (by decide) | exact om_lt_le (by assumption) (by decide) | exact om_eq_le (by assumption) (by assumption) (by decide) | exact om_eq_le' (by assumption) (by assumption) (by decide)) | ((show _ ∧ _); first | exact om_rg (by assumption) (by decide) | exact om_r1 (by assumption) (by decide)))
  k_with "all" => exact fun p9 hp9 => Nat.ne_of_lt (by first | exact l1 p9 hp9 | exact Nat.lt_succ_of_lt (l1 p9 hp9))
  have hl1 := hv1.length
  refine' assign_len (rs := S1) ?hL ?hsw ?hy ?hp F N ha1 hv1 ?hh ?hyl ?hclos ?hcell ?hkind ?hnames ?hx0 ?hi0 ?hel ?hf ?_
  case hL => rfl
  case hsw => with_unfolding_all rfl
  case hy => rfl
  case hp => rfl
  case hh => rfl
  case hyl => omega
  case hclos => with_unfolding_all rfl
  case hcell => decide
  case hkind => rfl
  case hnames => decide
  case hx0 => rfl
  case hf => (intro x8; rfl)
  case hi0 => (intro Q8 E8 h8; exact nameX_L F m1 h8 (by rfl) (by rfl) (by decide))
  case hel => (intro C8 s8 m8 r8 u8 Q8 E8 hr8 hF8 hn8 hm8 h8; have hr3 := l3 r8 hr8; exact Call_ (LCgL.ld_built hF8 X T (by k_is) PyProof.Rows.Boot.«len» (by decide) (PyProof.Rows.callWith_builtin1 (spliced_more (wpAny_Name (wpAny_loadName_local (by rfl) (lookup_relabel_local rfl) hn8 hm8 (spliced_none (len_str (by omega) h8))) (by decide))))))
  intro D9 ys9 h9 tk9 F9 N9 l9 hy9 ht9
  exact ret _ _ _ _ _ F9 N9 hy9 ht9
end
set_option Elab.async false
set_option maxRecDepth 100000
set_option maxHeartbeats 5000000
section
variable {w : World} {o : OsState} {mean : ExcName → Option Value} {loose : List Str} {mg mb : Str → Option Value} {dp un : Nat} {gd : Option (List Code)} {cn : Str} {cs : Scope} {a : Addr} {ccd : Value} {cl : List (Str × Addr)} {outer : List Env} {A₀ : Around} {base h₀ : Heap} {L : Addr} {m : Str → Option Value} {news : List (Addr × Obj)} {s : Shared} {Q E : Value → Shared → Prop}
theorem st12 (B : Below A₀ base [] h₀) (F : Fr h₀ L s.heap m) (X : (KF w.params).In h₀) (N : News h₀ L s.heap news) (T : Top topProg loose mean mg mb h₀) (hd : dp + 4 < recursionLimit) (hu : un + 100 < cLine) {Q : Flow → Shared → Prop} {a1 : Addr} {v1 : List Value} {n1 : Nat} {S1 : List Str} (ha1 : (a1, listOf v1.toArray n1) ∈ news) (hv1 : StrsAre v1 S1) (l1 : S1.length ≤ 40) (l3 : ∀ x ∈ S1, x.length ≤ 3) (m1 : m (Str.ofString "two") = some (.ref a1))
  (ret : ∀ D c ys h' tk', Fr h₀ L h' (fun y => if y = Str.ofString "second" then some (.ref D) else m y) → News h₀ L h' ((D, listOf (List.toArray ys) c) :: news) → IntsAre ys (S1.map fun r => (r.length : Int)) → TokB ys tk' → Q .next { s with heap := h', toks := tk' }) :
  wpAny (model (OpenLaw.row PySem.Challenge.rw_in0163_01).toRowW.prog w) (ktrTop dp un gd (Str.ofString "law") lawSc.1 L a ccd (lawCl L) []) (exec lawS12.1 (envX (Str.ofString "law") lawSc.1 L a ccd (lawCl L))) Q E s := by
  dsimp only [lawS12, lawSc, lawCl]
  revert X; k_fill; intro X
  k_with_none
  k_with "execs cons" => ((k_dflt (refine wpAny_execs_cons ?_)); (try dsimp only))
  k_with "execs nil" => (k_dflt (refine wpAny_execs_nil ?_))
  k_with "exec If" => (k_dflt (refine wpAny_If ?_))
  k_with "exec Assign" => (k_dflt (refine wpAny_Assign_Name ?_))
  k_with "eval Name" => (k_dflt (refine' nameX_L ?F ?v ?_ ?a ?b ?d; (case F => k_asm); (case a => rfl); (case b => kernel_rfl!); (case d => kernel_rfl); (case v => first | rfl | assumption); k_whole))
  k_with "storeName" => (k_dflt (refine' storeX_L ?F ?N ?_ ?a ?b; (case F => k_asm); (case N => k_asm); (case a => rfl); (case b => rfl); k_whole; intro hS7 FS7 NS7; (try k_sweep)))
  k_with "spliced" => (k_dflt (first | refine args_cons ?_ | (refine args_nil ?_; try simp only [List.cons_append, List.nil_append])))
  k_with "ite" => (k_dflt (first | refine ite_pos (by decide +kernel) ?_ | refine ite_neg (by decide +kernel) ?_))
  k_with "And" => ((with_reducible show PySem.Str.length (_ ++ _) ≤ sizeLine ∧ _); refine ⟨Nat.le_of_ble_eq_true (by kernel_rfl!), ?_⟩)
  k_with "exec Assign cons Tuple" => (k_dflt (refine Assign_Tuple ?_))
  k_with "callWith ref" => (k_dflt (refine' callWith_K ?k1 ?k2 ?_; (case k1 => k_asm); (case k2 => k_is); k_whole))
  k_with "truthy bool" => (k_dflt (refine wpAny_truthy_bool ?_))
  k_with "isTrue Compare" => (k_dflt (refine wpAny_isTrue_Compare1 ?_))
  k_with "room" => (k_dflt (first | exact om_s2 (by assumption) (by rfl) | exact om_s1 (by assumption) (by rfl) | exact om_s0 (by assumption)))
  k_with "ne" => with_reducible (first | assumption | exact om_sy (by assumption) | exact Nat.ne_of_gt (by assumption) | exact Nat.ne_of_lt (by assumption) | exact om_n1 (by assumption) | exact om_n2 (by assumption) | exact om_n3 (by assumption) | exact om_z2 (by assumption) | exact om_z3 (by assumption) | exact om_z4 (by assumption) | exact (om_n1 (by assumption)).symm | exact (om_n2 (by assumption)).symm | exact (om_n3 (by assumption)).symm | exact (om_z2 (by assumption)).symm | exact (om_z3 (by assumption)).symm | exact (om_z4 (by assumption)).symm | exact om_n4 (by assumption) | exact om_z5 (by assumption) | exact (om_n4 (by assumption)).symm | exact (om_z5 (by assumption)).symm | exact om_n5 (by assumption) | exact om_z6 (by assumption) | exact (om_n5 (by assumption)).symm | exact (om_z6 (by assumption)).symm | exact om_e1 (by assumption) | exact om_e2 (by assumption) | exact om_e3 (by assumption))
  k_with "om" => with_reducible (first | ((show _ ≠ _); k_extra "ne") | ((show @LT.lt Nat _ (_ + _ + _) _); exact om_s2 (by assumption) (by decide)) | ((show @LT.lt Nat _ (_ + _) _); exact om_s1 (by assumption) (by decide)) | ((show @LT.lt Nat _ _ _); first | assumption | exact om_s0 (by assumption)) | ((show @LE.le Nat _ (_ + 1) _); exact om_succ (by assumption) (by assumption)) | ((show @LE.le Nat _ _ _); first | exact Nat.zero_le _ | assumption | exact om_le (by assumption) (by decide) | exact om_lt_le (by assumption) (by decide) | exact om_eq_le (by assumption) (by assumption) (by decide) | exact om_eq_le' (by assumption) (by assumption) (by decide)) | ((show _ ∧ _); first | exact om_rg (by assumption) (by decide) | exact om_r1 (by assumption) (by decide)))
  k_with "all" => exact fun p9 hp9 => Nat.ne_of_lt (by first | exact l1 p9 hp9 | exact Nat.lt_succ_of_lt (l1 p9 hp9))
  have hl1 := hv1.length
  refine' assign_len (rs := S1) ?hL ?hsw ?hy ?hp F N ha1 hv1 ?hh ?hyl ?hclos ?hcell ?hkind ?hnames ?hx0 ?hi0 ?hel ?hf ?_
  case hL => rfl
  case hsw => with_unfolding_all rfl
  case hy => rfl
  case hp => rfl
  case hh => rfl
  case hyl => omega
  case hclos => with_unfolding_all rfl
  case hcell => decide
  case hkind => rfl
  case hnames => decide
  case hx0 => rfl
  case hf => (intro x8; rfl)
  case hi0 => (intro Q8 E8 h8; exact nameX_L F m1 h8 (by rfl) (by rfl) (by decide))
  case hel => (intro C8 s8 m8 r8 u8 Q8 E8 hr8 hF8 hn8 hm8 h8; have hr3 := l3 r8 hr8; exact Call_ (LCgL.ld_built hF8 X T (by k_is) PyProof.Rows.Boot.«len» (by decide) (PyProof.Rows.callWith_builtin1 (spliced_more (wpAny_Name (wpAny_loadName_local (by rfl) (lookup_relabel_local rfl) hn8 hm8 (spliced_none (len_str (by omega) h8))) (by decide))))))
  intro D9 ys9 h9 tk9 F9 N9 l9 hy9 ht9
  exact ret _ _ _ _ _ F9 N9 hy9 ht9
end
set_option Elab.async false
set_option maxRecDepth 100000
set_option maxHeartbeats 5000000
section
variable {w : World} {o : OsState} {mean : ExcName → Option Value} {loose : List Str} {mg mb : Str → Option Value} {dp un : Nat} {gd : Option (List Code)} {cn : Str} {cs : Scope} {a : Addr} {ccd : Value} {cl : List (Str × Addr)} {outer : List Env} {A₀ : Around} {base h₀ : Heap} {L : Addr} {m : Str → Option Value} {news : List (Addr × Obj)} {s : Shared} {Q E : Value → Shared → Prop}
theorem countOf_c (B : Below A₀ base outer h₀) (F : Fr h₀ L s.heap m) (X : (KF w.params).In h₀) (N : News h₀ L s.heap news) (T : Top topProg loose mean mg mb h₀) (hk : cs.kind = .function) (hd : dp + 2 < recursionLimit) (hu : un + 16 < cLine) {ra : Addr} {vs : List Value} {na : Nat} {ns : List Int} {b : Int} {t : Tok} (hra : (ra, listOf vs.toArray na) ∈ news) (hs : IntsAre vs ns) (hsm : ∀ x ∈ ns, 0 ≤ x ∧ x ≤ 3) (htok : ∀ x y, Value.int x y ∈ vs → 0 < y ∧ y < t)
  (ret : ∀ t h' tk', Fr h₀ L h' m → News h₀ L h' news → Q (.int (ns.count b : Nat) t) { s with heap := h', toks := tk' }) :
  wpAny (model (OpenLaw.row PySem.Challenge.rw_in0163_01).toRowW.prog w) (ktrTop dp un gd cn cs L a ccd cl outer) (call (.ref 87) [.ref ra, .int b t]) Q E s := by
  revert X; k_fill; intro X
  k_with_none
  k_with "execs cons" => ((k_dflt (refine wpAny_execs_cons ?_)); (try dsimp only))
  k_with "execs nil" => (k_dflt (refine wpAny_execs_nil ?_))
  k_with "exec If" => (k_dflt (refine wpAny_If ?_))
  k_with "exec Assign" => (k_dflt (refine wpAny_Assign_Name ?_))
  k_with "eval Name" => (k_dflt (refine' nameX_L ?F ?v ?_ ?a ?b ?d; (case F => k_asm); (case a => rfl); (case b => kernel_rfl!); (case d => kernel_rfl); (case v => first | rfl | assumption); k_whole))
  k_with "storeName" => (k_dflt (refine' storeX_L ?F ?N ?_ ?a ?b; (case F => k_asm); (case N => k_asm); (case a => rfl); (case b => rfl); k_whole; intro hS7 FS7 NS7; (try k_sweep)))
  k_with "spliced" => (k_dflt (first | refine args_cons ?_ | (refine args_nil ?_; try simp only [List.cons_append, List.nil_append])))
  k_with "ite" => (k_dflt (first | refine ite_pos (by decide +kernel) ?_ | refine ite_neg (by decide +kernel) ?_))
  k_with "And" => ((with_reducible show PySem.Str.length (_ ++ _) ≤ sizeLine ∧ _); refine ⟨Nat.le_of_ble_eq_true (by kernel_rfl!), ?_⟩)
  k_with "exec Assign cons Tuple" => (k_dflt (refine Assign_Tuple ?_))
  k_with "callWith ref" => (k_dflt (refine' callWith_K ?k1 ?k2 ?_; (case k1 => k_asm); (case k2 => k_is); k_whole))
  k_with "truthy bool" => (k_dflt (refine wpAny_truthy_bool ?_))
  k_with "isTrue Compare" => (k_dflt (refine wpAny_isTrue_Compare1 ?_))
  k_with "room" => (k_dflt (first | exact om_s2 (by assumption) (by rfl) | exact om_s1 (by assumption) (by rfl) | exact om_s0 (by assumption)))
  k_with "ne" => with_reducible (first | assumption | exact om_sy (by assumption) | exact Nat.ne_of_gt (by assumption) | exact Nat.ne_of_lt (by assumption) | exact om_n1 (by assumption) | exact om_n2 (by assumption) | exact om_n3 (by assumption) | exact om_z2 (by assumption) | exact om_z3 (by assumption) | exact om_z4 (by assumption) | exact (om_n1 (by assumption)).symm | exact (om_n2 (by assumption)).symm | exact (om_n3 (by assumption)).symm | exact (om_z2 (by assumption)).symm | exact (om_z3 (by assumption)).symm | exact (om_z4 (by assumption)).symm | exact om_n4 (by assumption) | exact om_z5 (by assumption) | exact (om_n4 (by assumption)).symm | exact (om_z5 (by assumption)).symm | exact om_n5 (by assumption) | exact om_z6 (by assumption) | exact (om_n5 (by assumption)).symm | exact (om_z6 (by assumption)).symm | exact om_e1 (by assumption) | exact om_e2 (by assumption) | exact om_e3 (by assumption))
  k_with "om" => with_reducible (first | ((show _ ≠ _); k_extra "ne") | ((show @LT.lt Nat _ (_ + _ + _) _); exact om_s2 (by assumption) (by decide)) | ((show @LT.lt Nat _ (_ + _) _); exact om_s1 (by assumption) (by decide)) | ((show @LT.lt Nat _ _ _); first | assumption | exact om_s0 (by assumption)) | ((show @LE.le Nat _ (_ + 1) _); exact om_succ (by assumption) (by assumption)) | ((show @LE.le Nat _ _ _); first | exact Nat.zero_le _ | assumption | exact om_le (by assumption) (by decide) | exact om_lt_le (by assumption) (by decide) | exact om_eq_le (by assumption) (by assumption) (by decide) | exact om_eq_le' (by assumption) (by assumption) (by decide)) | ((show _ ∧ _); first | exact om_rg (by assumption) (by decide) | exact om_r1 (by assumption) (by decide)))
  k_with "all" => exact fun p9 hp9 => Nat.ne_of_lt (by first | exact l1 p9 hp9 | exact Nat.lt_succ_of_lt (l1 p9 hp9))
  k_with "pyIter ref" => ((rename Fr _ _ _ _ => lF'); (rename News _ _ _ _ => lN'); (with_unfolding_all refine' ledList (σ := Int × Tok) (fun c => [(ra, listOf vs.toArray na)]) (fun c => [(Str.ofString "count", .int c.1 c.2)]) [] (fun pre c => ∃ np, IntsAre pre np ∧ c.1 = ((np.count b : Nat) : Int)) ⟨_, _⟩ (by rfl) lF' lN' ?hm ?hc ?hd ?hk ?hp ?_ ?_; (case hm => (intro c9; exact List.mem_cons_self)); (case hc => rfl); (case hd => rfl); (case hk => kst_all); (case hp => exact ⟨[], .nil, rfl⟩)); (clear lF' lN'); (rotate_left; (intro c9 u9 h9 tk9 hp9 F9 N9; obtain ⟨k9, kt9⟩ := c9; obtain ⟨np9, hi9, hw9⟩ := hp9; have e9 := ints_uniq hs hi9; subst e9; (dsimp only at *)); rotate_left); (intro c9 pre9 v9 post9 u9 I9 it9 h9 tk9 hv9 hp9 hit9 hI9 F9 N9; obtain ⟨k9, kt9⟩ := c9; obtain ⟨np9, hi9, hw9⟩ := hp9; obtain ⟨a9, ta9, nq9, rfl, en9, hia9⟩ := ints_mid (hv9 ▸ hs) hi9; have hb9 := hsm a9 (by rw [en9]; simp); have ht9 := htok a9 ta9 (by rw [hv9]; simp); (dsimp only at *); (simp only [kstB] at F9)))
  k_with "compareOp Is int int" => (k_dflt (refine is_ints (Nat.ne_of_gt ht9.1) (Nat.ne_of_gt (Nat.lt_trans ht9.1 ht9.2)) (fun _ => Nat.ne_of_lt ht9.2) hb9 ?_))
  k_with "UnrEnd" => ((with_reducible show UnrEnd _ _ _ _ _ (fun m' n' => LedS _ _ _ _ _ _ _ m' n') _); (rename News _ _ _ _ => nE9); (with_reducible refine' led_end ⟨_, _⟩ ?F ?N ?sub ?off ?hk ?hr ?hp); (case F => assumption); (case N => exact nE9); (case hk => with_unfolding_all kst_all); (case sub => ((try dsimp only); with_unfolding_all exact List.forall_mem_cons.mpr ⟨(by repeat (first | assumption | exact List.mem_cons_self | exact List.mem_append_left _ (by assumption) | exact List.mem_append_right _ (by assumption) | refine List.mem_cons_of_mem _ ?_)), List.forall_mem_cons.mpr ⟨(by repeat (first | assumption | exact List.mem_cons_self | exact List.mem_append_left _ (by assumption) | exact List.mem_append_right _ (by assumption) | refine List.mem_cons_of_mem _ ?_)), List.forall_mem_nil _⟩⟩)); (case hr => with_unfolding_all kst_same); (case off => exact List.forall_mem_cons.mpr ⟨hI9 _ (by repeat (first | assumption | exact List.mem_cons_self | exact List.mem_append_left _ (by assumption) | exact List.mem_append_right _ (by assumption) | refine List.mem_cons_of_mem _ ?_)), List.forall_mem_nil _⟩); (case hp => first | exact ⟨_, hia9, cnt1 hw9 (by first | assumption | exact of_decide_eq_true (by assumption))⟩ | exact ⟨_, hia9, cnt2 hw9 (by first | assumption | exact of_decide_eq_false (by assumption))⟩))
  refine wpAny_call ?_
  (k_dflt (refine' code_defR ?k1 ?k2 ?k3 ?k4 ?kO ?k5 ?kA ?kF ?kK ?k6 ?k7 ?k8 ?k9 ?kB ?_ ?c2 ?c3 ?c4 ?c5; (case kO => exact (newsCons N hra newsNil)); (case kA => exact rfl); (case kF => exact rfl); (case kK => assumption); (case k1 => k_asm); (case k2 => k_asm); (case k3 => k_asm); (case k4 => exact N); (case k5 => k_asm); (case k6 => k_is); (case k7 => k_is); (case k8 => ktr_room); (case k9 => exact BindsTo.of_eq rfl); (case c5 => decide); (case kB => exact locs rfl); (case c2 => exact rfl); (case c3 => exact rfl); (case c4 => exact rfl); k_whole; intro g' L' h' K' FG' F' N' B' X' T' l1; clear N; (try k_lt l1); (try dsimp only); (try k_lift B'); (try k_fold)))
  k_steps
  all_goals first | (refine' cb_retI ret ?e1 ?e2 ?e3; (case e2 => k_asm); (case e3 => first | k_asm | (exact Kept.back (by assumption) (by assumption) (by assumption) (by intro p9 hp9; repeat (first | exact hp9 | refine List.mem_cons_of_mem _ ?_))) | (refine' cb_drop ?cbN ?cbS; (case cbN => assumption); (case cbS => (intro p9 hp9; repeat (first | exact hp9 | refine List.mem_cons_of_mem _ ?_))))); (case e1 => (assumption)))
end
set_option Elab.async false
set_option maxRecDepth 100000
set_option maxHeartbeats 5000000
section
variable {w : World} {o : OsState} {mean : ExcName → Option Value} {loose : List Str} {mg mb : Str → Option Value} {dp un : Nat} {gd : Option (List Code)} {cn : Str} {cs : Scope} {a : Addr} {ccd : Value} {cl : List (Str × Addr)} {outer : List Env} {A₀ : Around} {base h₀ : Heap} {L : Addr} {m : Str → Option Value} {news : List (Addr × Obj)} {s : Shared} {Q E : Value → Shared → Prop}
theorem st13 (B : Below A₀ base [] h₀) (F : Fr h₀ L s.heap m) (X : (KF w.params).In h₀) (N : News h₀ L s.heap news) (T : Top topProg loose mean mg mb h₀) (hd : dp + 4 < recursionLimit) (hu : un + 100 < cLine) {Q : Flow → Shared → Prop} {a1 a2 aw : Addr} {v1 v2 vw : List Value} {n1 n2 nw : Nat} {L1 L2 W : List Int} (ha1 : (a1, listOf v1.toArray n1) ∈ news) (ha2 : (a2, listOf v2.toArray n2) ∈ news) (haw : (aw, listOf vw.toArray nw) ∈ news) (h1 : IntsAre v1 L1) (h2 : IntsAre v2 L2) (hw : IntsAre vw W)
  (b1 : ∀ x ∈ L1, 0 ≤ x ∧ x ≤ 3) (b2 : ∀ x ∈ L2, 0 ≤ x ∧ x ≤ 3) (hW : W.length = 4) (t1 : TokB v1 s.toks) (t2 : TokB v2 s.toks) (e1 : ∀ i : Nat, i < 4 → ((L1.count (i : Int) : Nat) : Int) = W.getD i 0) (e2 : ∀ i : Nat, i < 4 → ((L2.count (i : Int) : Nat) : Int) = W.getD i 0)
  (m1 : m (Str.ofString "first") = some (.ref a1)) (m2 : m (Str.ofString "second") = some (.ref a2)) (m3 : m (Str.ofString "ways") = some (.ref aw))
  (ret : ∀ m' h' tk', Fr h₀ L h' m' → News h₀ L h' news → Q .next { s with heap := h', toks := tk' }) :
  wpAny (model (OpenLaw.row PySem.Challenge.rw_in0163_01).toRowW.prog w) (ktrTop dp un gd (Str.ofString "law") lawSc.1 L a ccd (lawCl L) []) (exec lawS13.1 (envX (Str.ofString "law") lawSc.1 L a ccd (lawCl L))) Q E s := by
  dsimp only [lawS13, lawSc, lawCl]
  revert X; k_fill; intro X
  k_with_none
  k_with "execs cons" => ((k_dflt (refine wpAny_execs_cons ?_)); (try dsimp only))
  k_with "execs nil" => (k_dflt (refine wpAny_execs_nil ?_))
  k_with "exec If" => (k_dflt (refine wpAny_If ?_))
  k_with "exec Assign" => (k_dflt (refine wpAny_Assign_Name ?_))
  k_with "eval Name" => (k_dflt (refine' nameX_L ?F ?v ?_ ?a ?b ?d; (case F => k_asm); (case a => rfl); (case b => kernel_rfl!); (case d => kernel_rfl); (case v => first | rfl | assumption); k_whole))
  k_with "storeName" => (k_dflt (refine' storeX_L ?F ?N ?_ ?a ?b; (case F => k_asm); (case N => k_asm); (case a => rfl); (case b => rfl); k_whole; intro hS7 FS7 NS7; (try k_sweep)))
  k_with "spliced" => (k_dflt (first | refine args_cons ?_ | (refine args_nil ?_; try simp only [List.cons_append, List.nil_append])))
  k_with "ite" => (k_dflt (first | refine ite_pos (by decide +kernel) ?_ | refine ite_neg (by decide +kernel) ?_))
  k_with "And" => ((with_reducible show PySem.Str.length (_ ++ _) ≤ sizeLine ∧ _); refine ⟨Nat.le_of_ble_eq_true (by kernel_rfl!), ?_⟩)
  k_with "exec Assign cons Tuple" => (k_dflt (refine Assign_Tuple ?_))
  k_with "callWith ref" => (k_dflt (refine' callWith_K ?k1 ?k2 ?_; (case k1 => k_asm); (case k2 => k_is); k_whole))
  k_with "truthy bool" => (k_dflt (refine wpAny_truthy_bool ?_))
  k_with "isTrue Compare" => (k_dflt (refine wpAny_isTrue_Compare1 ?_))
  k_with "room" => (k_dflt (first | exact om_s2 (by assumption) (by rfl) | exact om_s1 (by assumption) (by rfl) | exact om_s0 (by assumption)))
  k_with "ne" => with_reducible (first | assumption | exact om_sy (by assumption) | exact Nat.ne_of_gt (by assumption) | exact Nat.ne_of_lt (by assumption) | exact om_n1 (by assumption) | exact om_n2 (by assumption) | exact om_n3 (by assumption) | exact om_z2 (by assumption) | exact om_z3 (by assumption) | exact om_z4 (by assumption) | exact (om_n1 (by assumption)).symm | exact (om_n2 (by assumption)).symm | exact (om_n3 (by assumption)).symm | exact (om_z2 (by assumption)).symm | exact (om_z3 (by assumption)).symm | exact (om_z4 (by assumption)).symm | exact om_n4 (by assumption) | exact om_z5 (by assumption) | exact (om_n4 (by assumption)).symm | exact (om_z5 (by assumption)).symm | exact om_n5 (by assumption) | exact om_z6 (by assumption) | exact (om_n5 (by assumption)).symm | exact (om_z6 (by assumption)).symm | exact om_e1 (by assumption) | exact om_e2 (by assumption) | exact om_e3 (by assumption))
  k_with "om" => with_reducible (first | ((show _ ≠ _); k_extra "ne") | ((show @LT.lt Nat _ (_ + _ + _) _); exact om_s2 (by assumption) (by decide)) | ((show @LT.lt Nat _ (_ + _) _); exact om_s1 (by assumption) (by decide)) | ((show @LT.lt Nat _ _ _); first | assumption | exact om_s0 (by assumption)) | ((show @LE.le Nat _ (_ + 1) _); exact om_succ (by assumption) (by assumption)) | ((show @LE.le Nat _ _ _); first | exact Nat.zero_le _ | assumption | exact om_le (by assumption) (by decide) | exact om_lt_le (by assumption) (by decide) | exact om_eq_le (by assumption) (by assumption) (by decide) | exact om_eq_le' (by assumption) (by assumption) (by decide)) | ((show _ ∧ _); first | exact om_rg (by assumption) (by decide) | exact om_r1 (by assumption) (by decide)))
  k_with "all" => exact fun p9 hp9 => Nat.ne_of_lt (by first | exact l1 p9 hp9 | exact Nat.lt_succ_of_lt (l1 p9 hp9))
  k_with "exec For Name Call cons nil" => (k_dflt (refine ForT s.toks (Nat.le_refl _) ?_))
  k_with "forall" => ((with_reducible show (_ ≤ _ → wpAny _ _ (pyIter _) _ _ _)); intro hT9)
  k_with "pyIter ref" => ((rename IsRange _ _ _ _ _ _ _ _ => rgX); k_dflt (refine' for4 (n := 4) (T := s.toks) ?hh rgX ?hsm ?hn hT9 ?hx ?hp ?F ?N ?_ ?_; (case hh => rfl); (case hsm => rfl); (case hn => rfl); (case hx => rfl); (case hp => rfl); (case F => k_asm); (case N => k_asm)); (rotate_left; (intro m9 h9 tk9 hm9 F9 N9); rotate_left); (intro i9 t9 I9 it9 h9 tk9 E9 hi9 ht9 hoff9 F9 N9))
  k_with "call ref" => (k_dflt (first | (refine' countOf_c (ra := a1) ?k1 ?k2 ?k3 ?k4 ?k5 ?k6 ?k7 ?k8 ?x1 h1 b1 (fun x y hm => ⟨(t1 x y hm).1, Nat.lt_of_lt_of_le (t1 x y hm).2 ht9⟩) ?_; (case k1 => k_asm); (case k2 => k_asm); (case k3 => k_asm); (case k4 => k_asm); (case k5 => k_asm); (case k6 => exact rfl); (case k7 => ktr_room); (case k8 => ktr_units); (case x1 => exact (by repeat (first | assumption | exact List.mem_cons_self | exact List.mem_append_left _ (by assumption) | exact List.mem_append_right _ (by assumption) | refine List.mem_cons_of_mem _ ?_)))) | (refine' countOf_c (ra := a2) ?k1 ?k2 ?k3 ?k4 ?k5 ?k6 ?k7 ?k8 ?x1 h2 b2 (fun x y hm => ⟨(t2 x y hm).1, Nat.lt_of_lt_of_le (t2 x y hm).2 ht9⟩) ?_; (case k1 => k_asm); (case k2 => k_asm); (case k3 => k_asm); (case k4 => k_asm); (case k5 => k_asm); (case k6 => exact rfl); (case k7 => ktr_room); (case k8 => ktr_units); (case x1 => exact (by repeat (first | assumption | exact List.mem_cons_self | exact List.mem_append_left _ (by assumption) | exact List.mem_append_right _ (by assumption) | refine List.mem_cons_of_mem _ ?_))))); intro t8 h8 tk8 F8 N8; (try dsimp only))
  k_with "subscriptTail Name Name ref int" => (k_dflt (refine item_is (by k_asm) (by repeat (first | assumption | exact List.mem_cons_self | exact List.mem_append_left _ (by assumption) | exact List.mem_append_right _ (by assumption) | refine List.mem_cons_of_mem _ ?_)) hw (by omega) (by omega) (by omega) ?_; intro t7'))
  k_with "compareOp NotEq int int" => (k_dflt (refine ne_intE (by first | exact e1 i9 hi9 | exact e2 i9 hi9) ?_))
  k_steps
  all_goals first | exact Stop.go ⟨rfl, _, _, rfl, by k_asm, by k_asm⟩ | exact ret _ _ _ (by k_asm) (by k_asm)
end
set_option Elab.async false
set_option maxRecDepth 100000
set_option maxHeartbeats 5000000
section
variable {w : World} {o : OsState} {mean : ExcName → Option Value} {loose : List Str} {mg mb : Str → Option Value} {dp un : Nat} {gd : Option (List Code)} {cn : Str} {cs : Scope} {a : Addr} {ccd : Value} {cl : List (Str × Addr)} {outer : List Env} {A₀ : Around} {base h₀ : Heap} {L : Addr} {m : Str → Option Value} {news : List (Addr × Obj)} {s : Shared} {Q E : Value → Shared → Prop}
theorem st14 (B : Below A₀ base [] h₀) (F : Fr h₀ L s.heap m) (X : (KF w.params).In h₀) (N : News h₀ L s.heap news) (T : Top topProg loose mean mg mb h₀) (hd : dp + 4 < recursionLimit) (hu : un + 60 < cLine) {Q : Flow → Shared → Prop}
  (ret : Q (.ret (.bool true)) s) :
  wpAny (model (OpenLaw.row PySem.Challenge.rw_in0163_01).toRowW.prog w) (ktrTop dp un gd (Str.ofString "law") lawSc.1 L a ccd (lawCl L) []) (exec lawS14.1 (envX (Str.ofString "law") lawSc.1 L a ccd (lawCl L))) Q E s := by
  dsimp only [lawS14, lawSc, lawCl]
  revert X; k_fill; intro X
  k_with_none
  k_with "execs cons" => ((k_dflt (refine wpAny_execs_cons ?_)); (try dsimp only))
  k_with "execs nil" => (k_dflt (refine wpAny_execs_nil ?_))
  k_with "exec If" => (k_dflt (refine wpAny_If ?_))
  k_with "exec Assign" => (k_dflt (refine wpAny_Assign_Name ?_))
  k_with "eval Name" => (k_dflt (refine' nameX_L ?F ?v ?_ ?a ?b ?d; (case F => k_asm); (case a => rfl); (case b => kernel_rfl!); (case d => kernel_rfl); (case v => first | rfl | assumption); k_whole))
  k_with "storeName" => (k_dflt (refine' storeX_L ?F ?N ?_ ?a ?b; (case F => k_asm); (case N => k_asm); (case a => rfl); (case b => rfl); k_whole; intro hS7 FS7 NS7; (try k_sweep)))
  k_with "spliced" => (k_dflt (first | refine args_cons ?_ | (refine args_nil ?_; try simp only [List.cons_append, List.nil_append])))
  k_with "ite" => (k_dflt (first | refine ite_pos (by decide +kernel) ?_ | refine ite_neg (by decide +kernel) ?_))
  k_with "And" => ((with_reducible show PySem.Str.length (_ ++ _) ≤ sizeLine ∧ _); refine ⟨Nat.le_of_ble_eq_true (by kernel_rfl!), ?_⟩)
  k_with "exec Assign cons Tuple" => (k_dflt (refine Assign_Tuple ?_))
  k_with "callWith ref" => (k_dflt (refine' callWith_K ?k1 ?k2 ?_; (case k1 => k_asm); (case k2 => k_is); k_whole))
  k_with "truthy bool" => (k_dflt (refine wpAny_truthy_bool ?_))
  k_with "isTrue Compare" => (k_dflt (refine wpAny_isTrue_Compare1 ?_))
  k_with "room" => (k_dflt (first | exact om_s2 (by assumption) (by rfl) | exact om_s1 (by assumption) (by rfl) | exact om_s0 (by assumption)))
  k_with "ne" => with_reducible (first | assumption | exact om_sy (by assumption) | exact Nat.ne_of_gt (by assumption) | exact Nat.ne_of_lt (by assumption) | exact om_n1 (by assumption) | exact om_n2 (by assumption) | exact om_n3 (by assumption) | exact om_z2 (by assumption) | exact om_z3 (by assumption) | exact om_z4 (by assumption) | exact (om_n1 (by assumption)).symm | exact (om_n2 (by assumption)).symm | exact (om_n3 (by assumption)).symm | exact (om_z2 (by assumption)).symm | exact (om_z3 (by assumption)).symm | exact (om_z4 (by assumption)).symm | exact om_n4 (by assumption) | exact om_z5 (by assumption) | exact (om_n4 (by assumption)).symm | exact (om_z5 (by assumption)).symm | exact om_n5 (by assumption) | exact om_z6 (by assumption) | exact (om_n5 (by assumption)).symm | exact (om_z6 (by assumption)).symm | exact om_e1 (by assumption) | exact om_e2 (by assumption) | exact om_e3 (by assumption))
  k_with "om" => with_reducible (first | ((show _ ≠ _); k_extra "ne") | ((show @LT.lt Nat _ (_ + _ + _) _); exact om_s2 (by assumption) (by decide)) | ((show @LT.lt Nat _ (_ + _) _); exact om_s1 (by assumption) (by decide)) | ((show @LT.lt Nat _ _ _); first | assumption | exact om_s0 (by assumption)) | ((show @LE.le Nat _ (_ + 1) _); exact om_succ (by assumption) (by assumption)) | ((show @LE.le Nat _ _ _); first | exact Nat.zero_le _ | assumption | exact om_le (by assumption) (by decide) | exact om_lt_le (by assumption) (by decide) | exact om_eq_le (by assumption) (by assumption) (by decide) | exact om_eq_le' (by assumption) (by assumption) (by decide)) | ((show _ ∧ _); first | exact om_rg (by assumption) (by decide) | exact om_r1 (by assumption) (by decide)))
  k_with "all" => exact fun p9 hp9 => Nat.ne_of_lt (by first | exact l1 p9 hp9 | exact Nat.lt_succ_of_lt (l1 p9 hp9))
  k_steps
  all_goals first | exact ret
end
set_option Elab.async false
set_option maxRecDepth 100000
set_option maxHeartbeats 1000000
theorem pc_pa {mask kind : Int} (hm : 1 ≤ mask ∧ mask ≤ 7) (hk : 0 ≤ kind ∧ kind ≤ 1) : pcF (paF mask kind) = sgF mask := by
  have q : mask = 1 ∨ mask = 2 ∨ mask = 3 ∨ mask = 4 ∨ mask = 5 ∨ mask = 6 ∨ mask = 7 := by omega
  have q2 : kind = 0 ∨ kind = 1 := by omega
  rcases q2 with rfl | rfl <;> rcases q with rfl | rfl | rfl | rfl | rfl | rfl | rfl <;> decide +kernel
theorem pc_sets {ms : List (Int × Int)} (h : StgOk ms) : (ms.map fun p => paF p.1 p.2).map pcF = ms.map fun p => sgF p.1 := by
  rw [List.map_map]
  exact List.map_congr_left fun p hp => pc_pa (h p hp).1 (h p hp).2
noncomputable def hasC (x : Str) (c : Nat) : Bool := !(Builtin.Str.occurrences x ⟨#[c]⟩ 0 x.length 1).isEmpty
noncomputable def fwS (p : Str → Nat → Bool) (l : List Str) (c : Nat) : List Str := match l with
  | [] => []
  | s :: r => if p s c = true then r else s :: r
noncomputable def Emb (p : Str → Nat → Bool) (ss : List Str) (cs : List Nat) : Prop := ∃ l, List.Sublist l cs ∧ Al (fun s c => p s c = true) ss l
theorem emb_step (p : Str → Nat → Bool) (ss : List Str) (c : Nat) (cs : List Nat) : Emb p (fwS p ss c) cs ↔ Emb p ss (c :: cs) := by
  cases ss with
  | nil => exact ⟨fun _ => ⟨[], List.nil_sublist _, .nil⟩, fun _ => ⟨[], List.nil_sublist _, .nil⟩⟩
  | cons s r =>
    show Emb p (if p s c = true then r else s :: r) cs ↔ _
    by_cases h : p s c = true
    · rw [if_pos h]
      constructor
      · rintro ⟨l, hl, ha⟩
        exact ⟨c :: l, hl.cons_cons c, .cons h ha⟩
      · rintro ⟨l, hl, ha⟩
        cases ha with
        | @cons _ d _ l hd ha =>
          cases hl with
          | cons _ hl => exact ⟨l, (List.sublist_cons_self d l).trans hl, ha⟩
          | cons_cons _ hl => exact ⟨l, hl, ha⟩
    · rw [if_neg h]
      constructor
      · rintro ⟨l, hl, ha⟩
        exact ⟨l, hl.cons c, ha⟩
      · rintro ⟨l, hl, ha⟩
        cases ha with
        | @cons _ d _ l hd ha =>
          cases hl with
          | cons _ hl => exact ⟨d :: l, hl, .cons hd ha⟩
          | cons_cons _ hl => exact absurd hd h
theorem emb_fw (p : Str → Nat → Bool) : ∀ (cs : List Nat) (ss : List Str), cs.foldl (fwS p) ss = [] ↔ Emb p ss cs
  | [], ss => by
    constructor
    · intro h
      have h' : ss = [] := h
      subst h'
      exact ⟨[], List.nil_sublist _, .nil⟩
    · rintro ⟨l, hl, ha⟩
      cases List.sublist_nil.mp hl
      cases ha
      rfl
  | c :: cs, ss => by
    rw [List.foldl_cons, emb_fw p cs, emb_step]
theorem al_rev {α β : Type} {R : α → β → Prop} {xs : List α} {ys : List β} (h : Al R xs ys) : Al R xs.reverse ys.reverse := by
  induction h with
  | nil => exact .nil
  | cons r _ ih => rw [List.reverse_cons, List.reverse_cons]; exact ih.snoc r
theorem emb_rev (p : Str → Nat → Bool) (ss : List Str) (cs : List Nat) : Emb p ss cs ↔ Emb p ss.reverse cs.reverse := by
  constructor
  · rintro ⟨l, hl, ha⟩
    exact ⟨l.reverse, List.reverse_sublist.mpr hl, al_rev ha⟩
  · rintro ⟨l, hl, ha⟩
    have := al_rev ha
    rw [List.reverse_reverse] at this
    exact ⟨l.reverse, by have := List.reverse_sublist.mpr hl; rwa [List.reverse_reverse] at this, this⟩
noncomputable def cds (x : Str) : List Nat := x.cps.toList
theorem codes_eq (x : Str) : KStt.codes x = (cds x).map (fun c : Nat => (c : Int)) := by
  unfold KStt.codes cds
  rfl
theorem hasC_of (x : Str) (c : Nat) : (Builtin.Str.occurrences x ⟨#[c]⟩ 0 x.length 1).isEmpty = !(hasC x c) := by unfold hasC; rw [Bool.not_not]
theorem tk_fw (rs : List Str) : ∀ cs : List Nat, ∃ k : Nat, k ≤ rs.length ∧ tkN rs (cs.map (fun c : Nat => (c : Int))) = (k : Int) ∧ cs.foldl (fwS hasC) rs = rs.drop k := by
  intro cs
  have key : ∀ (n : Nat) (cs : List Nat), cs.length = n → ∃ k : Nat, k ≤ rs.length ∧ tkN rs (cs.map (fun c : Nat => (c : Int))) = (k : Int) ∧ cs.foldl (fwS hasC) rs = rs.drop k := by
    intro n
    induction n with
    | zero =>
      intro cs h
      cases List.length_eq_zero_iff.mp h
      exact ⟨0, Nat.zero_le _, by unfold tkN; rfl, rfl⟩
    | succ n ih =>
      intro cs h
      have hne : cs ≠ [] := by intro e; subst e; simp at h
      obtain ⟨pre, c, rfl⟩ : ∃ pre c, cs = pre ++ [c] := ⟨cs.dropLast, cs.getLast hne, (List.dropLast_concat_getLast hne).symm⟩
      obtain ⟨k, hk, h1, h2⟩ := ih pre (by simpa using h)
      rw [List.map_append, List.foldl_append, h2]
      unfold tkN at h1 ⊢
      rw [List.foldl_append, h1]
      show ∃ k', k' ≤ rs.length ∧ tkS rs (k : Int) (c : Int) = (k' : Int) ∧ fwS hasC (rs.drop k) c = rs.drop k'
      unfold tkS
      by_cases e : k < rs.length
      · rw [if_pos (by omega), Int.toNat_natCast, Int.toNat_natCast, hasC_of, List.drop_eq_getElem_cons e]
        have g : rs.getD k Str.empty = rs[k] := by simp [List.getD, List.getElem?_eq_getElem e]
        rw [g]
        cases hc : hasC rs[k] c with
        | true => exact ⟨k + 1, by omega, by rw [if_neg (by decide)]; rfl, by show (if hasC rs[k] c = true then _ else _) = _; rw [if_pos hc]⟩
        | false => exact ⟨k, by omega, by rw [if_pos (by decide)], by show (if hasC rs[k] c = true then _ else _) = _; rw [if_neg (by rw [hc]; decide), List.drop_eq_getElem_cons e]⟩
      · have e' : k = rs.length := by omega
        rw [if_neg (by omega)]
        refine ⟨k, by omega, rfl, ?_⟩
        rw [e', List.drop_length]
        rfl
  exact key _ cs rfl
theorem tkF_emb (rs : List Str) (nm : Str) : tkF rs nm = true ↔ Emb hasC rs (cds nm) := by
  rw [← emb_fw]
  unfold tkF
  rw [codes_eq]
  obtain ⟨k, hk, h1, h2⟩ := tk_fw rs (cds nm)
  rw [h1, h2, beq_iff_eq, List.drop_eq_nil_iff]
  omega
theorem bh_fw (rs : List Str) : ∀ cs : List Nat, (bhN rs (cs.map (fun c : Nat => (c : Int)))).reverse = cs.foldl (fwS hasC) rs.reverse := by
  intro cs
  unfold bhN
  induction cs generalizing rs with
  | nil => rfl
  | cons c cs ih =>
    rw [List.map_cons, List.foldl_cons, List.foldl_cons, ih]
    congr 1
    unfold bhS
    by_cases e : rs = []
    · subst e; rfl
    · rw [if_neg e, Int.toNat_natCast, hasC_of]
      obtain ⟨pre, x, rfl⟩ : ∃ pre x, rs = pre ++ [x] := ⟨rs.dropLast, rs.getLast e, (List.dropLast_concat_getLast e).symm⟩
      have g : (pre ++ [x]).getLastD Str.empty = x := by simp [List.getLastD_eq_getLast?]
      rw [g, List.reverse_append]
      cases hc : hasC x c <;> simp [fwS, hc]
theorem nm_rev : ∀ nm ∈ nmN 3, cds (Txt.sliceBy nm none none (-1, 0)) = (cds nm).reverse := by decide +kernel
theorem bhF_emb {nm : Str} (hn : nm ∈ nmN 3) (rs : List Str) : bhF rs nm = true ↔ Emb hasC rs (cds nm) := by
  rw [emb_rev, ← emb_fw, ← nm_rev nm hn, ← bh_fw, ← codes_eq]
  unfold bhF
  simp
theorem tk_bh {nm : Str} (hn : nm ∈ nmN 3) (rs : List Str) : tkF rs nm = bhF rs nm := by
  rw [Bool.eq_iff_iff, tkF_emb, bhF_emb hn]
theorem one_plain {ms : List (Int × Int)} (h : StgOk ms) : (nmN 3).filter (tkF ((ms.map fun p => paF p.1 p.2).map pcF)) = (nmN 3).filter (bhF (ms.map fun p => sgF p.1)) := by
  rw [pc_sets h]
  exact List.filter_congr fun nm hn => tk_bh hn _
set_option Elab.async false
set_option maxRecDepth 100000
set_option maxHeartbeats 1000000
noncomputable def hbM (m c : Nat) : Bool := Nat.testBit m (c - 97)
noncomputable def fwM (l : List Nat) (c : Nat) : List Nat := match l with
  | [] => []
  | m :: r => if hbM m c = true then r else m :: r
noncomputable def nmC : List (List Nat) := [[], [97], [97,97], [97,97,97], [97,97,98], [97,97,99], [97,98], [97,98,97], [97,98,98], [97,98,99], [97,99], [97,99,97], [97,99,98], [97,99,99],
  [98], [98,97], [98,97,97], [98,97,98], [98,97,99], [98,98], [98,98,97], [98,98,98], [98,98,99], [98,99], [98,99,97], [98,99,98], [98,99,99],
  [99], [99,97], [99,97,97], [99,97,98], [99,97,99], [99,98], [99,98,97], [99,98,98], [99,98,99], [99,99], [99,99,97], [99,99,98], [99,99,99]]
theorem nm_codes : (nmN 3).map cds = nmC := by decide +kernel
theorem nmC_abc : ∀ l ∈ nmC, ∀ c ∈ l, c = 97 ∨ c = 98 ∨ c = 99 := by decide +kernel
theorem hasC_m {m c : Nat} (hm : 1 ≤ m ∧ m ≤ 7) (hc : c = 97 ∨ c = 98 ∨ c = 99) : hasC (sgF (m : Int)) c = hbM m c := by
  have q : m = 1 ∨ m = 2 ∨ m = 3 ∨ m = 4 ∨ m = 5 ∨ m = 6 ∨ m = 7 := by omega
  rcases q with rfl | rfl | rfl | rfl | rfl | rfl | rfl <;> rcases hc with rfl | rfl | rfl <;> decide +kernel
noncomputable abbrev MOk (l : List Nat) : Prop := ∀ m ∈ l, 1 ≤ m ∧ m ≤ 7
theorem fw_m : ∀ (cs : List Nat) (l : List Nat), MOk l → (∀ c ∈ cs, c = 97 ∨ c = 98 ∨ c = 99) → cs.foldl (fwS hasC) (l.map fun m => sgF ((m : Nat) : Int)) = (cs.foldl fwM l).map fun m => sgF ((m : Nat) : Int)
  | [], _, _, _ => rfl
  | c :: cs, [], _, hc => fw_m cs [] (fun _ h => nomatch h) fun d hd => hc d (List.mem_cons_of_mem _ hd)
  | c :: cs, m :: r, hm, hc => by
    rw [List.foldl_cons, List.foldl_cons]
    have h1 := hasC_m (hm m List.mem_cons_self) (hc c List.mem_cons_self)
    have h2 := fun d hd => hc d (List.mem_cons_of_mem c hd)
    have e : fwS hasC ((m :: r).map fun m => sgF ((m : Nat) : Int)) c = (fwM (m :: r) c).map fun m => sgF ((m : Nat) : Int) := by
      show (if hasC (sgF (m : Int)) c = true then _ else _) = List.map _ (if hbM m c = true then _ else _)
      rw [h1]
      cases hbM m c <;> rfl
    rw [e]
    refine fw_m cs (fwM (m :: r) c) ?_ h2
    show MOk (if hbM m c = true then r else m :: r)
    split
    · exact fun x hx => hm x (List.mem_cons_of_mem _ hx)
    · exact hm
noncomputable def accM (l w : List Nat) : Bool := (w.foldl fwM l).isEmpty
theorem tk_m {l : List Nat} (hm : MOk l) {nm : Str} (hn : nm ∈ nmN 3) : tkF (l.map fun m => sgF ((m : Nat) : Int)) nm = accM l (cds nm) := by
  have hc : ∀ c ∈ cds nm, c = 97 ∨ c = 98 ∨ c = 99 := nmC_abc _ (nm_codes ▸ List.mem_map_of_mem hn)
  have h := tkF_emb (l.map fun m => sgF ((m : Nat) : Int)) nm
  rw [← emb_fw, fw_m _ _ hm hc, List.map_eq_nil_iff] at h
  rw [Bool.eq_iff_iff, h]
  unfold accM
  rw [List.isEmpty_iff]
noncomputable def lnM (m : Nat) : Int := ((Nat.testBit m 0).toNat + (Nat.testBit m 1).toNat + (Nat.testBit m 2).toNat : Nat)
theorem len_m {m : Nat} (hm : 1 ≤ m ∧ m ≤ 7) : ((sgF (m : Int)).length : Int) = lnM m := by
  have q : m = 1 ∨ m = 2 ∨ m = 3 ∨ m = 4 ∨ m = 5 ∨ m = 6 ∨ m = 7 := by omega
  rcases q with rfl | rfl | rfl | rfl | rfl | rfl | rfl <;> decide +kernel
noncomputable def ctM (l : List Nat) : List Int := let r := (nmC.filter (accM l)).map List.length
  [(r.count 0 : Nat), (r.count 1 : Nat), (r.count 2 : Nat), (r.count 3 : Nat)]
noncomputable def m7 : List Nat := [1, 2, 3, 4, 5, 6, 7]
theorem ct1 : (m7.all fun a => ctM [a] == wyF [lnM a]) = true := by decide +kernel
theorem ct2 : (m7.all fun a => m7.all fun b => ctM [a, b] == wyF [lnM a, lnM b]) = true := by decide +kernel
theorem ct3 : (m7.all fun a => m7.all fun b => m7.all fun c => ctM [a, b, c] == wyF [lnM a, lnM b, lnM c]) = true := by decide +kernel
theorem mem7 {m : Nat} (hm : 1 ≤ m ∧ m ≤ 7) : m ∈ m7 := by
  have q : m = 1 ∨ m = 2 ∨ m = 3 ∨ m = 4 ∨ m = 5 ∨ m = 6 ∨ m = 7 := by omega
  rcases q with rfl | rfl | rfl | rfl | rfl | rfl | rfl <;> decide
theorem ct_all {l : List Nat} (hm : MOk l) (h1 : 1 ≤ l.length) (h3 : l.length ≤ 3) : ctM l = wyF (l.map lnM) := by
  match l, hm, h1, h3 with
  | [a], hm, _, _ => exact beq_iff_eq.mp (List.all_eq_true.mp ct1 a (mem7 (hm a (by simp))))
  | [a, b], hm, _, _ => exact beq_iff_eq.mp (List.all_eq_true.mp (List.all_eq_true.mp ct2 a (mem7 (hm a (by simp)))) b (mem7 (hm b (by simp))))
  | [a, b, c], hm, _, _ => exact beq_iff_eq.mp (List.all_eq_true.mp (List.all_eq_true.mp (List.all_eq_true.mp ct3 a (mem7 (hm a (by simp)))) b (mem7 (hm b (by simp)))) c (mem7 (hm c (by simp))))
  | [], _, h, _ => simp at h
  | _ :: _ :: _ :: _ :: _, _, _, h => simp at h
set_option Elab.async false
set_option maxRecDepth 100000
set_option maxHeartbeats 1000000
noncomputable abbrev lnS (p : Int × Int) : Int := ((sgF p.1).length : Int)
theorem src_ok (ns : List Int) : StgOk ((srcF ns).map stF) := by
  intro p hp
  obtain ⟨x, _, rfl⟩ := List.mem_map.mp hp
  exact stF_ok x
theorem tuV_ok {m t : Int} (hm : 1 ≤ m ∧ m ≤ 7) (ht : 0 ≤ t ∧ t ≤ 2) : (1 ≤ tuV m t ∧ tuV m t ≤ 7) ∧ (sgF (tuV m t)).length = (sgF m).length := by
  have q : m = 1 ∨ m = 2 ∨ m = 3 ∨ m = 4 ∨ m = 5 ∨ m = 6 ∨ m = 7 := by omega
  have q2 : t = 0 ∨ t = 1 ∨ t = 2 := by omega
  rcases q2 with rfl | rfl | rfl <;> rcases q with rfl | rfl | rfl | rfl | rfl | rfl | rfl <;> decide +kernel
theorem tuI_perm {α : Type} (l : List α) (x : Int) (y : α) : (tuI l x y).Perm (y :: l) := by
  unfold tuI
  refine List.perm_middle.trans ?_
  rw [List.take_append_drop]
theorem tu_all {ms : List (Int × Int)} {ds : List Int} (h : StgOk ms) : ∀ n, n ≤ ms.length → StgOk (tuN ms ds n) ∧ ((tuN ms ds n).map lnS).Perm ((ms.take n).map lnS) := by
  intro n
  induction n with
  | zero => intro _; have e : tuN ms ds 0 = [] := by unfold tuN; rfl
            rw [e]; exact ⟨fun _ hp => (nomatch hp), .refl _⟩
  | succ n ih =>
    intro hn
    obtain ⟨i1, i2⟩ := ih (by omega)
    have hp := tuI_perm (tuN ms ds n) ((ds.getD n 0).fmod (n + 1)) (tuV (ms.getD n (0, 0)).1 (tuT (ds.getD n 0)), (ms.getD n (0, 0)).2)
    rw [tu_step] at hp
    have ok := stg_ok h (i := n) (by omega)
    have vt := tuV_ok ok.1 (t := tuT (ds.getD n 0)) (by unfold tuT; exact fm_b _)
    constructor
    · intro p hq
      rcases List.mem_cons.mp (hp.mem_iff.mp hq) with rfl | hq
      · exact ⟨vt.1, ok.2⟩
      · exact i1 p hq
    · refine (hp.map lnS).trans ?_
      rw [List.map_cons, List.take_add_one, List.getElem?_eq_getElem (by omega), List.map_append]
      have e : lnS (tuV (ms.getD n (0, 0)).1 (tuT (ds.getD n 0)), (ms.getD n (0, 0)).2) = lnS ms[n] := by
        show ((sgF (tuV (ms.getD n (0, 0)).1 (tuT (ds.getD n 0)))).length : Int) = _
        rw [vt.2, getD_some (List.getElem?_eq_getElem (by omega : n < ms.length))]
      rw [e]
      exact (List.Perm.cons _ i2).trans (List.perm_append_singleton _ _).symm
theorem tu_ok {ms : List (Int × Int)} (ds : List Int) (h : StgOk ms) : StgOk (tuN ms ds ms.length) ∧ ((tuN ms ds ms.length).map lnS).Perm (ms.map lnS) := by
  have := tu_all (ds := ds) h ms.length (Nat.le_refl _)
  rwa [List.take_length] at this
theorem wyS_comm {a b : Int} (ha : 1 ≤ a ∧ a ≤ 3) (hb : 1 ≤ b ∧ b ≤ 3) (z : List Int) : wyS (wyS z a) b = wyS (wyS z b) a := by
  have q : a = 1 ∨ a = 2 ∨ a = 3 := by omega
  have q2 : b = 1 ∨ b = 2 ∨ b = 3 := by omega
  unfold wyS
  rcases q with rfl | rfl | rfl <;> rcases q2 with rfl | rfl | rfl <;> simp <;> omega
theorem sg_in {m : Int} (hm : 1 ≤ m ∧ m ≤ 7) : 1 ≤ ((sgF m).length : Int) ∧ ((sgF m).length : Int) ≤ 3 := by
  have q : m = 1 ∨ m = 2 ∨ m = 3 ∨ m = 4 ∨ m = 5 ∨ m = 6 ∨ m = 7 := by omega
  rcases q with rfl | rfl | rfl | rfl | rfl | rfl | rfl <;> decide +kernel
theorem wy_perm {a b : List Int} (p : a.Perm b) (h : ∀ x ∈ a, 1 ≤ x ∧ x ≤ 3) : wyF a = wyF b := by
  unfold wyF
  exact p.foldl_eq' (fun x hx y hy z => wyS_comm (h x hx) (h y hy) z) _
theorem nm40 : (nmN 3).length = 40 := by decide +kernel
theorem nm_le3 : ∀ x ∈ nmN 3, x.length ≤ 3 := by decide +kernel
theorem nm_ok : ∀ x ∈ nmN 3, PyData.strOk x = true := by decide +kernel
theorem nm_pw : (nmN 3).Pairwise ltS := by decide +kernel
theorem fl_len (p : Str → Bool) : ((nmN 3).filter p).length ≤ 40 := by have := List.length_filter_le p (nmN 3); rw [nm40] at this; exact this
theorem fl_le3 (p : Str → Bool) : ∀ x ∈ (nmN 3).filter p, x.length ≤ 3 := fun x hx => nm_le3 x (List.mem_filter.mp hx).1
theorem fl_ok (p : Str → Bool) : ((nmN 3).filter p).all PyData.strOk = true := List.all_eq_true.mpr fun x hx => nm_ok x (List.mem_filter.mp hx).1
theorem fl_pw (p : Str → Bool) : ((nmN 3).filter p).Pairwise ltS := nm_pw.sublist List.filter_sublist
theorem cast_count (l : List Nat) (i : Nat) : (l.map fun n : Nat => (n : Int)).count (i : Int) = l.count i := by
  induction l with
  | nil => rfl
  | cons a l ih =>
    rw [List.map_cons, List.count_cons, List.count_cons, ih]
    congr 1
    by_cases h : a = i
    · subst h; simp
    · have h' : (a : Int) ≠ (i : Int) := fun e => h (Int.ofNat.inj e)
      simp [h, h']
theorem counts {ms : List (Int × Int)} (h : StgOk ms) (h1 : 1 ≤ ms.length) (h3 : ms.length ≤ 3) {ns : List Int} (hp : ns.Perm (ms.map lnS)) (i : Nat) (hi : i < 4) :
    (((((nmN 3).filter (tkF (ms.map fun p => sgF p.1))).map fun r => (r.length : Int)).count (i : Int) : Nat) : Int) = (wyF ns).getD i 0 := by
  let l := ms.map fun p => p.1.toNat
  have hm : MOk l := by
    intro x hx
    obtain ⟨p, hp, rfl⟩ := List.mem_map.mp hx
    have := (h p hp).1
    omega
  have e0 : (ms.map fun p => sgF p.1) = l.map fun m => sgF ((m : Nat) : Int) := by
    rw [List.map_map]
    refine List.map_congr_left fun p hp => ?_
    have := (h p hp).1
    show sgF p.1 = sgF ((p.1.toNat : Nat) : Int)
    rw [Int.toNat_of_nonneg (by omega)]
  have e1 : l.map lnM = ms.map lnS := by
    rw [List.map_map]
    refine List.map_congr_left fun p hp => ?_
    have := (h p hp).1
    show lnM p.1.toNat = ((sgF p.1).length : Int)
    rw [← len_m (by omega), Int.toNat_of_nonneg (by omega)]
  have hw : wyF ns = ctM l := by
    rw [ct_all hm (by rw [List.length_map]; exact h1) (by rw [List.length_map]; exact h3), e1]
    refine wy_perm hp fun x hx => ?_
    obtain ⟨p, hp', rfl⟩ := List.mem_map.mp (hp.mem_iff.mp hx)
    exact sg_in (h p hp').1
  have ef : (nmN 3).filter (tkF (ms.map fun p => sgF p.1)) = (nmN 3).filter (fun x => accM l (cds x)) := by
    rw [e0]
    exact List.filter_congr fun x hx => tk_m hm hx
  have ec : ((nmN 3).filter (fun x => accM l (cds x))).map (fun r => (r.length : Int)) = ((nmC.filter (accM l)).map List.length).map fun n : Nat => (n : Int) := by
    rw [← nm_codes, List.filter_map, List.map_map, List.map_map]
    refine List.map_congr_left fun x _ => ?_
    show (x.length : Int) = ((cds x).length : Int)
    unfold cds
    rw [Array.length_toList]
    rfl
  rw [ef, ec, cast_count, hw]
  have q : i = 0 ∨ i = 1 ∨ i = 2 ∨ i = 3 := by omega
  rcases q with rfl | rfl | rfl | rfl <;> rfl
theorem ct_len {ms : List (Int × Int)} (h : StgOk ms) (h1 : 1 ≤ ms.length) (h3 : ms.length ≤ 3) {ns : List Int} (hp : ns.Perm (ms.map lnS)) : (wyF ns).length = 4 := by
  let l := ms.map fun p => p.1.toNat
  have hm : MOk l := by
    intro x hx
    obtain ⟨p, hp, rfl⟩ := List.mem_map.mp hx
    have := (h p hp).1
    omega
  have e1 : l.map lnM = ms.map lnS := by
    rw [List.map_map]
    refine List.map_congr_left fun p hp => ?_
    have := (h p hp).1
    show lnM p.1.toNat = ((sgF p.1).length : Int)
    rw [← len_m (by omega), Int.toNat_of_nonneg (by omega)]
  have hw : wyF ns = ctM l := by
    rw [ct_all hm (by rw [List.length_map]; exact h1) (by rw [List.length_map]; exact h3), e1]
    refine wy_perm hp fun x hx => ?_
    obtain ⟨p, hp', rfl⟩ := List.mem_map.mp (hp.mem_iff.mp hx)
    exact sg_in (h p hp').1
  rw [hw]
  rfl
theorem len_bd (p : Str → Bool) : ∀ x ∈ ((nmN 3).filter p).map (fun r => (r.length : Int)), 0 ≤ x ∧ x ≤ 3 := by
  intro x hx
  obtain ⟨r, hr, rfl⟩ := List.mem_map.mp hx
  have := fl_le3 p r hr
  omega
set_option Elab.async false
set_option maxRecDepth 100000
set_option maxHeartbeats 5000000
section
variable {w : World} {o : OsState} {mean : ExcName → Option Value} {loose : List Str} {mg mb : Str → Option Value} {dp un : Nat} {gd : Option (List Code)} {cn : Str} {cs : Scope} {a : Addr} {ccd : Value} {cl : List (Str × Addr)} {outer : List Env} {A₀ : Around} {base h₀ : Heap} {L : Addr} {m : Str → Option Value} {news : List (Addr × Obj)} {s : Shared} {Q E : Value → Shared → Prop}
theorem keepF {h₀ h : Heap} {L : Addr} {l : List (Addr × Obj)} (N : News h₀ L h l) {q : Addr × Obj} (hq : q ∈ l) {p : Addr × Obj} (hp : p ∈ l) (hd : p.2.data ≠ q.2.data) : p ∈ l.filter (fun p => p.1 != q.1) :=
  List.mem_filter.mpr ⟨hp, bne_iff_ne.mpr fun e => hd (by
    have a := (N _ hp).1
    have b := (N _ hq).1
    rw [e, b] at a
    rw [Option.some.inj a])⟩
theorem keepS {h₀ h : Heap} {L : Addr} {l : List (Addr × Obj)} (N : News h₀ L h l) {q : Addr × Obj} (hq : q ∈ l) (hd : ∀ xs k, q.2.data ≠ .seq xs k) {vs : List Value} {ms : List (Int × Int)} (h : Stg l vs ms) : Stg (l.filter (fun p => p.1 != q.1)) vs ms := by
  refine Al.mono h fun v p hv => ?_
  obtain ⟨t, ot, nt, t1, t2, e, r1, r2, r3⟩ := hv
  exact ⟨t, ot, nt, t1, t2, e, keepF N hq r1 (by rw [r3]; exact fun e => hd _ _ e.symm), r2, r3⟩
theorem newsF {h₀ h : Heap} {L : Addr} {l : List (Addr × Obj)} (N : News h₀ L h l) {q : Addr × Obj} (hq : q ∈ l) : News h₀ L h (q :: l.filter (fun p => p.1 != q.1)) := fun p hp => by
  rcases List.mem_cons.mp hp with rfl | hp
  · exact N _ hq
  · exact N _ (List.mem_filter.mp hp).1
theorem body_c (B : Below A₀ base [] h₀) (F : Fr h₀ L s.heap m) (X : (KF w.params).In h₀) (N : News h₀ L s.heap news) (T : Top topProg loose mean mg mb h₀) (hd : dp + 8 < recursionLimit) (hu : un + 300 < cLine) {Q : Flow → Shared → Prop} (XB : (KF w.params).In base) (TB : Top topProg loose mean mg mb base) (hC : CodeHd base 117 113) {sc : Addr} {vs : List Value} {ns : List Int} {o₁ o₂ : Obj} {v₁ v₂ : Option Value} {ps : Array Value} (hsc : h₀.IsList sc vs.toArray) (hI : IntsAre vs ns) (hlen : ns.length ≤ 63) (m1 : m (Str.ofString "script") = some (.ref sc))
  (hc1 : (L + 1, o₁) ∈ news) (hd1 : o₁.data = .cell v₁) (hc2 : (L + 1 + 1, o₂) ∈ news) (hd2 : o₂.data = .cell v₂) (ht : (113, tabObj ps) ∈ news) (hps : TabOk ps) (hG : Bare o s)
  (ret : ∀ s' m' l' ps', Fr h₀ L s'.heap m' → News h₀ L s'.heap l' → (113, tabObj ps') ∈ l' → TabOk ps' → Bare o s' → Q (.ret (.bool true)) s') :
  wpAny (model (OpenLaw.row PySem.Challenge.rw_in0163_01).toRowW.prog w) (ktrTop dp un gd (Str.ofString "law") lawSc.1 L a ccd (lawCl L) []) (execs [lawS0.1, lawS1.1, lawS2.1, lawS3.1, lawS4.1, lawS5.1, lawS6.1, lawS7.1, lawS8.1, lawS9.1, lawS10.1, lawS11.1, lawS12.1, lawS13.1, lawS14.1] (envX (Str.ofString "law") lawSc.1 L a ccd (lawCl L))) Q E s := by
  refine wpAny_execs_cons (st0 B F X N T (by omega) (by omega) hsc hI hlen m1 fun D0 y0 q0 ts0 h0 tk0 F0 N0 hs0 => ?_)
  have okS := src_ok ns
  have lS : ((srcF ns).map stF).length ≤ 3 := by rw [List.length_map]; exact srcF_len ns
  have lS1 : 1 ≤ ((srcF ns).map stF).length := by rw [List.length_map]; exact srcF_pos ns
  generalize (srcF ns).map stF = ms at hs0 okS lS lS1
  refine wpAny_execs_cons (st1 (s := ⟨h0, s.gens, s.drawn, tk0, s.os⟩) B F0 X N0 T (by omega) (by omega) hsc hI hlen (by ((try dsimp only); repeat (first | assumption | (with_reducible exact if_pos rfl) | refine (if_neg (by decide +kernel)).trans ?_))) (by ((try dsimp only); repeat (first | assumption | (with_reducible exact if_pos rfl) | refine (if_neg (by decide +kernel)).trans ?_))) (by (repeat (first | assumption | exact List.mem_cons_self | refine List.mem_cons_of_mem _ ?_ | refine List.mem_append_right _ ?_))) (hs0.mono fun p hp => List.mem_cons_of_mem _ (List.mem_append_left _ hp)) lS okS fun D1 y1 q1 ts1 ds h1 tk1 F1 N1 hs1 => ?_)
  obtain ⟨okT, pT⟩ := tu_ok ds okS
  have eT : (tuN ms ds ms.length).length = ms.length := by have := pT.length_eq; rwa [List.length_map, List.length_map] at this
  generalize tuN ms ds ms.length = mt at hs1 okT pT eT
  refine wpAny_execs_cons (st2 (s := ⟨h1, s.gens, s.drawn, tk1, s.os⟩) B F1 X N1 T (by omega) (by omega) fun D2 q2 y2 h2 tk2 F2 N2 hy2 => ?_)
  obtain ⟨l2, el2⟩ : ∃ l, l = (D2, listOf y2.toArray q2) :: (D1, listOf y1.toArray q1) :: (ts1 ++ (D0, listOf y0.toArray q0) :: (ts0 ++ news)) := ⟨_, rfl⟩
  rw [← el2] at N2
  have a0 : (D0, listOf y0.toArray q0) ∈ l2 := by rw [el2]; (repeat (first | assumption | exact List.mem_cons_self | refine List.mem_cons_of_mem _ ?_ | refine List.mem_append_right _ ?_))
  have a1 : (D1, listOf y1.toArray q1) ∈ l2 := by rw [el2]; (repeat (first | assumption | exact List.mem_cons_self | refine List.mem_cons_of_mem _ ?_ | refine List.mem_append_right _ ?_))
  have a2 : (D2, listOf y2.toArray q2) ∈ l2 := by rw [el2]; (repeat (first | assumption | exact List.mem_cons_self | refine List.mem_cons_of_mem _ ?_ | refine List.mem_append_right _ ?_))
  have c1 : (L + 1, o₁) ∈ l2 := by rw [el2]; (repeat (first | assumption | exact List.mem_cons_self | refine List.mem_cons_of_mem _ ?_ | refine List.mem_append_right _ ?_))
  have c2 : (L + 1 + 1, o₂) ∈ l2 := by rw [el2]; (repeat (first | assumption | exact List.mem_cons_self | refine List.mem_cons_of_mem _ ?_ | refine List.mem_append_right _ ?_))
  have t2 : (113, tabObj ps) ∈ l2 := by rw [el2]; (repeat (first | assumption | exact List.mem_cons_self | refine List.mem_cons_of_mem _ ?_ | refine List.mem_append_right _ ?_))
  replace hs0 : Stg l2 y0 ms := hs0.mono fun p hp => by rw [el2]; exact List.mem_cons_of_mem _ (List.mem_cons_of_mem _ (List.mem_append_right _ (List.mem_cons_of_mem _ (List.mem_append_left _ hp))))
  replace hs1 : Stg l2 y1 mt := hs1.mono fun p hp => by rw [el2]; exact List.mem_cons_of_mem _ (List.mem_cons_of_mem _ (List.mem_append_left _ hp))
  clear el2 N N0 N1 F F0 F1 hc1 hc2 ht
  have nm := Nat.le_of_eq nm40
  refine wpAny_execs_cons (st3 (s := ⟨h2, s.gens, s.drawn, tk2, s.os⟩) (news := l2.filter fun p => p.1 != 113) B F2 X (newsF N2 t2) T (by omega) (by omega) hC hps (fun p hp => bne_iff_ne.mp (List.mem_filter.mp hp).2) (keepF N2 t2 a0 nofun) (keepS N2 t2 nofun hs0) lS lS1 okS (keepF N2 t2 a2 nofun) hy2 nm nm_le3 hG (by ((try dsimp only); repeat (first | assumption | (with_reducible exact if_pos rfl) | refine (if_neg (by decide +kernel)).trans ?_))) (by ((try dsimp only); repeat (first | assumption | (with_reducible exact if_pos rfl) | refine (if_neg (by decide +kernel)).trans ?_))) fun D3 q3 y3 s3 ps3 F3 N3 hps3 hG3 hy3 => ?_)
  rw [one_plain okS] at hy3
  obtain ⟨l3, el3⟩ : ∃ l, l = (D3, listOf y3.toArray q3) :: (113, tabObj ps3) :: l2.filter fun p => p.1 != 113 := ⟨_, rfl⟩
  rw [← el3] at N3
  replace a0 : (D0, listOf y0.toArray q0) ∈ l3 := by rw [el3]; exact List.mem_cons_of_mem _ (List.mem_cons_of_mem _ (keepF N2 t2 a0 nofun))
  replace a1 : (D1, listOf y1.toArray q1) ∈ l3 := by rw [el3]; exact List.mem_cons_of_mem _ (List.mem_cons_of_mem _ (keepF N2 t2 a1 nofun))
  replace a2 : (D2, listOf y2.toArray q2) ∈ l3 := by rw [el3]; exact List.mem_cons_of_mem _ (List.mem_cons_of_mem _ (keepF N2 t2 a2 nofun))
  replace c1 : (L + 1, o₁) ∈ l3 := by rw [el3]; exact List.mem_cons_of_mem _ (List.mem_cons_of_mem _ (keepF N2 t2 c1 (by rw [hd1]; nofun)))
  replace c2 : (L + 1 + 1, o₂) ∈ l3 := by rw [el3]; exact List.mem_cons_of_mem _ (List.mem_cons_of_mem _ (keepF N2 t2 c2 (by rw [hd2]; nofun)))
  replace hs0 : Stg l3 y0 ms := (keepS N2 t2 nofun hs0).mono fun p hp => by rw [el3]; exact List.mem_cons_of_mem _ (List.mem_cons_of_mem _ hp)
  replace hs1 : Stg l3 y1 mt := (keepS N2 t2 nofun hs1).mono fun p hp => by rw [el3]; exact List.mem_cons_of_mem _ (List.mem_cons_of_mem _ hp)
  have t3 : (113, tabObj ps3) ∈ l3 := by rw [el3]; (repeat (first | assumption | exact List.mem_cons_self | refine List.mem_cons_of_mem _ ?_ | refine List.mem_append_right _ ?_))
  have a3 : (D3, listOf y3.toArray q3) ∈ l3 := by rw [el3]; (repeat (first | assumption | exact List.mem_cons_self | refine List.mem_cons_of_mem _ ?_ | refine List.mem_append_right _ ?_))
  clear el3 N2 F2 t2
  refine wpAny_execs_cons (st4 (s := s3) (news := l3.filter fun p => p.1 != 113) B F3 X (newsF N3 t3) T (by omega) (by omega) hC hps3 (fun p hp => bne_iff_ne.mp (List.mem_filter.mp hp).2) (keepF N3 t3 a1 nofun) (keepS N3 t3 nofun hs1) (by omega) (by omega) okT (keepF N3 t3 a2 nofun) hy2 nm nm_le3 hG3 (by ((try dsimp only); repeat (first | assumption | (with_reducible exact if_pos rfl) | refine (if_neg (by decide +kernel)).trans ?_))) (by ((try dsimp only); repeat (first | assumption | (with_reducible exact if_pos rfl) | refine (if_neg (by decide +kernel)).trans ?_))) fun D4 q4 y4 s4 ps4 F4 N4 hps4 hG4 hy4 => ?_)
  rw [one_plain okT] at hy4
  obtain ⟨l4, el4⟩ : ∃ l, l = (D4, listOf y4.toArray q4) :: (113, tabObj ps4) :: l3.filter fun p => p.1 != 113 := ⟨_, rfl⟩
  rw [← el4] at N4
  replace a0 : (D0, listOf y0.toArray q0) ∈ l4 := by rw [el4]; exact List.mem_cons_of_mem _ (List.mem_cons_of_mem _ (keepF N3 t3 a0 nofun))
  replace a1 : (D1, listOf y1.toArray q1) ∈ l4 := by rw [el4]; exact List.mem_cons_of_mem _ (List.mem_cons_of_mem _ (keepF N3 t3 a1 nofun))
  replace a2 : (D2, listOf y2.toArray q2) ∈ l4 := by rw [el4]; exact List.mem_cons_of_mem _ (List.mem_cons_of_mem _ (keepF N3 t3 a2 nofun))
  replace a3 : (D3, listOf y3.toArray q3) ∈ l4 := by rw [el4]; exact List.mem_cons_of_mem _ (List.mem_cons_of_mem _ (keepF N3 t3 a3 nofun))
  replace c1 : (L + 1, o₁) ∈ l4 := by rw [el4]; exact List.mem_cons_of_mem _ (List.mem_cons_of_mem _ (keepF N3 t3 c1 (by rw [hd1]; nofun)))
  replace c2 : (L + 1 + 1, o₂) ∈ l4 := by rw [el4]; exact List.mem_cons_of_mem _ (List.mem_cons_of_mem _ (keepF N3 t3 c2 (by rw [hd2]; nofun)))
  replace hs0 : Stg l4 y0 ms := (keepS N3 t3 nofun hs0).mono fun p hp => by rw [el4]; exact List.mem_cons_of_mem _ (List.mem_cons_of_mem _ hp)
  replace hs1 : Stg l4 y1 mt := (keepS N3 t3 nofun hs1).mono fun p hp => by rw [el4]; exact List.mem_cons_of_mem _ (List.mem_cons_of_mem _ hp)
  have t4 : (113, tabObj ps4) ∈ l4 := by rw [el4]; (repeat (first | assumption | exact List.mem_cons_self | refine List.mem_cons_of_mem _ ?_ | refine List.mem_append_right _ ?_))
  have a4 : (D4, listOf y4.toArray q4) ∈ l4 := by rw [el4]; (repeat (first | assumption | exact List.mem_cons_self | refine List.mem_cons_of_mem _ ?_ | refine List.mem_append_right _ ?_))
  clear el4 N3 F3 t3 hG3
  refine wpAny_execs_cons (st5 (s := s4) B F4 X N4 T (by omega) (by omega) c1 hd1 a0 hs0 lS okS a2 hy2 nm nm_le3 (by ((try dsimp only); repeat (first | assumption | (with_reducible exact if_pos rfl) | refine (if_neg (by decide +kernel)).trans ?_))) (by ((try dsimp only); repeat (first | assumption | (with_reducible exact if_pos rfl) | refine (if_neg (by decide +kernel)).trans ?_))) fun D5 q5 y5 o5 h5 tk5 F5 N5 d5 hy5 => ?_)
  obtain ⟨l5, el5⟩ : ∃ l, l = (D5, listOf y5.toArray q5) :: (L + 1, o5) :: l4.filter fun p => p.1 != L + 1 := ⟨_, rfl⟩
  rw [← el5] at N5
  have k5 : ∀ p ∈ l4, p.2.data ≠ .cell v₁ → p ∈ l5 := fun p hp hd => by rw [el5]; exact List.mem_cons_of_mem _ (List.mem_cons_of_mem _ (keepF N4 c1 hp (by rw [hd1]; exact hd)))
  replace hs1 : Stg l5 y1 mt := (keepS N4 c1 (by rw [hd1]; nofun) hs1).mono fun p hp => by rw [el5]; exact List.mem_cons_of_mem _ (List.mem_cons_of_mem _ hp)
  replace hs0 : Stg l5 y0 ms := (keepS N4 c1 (by rw [hd1]; nofun) hs0).mono fun p hp => by rw [el5]; exact List.mem_cons_of_mem _ (List.mem_cons_of_mem _ hp)
  replace a0 := k5 _ a0 nofun
  replace a1 := k5 _ a1 nofun
  replace a2 := k5 _ a2 nofun
  replace a3 := k5 _ a3 nofun
  replace a4 := k5 _ a4 nofun
  have t5 := k5 _ t4 nofun
  replace c2 : (L + 1 + 1, o₂) ∈ l5 := by rw [el5]; exact List.mem_cons_of_mem _ (List.mem_cons_of_mem _ (List.mem_filter.mpr ⟨c2, bne_iff_ne.mpr (Nat.succ_ne_self (L + 1))⟩))
  replace c1 : (L + 1, o5) ∈ l5 := by rw [el5]; (repeat (first | assumption | exact List.mem_cons_self | refine List.mem_cons_of_mem _ ?_ | refine List.mem_append_right _ ?_))
  have a5 : (D5, listOf y5.toArray q5) ∈ l5 := by rw [el5]; (repeat (first | assumption | exact List.mem_cons_self | refine List.mem_cons_of_mem _ ?_ | refine List.mem_append_right _ ?_))
  clear el5 N4 F4 t4 k5
  refine wpAny_execs_cons (st6 (s := ⟨h5, s4.gens, s4.drawn, tk5, s4.os⟩) B F5 X N5 T (by omega) (by omega) c2 hd2 a1 hs1 (by omega) okT a2 hy2 nm nm_le3 (by ((try dsimp only); repeat (first | assumption | (with_reducible exact if_pos rfl) | refine (if_neg (by decide +kernel)).trans ?_))) (by ((try dsimp only); repeat (first | assumption | (with_reducible exact if_pos rfl) | refine (if_neg (by decide +kernel)).trans ?_))) fun D6 q6 y6 o6 h6 tk6 F6 N6 d6 hy6 => ?_)
  obtain ⟨l6, el6⟩ : ∃ l, l = (D6, listOf y6.toArray q6) :: (L + 1 + 1, o6) :: l5.filter fun p => p.1 != L + 1 + 1 := ⟨_, rfl⟩
  rw [← el6] at N6
  have k6 : ∀ p ∈ l5, p.2.data ≠ .cell v₂ → p ∈ l6 := fun p hp hd => by rw [el6]; exact List.mem_cons_of_mem _ (List.mem_cons_of_mem _ (keepF N5 c2 hp (by rw [hd2]; exact hd)))
  replace hs0 : Stg l6 y0 ms := (keepS N5 c2 (by rw [hd2]; nofun) hs0).mono fun p hp => by rw [el6]; exact List.mem_cons_of_mem _ (List.mem_cons_of_mem _ hp)
  replace a0 := k6 _ a0 nofun
  replace a3 := k6 _ a3 nofun
  replace a4 := k6 _ a4 nofun
  replace a5 := k6 _ a5 nofun
  have t6 := k6 _ t5 nofun
  replace c1 : (L + 1, o5) ∈ l6 := by rw [el6]; exact List.mem_cons_of_mem _ (List.mem_cons_of_mem _ (List.mem_filter.mpr ⟨c1, bne_iff_ne.mpr (Nat.succ_ne_self (L + 1)).symm⟩))
  replace c2 : (L + 1 + 1, o6) ∈ l6 := by rw [el6]; (repeat (first | assumption | exact List.mem_cons_self | refine List.mem_cons_of_mem _ ?_ | refine List.mem_append_right _ ?_))
  have a6 : (D6, listOf y6.toArray q6) ∈ l6 := by rw [el6]; (repeat (first | assumption | exact List.mem_cons_self | refine List.mem_cons_of_mem _ ?_ | refine List.mem_append_right _ ?_))
  clear el6 N5 F5 t5 k6 a1 a2 hs1
  refine wpAny_execs_cons (st7 (s := ⟨h6, s4.gens, s4.drawn, tk6, s4.os⟩) B F6 X N6 T (by omega) (by omega) c1 d5 c2 d6 a3 a5 a4 a6 hy3 hy5 hy4 hy6 (fl_ok _) (fl_ok _) (by ((try dsimp only); repeat (first | assumption | (with_reducible exact if_pos rfl) | refine (if_neg (by decide +kernel)).trans ?_))) (by ((try dsimp only); repeat (first | assumption | (with_reducible exact if_pos rfl) | refine (if_neg (by decide +kernel)).trans ?_))) fun h7 tk7 F7 N7 => ?_)
  clear F6 N6
  refine wpAny_execs_cons (st8 (s := ⟨h7, s4.gens, s4.drawn, tk7, s4.os⟩) B F7 X N7 T (by omega) (by omega) XB TB a3 a4 hy3 hy4 (fl_len _) (fl_len _) (fl_pw _) (fl_pw _) (by ((try dsimp only); repeat (first | assumption | (with_reducible exact if_pos rfl) | refine (if_neg (by decide +kernel)).trans ?_))) (by ((try dsimp only); repeat (first | assumption | (with_reducible exact if_pos rfl) | refine (if_neg (by decide +kernel)).trans ?_))) fun T8 M8 U8 n8 p8 r8 x8 z8 h8 tk8 F8 N8 hx8 hz8 => ?_)
  refine wpAny_execs_cons (st9 (s := ⟨h8, s4.gens, s4.drawn, tk8, s4.os⟩) B F8 X N8 T (by omega) (by omega) (by (repeat (first | assumption | exact List.mem_cons_self | refine List.mem_cons_of_mem _ ?_ | refine List.mem_append_right _ ?_))) d5 (by (repeat (first | assumption | exact List.mem_cons_self | refine List.mem_cons_of_mem _ ?_ | refine List.mem_append_right _ ?_))) d6 (by (repeat (first | assumption | exact List.mem_cons_self | refine List.mem_cons_of_mem _ ?_ | refine List.mem_append_right _ ?_))) (by (repeat (first | assumption | exact List.mem_cons_self | refine List.mem_cons_of_mem _ ?_ | refine List.mem_append_right _ ?_))) hy5 hy6 (fl_ok _) (fl_ok _) (fl_len _) (fl_len _) (T9 := T8) (M9 := M8) (U9 := U8) (by (repeat (first | assumption | exact List.mem_cons_self | refine List.mem_cons_of_mem _ ?_ | refine List.mem_append_right _ ?_))) (by (repeat (first | assumption | exact List.mem_cons_self | refine List.mem_cons_of_mem _ ?_ | refine List.mem_append_right _ ?_))) (by (repeat (first | assumption | exact List.mem_cons_self | refine List.mem_cons_of_mem _ ?_ | refine List.mem_append_right _ ?_))) hx8 hz8 (by ((try dsimp only); repeat (first | assumption | (with_reducible exact if_pos rfl) | refine (if_neg (by decide +kernel)).trans ?_))) fun h9 tk9 F9 N9 => ?_)
  clear N8
  replace N9 : News h₀ L h9 l6 := fun p hp => N9 p (List.mem_cons_of_mem _ (List.mem_cons_of_mem _ (List.mem_cons_of_mem _ hp)))
  refine wpAny_execs_cons (st10 (s := ⟨h9, s4.gens, s4.drawn, tk9, s4.os⟩) B F9 X N9 T (by omega) (by omega) a0 hs0 lS okS (by ((try dsimp only); repeat (first | assumption | (with_reducible exact if_pos rfl) | refine (if_neg (by decide +kernel)).trans ?_))) fun D10 q10 y10 ns10 h10 tk10 F10 N10 hy10 hp10 => ?_)
  refine wpAny_execs_cons (st11 (s := ⟨h10, s4.gens, s4.drawn, tk10, s4.os⟩) B F10 X N10 T (by omega) (by omega) (by (repeat (first | assumption | exact List.mem_cons_self | refine List.mem_cons_of_mem _ ?_ | refine List.mem_append_right _ ?_))) hy3 (fl_len _) (fl_le3 _) (by ((try dsimp only); repeat (first | assumption | (with_reducible exact if_pos rfl) | refine (if_neg (by decide +kernel)).trans ?_))) fun D11 q11 y11 h11 tk11 F11 N11 hy11 hb11 => ?_)
  refine wpAny_execs_cons (wpAny_with_toks (n := tk11) (Nat.le_refl _) (st12 (s := ⟨h11, s4.gens, s4.drawn, tk11, s4.os⟩) B F11 X N11 T (by omega) (by omega) (by (repeat (first | assumption | exact List.mem_cons_self | refine List.mem_cons_of_mem _ ?_ | refine List.mem_append_right _ ?_))) hy4 (fl_len _) (fl_le3 _) (by ((try dsimp only); repeat (first | assumption | (with_reducible exact if_pos rfl) | refine (if_neg (by decide +kernel)).trans ?_))) fun D12 q12 y12 h12 tk12 F12 N12 hy12 hb12 => ?_))
  intro k12
  have hc := counts okS lS1 lS hp10
  have hc' := counts okT (by omega) (by omega) (hp10.trans pT.symm)
  rw [← pc_sets okS, one_plain okS] at hc
  rw [← pc_sets okT, one_plain okT] at hc'
  refine wpAny_execs_cons (st13 (s := ⟨h12, s4.gens, s4.drawn, tk12, s4.os⟩) B F12 X N12 T (by omega) (by omega) (a1 := D11) (a2 := D12) (aw := D10) (by (repeat (first | assumption | exact List.mem_cons_self | refine List.mem_cons_of_mem _ ?_ | refine List.mem_append_right _ ?_))) (by (repeat (first | assumption | exact List.mem_cons_self | refine List.mem_cons_of_mem _ ?_ | refine List.mem_append_right _ ?_))) (by (repeat (first | assumption | exact List.mem_cons_self | refine List.mem_cons_of_mem _ ?_ | refine List.mem_append_right _ ?_))) hy11 hy12 hy10 (len_bd _) (len_bd _) (ct_len okS lS1 lS hp10) (tokB_mono hb11 k12) hb12 hc hc' (by ((try dsimp only); repeat (first | assumption | (with_reducible exact if_pos rfl) | refine (if_neg (by decide +kernel)).trans ?_))) (by ((try dsimp only); repeat (first | assumption | (with_reducible exact if_pos rfl) | refine (if_neg (by decide +kernel)).trans ?_))) (by ((try dsimp only); repeat (first | assumption | (with_reducible exact if_pos rfl) | refine (if_neg (by decide +kernel)).trans ?_))) fun m13 h13 tk13 F13 N13 => ?_)
  exact wpAny_execs_cons (st14 (s := ⟨h13, s4.gens, s4.drawn, tk13, s4.os⟩) B F13 X N13 T (by omega) (by omega) (ret _ _ _ ps4 F13 N13 (by (repeat (first | assumption | exact List.mem_cons_self | refine List.mem_cons_of_mem _ ?_ | refine List.mem_append_right _ ?_))) hps4 hG4))
end
end Walking
set_option Elab.async false
set_option maxRecDepth 100000
set_option maxHeartbeats 8000000
theorem good_true {cw : ClaimW} {cl : Str → Option Addr} {mean : ExcName → Option Value} {args : List WData} {s₁ s' : Shared} (hT : TabsAt [(117, 113)] s₁.heap) (hn : ∀ cls, cw.raises args cls = false) (hp : cw.post args (.bool true) args = true)
    (hk : ∀ b o, (ghostOf s₁.heap [(117, 113)]).get? b = some o → s'.heap.get? b = some o) (hos : s'.os = s₁.os) (hb : AllBare s'.gens) (hgr : GrownAll [(117, 113)] s'.heap) : GoodWG cw cl mean args s₁ (.ok (.ret (.bool true))) s' := by
  obtain ⟨hC, hP⟩ := hT (117, 113) List.mem_cons_self
  obtain ⟨ps, hP'⟩ := hgr.get (117, 113) List.mem_cons_self
  have keep : ∀ b o, b ≠ 113 → s₁.heap.get? b = some o → s'.heap.get? b = some o := fun b o hb e => hk b o (ghost_ne e (fun h => hb (List.mem_singleton.mp h)))
  refine ⟨.inl ⟨.bool true, .bool true, [], rfl, hn, .bool true, hp, fun _ => ⟨.nil, fun _ h => nomatch h⟩⟩, ⟨fun b o e => ?_, fun b o e => ?_⟩, hos, hb⟩
  · by_cases h : b = 113
    · subst h
      cases Option.some.inj (hP.symm.trans e)
      exact .inr (.inl ⟨(hC.tab hP).isCodeTable, rfl, #[], ps, rfl, by rw [Array.empty_append]; exact hP'⟩)
    · exact .inl (keep b o h e)
  · by_cases h : b = 113
    · subst h
      exact ⟨_, hP'⟩
    · exact ⟨o, keep b o h e⟩
theorem postB {M : Model} {A : Around} {cd : Code} {s s₁ : Shared} {cw : ClaimW} {cl : Str → Option Addr} {mean : ExcName → Option Value} {args : List WData} (hT : TabsAt [(117, 113)] s₁.heap) (hn : ∀ cls, cw.raises args cls = false) (hp : cw.post args (.bool true) args = true)
    (h : codeAny M A cd (fun r s' => r = .ok (.ret (.bool true)) ∧ (∀ b o, (ghostOf s₁.heap [(117, 113)]).get? b = some o → s'.heap.get? b = some o) ∧ s'.os = s₁.os ∧ AllBare s'.gens ∧ GrownAll [(117, 113)] s'.heap) s) : codeAny M A cd (GoodWG cw cl mean args s₁) s :=
  codeAny_mono h fun r s' ⟨hr, hk, ho, hb, hg⟩ => by subst hr; exact good_true hT hn hp hk ho hb hg
theorem eqE (L a : Addr) (cd : Value) : envOfC (Str.ofString "law") lawSc.1 L a cd = envX (Str.ofString "law") lawSc.1 L a cd (lawCl L) := by rfl
theorem eqA (L a : Addr) (cd : Value) : callerA.deeper (envX (Str.ofString "law") lawSc.1 L a cd (lawCl L)) = ktrTop (1 + claimMargin + 1) 7 (some []) (Str.ofString "law") lawSc.1 L a cd (lawCl L) [] := by rfl
theorem eqR : 1 + claimMargin + 1 + 8 < recursionLimit := by decide
theorem eqC : 7 + 300 < cLine := by decide
theorem said0 : OpenLaw.wellSaid PySem.Challenge.rw_in0163_01 = true := by kernel_rfl
theorem hdx (left : Left0) : OpenLaw.Holds PySem.Challenge.rw_in0163_01 := by
  refine holds_law said0 fun said => ?_
  refine holds_open (q := viewq) (loose := loose0) (Xt := fun s => xlAt viewq [] s && recOk (RowW.records (OpenLaw.row PySem.Challenge.rw_in0163_01).toRowW) s) (XP := XL viewq []) (Yf := Hook.obs (kmHook KF KAs (fun _ => rfl) (nat_lit 113 :: []))) (Ya := Hook.val (kmHook KF KAs (fun _ => rfl) (nat_lit 113 :: []))) (YP := Hook.says (kmHook KF KAs (fun _ => rfl) (nat_lit 113 :: []))) (N := 4434) left (Hook.of (kmHook KF KAs (fun _ => rfl) (nat_lit 113 :: []))) (Hook.keeps (kmHook KF KAs (fun _ => rfl) (nat_lit 113 :: []))) (fun s e => xl_of s (Bool.and_eq_true_iff.mp e).1) XL.keeps (by rfl) (by rfl) (by rfl) (fun s e => recFacts_of (Bool.and_eq_true_iff.mp e).2) (by rfl) said (by decide +kernel) ⟨rfl, rfl, rfl, rfl, rfl, by decide +kernel⟩ ?hw ?hc
  case hw => w_witness2
  k_fill
  intro w s₀ s₁ mg mb G Y fa o pm cd doc dV kV ho hd hcd hD hmg hg args vals as hpre hlay hrd hwl hlo
  have KX := km_in_of Y
  km_tabs Y
  have X := (Ground.X G).1
  have V := (Ground.X G).2
  refine Ground.open G ?_
  intro T B D TE TW
  try (refine guard_noD D (by decide +kernel) ?_; clear D)
  km_lay T hmg ho hd cd
  clear hmg
  wrow_args hpre hlay hrd hwl hlo
  refine enter_call ?_
  w_top on
  refine postB hT9 (fun _ => rfl) (by first | rfl | wrow_post) ?_
  w_call any ho hd hcd hD T F
  clear hd
  kn_ghosts F T
  k_drop
  show wpAny _ (callerA.deeper (envOfC (Str.ofString "law") lawSc.1 _ _ _)) (execs [lawS0.1, lawS1.1, lawS2.1, lawS3.1, lawS4.1, lawS5.1, lawS6.1, lawS7.1, lawS8.1, lawS9.1, lawS10.1, lawS11.1, lawS12.1, lawS13.1, lawS14.1] (envOfC (Str.ofString "law") lawSc.1 _ _ _)) _ _ _
  rw [eqE, eqA]
  refine' body_c ?B ?F ?X ?N ?T eqR eqC ?XB ?TB ?hC ?hsc ?hI ?hlen ?m1 ?c1 ?d1 ?c2 ?d2 ?t ?ps ?G ?ret
  case B => assumption
  case F => assumption
  case X => assumption
  case N => assumption
  case T => assumption
  case XB => assumption
  case TB => assumption
  case hC => assumption
  case hsc => assumption
  case hI => assumption
  case hlen => omega
  case m1 => rfl
  case c1 => exact .tail _ (.head _)
  case d1 => assumption
  case c2 => exact .head _
  case d2 => assumption
  case t => exact .tail _ (.tail _ (.head _))
  case ps => exact tab_nil
  case G => exact ⟨.of_eq hg, rfl⟩
  case ret =>
    intro s' m' l' ps' F' N' ht' hps' hG'
    exact ⟨rfl, F'.keep, hG'.2, hG'.1, ⟨.of N' ht', trivial⟩⟩
end Mine
theorem PySem.Challenge.cw_in0163_01_holds : PySem.Challenge.rw_in0163_01.Holds :=
  Mine.hdx Mine.left0
