import PyProof.Rows.All
import Wide.All
import OpenK.AllK
import Wide.FinOn
import PySem.Challenge.RW_jj0017_01
open PySem PySem.W PyProof.Rows PySem.Spec PySem.Calls
set_option Elab.async false
set_option compiler.extract_closed false
set_option maxRecDepth 100000
set_option maxHeartbeats 8000000
set_option linter.unusedVariables false
namespace Mine
section
def signIn (signs : Str) (c : Nat) : Bool := !(Builtin.Str.occurrences signs (Txt.lower ⟨#[c]⟩) 0 signs.length 1).isEmpty
def skipN (signs : Str) : List Nat → Nat
  | [] => 0
  | c :: r => if signIn signs c then skipN signs r + 1 else 0
def skipF (x : Str) (i : Int) (signs : Str) : Int := i + skipN signs (x.cps.toList.drop i.toNat)

theorem drop_item (x : Str) {k : Int} (h0 : 0 ≤ k) (h1 : k < x.length) : ∃ c, x.cps.toList.drop k.toNat = c :: x.cps.toList.drop (k + 1).toNat ∧ Txt.item x k = ⟨#[c]⟩ := by
  have hlt : k.toNat < x.cps.toList.length := by
    have : x.cps.toList.length = x.length := by simp [Str.length]
    omega
  have hk : (k + 1).toNat = k.toNat + 1 := by omega
  refine ⟨x.cps.toList[k.toNat], ?_, ?_⟩
  · rw [hk]; exact List.drop_eq_getElem_cons hlt
  · unfold Txt.item Txt.charAt
    have e : seqIndex? k x.length = some k.toNat := by
      unfold seqIndex?
      simp; omega
    rw [e]
    simp
    have : k.toNat < x.cps.size := by simpa using hlt
    simp [this]
theorem skipF_stop {x signs : Str} {k : Int} (h0 : 0 ≤ k) (h1 : k < x.length) (h : (Builtin.Str.occurrences signs (Txt.lower (Txt.item x k)) 0 signs.length 1).isEmpty = true) : skipF x k signs = k := by
  obtain ⟨c, e, ei⟩ := drop_item x h0 h1
  unfold skipF
  rw [e, skipN, if_neg]
  · simp
  · unfold signIn; rw [← ei, h]; simp
theorem skipF_step {x signs : Str} {k : Int} (h0 : 0 ≤ k) (h1 : k < x.length) (h : (Builtin.Str.occurrences signs (Txt.lower (Txt.item x k)) 0 signs.length 1).isEmpty = false) : skipF x (k + 1) signs = skipF x k signs := by
  obtain ⟨c, e, ei⟩ := drop_item x h0 h1
  unfold skipF
  rw [e, skipN, if_pos]
  · omega
  · unfold signIn; rw [← ei, h]; rfl
theorem skipF_end {x signs : Str} {k : Int} (h1 : ¬ k < x.length) : skipF x k signs = k := by
  unfold skipF
  have : x.cps.toList.length = x.length := by simp [Str.length]
  rw [List.drop_eq_nil_of_le (by omega)]
  simp [skipN]
theorem skipN_le (signs : Str) : ∀ l : List Nat, skipN signs l ≤ l.length
  | [] => Nat.le_refl _
  | c :: r => by
    unfold skipN
    have := skipN_le signs r
    split
    · simp; omega
    · simp
theorem skipF_ge (x signs : Str) (k : Int) : k ≤ skipF x k signs := by unfold skipF; omega
theorem skipF_le (x signs : Str) (k : Int) : skipF x k signs ≤ k + x.length := by
  unfold skipF
  have := skipN_le signs (x.cps.toList.drop k.toNat)
  have e : x.cps.toList.length = x.length := by simp [Str.length]
  rw [List.length_drop, e] at this
  omega

end
section
abbrev BL : Str := Str.ofString " \t\n\x0b\x0c\x0d\x1c\x1d\x1e\x1f"
abbrev DG : Str := Str.ofString "0123456789"
abbrev LT : Str := Str.ofString "abcdefghijklmnopqrstuvwxyz"
theorem slice_at {x : Str} {P Y Q : List Nat} (h : x.cps.toList = P ++ (Y ++ Q)) {i j : Int} (hi : i = (P.length : Int)) (hj : j = ((P.length + Y.length : Nat) : Int)) : Txt.slice x (some i) (some j) = ⟨Y.toArray⟩ := by
  show StrLaws.sliceText x (some i) (some j) = _
  have hl : x.cps.toList.length = P.length + (Y.length + Q.length) := by rw [h]; simp
  rw [StrLaws.sliceText_plain ⟨by omega, by omega, by omega⟩, h]
  have e1 : i.toNat = P.length := by omega
  have e2 : (j - i).toNat = Y.length := by omega
  rw [e1, e2, List.drop_left, List.take_left]
theorem skipN_app (S : Str) : ∀ (Y : List Nat) {Q : List Nat}, (∀ c ∈ Y, signIn S c = true) → (Q = [] ∨ ∃ c r, Q = c :: r ∧ signIn S c = false) → skipN S (Y ++ Q) = Y.length
  | [], Q, _, hq => by
    rcases hq with rfl | ⟨c, r, rfl, hc⟩
    · rfl
    · show (if signIn S c then _ else 0) = 0
      rw [hc]; rfl
  | c :: Y, Q, hy, hq => by
    show (if signIn S c then skipN S (Y ++ Q) + 1 else 0) = Y.length + 1
    rw [hy c (.head _), if_pos rfl, skipN_app S Y (fun d hd => hy d (.tail _ hd)) hq]
theorem skip_to {x S : Str} {P Y Q : List Nat} (h : x.cps.toList = P ++ (Y ++ Q)) (hy : ∀ c ∈ Y, signIn S c = true) (hq : Q = [] ∨ ∃ c r, Q = c :: r ∧ signIn S c = false) {i j : Int} (hi : i = (P.length : Int)) (hj : j = ((P.length + Y.length : Nat) : Int)) : skipF x i S = j := by
  unfold skipF
  have e1 : i.toNat = P.length := by omega
  rw [e1, h, List.drop_left, skipN_app S Y hy hq]
  omega
/-- what the reader needs of the three kinds of signs -/
def isBl (c : Nat) : Bool := signIn BL c && !signIn DG c && !signIn LT c
def isDg (c : Nat) : Bool := !signIn BL c && signIn DG c && !signIn LT c
def isLt (c : Nat) : Bool := !signIn BL c && !signIn DG c && signIn LT c
theorem isBl_of {c : Nat} (h : c ∈ [32, 9, 10, 11, 12, 13, 28, 29, 30, 31]) : isBl c = true := List.all_eq_true.mp (show [32, 9, 10, 11, 12, 13, 28, 29, 30, 31].all isBl = true from by decide +kernel) c h
theorem isDg_of {c : Nat} (h : 48 ≤ c ∧ c ≤ 57) : isDg c = true := by
  have : c ∈ [48, 49, 50, 51, 52, 53, 54, 55, 56, 57] := by simp; omega
  exact List.all_eq_true.mp (show [48, 49, 50, 51, 52, 53, 54, 55, 56, 57].all isDg = true from by decide +kernel) c this
theorem slash_no : signIn BL 47 = false := by decide +kernel
theorem bl_parts {c : Nat} (h : isBl c = true) : signIn BL c = true ∧ signIn DG c = false ∧ signIn LT c = false := by
  simpa [isBl, and_assoc] using h
theorem dg_parts {c : Nat} (h : isDg c = true) : signIn BL c = false ∧ signIn DG c = true ∧ signIn LT c = false := by
  simpa [isDg, and_assoc] using h
theorem lt_parts {c : Nat} (h : isLt c = true) : signIn BL c = false ∧ signIn DG c = false ∧ signIn LT c = true := by
  simpa [isLt, and_assoc] using h
theorem head_no {S : Str} {l r : List Nat} (hn : l ≠ []) (h : ∀ c ∈ l, signIn S c = false) : (l ++ r) = [] ∨ ∃ c q, (l ++ r) = c :: q ∧ signIn S c = false := by
  cases l with
  | nil => exact absurd rfl hn
  | cons c q => exact .inr ⟨c, q ++ r, rfl, h c (.head _)⟩
def RL (x : Str) (i : Int) (A M N : Str) (q : Int) : Prop :=
  ∃ a1 a2 a3 a4 a5 a6 a7 : Int, skipF x i BL = a1 ∧ skipF x a1 DG = a2 ∧ (¬ (a2 == a1) = true) ∧ skipF x a2 BL = a3 ∧ (Txt.slice x (some a3) (some (a3 + 1)) == Str.ofString "/") = true ∧
    skipF x (a3 + 1) BL = a4 ∧ skipF x a4 DG = a5 ∧ skipF x a5 BL = a6 ∧ skipF x a6 LT = a7 ∧ (¬ (a7 == a6) = true) ∧ skipF x a7 BL = q ∧
    Txt.slice x (some a1) (some a2) = A ∧ Txt.slice x (some a4) (some a5) = M ∧ Txt.slice x (some a6) (some a7) = N
def RLno (x : Str) (i : Int) : Prop := ∃ a1, skipF x i BL = a1 ∧ skipF x a1 DG = a1
theorem mk_list (A : Str) : (⟨A.cps.toList.toArray⟩ : Str) = A := by cases A; rfl
theorem RL_of {x A G : Str} {b : Nat} (hx : x.cps.toList = b :: (A.cps.toList ++ b :: 47 :: b :: (G.cps.toList ++ [b]))) (hb : isBl b = true) (hA : ∀ c ∈ A.cps.toList, isDg c = true) (hA0 : A.cps.toList ≠ [])
    (hG : ∀ c ∈ G.cps.toList, isLt c = true) (hG0 : G.cps.toList ≠ []) : RL x 0 A (Str.ofString "") G x.length := by
  obtain ⟨b1, b2, b3⟩ := bl_parts hb
  have lx : (x.length : Int) = A.cps.toList.length + G.cps.toList.length + 5 := by
    have : x.length = x.cps.toList.length := by simp [Str.length]
    rw [this, hx]; simp; omega
  have oneB : ∀ c ∈ [b], signIn BL c = true := fun c hc => by rw [List.mem_singleton.mp hc]; exact b1
  have A1 : ∀ c ∈ A.cps.toList, signIn BL c = false := fun c hc => (dg_parts (hA c hc)).1
  have A2 : ∀ c ∈ A.cps.toList, signIn DG c = true := fun c hc => (dg_parts (hA c hc)).2.1
  have G1 : ∀ c ∈ G.cps.toList, signIn BL c = false := fun c hc => (lt_parts (hG c hc)).1
  have G2 : ∀ c ∈ G.cps.toList, signIn DG c = false := fun c hc => (lt_parts (hG c hc)).2.1
  have G3 : ∀ c ∈ G.cps.toList, signIn LT c = true := fun c hc => (lt_parts (hG c hc)).2.2
  have nA : 0 < A.cps.toList.length := List.length_pos_iff.mpr hA0
  have nG : 0 < G.cps.toList.length := List.length_pos_iff.mpr hG0
  refine ⟨1, 1 + A.cps.toList.length, 2 + A.cps.toList.length, 4 + A.cps.toList.length, 4 + A.cps.toList.length, 4 + A.cps.toList.length, 4 + A.cps.toList.length + G.cps.toList.length, ?_, ?_, ?_, ?_, ?_, ?_, ?_, ?_, ?_, ?_, ?_, ?_, ?_, ?_⟩
  · exact skip_to (P := []) (Y := [b]) (Q := A.cps.toList ++ b :: 47 :: b :: (G.cps.toList ++ [b])) (by rw [hx]; simp) oneB (head_no hA0 A1) (by simp) (by simp)
  · exact skip_to (P := [b]) (Y := A.cps.toList) (Q := b :: 47 :: b :: (G.cps.toList ++ [b])) (by rw [hx]; simp) A2 (.inr ⟨b, _, rfl, b2⟩) (by simp) (by simp)
  · simp only [beq_iff_eq]; omega
  · exact skip_to (P := b :: A.cps.toList) (Y := [b]) (Q := 47 :: b :: (G.cps.toList ++ [b])) (by rw [hx]; simp) oneB (.inr ⟨47, _, rfl, slash_no⟩) (by simp; omega) (by simp; omega)
  · rw [slice_at (P := b :: (A.cps.toList ++ [b])) (Y := [47]) (Q := b :: (G.cps.toList ++ [b])) (by rw [hx]; simp) (by simp; omega) (by simp; omega)]
    decide +kernel
  · exact skip_to (P := b :: (A.cps.toList ++ [b, 47])) (Y := [b]) (Q := G.cps.toList ++ [b]) (by rw [hx]; simp) oneB (head_no hG0 G1) (by simp; omega) (by simp; omega)
  · exact skip_to (P := b :: (A.cps.toList ++ [b, 47, b])) (Y := []) (Q := G.cps.toList ++ [b]) (by rw [hx]; simp) (fun _ h => nomatch h) (head_no hG0 G2) (by simp; omega) (by simp; omega)
  · exact skip_to (P := b :: (A.cps.toList ++ [b, 47, b])) (Y := []) (Q := G.cps.toList ++ [b]) (by rw [hx]; simp) (fun _ h => nomatch h) (head_no hG0 G1) (by simp; omega) (by simp; omega)
  · exact skip_to (P := b :: (A.cps.toList ++ [b, 47, b])) (Y := G.cps.toList) (Q := [b]) (by rw [hx]; simp) G3 (.inr ⟨b, [], rfl, b3⟩) (by simp; omega) (by simp; omega)
  · simp only [beq_iff_eq]; omega
  · rw [lx]
    exact skip_to (P := b :: (A.cps.toList ++ [b, 47, b] ++ G.cps.toList)) (Y := [b]) (Q := []) (by rw [hx]; simp) oneB (.inl rfl) (by simp; omega) (by simp; omega)
  · rw [slice_at (P := [b]) (Y := A.cps.toList) (Q := b :: 47 :: b :: (G.cps.toList ++ [b])) (by rw [hx]; simp) (by simp) (by simp)]
  · rw [slice_at (P := b :: (A.cps.toList ++ [b, 47, b])) (Y := []) (Q := G.cps.toList ++ [b]) (by rw [hx]; simp) (by simp; omega) (by simp; omega)]
    decide +kernel
  · rw [slice_at (P := b :: (A.cps.toList ++ [b, 47, b])) (Y := G.cps.toList) (Q := [b]) (by rw [hx]; simp) (by simp; omega) (by simp; omega)]
/-- the text of a number below 1000 -/
theorem num_digits {n : Int} (h0 : 0 ≤ n) : ∀ c ∈ (Str.ofString (toString n)).cps.toList, isDg c = true := by
  obtain ⟨m, rfl⟩ := Int.eq_ofNat_of_zero_le h0
  intro c hc
  rw [KIN.signs_num] at hc
  obtain ⟨ch, hch, e⟩ := List.mem_map.mp hc
  have r := digit_range (Nat.isDigit_of_mem_toDigits (by decide) (by decide) hch)
  rw [← e]
  exact isDg_of r
theorem num_some {n : Int} (h0 : 0 ≤ n) : (Str.ofString (toString n)).cps.toList ≠ [] := by
  obtain ⟨m, rfl⟩ := Int.eq_ofNat_of_zero_le h0
  rw [KIN.signs_num]
  intro e
  have h := toDigits_len_ge 10 m
  rw [List.map_eq_nil_iff.mp e] at h
  exact absurd h (by decide)

end
section
def cgsF (nm nms x : Str) : Bool := decide (Txt.lower x = nm) || decide (Txt.lower x = nms)
theorem cgs_end {nm nms x y : Str} (e : y = nms) : (false || decide (Txt.lower x = nm) || decide (Txt.lower x = y)) = cgsF nm nms x := by rw [e]; rfl
def clsOf (x : Str) : Option Addr :=
  if cgsF (Str.ofString "year") (Str.ofString "years") x then some 224 else
  if cgsF (Str.ofString "month") (Str.ofString "months") x then some 241 else
  if cgsF (Str.ofString "day") (Str.ofString "days") x then some 258 else
  if cgsF (Str.ofString "hour") (Str.ofString "hours") x then some 275 else
  if cgsF (Str.ofString "minute") (Str.ofString "minutes") x then some 292 else
  if cgsF (Str.ofString "second") (Str.ofString "seconds") x then some 309 else none
theorem clsOf_0 {x : Str} (a0 : cgsF (Str.ofString "year") (Str.ofString "years") x = true) : clsOf x = some 224 := by simp [clsOf, a0]
theorem clsOf_1 {x : Str} (a0 : cgsF (Str.ofString "year") (Str.ofString "years") x = false) (a1 : cgsF (Str.ofString "month") (Str.ofString "months") x = true) : clsOf x = some 241 := by simp [clsOf, a0, a1]
theorem clsOf_2 {x : Str} (a0 : cgsF (Str.ofString "year") (Str.ofString "years") x = false) (a1 : cgsF (Str.ofString "month") (Str.ofString "months") x = false) (a2 : cgsF (Str.ofString "day") (Str.ofString "days") x = true) : clsOf x = some 258 := by simp [clsOf, a0, a1, a2]
theorem clsOf_3 {x : Str} (a0 : cgsF (Str.ofString "year") (Str.ofString "years") x = false) (a1 : cgsF (Str.ofString "month") (Str.ofString "months") x = false) (a2 : cgsF (Str.ofString "day") (Str.ofString "days") x = false) (a3 : cgsF (Str.ofString "hour") (Str.ofString "hours") x = true) : clsOf x = some 275 := by simp [clsOf, a0, a1, a2, a3]
theorem clsOf_4 {x : Str} (a0 : cgsF (Str.ofString "year") (Str.ofString "years") x = false) (a1 : cgsF (Str.ofString "month") (Str.ofString "months") x = false) (a2 : cgsF (Str.ofString "day") (Str.ofString "days") x = false) (a3 : cgsF (Str.ofString "hour") (Str.ofString "hours") x = false) (a4 : cgsF (Str.ofString "minute") (Str.ofString "minutes") x = true) : clsOf x = some 292 := by simp [clsOf, a0, a1, a2, a3, a4]
theorem clsOf_5 {x : Str} (a0 : cgsF (Str.ofString "year") (Str.ofString "years") x = false) (a1 : cgsF (Str.ofString "month") (Str.ofString "months") x = false) (a2 : cgsF (Str.ofString "day") (Str.ofString "days") x = false) (a3 : cgsF (Str.ofString "hour") (Str.ofString "hours") x = false) (a4 : cgsF (Str.ofString "minute") (Str.ofString "minutes") x = false) (a5 : cgsF (Str.ofString "second") (Str.ofString "seconds") x = true) : clsOf x = some 309 := by simp [clsOf, a0, a1, a2, a3, a4, a5]
/-- what a name must say: its class, its letters, and that it is known by that class alone -/
def noCls (x : Str) : Bool := !cgsF (Str.ofString "year") (Str.ofString "years") x && !cgsF (Str.ofString "month") (Str.ofString "months") x && !cgsF (Str.ofString "day") (Str.ofString "days") x && !cgsF (Str.ofString "hour") (Str.ofString "hours") x && !cgsF (Str.ofString "minute") (Str.ofString "minutes") x && !cgsF (Str.ofString "second") (Str.ofString "seconds") x
def nameOk (C : Addr) (nm nms x : Str) (b : Bool) : Bool :=
  decide (clsOf x = some C) && noCls (x ++ Str.ofString "x") && cgsF nm nms x && (cgsF nm nms (x ++ Str.ofString "s") == b) && x.cps.toList.all isLt && !x.cps.toList.isEmpty && decide (x.length ≤ 10)
def names (g G Gs : Str) : List Str := [g, g ++ Str.ofString "s", G, Gs]
def namesOk (C : Addr) (nm nms : Str) : List Str → Bool → Bool
  | [], _ => true
  | x :: r, b => nameOk C nm nms x b && namesOk C nm nms r (!b)
theorem ok_second : namesOk 309 (Str.ofString "second") (Str.ofString "seconds") [Str.ofString "second", Str.ofString "seconds", Str.ofString "SECOND", Str.ofString "SecondS"] true = true := by decide +kernel
theorem ok_minute : namesOk 292 (Str.ofString "minute") (Str.ofString "minutes") [Str.ofString "minute", Str.ofString "minutes", Str.ofString "MINUTE", Str.ofString "MinuteS"] true = true := by decide +kernel
theorem ok_hour : namesOk 275 (Str.ofString "hour") (Str.ofString "hours") [Str.ofString "hour", Str.ofString "hours", Str.ofString "HOUR", Str.ofString "HourS"] true = true := by decide +kernel
theorem ok_day : namesOk 258 (Str.ofString "day") (Str.ofString "days") [Str.ofString "day", Str.ofString "days", Str.ofString "DAY", Str.ofString "DayS"] true = true := by decide +kernel
theorem ok_month : namesOk 241 (Str.ofString "month") (Str.ofString "months") [Str.ofString "month", Str.ofString "months", Str.ofString "MONTH", Str.ofString "MonthS"] true = true := by decide +kernel
theorem ok_year : namesOk 224 (Str.ofString "year") (Str.ofString "years") [Str.ofString "year", Str.ofString "years", Str.ofString "YEAR", Str.ofString "YearS"] true = true := by decide +kernel
theorem name_at {C : Addr} {nm nms : Str} : ∀ {ws : List Str} {b : Bool}, namesOk C nm nms ws b = true → ∀ k : Nat, k < ws.length → nameOk C nm nms (ws.getD k PySem.Str.empty) (if k % 2 = 0 then b else !b) = true
  | [], _, _, k, h => absurd h (Nat.not_lt_zero k)
  | x :: r, b, h, 0, _ => by
    rw [namesOk, Bool.and_eq_true] at h
    exact h.1
  | x :: r, b, h, k + 1, hk => by
    rw [namesOk, Bool.and_eq_true] at h
    have e := name_at h.2 k (Nat.lt_of_succ_lt_succ hk)
    show nameOk C nm nms (r.getD k PySem.Str.empty) _ = true
    have e2 : (if (k + 1) % 2 = 0 then b else !b) = (if k % 2 = 0 then !b else !!b) := by
      rcases Nat.mod_two_eq_zero_or_one k with q | q
      · rw [if_neg (by omega), if_pos q]
      · rw [if_pos (by omega), if_neg (by omega), Bool.not_not]
    rw [e2]
    exact e
def yes (nm : Str) : Str := nm ++ Str.ofString "s"
/-- the facts of a name -/
structure NameIs (C : Addr) (nm nms x : Str) (b : Bool) : Prop where
  cls : clsOf x = some C
  f0 : cgsF (Str.ofString "year") (Str.ofString "years") (x ++ Str.ofString "x") = false
  f1 : cgsF (Str.ofString "month") (Str.ofString "months") (x ++ Str.ofString "x") = false
  f2 : cgsF (Str.ofString "day") (Str.ofString "days") (x ++ Str.ofString "x") = false
  f3 : cgsF (Str.ofString "hour") (Str.ofString "hours") (x ++ Str.ofString "x") = false
  f4 : cgsF (Str.ofString "minute") (Str.ofString "minutes") (x ++ Str.ofString "x") = false
  f5 : cgsF (Str.ofString "second") (Str.ofString "seconds") (x ++ Str.ofString "x") = false
  own : cgsF nm nms x = true
  more : cgsF nm nms (x ++ Str.ofString "s") = b
  lets : ∀ c ∈ x.cps.toList, isLt c = true
  some : x.cps.toList ≠ []
  len : x.length ≤ 10
theorem name_is {C : Addr} {nm nms x : Str} {b : Bool} (h : nameOk C nm nms x b = true) : NameIs C nm nms x b := by
  unfold nameOk noCls at h
  simp only [Bool.and_eq_true, Bool.not_eq_true', decide_eq_true_eq, beq_iff_eq, List.all_eq_true] at h
  obtain ⟨⟨⟨⟨⟨⟨h1, h2⟩, h3⟩, h4⟩, h5⟩, h6⟩, h7⟩ := h
  obtain ⟨⟨⟨⟨⟨g0, g1⟩, g2⟩, g3⟩, g4⟩, g5⟩ := h2
  exact ⟨h1, g0, g1, g2, g3, g4, g5, h3, h4, h5, (fun e => by rw [e] at h6; cases h6), h7⟩
theorem list_len (x : Str) : x.length = x.cps.toList.length := by simp [Str.length]
theorem app_list (x y : Str) : (x ++ y).cps.toList = x.cps.toList ++ y.cps.toList := by
  show (x.cps ++ y.cps).toList = _
  simp
theorem text_RL {c : Nat} {v : Int} {x : Str} (hb : isBl c = true) (h0 : 0 ≤ v) (hx : ∀ c ∈ x.cps.toList, isLt c = true) (hx0 : x.cps.toList ≠ []) {y : Str}
    (hy : y = ⟨#[c]⟩ ++ Str.ofString (toString v) ++ ⟨#[c]⟩ ++ Str.ofString "/" ++ ⟨#[c]⟩ ++ x ++ ⟨#[c]⟩) : RL y 0 (Str.ofString (toString v)) (Str.ofString "") x y.length := by
  refine RL_of (b := c) ?_ hb (num_digits h0) (num_some h0) hx hx0
  rw [hy]
  simp only [app_list]
  have e : (Str.ofString "/").cps.toList = [47] := by decide +kernel
  rw [e]
  simp
theorem text_len {c : Nat} {v : Int} {x : Str} (h0 : 0 ≤ v) (h1 : v < 1000) (hx : x.length ≤ 10) {y : Str}
    (hy : y = ⟨#[c]⟩ ++ Str.ofString (toString v) ++ ⟨#[c]⟩ ++ Str.ofString "/" ++ ⟨#[c]⟩ ++ x ++ ⟨#[c]⟩) : y.length ≤ 1000 := by
  have h := KT.len_num h0 (by omega)
  rw [hy]
  simp only [list_len, app_list, List.length_append] at *
  have e : (Str.ofString "/").cps.toList = [47] := by decide +kernel
  rw [e]
  have e1 : (#[c] : Array Nat).toList.length = 1 := rfl
  simp only [e1, List.length_cons, List.length_nil] at *
  omega
theorem x_len {x y : Str} (h : x.length ≤ 10) (hy : y.length ≤ 1) : (x ++ y).length ≤ 1000 := by
  have e : (x ++ y).length = x.length + y.length := by rw [list_len, app_list, List.length_append, ← list_len, ← list_len]
  omega
theorem par_ok (n : Int) : ((if ((n.fdiv 6).fmod 4).toNat % 2 = 0 then true else false) != ((n.fdiv 6).fmod 2 == 0)) = false := by
  generalize n.fdiv 6 = m
  have e4 : m.fmod 4 = m % 4 := Int.fmod_eq_emod_of_nonneg m (by decide)
  have e2 : m.fmod 2 = m % 2 := Int.fmod_eq_emod_of_nonneg m (by decide)
  rw [e4, e2]
  by_cases h : m % 2 = 0
  · rw [if_pos (by omega), h]; rfl
  · rw [if_neg (by omega), (show (m % 2 == 0) = false from beq_eq_false_iff_ne.mpr h)]; rfl
theorem skip_if {z x : Str} {v r : Option Value} {k : Option Value} (h : z ≠ x) (e : k = r) : (if z = x then v else k) = r := (if_neg h).trans e
theorem bl_at {k : Int} (h0 : 0 ≤ k) (h1 : k < 10) : ∃ c, Txt.item BL k = ⟨#[c]⟩ ∧ isBl c = true := by
  obtain ⟨c, e, ei⟩ := drop_item BL h0 (by have e : BL.length = 10 := by decide +kernel
                                           omega)
  refine ⟨c, ei, ?_⟩
  have hc : c ∈ BL.cps.toList := List.mem_of_mem_drop (by rw [e]; exact .head _)
  exact isBl_of (by have e : BL.cps.toList = [32, 9, 10, 11, 12, 13, 28, 29, 30, 31] := by decide +kernel
                    rw [e] at hc; exact hc)

end
section
section
variable {prog : Program} {w : World} {A : Around} {E : Value → Shared → Prop} {s : Shared} {K : Frag} {C x : Addr} {Q : Value → Shared → Prop}
theorem typeOf_tuple : typeOf (.type "tuple") = pure (.type "type") := by
  show (pure (Value.type ((Manifest.find? "tuple").elim "type" (·.metatype))) : Sem Value) = _
  rw [show (Manifest.find? "tuple").elim "type" (·.metatype) = "type" from by decide +kernel]
theorem issub_K (X : K.In s.heap) (hc : isClsIn K C = true) (hm : mroIn K C (.type "tuple") = some true) (h : Q (.bool true) s) :
    wpAny (model prog w) A (call (.builtin "issubclass") [.ref C, .type "tuple"]) Q E s := by
  refine call_issubclass (S := fun _ R s => K.In s.heap ∧ R (.ok (.ret (.bool true))) s) ?_ ⟨X, h⟩
  rintro prog w A R s ⟨X, hr⟩
  refine issubclass_outer ?_
  obtain ⟨hh, g, d, t, os⟩ := s
  have L1 := looks_mroIn (M := model prog w) X hm
  have L0 : Looks (model prog w) hh (typeOf (.type "tuple")) (.type "type") := Looks.of_pure typeOf_tuple
  obtain ⟨cd, hcd⟩ := Option.isSome_iff_exists.mp hc
  have L2 : Looks (model prog w) hh (isType (.ref C)) true := by
    unfold clsIn at hcd
    split at hcd
    · rename_i ho
      exact (Looks.ld (X _ _ ho)).andThen .now
    · cases hcd
  have L3 : Looks (model prog w) hh (isType (.type "tuple")) true := Looks.of_pure rfl
  unfold Builtin.«issubclass.nested»
  repeat lk
  exact hr
theorem tup_getitem_K {o : Obj} {items : Array Value} {k : Int} {u : Tok} {j : Nat} {v : Value} (X : K.In s.heap) (ho : s.heap.get? x = some o) (hcl : o.cls = .ref C) {n : Nat} (hd : o.data = .seq items n) (hm : mroIn K C (.type "tuple") = some true)
    (hlo : -(2 ^ 63) ≤ k) (hhi : k < 2 ^ 63) (hj : seqIndex? k items.size = some j) (hx : items[j]? = some v) (h : Q v s) :
    wpAny (model prog w) A (call (.builtin "tuple.__getitem__") [.ref x, .int k u]) Q E s := by
  refine wpAny_call (codeAny_call_builtin slot_tuple_getitem.plain entry_tuple_getitem ?_)
  have hkind : builtinKind "tuple.__getitem__" = some .slot := by decide +kernel
  have hsplit : splitId "tuple.__getitem__" = some ("tuple", "__getitem__") := by decide +kernel
  have ha := args_tuple_getitem (.ref x) (.int k u)
  have L1 := looks_mroIn (M := model prog w) X hm
  have hT : Looks (model prog w) s.heap (typeOf (.ref x)) (.ref C) := hcl ▸ (Looks.ld ho).andThen .now
  simp only [checkBuiltinCall, hkind, hsplit]
  refine wpAny_bind ?_
  unfold isInstance
  refine wpAny_bind (hT.here (L1.here ?_))
  simp only [Bool.not_true, Bool.false_eq_true, if_false]
  have fin : wpAny (model prog w) A.in1 (Builtin.«tuple.__getitem__» ⟨[.ref x, .int k u], []⟩)
      (fun fin s' => match fin with | .done f => (wants Q E) (.ok f) s' | .again c' => c'.quiet = true ∧ codeAny (model prog w) A c' (wants Q E) s') (fun e s' => (wants Q E) (.error e) s') s := by
    show wpAny _ _ (Builtin.Tuple.tupleItemsOf (.ref x) >>= _) _ _ s
    unfold Builtin.Tuple.tupleItemsOf
    refine wpAny_bind (wpAny_bind (wpAny_seqItems ho hd (wpAny_pure ?_)))
    refine wpAny_bind (wpAny_typeOf (typeIs_int s k u) ?_)
    rw [if_neg (by decide)]
    refine wpAny_bind (wpAny_specialOf (T := "int") (typeIs_int s k u) int_index ?_)
    rw [if_neg (by simp)]
    refine wpAny_bind (wpAny_of_eq (a := k) rfl ?_)
    rw [if_neg (by simp only [Bool.or_eq_true, decide_eq_true_eq]; omega)]
    simp only [hj, Option.bind_some, hx]
    exact wpAny_pure h
  cases hsig : Manifest.signature? "tuple.__getitem__" with
  | none => exact wpAny_pure fin
  | some sig =>
    simp only [argsOk, hsig] at ha
    have h2 : Bind.checkArgs "tuple.__getitem__" sig ⟨[.ref x, .int k u], []⟩ = pure () := ha
    show wpAny _ _ (Bind.checkArgs "tuple.__getitem__" sig ⟨[.ref x, .int k u], []⟩) _ _ s
    rw [h2]; exact wpAny_pure fin
end
section
variable {prog : Program} {w : World} {A : Around} {E : Value → Shared → Prop} {s : Shared} {K : Frag} {C x : Addr} {Q : Value → Shared → Prop} {o : Obj} {h₀ : Heap} {L : Addr} {news : List (Addr × Obj)}
theorem type_K (X : K.In s.heap) (l : K.lookup x = some o) (hn : (o.cls == .type "builtin_function_or_method") = false) (hq : Q o.cls s) : wpAny (model prog w) A (call (.type "type") [.ref x]) Q E s := by
  obtain ⟨hh, g, d, t, os⟩ := s
  exact call_type_obj (X _ _ l) hn hq
theorem type_N (N : News h₀ L s.heap news) (m : (x, o) ∈ news) (hn : (o.cls == .type "builtin_function_or_method") = false) (hq : Q o.cls s) : wpAny (model prog w) A (call (.type "type") [.ref x]) Q E s := by
  obtain ⟨hh, g, d, t, os⟩ := s
  exact call_type_obj (N _ m).1 hn hq
theorem tupsub_K {items : Array Value} {n : Nat} {k : Int} {u : Tok} {j : Nat} {v : Value} (X : K.In s.heap) (l : K.lookup x = some o) (hcl : o.cls = .ref C) (hd : o.data = .seq items n) (hm : mroIn K C (.type "tuple") = some true)
    (hlo : -(2 ^ 63) ≤ k) (hhi : k < 2 ^ 63) (hj : seqIndex? k items.size = some j) (hx : items[j]? = some v) (h : Q v s) :
    wpAny (model prog w) A (call (.builtin "tuple.__getitem__") [.ref x, .int k u]) Q E s := tup_getitem_K X (X _ _ l) hcl hd hm hlo hhi hj hx h
theorem tupsub_N {items : Array Value} {n : Nat} {k : Int} {u : Tok} {j : Nat} {v : Value} (X : K.In s.heap) (N : News h₀ L s.heap news) (m : (x, o) ∈ news) (hcl : o.cls = .ref C) (hd : o.data = .seq items n) (hm : mroIn K C (.type "tuple") = some true)
    (hlo : -(2 ^ 63) ≤ k) (hhi : k < 2 ^ 63) (hj : seqIndex? k items.size = some j) (hx : items[j]? = some v) (h : Q v s) :
    wpAny (model prog w) A (call (.builtin "tuple.__getitem__") [.ref x, .int k u]) Q E s := tup_getitem_K X (N _ m).1 hcl hd hm hlo hhi hj hx h
theorem check_sub {M : Model} {Q : Unit → Shared → Prop} {id owner n : String} {rest : List Value} (hkind : builtinKind id = some .slot) (hsplit : splitId id = some (owner, n)) (hT : Looks M s.heap (typeOf (.ref x)) (.ref C)) (hm : Looks M s.heap (isSubtype (.ref C) (.type owner)) true) (ha : argsOk id ⟨.ref x :: rest, []⟩)
    (h : Q () s) : wpAny M A (checkBuiltinCall id ⟨.ref x :: rest, []⟩) Q E s := by
  simp only [checkBuiltinCall, hkind, hsplit]
  refine wpAny_bind ?_
  unfold isInstance
  refine wpAny_bind (hT.here (hm.here ?_))
  simp only [Bool.not_true, Bool.false_eq_true, if_false]
  cases hsig : Manifest.signature? id with
  | none => exact wpAny_pure h
  | some sig =>
    simp only [argsOk, hsig] at ha
    have h2 : Bind.checkArgs id sig ⟨.ref x :: rest, []⟩ = pure () := ha
    show wpAny _ _ (Bind.checkArgs id sig ⟨.ref x :: rest, []⟩) _ _ s
    rw [h2]; exact wpAny_pure h
/-- a read through an own data descriptor, of an object of an own class under tuple -/
theorem getd_at {od : Obj} {g : Addr} {a : Value} {dx : Addr} {name : Str} {expr : Bool} (X : K.In s.heap) (ho : s.heap.get? x = some o) (hcl : o.cls = .ref C) (hno : notCls o = true) (hdx : o.dict = some dx) (hld : s.heap.get? dx = some od)
    (hga : findIn K (.ref C) "__getattribute__" = some (some (.builtin "tuple.__getattribute__"))) (hm : mroIn K C (.type "tuple") = some true) (hc : isClsIn K C = true) (ha : findIn K (.ref C) name = some (some a)) (hg : specialIn K a "__get__" = some (some (.ref g))) (ht : takesIn K a = some true)
    (hk : findIn K (.ref C) "__getattr__" = some none)
    (h : wpAny (model prog w) A.in1 (call (.ref g) [a, .ref x, .ref C]) (fun v s' => wpAny (model prog w) A (handedOut v) Q E s') (fun e s' => wpAny (model prog w) A (getattributeRaised (.ref x) (.str name s.toks) (.ref C) e none true expr) Q E s') { s with toks := s.toks + 1 }) :
    wpAny (model prog w) A (getAttr (.ref x) name expr) Q E s := by
  obtain ⟨hh, gg, d, t, os⟩ := s
  have I : InstAt hh x o C (some od) := ⟨ho, hcl, hno, by rw [hdx]; exact hld⟩
  have L0 := I.type (M := model prog w)
  have L1 := looks_findIn (M := model prog w) X hga
  have L2 := looks_find (M := model prog w) X I (findObj_data hc ha hg ht)
  have L3 := looks_findIn (M := model prog w) X hk
  have L4 := looks_mroIn (M := model prog w) X hm
  unfold getAttr getAttrBy
  refine wpAny_bind (wpAny_mkText (wpAny_holding (wpAny_bind (L0.at (wpAny_bind (L1.at ?_))))))
  show wpAny _ _ (getAttrByItsOwn _ _ _ _ _ _) _ _ _
  unfold getAttrByItsOwn
  refine wpAny_bind (L3.at ?_)
  refine wpAny_bind (wpAny_attempt (wpAny_holding ?_))
  unfold callGetattribute
  rw [if_neg (by simp [onTheHeap])]
  unfold boundAndCalled
  rw [PySem.F.slot_tuple_getattribute.bind (.ref x)]
  refine wpAny_bind (wpAny_pure ?_)
  have hA : argsOk "tuple.__getattribute__" ⟨[.ref x, .str name t], []⟩ := PySem.F.args_tuple_getattribute_2 _ _
  have hK : builtinKind "tuple.__getattribute__" = some .slot := by decide +kernel
  have hS : splitId "tuple.__getattribute__" = some ("tuple", "__getattribute__") := by decide +kernel
  have hE := PySem.F.entry_tuple_ga
  have hP := PySem.F.slot_tuple_getattribute.plain
  show wpAny _ _ (call (.builtin "tuple.__getattribute__") [.ref x, .str name t]) _ _ _
  refine wpAny_call (codeAny_call_builtin hP hE ?_)
  refine check_sub (s := ⟨hh, gg, d, t + 1, os⟩) (M := model prog w) (x := x) (rest := [.str name t]) (id := "tuple.__getattribute__") (C := C) hK hS L0 L4 hA ?_
  unfold Builtin.«object.__getattribute__»
  refine wpAny_bind (wpAny_pure ?_)
  refine wpAny_bind (wpAny_pure ?_)
  refine wpAny_bind (L0.at (wpAny_bind (L2.at ?_)))
  show wpAny _ _ (holding [a] (call (.ref g) [a, .ref x, .ref C]) >>= ret) _ _ _
  exact wpAny_bind (wpAny_holding (wpAny_mono h (fun v s' z => wpAny_pure z) fun _ _ z => z))
theorem getd_K {od : Obj} {g : Addr} {a : Value} {dx : Addr} {name : Str} {expr : Bool} {m : Str → Option Value} (F : Fr h₀ L s.heap m) (X₀ : K.In h₀) (l : K.lookup x = some o) (hcl : o.cls = .ref C) (hno : notCls o = true) (hdx : o.dict = some dx) (ld : K.lookup dx = some od)
    (hga : findIn K (.ref C) "__getattribute__" = some (some (.builtin "tuple.__getattribute__"))) (hm : mroIn K C (.type "tuple") = some true) (hc : isClsIn K C = true) (ha : findIn K (.ref C) name = some (some a)) (hg : specialIn K a "__get__" = some (some (.ref g))) (ht : takesIn K a = some true)
    (hk : findIn K (.ref C) "__getattr__" = some none)
    (h : wpAny (model prog w) A.in1 (call (.ref g) [a, .ref x, .ref C]) (fun v s' => wpAny (model prog w) A (handedOut v) Q E s') (fun e s' => wpAny (model prog w) A (getattributeRaised (.ref x) (.str name s.toks) (.ref C) e none true expr) Q E s') { s with toks := s.toks + 1 }) :
    wpAny (model prog w) A (getAttr (.ref x) name expr) Q E s :=
  let X := X₀.keeps F.keep
  getd_at X (X _ _ l) hcl hno hdx (X _ _ ld) hga hm hc ha hg ht hk h
end

end
section
section
variable {prog : Program} {w : World} {A₀ A : Around} {s : Shared} {base h₀ : Heap} {env : Env} {L : Addr} {m : Str → Option Value} {news : List (Addr × Obj)} {K : Frag} {p : Program} {loose : List Str} {mean : ExcName → Option Value} {mg mb : Str → Option Value}
    {R : Result → Shared → Prop} {name qual : Str} {params : Arguments} {body : List Stmt} {scope : Scope} {dV kV doc pm cdv ct oc : Value} {an od : Option Addr} {osl : Array (Option Value)} {f : Addr} {args : Args} {binds : List (Str × Value)}
/-- a def with a try in its body, called from the one frame of the call (whatever that frame's cells) -/
theorem try_enter (B : Below A₀ base [] h₀) (F : Fr h₀ L s.heap m) (X : K.In h₀) (N : News h₀ L s.heap news) (T : Top p loose mean mg mb h₀) (hA : A.frames = some [env]) (hf : env.frame = some L) (hke : env.scope.kind = .function)
    (ho : K.lookup f = some ⟨oc, od, .func (fnOf name qual params body scope dV kV doc pm an cdv ct), osl⟩) (hcd : codeIn K cdv qual = true) (hroom : A.depth < recursionLimit)
    (hbind : BindsTo s (fnOf name qual params body scope dV kV doc pm an cdv ct) args binds) (hloc : ∀ y ∈ binds, scope.names.lookup y.1 = some .local)
    (h : ∀ g L' h₁, Fr g L' h₁ (fun y => binds.reverse.lookup y) → News g L' h₁ news → Below A base [env] g → K.In g → Top p loose mean mg mb g → KtsDicts ([env].filterMap (·.frame)) g →
      wpAny (model prog w) (A.deeper (envOf qual scope L' f cdv)) (execs body (envOf qual scope L' f cdv))
        (fun fl s' => LeaveS0 ([env].filterMap (·.frame)) h₀ L m g R (match fl with | .ret v => v | _ => .none) s')
        (fun e s' => wpAny (model prog w) (A.deeper (envOf qual scope L' f cdv)) (leaving (envOf qual scope L' f cdv) e) (fun _ s'' => R (.error e) s'') (fun e' s'' => R (.error e') s'') s')
        { s with heap := h₁, toks := s.toks + binds.length })
    (hco : scope.isCoroutine = false) (hgen : scope.isGenerator = false) (hk : scope.kind = .function)
    (hcell : ∀ x ∈ scope.names, x.2 ≠ .cell) : codeAny (model prog w) A (.call (.ref f) args) R s := by
  have XS := X.keeps F.keep
  have hfl : [env].filterMap (·.frame) = [L] := by simp [hf]
  refine codeAny_call_def (fd := fnOf name qual params body scope dV kV doc pm an cdv ct) (body := body) (binds := binds) hroom (XS _ _ ho) rfl (T.nolimit.keeps F.keep) (codeRec_of XS hcd) rfl hbind hcell hloc (fun h₁ hns hk₁ => ?_) hco hgen hk
  -- the ground under the callee: all that stands, without what the caller's ledger holds
  let g := hideAll s.heap (news.map (·.1))
  have off : ∀ b o, h₀.get? b = some o → b ∉ news.map (·.1) := by
    intro b o e q
    obtain ⟨x, hx, rfl⟩ := List.mem_map.mp q
    have z := (N x hx).2.2
    rw [e] at z
    cases z
  have offL : L ∉ news.map (·.1) := by
    intro q
    obtain ⟨x, hx, e⟩ := List.mem_map.mp q
    exact (N x hx).2.1 e
  have st : h₀.StaysIn g := fun b o e => hideAll_get _ (F.keep b o e) (off b o e)
  obtain ⟨oL, es, ep, hL, hLd, hLk, hLf⟩ := F.ns
  have hLg : g.get? L = some oL := hideAll_get _ hL offL
  have bL : base.get? L = none := by
    cases q : base.get? L with
    | none => rfl
    | some o => exact absurd (Nat.lt_of_lt_of_le (Heap.lt_size (B.stays L o q)) F.above) (Nat.lt_irrefl _)
  have B' : Below A base [env] g := ⟨hA, fun b o e => st b o (B.stays b o e), ⟨by rw [hke]; decide, ⟨L, oL, hf, bL, hLg, fun vs q => by rw [hLd] at q; cases q⟩, trivial⟩⟩
  have D : KtsDicts ([env].filterMap (·.frame)) g := by
    rw [hfl]
    intro b hb
    rw [List.mem_singleton.mp hb]
    exact ⟨oL, es, ep, hLg, hLd⟩
  have up : ∀ b o, g.get? b = some o → h₁.get? b = some o := fun b o e => hk₁ b o (of_hideAll _ e)
  have F₁ : Fr g s.heap.objs.size h₁ (fun y => binds.reverse.lookup y) := ⟨hns, up, Nat.le_of_eq (hideAll_size _ _)⟩
  have N₁ : News g s.heap.objs.size h₁ news := fun x hx => ⟨hk₁ _ _ (N x hx).1, Nat.ne_of_lt (Heap.lt_size (N x hx).1), hideAll_none _ (List.mem_map_of_mem hx)⟩
  refine wpAny_mono (h g _ h₁ F₁ N₁ B' (X.keeps st) (T.keeps st) D) (fun fl s' hl => ?_) fun _ _ y => y
  obtain ⟨g', L', m', news', T', F', N', k⟩ := hl
  rw [hfl] at T'
  obtain ⟨sl, hs⟩ := T'.up hLg
  refine k ⟨⟨_, es, ep, F'.keep _ _ hs, hLd, hLk, hLf⟩, fun b o e => ?_, F.above⟩ fun x hx => ⟨(N' x hx).1, fun q => ?_, ?_⟩
  · refine F'.keep b o (T'.other b o (st b o e) fun q => ?_)
    rw [List.mem_singleton.mp q] at e
    exact absurd (Nat.lt_of_lt_of_le (Heap.lt_size e) F.above) (Nat.lt_irrefl _)
  · have z := (N' x hx).2.2
    rw [q, hs] at z
    cases z
  · cases q : h₀.get? x.1 with
    | none => rfl
    | some o =>
      obtain ⟨sl', hs'⟩ := T'.up (st _ _ q)
      have z := (N' x hx).2.2
      rw [hs'] at z
      cases z
end

end
section
section
variable {prog : Program} {w : World} {A : Around} {E : Value → Shared → Prop} {s : Shared} {value slice : PySem.Expr} {l : Addr} {vs : List Value} {ws : List PySem.Str} {i : Int} {t u : Tok} {Q : Value → Shared → Prop}
theorem name_item {C : Addr} {nm nms : Str} (hok : namesOk C nm nms ws true = true) (hl : s.heap.IsList l vs.toArray) (hw : StrsAre vs ws) (h0 : 0 ≤ i) (h1 : i < (ws.length : Int)) (h2 : ws.length ≤ 100)
    (h : ∀ (t' : Tok) (x : Str), NameIs C nm nms x (if i.toNat % 2 = 0 then true else false) → Q (.str x t') s)
    (hs : subscripted slice false (.ref l) (.int i u) = operate [.ref l, .int i u] (getItem (.ref l) (.int i u)) := by with_unfolding_all rfl) :
    wpAny (model prog w) A (subscriptTail value slice (.ref l) (.int i u)) Q E s :=
  KTb.item_list hl hw h0 h1 (by omega) (fun t' hlt => h t' _ (name_is (name_at hok _ hlt))) hs
theorem blank_item (h0 : 0 ≤ i) (h1 : i < 10) (h : ∀ (t' : Tok) (k : Nat) (c : Nat), isBl c = true → (⟨#[c]⟩ : Str).length ≤ 1 → Q (.str ⟨#[c]⟩ t') { s with toks := k })
    (hs : subscripted slice false (.str BL t) (.int i u) = operate [.str BL t, .int i u] (getItem (.str BL t) (.int i u)) := by with_unfolding_all rfl)
    (ht : ∀ r, letTemporaryGo value (.str BL t) r = pure () := by intro _; with_unfolding_all rfl) :
    wpAny (model prog w) A (subscriptTail value slice (.str BL t) (.int i u)) Q E s :=
  KXi.item (n := 10) (by decide +kernel) (by omega) (by omega) (by decide) (fun _ => by
    obtain ⟨c, e, hc⟩ := bl_at h0 h1
    rw [e]
    exact h _ _ c hc (Nat.le_refl 1)) hs ht
theorem mod_lo (a : Int) {b : Int} (hb : 0 < b) : 0 ≤ a.fmod b := Int.fmod_nonneg_of_pos a hb
theorem mod_hi (a : Int) {b : Int} (hb : 0 < b) : a.fmod b < b := Int.fmod_lt_of_pos a hb
end

end
section
section
variable {prog : Program} {w : World} {A : Around} {E : Value → Shared → Prop} {h₀ : Heap} {L : Addr} {m : Str → Option Value} {env : Env} {elt : Expr} {x : Str} {scope : Scope} {cl : List (Str × Addr)} {s : Shared} {S : List (Addr × Obj) → Prop} {P : Nat → Value → Prop} {Fin : List Value → List (Addr × Obj) → Prop} {news : List (Addr × Obj)}
theorem strs_get : ∀ {vs : List Value} {ws : List PySem.Str}, StrsAre vs ws → ∀ (i : Nat) (v : Value), vs[i]? = some v → ∃ (a : PySem.Str) (t : Tok), ws[i]? = some a ∧ v = .str a t
  | _, _, .cons y t _, 0, v, h => ⟨y, t, rfl, (Option.some.inj h).symm⟩
  | _, _, .cons _ _ r, i + 1, v, h => strs_get r i v h
/-- the turns of a comprehension whose element is a text, over the items of any kind -/
theorem tx_rest {α : Type} (is : α → Value → Prop) {n : Nat} {as : List α} (g : α → PySem.Str) (has : as.length = n) (hP : ∀ i v, i < n → P i v → ∃ a, as[i]? = some a ∧ is a v)
    (turn : ∀ a v I oI C oC D m₂ ys h tk (E' : Value → Shared → Prop), a ∈ as → is a v → LCg.NsObj oC m₂ → m₂ x = some v → Fr h₀ L h m → News h₀ L h ((I, oI) :: (C, oC) :: (D, LCg.lst ys) :: news) → LCg.Off3 I C D news → ((@Ne Nat I C) ∧ (@Ne Nat I D) ∧ (@Ne Nat C D)) →
      wpAny (model prog w) A (eval elt (compEnvC scope cl C env)) (LCg.CompEnd h₀ L m { s with heap := h, toks := tk } I oI C oC D (LCg.lst ys) S (fun y news' => KCtEl news (g a) y news')) E' { s with heap := h, toks := tk })
    (fin : ∀ ys, StrsAre ys (as.map g) → Fin ys news) : LCg.CompRest prog w A h₀ L m env elt x scope cl s S P Fin n 0 [] news := by
  suffices H : ∀ (j i : Nat) (ys : List Value), i + j = n → StrsAre ys ((as.take i).map g) → LCg.CompRest prog w A h₀ L m env elt x scope cl s S P Fin j i ys news from
    H n 0 [] (Nat.zero_add n) (by simp only [List.take_zero, List.map_nil]; exact .nil)
  intro j
  induction j with
  | zero =>
    intro i ys e hy
    refine LCg.CompRest.zero (fin ys ?_)
    rwa [List.take_of_length_le (by omega)] at hy
  | succ j ih =>
    intro i ys e hy
    refine LCg.CompRest.succ fun v I oI C oC D m₂ h tk E' hv hC hx F N off ne => ?_
    obtain ⟨a, ha, hav⟩ := hP i v (by omega) hv
    refine wpAny_mono (turn a v I oI C oC D m₂ ys h tk E' (List.mem_of_getElem? ha) hav hC hx F N off ne) (fun y s₂ hq => ?_) fun _ _ z => z
    obtain ⟨h', tk', nw, e', F', N', off', hS, hn, t', rfl⟩ := hq
    subst hn
    refine ⟨h', tk', nw, e', F', N', off', hS, ih (i + 1) _ (by omega) ?_⟩
    rw [List.take_add_one, ha]
    simpa using kct_snoc hy
theorem tx_strs {vs : List Value} {ws : List PySem.Str} (g : PySem.Str → PySem.Str) (hw : StrsAre vs ws)
    (turn : ∀ a t I oI C oC D m₂ ys h tk (E' : Value → Shared → Prop), a ∈ ws → LCg.NsObj oC m₂ → m₂ x = some (.str a t) → Fr h₀ L h m → News h₀ L h ((I, oI) :: (C, oC) :: (D, LCg.lst ys) :: news) → LCg.Off3 I C D news → ((@Ne Nat I C) ∧ (@Ne Nat I D) ∧ (@Ne Nat C D)) →
      wpAny (model prog w) A (eval elt (compEnvC scope cl C env)) (LCg.CompEnd h₀ L m { s with heap := h, toks := tk } I oI C oC D (LCg.lst ys) S (fun y news' => KCtEl news (g a) y news')) E' { s with heap := h, toks := tk })
    (fin : ∀ ys, StrsAre ys (ws.map g) → Fin ys news) : LCg.CompRest prog w A h₀ L m env elt x scope cl s S (fun i v => vs.toArray[i]? = some v) Fin vs.toArray.size 0 [] news :=
  tx_rest (fun a v => ∃ t, v = .str a t) g (by rw [List.size_toArray]; exact hw.length.symm) (fun i v _ hv => by
      obtain ⟨a, t, e, q⟩ := strs_get hw i v (by simpa using hv)
      exact ⟨a, e, t, q⟩)
    (fun a v I oI C oC D m₂ ys h tk E' ha hv hC hx F N off ne => by
      obtain ⟨t, rfl⟩ := hv
      exact turn a t I oI C oC D m₂ ys h tk E' ha hC hx F N off ne) fin
theorem tx_ints {vs : List Value} {ns : List Int} (g : Int → PySem.Str) (hi : IntsAre vs ns)
    (turn : ∀ k t I oI C oC D m₂ ys h tk (E' : Value → Shared → Prop), k ∈ ns → LCg.NsObj oC m₂ → m₂ x = some (.int k t) → Fr h₀ L h m → News h₀ L h ((I, oI) :: (C, oC) :: (D, LCg.lst ys) :: news) → LCg.Off3 I C D news → ((@Ne Nat I C) ∧ (@Ne Nat I D) ∧ (@Ne Nat C D)) →
      wpAny (model prog w) A (eval elt (compEnvC scope cl C env)) (LCg.CompEnd h₀ L m { s with heap := h, toks := tk } I oI C oC D (LCg.lst ys) S (fun y news' => KCtEl news (g k) y news')) E' { s with heap := h, toks := tk })
    (fin : ∀ ys, StrsAre ys (ns.map g) → Fin ys news) : LCg.CompRest prog w A h₀ L m env elt x scope cl s S (fun i v => vs.toArray[i]? = some v) Fin vs.toArray.size 0 [] news :=
  tx_rest (fun a v => ∃ t, v = .int a t) g (by rw [List.size_toArray]; exact hi.length.symm) (fun i v _ hv => by
      obtain ⟨k, t, e, hk⟩ := IntsAre.at hi i v (by simpa using hv)
      exact ⟨k, hk, t, e⟩)
    (fun a v I oI C oC D m₂ ys h tk E' ha hv hC hx F N off ne => by
      obtain ⟨t, rfl⟩ := hv
      exact turn a t I oI C oC D m₂ ys h tk E' ha hC hx F N off ne) fin
theorem tx_end {I C D : Addr} {s₁ : Shared} {oI oC oD : Obj} {r : PySem.Str} {t : Tok} {h' : Heap} {tk : Nat} {all : List (Addr × Obj)}
    (F : Fr h₀ L h' m) (N : News h₀ L h' all) (sub : ∀ p ∈ (I, oI) :: (C, oC) :: (D, oD) :: news, p ∈ all) (off : LCg.Off3 I C D news) (hS : S news) :
    LCg.CompEnd h₀ L m s₁ I oI C oC D oD S (fun y news' => KCtEl news r y news') (.str r t) { s₁ with heap := h', toks := tk } :=
  ⟨h', tk, news, rfl, F, fun p hp => N p (sub p hp), off, hS, rfl, t, rfl⟩
/-- a tuple as the source: among what stood, or in the ledger -/
def TupAt (h₀ : Heap) (ax : Addr) (its : Array Value) (news : List (Addr × Obj)) : Prop := IsTup h₀ ax its ∨ ∃ o, (ax, o) ∈ news ∧ o.cls = .type "tuple" ∧ ∃ n, o.data = .seq its n
theorem TupAt.tup {h : Heap} {ax : Addr} {its : Array Value} (x : TupAt h₀ ax its news) (k : ∀ b o, h₀.get? b = some o → h.get? b = some o) (N : News h₀ L h news) : h.IsTuple ax its := by
  rcases x with ⟨o, e, r⟩ | ⟨o, hm, r⟩
  · exact ⟨o, k _ _ e, r⟩
  · exact ⟨o, (N _ hm).1, r⟩
def CompTup (prog : Program) (w : World) (A : Around) (h₀ : Heap) (L : Addr) (m : Str → Option Value) (env : Env) (elt : Expr) (x : Str) (scope : Scope) (cl : List (Str × Addr)) (Q : Value → Shared → Prop) (xv : Value) (s₁ : Shared) : Prop :=
  ∃ ax its news, xv = .ref ax ∧ A.handled = none ∧ Fr h₀ L s₁.heap m ∧ News h₀ L s₁.heap news ∧ TupAt h₀ ax its news ∧ its.size ≤ sizeLine ∧
    ∀ g, LCg.CompRest prog w A h₀ L m env elt x scope cl { s₁ with heap := g } (TupAt h₀ ax its) (fun i v => its[i]? = some v) (LCg.FinE h₀ L m { s₁ with heap := g } Q) its.size 0 [] news
theorem ListComp_tup {iter : Expr} {px : Pos} {pos : Pos} {Q : Value → Shared → Prop} (_ : Fr h₀ L s.heap m)
    (hclos : closureFor scope env = pure cl) (hcell : ∀ y ∈ scope.names, y.2 ≠ .cell) (hkind : scope.kind = .function)
    (hnames : ∀ y ∈ scope.names, y.2 = .local → scope.names.lookup y.1 = some .local) (hx : scope.names.lookup x = some .local)
    (h : wpAny (model prog w) A (eval iter env) (CompTup prog w A h₀ L m env elt x scope cl Q) E s)
    (hs : ∀ x, foldedSetIterable iter env x = pure x := by intro _; rfl) :
    wpAny (model prog w) A (eval (.ListComp elt [⟨.Name x px, iter, [], 0⟩] scope pos) env) Q E s := by
  rw [eval_ListComp]
  refine wpAny_comprehension_free (use := none) rfl hs hclos hkind hnames (wpAny_mono h (fun xv s₁ h₁ => ?_) fun _ _ z => z)
  obtain ⟨ax, its, news, rfl, hh, F, N, T, hsz, R⟩ := h₁
  have ht := T.tup F.keep N
  have hlt : ax < s₁.heap.objs.size := by obtain ⟨_, e, _⟩ := ht; exact Heap.lt_size e
  refine wpAny_pyIter_tuple ht ?_
  have up : ∀ b o, s₁.heap.get? b = some o → (s₁.heap.push { cls := .type "tuple_iterator", data := .fields #[.ref ax, .int 0 0] }).get? b = some o := fun b o e => Heap.get?_push_of_some _ e
  refine LCg.block_U (S := TupAt h₀ ax its) (Walks.tuple hh s₁.heap.objs.size ax (Nat.ne_of_lt hlt) its) hsz (fun i h st => by obtain ⟨o, e, _⟩ := st.1; exact ⟨o, e⟩)
    (fun i h h' o nw st e e' k N S => ⟨by obtain ⟨o', q, r⟩ := st.1; rw [e] at q; cases q; exact ⟨o, e', r⟩, S.tup k N⟩)
    hcell hkind hx ⟨⟨_, Heap.get?_push_size _ rfl, rfl, rfl⟩, ht.push _⟩ (fun b hb => ?_)
    (F.keeps up) (N.grown up) (Nat.ne_of_lt F.ns.lt) (next_is_new F) (fun p hp => Nat.ne_of_lt (Heap.lt_size (N p hp).1)) T (R _) ?_
  · show b < (s₁.heap.push _).objs.size
    rw [Heap.size_push]
    rcases List.mem_cons.mp hb with rfl | hb
    · exact Nat.lt_succ_self _
    · rw [List.mem_singleton.mp hb]; exact Nat.lt_succ_of_lt hlt
  · intro D C h tk m' ys news' F' N' o1 hn hC₀ hD₀ hCL hDL hCD offC fin
    refine ⟨m', hn, fun h'' hs'' => fin D h'' tk (F'.change hs'' hCL hC₀) (fun p hp => ?_) o1⟩
    refine ⟨hs''.extBut _ _ ?_ (N' p hp).1, (N' p hp).2⟩
    rcases List.mem_cons.mp hp with rfl | hp
    · exact Ne.symm hCD
    · exact offC p hp
end
theorem TupAt.up {h₀ g : Heap} {ax : Addr} {its : Array Value} {news : List (Addr × Obj)} (x : TupAt h₀ ax its news) (k : ∀ b o, h₀.get? b = some o → g.get? b = some o) : TupAt g ax its news := by
  rcases x with ⟨o, e, r⟩ | r
  · exact .inl ⟨o, k _ _ e, r⟩
  · exact .inr r
theorem TupAt.more {h₀ : Heap} {ax : Addr} {its : Array Value} {news more : List (Addr × Obj)} (x : TupAt h₀ ax its news) (k : ∀ p ∈ news, p ∈ more) : TupAt h₀ ax its more := by
  rcases x with r | ⟨o, hm, r⟩
  · exact .inl r
  · exact .inr ⟨o, k _ hm, r⟩
theorem news_two {h₀ h : Heap} {L : Addr} {p q : Addr × Obj} {news : List (Addr × Obj)} (N : News h₀ L h news) (hp : p ∈ news) (hq : q ∈ news) : News h₀ L h (p :: q :: news) := by
  intro r hr
  rcases List.mem_cons.mp hr with rfl | hr
  · exact N _ hp
  · rcases List.mem_cons.mp hr with rfl | hr
    · exact N _ hq
    · exact N _ hr
section
variable {prog : Program} {w : World} {A : Around} {E : Value → Shared → Prop} {s : Shared} {h₀ : Heap} {L a b : Addr} {m : Str → Option Value} {news : List (Addr × Obj)} {vs us : List Value} {ws zs : List PySem.Str} {Q : Value → Shared → Prop}
theorem add_texts (F : Fr h₀ L s.heap m) (N : News h₀ L s.heap news) (ha : s.heap.IsList a vs.toArray) (hb : s.heap.IsList b us.toArray) (hi : StrsAre vs ws) (hj : StrsAre us zs)
    (h : ∀ D rs h', Fr h₀ L h' m → News h₀ L h' ((D, listOf (List.toArray rs) 0) :: news) → (∀ p ∈ news, p.1 < D) → StrsAre rs (ws ++ zs) → Q (.ref D) { s with heap := h' })
    (hz : ws.length + zs.length ≤ 100) : wpAny (model prog w) A (binaryOp .Add (.ref a) (.ref b)) Q E s :=
  kmk_add_lit F N ha hb rfl (fun D h' F' N' l => h D _ h' F' N' l (hi.append' hj)) (by
    have h1 := hi.length
    have h2 := hj.length
    show vs.toArray.toList.length + us.toArray.toList.length ≤ sizeLine
    rw [sizeLine_eq]
    simp only [List.length_append] at *
    omega)
theorem join_len (sep : PySem.Str) : ∀ ws : List PySem.Str, (∀ y ∈ ws, y.length ≤ 10) → (PySem.Str.join sep ws).length ≤ ws.length * (10 + sep.length)
  | [], _ => Nat.zero_le _
  | [y], h => by
    have := h y (.head _)
    simp only [PySem.Str.join, List.length_cons, List.length_nil]
    omega
  | y :: z :: r, h => by
    have h1 := h y (.head _)
    have h2 := join_len sep (z :: r) fun q hq => h q (.tail _ hq)
    rw [PySem.Str.join, PySem.Str.length_append, PySem.Str.length_append]
    · simp only [List.length_cons, Nat.add_mul, Nat.one_mul] at *
      omega
    · intro e; cases e
theorem txt_join (sep : PySem.Str) (ws : List PySem.Str) : PySem.Txt.join sep ws = PySem.Str.join sep ws := StrLaws.glued_eq_join sep ws
theorem join_texts {x : PySem.Str} {t : Tok} (hl : s.heap.IsList a vs.toArray) (hc : StrsAre vs ws) (hB : ∀ y ∈ ws, y.length ≤ 10) (hn : ws.length ≤ 100) (hx : x.length ≤ 6)
    (h : ∀ t' k y, y = PySem.Str.join x ws → y.length ≤ 1600 → Q (.str y t') { s with toks := k }) : wpAny (model prog w) A (call (.builtin "str.join") [.str x t, .ref a]) Q E s :=
  KT.join_B (g := id) (l := ws) 10 hl hc.carried hB (by omega) (by omega) fun t' k => by
    rw [List.map_id]
    refine h t' k _ (txt_join x ws) ?_
    rw [txt_join]
    refine Nat.le_trans (join_len x ws hB) (Nat.le_trans (Nat.mul_le_mul hn (Nat.add_le_add_left hx 10)) (by decide))
theorem field_text {x : PySem.Str} {t : Tok} (hx : x.length ≤ 2000) (h : ∀ t' k, Q (.str x t') { s with toks := k }) : wpAny (model prog w) A (formatField (.str x t) PySem.Str.empty) Q E s :=
  PySem.SB.field_str h (by rw [sizeLine_eq]; omega)
end
/-- both readings of a key are one text -/
theorem key_law (S E₀ : PySem.Str) (hE : E₀ = PySem.Str.empty) (a o h : PySem.Str) : ∀ ws : List PySem.Str, S ++ PySem.Str.join S (ws ++ [a, o, h]) = PySem.Str.join E₀ (ws.map fun w => S ++ w) ++ S ++ a ++ S ++ o ++ S ++ h := by
  subst hE
  intro ws
  induction ws with
  | nil =>
    simp only [List.nil_append, PySem.Str.join, List.map_nil, PySem.Str.empty_append, PySem.Str.append_assoc]
  | cons w r ih =>
    have e1 : PySem.Str.join S ((w :: r) ++ [a, o, h]) = w ++ S ++ PySem.Str.join S (r ++ [a, o, h]) := by
      cases r <;> rfl
    have e2 : PySem.Str.join PySem.Str.empty ((w :: r).map fun w => S ++ w) = S ++ w ++ PySem.Str.join PySem.Str.empty (r.map fun w => S ++ w) := by
      cases r with
      | nil => simp only [List.map_cons, List.map_nil, PySem.Str.join, PySem.Str.append_empty]
      | cons z r => simp only [List.map_cons, PySem.Str.join, PySem.Str.append_empty]
    rw [e1, e2]
    simp only [PySem.Str.append_assoc] at ih ⊢
    rw [ih]

end
section
theorem look_put (c : List (PySem.Str × Int)) (k : PySem.Str) (v d : Int) : kdpLook (kdpPut c k v) k d = v := by
  unfold kdpLook kdpPut
  by_cases h : (c.any fun p => decide (p.1 = k)) = true
  · rw [if_pos h]
    induction c with
    | nil => simp at h
    | cons p r ih =>
      by_cases hp : p.1 = k
      · simp [hp]
      · have hr : (r.any fun p => decide (p.1 = k)) = true := by simpa [hp] using h
        simpa [hp] using ih hr
  · rw [if_neg h, List.find?_append]
    have : (c.find? fun p => decide (p.1 = k)) = none := by
      rw [List.find?_eq_none]
      intro p hp q
      exact h (List.any_eq_true.mpr ⟨p, hp, q⟩)
    rw [this]
    simp
section
variable {prog : Program} {w : World} {K : Type} [DecidableEq K] {knd : KeyKind prog w K} {A : Around} {E : Value → Shared → Prop} {s : Shared} {h₀ : Heap} {L d : Addr} {m : Str → Option Value} {news : List (Addr × Obj)} {g : Obj → List (Addr × Obj)} {o : Obj} {kvs : List (K × Value)} {k : K} {v : Value}
theorem clear_any {Q : Value → Shared → Prop} (F : Fr h₀ L s.heap m) (N : News h₀ L s.heap news) (U : UpdF d o news g) (hd : Obj.IsDictOf knd o kvs) (hsz : kvs.length ≤ 100)
    (h : ∀ h' o', Fr h₀ L h' m → News h₀ L h' (g o') → Obj.IsDictOf knd o' [] → Q .none { s with heap := h' }) : wpAny (model prog w) A (call (.builtin "dict.clear") [.ref d]) Q E s := by
  obtain ⟨pre, post, rfl, hg, a, b⟩ := U.split
  exact call_clear_madeIn (enc := fun _ => PyData.none) (hsz := by rw [sizeLine_eq]; omega) F N a b hd fun h' o' F' N' x _ => h h' o' F' (hg o' ▸ N') x
theorem value_stored (kvs : List (K × Value)) (k : K) (v : Value) : valueAt (stored kvs k v) k = some v := by
  unfold valueAt stored
  by_cases h : (kvs.any fun kv => decide (kv.1 = k)) = true
  · rw [if_pos h]
    induction kvs with
    | nil => simp at h
    | cons p r ih =>
      by_cases hp : p.1 = k
      · simp [hp]
      · have hr : (r.any fun kv => decide (kv.1 = k)) = true := by simpa [hp] using h
        simpa [hp] using ih hr
  · rw [if_neg h, List.find?_append]
    have : (kvs.find? fun kv => decide (kv.1 = k)) = none := by
      rw [List.find?_eq_none]
      intro p hp q
      exact h (List.any_eq_true.mpr ⟨p, hp, q⟩)
    rw [this]
    simp
theorem get_any {key : Value} {Q : Value → Shared → Prop} (N : News h₀ L s.heap news) (hp : (d, o) ∈ news) (hd : Obj.IsDictOf knd o kvs) (hkey : knd.is k key = true) (hl : valueAt kvs k = some v) (h : Q v { s with toks := s.toks + 1 }) :
    wpAny (model prog w) A (getItem (.ref d) key) Q E s := wpAny_getItem_of hkey (kda_dict N hp hd).mapOf hl h
theorem mul_one {k : Nat} {l : Addr} {u : Tok} {x : Value} {Q : Value → Shared → Prop} (F : Fr h₀ L s.heap m) (N : News h₀ L s.heap news) (hm : (l, listOf #[x] k) ∈ news)
    (h : ∀ D h', Fr h₀ L h' m → News h₀ L h' ((D, listOf #[x] 0) :: news) → (∀ q ∈ news, q.1 < D) → Q (.ref D) { s with heap := h' }) : wpAny (model prog w) A (binaryOp .Mult (.ref l) (.int 1 u)) Q E s :=
  mul_list F N (N _ hm).1 (by decide) (by decide) (by show 1 * 1 ≤ 2 ^ 24; decide) fun h' F' N' => h _ h' F' N' fun q hq => Heap.lt_size (N q hq).1
theorem stored_len (kvs : List (K × Value)) (k : K) (v : Value) : (stored kvs k v).length ≤ kvs.length + 1 := stored_length_le kvs k v
end

end
section
section
variable {prog : Program} {w : World} {A₀ : Around} {E : Value → Shared → Prop} {s' : Shared} {base g g₀ h : Heap} {outer : List Env} {L a e : Addr} {m : Str → Option Value} {name : Str} {scope : Scope} {cd : Value}
  {b₀ : Stmt} {suite : List Stmt} {pos np : Pos} {rest : List ExceptHandler} {Q : Flow → Shared → Prop} {news : List (Addr × Obj)} {KF : Frag}
  {p : Program} {loose : List Str} {mean : ExcName → Option Value} {mg mb : Str → Option Value} {x : Str} {X T' : String}
/-- an exception that the interpreter raises in a called def's own try, met by its first clause -/
theorem caught_own (hx9 : Heap.NewExc h s'.heap e X) (F : Fr g L h m) (N : News g L h news) (K : Below A₀ base outer g) (XB : KF.In base) (TB : Top p loose mean mg mb base)
    (D : KtsDicts (outer.filterMap (·.frame)) g) (T0 : KtsTurn (outer.filterMap (·.frame)) g₀ g)
    (ex : nsIn KF mainGlobals x = some none) (hv : bootBuiltins x = some (.type T')) (hn' : x ≠ "__name__")
    (hexc : isSubtype (.type T') (.type "BaseException") = pure true) (hnt : isSubtype (.type ((Manifest.find? T').elim "type" fun y => y.metatype)) (.type "tuple") = pure false) (hsub : isSubtype (.type X) (.type T') = pure true)
    (k : ∀ h' g', KtsTurn (outer.filterMap (·.frame)) g₀ g' → Fr g' L h' m → News g' L h' news → Below A₀ base outer g' → KF.In g' → Top p loose mean mg mb g' → KtsDicts (outer.filterMap (·.frame)) g' →
      wpAny (model prog w) ((A₀.deeper (envOf name scope L a cd)).mark (some (.ref e))) (execs (b₀ :: suite) (envOf name scope L a cd)) Q E { s' with heap := h' })
    (hk : scope.kind = .function := by rfl) (hx : (envOf name scope L a cd).kindOf x = some .globalImplicit := by rfl) (hd : (x == ("__debug__" : Str)) = false := by decide)
    (hE : PassesOwnAt (model prog w) ((A₀.deeper (envOf name scope L a cd)).mark (some (.ref e))) (A₀.deeper (envOf name scope L a cd)) (envOf name scope L a cd) E := by passes_own) :
    wpAny (model prog w) (A₀.deeper (envOf name scope L a cd)) (noteFrame (.ref e) (envOf name scope L a cd))
      (fun _ s₂ => wpAny (model prog w) (A₀.deeper (envOf name scope L a cd)) (setFlight (.ref e) none) (fun _ s₃ =>
        wpAny (model prog w) (A₀.deeper (envOf name scope L a cd)) (handleBy (.ref e) (envOf name scope L a cd) (.ExceptHandler (some (.Name x np)) none (b₀ :: suite) pos :: rest)) Q E s₃) E s₂) E s' := by
  have K' := K.push (name := name) (a := a) (cd := cd) F hk
  have hin : ∀ env ∈ (envOf name scope L a cd :: outer), ∀ b, env.frame = some b → b ∈ (envOf name scope L a cd :: outer).filterMap (·.frame) := fun env he b hb => List.mem_filterMap.mpr ⟨env, he, hb⟩
  generalize hfs : (envOf name scope L a cd :: outer).filterMap (·.frame) = fs at hin
  have hLfs : L ∈ fs := hfs ▸ List.mem_filterMap.mpr ⟨_, .head _, rfl⟩
  have st : base.StaysIn (hideAll h fs) := fun b o q => hideAll_get _ (K'.stays b o q) fun hm => by
    subst hfs
    rw [(K'.frames.mem hm).1] at q; cases q
  have hBG : ∀ b o, h.get? b = some o → b ∉ (envOf name scope L a cd :: outer).filterMap (·.frame) → (hideAll h fs).get? b = some o := fun b o q nm => hideAll_get _ q (hfs ▸ nm)
  have hL : (hideAll h fs).get? L = none := hideAll_none _ hLfs
  have hl : ∀ q ∈ news, (hideAll h fs).get? q.1 = some q.2 ∧ g.get? q.1 = none := fun q hq => by
    refine ⟨hideAll_get _ (N q hq).1 fun hm => ?_, (N q hq).2.2⟩
    subst hfs
    obtain ⟨env, he, hf⟩ := List.mem_filterMap.mp hm
    rcases List.mem_cons.mp he with rfl | he
    · exact (N q hq).2.1 (Option.some.inj hf).symm
    · obtain ⟨o, ho, _⟩ := (K.frames.mem (List.mem_filterMap.mpr ⟨env, he, hf⟩)).2
      rw [(N q hq).2.2] at ho; cases ho
  obtain ⟨ob, tp, he, hcls, hdt⟩ := hx9.there
  have hen : (hideAll h fs).get? e = none := by
    cases q : (hideAll h fs).get? e with
    | none => rfl
    | some o => have := of_hideAll _ q; rw [hx9.new] at this; cases this
  have hff : s'.heap.FunFrames (hideAll h fs) (envOf name scope L a cd :: outer) := (funFrames_hide K'.frames hin).of_keeps fun b o hb _ => ⟨o, hx9.keeps b o hb, rfl⟩
  unfold noteFrame
  simp only [show (envOf name scope L a cd).frame = some L from rfl]
  refine wpAny_bind (wpAny_field he hdt (x := .none) rfl ?_)
  rw [if_neg (by decide)]
  refine wpAny_entryW (a0 := tp) (Around.frames_deeper K.stack) hff rfl he (fun b o hb => hx9.keeps b o (of_hideAll _ hb)) hen hdt (by show 1 < 6; decide) rfl fun h₄ hN => ?_
  obtain ⟨n1, n2, n3, n4⟩ := hN
  have hheld₄ : Heap.HeldW (hideAll h fs) (envOf name scope L a cd :: outer) e (.type X) tp L h₄ := ⟨n1, hen, n2, by rw [← hcls]; exact n3⟩
  have hsm₄ : h.UpToSlots h₄ := (Heap.UpToSlots.of_keeps hx9.keeps).trans n4
  refine wpAny_landsW hheld₄ fun h₅ hheld hsm₅' => ?_
  have hsm₅ := hsm₄.trans hsm₅'
  obtain ⟨g₅, T₅, F₅, K₅⟩ := kts_ground K F hBG hheld.1 hsm₅
  have X₅ : KF.In g₅ := XB.keeps K₅.stays
  have P₅ : TopRead p loose mg mb g₅ := topRead_of (TB.keeps K₅.stays)
  obtain ⟨ob', hob, hobc⟩ := hheld.there
  refine wpAny_handleBy_builtin (X := X) (T := T') (b := true) hexc hnt hsub (name_B F₅ X₅ P₅ ex hv hn' ⟨rfl, ⟨ob', hob, hobc⟩, ?_⟩ hk hx hd)
  refine lands_againW hheld fun h₆ hfl₆ hsm₆ => ?_
  obtain ⟨g₆, T₆, F₆, K₆⟩ := kts_ground K F hBG hfl₆.1 (hsm₅.trans hsm₆)
  have Nl : News g₆ L h₆ news := fun q hq => ⟨hfl₆.1 _ _ (hl q hq).1, (fun z => by have := (hl q hq).1; rw [z, hL] at this; cases this), T₆.none_ _ (hl q hq).2⟩
  have X₆ : KF.In g₆ := XB.keeps K₆.stays
  have P₆ : Top p loose mean mg mb g₆ := TB.keeps K₆.stays
  have D₆ : KtsDicts (outer.filterMap (·.frame)) g₆ := D.turn T₆
  exact wpAny_passesOwnAt hE (k h₆ g₆ (T0.trans T₆) F₆ Nl K₆ X₆ P₆ D₆)
end

end
section
/-- a class under tuple with a maker of its own -/
def clsOk : Obj → Bool
  | ⟨_, _, .cls cd, sl⟩ => !cd.hasDel && (sl.toList[4]?).join == some .none && decide (2 ≤ cd.mro.length) && cd.bases == [.type "tuple"]
  | _ => false
structure TupK (K : Frag) (C : Addr) : Prop where
  o : ∃ o, K.lookup C = some o ∧ clsOk o = true
  m1 : mroIn K C (.ref C) = some true
  m2 : mroIn K C (.type "tuple") = some true
  m3 : mroIn K C (.type "object") = some true
  s1 : specialIn K (.ref C) "__call__" = some (some (.builtin "type.__call__"))
  i1 : instIn K (.ref C) (.type "type") = some true
  f1 : findIn K (.ref C) "__init__" = some (some (.builtin "object.__init__"))
structure TupMk (M : Model) (h : Heap) (C : Addr) : Prop where
  obj : ∃ oc od cd sl, h.get? C = some ⟨oc, od, .cls cd, sl⟩ ∧ cd.hasDel = false ∧ cd.mro.isEmpty = false
  made : Looks M h (Bind.madeBy (.ref C)) none
  base : Looks M h (Bind.staticBase (.ref C)) (.type "tuple")
  self : Looks M h (isSubtype (.ref C) (.ref C)) true
  tup : Looks M h (isSubtype (.ref C) (.type "tuple")) true
  top : Looks M h (isSubtype (.ref C) (.type "object")) true
  call : Looks M h (specialOf (.ref C) "__call__") (some (.builtin "type.__call__"))
  typ : Looks M h (isInstance (.ref C) (.type "type")) true
  init : Looks M h (typeLookup (.ref C) "__init__") (some (.builtin "object.__init__"))
theorem best_tuple : Builtin.Slots.bestBase [.type "tuple"] = pure (.type "tuple") := by kernel_rfl
theorem made_tuple : Bind.madeBy (.type "tuple") = pure (some "tuple.__new__") := PySem.F.called_tuple.made
theorem tupMk_of {K : Frag} {M : Model} {h : Heap} (X : K.In h) {C : Addr} (e : TupK K C) : TupMk M h C := by
  obtain ⟨⟨o, ho, e⟩, m1, m2, m3, s1, i1, f1⟩ := e
  unfold clsOk at e
  split at e
  · rename_i oc od cd sl
    simp only [Bool.and_eq_true, Bool.not_eq_true', beq_iff_eq, decide_eq_true_eq] at e
    obtain ⟨⟨⟨e1, e2⟩, e3⟩, e4⟩ := e
    have hc : clsIn K C = some cd := by unfold clsIn; rw [ho]
    have hm : Looks M h (mroOf (.ref C)) cd.mro := (looks_clsIn X hc).andThen .now
    have hd : Looks M h (classData C) cd := looks_clsIn X hc
    obtain ⟨c, c2, l, hl⟩ : ∃ c c2 l, cd.mro = c :: c2 :: l := by
      rcases q : cd.mro with _ | ⟨c, _ | ⟨c2, l⟩⟩
      · rw [q] at e3; simp at e3
      · rw [q] at e3; simp at e3
      · exact ⟨c, c2, l, rfl⟩
    have e0 : cd.mro.isEmpty = false := by rw [hl]; rfl
    have made : Looks M h (Bind.madeBy (.ref C)) none := by
      intro A Q E s k q
      unfold Bind.madeBy
      refine wpAny_bind (hm A _ E s k ?_)
      rw [hl, List.forIn_cons]
      refine wpAny_bind (wpAny_bind (wpAny_bind (wpAny_bind (wpAny_loadPart (k _ _ (X _ _ ho)) (wpAny_pure ?_)))))
      dsimp only
      rw [← Array.getElem?_toList, e2]
      exact wpAny_pure (wpAny_pure (wpAny_pure q))
    refine ⟨⟨oc, od, cd, sl, X _ _ ho, e1, e0⟩, made, ?_, looks_mroIn X m1, looks_mroIn X m2, looks_mroIn X m3, looks_specialIn X s1, looks_instIn X i1, looks_findIn X f1⟩
    · intro A Q E s k q
      unfold Bind.staticBase
      refine wpAny_bind (hm A _ E s k ?_)
      rw [hl, List.forIn_cons]
      refine wpAny_bind (wpAny_bind (wpAny_bind (made A _ E s k ?_)))
      dsimp only [Option.isSome]
      refine wpAny_bind (hd A _ E s k ?_)
      rw [e4, best_tuple]
      refine wpAny_bind (wpAny_pure ?_)
      refine wpAny_pure ?_
      show wpAny M A (forIn (c2 :: l) _ _) _ _ _
      rw [List.forIn_cons]
      rw [made_tuple]
      exact wpAny_bind (wpAny_bind (wpAny_pure (wpAny_pure (wpAny_pure (wpAny_pure q)))))
  · cases e
section
variable {prog : Program} {w : World} {A : Around} {E : Value → Shared → Prop} {s : Shared} {K : Frag} {C x : Addr} {Q : Value → Shared → Prop} {h₀ : Heap} {L : Addr} {m : Str → Option Value} {news : List (Addr × Obj)}
abbrev subTup (C dx : Addr) (xs : Array Value) : Obj := { cls := .ref C, dict := some dx, data := .seq xs }
theorem tn_kind : builtinKind "tuple.__new__" = some .builtinFn := by decide +kernel
theorem tn_split : splitId "tuple.__new__" = some ("tuple", "__new__") := by decide +kernel
theorem tn_args (a b : Value) : argsOk "tuple.__new__" ⟨[a, b], []⟩ := by unfold argsOk; kernel_rfl
theorem tn_canon : (Manifest.canonical "tuple.__new__" != Manifest.canonical "tuple.__new__") = false := by rw [bne_self_eq_false]
theorem isType_K {M : Model} {h : Heap} (X : K.In h) (hc : isClsIn K C = true) : Looks M h (isType (.ref C)) true := by
  obtain ⟨cd, hcd⟩ := Option.isSome_iff_exists.mp hc
  unfold clsIn at hcd
  split at hcd
  · rename_i ho
    exact (Looks.ld (X _ _ ho)).andThen .now
  · cases hcd
theorem tup_make {t : Addr} {vs : Array Value} (F : Fr h₀ L s.heap m) (N : News h₀ L s.heap news) (X : K.In s.heap) (hm : TupK K C) (hc : isClsIn K C = true) (ht : s.heap.IsTuple t vs) (hz : vs.size ≤ 100)
    (h : ∀ x dx h', Fr h₀ L h' m → News h₀ L h' ((x, subTup C dx vs) :: (dx, emptyDict) :: news) → (∀ p ∈ news, p.1 < dx) → dx < x → Q (.ref x) { s with heap := h' }) :
    wpAny (model prog w) A (call (.builtin "tuple.__new__") [.ref C, .ref t]) Q E s := by
  obtain ⟨hh, g, d, tk, os⟩ := s
  have Y : TupMk (model prog w) hh C := tupMk_of X hm
  obtain ⟨⟨oc, od, cd, sl, hC, e1, e0⟩, made, base, self, tup, top, call, typ, init⟩ := Y
  have L2 : Looks (model prog w) hh (isType (.ref C)) true := isType_K X hc
  have here : Looks (model prog w) hh (Bind.madeHere "tuple.__new__" (.ref C)) () := base.andThen ((Looks.of_pure made_tuple).andThen (Looks.of_pure (by simp only [Option.map_some, bne_self_eq_false, Bool.false_eq_true, if_false])))
  refine wpAny_call (codeAny_call_builtin (by decide +kernel) PySem.F.entry_tuple_new ?_)
  simp only [checkBuiltinCall, tn_kind, tn_split]
  have L3 : Looks (model prog w) hh (Bind.madeBy (.type "tuple")) (some "tuple.__new__") := Looks.of_pure made_tuple
  obtain ⟨ot, hot, hcl, nt, hdt⟩ := ht
  have hsz : vs.size ≤ sizeLine := by rw [sizeLine_eq]; omega
  rw [if_pos (by decide)]
  repeat (first | (with_reducible refine wpAny_collect_seq (hsz := hsz) t (.inr rfl) hot hcl hdt ?_) | simp only [bne_self_eq_false, Bool.false_eq_true, if_false, Bool.not_true] | lk)
  intro h' hk
  have F' : Fr h₀ L h' m := F.keeps hk
  have N' : News h₀ L h' news := fun p hp => ⟨hk _ _ (N p hp).1, (N p hp).2⟩
  have N2 := (N'.push F' emptyDict).push (F'.push _) (subTup C h'.objs.size vs)
  rw [Heap.size_push] at N2
  have ev : vs.toList.toArray = vs := by simp
  rw [ev]
  refine wpAny_bind (wpAny_pure ?_)
  refine wpAny_bind (wpAny_alloc ?_)
  refine wpAny_bind ?_
  unfold newObj
  dsimp only
  rw [if_neg (by omega)]
  unfold newObjAsIs classHasDel
  refine wpAny_bind (wpAny_alloc (wpAny_bind (wpAny_bind (wpAny_load (Heap.get?_push_of_some _ (Heap.get?_push_of_some _ (hk _ _ hC))) (wpAny_pure ?_)))))
  dsimp only
  rw [e1]
  refine wpAny_pure (wpAny_pure ?_)
  show Q _ _
  rw [Heap.size_push]
  exact h _ h'.objs.size _ ((F'.push _).push _) N2 (fun p hp => Heap.lt_size (N' p hp).1) (Nat.lt_succ_self _)
theorem tup_makeN {t : Addr} {vs : Array Value} {n : Nat} (F : Fr h₀ L s.heap m) (N : News h₀ L s.heap news) (X₀ : K.In h₀) (hm : TupK K C) (hc : isClsIn K C = true) (ht : (t, ({ cls := .type "tuple", data := .seq vs n } : Obj)) ∈ news) (hz : vs.size ≤ 100)
    (h : ∀ x dx h', Fr h₀ L h' m → News h₀ L h' ((x, subTup C dx vs) :: (dx, emptyDict) :: news) → (∀ p ∈ news, p.1 < dx) → dx < x → Q (.ref x) { s with heap := h' }) :
    wpAny (model prog w) A (call (.builtin "tuple.__new__") [.ref C, .ref t]) Q E s := tup_make F N (X₀.keeps F.keep) hm hc ⟨_, (N _ ht).1, rfl, _, rfl⟩ hz h
def NewBack (K : Frag) (C : Addr) (R : Result → Shared → Prop) (r : Result) (s' : Shared) : Prop := match r with
  | .ok (.ret v) => ∃ x o, v = .ref x ∧ s'.heap.get? x = some o ∧ o.cls = .ref C ∧ K.In s'.heap ∧ R (.ok (.ret v)) s'
  | .ok _ => False
  | .error e => R (.error e) s'
theorem new_back {R : Result → Shared → Prop} {dx : Addr} {vs : Array Value} {s' : Shared} (F : Fr h₀ L s'.heap m) (N : News h₀ L s'.heap ((x, subTup C dx vs) :: news)) (X₀ : K.In h₀) (h : R (.ok (.ret (.ref x))) s') : NewBack K C R (.ok (.ret (.ref x))) s' :=
  ⟨x, _, rfl, (N _ (.head _)).1, rfl, X₀.keeps F.keep, h⟩
theorem oi_args3 (a b c : Value) : argsOk "object.__init__" ⟨[a, b, c], []⟩ := by unfold argsOk; kernel_rfl
theorem make_tup {R : Result → Shared → Prop} {a b : Value} {fN p : Addr} {mc : Value} {rr : List Value} (F : Fr h₀ L s.heap m) (X₀ : K.In h₀) (hm : TupK K C)
    (ht : typeIn K (.ref C) = some mc) (hr : readsIn K C mc = true)
    (e : findCls K (.ref C) mc "__new__" = some (.get (.builtin "staticmethod.__get__") (.ref p) .none (.ref C))) (hp : recIn K p "staticmethod" = some (.ref fN :: rr)) (hv : handedIn (.ref fN) = true)
    (h : codeAny (model prog w) (A.under (.builtin "type.__call__" ⟨[.ref C, a, b], []⟩)) (.call (.ref fN) ⟨[.ref C, a, b], []⟩) (NewBack K C R) { s with toks := s.toks + 1 }) :
    codeAny (model prog w) A (.call (.ref C) ⟨[a, b], []⟩) R s := by
  have X : K.In s.heap := X₀.keeps F.keep
  obtain ⟨hh, g, d, tk, os⟩ := s
  have Y : TupMk (model prog w) hh C := tupMk_of X hm
  obtain ⟨⟨oc, od, cd, sl, hC, e1, e0⟩, made, base, self, tup, top, call, typ, init⟩ := Y
  refine codeAny_of_tree ?_
  show wpAny _ _ (callAny (.ref C) _) _ _ _
  refine nd_load hC ?_
  show wpAny _ _ (callAny.viaDunder (.ref C) _) _ _ _
  unfold callAny.viaDunder
  refine wpAny_bind (call.at ?_)
  dsimp only
  rw [tc_bind]
  refine wpAny_bind (wpAny_pure (wpAny_bind (wpAny_pure ?_)))
  refine wpAny_pure (a := Fin.again (.call (.builtin "type.__call__") ⟨.ref C :: [a, b], []⟩)) (And.intro rfl ?_)
  refine codeAny_call_builtin_at (Code.quiet_builtin _ (by decide +kernel)) entry_typeCall (check_slot tc_kind tc_split typ (tc_args _ _ _) ?_)
  unfold Builtin.«type.__call__»
  have hmro : Looks (model prog w) hh (mroOf (.ref C)) cd.mro := ((Looks.ld (part := none) hC).andThen .now).andThen .now
  repeat (first | (with_reducible refine cls_sm (A := A.under _) F X₀ ht hr e hp hv ?_) | simp only [e0, Bool.false_eq_true, if_false] | with_reducible refine wpAny_call ?_ | lk)
  refine codeAny_mono h fun r s' z => ?_
  rcases r with er | (v | _ | _ | _) <;> first | exact z | exact z.elim | skip
  obtain ⟨x, o, rfl, hx, hcl, X', hq⟩ := z
  obtain ⟨h2, g2, d2, tk2, os2⟩ := s'
  have Y2 : TupMk (model prog w) h2 C := tupMk_of X' hm
  have t1 : Looks (model prog w) h2 (typeOf (.ref x)) (.ref C) := hcl ▸ (Looks.ld hx).andThen .now
  have s1 := Y2.self
  have i1 := Y2.init
  have m1 := Y2.made
  have t2 : Looks (model prog w) h2 (isInstance (.ref x) (.type "object")) true := t1.andThen Y2.top
  have b1 : Looks (model prog w) h2 (bindSpecial (.builtin "object.__init__") (.ref x)) (.builtin "object.__init__", [.ref x]) := Looks.of_pure (oi_bind (.ref x))
  unfold isInstance callSpecial? specialOf
  repeat (first | with_reducible refine wpAny_call ?_ | lk)
  refine codeAny_call_builtin oi_plain entry_oi (@check_slot (model prog w) _ _ _ "object.__init__" "object" "__init__" (.ref x) [a, b] [] _ oi_kind oi_split t2 (oi_args3 (.ref x) a b) ?_)
  unfold Builtin.«object.__init__»
  repeat (first | simp only [bne_self_eq_false, Bool.false_eq_true, if_false] | lk)
  exact hq
end

end
theorem rows : True := by
  k_with_none
  k_with "u1" => (refine' code_def ?k1q1 ?k2q1 ?k3q1 ?k4q1 ?k5q1 ?kAq1 ?kFq1 ?kKq1 ?k6q1 ?k7q1 ?k8q1 ?k9q1 ?kBq1 ?_ ?c2q1 ?c3q1 ?c4q1 ?c5q1; (case kAq1 => exact rfl); (case kFq1 => exact rfl); (case kKq1 => first | exact rfl | assumption); (case k1q1 => k_asm); (case k2q1 => k_asm); (case k3q1 => k_asm); (case k4q1 => k_asm); (case k5q1 => k_asm); (case k6q1 => k_is); (case k7q1 => k_is); (case k8q1 => ktr_room); (case k9q1 => first | exact BindsTo.of_eq rfl | exact binds_K (by k_in) rfl (by k_is) rfl rfl rfl); (case c5q1 => decide); (case kBq1 => exact locs rfl); (case c2q1 => exact rfl); (case c3q1 => exact rfl); (case c4q1 => exact rfl); k_whole; intro gpq1 Lpq1 hpq1 FGpq1 Fpq1 Npq1 Bpq1 Xpq1 Tpq1; (try dsimp only); (try k_lift Bpq1); (try k_fold))
  k_with "u2" => (k_here; (with_reducible show wpAny _ _ (call (Value.type "type") [Value.ref _]) _ _ _); k_dflt (first
      | (refine' type_K ?Xq2 ?lq2 ?nq2 ?_; (case Xq2 => k_in); (case lq2 => first | assumption | k_is); (case nq2 => rfl); k_whole; (try dsimp only))
      | (refine' type_N ?Nq2 ?mq2 ?nq2 ?_; (case Nq2 => k_asm); (case mq2 => k_mem); (case nq2 => rfl); k_whole; (try dsimp only))))
  k_with "u3" => (k_here; k_dflt (refine' issub_K ?Xq3 ?cq3 ?mq3 ?_; (case Xq3 => k_in); (case cq3 => k_is); (case mq3 => k_is); k_whole))
  k_with "u4" => (k_here; k_dflt (first
      | (refine' tupsub_K ?Xq4 ?lq4 ?cq4 ?dq4 ?mq4 ?aq4 ?bq4 ?jq4 ?xq4 ?_; (case Xq4 => k_in); (case lq4 => first | assumption | k_is); (case cq4 => rfl); (case dq4 => rfl); (case mq4 => k_is); (case aq4 => decide); (case bq4 => decide); (case jq4 => rfl); (case xq4 => rfl); k_whole)
      | (refine' tupsub_N ?Xq4 ?Nq4 ?lq4 ?cq4 ?dq4 ?mq4 ?aq4 ?bq4 ?jq4 ?xq4 ?_; (case Xq4 => k_in); (case Nq4 => k_asm); (case lq4 => k_mem); (case cq4 => rfl); (case dq4 => rfl); (case mq4 => k_is); (case aq4 => decide); (case bq4 => decide); (case jq4 => rfl); (case xq4 => rfl); k_whole)))
  k_with "u5" => (k_here; refine' method_type ?Fq5 ?Xq5 ?mq5 (by decide +kernel) ?eq5 ?hq5 ?_; (case Fq5 => k_asm); (case Xq5 => k_asm); (case mq5 => exact typeOf_tuple); (case eq5 => k_dflt k_is); (case hq5 => k_handed))
  k_with "u6" => first | assumption | exact news_tl (by assumption) | exact news_tl (news_tl (by assumption)) | exact news_tl (news_tl (news_tl (by assumption))) | exact news_tl (news_tl (news_tl (news_tl (by assumption)))) | exact news_tl (news_tl (news_tl (news_tl (news_tl (by assumption))))) | exact news_tl (news_tl (news_tl (news_tl (news_tl (news_tl (by assumption)))))) | exact news_tl (news_tl (news_tl (news_tl (news_tl (news_tl (news_tl (by assumption))))))) | exact news_tl (news_tl (news_tl (news_tl (news_tl (news_tl (news_tl (news_tl (by assumption)))))))) | exact news_tl (news_tl (news_tl (news_tl (news_tl (news_tl (news_tl (news_tl (news_tl (by assumption))))))))) | exact news_tl (news_tl (news_tl (news_tl (news_tl (news_tl (news_tl (news_tl (news_tl (news_tl (by assumption)))))))))) | exact news_tl (news_tl (news_tl (news_tl (news_tl (news_tl (news_tl (news_tl (news_tl (news_tl (news_tl (by assumption))))))))))) | exact news_tl (news_tl (news_tl (news_tl (news_tl (news_tl (news_tl (news_tl (news_tl (news_tl (news_tl (news_tl (by assumption)))))))))))) | (refine' cb_drop ?cbNq6 ?cbSq6; (case cbNq6 => assumption); (case cbSq6 => kcj_all))
  k_with "u7" => (k_here; first
      | (k_dflt (refine' ld ?k1q7 ?k2q7 ?_; (case k1q7 => k_asm); (case k2q7 => exact rfl); k_whole))
      | ((with_reducible rename Fr _ _ _ _ => kFq7); with_unfolding_all refine guard_global (by rfl) ?_; k_dflt (refine' name_K kFq7 ?k1q7 ?k2q7 ?k3q7 ?_; (case k1q7 => k_asm); (case k2q7 => k_asm); (case k3q7 => k_is); k_whole)))
  k_with "u8" => (k_here; k_dflt (first
      | (refine' callWith_K ?k1q8 ?k2q8 ?_; (case k1q8 => k_asm); (case k2q8 => k_is); k_whole)
      | (refine' callWith_M ?k1q8 ?k2q8 ?k3q8 ?k4q8 ?_; (case k1q8 => k_asm); (case k2q8 => k_asm); (case k3q8 => k_mem); (case k4q8 => k_is); k_whole)))
  k_with "u9" => (refine' try_enter ?k1q9 ?k2q9 ?k3q9 ?k4q9 ?k5q9 ?kAq9 ?kFq9 ?kKq9 ?k6q9 ?k7q9 ?k8q9 ?k9q9 ?kBq9 ?_ ?c2q9 ?c3q9 ?c4q9 ?c5q9; (case kAq9 => exact rfl); (case kFq9 => exact rfl); (case kKq9 => first | exact rfl | assumption); (case k1q9 => k_asm); (case k2q9 => k_asm); (case k3q9 => k_asm); (case k4q9 => k_asm); (case k5q9 => k_asm); (case k6q9 => k_is); (case k7q9 => k_is); (case k8q9 => ktr_room); (case k9q9 => first | exact BindsTo.of_eq rfl | exact binds_K (by k_in) rfl (by k_is) rfl rfl rfl); (case c5q9 => decide); (case kBq9 => exact locs rfl); (case c2q9 => exact rfl); (case c3q9 => exact rfl); (case c4q9 => exact rfl); k_whole; intro gpq9 Lpq9 hpq9 Fpq9 Npq9 Bpq9 Xpq9 Tpq9 Dpq9; (try dsimp only); (try k_lift Bpq9); (try k_fold))
  k_with "u10" => (k_here; (with_reducible show wpAny _ _ (getAttr (Value.ref _) (Str.ofString "seconds") _) _ _ _); k_dflt (refine' gran_sec ?Bq10 ?Fq10 ?Xq10 ?Nq10 ?Tq10 ?kq10 ?dq10 ?loq10 ?ldq10 ?_; (case Bq10 => k_asm); (case Fq10 => k_asm); (case Xq10 => k_asm); (case Nq10 => k_asm); (case Tq10 => k_asm); (case kq10 => first | exact rfl | assumption); (case dq10 => ktr_room); (case loq10 => first | k_is | assumption); (case ldq10 => first | k_is | assumption); k_whole; intro hpq10 tkpq10 Fpq10 Npq10; (try k_sweep)))
  k_with "u11" => (k_here; (with_reducible show wpAny _ _ (getAttr (Value.ref _) (Str.ofString "name") _) _ _ _); k_dflt (refine' gran_name ?Bq11 ?Fq11 ?Xq11 ?Nq11 ?Tq11 ?kq11 ?dq11 ?loq11 ?ldq11 ?_; (case Bq11 => k_asm); (case Fq11 => k_asm); (case Xq11 => k_asm); (case Nq11 => k_asm); (case Tq11 => k_asm); (case kq11 => first | exact rfl | assumption); (case dq11 => ktr_room); (case loq11 => first | k_is | assumption); (case ldq11 => first | k_is | assumption); k_whole; intro hpq11 tkpq11 Fpq11 Npq11; (try k_sweep)))
  k_with "u12" => (refine' call_meth ?k1q12 ?k2q12 ?_; (case k1q12 => k_asm); (case k2q12 => k_mem); (first | refine' cgs_year ?Bq12 ?Fq12 ?Xq12 ?Nq12 ?Tq12 ?kq12 ?dq12 ?eq12 ?bq12 ?_ | refine' cgs_month ?Bq12 ?Fq12 ?Xq12 ?Nq12 ?Tq12 ?kq12 ?dq12 ?eq12 ?bq12 ?_ | refine' cgs_day ?Bq12 ?Fq12 ?Xq12 ?Nq12 ?Tq12 ?kq12 ?dq12 ?eq12 ?bq12 ?_ | refine' cgs_hour ?Bq12 ?Fq12 ?Xq12 ?Nq12 ?Tq12 ?kq12 ?dq12 ?eq12 ?bq12 ?_ | refine' cgs_minute ?Bq12 ?Fq12 ?Xq12 ?Nq12 ?Tq12 ?kq12 ?dq12 ?eq12 ?bq12 ?_ | refine' cgs_second ?Bq12 ?Fq12 ?Xq12 ?Nq12 ?Tq12 ?kq12 ?dq12 ?eq12 ?bq12 ?_); (case Bq12 => k_asm); (case Fq12 => k_asm); (case Xq12 => k_asm); (case Nq12 => k_asm); (case Tq12 => k_asm); (case kq12 => first | exact rfl | assumption); (case dq12 => ktr_room); (case eq12 => first | assumption | omega); (case bq12 => first | assumption | rfl); k_whole; intro hpq12 tkpq12 Fpq12 Npq12; (try (replace Npq12 := cb_drop Npq12 (fun p hp => List.mem_cons_of_mem _ hp))); (try k_sweep))
  k_with "u13" => (k_here; (with_reducible show wpAny _ _ (call (Value.ref _) [Value.str _ _]) _ _ _); k_dflt (walk_at "my cgs"))
  k_with "u14" => (k_here; k_dflt (refine' set_dict ?k1q14 ?k2q14 ?k3q14 ?k4q14 ?k5q14 ?k6q14 ?k7q14 ?k8q14 ?k9q14 ?k10q14 ?k11q14 ?k12q14 ?k13q14 ?_; (case k1q14 => k_asm); (case k2q14 => k_asm); (case k3q14 => k_asm); (case k4q14 => k_inst); (case k5q14 => exact rfl); (case k6q14 => first | assumption | k_is); (case k7q14 => first | assumption | k_is); (case k8q14 => first | assumption | k_is); (case k9q14 => first | assumption | k_is); (case k10q14 => k_get); (case k11q14 => k_put); (case k12q14 => k_upd); (case k13q14 => exact Nat.le_of_ble_eq_true rfl); k_whole; intro hpq14 Fpq14 Npq14; (try k_sweep)))
  k_with "u15" => (k_here; k_dflt (refine' set_dict ?k1q15 ?k2q15 ?k3q15 ?k4q15 ?k5q15 ?k6q15 ?k7q15 ?k8q15 ?k9q15 ?k10q15 ?k11q15 ?k12q15 ?k13q15 ?_; (case k1q15 => k_asm); (case k2q15 => k_asm); (case k3q15 => k_asm); (case k4q15 => k_inst); (case k5q15 => exact rfl); (case k6q15 => first | assumption | k_is); (case k7q15 => first | assumption | k_is); (case k8q15 => first | assumption | k_is); (case k9q15 => first | assumption | k_is); (case k10q15 => k_get); (case k11q15 => k_put); (case k12q15 => k_upd); (case k13q15 => exact Nat.le_of_ble_eq_true rfl); k_whole; intro hpq15 Fpq15 Npq15; (try k_sweep)))
  k_with "u16" => (refine' call_cls ?k1q16 ?k2q16 ?k3q16 ?k4q16 ?k5q16 ?k6q16 ?_; (case k1q16 => k_asm); (case k2q16 => k_asm); (case k3q16 => k_asm); (case k4q16 => k_is); (case k5q16 => k_is); (case k6q16 => k_is); k_whole; intro xpq16 dpq16 hpq16 Fpq16 Npq16 l1q16 l2q16; (replace l1q16 := allLt_of l1q16); (replace l2q16 := ltN l2q16); (try k_sweep); refine' init_spec ?Bq16 ?Fq16 ?Xq16 ?Nq16 ?Tq16 ?kq16 ?dq16 ?l1q16 ?l2q16 ?cq16 ?mq16 ?_; (case Bq16 => k_asm); (case Fq16 => k_asm); (case Xq16 => k_asm); (case Nq16 => k_asm); (case Tq16 => k_asm); (case kq16 => first | exact rfl | assumption); (case dq16 => ((try simp only [weight_make]); ktr_room)); (case l1q16 => exact l1q16); (case l2q16 => exact l2q16); (case cq16 => exact ⟨by k_is, by k_is, by k_is, by k_is, by k_is, by k_is⟩); (case mq16 => first | assumption | exact Or.inl ⟨rfl, rfl⟩ | exact Or.inr ⟨_, rfl, by decide⟩); k_whole; intro hpq16 tkpq16 k1pq16 k2pq16 k3pq16 t1pq16 t2pq16 Fpq16 Npq16; (dsimp only [InitBack]); (try refine ⟨rfl, ?_⟩); (try dsimp only); (try (simp only [AllLt, and_true] at l1q16)); (try k_sweep))
  k_with "u17" => (k_here; (with_reducible show wpAny _ _ (call (Value.ref _) [Value.int _ _, _]) _ _ _); k_dflt (walk_at "my init"))
  k_with "u18" => (exfalso; (rename clsOf _ = some _ => hC9q18); (simp only [clsOf] at hC9q18); simp_all; done)
  k_with "u19" => (k_here; (with_reducible show wpAny _ _ (call (Value.ref _) [Value.str _ _, Value.int _ _, Value.str _ _]) _ _ _); k_dflt (refine' skip_use ?Bq19 ?Fq19 ?Xq19 ?Nq19 ?Tq19 ?kq19 ?dq19 ?uq19 ?h0q19 ?h2q19 ?h3q19 ?_; (case Bq19 => k_asm); (case Fq19 => k_asm); (case Xq19 => k_asm); (case Nq19 => k_asm); (case Tq19 => k_asm); (case kq19 => first | exact rfl | assumption); (case dq19 => ktr_room); (case uq19 => ktr_units); (case h0q19 => omega); (case h2q19 => first | assumption | omega); (case h3q19 => exact Nat.le_of_ble_eq_true rfl); k_whole; intro rpq19 tpq19 hpq19 tkpq19 epq19 e1pq19 e2pq19 Fpq19 Npq19; (try k_sweep)))
  k_with "u20" => (k_here; (with_reducible show wpAny _ _ (call (Value.ref _) [Value.str _ _, Value.int _ _, Value.str _ _]) _ _ _); k_dflt (refine' skip_at ?Bq20 ?Fq20 ?Xq20 ?Nq20 ?Tq20 ?kq20 ?dq20 ?uq20 ?h0q20 ?h2q20 ?h3q20 ?heq20 ?_; (case Bq20 => k_asm); (case Fq20 => k_asm); (case Xq20 => k_asm); (case Nq20 => k_asm); (case Tq20 => k_asm); (case kq20 => first | exact rfl | assumption); (case dq20 => ktr_room); (case uq20 => ktr_units); (case heq20 => assumption); (case h0q20 => first | assumption | (apply Int.le_add_one; assumption) | omega); (case h2q20 => first | assumption | omega); (case h3q20 => exact Nat.le_of_ble_eq_true rfl); k_whole; intro tpq20 hpq20 tkpq20 e1pq20 Fpq20 Npq20; (try k_sweep)))
  k_with "u21" => first | rw [if_pos (by with_reducible assumption)] | rw [if_neg (by with_reducible assumption)]
  k_with "u22" => (k_here; (with_reducible show wpAny _ _ (call (Value.ref _) [Value.str _ _, Value.int _ _]) _ _ _); k_dflt (refine wpAny_call ?_); k_dflt (first
      | (refine' rl_yes ?Bq22 ?Fq22 ?Xq22 ?Nq22 ?Tq22 ?kq22 ?dq22 ?uq22 ?h0q22 ?h2q22 ?Hq22 ?_; (case Hq22 => assumption); (case Bq22 => k_asm); (case Fq22 => k_asm); (case Xq22 => k_asm); (case Nq22 => k_asm); (case Tq22 => k_asm); (case kq22 => first | exact rfl | assumption); (case dq22 => ktr_room); (case uq22 => ktr_units); (case h0q22 => first | assumption | decide | omega); (case h2q22 => first | assumption | exact Nat.le_of_ble_eq_true rfl | omega); k_whole; intro Dpq22 hpq22 tkpq22 t1pq22 t2pq22 t3pq22 t4pq22 Fpq22 Npq22 l1q22; (try k_lt l1q22); (try dsimp only); (try k_sweep))
      | (refine' rl_no ?Bq22 ?Fq22 ?Xq22 ?Nq22 ?Tq22 ?kq22 ?dq22 ?uq22 ?h0q22 ?h2q22 ?Hq22 ?_; (case Hq22 => assumption); (case Bq22 => k_asm); (case Fq22 => k_asm); (case Xq22 => k_asm); (case Nq22 => k_asm); (case Tq22 => k_asm); (case kq22 => first | exact rfl | assumption); (case dq22 => ktr_room); (case uq22 => ktr_units); (case h0q22 => first | assumption | decide | omega); (case h2q22 => first | assumption | exact Nat.le_of_ble_eq_true rfl | omega); k_whole; intro hpq22 tkpq22 Fpq22 Npq22; (try dsimp only); (try k_sweep))))
  k_with "u23" => (k_here; (with_reducible show wpAny _ _ (call (Value.ref _) [Value.str _ _, Value.int _ _, _]) _ _ _); k_dflt (refine wpAny_call ?_); k_dflt (
      (refine' gfs_spec ?Bq23 ?Fq23 ?Xq23 ?Nq23 ?Tq23 ?kq23 ?dq23 ?h2q23 ?Hq23 ?mq23 ?_; (case Hq23 => assumption); (case Bq23 => k_asm); (case Fq23 => k_asm); (case Xq23 => k_asm); (case Nq23 => k_asm); (case Tq23 => k_asm); (case kq23 => first | exact rfl | assumption); (case dq23 => ktr_room); (case h2q23 => first | assumption | exact Nat.le_of_ble_eq_true rfl | omega); (case mq23 => first | assumption | exact Or.inl ⟨rfl, rfl⟩ | exact Or.inr ⟨_, rfl, by decide⟩); k_whole; intro xpq23 dpq23 hpq23 tkpq23 k1pq23 k2pq23 k3pq23 t1pq23 t2pq23 Fpq23 Npq23 l1q23 l2q23; (try simp only [AllLt, and_true] at l1q23); (try dsimp only); (try k_sweep))))
  k_with "u24" => (k_here; (rename Fr _ _ _ _ => lFpq24); (with_unfolding_all refine' For_turns lFpq24 ?_; k_whole))
  k_with "u25" => (k_here; (with_reducible show wpAny _ _ (pyIter (Value.ref _)) (fun it s₂ => TurnsAt _ _ _ _ _ _ _ _ _ it s₂) _ _); (rename Fr _ _ _ _ => lFpq25); (rename News _ _ _ _ => lNpq25); (with_unfolding_all refine' iter_listTurns (vs := [Value.ref _]) ?hhq25 lFpq25 lNpq25 ?hmq25 ?hcq25 ?hdq25 ?_; (case hhq25 => rfl); (case hmq25 => k_mem); (case hcq25 => rfl); (case hdq25 => rfl)); clear lFpq25; intro ipq25 l1q25; (try k_lt l1q25))
  k_with "u26" => ((rename News _ _ _ _ => lNpq26); (refine' unr_end ?Fq26 lNpq26 ?o1q26 ?o2q26 ?o3q26 ?_; (case Fq26 => assumption); (case o1q26 => k_ne); (case o2q26 => k_ne); (case o3q26 => k_all); (refine ⟨⟨by k_mem, trivial⟩, ?_⟩); clear lNpq26; intro hpq26 tkpq26 Fpq26 Npq26; (try k_sweep)))
  k_with "u27" => (k_here; (with_reducible show wpAny _ _ (eval (Expr.Name _ _) (envOfC _ _ _ _ _)) _ _ _); k_dflt (first
      | (refine' nameX_L ?k1q27 ?k2q27 ?_ ?k3q27 ?k4q27; (case k1q27 => k_asm); (case k3q27 => exact rfl); (case k4q27 => exact rfl); (case k2q27 => exact rfl); k_whole)
      | (refine' nameX_K ?k1q27 ?k2q27 ?k3q27 ?k4q27 ?_ ?k5q27 ?k6q27; (case k1q27 => k_asm); (case k2q27 => k_asm); (case k3q27 => k_asm); (case k5q27 => exact rfl); (case k6q27 => exact rfl); (case k4q27 => k_is); k_whole)
      | (refine' nameX_B ?k1q27 ?k2q27 ?k3q27 ?k4q27 ?k5q27 ?k6q27 ?_ ?k7q27 ?k8q27; (case k1q27 => k_asm); (case k2q27 => k_asm); (case k3q27 => k_asm); (case k7q27 => exact rfl); (case k8q27 => exact rfl); (case k4q27 => k_is); (case k5q27 => boot_fast); (case k6q27 => decide); k_whole)
      | (refine' nameX_C ?k1q27 ?k2q27 ?k3q27 ?k4q27 ?_ ?k5q27 ?k6q27; (case k5q27 => exact rfl); (case k6q27 => exact rfl); (case k1q27 => k_asm); (case k2q27 => exact rfl); (case k3q27 => k_mem); (case k4q27 => k_asm); k_whole)))
  k_with "u28" => (k_here; (with_reducible show wpAny _ _ (callWith _ _ _ (backTo _ (starEach [] _)) []) _ _ _); k_dflt (refine' callWith_K0 ?k1q28 ?k2q28 ?_; (case k1q28 => exact Frag.In.keeps (by k_asm) (Fr.keep (by k_asm))); (case k2q28 => k_is); k_whole; (try dsimp only [List.nil_append, List.cons_append])))
  k_with "u29" => (k_here; (with_reducible show wpAny _ _ (getMethod (Value.ref _) (Str.ofString "check_granularity_string") _) _ _ _); k_dflt (
       (refine' kmu_cm ?k1q29 ?k2q29 ?k3q29 ?k4q29 ?k5q29 ?k6q29 ?k7q29 ?k8q29 ?k9q29 ?k10q29 ?k11q29 ?k12q29 ?k13q29 ?_; (case k1q29 => k_asm); (case k2q29 => k_asm); (case k3q29 => k_asm); (case k4q29 => k_inst); (case k5q29 => k_is); (case k6q29 => k_is); (case k7q29 => k_is); (case k8q29 => k_is); (case k9q29 => k_is); (case k10q29 => k_is); (case k11q29 => decide +kernel); (case k12q29 => k_get); (case k13q29 => k_is); k_whole; intro qpq29 hpq29 Fpq29 Npq29 l1q29; (try k_lt l1q29); (try k_sweep))))
  k_with "u30" => (k_here; k_dflt (refine whl_start 100 ?_))
  k_with "u31" => (k_here; (with_reducible show wpAny _ _ (subscriptTail _ _ (Value.str (Str.ofString _) _) (Value.int _ _)) _ _ _); (refine KXi.item (by kxi_len) (by kxi_fact) (by kxi_fact) (by decide) ?_); intro kxiEq31)
  k_with "u32" => (k_here; (with_reducible show wpAny _ _ (call (Value.ref 460) [Value.str _ _]) _ _ _); k_dflt (refine wpAny_call ?_); k_dflt (
      (refine' parse_spec ?Bq32 ?Fq32 ?Xq32 ?Nq32 ?Tq32 ?kq32 ?dq32 ?uq32 ?h2q32 ?hAq32 ?hGq32 ?Hq32 ?hiq32 ?hcq32 ?_; (case Hq32 => assumption); (case hiq32 => assumption); (case hcq32 => assumption); (case h2q32 => assumption); (case hAq32 => assumption); (case hGq32 => assumption); (case Bq32 => k_asm); (case Fq32 => k_asm); (case Xq32 => k_asm); (case Nq32 => k_asm); (case Tq32 => k_asm); (case kq32 => first | exact rfl | assumption); (case dq32 => ktr_room); (case uq32 => ktr_units); k_whole; intro xpq32 dpq32 hpq32 tkpq32 k1pq32 k2pq32 k3pq32 t1pq32 t2pq32 Fpq32 Npq32 l1q32 l2q32; (try simp only [AllLt, and_true] at l1q32); (try dsimp only); (try k_sweep))))
  k_with "u33" => (k_here; (with_reducible show wpAny _ _ (call (Value.ref 731) [Value.str _ _]) _ _ _); k_dflt (refine wpAny_call ?_); k_dflt (
      (refine' unknown_spec ?Bq33 ?Fq33 ?Xq33 ?Nq33 ?Tq33 ?kq33 ?dq33 ?uq33 ?h2q33 ?f0q33 ?f1q33 ?f2q33 ?f3q33 ?f4q33 ?f5q33 ?_; (case f0q33 => assumption); (case f1q33 => assumption); (case f2q33 => assumption); (case f3q33 => assumption); (case f4q33 => assumption); (case f5q33 => assumption); (case h2q33 => assumption); (case Bq33 => k_asm); (case Fq33 => k_asm); (case Xq33 => k_asm); (case Nq33 => k_asm); (case Tq33 => k_asm); (case kq33 => first | exact rfl | assumption); (case dq33 => ktr_room); (case uq33 => ktr_units); k_whole; intro hpq33 tkpq33 Fpq33 Npq33; (try dsimp only); (try k_sweep))))
  k_with "u34" => (k_here; (with_reducible show wpAny _ _ (call (Value.ref 724) [Value.str _ _]) _ _ _); k_dflt (refine wpAny_call ?_); k_dflt (
      ((first | refine' refused_0 ?Bq34 ?Fq34 ?Xq34 ?Nq34 ?Tq34 ?kq34 ?dq34 ?uq34 ?_ | refine' refused_1 ?Bq34 ?Fq34 ?Xq34 ?Nq34 ?Tq34 ?kq34 ?dq34 ?uq34 ?_ | refine' refused_2 ?Bq34 ?Fq34 ?Xq34 ?Nq34 ?Tq34 ?kq34 ?dq34 ?uq34 ?_ | refine' refused_3 ?Bq34 ?Fq34 ?Xq34 ?Nq34 ?Tq34 ?kq34 ?dq34 ?uq34 ?_ | refine' refused_4 ?Bq34 ?Fq34 ?Xq34 ?Nq34 ?Tq34 ?kq34 ?dq34 ?uq34 ?_ | refine' refused_5 ?Bq34 ?Fq34 ?Xq34 ?Nq34 ?Tq34 ?kq34 ?dq34 ?uq34 ?_); (case Bq34 => k_asm); (case Fq34 => k_asm); (case Xq34 => k_asm); (case Nq34 => k_asm); (case Tq34 => k_asm); (case kq34 => first | exact rfl | assumption); (case dq34 => ktr_room); (case uq34 => ktr_units); k_whole; intro hpq34 tkpq34 Fpq34 Npq34; (try dsimp only); (try k_sweep))))
  k_with "u35" => (k_here; (with_reducible show wpAny _ _ (subscriptTail _ _ (Value.ref _) (Value.int (Int.fmod _ 6) _)) _ _ _); k_dflt (refine' wrong_item ?hlq35 ?hwq35 ?h0q35 ?h1q35 ?h2q35 ?_; (case hlq35 => exact News.isList (by k_asm) (by k_mem)); (case hwq35 => repeat constructor); (case h0q35 => exact mod_lo _ (by decide)); (case h1q35 => exact mod_hi _ (by decide)); (case h2q35 => decide)); intro wTq35 wXq35 wFq35)
  k_with "u36" => (k_here; (with_reducible show wpAny _ _ (call (Value.ref 724) [Value.str _ _]) _ _ _); (rename _ ∈ _ => wMemq36); k_dflt (refine wpAny_call ?_); k_dflt (
      (refine' refused_any ?Hq36 ?Bq36 ?Fq36 ?Xq36 ?Nq36 ?Tq36 ?kq36 ?dq36 ?uq36 ?_; (case Hq36 => exact wMemq36); (case Bq36 => k_asm); (case Fq36 => k_asm); (case Xq36 => k_asm); (case Nq36 => k_asm); (case Tq36 => k_asm); (case kq36 => first | exact rfl | assumption); (case dq36 => ktr_room); (case uq36 => ktr_units); k_whole; intro hpq36 tkpq36 Fpq36 Npq36; (try dsimp only); (try k_sweep))))
  k_with "u37" => (k_here; (with_reducible show wpAny _ _ (eval (Expr.ListComp _ [⟨_, Expr.Name (Str.ofString "identifiers") _, _, _⟩] _ _) _) _ _ _); k_dflt (refine ListComp_tup (by k_asm) (by with_unfolding_all rfl) (by decide) (by rfl) (by decide) (by rfl) ?_))
  k_with "u38" => ((rename TupAt _ _ _ _ => hT9q38); (rename StrsAre _ _ => hW9q38); (refine ⟨_, _, _, rfl, rfl, (by assumption), (by assumption), TupAt.up hT9q38 (Fr.keep (by assumption)), (by assumption), fun g' => ?_⟩); (refine tx_strs id hW9q38 (fun a' t' I' oI' C' oC' D' m' ys' h' tk' E' ha' hC' hx' F' N' off' ne' => ?_) (fun ys' hys' => ?_)))
  k_with "u39" => (k_here; (with_reducible show wpAny _ _ (binaryOp _ (Value.ref _) (Value.ref _)) _ _ _); k_dflt (refine' add_texts ?Fq39 ?Nq39 ?aq39 ?bq39 ?iq39 ?jq39 ?_ ?zq39; (case Fq39 => k_asm); (case Nq39 => k_asm); (case aq39 => exact News.isList (by k_asm) (by k_mem)); (case bq39 => exact News.isList (by k_asm) (by k_mem)); (case iq39 => assumption); (case jq39 => repeat constructor); (case zq39 => (simp only [List.length_map, List.length_cons, List.length_nil]; omega))); intro Dpq39 rspq39 hpq39 Fpq39 Npq39 l1q39 hSpq39; (try k_lt l1q39); (try k_sweep))
  k_with "u40" => (k_here; (with_reducible show wpAny _ _ (call (Value.builtin "str.join") [Value.str _ _, Value.ref _]) _ _ _); k_dflt (refine' join_texts ?lq40 ?cq40 ?bq40 ?nq40 ?xq40 ?_; (case lq40 => exact News.isList (by k_asm) (by k_mem)); (case cq40 => assumption); (case bq40 => exact key_texts (by assumption) (by assumption) (by assumption)); (case nq40 => (simp only [List.length_map, List.length_append, List.length_cons, List.length_nil]; omega)); (case xq40 => decide)); intro tpq40 kpq40 jnq40 jnEq40 jnLq40)
  k_with "u41" => (k_here; (with_reducible show wpAny _ _ (formatField (Value.str _ _) PySem.Str.empty) _ _ _); (rename PySem.Str.length _ ≤ 1600 => jnL9q41); (refine field_text (Nat.le_trans jnL9q41 (by decide)) ?_); intro tpq41 kpq41)
  k_with "u42" => (k_here; k_dflt (refine LCg.CompSrc.ledger (by rfl) (by k_asm) (by k_asm) (by k_mem) (by first | exact ints_small (by assumption) (by omega) | exact strs_small (by assumption) (by (simp only [List.length_map]; omega))) ?_); intro gpq42; (first
      | refine tx_ints wordAt (by assumption) (fun a' t' I' oI' C' oC' D' m' ys' h' tk' E' ha' hC' hx' F' N' off' ne' => ?_) (fun ys' hys' => ?_)
      | refine tx_strs (fun a => Str.ofString "/" ++ a) (by assumption) (fun a' t' I' oI' C' oC' D' m' ys' h' tk' E' ha' hC' hx' F' N' off' ne' => (fun (aL9 : Str.length a' ≤ 10) => ?_) (words_len _ _ ha')) (fun ys' hys' => ?_)))
  k_with "u43" => (k_here; (with_reducible show wpAny _ _ (subscriptTail _ _ (Value.ref _) (Value.int (Int.fmod _ 8) _)) _ _ _); k_dflt (refine' KTb.item_list ?lq43 ?wq43 ?h0q43 ?h1q43 ?hfq43 ?_; (case lq43 => ktb_isList); (case wq43 => repeat constructor); (case h0q43 => exact mod_lo _ (by decide)); (case h1q43 => exact mod_hi _ (by decide)); (case hfq43 => exact Int.lt_trans (mod_hi _ (by decide)) (by decide))); intro wTq43 wLq43)
  k_with "u44" => (k_dflt (refine' tx_end ?Fq44 ?Nq44 ?subq44 ?offq44 ?srcq44; (case Fq44 => assumption); (case Nq44 => assumption); (case subq44 => kcf_all); (case offq44 => assumption); (case srcq44 => lcg_src)))
  k_with "u45" => (k_here; (with_reducible show wpAny _ _ (call (Value.builtin "str.join") [Value.str _ _, Value.ref _]) _ _ _); k_dflt (refine' join_texts ?lq45 ?cq45 ?bq45 ?nq45 ?xq45 ?_; (case lq45 => exact News.isList (by k_asm) (by k_mem)); (case cq45 => assumption); (case bq45 => exact slashed_len _); (case nq45 => (simp only [List.length_map]; omega)); (case xq45 => decide)); intro tpq45 kpq45 jnq45 jnEq45 jnLq45)
  k_with "u46" => (k_here; (with_reducible show wpAny _ _ (call (Value.ref 181) [Value.ref _, Value.ref _]) _ _ _); k_dflt (refine wpAny_call ?_); k_dflt (
      (refine' key_spec ?Bq46 ?Fq46 ?Xq46 ?Nq46 ?Tq46 ?kq46 ?dq46 ?uq46 ?hxq46 ?hdq46 ?a0q46 ?a1q46 ?hTq46 ?hWq46 ?hsq46 ?hlq46 ?hbq46 ?_; (case Bq46 => k_asm); (case Fq46 => k_asm); (case Xq46 => k_asm); (case Nq46 => k_asm); (case Tq46 => k_asm); (case kq46 => first | exact rfl | assumption); (case dq46 => ktr_room); (case uq46 => ktr_units); (case hxq46 => k_mem); (case hdq46 => k_mem); (case a0q46 => exact amt_lo _); (case a1q46 => exact amt_hi _); (case hTq46 => exact .inr ⟨_, by k_mem, rfl, _, rfl⟩); (case hWq46 => assumption); (case hsq46 => exact strs_small (by assumption) (by (simp only [List.length_map]; omega))); (case hlq46 => (simp only [List.length_map]; omega)); (case hbq46 => exact words_len _); k_whole; intro hpq46 tkpq46 tpq46 Fpq46 Npq46 kLpq46; (try dsimp only); (try k_sweep))))
  k_with "u47" => (k_here; (with_reducible show wpAny _ _ (call (Value.ref _) []) _ _ _); (rename Clock _ _ _ _ => hC9q47); k_dflt (refine wpAny_call ?_); k_dflt (
      (refine' ClockIs.use (Clock.is hC9q47) ?Bq47 ?Fq47 ?Xq47 ?Nq47 ?Tq47 ?kq47 ?dq47 ?oq47 ?_; (case Bq47 => k_asm); (case Fq47 => k_asm); (case Xq47 => k_asm); (case Nq47 => k_asm); (case Tq47 => k_asm); (case kq47 => first | exact rfl | assumption); (case dq47 => ktr_room); (case oq47 => exact own_more (by assumption) (by kcf_all)); k_whole; intro hpq47 tkpq47 tpq47 Fpq47 Npq47; (try dsimp only); (try k_sweep))))
  k_with "u48" => (k_here; (with_reducible show wpAny _ _ (getMethod (Value.ref _) (Str.ofString "pop") _) _ _ _); k_dflt (refine getMethod_tab_any (knd := strKind _ _) (enc := PyData.str) (by exact rfl) (by k_tabat) ?_))
  k_with "u49" => (k_here; (with_reducible show wpAny _ _ (getMethod (Value.ref _) (Str.ofString "get") _) _ _ _); k_dflt (refine getMethod_strTab_get (by k_tabat) ?_))
  k_with "u50" => (k_here; (with_reducible show wpAny _ _ (callWith _ (Value.ref _) _ (backTo _ (starEach [] _)) []) _ _ _); (rename Clock _ _ _ _ => hC9q50); k_dflt (refine' callWith_F0 ?Xq50 ?_; (case Xq50 => exact Clock.at hC9q50 (by k_asm) (own_more (by assumption) (by kcf_all))); k_whole; (try dsimp only [List.nil_append])))
  k_with "u51" => (k_here; (with_reducible show wpAny _ _ (getMethod (Value.ref _) (Str.ofString "clock") _) _ _ _); k_dflt (refine' kmu_own ?k1q51 ?k2q51 ?k3q51 ?k4q51 ?k5q51 ?_; (case k1q51 => k_asm); (case k2q51 => k_asm); (case k3q51 => k_inst); (case k4q51 => k_is); (case k5q51 => k_is); k_whole))
  k_with "u52" => (k_here; (with_reducible show wpAny _ _ (call (Value.builtin "dict.pop") [Value.ref _, Value.str _ _, _]) _ _ _); (rename (kdpLook _ _ 0 ≤ _ → _) => hp9q52); k_dflt (refine' kt_pop_default PyProof.V.same_str (strKind_is _ _ _ _) ?rq52 ?tq52 (PySem.F.args_dict_pop_3 _ _ _) ?nq52 ?_; (case rq52 => rfl); (case tq52 => k_tabat); (case nq52 => first | exact (hp9q52 (by assumption)).1 | exact (hp9q52 (by assumption)).2); k_whole))
  k_with "u53" => (k_here; (with_reducible show wpAny _ _ (call (Value.ref _) []) _ _ _); (rename Clock _ _ _ _ => hC9q53); k_dflt (refine wpAny_call ?_); k_dflt (
      (refine' ClockIs.use (Clock.is hC9q53) ?Bq53 ?Fq53 ?Xq53 ?Nq53 ?Tq53 ?kq53 ?dq53 ?oq53 ?_; (case Bq53 => k_asm); (case Fq53 => k_asm); (case Xq53 => k_asm); (case Nq53 => k_asm); (case Tq53 => k_asm); (case kq53 => first | exact rfl | assumption); (case dq53 => ktr_room); (case oq53 => exact own_more (by assumption) (by kcf_all)); k_whole; intro hpq53 tkpq53 tpq53 Fpq53 Npq53; (try dsimp only); (try k_sweep))))
  k_with "u54" => (k_here; (with_reducible show wpAny _ _ (getMethod (Value.ref _) (Str.ofString "pop") _) _ _ _); k_dflt (refine getMethod_tab_any (knd := strKind _ _) (enc := PyData.str) (by exact rfl) (by k_tabat) ?_))
  k_with "u55" => (k_here; (with_reducible show wpAny _ _ (getMethod (Value.ref _) (Str.ofString "get") _) _ _ _); k_dflt (first
      | (refine' method_inst ?k1q55 ?k2q55 ?k3q55 ?k4q55 ?k5q55 ?k6q55 ?k7q55 ?_; (case k1q55 => k_asm); (case k2q55 => k_asm); (case k3q55 => k_inst); (case k4q55 => k_is); (case k5q55 => k_is); (case k6q55 => k_is); (case k7q55 => k_get); k_whole)
      | refine getMethod_strTab_get (by k_tabat) ?_))
  k_with "u56" => (k_here; (with_reducible show wpAny _ _ (callWith _ (Value.ref _) _ (backTo _ (starEach [] _)) []) _ _ _); (rename Clock _ _ _ _ => hC9q56); k_dflt (refine' callWith_F0 ?Xq56 ?_; (case Xq56 => exact Clock.at hC9q56 (by k_asm) (own_more (by assumption) (by kcf_all))); k_whole; (try dsimp only [List.nil_append])))
  k_with "u57" => (k_here; (with_reducible show wpAny _ _ (getMethod (Value.ref _) (Str.ofString "clock") _) _ _ _); k_dflt (refine' kmu_own ?k1q57 ?k2q57 ?k3q57 ?k4q57 ?k5q57 ?_; (case k1q57 => k_asm); (case k2q57 => k_asm); (case k3q57 => k_inst); (case k4q57 => k_is); (case k5q57 => k_is); k_whole))
  k_with "u58" => (k_here; (with_reducible show wpAny _ _ (call (Value.ref 556) [Value.ref _, Value.str _ _]) _ _ _); (rename (¬ kdpLook _ _ 0 ≤ _ ∨ _) => hl9q58); k_dflt (refine wpAny_call ?_); k_dflt (
      (refine' get_spec ?Bq58 ?Fq58 ?Xq58 ?Nq58 ?Tq58 ?kq58 ?dq58 ?Cq58 ?oq58 ?lSq58 ?lXq58 ?hSq58 ?hXq58 ?fSq58 ?fXq58 ?hlq58 ?_; (case Bq58 => k_asm); (case Fq58 => k_asm); (case Xq58 => k_asm); (case Nq58 => k_asm); (case Tq58 => k_asm); (case kq58 => first | exact rfl | assumption); (case dq58 => ktr_room); (case Cq58 => assumption); (case oq58 => assumption); (case lSq58 => assumption); (case lXq58 => assumption); (case hSq58 => assumption); (case hXq58 => assumption); (case fSq58 => assumption); (case fXq58 => assumption); (case hlq58 => exact hl9q58); k_whole; intro hpq58 tkpq58 tpq58 Fpq58 Npq58; (try dsimp only); (try k_sweep))))
  k_with "u59" => (refine' code_def ?k1q59 ?k2q59 ?k3q59 ?k4q59 ?k5q59 ?kAq59 ?kFq59 ?kKq59 ?k6q59 ?k7q59 ?k8q59 ?k9q59 ?kBq59 ?_ ?c2q59 ?c3q59 ?c4q59 ?c5q59; (case kAq59 => exact rfl); (case kFq59 => exact rfl); (case kKq59 => first | exact rfl | assumption); (case k1q59 => k_asm); (case k2q59 => k_asm); (case k3q59 => k_asm); (case k4q59 => k_asm); (case k5q59 => k_asm); (case k6q59 => k_is); (case k7q59 => k_is); (case k8q59 => ktr_room); (case k9q59 => assumption); (case c5q59 => decide); (case kBq59 => exact locs rfl); (case c2q59 => exact rfl); (case c3q59 => exact rfl); (case c4q59 => exact rfl); k_whole; intro gpq59 Lpq59 hpq59 FGpq59 Fpq59 Npq59 Bpq59 Xpq59 Tpq59; (try dsimp only); (try k_lift Bpq59); (try k_fold))
  k_with "u60" => (refine' try_enter ?k1q60 ?k2q60 ?k3q60 ?k4q60 ?k5q60 ?kAq60 ?kFq60 ?kKq60 ?k6q60 ?k7q60 ?k8q60 ?k9q60 ?kBq60 ?_ ?c2q60 ?c3q60 ?c4q60 ?c5q60; (case kAq60 => exact rfl); (case kFq60 => exact rfl); (case kKq60 => first | exact rfl | assumption); (case k1q60 => k_asm); (case k2q60 => k_asm); (case k3q60 => k_asm); (case k4q60 => k_asm); (case k5q60 => k_asm); (case k6q60 => k_is); (case k7q60 => k_is); (case k8q60 => ktr_room); (case k9q60 => assumption); (case c5q60 => decide); (case kBq60 => exact locs rfl); (case c2q60 => exact rfl); (case c3q60 => exact rfl); (case c4q60 => exact rfl); k_whole; intro gpq60 Lpq60 hpq60 Fpq60 Npq60 Bpq60 Xpq60 Tpq60 Dpq60; (try dsimp only); (try k_lift Bpq60); (try k_fold))
  k_with "u61" => (k_here; (with_reducible show wpAny _ _ (call (Value.builtin "dict.setdefault") [Value.ref _, Value.str _ _, _]) _ _ _); k_dflt (refine' kob_setdef_new (knd := PySem.strKind _ _) ?Fq61 ?Nq61 ?Uq61 ?dq61 ?oq61 (strKind_is _ _ _ _) (PySem.F.args_dict_setdefault_3 _ _ _) ?lq61 ?zq61 ?_; (case Fq61 => k_asm); (case Nq61 => k_asm); (case Uq61 => k_updF); (case dq61 => k_asm); (case oq61 => assumption); (case lq61 => assumption); (case zq61 => (rw [sizeLine_eq]; omega)); k_whole); intro hpq61 opq61 Fpq61 Npq61 hdpq61; (try dsimp only at Npq61))
  k_with "u62" => (k_here; (with_reducible show wpAny _ _ (subscriptTail _ _ (Value.ref _) (Value.str _ _)) _ _ _); k_dflt (refine' kda_item (knd := PySem.strKind _ _) ?Nq62 ?pq62 ?dq62 (strKind_is _ _ _ _) ?lq62 ?_; (case Nq62 => k_asm); (case pq62 => k_mem); (case dq62 => k_asm); (case lq62 => exact value_stored _ _ _); k_whole))
  k_with "u63" => (k_here; (with_reducible show wpAny _ _ (getItem (Value.ref _) (Value.str _ _)) _ _ _); k_dflt (refine' get_any (knd := PySem.strKind _ _) ?Nq63 ?pq63 ?dq63 (strKind_is _ _ _ _) ?lq63 ?_; (case Nq63 => k_asm); (case pq63 => k_mem); (case dq63 => k_asm); (case lq63 => exact value_stored _ _ _); k_whole))
  k_with "u64" => (k_here; (rename Heap.NewExc _ _ _ _ => nx9q64); k_dflt (refine' caught_own (T' := "IndexError") nx9q64 ?Fq64 ?Nq64 ?Kq64 ?XBq64 ?TBq64 ?Dq64 ?T0q64 ?exq64 PyProof.Rows.Boot.«IndexError» ?hnq64 PySem.F.isExc_IndexError PySem.F.notTuple_IndexError ?hsq64 ?_; (case Fq64 => assumption); (case Nq64 => assumption); (case Kq64 => assumption); (case XBq64 => assumption); (case TBq64 => assumption); (case Dq64 => assumption); (case T0q64 => exact KtsTurn.refl); (case hsq64 => kts_sub); (case exq64 => k_is); (case hnq64 => decide); k_whole); intro hpq64 gpq64 Tpq64 Fpq64 Npq64 Kpq64 Xpq64 Ppq64 Dpq64; (try k_lift Kpq64); (try k_sweep))
  k_with "u65" => (k_here; (with_reducible show wpAny _ _ (binaryOp _ (Value.ref _) (Value.int 1 _)) _ _ _); k_dflt (refine' mul_one ?Fq65 ?Nq65 ?mq65 ?_; (case Fq65 => k_asm); (case Nq65 => k_asm); (case mq65 => k_mem); k_whole); intro Dpq65 hpq65 Fpq65 Npq65 l1q65; (try k_lt l1q65); (try k_sweep))
  k_with "u66" => (k_here; (with_reducible show wpAny _ _ (setItem (Value.ref _) (Value.str _ _) (Value.ref _)) _ _ _); k_dflt (refine' kda_set (knd := PySem.strKind _ _) ?Fq66 ?Nq66 ?Uq66 ?dq66 (strKind_is _ _ _ _) ?zq66 ?_; (case Fq66 => k_asm); (case Nq66 => k_asm); (case Uq66 => k_updF); (case dq66 => k_asm); (case zq66 => exact Nat.le_trans (stored_len _ _ _) (by rw [sizeLine_eq]; omega)); k_whole); intro hpq66 opq66 Fpq66 Npq66 hdpq66; (try dsimp only at Npq66))
  k_with "u67" => (k_here; (with_reducible show wpAny _ _ (call (Value.builtin "len") [Value.ref _]) _ _ _); k_dflt (refine' kda_len (knd := PySem.strKind _ _) ?Nq67 ?pq67 ?dq67 ?loq67 ?zq67 ?_; (case Nq67 => k_asm); (case pq67 => k_mem); (case dq67 => k_asm); (case loq67 => assumption); (case zq67 => omega); k_whole))
  k_with "u68" => (k_here; (with_reducible show wpAny _ _ (getMethod (Value.ref _) (Str.ofString "clear") _) _ _ _); k_dflt (refine' kob_method (knd := PySem.strKind _ _) PySem.F.slot_dict_clear PySem.F.type_dict_clear ?Nq68 ?pq68 ?dq68 ?_; (case Nq68 => k_asm); (case pq68 => k_mem); (case dq68 => k_asm); k_whole))
  k_with "u69" => (k_here; (with_reducible show wpAny _ _ (call (Value.builtin "dict.clear") [Value.ref _]) _ _ _); k_dflt (refine' clear_any (knd := PySem.strKind _ _) ?Fq69 ?Nq69 ?Uq69 ?dq69 ?zq69 ?_; (case Fq69 => k_asm); (case Nq69 => k_asm); (case Uq69 => k_updF); (case dq69 => k_asm); (case zq69 => omega); k_whole); intro hpq69 opq69 Fpq69 Npq69 hdpq69; (try dsimp only at Npq69))
  k_with "u70" => (refine' kla_code ?k1q70 ?k2q70 ?k3q70 ?k4q70 ?k5q70 ?kAq70 ?kFq70 ?kKq70 ?k6q70 ?k7q70 ?k8q70 ?k9q70 ?kBq70 ?_ ?c2q70 ?c3q70 ?c4q70 ?c5q70; (case kAq70 => exact rfl); (case kFq70 => exact rfl); (case kKq70 => first | exact rfl | assumption); (case k1q70 => k_asm); (case k2q70 => k_asm); (case k3q70 => k_asm); (case k4q70 => k_asm); (case k5q70 => k_asm); (case k6q70 => k_mem); (case k7q70 => exact codeRec_news (by k_asm) (by k_mem) (by assumption) (by assumption)); (case k8q70 => ktr_room); (case k9q70 => exact rfl); (case c5q70 => decide); (case kBq70 => exact locs rfl); (case c2q70 => exact rfl); (case c3q70 => exact rfl); (case c4q70 => exact rfl); k_whole; intro gpq70 Lpq70 hpq70 FGpq70 Fpq70 Npq70 Bpq70 Xpq70 Tpq70; (try dsimp only); (try k_lift Bpq70); (try k_fold))
  k_with "u71" => first | exact BindsTo.of_eq rfl | exact binds_K (by k_in) rfl (by k_is) rfl rfl rfl
  k_with "u72" => (k_here; (with_reducible show wpAny _ _ (call (Value.ref 541) _ _) _ _ _); k_dflt (refine wpAny_call ?_); k_dflt (first
      | (refine' incr_next ?fnq72 ?bdq72 ?Bq72 ?Fq72 ?Xq72 ?Nq72 ?Tq72 ?kq72 ?dq72 ?Cq72 ?oq72 ?lSq72 ?lXq72 ?hSq72 ?hXq72 ?fSq72 ?fXq72 ?o1q72 ?o2q72 ?w1q72 ?w2q72 ?w3q72 ?hnq72 ?hvq72 ?_; (case fnq72 => k_is); (case bdq72 => walk_at "my bind"); (case Bq72 => k_asm); (case Fq72 => k_asm); (case Xq72 => k_asm); (case Nq72 => k_asm); (case Tq72 => k_asm); (case kq72 => first | exact rfl | assumption); (case dq72 => ktr_room); (case Cq72 => assumption); (case oq72 => assumption); (case lSq72 => assumption); (case lXq72 => assumption); (case hSq72 => assumption); (case hXq72 => assumption); (case fSq72 => assumption); (case fXq72 => assumption); (case o1q72 => assumption); (case o2q72 => assumption); (case w1q72 => assumption); (case w2q72 => assumption); (case w3q72 => assumption); (case hnq72 => omega); (case hvq72 => omega); k_whole; intro hpq72 tkpq72 tpq72 ospq72 kvspq72 Fpq72 Npq72 hSpq72 fSpq72)
      | (refine' incr_first ?fnq72 ?bdq72 ?Bq72 ?Fq72 ?Xq72 ?Nq72 ?Tq72 ?kq72 ?dq72 ?Cq72 ?oq72 ?lSq72 ?lXq72 ?hSq72 ?hXq72 ?fSq72 ?fXq72 ?o1q72 ?o2q72 ?w1q72 ?w2q72 ?w3q72 ?hnq72 ?_; (case fnq72 => k_is); (case bdq72 => walk_at "my bind"); (case Bq72 => k_asm); (case Fq72 => k_asm); (case Xq72 => k_asm); (case Nq72 => k_asm); (case Tq72 => k_asm); (case kq72 => first | exact rfl | assumption); (case dq72 => ktr_room); (case Cq72 => assumption); (case oq72 => assumption); (case lSq72 => assumption); (case lXq72 => assumption); (case hSq72 => assumption); (case hXq72 => assumption); (case fSq72 => assumption); (case fXq72 => assumption); (case o1q72 => assumption); (case o2q72 => assumption); (case w1q72 => assumption); (case w2q72 => assumption); (case w3q72 => assumption); (case hnq72 => assumption); k_whole; intro hpq72 tkpq72 tpq72 ospq72 oxpq72 kvspq72 kvxpq72 Fpq72 Npq72 hSpq72 hXpq72 fSpq72 fXpq72)); (try dsimp only))
  k_with "u73" => (k_here; (with_reducible show wpAny _ _ (call (Value.ref 549) _ _) _ _ _); k_dflt (refine wpAny_call ?_); k_dflt (
       (refine' decr_next ?fnq73 ?bdq73 ?Bq73 ?Fq73 ?Xq73 ?Nq73 ?Tq73 ?kq73 ?dq73 ?Cq73 ?oq73 ?lSq73 ?lXq73 ?hSq73 ?hXq73 ?fSq73 ?fXq73 ?o1q73 ?o2q73 ?w1q73 ?w2q73 ?w3q73 ?hnq73 ?hvq73 ?_; (case fnq73 => k_is); (case bdq73 => walk_at "my bind"); (case Bq73 => k_asm); (case Fq73 => k_asm); (case Xq73 => k_asm); (case Nq73 => k_asm); (case Tq73 => k_asm); (case kq73 => first | exact rfl | assumption); (case dq73 => ktr_room); (case Cq73 => assumption); (case oq73 => assumption); (case lSq73 => assumption); (case lXq73 => assumption); (case hSq73 => assumption); (case hXq73 => assumption); (case fSq73 => assumption); (case fXq73 => assumption); (case o1q73 => assumption); (case o2q73 => assumption); (case w1q73 => assumption); (case w2q73 => assumption); (case w3q73 => assumption); (case hnq73 => omega); (case hvq73 => omega); k_whole; intro hpq73 tkpq73 tpq73 ospq73 kvspq73 Fpq73 Npq73 hSpq73 fSpq73)); (try dsimp only))
  k_with "u74" => (k_here; (with_reducible show wpAny _ _ (getMethod (Value.ref _) _ _) _ _ _); k_dflt (refine' method_inst ?k1q74 ?k2q74 ?k3q74 ?k4q74 ?k5q74 ?k6q74 ?k7q74 ?_; (case k1q74 => k_asm); (case k2q74 => k_asm); (case k3q74 => k_inst); (case k4q74 => k_is); (case k5q74 => k_is); (case k6q74 => k_is); (case k7q74 => k_get); k_whole))
  k_with "u75" => (k_here; (with_reducible show wpAny _ _ (call (Value.ref 571) _ _) _ _ _); k_dflt (refine wpAny_call ?_); k_dflt (first
      | (refine' acq_no ?fnq75 ?bdq75 ?Bq75 ?Fq75 ?Xq75 ?Nq75 ?Tq75 ?kq75 ?dq75 ?gq75 ?_; (case fnq75 => k_is); (case bdq75 => walk_at "my bind"); (case Bq75 => k_asm); (case Fq75 => k_asm); (case Xq75 => k_asm); (case Nq75 => k_asm); (case Tq75 => k_asm); (case kq75 => first | exact rfl | assumption); (case dq75 => ktr_room); (case gq75 => decide); k_whole; intro hpq75 tkpq75 Fpq75 Npq75)
      | (refine' acq_yes ?fnq75 ?bdq75 ?Bq75 ?Fq75 ?Xq75 ?Nq75 ?Tq75 ?kq75 ?dq75 ?Cq75 ?oq75 ?lVq75 ?hVq75 ?cVq75 ?vVq75 ?o1q75 ?w1q75 ?w2q75 ?_; (case fnq75 => k_is); (case bdq75 => walk_at "my bind"); (case Bq75 => k_asm); (case Fq75 => k_asm); (case Xq75 => k_asm); (case Nq75 => first | exact led_acq (by with_reducible assumption) | k_asm); (case Tq75 => k_asm); (case kq75 => first | exact rfl | assumption); (case dq75 => ktr_room); (case Cq75 => assumption); (case oq75 => first | assumption | exact own_more (by assumption) (fun q hq => .tail _ (.tail _ hq))); (case lVq75 => assumption); (case hVq75 => assumption); (case cVq75 => first | exact Nat.zero_le _ | exact stored_two _ _ _ _); (case vVq75 => with_unfolding_all rfl); (case o1q75 => k_all); (case w1q75 => omega); (case w2q75 => omega); k_whole; intro hpq75 tkpq75 ovpq75 r1pq75 r2pq75 Fpq75 Npq75 hVpq75)); (try dsimp only))
  k_with "u76" => (k_here; (with_reducible show wpAny _ _ (call (Value.ref 628) _ _) _ _ _); k_dflt (refine wpAny_call ?_); k_dflt (
      (refine' reset_spec ?Bq76 ?Fq76 ?Xq76 ?Nq76 ?Tq76 ?kq76 ?dq76 ?lSq76 ?lXq76 ?lVq76 ?hSq76 ?hXq76 ?hVq76 ?cSq76 ?cXq76 ?cVq76 ?o1q76 ?o2q76 ?o3q76 ?w1q76 ?w2q76 ?w3q76 ?w4q76 ?_; (case Bq76 => k_asm); (case Fq76 => k_asm); (case Xq76 => k_asm); (case Nq76 => first | exact led_reset (by with_reducible assumption) | k_asm); (case Tq76 => k_asm); (case kq76 => first | exact rfl | assumption); (case dq76 => ktr_room); (case lSq76 => assumption); (case lXq76 => assumption); (case lVq76 => assumption); (case hSq76 => assumption); (case hXq76 => assumption); (case hVq76 => assumption); (case cSq76 => omega); (case cXq76 => omega); (case cVq76 => first | exact Nat.zero_le _ | omega); (case o1q76 => k_all); (case o2q76 => k_all); (case o3q76 => k_all); (case w1q76 => omega); (case w2q76 => omega); (case w3q76 => omega); (case w4q76 => omega); k_whole; intro hpq76 tkpq76 tpq76 ospq76 oxpq76 ovpq76 Fpq76 Npq76 hSpq76 hXpq76 hVpq76)); (try dsimp only))
  k_with "u77" => (k_here; (with_reducible show wpAny _ _ (call (Value.ref 571) _ _) _ _ _); k_dflt (refine wpAny_call ?_); k_dflt (first
      | (refine' acq_no ?fnq77 ?bdq77 ?Bq77 ?Fq77 ?Xq77 ?Nq77 ?Tq77 ?kq77 ?dq77 ?gq77 ?_; (case fnq77 => k_is); (case bdq77 => walk_at "my bind"); (case Bq77 => k_asm); (case Fq77 => k_asm); (case Xq77 => k_asm); (case Nq77 => k_asm); (case Tq77 => k_asm); (case kq77 => first | exact rfl | assumption); (case dq77 => ktr_room); (case gq77 => decide); k_whole; intro hpq77 tkpq77 Fpq77 Npq77)
      | (refine' acq_yes ?fnq77 ?bdq77 ?Bq77 ?Fq77 ?Xq77 ?Nq77 ?Tq77 ?kq77 ?dq77 ?Cq77 ?oq77 ?lVq77 ?hVq77 ?cVq77 ?vVq77 ?o1q77 ?w1q77 ?w2q77 ?_; (case fnq77 => k_is); (case bdq77 => walk_at "my bind"); (case Bq77 => k_asm); (case Fq77 => k_asm); (case Xq77 => k_asm); (case Nq77 => first | exact led_acq (by with_reducible assumption) | k_asm); (case Tq77 => k_asm); (case kq77 => first | exact rfl | assumption); (case dq77 => ktr_room); (case Cq77 => assumption); (case oq77 => first | assumption | exact own_more (by assumption) (fun q hq => .tail _ (.tail _ hq))); (case lVq77 => assumption); (case hVq77 => assumption); (case cVq77 => first | exact Nat.zero_le _ | exact stored_two _ _ _ _); (case vVq77 => with_unfolding_all rfl); (case o1q77 => k_all); (case w1q77 => omega); (case w2q77 => omega); k_whole; intro hpq77 tkpq77 ovpq77 r1pq77 r2pq77 Fpq77 Npq77 hVpq77)); (try dsimp only))
  k_with "u78" => (k_here; (with_reducible show wpAny _ _ (call (Value.ref 628) _ _) _ _ _); k_dflt (refine wpAny_call ?_); k_dflt (
      (refine' reset_spec ?Bq78 ?Fq78 ?Xq78 ?Nq78 ?Tq78 ?kq78 ?dq78 ?lSq78 ?lXq78 ?lVq78 ?hSq78 ?hXq78 ?hVq78 ?cSq78 ?cXq78 ?cVq78 ?o1q78 ?o2q78 ?o3q78 ?w1q78 ?w2q78 ?w3q78 ?w4q78 ?_; (case Bq78 => k_asm); (case Fq78 => k_asm); (case Xq78 => k_asm); (case Nq78 => first | exact led_reset (by with_reducible assumption) | k_asm); (case Tq78 => k_asm); (case kq78 => first | exact rfl | assumption); (case dq78 => ktr_room); (case lSq78 => assumption); (case lXq78 => assumption); (case lVq78 => assumption); (case hSq78 => assumption); (case hXq78 => assumption); (case hVq78 => assumption); (case cSq78 => omega); (case cXq78 => omega); (case cVq78 => first | exact Nat.zero_le _ | omega); (case o1q78 => k_all); (case o2q78 => k_all); (case o3q78 => k_all); (case w1q78 => omega); (case w2q78 => omega); (case w3q78 => omega); (case w4q78 => omega); k_whole; intro hpq78 tkpq78 tpq78 ospq78 oxpq78 ovpq78 Fpq78 Npq78 hSpq78 hXpq78 hVpq78)); (try dsimp only))
  k_with "u79" => (k_here; (with_reducible show wpAny _ _ (getMethod (Value.ref _) _ _) _ _ _); k_dflt (refine' method_inst ?k1q79 ?k2q79 ?k3q79 ?k4q79 ?k5q79 ?k6q79 ?k7q79 ?_; (case k1q79 => k_asm); (case k2q79 => k_asm); (case k3q79 => k_inst); (case k4q79 => k_is); (case k5q79 => k_is); (case k6q79 => k_is); (case k7q79 => k_get); k_whole))
  k_with "u80" => (k_here; (with_reducible show wpAny _ _ (call (Value.ref 556) [Value.ref _, Value.str _ _]) _ _ _); k_dflt (refine wpAny_call ?_); k_dflt (
      (refine' get_next ?Bq80 ?Fq80 ?Xq80 ?Nq80 ?Tq80 ?kq80 ?dq80 ?Cq80 ?oq80 ?lSq80 ?lXq80 ?hSq80 ?hXq80 ?fSq80 ?fXq80 ?hnq80 ?_; (case Bq80 => k_asm); (case Fq80 => k_asm); (case Xq80 => k_asm); (case Nq80 => k_asm); (case Tq80 => k_asm); (case kq80 => first | exact rfl | assumption); (case dq80 => ktr_room); (case Cq80 => assumption); (case oq80 => assumption); (case lSq80 => assumption); (case lXq80 => assumption); (case hSq80 => assumption); (case hXq80 => assumption); (case fSq80 => assumption); (case fXq80 => assumption); (case hnq80 => omega); k_whole; intro hpq80 tkpq80 tpq80 Fpq80 Npq80; (try dsimp only); (try k_sweep))))
  k_with "u81" => (k_here; (with_reducible show wpAny _ _ (call (Value.ref 556) [Value.ref _, Value.str _ _]) _ _ _); k_dflt (refine wpAny_call ?_); k_dflt (
      (refine' get_next ?Bq81 ?Fq81 ?Xq81 ?Nq81 ?Tq81 ?kq81 ?dq81 ?Cq81 ?oq81 ?lSq81 ?lXq81 ?hSq81 ?hXq81 ?fSq81 ?fXq81 ?hnq81 ?_; (case Bq81 => k_asm); (case Fq81 => k_asm); (case Xq81 => k_asm); (case Nq81 => k_asm); (case Tq81 => k_asm); (case kq81 => first | exact rfl | assumption); (case dq81 => ktr_room); (case Cq81 => assumption); (case oq81 => assumption); (case lSq81 => assumption); (case lXq81 => assumption); (case hSq81 => assumption); (case hXq81 => assumption); (case fSq81 => assumption); (case fXq81 => assumption); (case hnq81 => omega); k_whole; intro hpq81 tkpq81 tpq81 Fpq81 Npq81; (try dsimp only); (try k_sweep))))
  k_with "u82" => (k_here; (with_reducible show wpAny _ _ (call (Value.ref 181) [Value.ref _, Value.ref _]) _ _ _); k_dflt (refine wpAny_call ?_); k_dflt (
      (refine' key_spec ?Bq82 ?Fq82 ?Xq82 ?Nq82 ?Tq82 ?kq82 ?dq82 ?uq82 ?hxq82 ?hdq82 ?a0q82 ?a1q82 ?hTq82 ?hWq82 ?hsq82 ?hlq82 ?hbq82 ?_; (case Bq82 => k_asm); (case Fq82 => k_asm); (case Xq82 => k_asm); (case Nq82 => k_asm); (case Tq82 => k_asm); (case kq82 => first | exact rfl | assumption); (case dq82 => ktr_room); (case uq82 => ktr_units); (case hxq82 => k_mem); (case hdq82 => k_mem); (case a0q82 => exact amt_lo _); (case a1q82 => exact amt_hi _); (case hTq82 => (rename TupAt _ _ _ _ => hT9q82); exact TupAt.up hT9q82 (Fr.keep (by assumption))); (case hWq82 => exact .nil); (case hsq82 => decide); (case hlq82 => decide); (case hbq82 => exact fun _ h => absurd h List.not_mem_nil); k_whole; intro hpq82 tkpq82 tpq82 Fpq82 Npq82 kLpq82; (try dsimp only); (try k_sweep))))
  k_with "u83" => (k_here; (with_reducible show wpAny _ _ (call (Value.builtin "tuple.__new__") [Value.ref _, Value.ref _]) _ _ _); k_dflt (refine' tup_makeN ?Fq83 ?Nq83 ?Xq83 ?mq83 ?cq83 ?tq83 ?zq83 ?_; (case Fq83 => k_asm); (case Nq83 => k_asm); (case Xq83 => k_asm); (case mq83 => exact ws_k _); (case cq83 => k_is); (case tq83 => k_mem); (case zq83 => exact Nat.le_of_ble_eq_true rfl); k_whole; intro xpq83 dpq83 hpq83 Fpq83 Npq83 l1q83 l2q83))
  k_with "u84" => (k_here; (with_reducible show wpAny _ _ (call (Value.ref 443) [Value.int _ _, Value.int _ _]) _ _ _); k_dflt (refine wpAny_call ?_); k_dflt (refine' make_tup ?kFq84 ?kXq84 ?kmq84 ?ktq84 ?krq84 ?keq84 ?kpq84 ?kvq84 ?_; (case kFq84 => k_asm); (case kXq84 => k_asm); (case kmq84 => exact ws_k _); (case ktq84 => k_is); (case krq84 => k_is); (case keq84 => k_is); (case kpq84 => k_is); (case kvq84 => exact rfl); k_whole; (refine' new_spec ?Bq84 ?Fq84 ?Xq84 ?Nq84 ?Tq84 ?kq84 ?dq84 ?_; (case Bq84 => k_asm); (case Fq84 => k_asm); (case Xq84 => k_asm); (case Nq84 => k_asm); (case Tq84 => k_asm); (case kq84 => first | exact rfl | assumption); (case dq84 => ((try simp only [weight_make]); ktr_room)); k_whole; intro hpq84 tkpq84 xpq84 dpq84 odpq84 Fpq84 Npq84; (refine new_back Fpq84 Npq84 (by k_asm) ?_); (try dsimp only); (try k_sweep))))
  k_with "u85" => (k_here; (with_reducible show wpAny _ _ (call (Value.ref 679) _ _) _ _ _); k_dflt (refine wpAny_call ?_); k_dflt (first
      | (refine' hit_next ?fnq85 ?bdq85 ?Bq85 ?Fq85 ?Xq85 ?Nq85 ?Tq85 ?kq85 ?dq85 ?uq85 ?Cq85 ?oq85 ?tTq85 ?lSq85 ?lXq85 ?hSq85 ?hXq85 ?fSq85 ?fXq85 ?o1q85 ?o2q85 ?w1q85 ?w2q85 ?w3q85 ?_; (case fnq85 => k_is); (case bdq85 => walk_at "my bind"); (case Bq85 => k_asm); (case Fq85 => k_asm); (case Xq85 => k_asm); (case Nq85 => first | exact led_hit (by with_reducible assumption) | k_asm); (case Tq85 => k_asm); (case kq85 => first | exact rfl | assumption); (case dq85 => ktr_room); (case uq85 => ktr_units); (case Cq85 => assumption); (case oq85 => first | assumption | exact own_ins (by assumption)); (case tTq85 => first | exact Or.inr ⟨_, .tail _ (.tail _ (.tail _ (.tail _ (.tail _ (.tail _ (.tail _ (.tail _ (.head _)))))))), rfl, _, rfl⟩ | exact Or.inl (tupK (by k_asm) (by k_is))); (case lSq85 => assumption); (case lXq85 => assumption); (case hSq85 => assumption); (case hXq85 => assumption); (case fSq85 => assumption); (case fXq85 => assumption); (case o1q85 => first | assumption | exact ne_ins (by assumption) (by dsimp only; omega)); (case o2q85 => first | assumption | exact ne_ins (by assumption) (by dsimp only; omega)); (case w1q85 => assumption); (case w2q85 => assumption); (case w3q85 => assumption); k_whole; intro hpq85 tkpq85 ospq85 kvspq85 Fpq85 Npq85 hSpq85 fSpq85)
      | (refine' hit_first ?fnq85 ?bdq85 ?Bq85 ?Fq85 ?Xq85 ?Nq85 ?Tq85 ?kq85 ?dq85 ?uq85 ?Cq85 ?oq85 ?tTq85 ?lSq85 ?lXq85 ?hSq85 ?hXq85 ?fSq85 ?fXq85 ?o1q85 ?o2q85 ?w1q85 ?w2q85 ?w3q85 ?hnq85 ?_; (case fnq85 => k_is); (case bdq85 => walk_at "my bind"); (case Bq85 => k_asm); (case Fq85 => k_asm); (case Xq85 => k_asm); (case Nq85 => first | exact led_hit (by with_reducible assumption) | k_asm); (case Tq85 => k_asm); (case kq85 => first | exact rfl | assumption); (case dq85 => ktr_room); (case uq85 => ktr_units); (case Cq85 => assumption); (case oq85 => first | assumption | exact own_ins (by assumption)); (case tTq85 => first | exact Or.inr ⟨_, .tail _ (.tail _ (.tail _ (.tail _ (.tail _ (.tail _ (.tail _ (.tail _ (.head _)))))))), rfl, _, rfl⟩ | exact Or.inl (tupK (by k_asm) (by k_is))); (case lSq85 => assumption); (case lXq85 => assumption); (case hSq85 => assumption); (case hXq85 => assumption); (case fSq85 => assumption); (case fXq85 => assumption); (case o1q85 => first | assumption | exact ne_ins (by assumption) (by dsimp only; omega)); (case o2q85 => first | assumption | exact ne_ins (by assumption) (by dsimp only; omega)); (case w1q85 => assumption); (case w2q85 => assumption); (case w3q85 => assumption); (case hnq85 => assumption); k_whole; intro hpq85 tkpq85 ospq85 oxpq85 kvspq85 kvxpq85 Fpq85 Npq85 hSpq85 hXpq85 fSpq85 fXpq85)); (try replace Npq85 := led_unhit Npq85); (try dsimp only))
  k_with "u86" => (k_here; (with_reducible show wpAny _ _ (call (Value.ref 688) _ _) _ _ _); k_dflt (refine wpAny_call ?_); k_dflt (
      (refine' test_spec ?fnq86 ?bdq86 ?Bq86 ?Fq86 ?Xq86 ?Nq86 ?Tq86 ?kq86 ?dq86 ?uq86 ?Cq86 ?oq86 ?tTq86 ?lSq86 ?lXq86 ?hSq86 ?hXq86 ?fSq86 ?fXq86 ?o1q86 ?o2q86 ?w1q86 ?w2q86 ?w3q86 ?hcsq86 ?_; (case fnq86 => k_is); (case bdq86 => walk_at "my bind"); (case Bq86 => k_asm); (case Fq86 => k_asm); (case Xq86 => k_asm); (case Nq86 => first | exact led_hit (by with_reducible assumption) | k_asm); (case Tq86 => k_asm); (case kq86 => first | exact rfl | assumption); (case dq86 => ktr_room); (case uq86 => ktr_units); (case Cq86 => assumption); (case oq86 => first | assumption | exact own_ins (by assumption)); (case tTq86 => first | exact Or.inr ⟨_, .tail _ (.tail _ (.tail _ (.tail _ (.tail _ (.tail _ (.tail _ (.tail _ (.head _)))))))), rfl, _, rfl⟩ | exact Or.inl (tupK (by k_asm) (by k_is))); (case lSq86 => assumption); (case lXq86 => assumption); (case hSq86 => assumption); (case hXq86 => assumption); (case fSq86 => assumption); (case fXq86 => assumption); (case o1q86 => first | assumption | exact ne_ins (by assumption) (by dsimp only; omega)); (case o2q86 => first | assumption | exact ne_ins (by assumption) (by dsimp only; omega)); (case w1q86 => assumption); (case w2q86 => assumption); (case w3q86 => assumption); (case hcsq86 => omega); k_whole; intro hpq86 tkpq86 Fpq86 Npq86)); (try replace Npq86 := led_unhit Npq86); (try dsimp only))
  k_with "u87" => (k_here; (with_reducible show wpAny _ _ (call (Value.ref 697) _ _) _ _ _); k_dflt (refine wpAny_call ?_); k_dflt (
      (refine' stats_spec ?fnq87 ?bdq87 ?Bq87 ?Fq87 ?Xq87 ?Nq87 ?Tq87 ?kq87 ?dq87 ?uq87 ?Cq87 ?oq87 ?tTq87 ?lSq87 ?lXq87 ?hSq87 ?hXq87 ?fSq87 ?fXq87 ?w1q87 ?w2q87 ?w3q87 ?_; (case fnq87 => k_is); (case bdq87 => walk_at "my bind"); (case Bq87 => k_asm); (case Fq87 => k_asm); (case Xq87 => k_asm); (case Nq87 => first | exact led_hit (by with_reducible assumption) | k_asm); (case Tq87 => k_asm); (case kq87 => first | exact rfl | assumption); (case dq87 => ktr_room); (case uq87 => ktr_units); (case Cq87 => assumption); (case oq87 => first | assumption | exact own_ins (by assumption)); (case tTq87 => first | exact Or.inr ⟨_, .tail _ (.tail _ (.tail _ (.tail _ (.tail _ (.tail _ (.tail _ (.tail _ (.head _)))))))), rfl, _, rfl⟩ | exact Or.inl (tupK (by k_asm) (by k_is))); (case lSq87 => assumption); (case lXq87 => assumption); (case hSq87 => assumption); (case hXq87 => assumption); (case fSq87 => assumption); (case fXq87 => assumption); (case w1q87 => assumption); (case w2q87 => assumption); (case w3q87 => assumption); k_whole; intro hpq87 tkpq87 ypq87 dypq87 odpq87 rvpq87 vvpq87 tpq87 t0pq87 hvvq87 Fpq87 Npq87; subst hvvq87)); (try dsimp only))
  k_with "u88" => (k_here; (with_reducible show wpAny _ _ (getAttr (Value.ref _) (Str.ofString "remaining") _) _ _ _); k_dflt (refine' ws_rem ?Bq88 ?Fq88 ?Xq88 ?Nq88 ?Tq88 ?kq88 ?dq88 ?yq88 ?dyq88 ?_; (case Bq88 => k_asm); (case Fq88 => k_asm); (case Xq88 => k_asm); (case Nq88 => k_asm); (case Tq88 => k_asm); (case kq88 => first | exact rfl | assumption); (case dq88 => ktr_room); (case yq88 => k_mem); (case dyq88 => k_mem); k_whole; intro hpq88 tkpq88 Fpq88 Npq88; (try dsimp only); (try k_sweep)))
  k_with "u89" => (k_here; (with_reducible show wpAny _ _ (call (Value.ref 628) _ _) _ _ _); k_dflt (refine wpAny_call ?_); k_dflt (
      (refine' reset_spec ?Bq89 ?Fq89 ?Xq89 ?Nq89 ?Tq89 ?kq89 ?dq89 ?lSq89 ?lXq89 ?lVq89 ?hSq89 ?hXq89 ?hVq89 ?cSq89 ?cXq89 ?cVq89 ?o1q89 ?o2q89 ?o3q89 ?w1q89 ?w2q89 ?w3q89 ?w4q89 ?_; (case Bq89 => k_asm); (case Fq89 => k_asm); (case Xq89 => k_asm); (case Nq89 => exact led_end (by with_reducible assumption)); (case Tq89 => k_asm); (case kq89 => first | exact rfl | assumption); (case dq89 => ktr_room); (case lSq89 => assumption); (case lXq89 => assumption); (case lVq89 => assumption); (case hSq89 => assumption); (case hXq89 => assumption); (case hVq89 => assumption); (case cSq89 => exact flat_le (by assumption)); (case cXq89 => exact flat_le (by assumption)); (case cVq89 => omega); (case o1q89 => assumption); (case o2q89 => assumption); (case o3q89 => assumption); (case w1q89 => assumption); (case w2q89 => assumption); (case w3q89 => assumption); (case w4q89 => assumption); k_whole; intro hpq89 tkpq89 tpq89 ospq89 oxpq89 ovpq89 Fpq89 Npq89 hSpq89 hXpq89 hVpq89)); (try dsimp only))
  k_with "u90" => (k_here; (with_reducible show wpAny _ _ (subscriptTail _ _ (Value.ref _) (Value.int (Int.fmod _ 6) _)) _ _ _); (generalize kEq90 : Int.fmod _ 6 = kkq90); (rcases six_of kEq90 with k9q90 | k9q90 | k9q90 | k9q90 | k9q90 | k9q90 <;> subst k9q90); k_whole)
  k_with "u91" => (k_here; (with_reducible show wpAny _ _ (subscriptTail _ _ (Value.ref _) (Value.int (Int.fmod _ 4) _)) _ _ _); k_dflt (refine' name_item ?hokq91 ?hlq91 ?hwq91 ?h0q91 ?h1q91 ?h2q91 ?_; (case hlq91 => exact News.isList (by k_asm) (by k_mem)); (case hwq91 => repeat constructor); (case hokq91 => first | with_reducible exact ok_second | with_reducible exact ok_minute | with_reducible exact ok_hour | with_reducible exact ok_day | with_reducible exact ok_month | with_reducible exact ok_year); (case h0q91 => exact mod_lo _ (by decide)); (case h1q91 => exact mod_hi _ (by decide)); (case h2q91 => decide)); intro nmTq91 nmXq91 nmFq91)
  k_with "u92" => (k_here; (with_reducible show wpAny _ _ (subscriptTail _ _ (Value.str _ _) (Value.int (Int.fmod _ 10) _)) _ _ _); k_dflt (refine' blank_item ?h0q92 ?h1q92 ?_; (case h0q92 => exact mod_lo _ (by decide)); (case h1q92 => exact mod_hi _ (by decide))); intro blTq92 blKq92 blCq92 blFq92 blLq92)
  k_with "u93" => (k_here; (with_reducible show wpAny _ _ (call (Value.ref 460) [Value.str _ _]) _ _ _); (rename NameIs _ _ _ _ _ => nmGq93); (rename isBl _ = true => blGq93); k_dflt (refine wpAny_call ?_); k_dflt (
      (refine' parse_spec ?Bq93 ?Fq93 ?Xq93 ?Nq93 ?Tq93 ?kq93 ?dq93 ?uq93 ?h2q93 ?hAq93 ?hGq93 ?Hq93 ?hiq93 ?hcq93 ?_; (case Hq93 => exact text_RL blGq93 (mod_lo _ (by decide)) nmGq93.lets nmGq93.some rfl); (case hiq93 => exact KIN.num_reads (mod_lo _ (by decide)) (Int.lt_trans (mod_hi _ (by decide)) (by decide))); (case hcq93 => exact nmGq93.cls); (case h2q93 => exact text_len (mod_lo _ (by decide)) (mod_hi _ (by decide)) nmGq93.len rfl); (case hAq93 => exact Nat.le_trans (KT.len_num (mod_lo _ (by decide)) (Int.lt_trans (mod_hi _ (by decide)) (by decide))) (by decide)); (case hGq93 => exact Nat.le_trans nmGq93.len (by decide)); (case Bq93 => k_asm); (case Fq93 => k_asm); (case Xq93 => k_asm); (case Nq93 => k_asm); (case Tq93 => k_asm); (case kq93 => first | exact rfl | assumption); (case dq93 => ktr_room); (case uq93 => ktr_units); k_whole; intro xpq93 dpq93 hpq93 tkpq93 k1pq93 k2pq93 k3pq93 t1pq93 t2pq93 Fpq93 Npq93 l1q93 l2q93; (try simp only [AllLt, and_true] at l1q93); (try dsimp only); (try k_sweep))))
  k_with "u94" => (k_here; (with_reducible show wpAny _ _ (call (Value.ref 731) [Value.str _ _]) _ _ _); (rename NameIs _ _ _ _ _ => nmGq94); k_dflt (refine wpAny_call ?_); k_dflt (
      (refine' unknown_spec ?Bq94 ?Fq94 ?Xq94 ?Nq94 ?Tq94 ?kq94 ?dq94 ?uq94 ?h2q94 ?f0q94 ?f1q94 ?f2q94 ?f3q94 ?f4q94 ?f5q94 ?_; (case f0q94 => exact nmGq94.f0); (case f1q94 => exact nmGq94.f1); (case f2q94 => exact nmGq94.f2); (case f3q94 => exact nmGq94.f3); (case f4q94 => exact nmGq94.f4); (case f5q94 => exact nmGq94.f5); (case h2q94 => exact x_len nmGq94.len (by decide)); (case Bq94 => k_asm); (case Fq94 => k_asm); (case Xq94 => k_asm); (case Nq94 => k_asm); (case Tq94 => k_asm); (case kq94 => first | exact rfl | assumption); (case dq94 => ktr_room); (case uq94 => ktr_units); k_whole; intro hpq94 tkpq94 Fpq94 Npq94; (try dsimp only); (try k_sweep))))
  k_with "u95" => (k_here; k_dflt (refine' loop_inv ?hoq95 ?hbq95 ?Bq95 ?Xq95 ?Tq95 ?Fq95 ?Nq95 ?hlq95 ?hiq95 ?_; (case hoq95 => k_is); (case hbq95 => exact rfl); (case Bq95 => k_asm); (case Xq95 => k_asm); (case Tq95 => k_asm); (case Fq95 => k_asm); (case Nq95 => k_asm); (case hlq95 => k_mem); (case hiq95 => first | assumption | repeat constructor); k_whole); intro hpq95 tkpq95 mpq95 Fpq95 Npq95 hmpq95; (try dsimp only))
  trivial
section
local macro_rules | `(tactic| o_head $_) => `(tactic| assumption)
theorem pre (h : PySem.Challenge.rw_jj0017_01.row.Holds) : PySem.Challenge.rw_jj0017_01.row.Holds := by k_head
end
theorem news_tl {h₀ h : Heap} {L : Addr} {a : Addr × Obj} {ex : List (Addr × Obj)} (N : News h₀ L h (a :: ex)) : News h₀ L h ex := fun q hq => N q (.tail _ hq)
local macro_rules | `(tactic| walk_at "my enter") => `(tactic| k_extra "u1")
local macro_rules | `(tactic| walk_at "call type:type") => `(tactic| k_extra "u2")
local macro_rules | `(tactic| walk_at "call builtin:issubclass") => `(tactic| k_extra "u3")
local macro_rules | `(tactic| walk_at "call builtin:tuple.__getitem__") => `(tactic| k_extra "u4")
local macro_rules | `(tactic| walk_at "getMethod type:tuple") => `(tactic| k_extra "u5")
local macro_rules | `(tactic| walk_at "my led") => `(tactic| k_extra "u6")
local macro_rules | `(tactic| walk_at "eval Name") => `(tactic| k_extra "u7")
local macro_rules | `(tactic| walk_at "callWith ref") => `(tactic| k_extra "u8")
local macro_rules | `(tactic| k_enter) => `(tactic| walk_at "my enter")
local macro_rules | `(tactic| walk_at "my try") => `(tactic| k_extra "u9")
section
variable {w : World} {p : Program} {loose : List Str} {mean : ExcName → Option Value} {mg mb : Str → Option Value}
theorem skip_spec {dp un : Nat} {gd : Option (List Code)} {cn : Str} {cs : Scope} {a : Addr} {ccd : Value} {cl : List (Str × Addr)} {outer : List Env} {A₀ : Around} {base h₀ : Heap} {L : Addr} {m : Str → Option Value} {news : List (Addr × Obj)} {s : Shared} {Q E : Value → Shared → Prop}
    {x signs : Str} {i : Int} {t u v : Tok}
    (B : Below A₀ base outer h₀) (F : Fr h₀ L s.heap m) (X : (pre.heap_1 w.params).In h₀) (N : News h₀ L s.heap news) (T : Top p loose mean mg mb h₀) (hk : cs.kind = .function)
    (hdp : dp + 1 < recursionLimit) (hun : un + 8 < cLine)
    (h0 : 0 ≤ i) (h2 : x.length ≤ 1000) (h3 : signs.length ≤ 1000)
    (hret : ∀ (t : Tok) (h' : Heap) (tk' : Nat), Fr h₀ L h' m → News h₀ L h' news → Q (.int (skipF x i signs) t) { s with heap := h', toks := tk' }) :
    wpAny (model Challenge.rw_jj0017_01.row.prog w) (ktrTop dp un gd cn cs L a ccd cl outer) (call (.ref 361) [.str x t, .int i u, .str signs v]) Q E s := by
  refine wpAny_call ?_
  k_dflt cell_enter
  iterate 5 walk1
  rename Fr _ _ _ _ => F0
  rename News _ _ _ _ => N0
  with_unfolding_all refine' ksw_while (σ := Int × Tok) (fun _ => news) (fun c => [(Str.ofString "place", .int c.1 c.2)]) (fun _ => True) [] (fun c => i ≤ c.1 ∧ skipF x c.1 signs = skipF x i signs) (fun c => (x.length - c.1).toNat) (i, u) F0 N0 trivial ?_ ?_ ?_
  · intro p hp; rcases List.mem_singleton.mp hp with rfl; rfl
  · exact ⟨Int.le_refl _, rfl⟩
  · intro c uu h tk _ hP FF NN
    obtain ⟨k, tt⟩ := c
    obtain ⟨p1, p3⟩ := hP
    dsimp only at p1 p3 FF ⊢
    clear F0 N0
    generalize hKP : KswPost (σ := Int × Tok) _ _ _ _ _ _ _ _ _ _ _ _ = KP
    k_fold
    k_steps
    · rename (Builtin.Str.occurrences signs (Txt.lower (Txt.item x k)) 0 signs.length 1).isEmpty = true => hs
      have e : skipF x i signs = k := by rw [← p3]; exact skipF_stop (by omega) (by assumption) hs
      rw [e] at hret
      exact hret _ _ _ (by assumption) (by assumption)
    · rename (Builtin.Str.occurrences signs (Txt.lower (Txt.item x k)) 0 signs.length 1).isEmpty = false => hs
      subst hKP
      refine' ksw_end (k + 1, _) ?e1 ?e2 (fun _ h => h) trivial ?e3 ?e4 ?e5 ?e6
      case e1 => assumption
      case e2 => assumption
      case e3 => intro p hp; rcases List.mem_singleton.mp hp with rfl; rfl
      case e4 =>
        intro z h2 _
        have hz : z ≠ Str.ofString "place" := h2 _ (List.mem_singleton.mpr rfl)
        exact (if_neg hz).trans (if_neg hz)
      case e5 => exact ⟨by dsimp only; omega, by rw [← p3]; exact skipF_step (by omega) (by assumption) hs⟩
      case e6 => dsimp only; omega
    · have e : skipF x i signs = k := by rw [← p3]; exact skipF_end (by assumption)
      rw [e] at hret
      exact hret _ _ _ (by assumption) (by assumption)
theorem skip_use {dp un : Nat} {gd : Option (List Code)} {cn : Str} {cs : Scope} {a : Addr} {ccd : Value} {cl : List (Str × Addr)} {outer : List Env} {A₀ : Around} {base h₀ : Heap} {L : Addr} {m : Str → Option Value} {news : List (Addr × Obj)} {s : Shared} {Q E : Value → Shared → Prop}
    {x signs : Str} {i : Int} {t u v : Tok}
    (B : Below A₀ base outer h₀) (F : Fr h₀ L s.heap m) (X : (pre.heap_1 w.params).In h₀) (N : News h₀ L s.heap news) (T : Top p loose mean mg mb h₀) (hk : cs.kind = .function)
    (hdp : dp + 1 < recursionLimit) (hun : un + 8 < cLine)
    (h0 : 0 ≤ i) (h2 : x.length ≤ 1000) (h3 : signs.length ≤ 1000)
    (hret : ∀ (r : Int) (t : Tok) (h' : Heap) (tk' : Nat), skipF x i signs = r → i ≤ r → r ≤ i + x.length → Fr h₀ L h' m → News h₀ L h' news → Q (.int r t) { s with heap := h', toks := tk' }) :
    wpAny (model Challenge.rw_jj0017_01.row.prog w) (ktrTop dp un gd cn cs L a ccd cl outer) (call (.ref 361) [.str x t, .int i u, .str signs v]) Q E s :=
  skip_spec B F X N T hk hdp hun h0 h2 h3 fun t h' tk' F' N' => hret _ t h' tk' rfl (skipF_ge x signs i) (skipF_le x signs i) F' N'
end
section
variable {w : World} {p : Program} {loose : List Str} {mean : ExcName → Option Value} {mg mb : Str → Option Value}
local macro_rules | `(tactic| walk_at "pad") => `(tactic| fail)
abbrev granObj (dx : Addr) (sec : Int) (t1 : Tok) (nm : Str) (t2 : Tok) : Obj := { cls := .ref 139, dict := some dx, data := .seq #[.int sec t1, .str nm t2] }
theorem dget0 {dp un : Nat} {gd : Option (List Code)} {cn : Str} {cs : Scope} {a : Addr} {ccd : Value} {cl : List (Str × Addr)} {outer : List Env} {A₀ : Around} {base h₀ : Heap} {L : Addr} {m : Str → Option Value} {news : List (Addr × Obj)} {s : Shared} {R : Result → Shared → Prop} {o dx : Addr} {sec : Int} {t1 t2 : Tok} {nm : Str}
    (B : Below A₀ base outer h₀) (F : Fr h₀ L s.heap m) (X : (pre.heap_1 w.params).In h₀) (N : News h₀ L s.heap news) (T : Top p loose mean mg mb h₀) (hk : cs.kind = .function)
    (hdp : dp + 1 < recursionLimit)
    (hlo : (pre.heap_1 w.params).lookup o = some (granObj dx sec t1 nm t2))
    (hret : ∀ (h' : Heap) (tk' : Nat), Fr h₀ L h' m → News h₀ L h' news → R (.ok (.ret (.int sec t1))) { s with heap := h', toks := tk' }) :
    codeAny (model Challenge.rw_jj0017_01.row.prog w) (ktrTop dp un gd cn cs L a ccd cl outer) (.call (.ref 43) ⟨[.ref 131, .ref o, .ref 139], []⟩) R s := by
  k_dflt walk_at "my enter"
  k_steps
  exact hret _ _ (by assumption) (by assumption)
theorem dget1 {dp un : Nat} {gd : Option (List Code)} {cn : Str} {cs : Scope} {a : Addr} {ccd : Value} {cl : List (Str × Addr)} {outer : List Env} {A₀ : Around} {base h₀ : Heap} {L : Addr} {m : Str → Option Value} {news : List (Addr × Obj)} {s : Shared} {R : Result → Shared → Prop} {o dx : Addr} {sec : Int} {t1 t2 : Tok} {nm : Str}
    (B : Below A₀ base outer h₀) (F : Fr h₀ L s.heap m) (X : (pre.heap_1 w.params).In h₀) (N : News h₀ L s.heap news) (T : Top p loose mean mg mb h₀) (hk : cs.kind = .function)
    (hdp : dp + 1 < recursionLimit)
    (hlo : (pre.heap_1 w.params).lookup o = some (granObj dx sec t1 nm t2))
    (hret : ∀ (h' : Heap) (tk' : Nat), Fr h₀ L h' m → News h₀ L h' news → R (.ok (.ret (.str nm t2))) { s with heap := h', toks := tk' }) :
    codeAny (model Challenge.rw_jj0017_01.row.prog w) (ktrTop dp un gd cn cs L a ccd cl outer) (.call (.ref 43) ⟨[.ref 134, .ref o, .ref 139], []⟩) R s := by
  k_dflt walk_at "my enter"
  k_steps
  exact hret _ _ (by assumption) (by assumption)
theorem gran_sec {dp un : Nat} {gd : Option (List Code)} {cn : Str} {cs : Scope} {a : Addr} {ccd : Value} {cl : List (Str × Addr)} {outer : List Env} {A₀ : Around} {base h₀ : Heap} {L : Addr} {m : Str → Option Value} {news : List (Addr × Obj)} {s : Shared} {Q E : Value → Shared → Prop} {expr : Bool} {o dx : Addr} {sec : Int} {t1 t2 : Tok} {nm : Str} {od : Obj}
    (B : Below A₀ base outer h₀) (F : Fr h₀ L s.heap m) (X : (pre.heap_1 w.params).In h₀) (N : News h₀ L s.heap news) (T : Top p loose mean mg mb h₀) (hk : cs.kind = .function)
    (hdp : dp + 1 < recursionLimit)
    (hlo : (pre.heap_1 w.params).lookup o = some (granObj dx sec t1 nm t2)) (hld : (pre.heap_1 w.params).lookup dx = some od)
    (hret : ∀ (h' : Heap) (tk' : Nat), Fr h₀ L h' m → News h₀ L h' news → Q (.int sec t1) { s with heap := h', toks := tk' }) :
    wpAny (model Challenge.rw_jj0017_01.row.prog w) (ktrTop dp un gd cn cs L a ccd cl outer) (getAttr (.ref o) (Str.ofString "seconds") expr) Q E s := by
  refine getd_K (a := .ref 131) (g := 43) F X hlo rfl rfl rfl hld (by k_is) (by k_is) (by k_is) (by k_is) (by k_is) (by k_is) (by k_is) ?_
  refine wpAny_call ?_
  k_dflt refine' dget0 B F X N T hk hdp hlo ?_
  intro h' tk' F' N'
  exact handed_on rfl (hret h' tk' F' N')
theorem gran_name {dp un : Nat} {gd : Option (List Code)} {cn : Str} {cs : Scope} {a : Addr} {ccd : Value} {cl : List (Str × Addr)} {outer : List Env} {A₀ : Around} {base h₀ : Heap} {L : Addr} {m : Str → Option Value} {news : List (Addr × Obj)} {s : Shared} {Q E : Value → Shared → Prop} {expr : Bool} {o dx : Addr} {sec : Int} {t1 t2 : Tok} {nm : Str} {od : Obj}
    (B : Below A₀ base outer h₀) (F : Fr h₀ L s.heap m) (X : (pre.heap_1 w.params).In h₀) (N : News h₀ L s.heap news) (T : Top p loose mean mg mb h₀) (hk : cs.kind = .function)
    (hdp : dp + 1 < recursionLimit)
    (hlo : (pre.heap_1 w.params).lookup o = some (granObj dx sec t1 nm t2)) (hld : (pre.heap_1 w.params).lookup dx = some od)
    (hret : ∀ (h' : Heap) (tk' : Nat), Fr h₀ L h' m → News h₀ L h' news → Q (.str nm t2) { s with heap := h', toks := tk' }) :
    wpAny (model Challenge.rw_jj0017_01.row.prog w) (ktrTop dp un gd cn cs L a ccd cl outer) (getAttr (.ref o) (Str.ofString "name") expr) Q E s := by
  refine getd_K (a := .ref 134) (g := 43) F X hlo rfl rfl rfl hld (by k_is) (by k_is) (by k_is) (by k_is) (by k_is) (by k_is) (by k_is) ?_
  refine wpAny_call ?_
  k_dflt refine' dget1 B F X N T hk hdp hlo ?_
  intro h' tk' F' N'
  exact handed_on rfl (hret h' tk' F' N')
end
local macro_rules | `(tactic| walk_at "getAttr ref") => `(tactic| k_extra "u10")
local macro_rules | `(tactic| walk_at "getAttr ref") => `(tactic| k_extra "u11")
section
variable {w : World} {p : Program} {loose : List Str} {mean : ExcName → Option Value} {mg mb : Str → Option Value}
theorem cgs_year {dp un : Nat} {gd : Option (List Code)} {cn : Str} {cs : Scope} {a : Addr} {ccd : Value} {cl : List (Str × Addr)} {outer : List Env} {A₀ : Around} {base h₀ : Heap} {L : Addr} {m : Str → Option Value} {news : List (Addr × Obj)} {s : Shared} {R : Result → Shared → Prop}
    {x : Str} {t : Tok} {b : Bool}
    (B : Below A₀ base outer h₀) (F : Fr h₀ L s.heap m) (X : (pre.heap_1 w.params).In h₀) (N : News h₀ L s.heap news) (T : Top p loose mean mg mb h₀) (hk : cs.kind = .function)
    (hdp : dp + 2 < recursionLimit)
    (h2 : x.length ≤ 1000) (hb : cgsF (Str.ofString "year") (Str.ofString "years") x = b)
    (hret : ∀ (h' : Heap) (tk' : Nat), Fr h₀ L h' m → News h₀ L h' news → R (.ok (.ret (.bool b))) { s with heap := h', toks := tk' }) :
    codeAny (model Challenge.rw_jj0017_01.row.prog w) (ktrTop dp un gd cn cs L a ccd cl outer) (.call (.ref 164) ⟨[.ref 224, .str x t], []⟩) R s := by
  k_dflt walk_at "my enter"
  k_steps
  rw [cgs_end (show Str.empty ++ Str.ofString "year" ++ Str.ofString "s" = Str.ofString "years" from by decide +kernel), hb]
  exact hret _ _ (by assumption) (by walk_at "my led")
theorem cgs_month {dp un : Nat} {gd : Option (List Code)} {cn : Str} {cs : Scope} {a : Addr} {ccd : Value} {cl : List (Str × Addr)} {outer : List Env} {A₀ : Around} {base h₀ : Heap} {L : Addr} {m : Str → Option Value} {news : List (Addr × Obj)} {s : Shared} {R : Result → Shared → Prop}
    {x : Str} {t : Tok} {b : Bool}
    (B : Below A₀ base outer h₀) (F : Fr h₀ L s.heap m) (X : (pre.heap_1 w.params).In h₀) (N : News h₀ L s.heap news) (T : Top p loose mean mg mb h₀) (hk : cs.kind = .function)
    (hdp : dp + 2 < recursionLimit)
    (h2 : x.length ≤ 1000) (hb : cgsF (Str.ofString "month") (Str.ofString "months") x = b)
    (hret : ∀ (h' : Heap) (tk' : Nat), Fr h₀ L h' m → News h₀ L h' news → R (.ok (.ret (.bool b))) { s with heap := h', toks := tk' }) :
    codeAny (model Challenge.rw_jj0017_01.row.prog w) (ktrTop dp un gd cn cs L a ccd cl outer) (.call (.ref 164) ⟨[.ref 241, .str x t], []⟩) R s := by
  k_dflt walk_at "my enter"
  k_steps
  rw [cgs_end (show Str.empty ++ Str.ofString "month" ++ Str.ofString "s" = Str.ofString "months" from by decide +kernel), hb]
  exact hret _ _ (by assumption) (by walk_at "my led")
theorem cgs_day {dp un : Nat} {gd : Option (List Code)} {cn : Str} {cs : Scope} {a : Addr} {ccd : Value} {cl : List (Str × Addr)} {outer : List Env} {A₀ : Around} {base h₀ : Heap} {L : Addr} {m : Str → Option Value} {news : List (Addr × Obj)} {s : Shared} {R : Result → Shared → Prop}
    {x : Str} {t : Tok} {b : Bool}
    (B : Below A₀ base outer h₀) (F : Fr h₀ L s.heap m) (X : (pre.heap_1 w.params).In h₀) (N : News h₀ L s.heap news) (T : Top p loose mean mg mb h₀) (hk : cs.kind = .function)
    (hdp : dp + 2 < recursionLimit)
    (h2 : x.length ≤ 1000) (hb : cgsF (Str.ofString "day") (Str.ofString "days") x = b)
    (hret : ∀ (h' : Heap) (tk' : Nat), Fr h₀ L h' m → News h₀ L h' news → R (.ok (.ret (.bool b))) { s with heap := h', toks := tk' }) :
    codeAny (model Challenge.rw_jj0017_01.row.prog w) (ktrTop dp un gd cn cs L a ccd cl outer) (.call (.ref 164) ⟨[.ref 258, .str x t], []⟩) R s := by
  k_dflt walk_at "my enter"
  k_steps
  rw [cgs_end (show Str.empty ++ Str.ofString "day" ++ Str.ofString "s" = Str.ofString "days" from by decide +kernel), hb]
  exact hret _ _ (by assumption) (by walk_at "my led")
theorem cgs_hour {dp un : Nat} {gd : Option (List Code)} {cn : Str} {cs : Scope} {a : Addr} {ccd : Value} {cl : List (Str × Addr)} {outer : List Env} {A₀ : Around} {base h₀ : Heap} {L : Addr} {m : Str → Option Value} {news : List (Addr × Obj)} {s : Shared} {R : Result → Shared → Prop}
    {x : Str} {t : Tok} {b : Bool}
    (B : Below A₀ base outer h₀) (F : Fr h₀ L s.heap m) (X : (pre.heap_1 w.params).In h₀) (N : News h₀ L s.heap news) (T : Top p loose mean mg mb h₀) (hk : cs.kind = .function)
    (hdp : dp + 2 < recursionLimit)
    (h2 : x.length ≤ 1000) (hb : cgsF (Str.ofString "hour") (Str.ofString "hours") x = b)
    (hret : ∀ (h' : Heap) (tk' : Nat), Fr h₀ L h' m → News h₀ L h' news → R (.ok (.ret (.bool b))) { s with heap := h', toks := tk' }) :
    codeAny (model Challenge.rw_jj0017_01.row.prog w) (ktrTop dp un gd cn cs L a ccd cl outer) (.call (.ref 164) ⟨[.ref 275, .str x t], []⟩) R s := by
  k_dflt walk_at "my enter"
  k_steps
  rw [cgs_end (show Str.empty ++ Str.ofString "hour" ++ Str.ofString "s" = Str.ofString "hours" from by decide +kernel), hb]
  exact hret _ _ (by assumption) (by walk_at "my led")
theorem cgs_minute {dp un : Nat} {gd : Option (List Code)} {cn : Str} {cs : Scope} {a : Addr} {ccd : Value} {cl : List (Str × Addr)} {outer : List Env} {A₀ : Around} {base h₀ : Heap} {L : Addr} {m : Str → Option Value} {news : List (Addr × Obj)} {s : Shared} {R : Result → Shared → Prop}
    {x : Str} {t : Tok} {b : Bool}
    (B : Below A₀ base outer h₀) (F : Fr h₀ L s.heap m) (X : (pre.heap_1 w.params).In h₀) (N : News h₀ L s.heap news) (T : Top p loose mean mg mb h₀) (hk : cs.kind = .function)
    (hdp : dp + 2 < recursionLimit)
    (h2 : x.length ≤ 1000) (hb : cgsF (Str.ofString "minute") (Str.ofString "minutes") x = b)
    (hret : ∀ (h' : Heap) (tk' : Nat), Fr h₀ L h' m → News h₀ L h' news → R (.ok (.ret (.bool b))) { s with heap := h', toks := tk' }) :
    codeAny (model Challenge.rw_jj0017_01.row.prog w) (ktrTop dp un gd cn cs L a ccd cl outer) (.call (.ref 164) ⟨[.ref 292, .str x t], []⟩) R s := by
  k_dflt walk_at "my enter"
  k_steps
  rw [cgs_end (show Str.empty ++ Str.ofString "minute" ++ Str.ofString "s" = Str.ofString "minutes" from by decide +kernel), hb]
  exact hret _ _ (by assumption) (by walk_at "my led")
theorem cgs_second {dp un : Nat} {gd : Option (List Code)} {cn : Str} {cs : Scope} {a : Addr} {ccd : Value} {cl : List (Str × Addr)} {outer : List Env} {A₀ : Around} {base h₀ : Heap} {L : Addr} {m : Str → Option Value} {news : List (Addr × Obj)} {s : Shared} {R : Result → Shared → Prop}
    {x : Str} {t : Tok} {b : Bool}
    (B : Below A₀ base outer h₀) (F : Fr h₀ L s.heap m) (X : (pre.heap_1 w.params).In h₀) (N : News h₀ L s.heap news) (T : Top p loose mean mg mb h₀) (hk : cs.kind = .function)
    (hdp : dp + 2 < recursionLimit)
    (h2 : x.length ≤ 1000) (hb : cgsF (Str.ofString "second") (Str.ofString "seconds") x = b)
    (hret : ∀ (h' : Heap) (tk' : Nat), Fr h₀ L h' m → News h₀ L h' news → R (.ok (.ret (.bool b))) { s with heap := h', toks := tk' }) :
    codeAny (model Challenge.rw_jj0017_01.row.prog w) (ktrTop dp un gd cn cs L a ccd cl outer) (.call (.ref 164) ⟨[.ref 309, .str x t], []⟩) R s := by
  k_dflt walk_at "my enter"
  k_steps
  rw [cgs_end (show Str.empty ++ Str.ofString "second" ++ Str.ofString "s" = Str.ofString "seconds" from by decide +kernel), hb]
  exact hret _ _ (by assumption) (by walk_at "my led")
end
local macro_rules | `(tactic| walk_at "my cgs") => `(tactic| k_extra "u12")
local macro_rules | `(tactic| walk_at "call ref") => `(tactic| k_extra "u13")
section
variable {w : World} {p : Program} {loose : List Str} {mean : ExcName → Option Value} {mg mb : Str → Option Value}
theorem weight_make (C : Addr) (v : List Value) : (Code.builtin "type.__call__" ⟨.ref C :: v, []⟩).weight = 1 := rfl
def MulOk (mul : Value) (k : Int) : Prop := (mul = .none ∧ k = 1) ∨ ∃ t, mul = .int k t ∧ k ≠ 0
structure ItemCls (K : Frag) (C : Addr) : Prop where
  sa : findIn K (.ref C) "__setattr__" = some (some (.builtin "object.__setattr__"))
  po : plainOver K C = true
  tn : takerIn K C "namespace" = some none
  ta : takerIn K C "amount" = some none
  tm : takerIn K C "multiples" = some none
  hd : hasDictIn K C = true
abbrev itemDict (P : Params) (amt k : Int) (k1 k2 k3 t1 t2 : Tok) : List DictEntry :=
  [{ hash := PyData.keyHash P (Str.ofString "namespace"), key := .str (Str.ofString "namespace") k1, val := .str (Str.ofString "LIMITER") 394 },
   { hash := PyData.keyHash P (Str.ofString "amount"), key := .str (Str.ofString "amount") k2, val := .int amt t1 },
   { hash := PyData.keyHash P (Str.ofString "multiples"), key := .str (Str.ofString "multiples") k3, val := .int k t2 }]
local macro_rules | `(tactic| walk_at "setAttr ref") => `(tactic| k_extra "u14")
theorem init_spec {dp un : Nat} {gd : Option (List Code)} {cn : Str} {cs : Scope} {a : Addr} {ccd : Value} {cl : List (Str × Addr)} {outer : List Env} {A₀ : Around} {base h₀ : Heap} {L : Addr} {m : Str → Option Value} {news : List (Addr × Obj)} {s : Shared} {R : Result → Shared → Prop} {xo d C : Addr} {amt k : Int} {t : Tok} {mul : Value}
    (B : Below A₀ base outer h₀) (F : Fr h₀ L s.heap m) (X : (pre.heap_1 w.params).In h₀) (N : News h₀ L s.heap ((xo, instObj C d) :: (d, dictOf [] 0) :: news)) (T : Top p loose mean mg mb h₀) (hk : cs.kind = .function)
    (hdp : dp + 1 < recursionLimit) (l1 : AllLt d news) (l2 : @LT.lt Nat _ d xo) (hc : ItemCls (pre.heap_1 w.params) C) (hm : MulOk mul k)
    (hret : ∀ (h' : Heap) (tk' : Nat) (k1 k2 k3 t1 t2 : Tok), Fr h₀ L h' m → News h₀ L h' ((xo, instObj C d) :: (d, dictOf (itemDict w.params amt k k1 k2 k3 t1 t2) 3) :: news) → R (.ok (.ret (.none))) { s with heap := h', toks := tk' }) :
    codeAny (model Challenge.rw_jj0017_01.row.prog w) (ktrTop dp un gd cn cs L a ccd cl outer) (.call (.ref 157) ⟨[.ref xo, .int amt t, mul], []⟩) R s := by
  obtain ⟨c1, c2, c3, c4, c5, c6⟩ := hc
  rcases hm with ⟨rfl, rfl⟩ | ⟨t2, rfl, h0⟩
  all_goals (k_dflt walk_at "my enter")
  · k_steps
    exact hret _ _ _ _ _ _ _ (by assumption) (by assumption)
  · k_steps
    · exact hret _ _ _ _ _ _ _ (by assumption) (by assumption)
    · exact absurd (by assumption) h0
end
local macro_rules | `(tactic| walk_at "setAttr ref") => `(tactic| k_extra "u15")
local macro_rules | `(tactic| walk_at "my init") => `(tactic| k_extra "u16")
local macro_rules | `(tactic| walk_at "call ref") => `(tactic| k_extra "u17")
section
variable {w : World} {p : Program} {loose : List Str} {mean : ExcName → Option Value} {mg mb : Str → Option Value}
local macro_rules | `(tactic| walk_at "exec Raise some none") => `(tactic| k_extra "u18")
theorem gfs_spec {dp un : Nat} {gd : Option (List Code)} {cn : Str} {cs : Scope} {a : Addr} {ccd : Value} {cl : List (Str × Addr)} {outer : List Env} {A₀ : Around} {base h₀ : Heap} {L : Addr} {m : Str → Option Value} {news : List (Addr × Obj)} {s : Shared} {R : Result → Shared → Prop} {C : Addr} {amt k : Int} {x : Str} {t u : Tok} {mul : Value}
    (B : Below A₀ base outer h₀) (F : Fr h₀ L s.heap m) (X : (pre.heap_1 w.params).In h₀) (N : News h₀ L s.heap news) (T : Top p loose mean mg mb h₀) (hk : cs.kind = .function)
    (hdp : dp + 3 < recursionLimit) (h2 : x.length ≤ 1000) (hc : clsOf x = some C) (hm : MulOk mul k)
    (hret : ∀ (xo d : Addr) (h' : Heap) (tk' : Nat) (k1 k2 k3 t1 t2 : Tok), Fr h₀ L h' m → News h₀ L h' ((xo, instObj C d) :: (d, dictOf (itemDict w.params amt k k1 k2 k3 t1 t2) 3) :: news) → AllLt d news → @LT.lt Nat _ d xo → R (.ok (.ret (.ref xo))) { s with heap := h', toks := tk' }) :
    codeAny (model Challenge.rw_jj0017_01.row.prog w) (ktrTop dp un gd cn cs L a ccd cl outer) (.call (.ref 467) ⟨[.str x t, .int amt u, mul], []⟩) R s := by
  k_dflt walk_at "my enter"
  k_steps
  · cases (clsOf_0 (x := x) (by assumption)).symm.trans hc
    exact hret _ _ _ _ _ _ _ _ _ (by assumption) (by assumption) (by assumption) (by assumption)
  · cases (clsOf_1 (x := x) (by assumption) (by assumption)).symm.trans hc
    exact hret _ _ _ _ _ _ _ _ _ (by assumption) (by assumption) (by assumption) (by assumption)
  · cases (clsOf_2 (x := x) (by assumption) (by assumption) (by assumption)).symm.trans hc
    exact hret _ _ _ _ _ _ _ _ _ (by assumption) (by assumption) (by assumption) (by assumption)
  · cases (clsOf_3 (x := x) (by assumption) (by assumption) (by assumption) (by assumption)).symm.trans hc
    exact hret _ _ _ _ _ _ _ _ _ (by assumption) (by assumption) (by assumption) (by assumption)
  · cases (clsOf_4 (x := x) (by assumption) (by assumption) (by assumption) (by assumption) (by assumption)).symm.trans hc
    exact hret _ _ _ _ _ _ _ _ _ (by assumption) (by assumption) (by assumption) (by assumption)
  · cases (clsOf_5 (x := x) (by assumption) (by assumption) (by assumption) (by assumption) (by assumption) (by assumption)).symm.trans hc
    exact hret _ _ _ _ _ _ _ _ _ (by assumption) (by assumption) (by assumption) (by assumption)
end
local macro_rules | `(tactic| walk_at "call ref") => `(tactic| k_extra "u19")
section
variable {w : World} {p : Program} {loose : List Str} {mean : ExcName → Option Value} {mg mb : Str → Option Value}
local macro_rules | `(tactic| walk_at "pad") => `(tactic| fail)
theorem skip_at {dp un : Nat} {gd : Option (List Code)} {cn : Str} {cs : Scope} {a : Addr} {ccd : Value} {cl : List (Str × Addr)} {outer : List Env} {A₀ : Around} {base h₀ : Heap} {L : Addr} {m : Str → Option Value} {news : List (Addr × Obj)} {s : Shared} {Q E : Value → Shared → Prop}
    {x signs : Str} {i r : Int} {t u v : Tok}
    (B : Below A₀ base outer h₀) (F : Fr h₀ L s.heap m) (X : (pre.heap_1 w.params).In h₀) (N : News h₀ L s.heap news) (T : Top p loose mean mg mb h₀) (hk : cs.kind = .function)
    (hdp : dp + 1 < recursionLimit) (hun : un + 8 < cLine)
    (h0 : 0 ≤ i) (h2 : x.length ≤ 1000) (h3 : signs.length ≤ 1000) (he : skipF x i signs = r)
    (hret : ∀ (t : Tok) (h' : Heap) (tk' : Nat), 0 ≤ r → Fr h₀ L h' m → News h₀ L h' news → Q (.int r t) { s with heap := h', toks := tk' }) :
    wpAny (model Challenge.rw_jj0017_01.row.prog w) (ktrTop dp un gd cn cs L a ccd cl outer) (call (.ref 361) [.str x t, .int i u, .str signs v]) Q E s :=
  skip_use B F X N T hk hdp hun h0 h2 h3 fun r' t h' tk' e a b F' N' => by
    obtain rfl : r' = r := e.symm.trans he
    exact hret t h' tk' (Int.le_trans h0 a) F' N'
local macro_rules | `(tactic| walk_at "call ref") => `(tactic| k_extra "u20")
local macro_rules | `(tactic| walk_at "ite") => `(tactic| k_extra "u21")
theorem rl_none {dp un : Nat} {gd : Option (List Code)} {cn : Str} {cs : Scope} {a : Addr} {ccd : Value} {cl : List (Str × Addr)} {outer : List Env} {A₀ : Around} {base h₀ : Heap} {L : Addr} {m : Str → Option Value} {news : List (Addr × Obj)} {s : Shared} {R : Result → Shared → Prop} {x : Str} {i a1 : Int} {t u : Tok}
    (B : Below A₀ base outer h₀) (F : Fr h₀ L s.heap m) (X : (pre.heap_1 w.params).In h₀) (N : News h₀ L s.heap news) (T : Top p loose mean mg mb h₀) (hk : cs.kind = .function)
    (hdp : dp + 2 < recursionLimit) (hun : un + 16 < cLine) (h0 : 0 ≤ i) (h2 : x.length ≤ 1000)
    (H1 : skipF x i BL = a1) (H2 : skipF x a1 DG = a1)
    (hret : ∀ (h' : Heap) (tk' : Nat), Fr h₀ L h' m → News h₀ L h' news → R (.ok (.ret .none)) { s with heap := h', toks := tk' }) :
    codeAny (model Challenge.rw_jj0017_01.row.prog w) (ktrTop dp un gd cn cs L a ccd cl outer) (.call (.ref 368) ⟨[.str x t, .int i u], []⟩) R s := by
  have n1 : (a1 == a1) = true := beq_self_eq_true a1
  k_dflt walk_at "my enter"
  k_steps
  exact hret _ _ (by assumption) (by assumption)
theorem rl_some {dp un : Nat} {gd : Option (List Code)} {cn : Str} {cs : Scope} {a : Addr} {ccd : Value} {cl : List (Str × Addr)} {outer : List Env} {A₀ : Around} {base h₀ : Heap} {L : Addr} {m : Str → Option Value} {news : List (Addr × Obj)} {s : Shared} {R : Result → Shared → Prop} {x : Str} {i a1 a2 a3 a4 a5 a6 a7 a8 : Int} {t u : Tok}
    (B : Below A₀ base outer h₀) (F : Fr h₀ L s.heap m) (X : (pre.heap_1 w.params).In h₀) (N : News h₀ L s.heap news) (T : Top p loose mean mg mb h₀) (hk : cs.kind = .function)
    (hdp : dp + 2 < recursionLimit) (hun : un + 16 < cLine) (h0 : 0 ≤ i) (h2 : x.length ≤ 1000)
    (H1 : skipF x i BL = a1) (H2 : skipF x a1 DG = a2) (n2 : ¬ (a2 == a1) = true) (H3 : skipF x a2 BL = a3)
    (S : (Txt.slice x (some a3) (some (a3 + 1)) == Str.ofString "/") = true)
    (H4 : skipF x (a3 + 1) BL = a4) (H5 : skipF x a4 DG = a5) (H6 : skipF x a5 BL = a6) (H7 : skipF x a6 LT = a7) (n7 : ¬ (a7 == a6) = true) (H8 : skipF x a7 BL = a8)
    (hret : ∀ (D : Addr) (h' : Heap) (tk' : Nat) (t1 t2 t3 t4 : Tok), Fr h₀ L h' m → News h₀ L h' ((D, { cls := .type "tuple", data := .seq #[.str (Txt.slice x (some a1) (some a2)) t1, .str (Txt.slice x (some a4) (some a5)) t2, .str (Txt.slice x (some a6) (some a7)) t3, .int a8 t4] }) :: news) → (∀ p ∈ news, p.1 < D) → R (.ok (.ret (.ref D))) { s with heap := h', toks := tk' }) :
    codeAny (model Challenge.rw_jj0017_01.row.prog w) (ktrTop dp un gd cn cs L a ccd cl outer) (.call (.ref 368) ⟨[.str x t, .int i u], []⟩) R s := by
  k_dflt walk_at "my enter"
  k_steps
  exact hret _ _ _ _ _ _ _ (by assumption) (by assumption) (by assumption)
abbrev rowT (A M N : Str) (q : Int) (t1 t2 t3 t4 : Tok) : Obj := { cls := .type "tuple", data := .seq #[.str A t1, .str M t2, .str N t3, .int q t4] }
theorem rl_yes {dp un : Nat} {gd : Option (List Code)} {cn : Str} {cs : Scope} {a : Addr} {ccd : Value} {cl : List (Str × Addr)} {outer : List Env} {A₀ : Around} {base h₀ : Heap} {L : Addr} {m : Str → Option Value} {news : List (Addr × Obj)} {s : Shared} {R : Result → Shared → Prop} {x A M N' : Str} {i q : Int} {t u : Tok}
    (B : Below A₀ base outer h₀) (F : Fr h₀ L s.heap m) (X : (pre.heap_1 w.params).In h₀) (N : News h₀ L s.heap news) (T : Top p loose mean mg mb h₀) (hk : cs.kind = .function)
    (hdp : dp + 2 < recursionLimit) (hun : un + 16 < cLine) (h0 : 0 ≤ i) (h2 : x.length ≤ 1000) (H : RL x i A M N' q)
    (hret : ∀ (D : Addr) (h' : Heap) (tk' : Nat) (t1 t2 t3 t4 : Tok), Fr h₀ L h' m → News h₀ L h' ((D, rowT A M N' q t1 t2 t3 t4) :: news) → (∀ p ∈ news, p.1 < D) → R (.ok (.ret (.ref D))) { s with heap := h', toks := tk' }) :
    codeAny (model Challenge.rw_jj0017_01.row.prog w) (ktrTop dp un gd cn cs L a ccd cl outer) (.call (.ref 368) ⟨[.str x t, .int i u], []⟩) R s := by
  obtain ⟨a1, a2, a3, a4, a5, a6, a7, H1, H2, n2, H3, S, H4, H5, H6, H7, n7, H8, rfl, rfl, rfl⟩ := H
  exact rl_some B F X N T hk hdp hun h0 h2 H1 H2 n2 H3 S H4 H5 H6 H7 n7 H8 hret
theorem rl_no {dp un : Nat} {gd : Option (List Code)} {cn : Str} {cs : Scope} {a : Addr} {ccd : Value} {cl : List (Str × Addr)} {outer : List Env} {A₀ : Around} {base h₀ : Heap} {L : Addr} {m : Str → Option Value} {news : List (Addr × Obj)} {s : Shared} {R : Result → Shared → Prop} {x : Str} {i : Int} {t u : Tok}
    (B : Below A₀ base outer h₀) (F : Fr h₀ L s.heap m) (X : (pre.heap_1 w.params).In h₀) (N : News h₀ L s.heap news) (T : Top p loose mean mg mb h₀) (hk : cs.kind = .function)
    (hdp : dp + 2 < recursionLimit) (hun : un + 16 < cLine) (h0 : 0 ≤ i) (h2 : x.length ≤ 1000) (H : RLno x i)
    (hret : ∀ (h' : Heap) (tk' : Nat), Fr h₀ L h' m → News h₀ L h' news → R (.ok (.ret .none)) { s with heap := h', toks := tk' }) :
    codeAny (model Challenge.rw_jj0017_01.row.prog w) (ktrTop dp un gd cn cs L a ccd cl outer) (.call (.ref 368) ⟨[.str x t, .int i u], []⟩) R s := by
  obtain ⟨a1, H1, H2⟩ := H
  exact rl_none B F X N T hk hdp hun h0 h2 H1 H2 hret
end
local macro_rules | `(tactic| walk_at "call ref") => `(tactic| k_extra "u22")
local macro_rules | `(tactic| walk_at "call ref") => `(tactic| k_extra "u23")
section
variable {w : World} {p : Program} {loose : List Str} {mean : ExcName → Option Value} {mg mb : Str → Option Value}
local macro_rules | `(tactic| walk_at "pad") => `(tactic| fail)
local macro_rules | `(tactic| walk_at "pad") => `(tactic| fail)
local macro_rules | `(tactic| walk_at "exec For Tuple Name cons nil") => `(tactic| k_extra "u24")
local macro_rules | `(tactic| walk_at "pyIter ref") => `(tactic| k_extra "u25")
theorem unr_end {h₀ : Heap} {L : Addr} {s₁ : Shared} {I : Addr} {oI : Obj} {p1 p2 : Addr × Obj} {r : List (Addr × Obj)} {R : (Str → Option Value) → List (Addr × Obj) → Prop} {h' : Heap} {tk : Nat} {m' : Str → Option Value}
    (F : Fr h₀ L h' m') (N : News h₀ L h' (p1 :: p2 :: (I, oI) :: r)) (o1 : p1.1 ≠ I) (o2 : p2.1 ≠ I) (o3 : ∀ p ∈ r, p.1 ≠ I) (rest : R m' (p1 :: p2 :: r)) : UnrEndW h₀ L s₁ [(I, oI)] R { s₁ with heap := h', toks := tk } := by
  refine ⟨h', tk, m', _, rfl, F, ?_, ?_, rest⟩
  · intro p hp
    refine N p ?_
    simp only [List.cons_append, List.nil_append, List.mem_cons] at hp ⊢
    rcases hp with h | h | h | h
    · exact .inr (.inr (.inl h))
    · exact .inl h
    · exact .inr (.inl h)
    · exact .inr (.inr (.inr h))
  · intro p hp q hq
    rw [List.mem_singleton.mp hq]
    simp only [List.mem_cons] at hp
    rcases hp with rfl | rfl | h
    · exact o1
    · exact o2
    · exact o3 p h
local macro_rules | `(tactic| walk_at "UnrEndW") => `(tactic| k_extra "u26")
theorem parse_spec {dp un : Nat} {gd : Option (List Code)} {cn : Str} {cs : Scope} {a : Addr} {ccd : Value} {cl : List (Str × Addr)} {outer : List Env} {A₀ : Around} {base h₀ : Heap} {L : Addr} {m : Str → Option Value} {news : List (Addr × Obj)} {s : Shared} {R : Result → Shared → Prop} {x A G : Str} {C : Addr} {amt : Int} {t : Tok}
    (B : Below A₀ base outer h₀) (F : Fr h₀ L s.heap m) (X : (pre.heap_1 w.params).In h₀) (N : News h₀ L s.heap news) (T : Top p loose mean mg mb h₀) (hk : cs.kind = .function)
    (hdp : dp + 6 < recursionLimit) (hun : un + 40 < cLine) (h2 : x.length ≤ 1000) (hA : A.length ≤ 600) (hG : G.length ≤ 1000) (H : RL x 0 A (Str.ofString "") G x.length) (hi : PySem.intText? A = some amt) (hc : clsOf G = some C)
    (hret : ∀ (xo d : Addr) (h' : Heap) (tk' : Nat) (k1 k2 k3 t1 t2 : Tok), Fr h₀ L h' m → News h₀ L h' ((xo, instObj C d) :: (d, dictOf (itemDict w.params amt 1 k1 k2 k3 t1 t2) 3) :: news) → AllLt d news → @LT.lt Nat _ d xo → R (.ok (.ret (.ref xo))) { s with heap := h', toks := tk' }) :
    codeAny (model Challenge.rw_jj0017_01.row.prog w) (ktrTop dp un gd cn cs L a ccd cl outer) (.call (.ref 460) ⟨[.str x t], []⟩) R s := by
  have e9 : ((x.length : Int) == (x.length : Int)) = true := beq_self_eq_true _
  k_dflt walk_at "my enter"
  k_steps
  exact hret _ _ _ _ _ _ _ _ _ (by assumption) (by walk_at "my led") (by tbn_find) (by assumption)
end
section
variable {w : World} {p : Program} {loose : List Str} {mean : ExcName → Option Value} {mg mb : Str → Option Value}
theorem unknown_spec {dp un : Nat} {gd : Option (List Code)} {cn : Str} {cs : Scope} {a : Addr} {ccd : Value} {cl : List (Str × Addr)} {A₀ : Around} {h₀ : Heap} {L : Addr} {m : Str → Option Value} {news : List (Addr × Obj)} {s : Shared} {R : Result → Shared → Prop} {x : Str} {t : Tok}
    (B : Below A₀ h₀ [] h₀) (F : Fr h₀ L s.heap m) (X : (pre.heap_1 w.params).In h₀) (N : News h₀ L s.heap news) (T : Top p loose mean mg mb h₀) (hk : cs.kind = .function)
    (hdp : dp + 6 < recursionLimit) (hun : un + 40 < cLine) (h2 : x.length ≤ 1000)
    (f0 : cgsF (Str.ofString "year") (Str.ofString "years") x = false) (f1 : cgsF (Str.ofString "month") (Str.ofString "months") x = false) (f2 : cgsF (Str.ofString "day") (Str.ofString "days") x = false)
    (f3 : cgsF (Str.ofString "hour") (Str.ofString "hours") x = false) (f4 : cgsF (Str.ofString "minute") (Str.ofString "minutes") x = false) (f5 : cgsF (Str.ofString "second") (Str.ofString "seconds") x = false)
    (hret : ∀ (h' : Heap) (tk' : Nat), Fr h₀ L h' m → News h₀ L h' news → R (.ok (.ret (.bool true))) { s with heap := h', toks := tk' }) :
    codeAny (model Challenge.rw_jj0017_01.row.prog w) (ktrTop dp un gd cn cs L a ccd cl []) (.call (.ref 731) ⟨[.str x t], []⟩) R s := by
  k_dflt walk_at "my try"
  k_steps
  exact hret _ _ (by assumption) (by assumption)
end
local macro_rules | `(tactic| walk_at "eval Name") => `(tactic| k_extra "u27")
local macro_rules | `(tactic| walk_at "callWith ref") => `(tactic| k_extra "u28")
local macro_rules | `(tactic| walk_at "getMethod ref") => `(tactic| k_extra "u29")
section
variable {w : World} {p : Program} {loose : List Str} {mean : ExcName → Option Value} {mg mb : Str → Option Value}
local macro_rules | `(tactic| walk_at "exec While Compare cons nil") => `(tactic| k_extra "u30")
local macro_rules | `(tactic| walk_at "subscriptTail Name Name str int") => `(tactic| k_extra "u31")
theorem refused_0 {dp un : Nat} {gd : Option (List Code)} {cn : Str} {cs : Scope} {a : Addr} {ccd : Value} {cl : List (Str × Addr)} {A₀ : Around} {h₀ : Heap} {L : Addr} {m : Str → Option Value} {news : List (Addr × Obj)} {s : Shared} {R : Result → Shared → Prop} {t : Tok}
    (B : Below A₀ h₀ [] h₀) (F : Fr h₀ L s.heap m) (X : (pre.heap_1 w.params).In h₀) (N : News h₀ L s.heap news) (T : Top p loose mean mg mb h₀) (hk : cs.kind = .function)
    (hdp : dp + 6 < recursionLimit) (hun : un + 40 < cLine)
    (hret : ∀ (h' : Heap) (tk' : Nat), Fr h₀ L h' m → News h₀ L h' news → R (.ok (.ret (.bool true))) { s with heap := h', toks := tk' }) :
    codeAny (model Challenge.rw_jj0017_01.row.prog w) (ktrTop dp un gd cn cs L a ccd cl []) (.call (.ref 724) ⟨[.str (Str.ofString "1/day::2/day") t], []⟩) R s := by
  have H : RL (Str.ofString "1/day::2/day") 0 (Str.ofString "1") (Str.ofString "") (Str.ofString "day") 5 := ⟨0, 1, 1, 2, 2, 2, 5, by decide +kernel, by decide +kernel, by decide +kernel, by decide +kernel, by decide +kernel, by decide +kernel, by decide +kernel, by decide +kernel, by decide +kernel, by decide +kernel, by decide +kernel, by decide +kernel, by decide +kernel, by decide +kernel⟩
  k_dflt walk_at "my try"
  k_steps
  exact hret _ _ (by assumption) (by walk_at "my led")
theorem refused_1 {dp un : Nat} {gd : Option (List Code)} {cn : Str} {cs : Scope} {a : Addr} {ccd : Value} {cl : List (Str × Addr)} {A₀ : Around} {h₀ : Heap} {L : Addr} {m : Str → Option Value} {news : List (Addr × Obj)} {s : Shared} {R : Result → Shared → Prop} {t : Tok}
    (B : Below A₀ h₀ [] h₀) (F : Fr h₀ L s.heap m) (X : (pre.heap_1 w.params).In h₀) (N : News h₀ L s.heap news) (T : Top p loose mean mg mb h₀) (hk : cs.kind = .function)
    (hdp : dp + 6 < recursionLimit) (hun : un + 40 < cLine)
    (hret : ∀ (h' : Heap) (tk' : Nat), Fr h₀ L h' m → News h₀ L h' news → R (.ok (.ret (.bool true))) { s with heap := h', toks := tk' }) :
    codeAny (model Challenge.rw_jj0017_01.row.prog w) (ktrTop dp un gd cn cs L a ccd cl []) (.call (.ref 724) ⟨[.str (Str.ofString "1/day:") t], []⟩) R s := by
  have H : RL (Str.ofString "1/day:") 0 (Str.ofString "1") (Str.ofString "") (Str.ofString "day") 5 := ⟨0, 1, 1, 2, 2, 2, 5, by decide +kernel, by decide +kernel, by decide +kernel, by decide +kernel, by decide +kernel, by decide +kernel, by decide +kernel, by decide +kernel, by decide +kernel, by decide +kernel, by decide +kernel, by decide +kernel, by decide +kernel, by decide +kernel⟩
  k_dflt walk_at "my try"
  k_steps
  exact hret _ _ (by assumption) (by walk_at "my led")
theorem refused_2 {dp un : Nat} {gd : Option (List Code)} {cn : Str} {cs : Scope} {a : Addr} {ccd : Value} {cl : List (Str × Addr)} {A₀ : Around} {h₀ : Heap} {L : Addr} {m : Str → Option Value} {news : List (Addr × Obj)} {s : Shared} {R : Result → Shared → Prop} {t : Tok}
    (B : Below A₀ h₀ [] h₀) (F : Fr h₀ L s.heap m) (X : (pre.heap_1 w.params).In h₀) (N : News h₀ L s.heap news) (T : Top p loose mean mg mb h₀) (hk : cs.kind = .function)
    (hdp : dp + 6 < recursionLimit) (hun : un + 40 < cLine)
    (hret : ∀ (h' : Heap) (tk' : Nat), Fr h₀ L h' m → News h₀ L h' news → R (.ok (.ret (.bool true))) { s with heap := h', toks := tk' }) :
    codeAny (model Challenge.rw_jj0017_01.row.prog w) (ktrTop dp un gd cn cs L a ccd cl []) (.call (.ref 724) ⟨[.str (Str.ofString "1/day:2/day") t], []⟩) R s := by
  have H : RL (Str.ofString "1/day:2/day") 0 (Str.ofString "1") (Str.ofString "") (Str.ofString "day") 5 := ⟨0, 1, 1, 2, 2, 2, 5, by decide +kernel, by decide +kernel, by decide +kernel, by decide +kernel, by decide +kernel, by decide +kernel, by decide +kernel, by decide +kernel, by decide +kernel, by decide +kernel, by decide +kernel, by decide +kernel, by decide +kernel, by decide +kernel⟩
  k_dflt walk_at "my try"
  k_steps
  exact hret _ _ (by assumption) (by walk_at "my led")
theorem refused_3 {dp un : Nat} {gd : Option (List Code)} {cn : Str} {cs : Scope} {a : Addr} {ccd : Value} {cl : List (Str × Addr)} {A₀ : Around} {h₀ : Heap} {L : Addr} {m : Str → Option Value} {news : List (Addr × Obj)} {s : Shared} {R : Result → Shared → Prop} {t : Tok}
    (B : Below A₀ h₀ [] h₀) (F : Fr h₀ L s.heap m) (X : (pre.heap_1 w.params).In h₀) (N : News h₀ L s.heap news) (T : Top p loose mean mg mb h₀) (hk : cs.kind = .function)
    (hdp : dp + 6 < recursionLimit) (hun : un + 40 < cLine)
    (hret : ∀ (h' : Heap) (tk' : Nat), Fr h₀ L h' m → News h₀ L h' news → R (.ok (.ret (.bool true))) { s with heap := h', toks := tk' }) :
    codeAny (model Challenge.rw_jj0017_01.row.prog w) (ktrTop dp un gd cn cs L a ccd cl []) (.call (.ref 724) ⟨[.str (Str.ofString ":1/day") t], []⟩) R s := by
  have H : RLno (Str.ofString ":1/day") 0 := ⟨0, by decide +kernel, by decide +kernel⟩
  k_dflt walk_at "my try"
  k_steps
  exact hret _ _ (by assumption) (by walk_at "my led")
theorem refused_4 {dp un : Nat} {gd : Option (List Code)} {cn : Str} {cs : Scope} {a : Addr} {ccd : Value} {cl : List (Str × Addr)} {A₀ : Around} {h₀ : Heap} {L : Addr} {m : Str → Option Value} {news : List (Addr × Obj)} {s : Shared} {R : Result → Shared → Prop} {t : Tok}
    (B : Below A₀ h₀ [] h₀) (F : Fr h₀ L s.heap m) (X : (pre.heap_1 w.params).In h₀) (N : News h₀ L s.heap news) (T : Top p loose mean mg mb h₀) (hk : cs.kind = .function)
    (hdp : dp + 6 < recursionLimit) (hun : un + 40 < cLine)
    (hret : ∀ (h' : Heap) (tk' : Nat), Fr h₀ L h' m → News h₀ L h' news → R (.ok (.ret (.bool true))) { s with heap := h', toks := tk' }) :
    codeAny (model Challenge.rw_jj0017_01.row.prog w) (ktrTop dp un gd cn cs L a ccd cl []) (.call (.ref 724) ⟨[.str (Str.ofString "1/day,:2/day") t], []⟩) R s := by
  have H : RL (Str.ofString "1/day,:2/day") 0 (Str.ofString "1") (Str.ofString "") (Str.ofString "day") 5 := ⟨0, 1, 1, 2, 2, 2, 5, by decide +kernel, by decide +kernel, by decide +kernel, by decide +kernel, by decide +kernel, by decide +kernel, by decide +kernel, by decide +kernel, by decide +kernel, by decide +kernel, by decide +kernel, by decide +kernel, by decide +kernel, by decide +kernel⟩
  have H2 : RLno (Str.ofString "1/day,:2/day") (5 + 1) := ⟨6, by decide +kernel, by decide +kernel⟩
  k_dflt walk_at "my try"
  k_steps
  exact hret _ _ (by assumption) (by walk_at "my led")
theorem refused_5 {dp un : Nat} {gd : Option (List Code)} {cn : Str} {cs : Scope} {a : Addr} {ccd : Value} {cl : List (Str × Addr)} {A₀ : Around} {h₀ : Heap} {L : Addr} {m : Str → Option Value} {news : List (Addr × Obj)} {s : Shared} {R : Result → Shared → Prop} {t : Tok}
    (B : Below A₀ h₀ [] h₀) (F : Fr h₀ L s.heap m) (X : (pre.heap_1 w.params).In h₀) (N : News h₀ L s.heap news) (T : Top p loose mean mg mb h₀) (hk : cs.kind = .function)
    (hdp : dp + 6 < recursionLimit) (hun : un + 40 < cLine)
    (hret : ∀ (h' : Heap) (tk' : Nat), Fr h₀ L h' m → News h₀ L h' news → R (.ok (.ret (.bool true))) { s with heap := h', toks := tk' }) :
    codeAny (model Challenge.rw_jj0017_01.row.prog w) (ktrTop dp un gd cn cs L a ccd cl []) (.call (.ref 724) ⟨[.str (Str.ofString "1/days,s") t], []⟩) R s := by
  have H : RL (Str.ofString "1/days,s") 0 (Str.ofString "1") (Str.ofString "") (Str.ofString "days") 6 := ⟨0, 1, 1, 2, 2, 2, 6, by decide +kernel, by decide +kernel, by decide +kernel, by decide +kernel, by decide +kernel, by decide +kernel, by decide +kernel, by decide +kernel, by decide +kernel, by decide +kernel, by decide +kernel, by decide +kernel, by decide +kernel, by decide +kernel⟩
  have H2 : RLno (Str.ofString "1/days,s") (6 + 1) := ⟨7, by decide +kernel, by decide +kernel⟩
  k_dflt walk_at "my try"
  k_steps
  exact hret _ _ (by assumption) (by walk_at "my led")
end
local macro_rules | `(tactic| walk_at "call ref") => `(tactic| k_extra "u32")
local macro_rules | `(tactic| walk_at "call ref") => `(tactic| k_extra "u33")
local macro_rules | `(tactic| walk_at "call ref") => `(tactic| k_extra "u34")
section
variable {w : World} {p : Program} {loose : List Str} {mean : ExcName → Option Value} {mg mb : Str → Option Value}
theorem wrong_item {prog : Program} {w : World} {A : Around} {E : Value → Shared → Prop} {s : Shared} {value slice : PySem.Expr} {l : Addr} {vs : List Value} {ws : List PySem.Str} {i : Int} {u : Tok} {Q : Value → Shared → Prop} (hl : s.heap.IsList l vs.toArray) (hw : StrsAre vs ws) (h0 : 0 ≤ i) (h1 : i < (ws.length : Int)) (h2 : ws.length ≤ 100)
    (h : ∀ (t' : Tok) (x : Str), x ∈ ws → Q (.str x t') s)
    (hs : subscripted slice false (.ref l) (.int i u) = operate [.ref l, .int i u] (getItem (.ref l) (.int i u)) := by with_unfolding_all rfl) :
    wpAny (model prog w) A (subscriptTail value slice (.ref l) (.int i u)) Q E s :=
  KTb.item_list hl hw h0 h1 (by omega) (fun t' hlt => h t' _ (by rw [List.getD_eq_getElem?_getD, List.getElem?_eq_getElem hlt]; exact List.getElem_mem hlt)) hs
abbrev wrongs : List Str := [Str.ofString "1/day::2/day", Str.ofString "1/day:", Str.ofString "1/day:2/day", Str.ofString ":1/day", Str.ofString "1/day,:2/day", Str.ofString "1/days,s"]
theorem refused_any {dp un : Nat} {gd : Option (List Code)} {cn : Str} {cs : Scope} {a : Addr} {ccd : Value} {cl : List (Str × Addr)} {A₀ : Around} {h₀ : Heap} {L : Addr} {m : Str → Option Value} {news : List (Addr × Obj)} {s : Shared} {R : Result → Shared → Prop} {x : Str} {t : Tok} (hx : x ∈ wrongs)
    (B : Below A₀ h₀ [] h₀) (F : Fr h₀ L s.heap m) (X : (pre.heap_1 w.params).In h₀) (N : News h₀ L s.heap news) (T : Top p loose mean mg mb h₀) (hk : cs.kind = .function)
    (hdp : dp + 6 < recursionLimit) (hun : un + 40 < cLine)
    (hret : ∀ (h' : Heap) (tk' : Nat), Fr h₀ L h' m → News h₀ L h' news → R (.ok (.ret (.bool true))) { s with heap := h', toks := tk' }) :
    codeAny (model Challenge.rw_jj0017_01.row.prog w) (ktrTop dp un gd cn cs L a ccd cl []) (.call (.ref 724) ⟨[.str x t], []⟩) R s := by
  simp only [wrongs, List.mem_cons, List.not_mem_nil, or_false] at hx
  rcases hx with rfl | rfl | rfl | rfl | rfl | rfl
  · exact refused_0 B F X N T hk hdp hun hret
  · exact refused_1 B F X N T hk hdp hun hret
  · exact refused_2 B F X N T hk hdp hun hret
  · exact refused_3 B F X N T hk hdp hun hret
  · exact refused_4 B F X N T hk hdp hun hret
  · exact refused_5 B F X N T hk hdp hun hret
theorem pick {K : Frag} {a : Addr} {o o' : Obj} (e : K.lookup a = some o') (P : Prop) (h : o' = o → P) (e2 : K.lookup a = some o) : P := by
  rw [e] at e2
  exact h (Option.some.inj e2)
def tl : List Stmt → List Stmt
  | _ :: r => r
  | [] => []
def one (l r : List Stmt) : List Stmt := match l with
  | a :: _ => a :: r
  | [] => r
local macro_rules | `(tactic| walk_at "subscriptTail") => `(tactic| k_extra "u35")
local macro_rules | `(tactic| walk_at "call ref") => `(tactic| k_extra "u36")
theorem t1_walk {fa L l : Addr} {h₀ : Heap} {s : Shared} {vs : List Value} {ns : List Int} {c : Obj} {u : Str → Option Value} {oc dV kV doc pm ct : Value} {an od : Option Addr} {osl : Array (Option Value)} {nm qual : Str} {params : Arguments} {body rest : List Stmt} {scope : Scope} {R : Flow → Shared → Prop} {E : Value → Shared → Prop}
    (ho : (pre.heap_1 w.params).lookup 736 = some ⟨oc, od, .func (fnOf nm qual params body scope dV kV doc pm an (.ref 735) ct), osl⟩)
    (B : Below callerA h₀ [] h₀) (X : (pre.heap_1 w.params).In h₀) (T : Top p loose mean mg mb h₀)
    (F : Fr h₀ L s.heap (fun y => if y = Str.ofString "script" then some (.ref l) else u y))
    (hc : c.data = .cell none) (N : News h₀ L s.heap [(L + 1, c), (733, tabObj #[])])
    (C : CodeHd h₀ 735 733) (hl : h₀.IsList l vs.toArray) (hi : IntsAre vs ns) (hn : ¬ (63 : Int) < ns.length) (l0 : @LT.lt Nat _ 733 L)
    (hret : ∀ (h' : Heap) (tk' : Nat) (c' : Obj) (x' d' : Addr) (k1 k2 k3 t1 t2 tm : Tok), c'.data = .cell (some (.int (ns.take 63).sum tm)) →
      Fr h₀ L h' (fun y => if y = Str.ofString "plain" then some (.ref x') else if y = Str.ofString "script" then some (.ref l) else u y) →
      News h₀ L h' [(x', instObj 275 d'), (d', dictOf (itemDict w.params (3 + (ns.take 63).sum.fmod 9) 1 k1 k2 k3 t1 t2) 3), (L + 1, c'), (733, tabObj #[])] → @LT.lt Nat _ (L + 1) d' → @LT.lt Nat _ d' x' →
      wpAny (model Challenge.rw_jj0017_01.row.prog w) (callerA.deeper (envOfC qual scope L fa (.ref 735))) (execs rest (envOfC qual scope L fa (.ref 735))) R E { s with heap := h', toks := tk' }) :
    wpAny (model Challenge.rw_jj0017_01.row.prog w) (callerA.deeper (envOfC qual scope L fa (.ref 735))) (execs (one (tl body) (one (tl (tl body)) (one (tl (tl (tl body))) rest))) (envOfC qual scope L fa (.ref 735))) R E s := by
  revert ho
  refine pick (by k_is) _ ?_
  intro e
  cases e
  dsimp only [tl, one]
  k_steps
  exact hret _ _ _ _ _ _ _ _ _ _ _ (by assumption) (by assumption) (by walk_at "my led") (by simp only [List.cons_append, List.nil_append, AllLt] at *; omega) (by omega)
end
section
variable {w : World} {p : Program} {loose : List Str} {mean : ExcName → Option Value} {mg mb : Str → Option Value}
local macro_rules | `(tactic| walk_at "pad") => `(tactic| fail)
local macro_rules | `(tactic| walk_at "pad") => `(tactic| fail)
local macro_rules | `(tactic| walk_at "pad") => `(tactic| fail)
local macro_rules | `(tactic| walk_at "eval ListComp") => `(tactic| k_extra "u37")
local macro_rules | `(tactic| walk_at "CompTup") => `(tactic| k_extra "u38")
local macro_rules | `(tactic| walk_at "binaryOp Add ref ref") => `(tactic| k_extra "u39")
theorem key_texts {ws : List Str} {amt : Int} (hb : ∀ a ∈ ws, a.length ≤ 10) (a0 : 0 ≤ amt) (a1 : amt < 1000) : ∀ y ∈ List.map id ws ++ [Str.ofString (toString amt), Str.ofString (toString (1 : Int)), Str.ofString "hour"], y.length ≤ 10 := by
  intro y hy
  simp only [List.map_id, List.mem_append, List.mem_cons, List.not_mem_nil, or_false] at hy
  rcases hy with h | rfl | rfl | rfl
  · exact hb y h
  · exact Nat.le_trans (KT.len_num a0 (by omega)) (by decide)
  · decide +kernel
  · decide +kernel
local macro_rules | `(tactic| walk_at "call builtin:str.join") => `(tactic| k_extra "u40")
local macro_rules | `(tactic| walk_at "formatField str") => `(tactic| k_extra "u41")
abbrev keyF (ws : List Str) (amt : Int) : Str := Str.empty ++ Str.ofString "LIMITER" ++ Str.ofString "/" ++ Str.join (Str.ofString "/") (List.map id ws ++ [Str.ofString (toString amt), Str.ofString (toString (1 : Int)), Str.ofString "hour"])
theorem key_spec {dp un : Nat} {gd : Option (List Code)} {cn : Str} {cs : Scope} {a : Addr} {ccd : Value} {cl : List (Str × Addr)} {outer : List Env} {A₀ : Around} {base h₀ : Heap} {L : Addr} {m : Str → Option Value} {news : List (Addr × Obj)} {s : Shared} {R : Result → Shared → Prop} {x d td : Addr} {amt : Int} {k1 k2 k3 t1 t2 : Tok} {ts : List Value} {ws : List Str}
    (B : Below A₀ base outer h₀) (F : Fr h₀ L s.heap m) (X : (pre.heap_1 w.params).In h₀) (N : News h₀ L s.heap news) (T : Top p loose mean mg mb h₀) (hk : cs.kind = .function)
    (hdp : dp + 3 < recursionLimit) (hun : un + 16 < cLine)
    (hx : (x, instObj 275 d) ∈ news) (hd : (d, dictOf (itemDict w.params amt 1 k1 k2 k3 t1 t2) 3) ∈ news) (a0 : 0 ≤ amt) (a1 : amt < 1000)
    (hT : TupAt h₀ td ts.toArray news) (hW : StrsAre ts ws) (hsz : ts.toArray.size ≤ sizeLine) (hl : ws.length ≤ 5) (hb : ∀ a ∈ ws, a.length ≤ 10)
    (hret : ∀ (h' : Heap) (tk' : Nat) (t' : Tok), Fr h₀ L h' m → News h₀ L h' news → (keyF ws amt).length ≤ 2000 → R (.ok (.ret (.str (keyF ws amt) t'))) { s with heap := h', toks := tk' }) :
    codeAny (model Challenge.rw_jj0017_01.row.prog w) (ktrTop dp un gd cn cs L a ccd cl outer) (.call (.ref 181) ⟨[.ref x, .ref td], []⟩) R s := by
  replace hT := hT.more (more := (x, instObj 275 d) :: (d, dictOf (itemDict w.params amt 1 k1 k2 k3 t1 t2) 3) :: news) fun q hq => .tail _ (.tail _ hq)
  replace N := news_two N hx hd
  clear hx hd
  k_dflt walk_at "my enter"
  k_steps
  · (rename TupAt _ _ _ _ => hT9)
    refine' tx_end ?F ?N ?sub ?off ?src
    case F => assumption
    case N => assumption
    case sub => kcf_all
    case off => assumption
    case src => exact TupAt.up hT9 (Fr.keep (by assumption))
  · (rename PySem.Str.length _ ≤ 1600 => jL)
    (rename _ = PySem.Str.join _ _ => jE)
    subst jE
    refine hret _ _ _ (by assumption) (by walk_at "my led") ?_
    rw [PySem.Str.length_append, PySem.Str.length_append, PySem.Str.length_append]
    have e1 : Str.empty.length = 0 := by decide
    have e2 : (Str.ofString "LIMITER").length = 7 := by decide +kernel
    have e3 : (Str.ofString "/").length = 1 := by decide +kernel
    rw [e1, e2, e3]
    omega
end
section
variable {w : World} {p : Program} {loose : List Str} {mean : ExcName → Option Value} {mg mb : Str → Option Value}
local macro_rules | `(tactic| walk_at "pad") => `(tactic| fail)
local macro_rules | `(tactic| walk_at "pad") => `(tactic| fail)
local macro_rules | `(tactic| walk_at "pad") => `(tactic| fail)
local macro_rules | `(tactic| walk_at "pad") => `(tactic| fail)
local macro_rules | `(tactic| walk_at "pad") => `(tactic| fail)
local macro_rules | `(tactic| walk_at "pad") => `(tactic| fail)
local macro_rules | `(tactic| walk_at "pad") => `(tactic| fail)
local macro_rules | `(tactic| walk_at "pad") => `(tactic| fail)
local macro_rules | `(tactic| walk_at "pad") => `(tactic| fail)
abbrev wordTab : List Str := [Str.ofString "Al/B", Str.ofString " x ", Str.ofString "A b", Str.ofString "ab", Str.ofString "/", Str.ofString "\t", Str.ofString "a//b", Str.ofString "Z"]
def wordAt (k : Int) : Str := wordTab.getD (k.fmod 8).toNat Str.empty
theorem ints_small {vs : List Value} {ns : List Int} (h : IntsAre vs ns) (hn : ns.length ≤ 100) : vs.toArray.size ≤ sizeLine := by
  have := h.length
  rw [sizeLine_eq, List.size_toArray]
  omega
theorem strs_small {vs : List Value} {ns : List Str} (h : StrsAre vs ns) (hn : ns.length ≤ 100) : vs.toArray.size ≤ sizeLine := by
  have := h.length
  rw [sizeLine_eq, List.size_toArray]
  omega
theorem key_ok {ws : List Str} {amt : Int} {jn : Str} (hj : jn = Str.join (Str.ofString "") (List.map (fun a => Str.ofString "/" ++ a) ws)) :
    (keyF ws amt != Str.ofString "LIMITER" ++ jn ++ Str.ofString "/" ++ Str.ofString (toString amt) ++ Str.ofString "/1/hour") = false := by
  have e := key_law (Str.ofString "/") (Str.ofString "") (by decide +kernel) (Str.ofString (toString amt)) (Str.ofString (toString (1 : Int))) (Str.ofString "hour") ws
  have e2 : Str.ofString "/1/hour" = Str.ofString "/" ++ Str.ofString (toString (1 : Int)) ++ Str.ofString "/" ++ Str.ofString "hour" := by decide +kernel
  have h : keyF ws amt = Str.ofString "LIMITER" ++ jn ++ Str.ofString "/" ++ Str.ofString (toString amt) ++ Str.ofString "/1/hour" := by
    subst hj
    unfold keyF
    rw [e2, List.map_id]
    simp only [Str.append_assoc, Str.empty_append] at e ⊢
    rw [e]
  rw [← h]
  simp
theorem word_len (k : Int) : (wordAt k).length ≤ 4 := by
  have h0 := mod_lo k (b := 8) (by decide)
  have h1 := mod_hi k (b := 8) (by decide)
  have key : ∀ j : Nat, j < 8 → (wordTab.getD j Str.empty).length ≤ 4 := by decide +kernel
  exact key _ (by omega)
theorem words_len (l : List Int) : ∀ a ∈ l.map wordAt, a.length ≤ 10 := by
  intro a ha
  obtain ⟨k, _, rfl⟩ := List.mem_map.mp ha
  exact Nat.le_trans (word_len k) (by decide)
theorem slashed_len (l : List Int) : ∀ a ∈ (l.map wordAt).map (fun a => Str.ofString "/" ++ a), a.length ≤ 10 := by
  intro a ha
  obtain ⟨b, hb, rfl⟩ := List.mem_map.mp ha
  obtain ⟨k, _, rfl⟩ := List.mem_map.mp hb
  have h := word_len k
  have e : (Str.ofString "/").length = 1 := by decide +kernel
  rw [Str.length_append, e]
  omega
local macro_rules | `(tactic| walk_at "CompSrc") => `(tactic| k_extra "u42")
local macro_rules | `(tactic| walk_at "subscriptTail") => `(tactic| k_extra "u43")
local macro_rules | `(tactic| walk_at "CompEnd") => `(tactic| k_extra "u44")
theorem amt_lo (mix : Int) : 0 ≤ 3 + mix.fmod 9 := by
  have := mod_lo mix (b := 9) (by decide)
  omega
theorem amt_hi (mix : Int) : 3 + mix.fmod 9 < 1000 := by
  have := mod_hi mix (b := 9) (by decide)
  omega
local macro_rules | `(tactic| walk_at "call builtin:str.join") => `(tactic| k_extra "u45")
local macro_rules | `(tactic| walk_at "call ref") => `(tactic| k_extra "u46")
theorem t2_walk {fa L l : Addr} {h₀ : Heap} {s : Shared} {vs : List Value} {ns : List Int} {c : Obj} {px pd : Addr} {k1 k2 k3 t1 t2 tm : Tok} {mix : Int} {u : Str → Option Value} {oc dV kV doc pm ct : Value} {an od : Option Addr} {osl : Array (Option Value)} {nm qual : Str} {params : Arguments} {body rest : List Stmt} {scope : Scope} {R : Flow → Shared → Prop} {E : Value → Shared → Prop}
    (ho : (pre.heap_1 w.params).lookup 736 = some ⟨oc, od, .func (fnOf nm qual params body scope dV kV doc pm an (.ref 735) ct), osl⟩)
    (B : Below callerA h₀ [] h₀) (X : (pre.heap_1 w.params).In h₀) (T : Top p loose mean mg mb h₀)
    (F : Fr h₀ L s.heap (fun y => if y = Str.ofString "plain" then some (.ref px) else if y = Str.ofString "script" then some (.ref l) else u y))
    (hc : c.data = .cell (some (.int mix tm))) (N : News h₀ L s.heap [(px, instObj 275 pd), (pd, dictOf (itemDict w.params (3 + mix.fmod 9) 1 k1 k2 k3 t1 t2) 3), (L + 1, c), (733, tabObj #[])])
    (l1 : @LT.lt Nat _ (L + 1) pd) (l2 : @LT.lt Nat _ pd px)
    (hl : h₀.IsList l vs.toArray) (hi : IntsAre vs ns) (hn : ¬ (63 : Int) < ns.length) (l0 : @LT.lt Nat _ 733 L)
    (hret : ∀ (h' : Heap) (tk' : Nat) (m' : Str → Option Value), Fr h₀ L h' m' → m' (Str.ofString "plain") = some (.ref px) →
      News h₀ L h' [(px, instObj 275 pd), (pd, dictOf (itemDict w.params (3 + mix.fmod 9) 1 k1 k2 k3 t1 t2) 3), (L + 1, c), (733, tabObj #[])] →
      wpAny (model Challenge.rw_jj0017_01.row.prog w) (callerA.deeper (envOfC qual scope L fa (.ref 735))) (execs rest (envOfC qual scope L fa (.ref 735))) R E { s with heap := h', toks := tk' }) :
    wpAny (model Challenge.rw_jj0017_01.row.prog w) (callerA.deeper (envOfC qual scope L fa (.ref 735))) (execs (one (tl (tl (tl (tl body)))) (one (tl (tl (tl (tl (tl body))))) (one (tl (tl (tl (tl (tl (tl body)))))) rest))) (envOfC qual scope L fa (.ref 735))) R E s := by
  revert ho
  refine pick (by k_is) _ ?_
  intro e
  cases e
  dsimp only [tl, one]
  k_steps
  · exfalso
    (rename _ = Str.join _ _ => jE)
    (rename ((_ != _) = true) => q9)
    rw [key_ok jE] at q9
    cases q9
  · refine hret _ _ _ (by assumption) ?_ (by walk_at "my led")
    rfl
end
section
variable {w : World} {p : Program} {loose : List Str} {mean : ExcName → Option Value} {mg mb : Str → Option Value}
def ClockIs (w : World) (own : List (Addr × Obj)) (f : Addr) (now : Int) : Prop :=
  ∀ (p : Program) (loose : List Str) (mean : ExcName → Option Value) (mg mb : Str → Option Value) (dp un : Nat) (gd : Option (List Code)) (cn : Str) (cs : Scope) (a : Addr) (ccd : Value) (cl : List (Str × Addr)) (outer : List Env) (A₀ : Around) (base h₀ : Heap) (L : Addr) (m : Str → Option Value) (news : List (Addr × Obj)) (s : Shared) (R : Result → Shared → Prop),
    Below A₀ base outer h₀ → Fr h₀ L s.heap m → (pre.heap_1 w.params).In h₀ → News h₀ L s.heap news → Top p loose mean mg mb h₀ → cs.kind = .function → dp + 1 < recursionLimit → (∀ q ∈ own, q ∈ news) →
    (∀ (h' : Heap) (tk' : Nat) (t : Tok), Fr h₀ L h' m → News h₀ L h' news → R (.ok (.ret (.int now t))) { s with heap := h', toks := tk' }) →
    codeAny (model Challenge.rw_jj0017_01.row.prog w) (ktrTop dp un gd cn cs L a ccd cl outer) (.call (.ref f) ⟨[], []⟩) R s
theorem ClockIs.use {own : List (Addr × Obj)} {f : Addr} {now : Int} (h : ClockIs w own f now) {dp un : Nat} {gd : Option (List Code)} {cn : Str} {cs : Scope} {a : Addr} {ccd : Value} {cl : List (Str × Addr)} {outer : List Env} {A₀ : Around} {base h₀ : Heap} {L : Addr} {m : Str → Option Value} {news : List (Addr × Obj)} {s : Shared} {R : Result → Shared → Prop}
    (B : Below A₀ base outer h₀) (F : Fr h₀ L s.heap m) (X : (pre.heap_1 w.params).In h₀) (N : News h₀ L s.heap news) (T : Top p loose mean mg mb h₀) (hk : cs.kind = .function)
    (hdp : dp + 1 < recursionLimit) (ho : ∀ q ∈ own, q ∈ news)
    (hret : ∀ (h' : Heap) (tk' : Nat) (t : Tok), Fr h₀ L h' m → News h₀ L h' news → R (.ok (.ret (.int now t))) { s with heap := h', toks := tk' }) :
    codeAny (model Challenge.rw_jj0017_01.row.prog w) (ktrTop dp un gd cn cs L a ccd cl outer) (.call (.ref f) ⟨[], []⟩) R s := h _ _ _ _ _ _ _ _ _ _ _ _ _ _ _ _ _ _ _ _ _ _ B F X N T hk hdp ho hret
abbrev storeDict (P : Params) (f sd xd vd : Addr) (q1 q2 q3 q4 : Tok) : List DictEntry :=
  [{ hash := PyData.keyHash P (Str.ofString "clock"), key := .str (Str.ofString "clock") q1, val := .ref f },
   { hash := PyData.keyHash P (Str.ofString "storage"), key := .str (Str.ofString "storage") q2, val := .ref sd },
   { hash := PyData.keyHash P (Str.ofString "expirations"), key := .str (Str.ofString "expirations") q3, val := .ref xd },
   { hash := PyData.keyHash P (Str.ofString "events"), key := .str (Str.ofString "events") q4, val := .ref vd }]
structure Clock (w : World) (own : List (Addr × Obj)) (f : Addr) (now : Int) : Prop where
  is : ClockIs w own f now
  fn : ∃ oc od fd sl, (f, (⟨oc, od, .func fd, sl⟩ : Obj)) ∈ own
theorem Clock.at {own : List (Addr × Obj)} {f : Addr} {now : Int} (h : Clock w own f now) {h₀ g : Heap} {L : Addr} {news : List (Addr × Obj)} (N : News h₀ L g news) (ho : ∀ q ∈ own, q ∈ news) : FnAt f g := by
  obtain ⟨oc, od, fd, sl, hm⟩ := h.fn
  exact FnAt.of N (ho _ hm)
theorem own_more {own ex news : List (Addr × Obj)} (h : ∀ q ∈ own, q ∈ ex) (k : ∀ q ∈ ex, q ∈ news) : ∀ q ∈ own, q ∈ news := fun q hq => k q (h q hq)
local macro_rules | `(tactic| walk_at "call ref") => `(tactic| k_extra "u47")
local macro_rules | `(tactic| walk_at "getMethod ref") => `(tactic| k_extra "u48")
local macro_rules | `(tactic| walk_at "getMethod ref") => `(tactic| k_extra "u49")
local macro_rules | `(tactic| walk_at "callWith ref") => `(tactic| k_extra "u50")
local macro_rules | `(tactic| walk_at "getMethod ref") => `(tactic| k_extra "u51")
local macro_rules | `(tactic| walk_at "call builtin:dict.pop") => `(tactic| k_extra "u52")
theorem get_spec {dp un : Nat} {gd : Option (List Code)} {cn : Str} {cs : Scope} {a : Addr} {ccd : Value} {cl : List (Str × Addr)} {outer : List Env} {A₀ : Around} {base h₀ : Heap} {L : Addr} {m : Str → Option Value} {s : Shared} {R : Result → Shared → Prop} {x d sd xd vd f : Addr} {q1 q2 q3 q4 t : Tok} {os ox : Obj} {own ex : List (Addr × Obj)} {now : Int} {key : Str} {kvs kvx : List (Str × Value)} {c e : List (Str × Int)}
    (B : Below A₀ base outer h₀) (F : Fr h₀ L s.heap m) (X : (pre.heap_1 w.params).In h₀) (N : News h₀ L s.heap ((sd, os) :: (xd, ox) :: (x, instObj 631 d) :: (d, dictOf (storeDict w.params f sd xd vd q1 q2 q3 q4) 4) :: ex)) (T : Top p loose mean mg mb h₀) (hk : cs.kind = .function)
    (hdp : dp + 3 < recursionLimit) (hC : Clock w own f now) (ho : ∀ q ∈ own, q ∈ ex)
    (lS : (sd == sysModules) = false) (lX : (xd == sysModules) = false) (hS : Obj.IsDictOf (strKind Challenge.rw_jj0017_01.row.prog w) os kvs) (hX : Obj.IsDictOf (strKind Challenge.rw_jj0017_01.row.prog w) ox kvx)
    (fS : PyProof.V.FlatPairs PyData.str kvs (kdpD c)) (fX : PyProof.V.FlatPairs PyData.str kvx (kdpD e))
    (hl : ¬ kdpLook e key 0 ≤ now ∨ (kdpLook e key 0 ≤ now ∧ PySem.Spec.lookup (PyData.str key) (kdpD c) = none ∧ PySem.Spec.lookup (PyData.str key) (kdpD e) = none))
    (hret : ∀ (h' : Heap) (tk' : Nat) (t' : Tok), Fr h₀ L h' m → News h₀ L h' ((sd, os) :: (xd, ox) :: (x, instObj 631 d) :: (d, dictOf (storeDict w.params f sd xd vd q1 q2 q3 q4) 4) :: ex) → R (.ok (.ret (.int (kdpLook c key 0) t'))) { s with heap := h', toks := tk' }) :
    codeAny (model Challenge.rw_jj0017_01.row.prog w) (ktrTop dp un gd cn cs L a ccd cl outer) (.call (.ref 556) ⟨[.ref x, .str key t], []⟩) R s := by
  have hp : kdpLook e key 0 ≤ now → PySem.Spec.lookup (PyData.str key) (kdpD c) = none ∧ PySem.Spec.lookup (PyData.str key) (kdpD e) = none := fun q => by
    rcases hl with h | h
    · exact absurd q h
    · exact h.2
  clear hl
  k_dflt walk_at "my enter"
  k_steps
  all_goals exact hret _ _ _ (by assumption) (by assumption)
end
local macro_rules | `(tactic| walk_at "call ref") => `(tactic| k_extra "u53")
local macro_rules | `(tactic| walk_at "getMethod ref") => `(tactic| k_extra "u54")
local macro_rules | `(tactic| walk_at "getMethod ref") => `(tactic| k_extra "u55")
local macro_rules | `(tactic| walk_at "callWith ref") => `(tactic| k_extra "u56")
local macro_rules | `(tactic| walk_at "getMethod ref") => `(tactic| k_extra "u57")
local macro_rules | `(tactic| walk_at "call ref") => `(tactic| k_extra "u58")
local macro_rules | `(tactic| walk_at "my enter2") => `(tactic| k_extra "u59")
section
variable {w : World} {p : Program} {loose : List Str} {mean : ExcName → Option Value} {mg mb : Str → Option Value}
local macro_rules | `(tactic| k_all) => `(tactic| assumption)
theorem incr_spec {dp un : Nat} {gd : Option (List Code)} {cn : Str} {cs : Scope} {a : Addr} {ccd : Value} {cl : List (Str × Addr)} {outer : List Env} {A₀ : Around} {base h₀ : Heap} {L : Addr} {m : Str → Option Value} {s : Shared} {R : Result → Shared → Prop} {x d sd xd vd f : Addr} {q1 q2 q3 q4 t ut vt : Tok} {os ox : Obj} {own ex : List (Addr × Obj)} {now xp amt : Int} {key : Str} {kvs kvx : List (Str × Value)} {c e : List (Str × Int)}
    {oc dV kV doc pm cdv ct : Value} {an od : Option Addr} {osl : Array (Option Value)} {nm qual : Str} {params : Arguments} {body : List Stmt} {scope : Scope} {args : Args}
    (hfn : (pre.heap_1 w.params).lookup 541 = some ⟨oc, od, .func (fnOf nm qual params body scope dV kV doc pm an cdv ct), osl⟩)
    (hbind : BindsTo s (fnOf nm qual params body scope dV kV doc pm an cdv ct) args [(Str.ofString "self", .ref x), (Str.ofString "key", .str key t), (Str.ofString "expiry", .int xp ut), (Str.ofString "amount", .int amt vt)])
    (B : Below A₀ base outer h₀) (F : Fr h₀ L s.heap m) (X : (pre.heap_1 w.params).In h₀) (N : News h₀ L s.heap ((sd, os) :: (xd, ox) :: (x, instObj 631 d) :: (d, dictOf (storeDict w.params f sd xd vd q1 q2 q3 q4) 4) :: ex)) (T : Top p loose mean mg mb h₀) (hk : cs.kind = .function)
    (hdp : dp + 4 < recursionLimit) (hC : Clock w own f now) (ho : ∀ q ∈ own, q ∈ ex)
    (lS : (sd == sysModules) = false) (lX : (xd == sysModules) = false) (hS : Obj.IsDictOf (strKind Challenge.rw_jj0017_01.row.prog w) os kvs) (hX : Obj.IsDictOf (strKind Challenge.rw_jj0017_01.row.prog w) ox kvx)
    (fS : PyProof.V.FlatPairs PyData.str kvs (kdpD c)) (fX : PyProof.V.FlatPairs PyData.str kvx (kdpD e)) (cS : c.length ≤ 100) (cX : e.length ≤ 100)
    (o1 : ∀ q ∈ ex, q.1 ≠ sd) (o2 : ∀ q ∈ ex, q.1 ≠ xd) (w1 : @LT.lt Nat _ d x) (w2 : @LT.lt Nat _ x sd) (w3 : @LT.lt Nat _ sd xd)
    (hl : ¬ kdpLook e key 0 ≤ now ∨ (kdpLook e key 0 ≤ now ∧ PySem.Spec.lookup (PyData.str key) (kdpD c) = none ∧ PySem.Spec.lookup (PyData.str key) (kdpD e) = none))
    (hret1 : kdpLook c key 0 + amt = amt → ∀ (h' : Heap) (tk' : Nat) (t' : Tok) (os' ox' : Obj) (kvs' kvx' : List (Str × Value)), Fr h₀ L h' m → News h₀ L h' ((sd, os') :: (xd, ox') :: (x, instObj 631 d) :: (d, dictOf (storeDict w.params f sd xd vd q1 q2 q3 q4) 4) :: ex) →
      Obj.IsDictOf (strKind Challenge.rw_jj0017_01.row.prog w) os' kvs' → Obj.IsDictOf (strKind Challenge.rw_jj0017_01.row.prog w) ox' kvx' → PyProof.V.FlatPairs PyData.str kvs' (kdpD (kdpPut c key (kdpLook c key 0 + amt))) → PyProof.V.FlatPairs PyData.str kvx' (kdpD (kdpPut e key (now + xp))) →
      R (.ok (.ret (.int (kdpLook c key 0 + amt) t'))) { s with heap := h', toks := tk' })
    (hret2 : ¬ kdpLook c key 0 + amt = amt → ∀ (h' : Heap) (tk' : Nat) (t' : Tok) (os' : Obj) (kvs' : List (Str × Value)), Fr h₀ L h' m → News h₀ L h' ((sd, os') :: (xd, ox) :: (x, instObj 631 d) :: (d, dictOf (storeDict w.params f sd xd vd q1 q2 q3 q4) 4) :: ex) →
      Obj.IsDictOf (strKind Challenge.rw_jj0017_01.row.prog w) os' kvs' → PyProof.V.FlatPairs PyData.str kvs' (kdpD (kdpPut c key (kdpLook c key 0 + amt))) →
      R (.ok (.ret (.int (kdpLook c key 0 + amt) t'))) { s with heap := h', toks := tk' }) :
    codeAny (model Challenge.rw_jj0017_01.row.prog w) (ktrTop dp un gd cn cs L a ccd cl outer) (.call (.ref 541) args) R s := by
  revert hfn hbind
  refine pick (by k_is) _ ?_
  intro e9
  cases e9
  intro hbind
  k_dflt walk_at "my enter2"
  k_steps
  · (rename (kdpLook (kdpPut _ _ _) _ 0 = _) => r9)
    rw [look_put] at r9 ⊢
    exact hret1 r9 _ _ _ _ _ _ _ (by assumption) (by walk_at "my led") (by assumption) (by assumption) (by assumption) (by assumption)
  · (rename (¬ kdpLook (kdpPut _ _ _) _ 0 = _) => r9)
    rw [look_put] at r9 ⊢
    exact hret2 r9 _ _ _ _ _ (by assumption) (by walk_at "my led") (by assumption) (by assumption)
theorem decr_spec {dp un : Nat} {gd : Option (List Code)} {cn : Str} {cs : Scope} {a : Addr} {ccd : Value} {cl : List (Str × Addr)} {outer : List Env} {A₀ : Around} {base h₀ : Heap} {L : Addr} {m : Str → Option Value} {s : Shared} {R : Result → Shared → Prop} {x d sd xd vd f : Addr} {q1 q2 q3 q4 t vt : Tok} {os ox : Obj} {own ex : List (Addr × Obj)} {now amt : Int} {key : Str} {kvs kvx : List (Str × Value)} {c e : List (Str × Int)}
    {oc dV kV doc pm cdv ct : Value} {an od : Option Addr} {osl : Array (Option Value)} {nm qual : Str} {params : Arguments} {body : List Stmt} {scope : Scope} {args : Args}
    (hfn : (pre.heap_1 w.params).lookup 549 = some ⟨oc, od, .func (fnOf nm qual params body scope dV kV doc pm an cdv ct), osl⟩)
    (hbind : BindsTo s (fnOf nm qual params body scope dV kV doc pm an cdv ct) args [(Str.ofString "self", .ref x), (Str.ofString "key", .str key t), (Str.ofString "amount", .int amt vt)])
    (B : Below A₀ base outer h₀) (F : Fr h₀ L s.heap m) (X : (pre.heap_1 w.params).In h₀) (N : News h₀ L s.heap ((sd, os) :: (xd, ox) :: (x, instObj 631 d) :: (d, dictOf (storeDict w.params f sd xd vd q1 q2 q3 q4) 4) :: ex)) (T : Top p loose mean mg mb h₀) (hk : cs.kind = .function)
    (hdp : dp + 4 < recursionLimit) (hC : Clock w own f now) (ho : ∀ q ∈ own, q ∈ ex)
    (lS : (sd == sysModules) = false) (lX : (xd == sysModules) = false) (hS : Obj.IsDictOf (strKind Challenge.rw_jj0017_01.row.prog w) os kvs) (hX : Obj.IsDictOf (strKind Challenge.rw_jj0017_01.row.prog w) ox kvx)
    (fS : PyProof.V.FlatPairs PyData.str kvs (kdpD c)) (fX : PyProof.V.FlatPairs PyData.str kvx (kdpD e)) (cS : c.length ≤ 100) (cX : e.length ≤ 100)
    (o1 : ∀ q ∈ ex, q.1 ≠ sd) (w1 : @LT.lt Nat _ d x) (w2 : @LT.lt Nat _ x sd) (w3 : @LT.lt Nat _ sd xd)
    (hl : ¬ kdpLook e key 0 ≤ now ∨ (kdpLook e key 0 ≤ now ∧ PySem.Spec.lookup (PyData.str key) (kdpD c) = none ∧ PySem.Spec.lookup (PyData.str key) (kdpD e) = none))
    (hpos : amt ≤ kdpLook c key 0)
    (hret : ∀ (h' : Heap) (tk' : Nat) (t' : Tok) (os' : Obj) (kvs' : List (Str × Value)), Fr h₀ L h' m → News h₀ L h' ((sd, os') :: (xd, ox) :: (x, instObj 631 d) :: (d, dictOf (storeDict w.params f sd xd vd q1 q2 q3 q4) 4) :: ex) →
      Obj.IsDictOf (strKind Challenge.rw_jj0017_01.row.prog w) os' kvs' → PyProof.V.FlatPairs PyData.str kvs' (kdpD (kdpPut c key (kdpLook c key 0 - amt))) →
      R (.ok (.ret (.int (kdpLook c key 0 - amt) t'))) { s with heap := h', toks := tk' }) :
    codeAny (model Challenge.rw_jj0017_01.row.prog w) (ktrTop dp un gd cn cs L a ccd cl outer) (.call (.ref 549) args) R s := by
  revert hfn hbind
  refine pick (by k_is) _ ?_
  intro e9
  cases e9
  intro hbind
  k_dflt walk_at "my enter2"
  k_steps
  have e8 : ¬ (0 > kdpLook c key 0 - amt) := by omega
  (rename PyProof.V.FlatPairs _ _ (kdpD (kdpPut _ _ _)) => r9)
  rw [if_neg e8] at r9 ⊢
  rw [look_put]
  exact hret _ _ _ _ _ (by assumption) (by walk_at "my led") (by assumption) r9
end
section
variable {w : World} {p : Program} {loose : List Str} {mean : ExcName → Option Value} {mg mb : Str → Option Value}
local macro_rules | `(tactic| walk_at "pad") => `(tactic| fail)
local macro_rules | `(tactic| k_all) => `(tactic| assumption)
local macro_rules | `(tactic| walk_at "my try2") => `(tactic| k_extra "u60")
theorem acq_no {dp un : Nat} {gd : Option (List Code)} {cn : Str} {cs : Scope} {a : Addr} {ccd : Value} {cl : List (Str × Addr)} {A₀ : Around} {h₀ : Heap} {L : Addr} {m : Str → Option Value} {news : List (Addr × Obj)} {s : Shared} {R : Result → Shared → Prop} {x : Addr} {t lt ut vt : Tok} {lim xp amt : Int} {key : Str}
    {oc dV kV doc pm cdv ct : Value} {an od : Option Addr} {osl : Array (Option Value)} {nm qual : Str} {params : Arguments} {body : List Stmt} {scope : Scope} {args : Args}
    (hfn : (pre.heap_1 w.params).lookup 571 = some ⟨oc, od, .func (fnOf nm qual params body scope dV kV doc pm an cdv ct), osl⟩)
    (hbind : BindsTo s (fnOf nm qual params body scope dV kV doc pm an cdv ct) args [(Str.ofString "self", .ref x), (Str.ofString "key", .str key t), (Str.ofString "limit", .int lim lt), (Str.ofString "expiry", .int xp ut), (Str.ofString "amount", .int amt vt)])
    (B : Below A₀ h₀ [] h₀) (F : Fr h₀ L s.heap m) (X : (pre.heap_1 w.params).In h₀) (N : News h₀ L s.heap news) (T : Top p loose mean mg mb h₀) (hk : cs.kind = .function)
    (hdp : dp + 4 < recursionLimit) (hgt : lim < amt)
    (hret : ∀ (h' : Heap) (tk' : Nat), Fr h₀ L h' m → News h₀ L h' news → R (.ok (.ret (.bool false))) { s with heap := h', toks := tk' }) :
    codeAny (model Challenge.rw_jj0017_01.row.prog w) (ktrTop dp un gd cn cs L a ccd cl []) (.call (.ref 571) args) R s := by
  revert hfn hbind
  refine pick (by k_is) _ ?_
  intro e9
  cases e9
  intro hbind
  k_dflt walk_at "my try2"
  k_steps
  exact hret _ _ (by assumption) (by assumption)
local macro_rules | `(tactic| walk_at "call builtin:dict.setdefault") => `(tactic| k_extra "u61")
local macro_rules | `(tactic| walk_at "subscriptTail") => `(tactic| k_extra "u62")
local macro_rules | `(tactic| walk_at "getItem ref str") => `(tactic| k_extra "u63")
local macro_rules | `(tactic| walk_at "noteFrame ref") => `(tactic| k_extra "u64")
local macro_rules | `(tactic| walk_at "binaryOp Mult ref int") => `(tactic| k_extra "u65")
local macro_rules | `(tactic| walk_at "setItem ref str") => `(tactic| k_extra "u66")
theorem acq_yes {dp un : Nat} {gd : Option (List Code)} {cn : Str} {cs : Scope} {a : Addr} {ccd : Value} {cl : List (Str × Addr)} {A₀ : Around} {h₀ : Heap} {L : Addr} {m : Str → Option Value} {s : Shared} {R : Result → Shared → Prop} {x d sd xd vd f : Addr} {q1 q2 q3 q4 t lt ut vt : Tok} {ov : Obj} {own ex : List (Addr × Obj)} {now xp : Int} {key : Str} {kvv : List (Str × Value)}
    {oc dV kV doc pm cdv ct : Value} {an od : Option Addr} {osl : Array (Option Value)} {nm qual : Str} {params : Arguments} {body : List Stmt} {scope : Scope} {args : Args}
    (hfn : (pre.heap_1 w.params).lookup 571 = some ⟨oc, od, .func (fnOf nm qual params body scope dV kV doc pm an cdv ct), osl⟩)
    (hbind : BindsTo s (fnOf nm qual params body scope dV kV doc pm an cdv ct) args [(Str.ofString "self", .ref x), (Str.ofString "key", .str key t), (Str.ofString "limit", .int 1 lt), (Str.ofString "expiry", .int xp ut), (Str.ofString "amount", .int 1 vt)])
    (B : Below A₀ h₀ [] h₀) (F : Fr h₀ L s.heap m) (X : (pre.heap_1 w.params).In h₀) (N : News h₀ L s.heap ((vd, ov) :: (x, instObj 631 d) :: (d, dictOf (storeDict w.params f sd xd vd q1 q2 q3 q4) 4) :: ex)) (T : Top p loose mean mg mb h₀) (hk : cs.kind = .function)
    (hdp : dp + 4 < recursionLimit) (hC : Clock w own f now) (ho : ∀ q ∈ own, q ∈ ex)
    (lV : (vd == sysModules) = false) (hV : Obj.IsDictOf (strKind Challenge.rw_jj0017_01.row.prog w) ov kvv) (cV : kvv.length ≤ 90) (vV : valueAt kvv key = none)
    (o1 : ∀ q ∈ ex, q.1 ≠ vd) (w1 : @LT.lt Nat _ d x) (w2 : @LT.lt Nat _ x vd)
    (hret : ∀ (h' : Heap) (tk' : Nat) (ov' : Obj) (r1 r2 : Addr), Fr h₀ L h' m → News h₀ L h' ((vd, ov') :: (x, instObj 631 d) :: (d, dictOf (storeDict w.params f sd xd vd q1 q2 q3 q4) 4) :: ex) →
      Obj.IsDictOf (strKind Challenge.rw_jj0017_01.row.prog w) ov' (stored (stored kvv key (.ref r1)) key (.ref r2)) →
      R (.ok (.ret (.bool true))) { s with heap := h', toks := tk' }) :
    codeAny (model Challenge.rw_jj0017_01.row.prog w) (ktrTop dp un gd cn cs L a ccd cl []) (.call (.ref 571) args) R s := by
  revert hfn hbind
  refine pick (by k_is) _ ?_
  intro e9
  cases e9
  intro hbind
  k_dflt walk_at "my try2"
  k_steps
  exact hret _ _ _ _ _ (by assumption) (by walk_at "my led") (by assumption)
end
section
variable {w : World} {p : Program} {loose : List Str} {mean : ExcName → Option Value} {mg mb : Str → Option Value}
local macro_rules | `(tactic| walk_at "pad") => `(tactic| fail)
local macro_rules | `(tactic| walk_at "pad") => `(tactic| fail)
local macro_rules | `(tactic| walk_at "pad") => `(tactic| fail)
local macro_rules | `(tactic| walk_at "pad") => `(tactic| fail)
local macro_rules | `(tactic| walk_at "pad") => `(tactic| fail)
local macro_rules | `(tactic| walk_at "pad") => `(tactic| fail)
local macro_rules | `(tactic| walk_at "pad") => `(tactic| fail)
local macro_rules | `(tactic| walk_at "pad") => `(tactic| fail)
local macro_rules | `(tactic| walk_at "pad") => `(tactic| fail)
local macro_rules | `(tactic| k_all) => `(tactic| assumption)
local macro_rules | `(tactic| walk_at "call builtin:len") => `(tactic| k_extra "u67")
local macro_rules | `(tactic| walk_at "getMethod ref") => `(tactic| k_extra "u68")
local macro_rules | `(tactic| walk_at "call builtin:dict.clear") => `(tactic| k_extra "u69")
theorem reset_spec {dp un : Nat} {gd : Option (List Code)} {cn : Str} {cs : Scope} {a : Addr} {ccd : Value} {cl : List (Str × Addr)} {outer : List Env} {A₀ : Around} {base h₀ : Heap} {L : Addr} {m : Str → Option Value} {s : Shared} {R : Result → Shared → Prop} {x d sd xd vd f : Addr} {q1 q2 q3 q4 : Tok} {os ox ov : Obj} {ex : List (Addr × Obj)} {kvs kvx kvv : List (Str × Value)}
    (B : Below A₀ base outer h₀) (F : Fr h₀ L s.heap m) (X : (pre.heap_1 w.params).In h₀) (N : News h₀ L s.heap ((vd, ov) :: (sd, os) :: (xd, ox) :: (x, instObj 631 d) :: (d, dictOf (storeDict w.params f sd xd vd q1 q2 q3 q4) 4) :: ex)) (T : Top p loose mean mg mb h₀) (hk : cs.kind = .function)
    (hdp : dp + 4 < recursionLimit)
    (lS : (sd == sysModules) = false) (lX : (xd == sysModules) = false) (lV : (vd == sysModules) = false) (hS : Obj.IsDictOf (strKind Challenge.rw_jj0017_01.row.prog w) os kvs) (hX : Obj.IsDictOf (strKind Challenge.rw_jj0017_01.row.prog w) ox kvx) (hV : Obj.IsDictOf (strKind Challenge.rw_jj0017_01.row.prog w) ov kvv)
    (cS : kvs.length ≤ 100) (cX : kvx.length ≤ 100) (cV : kvv.length ≤ 100)
    (o1 : ∀ q ∈ ex, q.1 ≠ sd) (o2 : ∀ q ∈ ex, q.1 ≠ xd) (o3 : ∀ q ∈ ex, q.1 ≠ vd) (w1 : @LT.lt Nat _ d x) (w2 : @LT.lt Nat _ x sd) (w3 : @LT.lt Nat _ sd xd) (w4 : @LT.lt Nat _ xd vd)
    (hret : ∀ (h' : Heap) (tk' : Nat) (t' : Tok) (os' ox' ov' : Obj), Fr h₀ L h' m → News h₀ L h' ((vd, ov') :: (sd, os') :: (xd, ox') :: (x, instObj 631 d) :: (d, dictOf (storeDict w.params f sd xd vd q1 q2 q3 q4) 4) :: ex) →
      Obj.IsDictOf (strKind Challenge.rw_jj0017_01.row.prog w) os' [] → Obj.IsDictOf (strKind Challenge.rw_jj0017_01.row.prog w) ox' [] → Obj.IsDictOf (strKind Challenge.rw_jj0017_01.row.prog w) ov' [] →
      R (.ok (.ret (.int (if (kvv.length : Int) > kvs.length then kvv.length else kvs.length) t'))) { s with heap := h', toks := tk' }) :
    codeAny (model Challenge.rw_jj0017_01.row.prog w) (ktrTop dp un gd cn cs L a ccd cl outer) (.call (.ref 628) ⟨[.ref x], []⟩) R s := by
  k_dflt walk_at "my enter"
  k_steps
  exact hret _ _ _ _ _ _ (by assumption) (by walk_at "my led") (by assumption) (by assumption) (by assumption)
end
section
variable {w : World} {p : Program} {loose : List Str} {mean : ExcName → Option Value} {mg mb : Str → Option Value}
local macro_rules | `(tactic| k_all) => `(tactic| assumption)
theorem own_news {h₀ h : Heap} {L : Addr} {own news : List (Addr × Obj)} (N : News h₀ L h news) (ho : ∀ q ∈ own, q ∈ news) : News h₀ L h (own ++ news) := fun q hq => N q ((List.mem_append.mp hq).elim (ho q) id)
local macro_rules | `(tactic| walk_at "my lam") => `(tactic| k_extra "u70")
theorem t3a_walk {fa L : Addr} {h₀ : Heap} {s : Shared} {c : Obj} {px pd : Addr} {k1 k2 k3 t1 t2 tm : Tok} {mix : Int} {u : Str → Option Value} {oc dV kV doc pm ct : Value} {an od : Option Addr} {osl : Array (Option Value)} {nm qual : Str} {params : Arguments} {body rest : List Stmt} {scope : Scope} {R : Flow → Shared → Prop} {E : Value → Shared → Prop}
    (ho : (pre.heap_1 w.params).lookup 736 = some ⟨oc, od, .func (fnOf nm qual params body scope dV kV doc pm an (.ref 735) ct), osl⟩)
    (B : Below callerA h₀ [] h₀) (X : (pre.heap_1 w.params).In h₀) (T : Top p loose mean mg mb h₀)
    (F : Fr h₀ L s.heap (fun y => if y = Str.ofString "plain" then some (.ref px) else u y))
    (hc : c.data = .cell (some (.int mix tm))) (N : News h₀ L s.heap [(px, instObj 275 pd), (pd, dictOf (itemDict w.params (3 + mix.fmod 9) 1 k1 k2 k3 t1 t2) 3), (L + 1, c), (733, tabObj #[])])
    (C : CodeHd h₀ 735 733) (l1 : @LT.lt Nat _ (L + 1) pd) (l2 : @LT.lt Nat _ pd px) (l0 : @LT.lt Nat _ 733 L)
    (hret : ∀ (h' : Heap) (tk' : Nat) (x d sd xd vd f co : Addr) (q1 q2 q3 q4 : Tok) (os ox ov fo oco : Obj) (tps : Array Value),
      Fr h₀ L h' (fun y => if y = Str.ofString "store" then some (.ref x) else if y = Str.ofString "plain" then some (.ref px) else u y) →
      News h₀ L h' [(vd, ov), (xd, ox), (sd, os), (x, instObj 631 d), (d, dictOf (storeDict w.params f sd xd vd q1 q2 q3 q4) 4), (f, fo), (co, oco), (px, instObj 275 pd), (pd, dictOf (itemDict w.params (3 + mix.fmod 9) 1 k1 k2 k3 t1 t2) 3), (L + 1, c), (733, tabObj tps)] →
      Clock w [(f, fo), (co, oco), (L + 1, c)] f (1000 + mix.fmod 1000) → @LT.lt Nat _ px co → @LT.lt Nat _ co f → @LT.lt Nat _ f d → @LT.lt Nat _ d x → @LT.lt Nat _ x sd → @LT.lt Nat _ sd xd → @LT.lt Nat _ xd vd →
      (sd == sysModules) = false → (xd == sysModules) = false → (vd == sysModules) = false →
      Obj.IsDictOf (strKind Challenge.rw_jj0017_01.row.prog w) os [] → Obj.IsDictOf (strKind Challenge.rw_jj0017_01.row.prog w) ox [] → Obj.IsDictOf (strKind Challenge.rw_jj0017_01.row.prog w) ov [] →
      wpAny (model Challenge.rw_jj0017_01.row.prog w) (callerA.deeper (envOfC qual scope L fa (.ref 735))) (execs rest (envOfC qual scope L fa (.ref 735))) R E { s with heap := h', toks := tk' }) :
    wpAny (model Challenge.rw_jj0017_01.row.prog w) (callerA.deeper (envOfC qual scope L fa (.ref 735))) (execs (one (tl (tl (tl (tl (tl (tl (tl body))))))) rest) (envOfC qual scope L fa (.ref 735))) R E s := by
  revert ho
  refine pick (by k_is) _ ?_
  intro e
  cases e
  dsimp only [tl, one]
  k_steps
  (refine' hret _ _ _ _ _ _ _ _ _ _ _ _ _ _ _ _ _ _ _ (by assumption) (by assumption) ?clk ?o1 ?o2 ?o3 ?o4 ?o5 ?o6 ?o7 (by assumption) (by assumption) (by assumption) (by assumption) (by assumption) (by assumption))
  case clk =>
    refine ⟨fun p loose mean mg mb dp un gd cn cs a ccd cl outer A₀ base h₀ L m news s R B F X N T hk hdp ho hr => ?_, ⟨_, _, _, _, .head _⟩⟩
    replace N := own_news N ho
    clear ho
    k_dflt walk_at "my lam"
    k_steps
    exact hr _ _ _ (by assumption) (by walk_at "my led")
  all_goals omega
end
section
variable {w : World} {p : Program} {loose : List Str} {mean : ExcName → Option Value} {mg mb : Str → Option Value}
local macro_rules | `(tactic| walk_at "pad") => `(tactic| fail)
local macro_rules | `(tactic| walk_at "pad") => `(tactic| fail)
theorem look_one (key : Str) (v d : Int) : kdpLook [(key, v)] key d = v := by simp [kdpLook]
theorem put_one (key : Str) (v a : Int) : kdpPut [(key, v)] key a = [(key, a)] := by simp [kdpPut]
theorem put_nil (key : Str) (a : Int) : kdpPut [] key a = [(key, a)] := by simp [kdpPut]
theorem incr_first {dp un : Nat} {gd : Option (List Code)} {cn : Str} {cs : Scope} {a : Addr} {ccd : Value} {cl : List (Str × Addr)} {outer : List Env} {A₀ : Around} {base h₀ : Heap} {L : Addr} {m : Str → Option Value} {s : Shared} {R : Result → Shared → Prop} {x d sd xd vd f : Addr} {q1 q2 q3 q4 t ut vt : Tok} {os ox : Obj} {own ex : List (Addr × Obj)} {now xp amt : Int} {key : Str} {kvs kvx : List (Str × Value)}
    {oc dV kV doc pm cdv ct : Value} {an od : Option Addr} {osl : Array (Option Value)} {nm qual : Str} {params : Arguments} {body : List Stmt} {scope : Scope} {args : Args}
    (hfn : (pre.heap_1 w.params).lookup 541 = some ⟨oc, od, .func (fnOf nm qual params body scope dV kV doc pm an cdv ct), osl⟩)
    (hbind : BindsTo s (fnOf nm qual params body scope dV kV doc pm an cdv ct) args [(Str.ofString "self", .ref x), (Str.ofString "key", .str key t), (Str.ofString "expiry", .int xp ut), (Str.ofString "amount", .int amt vt)])
    (B : Below A₀ base outer h₀) (F : Fr h₀ L s.heap m) (X : (pre.heap_1 w.params).In h₀) (N : News h₀ L s.heap ((sd, os) :: (xd, ox) :: (x, instObj 631 d) :: (d, dictOf (storeDict w.params f sd xd vd q1 q2 q3 q4) 4) :: ex)) (T : Top p loose mean mg mb h₀) (hk : cs.kind = .function)
    (hdp : dp + 4 < recursionLimit) (hC : Clock w own f now) (ho : ∀ q ∈ own, q ∈ ex)
    (lS : (sd == sysModules) = false) (lX : (xd == sysModules) = false) (hS : Obj.IsDictOf (strKind Challenge.rw_jj0017_01.row.prog w) os kvs) (hX : Obj.IsDictOf (strKind Challenge.rw_jj0017_01.row.prog w) ox kvx)
    (fS : PyProof.V.FlatPairs PyData.str kvs (kdpD [])) (fX : PyProof.V.FlatPairs PyData.str kvx (kdpD []))
    (o1 : ∀ q ∈ ex, q.1 ≠ sd) (o2 : ∀ q ∈ ex, q.1 ≠ xd) (w1 : @LT.lt Nat _ d x) (w2 : @LT.lt Nat _ x sd) (w3 : @LT.lt Nat _ sd xd)
    (hn : 0 ≤ now)
    (hret : ∀ (h' : Heap) (tk' : Nat) (t' : Tok) (os' ox' : Obj) (kvs' kvx' : List (Str × Value)), Fr h₀ L h' m → News h₀ L h' ((sd, os') :: (xd, ox') :: (x, instObj 631 d) :: (d, dictOf (storeDict w.params f sd xd vd q1 q2 q3 q4) 4) :: ex) →
      Obj.IsDictOf (strKind Challenge.rw_jj0017_01.row.prog w) os' kvs' → Obj.IsDictOf (strKind Challenge.rw_jj0017_01.row.prog w) ox' kvx' → PyProof.V.FlatPairs PyData.str kvs' (kdpD [(key, amt)]) → PyProof.V.FlatPairs PyData.str kvx' (kdpD [(key, now + xp)]) → R (.ok (.ret (.int amt t'))) { s with heap := h', toks := tk' }) :
    codeAny (model Challenge.rw_jj0017_01.row.prog w) (ktrTop dp un gd cn cs L a ccd cl outer) (.call (.ref 541) args) R s := by
  refine incr_spec hfn hbind B F X N T hk hdp hC ho lS lX hS hX fS fX (Nat.le_of_ble_eq_true rfl) (Nat.le_of_ble_eq_true rfl) o1 o2 w1 w2 w3 (.inr ⟨hn, rfl, rfl⟩) ?_ ?_
  · intro _ h' tk' t' os' ox' kvs' kvx' F' N' a b fa fb
    have e : kdpLook [] key 0 + amt = amt := Int.zero_add amt
    rw [e] at fa ⊢
    rw [put_nil] at fa fb
    exact hret h' tk' t' os' ox' kvs' kvx' F' N' a b fa fb
  · intro q
    exact absurd (Int.zero_add amt) q
theorem incr_next {dp un : Nat} {gd : Option (List Code)} {cn : Str} {cs : Scope} {a : Addr} {ccd : Value} {cl : List (Str × Addr)} {outer : List Env} {A₀ : Around} {base h₀ : Heap} {L : Addr} {m : Str → Option Value} {s : Shared} {R : Result → Shared → Prop} {x d sd xd vd f : Addr} {q1 q2 q3 q4 t ut vt : Tok} {os ox : Obj} {own ex : List (Addr × Obj)} {now xp amt v z : Int} {key : Str} {kvs kvx : List (Str × Value)}
    {oc dV kV doc pm cdv ct : Value} {an od : Option Addr} {osl : Array (Option Value)} {nm qual : Str} {params : Arguments} {body : List Stmt} {scope : Scope} {args : Args}
    (hfn : (pre.heap_1 w.params).lookup 541 = some ⟨oc, od, .func (fnOf nm qual params body scope dV kV doc pm an cdv ct), osl⟩)
    (hbind : BindsTo s (fnOf nm qual params body scope dV kV doc pm an cdv ct) args [(Str.ofString "self", .ref x), (Str.ofString "key", .str key t), (Str.ofString "expiry", .int xp ut), (Str.ofString "amount", .int amt vt)])
    (B : Below A₀ base outer h₀) (F : Fr h₀ L s.heap m) (X : (pre.heap_1 w.params).In h₀) (N : News h₀ L s.heap ((sd, os) :: (xd, ox) :: (x, instObj 631 d) :: (d, dictOf (storeDict w.params f sd xd vd q1 q2 q3 q4) 4) :: ex)) (T : Top p loose mean mg mb h₀) (hk : cs.kind = .function)
    (hdp : dp + 4 < recursionLimit) (hC : Clock w own f now) (ho : ∀ q ∈ own, q ∈ ex)
    (lS : (sd == sysModules) = false) (lX : (xd == sysModules) = false) (hS : Obj.IsDictOf (strKind Challenge.rw_jj0017_01.row.prog w) os kvs) (hX : Obj.IsDictOf (strKind Challenge.rw_jj0017_01.row.prog w) ox kvx)
    (fS : PyProof.V.FlatPairs PyData.str kvs (kdpD [(key, v)])) (fX : PyProof.V.FlatPairs PyData.str kvx (kdpD [(key, z)]))
    (o1 : ∀ q ∈ ex, q.1 ≠ sd) (o2 : ∀ q ∈ ex, q.1 ≠ xd) (w1 : @LT.lt Nat _ d x) (w2 : @LT.lt Nat _ x sd) (w3 : @LT.lt Nat _ sd xd)
    (hn : now < z) (hv : v ≠ 0)
    (hret : ∀ (h' : Heap) (tk' : Nat) (t' : Tok) (os' : Obj) (kvs' : List (Str × Value)), Fr h₀ L h' m → News h₀ L h' ((sd, os') :: (xd, ox) :: (x, instObj 631 d) :: (d, dictOf (storeDict w.params f sd xd vd q1 q2 q3 q4) 4) :: ex) →
      Obj.IsDictOf (strKind Challenge.rw_jj0017_01.row.prog w) os' kvs' → PyProof.V.FlatPairs PyData.str kvs' (kdpD [(key, v + amt)]) → R (.ok (.ret (.int (v + amt) t'))) { s with heap := h', toks := tk' }) :
    codeAny (model Challenge.rw_jj0017_01.row.prog w) (ktrTop dp un gd cn cs L a ccd cl outer) (.call (.ref 541) args) R s := by
  refine incr_spec hfn hbind B F X N T hk hdp hC ho lS lX hS hX fS fX (Nat.le_of_ble_eq_true rfl) (Nat.le_of_ble_eq_true rfl) o1 o2 w1 w2 w3 (.inl (by rw [look_one]; omega)) ?_ ?_
  · intro q
    rw [look_one] at q
    exact absurd q (by omega)
  · intro _ h' tk' t' os' kvs' F' N' a fa
    rw [look_one] at fa ⊢
    rw [put_one] at fa
    exact hret h' tk' t' os' kvs' F' N' a fa
theorem decr_next {dp un : Nat} {gd : Option (List Code)} {cn : Str} {cs : Scope} {a : Addr} {ccd : Value} {cl : List (Str × Addr)} {outer : List Env} {A₀ : Around} {base h₀ : Heap} {L : Addr} {m : Str → Option Value} {s : Shared} {R : Result → Shared → Prop} {x d sd xd vd f : Addr} {q1 q2 q3 q4 t vt : Tok} {os ox : Obj} {own ex : List (Addr × Obj)} {now amt v z : Int} {key : Str} {kvs kvx : List (Str × Value)}
    {oc dV kV doc pm cdv ct : Value} {an od : Option Addr} {osl : Array (Option Value)} {nm qual : Str} {params : Arguments} {body : List Stmt} {scope : Scope} {args : Args}
    (hfn : (pre.heap_1 w.params).lookup 549 = some ⟨oc, od, .func (fnOf nm qual params body scope dV kV doc pm an cdv ct), osl⟩)
    (hbind : BindsTo s (fnOf nm qual params body scope dV kV doc pm an cdv ct) args [(Str.ofString "self", .ref x), (Str.ofString "key", .str key t), (Str.ofString "amount", .int amt vt)])
    (B : Below A₀ base outer h₀) (F : Fr h₀ L s.heap m) (X : (pre.heap_1 w.params).In h₀) (N : News h₀ L s.heap ((sd, os) :: (xd, ox) :: (x, instObj 631 d) :: (d, dictOf (storeDict w.params f sd xd vd q1 q2 q3 q4) 4) :: ex)) (T : Top p loose mean mg mb h₀) (hk : cs.kind = .function)
    (hdp : dp + 4 < recursionLimit) (hC : Clock w own f now) (ho : ∀ q ∈ own, q ∈ ex)
    (lS : (sd == sysModules) = false) (lX : (xd == sysModules) = false) (hS : Obj.IsDictOf (strKind Challenge.rw_jj0017_01.row.prog w) os kvs) (hX : Obj.IsDictOf (strKind Challenge.rw_jj0017_01.row.prog w) ox kvx)
    (fS : PyProof.V.FlatPairs PyData.str kvs (kdpD [(key, v)])) (fX : PyProof.V.FlatPairs PyData.str kvx (kdpD [(key, z)]))
    (o1 : ∀ q ∈ ex, q.1 ≠ sd) (o2 : ∀ q ∈ ex, q.1 ≠ xd) (w1 : @LT.lt Nat _ d x) (w2 : @LT.lt Nat _ x sd) (w3 : @LT.lt Nat _ sd xd)
    (hn : now < z) (hv : amt ≤ v)
    (hret : ∀ (h' : Heap) (tk' : Nat) (t' : Tok) (os' : Obj) (kvs' : List (Str × Value)), Fr h₀ L h' m → News h₀ L h' ((sd, os') :: (xd, ox) :: (x, instObj 631 d) :: (d, dictOf (storeDict w.params f sd xd vd q1 q2 q3 q4) 4) :: ex) →
      Obj.IsDictOf (strKind Challenge.rw_jj0017_01.row.prog w) os' kvs' → PyProof.V.FlatPairs PyData.str kvs' (kdpD [(key, v - amt)]) → R (.ok (.ret (.int (v - amt) t'))) { s with heap := h', toks := tk' }) :
    codeAny (model Challenge.rw_jj0017_01.row.prog w) (ktrTop dp un gd cn cs L a ccd cl outer) (.call (.ref 549) args) R s := by
  refine decr_spec hfn hbind B F X N T hk hdp hC ho lS lX hS hX fS fX (Nat.le_of_ble_eq_true rfl) (Nat.le_of_ble_eq_true rfl) o1 w1 w2 w3 (.inl (by rw [look_one]; omega)) (by rw [look_one]; omega) ?_
  intro h' tk' t' os' kvs' F' N' a fa
  rw [look_one] at fa ⊢
  rw [put_one] at fa
  exact hret h' tk' t' os' kvs' F' N' a fa
theorem get_next {dp un : Nat} {gd : Option (List Code)} {cn : Str} {cs : Scope} {a : Addr} {ccd : Value} {cl : List (Str × Addr)} {outer : List Env} {A₀ : Around} {base h₀ : Heap} {L : Addr} {m : Str → Option Value} {s : Shared} {R : Result → Shared → Prop} {x d sd xd vd f : Addr} {q1 q2 q3 q4 t : Tok} {os ox : Obj} {own ex : List (Addr × Obj)} {now v z : Int} {key : Str} {kvs kvx : List (Str × Value)}
    (B : Below A₀ base outer h₀) (F : Fr h₀ L s.heap m) (X : (pre.heap_1 w.params).In h₀) (N : News h₀ L s.heap ((sd, os) :: (xd, ox) :: (x, instObj 631 d) :: (d, dictOf (storeDict w.params f sd xd vd q1 q2 q3 q4) 4) :: ex)) (T : Top p loose mean mg mb h₀) (hk : cs.kind = .function)
    (hdp : dp + 3 < recursionLimit) (hC : Clock w own f now) (ho : ∀ q ∈ own, q ∈ ex)
    (lS : (sd == sysModules) = false) (lX : (xd == sysModules) = false) (hS : Obj.IsDictOf (strKind Challenge.rw_jj0017_01.row.prog w) os kvs) (hX : Obj.IsDictOf (strKind Challenge.rw_jj0017_01.row.prog w) ox kvx)
    (fS : PyProof.V.FlatPairs PyData.str kvs (kdpD [(key, v)])) (fX : PyProof.V.FlatPairs PyData.str kvx (kdpD [(key, z)]))
    (hn : now < z)
    (hret : ∀ (h' : Heap) (tk' : Nat) (t' : Tok), Fr h₀ L h' m → News h₀ L h' ((sd, os) :: (xd, ox) :: (x, instObj 631 d) :: (d, dictOf (storeDict w.params f sd xd vd q1 q2 q3 q4) 4) :: ex) →
      R (.ok (.ret (.int v t'))) { s with heap := h', toks := tk' }) :
    codeAny (model Challenge.rw_jj0017_01.row.prog w) (ktrTop dp un gd cn cs L a ccd cl outer) (.call (.ref 556) ⟨[.ref x, .str key t], []⟩) R s := by
  refine get_spec B F X N T hk hdp hC ho lS lX hS hX fS fX (.inl (by rw [look_one]; omega)) ?_
  intro h' tk' t' F' N'
  rw [look_one]
  exact hret h' tk' t' F' N'
end
local macro_rules | `(tactic| walk_at "my bind") => `(tactic| k_extra "u71")
local macro_rules | `(tactic| walk_at "call ref") => `(tactic| k_extra "u72")
local macro_rules | `(tactic| walk_at "call ref") => `(tactic| k_extra "u73")
section
variable {w : World} {p : Program} {loose : List Str} {mean : ExcName → Option Value} {mg mb : Str → Option Value}
local macro_rules | `(tactic| walk_at "getMethod ref") => `(tactic| k_extra "u74")
theorem flat_one {kvs : List (Str × Value)} {k : Str} {v : Int} (h : PyProof.V.FlatPairs PyData.str kvs (kdpD [(k, v)])) : kvs.length = 1 := by
  have e := h.length
  have e2 : (kdpD [(k, v)]).length = 1 := rfl
  omega
theorem t3b_walk {fa L : Addr} {h₀ : Heap} {s : Shared} {x d sd xd vd f : Addr} {q1 q2 q3 q4 : Tok} {os ox : Obj} {own ex : List (Addr × Obj)} {now : Int} {u : Str → Option Value} {oc dV kV doc pm ct : Value} {an od : Option Addr} {osl : Array (Option Value)} {nm qual : Str} {params : Arguments} {body rest : List Stmt} {scope : Scope} {R : Flow → Shared → Prop} {E : Value → Shared → Prop}
    (ho : (pre.heap_1 w.params).lookup 736 = some ⟨oc, od, .func (fnOf nm qual params body scope dV kV doc pm an (.ref 735) ct), osl⟩)
    (B : Below callerA h₀ [] h₀) (X : (pre.heap_1 w.params).In h₀) (T : Top p loose mean mg mb h₀)
    (F : Fr h₀ L s.heap (fun y => if y = Str.ofString "store" then some (.ref x) else u y))
    (N : News h₀ L s.heap ((sd, os) :: (xd, ox) :: (x, instObj 631 d) :: (d, dictOf (storeDict w.params f sd xd vd q1 q2 q3 q4) 4) :: ex))
    (hC : Clock w own f now) (hO : ∀ q ∈ own, q ∈ ex) (hN : 0 ≤ now)
    (lS : (sd == sysModules) = false) (lX : (xd == sysModules) = false) (hS : Obj.IsDictOf (strKind Challenge.rw_jj0017_01.row.prog w) os []) (hX : Obj.IsDictOf (strKind Challenge.rw_jj0017_01.row.prog w) ox [])
    (fS : PyProof.V.FlatPairs PyData.str ([] : List (Str × Value)) (kdpD [])) (fX : PyProof.V.FlatPairs PyData.str ([] : List (Str × Value)) (kdpD []))
    (o1 : ∀ q ∈ ex, q.1 ≠ sd) (o2 : ∀ q ∈ ex, q.1 ≠ xd) (w1 : @LT.lt Nat _ d x) (w2 : @LT.lt Nat _ x sd) (w3 : @LT.lt Nat _ sd xd)
    (hret : ∀ (h' : Heap) (tk' : Nat) (os' ox' : Obj) (kvs' kvx' : List (Str × Value)),
      Fr h₀ L h' (fun y => if y = Str.ofString "store" then some (.ref x) else u y) →
      News h₀ L h' ((sd, os') :: (xd, ox') :: (x, instObj 631 d) :: (d, dictOf (storeDict w.params f sd xd vd q1 q2 q3 q4) 4) :: ex) →
      Obj.IsDictOf (strKind Challenge.rw_jj0017_01.row.prog w) os' kvs' → Obj.IsDictOf (strKind Challenge.rw_jj0017_01.row.prog w) ox' kvx' → kvs'.length = 1 → kvx'.length = 1 →
      wpAny (model Challenge.rw_jj0017_01.row.prog w) (callerA.deeper (envOfC qual scope L fa (.ref 735))) (execs rest (envOfC qual scope L fa (.ref 735))) R E { s with heap := h', toks := tk' }) :
    wpAny (model Challenge.rw_jj0017_01.row.prog w) (callerA.deeper (envOfC qual scope L fa (.ref 735))) (execs (one (tl (tl (tl (tl (tl (tl (tl (tl body)))))))) rest) (envOfC qual scope L fa (.ref 735))) R E s := by
  revert ho
  refine pick (by k_is) _ ?_
  intro e
  cases e
  dsimp only [tl, one]
  k_steps
  refine hret _ _ _ _ _ _ (by assumption) (by walk_at "my led") (by assumption) (by assumption) ?_ ?_
  · exact flat_one (by assumption)
  · exact flat_one (by assumption)
end
local macro_rules | `(tactic| walk_at "call ref") => `(tactic| k_extra "u75")
local macro_rules | `(tactic| walk_at "call ref") => `(tactic| k_extra "u76")
section
variable {w : World} {p : Program} {loose : List Str} {mean : ExcName → Option Value} {mg mb : Str → Option Value}
theorem stored_two (k : Str) (a b : Value) (n : Nat) : (stored (stored ([] : List (Str × Value)) k a) k b).length ≤ n + 90 :=
  Nat.le_trans (stored_len _ _ _) (Nat.le_trans (Nat.succ_le_succ (stored_len _ _ _)) (by simp))
theorem led_acq {h₀ h : Heap} {L : Addr} {v a b x d : Addr × Obj} {ex : List (Addr × Obj)} (N : News h₀ L h (v :: a :: b :: x :: d :: ex)) : News h₀ L h (v :: x :: d :: a :: b :: ex) := fun q hq => N q (by simp only [List.mem_cons] at hq ⊢; rcases hq with h | h | h | h | h | h <;> simp [h])
theorem led_back {h₀ h : Heap} {L : Addr} {v a b x d : Addr × Obj} {ex : List (Addr × Obj)} (N : News h₀ L h (v :: x :: d :: a :: b :: ex)) : News h₀ L h (v :: a :: b :: x :: d :: ex) := fun q hq => N q (by simp only [List.mem_cons] at hq ⊢; rcases hq with h | h | h | h | h | h <;> simp [h])
theorem led_reset {h₀ h : Heap} {L : Addr} {v a b x d : Addr × Obj} {ex : List (Addr × Obj)} (N : News h₀ L h (a :: b :: x :: d :: v :: ex)) : News h₀ L h (v :: a :: b :: x :: d :: ex) := fun q hq => N q (by simp only [List.mem_cons] at hq ⊢; rcases hq with h | h | h | h | h | h <;> simp [h])
theorem led_incr {h₀ h : Heap} {L : Addr} {v a b x d : Addr × Obj} {ex : List (Addr × Obj)} (N : News h₀ L h (v :: a :: b :: x :: d :: ex)) : News h₀ L h (a :: b :: x :: d :: v :: ex) := fun q hq => N q (by simp only [List.mem_cons] at hq ⊢; rcases hq with h | h | h | h | h | h <;> simp [h])
end
local macro_rules | `(tactic| walk_at "call ref") => `(tactic| k_extra "u77")
local macro_rules | `(tactic| walk_at "call ref") => `(tactic| k_extra "u78")
section
variable {w : World} {p : Program} {loose : List Str} {mean : ExcName → Option Value} {mg mb : Str → Option Value}
local macro_rules | `(tactic| k_all) => `(tactic| assumption)
local macro_rules | `(tactic| walk_at "getMethod ref") => `(tactic| k_extra "u79")
theorem t3c_walk {fa L : Addr} {h₀ : Heap} {s : Shared} {x d sd xd vd f : Addr} {q1 q2 q3 q4 : Tok} {os ox ov : Obj} {own ex : List (Addr × Obj)} {now : Int} {kvs kvx : List (Str × Value)} {u : Str → Option Value} {oc dV kV doc pm ct : Value} {an od : Option Addr} {osl : Array (Option Value)} {nm qual : Str} {params : Arguments} {body rest : List Stmt} {scope : Scope} {R : Flow → Shared → Prop} {E : Value → Shared → Prop}
    (ho : (pre.heap_1 w.params).lookup 736 = some ⟨oc, od, .func (fnOf nm qual params body scope dV kV doc pm an (.ref 735) ct), osl⟩)
    (B : Below callerA h₀ [] h₀) (X : (pre.heap_1 w.params).In h₀) (T : Top p loose mean mg mb h₀)
    (F : Fr h₀ L s.heap (fun y => if y = Str.ofString "store" then some (.ref x) else u y))
    (N : News h₀ L s.heap ((vd, ov) :: (sd, os) :: (xd, ox) :: (x, instObj 631 d) :: (d, dictOf (storeDict w.params f sd xd vd q1 q2 q3 q4) 4) :: ex))
    (hC : Clock w own f now) (hO : ∀ q ∈ own, q ∈ ex)
    (lS : (sd == sysModules) = false) (lX : (xd == sysModules) = false) (lV : (vd == sysModules) = false) (hS : Obj.IsDictOf (strKind Challenge.rw_jj0017_01.row.prog w) os kvs) (hX : Obj.IsDictOf (strKind Challenge.rw_jj0017_01.row.prog w) ox kvx) (hV : Obj.IsDictOf (strKind Challenge.rw_jj0017_01.row.prog w) ov [])
    (nS : kvs.length = 1) (nX : kvx.length = 1)
    (o1 : ∀ q ∈ ex, q.1 ≠ sd) (o2 : ∀ q ∈ ex, q.1 ≠ xd) (o3 : ∀ q ∈ ex, q.1 ≠ vd) (w1 : @LT.lt Nat _ d x) (w2 : @LT.lt Nat _ x sd) (w3 : @LT.lt Nat _ sd xd) (w4 : @LT.lt Nat _ xd vd)
    (hret : ∀ (h' : Heap) (tk' : Nat) (os' ox' ov' : Obj) (kvv' : List (Str × Value)),
      Fr h₀ L h' (fun y => if y = Str.ofString "store" then some (.ref x) else u y) →
      News h₀ L h' ((vd, ov') :: (x, instObj 631 d) :: (d, dictOf (storeDict w.params f sd xd vd q1 q2 q3 q4) 4) :: (sd, os') :: (xd, ox') :: ex) →
      Obj.IsDictOf (strKind Challenge.rw_jj0017_01.row.prog w) os' [] → Obj.IsDictOf (strKind Challenge.rw_jj0017_01.row.prog w) ox' [] → Obj.IsDictOf (strKind Challenge.rw_jj0017_01.row.prog w) ov' kvv' → kvv'.length = 2 →
      wpAny (model Challenge.rw_jj0017_01.row.prog w) (callerA.deeper (envOfC qual scope L fa (.ref 735))) (execs rest (envOfC qual scope L fa (.ref 735))) R E { s with heap := h', toks := tk' }) :
    wpAny (model Challenge.rw_jj0017_01.row.prog w) (callerA.deeper (envOfC qual scope L fa (.ref 735))) (execs (one (tl (tl (tl (tl (tl (tl (tl (tl (tl body))))))))) (one (tl (tl (tl (tl (tl (tl (tl (tl (tl (tl body)))))))))) rest)) (envOfC qual scope L fa (.ref 735))) R E s := by
  revert ho
  refine pick (by k_is) _ ?_
  intro e
  cases e
  dsimp only [tl, one]
  k_steps
  · rename _ ≠ (1 : Int) => a
    exfalso
    rw [nS] at a
    exact a (by decide)
  · refine hret _ _ _ _ _ _ (by assumption) (by walk_at "my led") (by assumption) (by assumption) (by assumption) ?_
    with_unfolding_all rfl
end
local macro_rules | `(tactic| walk_at "call ref") => `(tactic| k_extra "u80")
section
variable {w : World} {p : Program} {loose : List Str} {mean : ExcName → Option Value} {mg mb : Str → Option Value}
local macro_rules | `(tactic| walk_at "pad") => `(tactic| fail)
abbrev limDict (P : Params) (x : Addr) (q5 : Tok) : List DictEntry :=
  [{ hash := PyData.keyHash P (Str.ofString "storage"), key := .str (Str.ofString "storage") q5, val := .ref x }]
end
local macro_rules | `(tactic| walk_at "call ref") => `(tactic| k_extra "u81")
local macro_rules | `(tactic| walk_at "call ref") => `(tactic| k_extra "u82")
section
variable {w : World} {p : Program} {loose : List Str} {mean : ExcName → Option Value} {mg mb : Str → Option Value}
theorem hit_first {dp un : Nat} {gd : Option (List Code)} {cn : Str} {cs : Scope} {a : Addr} {ccd : Value} {cl : List (Str × Addr)} {outer : List Env} {A₀ : Around} {base h₀ : Heap} {L : Addr} {m : Str → Option Value} {s : Shared} {R : Result → Shared → Prop} {x d sd xd vd f lm ld px pd td : Addr} {q1 q2 q3 q4 q5 k1 k2 k3 t1 t2 vt : Tok} {os ox : Obj} {own ex : List (Addr × Obj)} {now mix : Int} {kvs kvx : List (Str × Value)}
    {oc dV kV doc pm cdv ct : Value} {an od : Option Addr} {osl : Array (Option Value)} {nm qual : Str} {params : Arguments} {body : List Stmt} {scope : Scope} {args : Args}
    (hfn : (pre.heap_1 w.params).lookup 679 = some ⟨oc, od, .func (fnOf nm qual params body scope dV kV doc pm an cdv ct), osl⟩)
    (hbind : BindsTo s (fnOf nm qual params body scope dV kV doc pm an cdv ct) args [(Str.ofString "self", .ref lm), (Str.ofString "item", .ref px), (Str.ofString "identifiers", .ref td), (Str.ofString "cost", .int 1 vt)])
    (B : Below A₀ base outer h₀) (F : Fr h₀ L s.heap m) (X : (pre.heap_1 w.params).In h₀)
    (N : News h₀ L s.heap ((sd, os) :: (xd, ox) :: (x, instObj 631 d) :: (d, dictOf (storeDict w.params f sd xd vd q1 q2 q3 q4) 4) :: (lm, instObj 700 ld) :: (ld, dictOf (limDict w.params x q5) 1) :: (px, instObj 275 pd) :: (pd, dictOf (itemDict w.params (3 + mix.fmod 9) 1 k1 k2 k3 t1 t2) 3) :: ex))
    (T : Top p loose mean mg mb h₀) (hk : cs.kind = .function)
    (hdp : dp + 8 < recursionLimit) (hun : un + 30 < cLine) (hC : Clock w own f now) (ho : ∀ q ∈ own, q ∈ (lm, instObj 700 ld) :: (ld, dictOf (limDict w.params x q5) 1) :: (px, instObj 275 pd) :: (pd, dictOf (itemDict w.params (3 + mix.fmod 9) 1 k1 k2 k3 t1 t2) 3) :: ex)
    (hT : TupAt h₀ td ([] : List Value).toArray ((sd, os) :: (xd, ox) :: (x, instObj 631 d) :: (d, dictOf (storeDict w.params f sd xd vd q1 q2 q3 q4) 4) :: (lm, instObj 700 ld) :: (ld, dictOf (limDict w.params x q5) 1) :: (px, instObj 275 pd) :: (pd, dictOf (itemDict w.params (3 + mix.fmod 9) 1 k1 k2 k3 t1 t2) 3) :: ex))
    (lS : (sd == sysModules) = false) (lX : (xd == sysModules) = false) (hS : Obj.IsDictOf (strKind Challenge.rw_jj0017_01.row.prog w) os kvs) (hX : Obj.IsDictOf (strKind Challenge.rw_jj0017_01.row.prog w) ox kvx)
    (fS : PyProof.V.FlatPairs PyData.str kvs (kdpD [])) (fX : PyProof.V.FlatPairs PyData.str kvx (kdpD []))
    (o1 : ∀ q ∈ (lm, instObj 700 ld) :: (ld, dictOf (limDict w.params x q5) 1) :: (px, instObj 275 pd) :: (pd, dictOf (itemDict w.params (3 + mix.fmod 9) 1 k1 k2 k3 t1 t2) 3) :: ex, q.1 ≠ sd) (o2 : ∀ q ∈ (lm, instObj 700 ld) :: (ld, dictOf (limDict w.params x q5) 1) :: (px, instObj 275 pd) :: (pd, dictOf (itemDict w.params (3 + mix.fmod 9) 1 k1 k2 k3 t1 t2) 3) :: ex, q.1 ≠ xd) (w1 : @LT.lt Nat _ d x) (w2 : @LT.lt Nat _ x sd) (w3 : @LT.lt Nat _ sd xd)
    (hn : 0 ≤ now)
    (hret : ∀ (h' : Heap) (tk' : Nat) (os' ox' : Obj) (kvs' kvx' : List (Str × Value)), Fr h₀ L h' m → News h₀ L h' ((sd, os') :: (xd, ox') :: (x, instObj 631 d) :: (d, dictOf (storeDict w.params f sd xd vd q1 q2 q3 q4) 4) :: (lm, instObj 700 ld) :: (ld, dictOf (limDict w.params x q5) 1) :: (px, instObj 275 pd) :: (pd, dictOf (itemDict w.params (3 + mix.fmod 9) 1 k1 k2 k3 t1 t2) 3) :: ex) →
      Obj.IsDictOf (strKind Challenge.rw_jj0017_01.row.prog w) os' kvs' → Obj.IsDictOf (strKind Challenge.rw_jj0017_01.row.prog w) ox' kvx' → PyProof.V.FlatPairs PyData.str kvs' (kdpD [(keyF [] (3 + mix.fmod 9), 1)]) → PyProof.V.FlatPairs PyData.str kvx' (kdpD [(keyF [] (3 + mix.fmod 9), now + 3600 * 1)]) → R (.ok (.ret (.bool true))) { s with heap := h', toks := tk' }) :
    codeAny (model Challenge.rw_jj0017_01.row.prog w) (ktrTop dp un gd cn cs L a ccd cl outer) (.call (.ref 679) args) R s := by
  revert hfn hbind
  refine pick (by k_is) _ ?_
  intro e9
  cases e9
  intro hbind
  k_dflt walk_at "my enter2"
  k_steps
  have e8 : decide (1 ≤ 3 + mix.fmod 9) = true := decide_eq_true (by have := mod_lo mix (b := 9) (by decide); omega)
  rw [e8]
  exact hret _ _ _ _ _ _ (by assumption) (by walk_at "my led") (by assumption) (by assumption) (by assumption) (by assumption)
theorem hit_next {dp un : Nat} {gd : Option (List Code)} {cn : Str} {cs : Scope} {a : Addr} {ccd : Value} {cl : List (Str × Addr)} {outer : List Env} {A₀ : Around} {base h₀ : Heap} {L : Addr} {m : Str → Option Value} {s : Shared} {R : Result → Shared → Prop} {x d sd xd vd f lm ld px pd td : Addr} {q1 q2 q3 q4 q5 k1 k2 k3 t1 t2 vt : Tok} {os ox : Obj} {own ex : List (Addr × Obj)} {now mix : Int} {kvs kvx : List (Str × Value)}
    {oc dV kV doc pm cdv ct : Value} {an od : Option Addr} {osl : Array (Option Value)} {nm qual : Str} {params : Arguments} {body : List Stmt} {scope : Scope} {args : Args}
    (hfn : (pre.heap_1 w.params).lookup 679 = some ⟨oc, od, .func (fnOf nm qual params body scope dV kV doc pm an cdv ct), osl⟩)
    (hbind : BindsTo s (fnOf nm qual params body scope dV kV doc pm an cdv ct) args [(Str.ofString "self", .ref lm), (Str.ofString "item", .ref px), (Str.ofString "identifiers", .ref td), (Str.ofString "cost", .int 1 vt)])
    (B : Below A₀ base outer h₀) (F : Fr h₀ L s.heap m) (X : (pre.heap_1 w.params).In h₀)
    (N : News h₀ L s.heap ((sd, os) :: (xd, ox) :: (x, instObj 631 d) :: (d, dictOf (storeDict w.params f sd xd vd q1 q2 q3 q4) 4) :: (lm, instObj 700 ld) :: (ld, dictOf (limDict w.params x q5) 1) :: (px, instObj 275 pd) :: (pd, dictOf (itemDict w.params (3 + mix.fmod 9) 1 k1 k2 k3 t1 t2) 3) :: ex))
    (T : Top p loose mean mg mb h₀) (hk : cs.kind = .function)
    (hdp : dp + 8 < recursionLimit) (hun : un + 30 < cLine) (hC : Clock w own f now) (ho : ∀ q ∈ own, q ∈ (lm, instObj 700 ld) :: (ld, dictOf (limDict w.params x q5) 1) :: (px, instObj 275 pd) :: (pd, dictOf (itemDict w.params (3 + mix.fmod 9) 1 k1 k2 k3 t1 t2) 3) :: ex)
    (hT : TupAt h₀ td ([] : List Value).toArray ((sd, os) :: (xd, ox) :: (x, instObj 631 d) :: (d, dictOf (storeDict w.params f sd xd vd q1 q2 q3 q4) 4) :: (lm, instObj 700 ld) :: (ld, dictOf (limDict w.params x q5) 1) :: (px, instObj 275 pd) :: (pd, dictOf (itemDict w.params (3 + mix.fmod 9) 1 k1 k2 k3 t1 t2) 3) :: ex))
    (lS : (sd == sysModules) = false) (lX : (xd == sysModules) = false) (hS : Obj.IsDictOf (strKind Challenge.rw_jj0017_01.row.prog w) os kvs) (hX : Obj.IsDictOf (strKind Challenge.rw_jj0017_01.row.prog w) ox kvx)
    (fS : PyProof.V.FlatPairs PyData.str kvs (kdpD [(keyF [] (3 + mix.fmod 9), 1)])) (fX : PyProof.V.FlatPairs PyData.str kvx (kdpD [(keyF [] (3 + mix.fmod 9), now + 3600 * 1)]))
    (o1 : ∀ q ∈ (lm, instObj 700 ld) :: (ld, dictOf (limDict w.params x q5) 1) :: (px, instObj 275 pd) :: (pd, dictOf (itemDict w.params (3 + mix.fmod 9) 1 k1 k2 k3 t1 t2) 3) :: ex, q.1 ≠ sd) (o2 : ∀ q ∈ (lm, instObj 700 ld) :: (ld, dictOf (limDict w.params x q5) 1) :: (px, instObj 275 pd) :: (pd, dictOf (itemDict w.params (3 + mix.fmod 9) 1 k1 k2 k3 t1 t2) 3) :: ex, q.1 ≠ xd) (w1 : @LT.lt Nat _ d x) (w2 : @LT.lt Nat _ x sd) (w3 : @LT.lt Nat _ sd xd)
    (hret : ∀ (h' : Heap) (tk' : Nat) (os' : Obj) (kvs' : List (Str × Value)), Fr h₀ L h' m → News h₀ L h' ((sd, os') :: (xd, ox) :: (x, instObj 631 d) :: (d, dictOf (storeDict w.params f sd xd vd q1 q2 q3 q4) 4) :: (lm, instObj 700 ld) :: (ld, dictOf (limDict w.params x q5) 1) :: (px, instObj 275 pd) :: (pd, dictOf (itemDict w.params (3 + mix.fmod 9) 1 k1 k2 k3 t1 t2) 3) :: ex) →
      Obj.IsDictOf (strKind Challenge.rw_jj0017_01.row.prog w) os' kvs' → PyProof.V.FlatPairs PyData.str kvs' (kdpD [(keyF [] (3 + mix.fmod 9), 2)]) → R (.ok (.ret (.bool true))) { s with heap := h', toks := tk' }) :
    codeAny (model Challenge.rw_jj0017_01.row.prog w) (ktrTop dp un gd cn cs L a ccd cl outer) (.call (.ref 679) args) R s := by
  revert hfn hbind
  refine pick (by k_is) _ ?_
  intro e9
  cases e9
  intro hbind
  k_dflt walk_at "my enter2"
  k_steps
  have e8 : decide (1 + 1 ≤ 3 + mix.fmod 9) = true := decide_eq_true (by have := mod_lo mix (b := 9) (by decide); omega)
  rw [e8]
  exact hret _ _ _ _ (by assumption) (by walk_at "my led") (by assumption) (by assumption)
theorem test_spec {dp un : Nat} {gd : Option (List Code)} {cn : Str} {cs : Scope} {a : Addr} {ccd : Value} {cl : List (Str × Addr)} {outer : List Env} {A₀ : Around} {base h₀ : Heap} {L : Addr} {m : Str → Option Value} {s : Shared} {R : Result → Shared → Prop} {x d sd xd vd f lm ld px pd td : Addr} {q1 q2 q3 q4 q5 k1 k2 k3 t1 t2 vt : Tok} {os ox : Obj} {own ex : List (Addr × Obj)} {now mix cst : Int} {kvs kvx : List (Str × Value)}
    {oc dV kV doc pm cdv ct : Value} {an od : Option Addr} {osl : Array (Option Value)} {nm qual : Str} {params : Arguments} {body : List Stmt} {scope : Scope} {args : Args}
    (hfn : (pre.heap_1 w.params).lookup 688 = some ⟨oc, od, .func (fnOf nm qual params body scope dV kV doc pm an cdv ct), osl⟩)
    (hbind : BindsTo s (fnOf nm qual params body scope dV kV doc pm an cdv ct) args [(Str.ofString "self", .ref lm), (Str.ofString "item", .ref px), (Str.ofString "identifiers", .ref td), (Str.ofString "cost", .int cst vt)])
    (B : Below A₀ base outer h₀) (F : Fr h₀ L s.heap m) (X : (pre.heap_1 w.params).In h₀)
    (N : News h₀ L s.heap ((sd, os) :: (xd, ox) :: (x, instObj 631 d) :: (d, dictOf (storeDict w.params f sd xd vd q1 q2 q3 q4) 4) :: (lm, instObj 700 ld) :: (ld, dictOf (limDict w.params x q5) 1) :: (px, instObj 275 pd) :: (pd, dictOf (itemDict w.params (3 + mix.fmod 9) 1 k1 k2 k3 t1 t2) 3) :: ex))
    (T : Top p loose mean mg mb h₀) (hk : cs.kind = .function)
    (hdp : dp + 8 < recursionLimit) (hun : un + 30 < cLine) (hC : Clock w own f now) (ho : ∀ q ∈ own, q ∈ (lm, instObj 700 ld) :: (ld, dictOf (limDict w.params x q5) 1) :: (px, instObj 275 pd) :: (pd, dictOf (itemDict w.params (3 + mix.fmod 9) 1 k1 k2 k3 t1 t2) 3) :: ex)
    (hT : TupAt h₀ td ([] : List Value).toArray ((sd, os) :: (xd, ox) :: (x, instObj 631 d) :: (d, dictOf (storeDict w.params f sd xd vd q1 q2 q3 q4) 4) :: (lm, instObj 700 ld) :: (ld, dictOf (limDict w.params x q5) 1) :: (px, instObj 275 pd) :: (pd, dictOf (itemDict w.params (3 + mix.fmod 9) 1 k1 k2 k3 t1 t2) 3) :: ex))
    (lS : (sd == sysModules) = false) (lX : (xd == sysModules) = false) (hS : Obj.IsDictOf (strKind Challenge.rw_jj0017_01.row.prog w) os kvs) (hX : Obj.IsDictOf (strKind Challenge.rw_jj0017_01.row.prog w) ox kvx)
    (fS : PyProof.V.FlatPairs PyData.str kvs (kdpD [(keyF [] (3 + mix.fmod 9), 2)])) (fX : PyProof.V.FlatPairs PyData.str kvx (kdpD [(keyF [] (3 + mix.fmod 9), now + 3600 * 1)]))
    (o1 : ∀ q ∈ (lm, instObj 700 ld) :: (ld, dictOf (limDict w.params x q5) 1) :: (px, instObj 275 pd) :: (pd, dictOf (itemDict w.params (3 + mix.fmod 9) 1 k1 k2 k3 t1 t2) 3) :: ex, q.1 ≠ sd) (o2 : ∀ q ∈ (lm, instObj 700 ld) :: (ld, dictOf (limDict w.params x q5) 1) :: (px, instObj 275 pd) :: (pd, dictOf (itemDict w.params (3 + mix.fmod 9) 1 k1 k2 k3 t1 t2) 3) :: ex, q.1 ≠ xd) (w1 : @LT.lt Nat _ d x) (w2 : @LT.lt Nat _ x sd) (w3 : @LT.lt Nat _ sd xd)
    (hcs : cst ≤ mix.fmod 9 + 1)
    (hret : ∀ (h' : Heap) (tk' : Nat), Fr h₀ L h' m → News h₀ L h' ((sd, os) :: (xd, ox) :: (x, instObj 631 d) :: (d, dictOf (storeDict w.params f sd xd vd q1 q2 q3 q4) 4) :: (lm, instObj 700 ld) :: (ld, dictOf (limDict w.params x q5) 1) :: (px, instObj 275 pd) :: (pd, dictOf (itemDict w.params (3 + mix.fmod 9) 1 k1 k2 k3 t1 t2) 3) :: ex) → R (.ok (.ret (.bool true))) { s with heap := h', toks := tk' }) :
    codeAny (model Challenge.rw_jj0017_01.row.prog w) (ktrTop dp un gd cn cs L a ccd cl outer) (.call (.ref 688) args) R s := by
  revert hfn hbind
  refine pick (by k_is) _ ?_
  intro e9
  cases e9
  intro hbind
  k_dflt walk_at "my enter2"
  k_steps
  have e8 : decide (2 < 3 + mix.fmod 9 - cst + 1) = true := decide_eq_true (by omega)
  rw [e8]
  exact hret _ _ (by assumption) (by walk_at "my led")
end
section
variable {w : World} {p : Program} {loose : List Str} {mean : ExcName → Option Value} {mg mb : Str → Option Value}
local macro_rules | `(tactic| walk_at "pad") => `(tactic| fail)
theorem ws_k (P : Params) : TupK (pre.heap_1 P) 443 := ⟨⟨_, by k_is, by decide +kernel⟩, by k_is, by k_is, by k_is, by k_is, by k_is, by k_is⟩
local macro_rules | `(tactic| walk_at "call builtin:tuple.__new__") => `(tactic| k_extra "u83")
theorem new_spec {dp un : Nat} {gd : Option (List Code)} {cn : Str} {cs : Scope} {a : Addr} {ccd : Value} {cl : List (Str × Addr)} {outer : List Env} {A₀ : Around} {base h₀ : Heap} {L : Addr} {m : Str → Option Value} {news : List (Addr × Obj)} {s : Shared} {R : Result → Shared → Prop} {va vb : Int} {vt vu : Tok}
    (B : Below A₀ base outer h₀) (F : Fr h₀ L s.heap m) (X : (pre.heap_1 w.params).In h₀) (N : News h₀ L s.heap news) (T : Top p loose mean mg mb h₀) (hk : cs.kind = .function)
    (hdp : dp + 2 < recursionLimit)
    (hret : ∀ (h' : Heap) (tk' : Nat) (x dx : Addr) (od : Obj), Fr h₀ L h' m → News h₀ L h' ((x, subTup 443 dx #[.int va vt, .int vb vu]) :: (dx, od) :: news) → R (.ok (.ret (.ref x))) { s with heap := h', toks := tk' }) :
    codeAny (model Challenge.rw_jj0017_01.row.prog w) (ktrTop dp un gd cn cs L a ccd cl outer) (.call (.ref 393) ⟨[.ref 443, .int va vt, .int vb vu], []⟩) R s := by
  k_dflt walk_at "my enter"
  k_steps
  exact hret _ _ _ _ _ (by assumption) (by walk_at "my led")
local macro_rules | `(tactic| walk_at "call ref") => `(tactic| k_extra "u84")
theorem stats_spec {dp un : Nat} {gd : Option (List Code)} {cn : Str} {cs : Scope} {a : Addr} {ccd : Value} {cl : List (Str × Addr)} {outer : List Env} {A₀ : Around} {base h₀ : Heap} {L : Addr} {m : Str → Option Value} {s : Shared} {R : Result → Shared → Prop} {x d sd xd vd f lm ld px pd td : Addr} {q1 q2 q3 q4 q5 k1 k2 k3 t1 t2 : Tok} {os ox : Obj} {own ex : List (Addr × Obj)} {now mix : Int} {kvs kvx : List (Str × Value)}
    {oc dV kV doc pm cdv ct : Value} {an od : Option Addr} {osl : Array (Option Value)} {nm qual : Str} {params : Arguments} {body : List Stmt} {scope : Scope} {args : Args}
    (hfn : (pre.heap_1 w.params).lookup 697 = some ⟨oc, od, .func (fnOf nm qual params body scope dV kV doc pm an cdv ct), osl⟩)
    (hbind : BindsTo s (fnOf nm qual params body scope dV kV doc pm an cdv ct) args [(Str.ofString "self", .ref lm), (Str.ofString "item", .ref px), (Str.ofString "identifiers", .ref td)])
    (B : Below A₀ base outer h₀) (F : Fr h₀ L s.heap m) (X : (pre.heap_1 w.params).In h₀)
    (N : News h₀ L s.heap ((sd, os) :: (xd, ox) :: (x, instObj 631 d) :: (d, dictOf (storeDict w.params f sd xd vd q1 q2 q3 q4) 4) :: (lm, instObj 700 ld) :: (ld, dictOf (limDict w.params x q5) 1) :: (px, instObj 275 pd) :: (pd, dictOf (itemDict w.params (3 + mix.fmod 9) 1 k1 k2 k3 t1 t2) 3) :: ex))
    (T : Top p loose mean mg mb h₀) (hk : cs.kind = .function)
    (hdp : dp + 8 < recursionLimit) (hun : un + 30 < cLine) (hC : Clock w own f now) (ho : ∀ q ∈ own, q ∈ (lm, instObj 700 ld) :: (ld, dictOf (limDict w.params x q5) 1) :: (px, instObj 275 pd) :: (pd, dictOf (itemDict w.params (3 + mix.fmod 9) 1 k1 k2 k3 t1 t2) 3) :: ex)
    (hT : TupAt h₀ td ([] : List Value).toArray ((sd, os) :: (xd, ox) :: (x, instObj 631 d) :: (d, dictOf (storeDict w.params f sd xd vd q1 q2 q3 q4) 4) :: (lm, instObj 700 ld) :: (ld, dictOf (limDict w.params x q5) 1) :: (px, instObj 275 pd) :: (pd, dictOf (itemDict w.params (3 + mix.fmod 9) 1 k1 k2 k3 t1 t2) 3) :: ex))
    (lS : (sd == sysModules) = false) (lX : (xd == sysModules) = false) (hS : Obj.IsDictOf (strKind Challenge.rw_jj0017_01.row.prog w) os kvs) (hX : Obj.IsDictOf (strKind Challenge.rw_jj0017_01.row.prog w) ox kvx)
    (fS : PyProof.V.FlatPairs PyData.str kvs (kdpD [(keyF [] (3 + mix.fmod 9), 2)])) (fX : PyProof.V.FlatPairs PyData.str kvx (kdpD [(keyF [] (3 + mix.fmod 9), now + 3600 * 1)]))
    (w1 : @LT.lt Nat _ d x) (w2 : @LT.lt Nat _ x sd) (w3 : @LT.lt Nat _ sd xd)
    (hret : ∀ (h' : Heap) (tk' : Nat) (y dy : Addr) (od : Obj) (rv vv : Int) (t' t0 : Tok), vv = 1 + mix.fmod 9 → Fr h₀ L h' m → News h₀ L h' ((y, subTup 443 dy #[.int rv t0, .int vv t']) :: (dy, od) :: (sd, os) :: (xd, ox) :: (x, instObj 631 d) :: (d, dictOf (storeDict w.params f sd xd vd q1 q2 q3 q4) 4) :: (lm, instObj 700 ld) :: (ld, dictOf (limDict w.params x q5) 1) :: (px, instObj 275 pd) :: (pd, dictOf (itemDict w.params (3 + mix.fmod 9) 1 k1 k2 k3 t1 t2) 3) :: ex) → R (.ok (.ret (.ref y))) { s with heap := h', toks := tk' }) :
    codeAny (model Challenge.rw_jj0017_01.row.prog w) (ktrTop dp un gd cn cs L a ccd cl outer) (.call (.ref 697) args) R s := by
  revert hfn hbind
  refine pick (by k_is) _ ?_
  intro e9
  cases e9
  intro hbind
  k_dflt walk_at "my enter2"
  k_steps
  refine hret _ _ _ _ _ _ _ _ _ ?_ (by assumption) (by walk_at "my led")
  have q := mod_lo mix (b := 9) (by decide)
  split <;> omega
end
section
variable {w : World} {p : Program} {loose : List Str} {mean : ExcName → Option Value} {mg mb : Str → Option Value}
theorem wget1 {dp un : Nat} {gd : Option (List Code)} {cn : Str} {cs : Scope} {a : Addr} {ccd : Value} {cl : List (Str × Addr)} {outer : List Env} {A₀ : Around} {base h₀ : Heap} {L : Addr} {m : Str → Option Value} {news : List (Addr × Obj)} {s : Shared} {R : Result → Shared → Prop} {y dy : Addr} {rv vv : Int} {t0 t' : Tok}
    (B : Below A₀ base outer h₀) (F : Fr h₀ L s.heap m) (X : (pre.heap_1 w.params).In h₀) (N : News h₀ L s.heap news) (T : Top p loose mean mg mb h₀) (hk : cs.kind = .function)
    (hdp : dp + 1 < recursionLimit)
    (hy : (y, subTup 443 dy #[.int rv t0, .int vv t']) ∈ news)
    (hret : ∀ (h' : Heap) (tk' : Nat), Fr h₀ L h' m → News h₀ L h' news → R (.ok (.ret (.int vv t'))) { s with heap := h', toks := tk' }) :
    codeAny (model Challenge.rw_jj0017_01.row.prog w) (ktrTop dp un gd cn cs L a ccd cl outer) (.call (.ref 333) ⟨[.ref 438, .ref y, .ref 443], []⟩) R s := by
  k_dflt walk_at "my enter"
  k_steps
  exact hret _ _ (by assumption) (by assumption)
theorem ws_rem {dp un : Nat} {gd : Option (List Code)} {cn : Str} {cs : Scope} {a : Addr} {ccd : Value} {cl : List (Str × Addr)} {outer : List Env} {A₀ : Around} {base h₀ : Heap} {L : Addr} {m : Str → Option Value} {news : List (Addr × Obj)} {s : Shared} {Q E : Value → Shared → Prop} {expr : Bool} {y dy : Addr} {rv vv : Int} {t0 t' : Tok} {od : Obj}
    (B : Below A₀ base outer h₀) (F : Fr h₀ L s.heap m) (X : (pre.heap_1 w.params).In h₀) (N : News h₀ L s.heap news) (T : Top p loose mean mg mb h₀) (hk : cs.kind = .function)
    (hdp : dp + 1 < recursionLimit)
    (hy : (y, subTup 443 dy #[.int rv t0, .int vv t']) ∈ news) (hdy : (dy, od) ∈ news)
    (hret : ∀ (h' : Heap) (tk' : Nat), Fr h₀ L h' m → News h₀ L h' news → Q (.int vv t') { s with heap := h', toks := tk' }) :
    wpAny (model Challenge.rw_jj0017_01.row.prog w) (ktrTop dp un gd cn cs L a ccd cl outer) (getAttr (.ref y) (Str.ofString "remaining") expr) Q E s := by
  refine getd_at (a := .ref 438) (g := 333) (X.keeps F.keep) (N _ hy).1 rfl rfl rfl (N _ hdy).1 (by k_is) (by k_is) (by k_is) (by k_is) (by k_is) (by k_is) (by k_is) ?_
  refine wpAny_call ?_
  k_dflt refine' wget1 B F X N T hk hdp hy ?_
  intro h' tk' F' N'
  exact handed_on rfl (hret h' tk' F' N')
theorem t3d1_walk {fa L : Addr} {h₀ : Heap} {s : Shared} {x d sd xd vd f px pd : Addr} {q1 q2 q3 q4 : Tok} {os ox ov c : Obj} {own ex : List (Addr × Obj)} {mix : Int} {k1 k2 k3 t1 t2 tm : Tok} {kvv : List (Str × Value)} {u : Str → Option Value} {oc dV kV doc pm ct : Value} {an od : Option Addr} {osl : Array (Option Value)} {nm qual : Str} {params : Arguments} {body rest : List Stmt} {scope : Scope} {R : Flow → Shared → Prop} {E : Value → Shared → Prop}
    (ho : (pre.heap_1 w.params).lookup 736 = some ⟨oc, od, .func (fnOf nm qual params body scope dV kV doc pm an (.ref 735) ct), osl⟩)
    (B : Below callerA h₀ [] h₀) (X : (pre.heap_1 w.params).In h₀) (T : Top p loose mean mg mb h₀)
    (F : Fr h₀ L s.heap (fun y => if y = Str.ofString "store" then some (.ref x) else if y = Str.ofString "plain" then some (.ref px) else u y))
    (N : News h₀ L s.heap ((sd, os) :: (xd, ox) :: (x, instObj 631 d) :: (d, dictOf (storeDict w.params f sd xd vd q1 q2 q3 q4) 4) :: (px, instObj 275 pd) :: (pd, dictOf (itemDict w.params (3 + mix.fmod 9) 1 k1 k2 k3 t1 t2) 3) :: (vd, ov) :: (L + 1, c) :: ex))
    (hc : c.data = .cell (some (.int mix tm))) 
    (hC : Clock w own f (1000 + mix.fmod 1000)) (hO : ∀ q ∈ own, q ∈ (L + 1, c) :: ex)
    (lS : (sd == sysModules) = false) (lX : (xd == sysModules) = false) (lV : (vd == sysModules) = false) (hS : Obj.IsDictOf (strKind Challenge.rw_jj0017_01.row.prog w) os []) (hX : Obj.IsDictOf (strKind Challenge.rw_jj0017_01.row.prog w) ox []) (hV : Obj.IsDictOf (strKind Challenge.rw_jj0017_01.row.prog w) ov kvv)
    (nV : kvv.length = 2)
    (o1 : ∀ q ∈ ex, q.1 ≠ sd) (o2 : ∀ q ∈ ex, q.1 ≠ xd) (o3 : ∀ q ∈ ex, q.1 ≠ vd) (l1 : @LT.lt Nat _ (L + 1) pd) (l2 : @LT.lt Nat _ pd px) (l3 : @LT.lt Nat _ px d) (w1 : @LT.lt Nat _ d x) (w2 : @LT.lt Nat _ x sd) (w3 : @LT.lt Nat _ sd xd) (w4 : @LT.lt Nat _ xd vd)
    (hret : ∀ (h' : Heap) (tk' : Nat) (lm ld : Addr) (q5 : Tok), Fr h₀ L h' (fun y => if y = Str.ofString "limiter" then some (.ref lm) else if y = Str.ofString "store" then some (.ref x) else if y = Str.ofString "plain" then some (.ref px) else u y) →
      News h₀ L h' ((sd, os) :: (xd, ox) :: (x, instObj 631 d) :: (d, dictOf (storeDict w.params f sd xd vd q1 q2 q3 q4) 4) :: (lm, instObj 700 ld) :: (ld, dictOf (limDict w.params x q5) 1) :: (px, instObj 275 pd) :: (pd, dictOf (itemDict w.params (3 + mix.fmod 9) 1 k1 k2 k3 t1 t2) 3) :: (vd, ov) :: (L + 1, c) :: ex) → @LT.lt Nat _ vd ld → @LT.lt Nat _ ld lm →
      wpAny (model Challenge.rw_jj0017_01.row.prog w) (callerA.deeper (envOfC qual scope L fa (.ref 735))) (execs rest (envOfC qual scope L fa (.ref 735))) R E { s with heap := h', toks := tk' }) :
    wpAny (model Challenge.rw_jj0017_01.row.prog w) (callerA.deeper (envOfC qual scope L fa (.ref 735))) (execs (one (tl (tl (tl (tl (tl (tl (tl (tl (tl (tl (tl body))))))))))) rest) (envOfC qual scope L fa (.ref 735))) R E s := by
  revert ho
  refine pick (by k_is) _ ?_
  intro e
  cases e
  dsimp only [tl, one]
  k_steps
  refine hret _ _ _ _ _ (by assumption) (by walk_at "my led") ?_ ?_ <;> omega
end
section
variable {w : World} {p : Program} {loose : List Str} {mean : ExcName → Option Value} {mg mb : Str → Option Value}
local macro_rules | `(tactic| walk_at "pad") => `(tactic| fail)
theorem led_hit {h₀ h : Heap} {L : Addr} {t s1 s2 s3 s4 s5 s6 s7 s8 : Addr × Obj} {ex : List (Addr × Obj)} (N : News h₀ L h (t :: s1 :: s2 :: s3 :: s4 :: s5 :: s6 :: s7 :: s8 :: ex)) : News h₀ L h (s1 :: s2 :: s3 :: s4 :: s5 :: s6 :: s7 :: s8 :: t :: ex) := fun q hq => N q (by simp only [List.mem_cons] at hq ⊢; rcases hq with h | h | h | h | h | h | h | h | h | h <;> simp [h])
theorem led_unhit {h₀ h : Heap} {L D : Addr} {s1 s2 s3 s4 s5 s6 s7 s8 : Addr × Obj} {ex : List (Addr × Obj)} (N : News h₀ L h (s1 :: s2 :: s3 :: s4 :: s5 :: s6 :: s7 :: s8 :: (D, ({ cls := .type "tuple", data := .seq #[] } : Obj)) :: ex)) : News h₀ L h (s1 :: s2 :: s3 :: s4 :: s5 :: s6 :: s7 :: s8 :: ex) := fun q hq => N q (by simp only [List.mem_cons] at hq ⊢; rcases hq with h | h | h | h | h | h | h | h | h <;> simp [h])
theorem ne_ins {a : Addr} {t s1 s2 s3 s4 : Addr × Obj} {ex : List (Addr × Obj)} (h : ∀ q ∈ s1 :: s2 :: s3 :: s4 :: ex, q.1 ≠ a) (ht : @LT.lt Nat _ a t.1) : ∀ q ∈ s1 :: s2 :: s3 :: s4 :: t :: ex, q.1 ≠ a := by
  intro q hq
  simp only [List.mem_cons] at hq
  rcases hq with rfl | rfl | rfl | rfl | rfl | hq
  · exact h _ (by simp)
  · exact h _ (by simp)
  · exact h _ (by simp)
  · exact h _ (by simp)
  · exact Nat.ne_of_gt ht
  · exact h _ (by simp [hq])
theorem own_ins {t s1 s2 s3 s4 : Addr × Obj} {own ex : List (Addr × Obj)} (h : ∀ q ∈ own, q ∈ s1 :: s2 :: s3 :: s4 :: ex) : ∀ q ∈ own, q ∈ s1 :: s2 :: s3 :: s4 :: t :: ex := by
  intro q hq
  have := h q hq
  simp only [List.mem_cons] at this ⊢
  rcases this with h | h | h | h | h <;> simp [h]
local macro_rules | `(tactic| walk_at "call ref") => `(tactic| k_extra "u85")
local macro_rules | `(tactic| walk_at "call ref") => `(tactic| k_extra "u86")
local macro_rules | `(tactic| walk_at "call ref") => `(tactic| k_extra "u87")
local macro_rules | `(tactic| walk_at "getAttr ref") => `(tactic| k_extra "u88")
theorem led_end {h₀ h : Heap} {L : Addr} {a1 a2 a3 s1 s2 s3 s4 b1 b2 b3 b4 t v l : Addr × Obj} {ex : List (Addr × Obj)} (N : News h₀ L h (a1 :: a2 :: a3 :: s1 :: s2 :: s3 :: s4 :: b1 :: b2 :: b3 :: b4 :: t :: v :: l :: ex)) : News h₀ L h (v :: s1 :: s2 :: s3 :: s4 :: ex) := fun q hq => N q (by simp only [List.mem_cons] at hq ⊢; rcases hq with h | h | h | h | h | h <;> simp [h])
theorem flat_le {kvs : List (Str × Value)} {k : Str} {v : Int} (h : PyProof.V.FlatPairs PyData.str kvs (kdpD [(k, v)])) : kvs.length ≤ 100 := by
  have := flat_one h
  omega
local macro_rules | `(tactic| walk_at "call ref") => `(tactic| k_extra "u89")
theorem two_of {a b : List (Str × Value)} (h : a.length = 2) (k : b.length = 1) : ((if (a.length : Int) > b.length then (a.length : Int) else b.length) == 2) = true := by
  rw [h, k]
  decide
theorem cast_ret {R : Flow → Shared → Prop} {b : Bool} {s : Shared} (e : b = true) (h : R (.ret (.bool true)) s) : R (.ret (.bool b)) s := by
  subst e
  exact h
theorem t3d2_walk {fa L : Addr} {h₀ : Heap} {s : Shared} {x d sd xd vd f px pd lm ld : Addr} {q1 q2 q3 q4 q5 : Tok} {os ox ov c : Obj} {own ex : List (Addr × Obj)} {mix : Int} {k1 k2 k3 t1 t2 tm : Tok} {kvv : List (Str × Value)} {u : Str → Option Value} {oc dV kV doc pm ct : Value} {an od : Option Addr} {osl : Array (Option Value)} {nm qual : Str} {params : Arguments} {body : List Stmt} {scope : Scope} {R : Flow → Shared → Prop} {E : Value → Shared → Prop}
    (ho : (pre.heap_1 w.params).lookup 736 = some ⟨oc, od, .func (fnOf nm qual params body scope dV kV doc pm an (.ref 735) ct), osl⟩)
    (B : Below callerA h₀ [] h₀) (X : (pre.heap_1 w.params).In h₀) (T : Top p loose mean mg mb h₀)
    (F : Fr h₀ L s.heap (fun y => if y = Str.ofString "limiter" then some (.ref lm) else if y = Str.ofString "store" then some (.ref x) else if y = Str.ofString "plain" then some (.ref px) else u y))
    (N : News h₀ L s.heap ((sd, os) :: (xd, ox) :: (x, instObj 631 d) :: (d, dictOf (storeDict w.params f sd xd vd q1 q2 q3 q4) 4) :: (lm, instObj 700 ld) :: (ld, dictOf (limDict w.params x q5) 1) :: (px, instObj 275 pd) :: (pd, dictOf (itemDict w.params (3 + mix.fmod 9) 1 k1 k2 k3 t1 t2) 3) :: (vd, ov) :: (L + 1, c) :: ex))
    (hc : c.data = .cell (some (.int mix tm)))
    (hC : Clock w own f (1000 + mix.fmod 1000)) (hO : ∀ q ∈ own, q ∈ (lm, instObj 700 ld) :: (ld, dictOf (limDict w.params x q5) 1) :: (px, instObj 275 pd) :: (pd, dictOf (itemDict w.params (3 + mix.fmod 9) 1 k1 k2 k3 t1 t2) 3) :: (vd, ov) :: (L + 1, c) :: ex)
    (hN : 0 ≤ 1000 + mix.fmod 1000)
    (lS : (sd == sysModules) = false) (lX : (xd == sysModules) = false) (lV : (vd == sysModules) = false) (hS : Obj.IsDictOf (strKind Challenge.rw_jj0017_01.row.prog w) os []) (hX : Obj.IsDictOf (strKind Challenge.rw_jj0017_01.row.prog w) ox []) (hV : Obj.IsDictOf (strKind Challenge.rw_jj0017_01.row.prog w) ov kvv)
    (fS : PyProof.V.FlatPairs PyData.str ([] : List (Str × Value)) (kdpD [])) (fX : PyProof.V.FlatPairs PyData.str ([] : List (Str × Value)) (kdpD []))
    (nV : kvv.length = 2)
    (o1 : ∀ q ∈ (lm, instObj 700 ld) :: (ld, dictOf (limDict w.params x q5) 1) :: (px, instObj 275 pd) :: (pd, dictOf (itemDict w.params (3 + mix.fmod 9) 1 k1 k2 k3 t1 t2) 3) :: (vd, ov) :: (L + 1, c) :: ex, q.1 ≠ sd) (o2 : ∀ q ∈ (lm, instObj 700 ld) :: (ld, dictOf (limDict w.params x q5) 1) :: (px, instObj 275 pd) :: (pd, dictOf (itemDict w.params (3 + mix.fmod 9) 1 k1 k2 k3 t1 t2) 3) :: (vd, ov) :: (L + 1, c) :: ex, q.1 ≠ xd)
    (w1 : @LT.lt Nat _ d x) (w2 : @LT.lt Nat _ x sd) (w3 : @LT.lt Nat _ sd xd) (w4 : @LT.lt Nat _ xd vd)
    (p1 : ∀ q ∈ ex, q.1 ≠ sd) (p2 : ∀ q ∈ ex, q.1 ≠ xd) (p3 : ∀ q ∈ ex, q.1 ≠ vd)
    (hret : ∀ (h' : Heap) (tk' : Nat) (m' : Str → Option Value), Fr h₀ L h' m' → News h₀ L h' ex → R (.ret (.bool true)) { s with heap := h', toks := tk' }) :
    wpAny (model Challenge.rw_jj0017_01.row.prog w) (callerA.deeper (envOfC qual scope L fa (.ref 735))) (execs (tl (tl (tl (tl (tl (tl (tl (tl (tl (tl (tl (tl body)))))))))))) (envOfC qual scope L fa (.ref 735))) R E s := by
  revert ho
  refine pick (by k_is) _ ?_
  intro e
  cases e
  dsimp only [tl, one]
  have q8 : 0 ≤ mix.fmod 9 := mod_lo mix (by decide)
  k_steps
  · exact cast_ret (two_of nV (flat_one (k := keyF [] (3 + mix.fmod 9)) (v := 2) (by assumption))) (hret _ _ _ (by assumption) (by repeat (first | assumption | apply news_tl)))
  · exact cast_ret (beq_self_eq_true _) (hret _ _ _ (by assumption) (by repeat (first | assumption | apply news_tl)))
end
section
variable {w : World} {p : Program} {loose : List Str} {mean : ExcName → Option Value} {mg mb : Str → Option Value}
local macro_rules | `(tactic| walk_at "pad") => `(tactic| fail)
local macro_rules | `(tactic| walk_at "pad") => `(tactic| fail)
local macro_rules | `(tactic| walk_at "pad") => `(tactic| fail)
local macro_rules | `(tactic| walk_at "pad") => `(tactic| fail)
local macro_rules | `(tactic| walk_at "pad") => `(tactic| fail)
local macro_rules | `(tactic| walk_at "pad") => `(tactic| fail)
local macro_rules | `(tactic| walk_at "pad") => `(tactic| fail)
theorem six_of {n k : Int} (h : n.fmod 6 = k) : k = 0 ∨ k = 1 ∨ k = 2 ∨ k = 3 ∨ k = 4 ∨ k = 5 := by
  have h1 := Int.fmod_nonneg_of_pos n (show (0 : Int) < 6 by decide)
  have h2 := Int.fmod_lt_of_pos n (show (0 : Int) < 6 by decide)
  omega
def Grain (C : Addr) (sec : Int) (nm nms : Str) : Prop :=
  (C = 309 ∧ sec = 1 ∧ nm = Str.ofString "second" ∧ nms = Str.ofString "seconds") ∨ (C = 292 ∧ sec = 60 ∧ nm = Str.ofString "minute" ∧ nms = Str.ofString "minutes") ∨
  (C = 275 ∧ sec = 3600 ∧ nm = Str.ofString "hour" ∧ nms = Str.ofString "hours") ∨ (C = 258 ∧ sec = 86400 ∧ nm = Str.ofString "day" ∧ nms = Str.ofString "days") ∨
  (C = 241 ∧ sec = 2592000 ∧ nm = Str.ofString "month" ∧ nms = Str.ofString "months") ∨ (C = 224 ∧ sec = 31104000 ∧ nm = Str.ofString "year" ∧ nms = Str.ofString "years")
def loopBody : List Stmt → List Stmt
  | .For _ _ b _ _ :: _ => b
  | _ => []
local macro_rules | `(tactic| walk_at "subscriptTail") => `(tactic| k_extra "u90")
local macro_rules | `(tactic| walk_at "subscriptTail") => `(tactic| k_extra "u91")
local macro_rules | `(tactic| walk_at "subscriptTail Name BinOp str int") => `(tactic| k_extra "u92")
theorem turnA {fa L : Addr} {h₀ : Heap} {s : Shared} {n : Int} {t : Tok} {u : Str → Option Value} {news : List (Addr × Obj)} {oc dV kV doc pm ct : Value} {an od : Option Addr} {osl : Array (Option Value)} {nm qual : Str} {params : Arguments} {body rest : List Stmt} {scope : Scope} {R : Flow → Shared → Prop} {E : Value → Shared → Prop}
    (ho : (pre.heap_1 w.params).lookup 736 = some ⟨oc, od, .func (fnOf nm qual params body scope dV kV doc pm an (.ref 735) ct), osl⟩)
    (B : Below callerA h₀ [] h₀) (X : (pre.heap_1 w.params).In h₀) (T : Top p loose mean mg mb h₀)
    (F : Fr h₀ L s.heap (fun y => if y = Str.ofString "n" then some (.int n t) else u y))
    (N : News h₀ L s.heap news)
    (hret : ∀ (h' : Heap) (tk' : Nat) (C : Addr) (sec : Int) (gn gns x : Str) (c : Nat) (z1 z2 z3 z4 z5 : Tok), Grain C sec gn gns → NameIs C gn gns x (if ((n.fdiv 6).fmod 4).toNat % 2 = 0 then true else false) → isBl c = true →
      Fr h₀ L h' (fun y => if y = Str.ofString "amount" then some (.int ((n.fdiv 240).fmod 1000) z1) else if y = Str.ofString "blank" then some (.str ⟨#[c]⟩ z2) else if y = Str.ofString "name" then some (.str x z3) else if y = Str.ofString "seconds" then some (.int sec z4) else if y = Str.ofString "grain" then some (.str gn z5) else if y = Str.ofString "n" then some (.int n t) else u y) →
      News h₀ L h' news →
      wpAny (model Challenge.rw_jj0017_01.row.prog w) (callerA.deeper (envOfC qual scope L fa (.ref 735))) (execs rest (envOfC qual scope L fa (.ref 735))) R E { s with heap := h', toks := tk' }) :
    wpAny (model Challenge.rw_jj0017_01.row.prog w) (callerA.deeper (envOfC qual scope L fa (.ref 735))) (execs (one (loopBody body) (one (tl (loopBody body)) (one (tl (tl (loopBody body))) (one (tl (tl (tl (loopBody body)))) rest)))) (envOfC qual scope L fa (.ref 735))) R E s := by
  revert ho
  refine pick (by k_is) _ ?_
  intro e
  cases e
  dsimp only [loopBody, tl, one]
  k_steps
  all_goals
    refine hret _ _ _ _ _ _ _ _ _ _ _ _ _ ?_ (by assumption) (by assumption) (by assumption) (by repeat (first | assumption | apply news_tl))
    first
      | exact .inl ⟨rfl, rfl, rfl, rfl⟩
      | exact .inr (.inl ⟨rfl, rfl, rfl, rfl⟩)
      | exact .inr (.inr (.inl ⟨rfl, rfl, rfl, rfl⟩))
      | exact .inr (.inr (.inr (.inl ⟨rfl, rfl, rfl, rfl⟩)))
      | exact .inr (.inr (.inr (.inr (.inl ⟨rfl, rfl, rfl, rfl⟩))))
      | exact .inr (.inr (.inr (.inr (.inr ⟨rfl, rfl, rfl, rfl⟩))))
end
section
variable {w : World} {p : Program} {loose : List Str} {mean : ExcName → Option Value} {mg mb : Str → Option Value}
def turnNames : List Str := [Str.ofString "grain", Str.ofString "seconds", Str.ofString "name", Str.ofString "blank", Str.ofString "amount", Str.ofString "item", Str.ofString "made", Str.ofString "n"]
theorem not_in {z x : Str} (h : turnNames.contains z = false) (hx : turnNames.contains x = true) : z ≠ x := by
  rintro rfl
  rw [h] at hx
  cases hx
local macro_rules | `(tactic| walk_at "call ref") => `(tactic| k_extra "u93")
local macro_rules | `(tactic| walk_at "call ref") => `(tactic| k_extra "u94")
theorem turnB {fa L : Addr} {h₀ : Heap} {s : Shared} {n : Int} {t : Tok} {C : Addr} {sec : Int} {gn gns x : Str} {c : Nat} {z1 z2 z3 z4 z5 : Tok} {u : Str → Option Value} {news : List (Addr × Obj)} {oc dV kV doc pm ct : Value} {an od : Option Addr} {osl : Array (Option Value)} {nm qual : Str} {params : Arguments} {body : List Stmt} {scope : Scope} {R : Flow → Shared → Prop} {E : Value → Shared → Prop}
    (ho : (pre.heap_1 w.params).lookup 736 = some ⟨oc, od, .func (fnOf nm qual params body scope dV kV doc pm an (.ref 735) ct), osl⟩)
    (B : Below callerA h₀ [] h₀) (X : (pre.heap_1 w.params).In h₀) (T : Top p loose mean mg mb h₀)
    (hG : Grain C sec gn gns) (nmF : NameIs C gn gns x (if ((n.fdiv 6).fmod 4).toNat % 2 = 0 then true else false)) (blF : isBl c = true)
    (F : Fr h₀ L s.heap (fun y => if y = Str.ofString "amount" then some (.int ((n.fdiv 240).fmod 1000) z1) else if y = Str.ofString "blank" then some (.str ⟨#[c]⟩ z2) else if y = Str.ofString "name" then some (.str x z3) else if y = Str.ofString "seconds" then some (.int sec z4) else if y = Str.ofString "grain" then some (.str gn z5) else if y = Str.ofString "n" then some (.int n t) else u y))
    (N : News h₀ L s.heap news)
    (hret : ∀ h' tk' m', Fr h₀ L h' m' → News h₀ L h' news → (∀ z, turnNames.contains z = false → m' z = u z) → R .next { s with heap := h', toks := tk' }) :
    wpAny (model Challenge.rw_jj0017_01.row.prog w) (callerA.deeper (envOfC qual scope L fa (.ref 735))) (execs (tl (tl (tl (tl (loopBody body))))) (envOfC qual scope L fa (.ref 735))) R E s := by
  revert ho
  refine pick (by k_is) _ ?_
  intro e
  cases e
  dsimp only [loopBody, tl, one]
  have f0 := nmF.cls
  have f1 := nmF.f0
  have f2 := nmF.f1
  have f3 := nmF.f2
  have f4 := nmF.f3
  have f5 := nmF.f4
  have f6 := nmF.f5
  have f7 := nmF.own
  have f8 := nmF.more
  have f9 := nmF.len
  have f10 := x_len nmF.len (show (Str.ofString "s").length ≤ 1 from by decide)
  have f11 : (⟨#[c]⟩ : Str).length ≤ 1 := Nat.le_refl 1
  rcases hG with ⟨rfl, rfl, rfl, rfl⟩ | ⟨rfl, rfl, rfl, rfl⟩ | ⟨rfl, rfl, rfl, rfl⟩ | ⟨rfl, rfl, rfl, rfl⟩ | ⟨rfl, rfl, rfl, rfl⟩ | ⟨rfl, rfl, rfl, rfl⟩
  all_goals k_steps
  all_goals first
    | (exfalso; (rename ((_ != _) = true) => q9); rw [par_ok] at q9; cases q9)
    | (refine hret _ _ _ (by assumption) (by repeat (first | assumption | apply news_tl)) ?_
       intro z hz
       repeat (refine skip_if (not_in hz (by decide +kernel)) ?_)
       rfl)
end
section
variable {w : World} {p : Program} {loose : List Str} {mean : ExcName → Option Value} {mg mb : Str → Option Value}
local macro_rules | `(tactic| walk_at "pad") => `(tactic| fail)
local macro_rules | `(tactic| walk_at "pad") => `(tactic| fail)
local macro_rules | `(tactic| walk_at "pad") => `(tactic| fail)
theorem four {b : List Stmt} (h : ∃ s1 s2 s3 s4 r, b = s1 :: s2 :: s3 :: s4 :: r) : one b (one (tl b) (one (tl (tl b)) (one (tl (tl (tl b))) (tl (tl (tl (tl b))))))) = b := by
  obtain ⟨s1, s2, s3, s4, r, rfl⟩ := h
  rfl
theorem turn_walk {fa L : Addr} {h₀ : Heap} {s : Shared} {n : Int} {t : Tok} {u : Str → Option Value} {news : List (Addr × Obj)} {oc dV kV doc pm ct : Value} {an od : Option Addr} {osl : Array (Option Value)} {nm qual : Str} {params : Arguments} {body : List Stmt} {scope : Scope} {R : Flow → Shared → Prop} {E : Value → Shared → Prop}
    (ho : (pre.heap_1 w.params).lookup 736 = some ⟨oc, od, .func (fnOf nm qual params body scope dV kV doc pm an (.ref 735) ct), osl⟩)
    (B : Below callerA h₀ [] h₀) (X : (pre.heap_1 w.params).In h₀) (T : Top p loose mean mg mb h₀)
    (F : Fr h₀ L s.heap (fun y => if y = Str.ofString "n" then some (.int n t) else u y))
    (N : News h₀ L s.heap news)
    (hret : ∀ h' tk' m', Fr h₀ L h' m' → News h₀ L h' news → (∀ z, turnNames.contains z = false → m' z = u z) → R .next { s with heap := h', toks := tk' }) :
    wpAny (model Challenge.rw_jj0017_01.row.prog w) (callerA.deeper (envOfC qual scope L fa (.ref 735))) (execs (loopBody body) (envOfC qual scope L fa (.ref 735))) R E s := by
  have h4 : ∃ s1 s2 s3 s4 r, loopBody body = s1 :: s2 :: s3 :: s4 :: r := by
    have ho' := ho
    revert ho'
    refine pick (by k_is) _ ?_
    intro e
    cases e
    exact ⟨_, _, _, _, _, rfl⟩
  rw [← four h4]
  refine turnA ho B X T F N ?_
  intro h' tk' C sec gn gns x c z1 z2 z3 z4 z5 hG hN hb F' N'
  exact turnB ho B X T hG hN hb F' N' hret
theorem turn_inv {fa L l : Addr} {h₀ : Heap} {s : Shared} {n : Int} {t : Tok} {m₀ m₁ : Str → Option Value} {news news₁ own : List (Addr × Obj)} {vs : Array Value} {nn : Nat} {oc dV kV doc pm ct : Value} {an od : Option Addr} {osl : Array (Option Value)} {nm qual : Str} {params : Arguments} {body : List Stmt} {scope : Scope} {Q : Flow → Shared → Prop} {E : Value → Shared → Prop}
    (ho : (pre.heap_1 w.params).lookup 736 = some ⟨oc, od, .func (fnOf nm qual params body scope dV kV doc pm an (.ref 735) ct), osl⟩)
    (B : Below callerA h₀ [] h₀) (X : (pre.heap_1 w.params).In h₀) (T : Top p loose mean mg mb h₀)
    (F : Fr h₀ L s.heap (fun y => if y = Str.ofString "n" then some (.int n t) else m₁ y))
    (N : News h₀ L s.heap (news₁ ++ own)) (hl : (l, listOf vs nn) ∈ news₁)
    (hJ : news₁ = news ∧ ∀ z, turnNames.contains z = false → m₁ z = m₀ z) :
    wpAny (model Challenge.rw_jj0017_01.row.prog w) (callerA.deeper (envOfC qual scope L fa (.ref 735))) (execs (loopBody body) (envOfC qual scope L fa (.ref 735)))
      (InvPostN h₀ L (fun m' nx => (l, listOf vs nn) ∈ nx ∧ (nx = news ∧ ∀ z, turnNames.contains z = false → m' z = m₀ z)) own (news.map (·.1)) s Q) E s := by
  refine turn_walk ho B X T F N ?_
  intro h' tk' m' F' N' hm
  obtain ⟨rfl, h1⟩ := hJ
  exact ⟨h', tk', m', news₁ ++ own, news₁, rfl, F', N', fun p hp => List.mem_append_left _ hp, fun p hp => List.mem_append_right _ hp, rfl, hl, rfl, fun z hz => (hm z hz).trans (h1 z hz)⟩
theorem loop_inv {fa L l : Addr} {h₀ : Heap} {s : Shared} {m₀ : Str → Option Value} {news : List (Addr × Obj)} {vs : List Value} {ns : List Int} {nn : Nat} {bd : List Stmt} {oc dV kV doc pm ct : Value} {an od : Option Addr} {osl : Array (Option Value)} {nm qual : Str} {params : Arguments} {body : List Stmt} {scope : Scope} {Q : Flow → Shared → Prop} {E : Value → Shared → Prop}
    (ho : (pre.heap_1 w.params).lookup 736 = some ⟨oc, od, .func (fnOf nm qual params body scope dV kV doc pm an (.ref 735) ct), osl⟩) (hb : loopBody body = bd)
    (B : Below callerA h₀ [] h₀) (X : (pre.heap_1 w.params).In h₀) (T : Top p loose mean mg mb h₀)
    (F : Fr h₀ L s.heap m₀) (N : News h₀ L s.heap news) (hl : (l, listOf vs.toArray nn) ∈ news) (hi : IntsAre vs ns)
    (done : ∀ h' tk' m', Fr h₀ L h' m' → News h₀ L h' news → (∀ z, turnNames.contains z = false → m' z = m₀ z) → Q .next { s with heap := h', toks := tk' }) :
    wpAny (model Challenge.rw_jj0017_01.row.prog w) (callerA.deeper (envOfC qual scope L fa (.ref 735))) (pyIter (.ref l)) (fun it s₂ => LoopAtV Challenge.rw_jj0017_01.row.prog w (callerA.deeper (envOfC qual scope L fa (.ref 735))) h₀ (envOfC qual scope L fa (.ref 735)) (Str.ofString "n") bd Q E it s₂) E s := by
  subst hb
  refine iter_invNL (fun _ m nx => nx = news ∧ ∀ z, turnNames.contains z = false → m z = m₀ z) rfl hl hi F N ⟨rfl, fun _ _ => rfl⟩ ?_ ?_
  · intro i n t m₁ news₁ h tk own _ _ _ hl' hJ F₁ N₁
    exact turn_inv ho B X T F₁ N₁ hl' hJ
  · intro m₁ news₁ h tk _ hJ F₁ N₁
    obtain ⟨rfl, hz⟩ := hJ
    exact done h tk m₁ F₁ N₁ hz
local macro_rules | `(tactic| walk_at "pyIter ref") => `(tactic| k_extra "u95")
theorem loop_walk {fa L l : Addr} {h₀ : Heap} {s : Shared} {vs : List Value} {ns : List Int} {c : Obj} {m0 : Str → Option Value} {oc dV kV doc pm ct : Value} {an od : Option Addr} {osl : Array (Option Value)} {nm qual : Str} {params : Arguments} {body rest : List Stmt} {scope : Scope} {R : Flow → Shared → Prop} {E : Value → Shared → Prop}
    (ho : (pre.heap_1 w.params).lookup 736 = some ⟨oc, od, .func (fnOf nm qual params body scope dV kV doc pm an (.ref 735) ct), osl⟩)
    (B : Below callerA h₀ [] h₀) (X : (pre.heap_1 w.params).In h₀) (T : Top p loose mean mg mb h₀)
    (F : Fr h₀ L s.heap (fun y => if y = Str.ofString "script" then some (.ref l) else m0 y))
    (hc : c.data = .cell none) (N : News h₀ L s.heap [(L + 1, c), (733, tabObj #[])])
    (C : CodeHd h₀ 735 733) (hl : h₀.IsList l vs.toArray) (hi : IntsAre vs ns) (hn : ¬ (63 : Int) < ns.length) (l0 : @LT.lt Nat _ 733 L)
    (hE : PassesOwn (model Challenge.rw_jj0017_01.row.prog w) (callerA.deeper (envOfC qual scope L fa (.ref 735))) (envOfC qual scope L fa (.ref 735)) E)
    (hret : ∀ (h' : Heap) (tk' : Nat) (m' : Str → Option Value), Fr h₀ L h' m' → News h₀ L h' [(L + 1, c), (733, tabObj #[])] → (∀ z, turnNames.contains z = false → m' z = (if z = Str.ofString "script" then some (.ref l) else m0 z)) →
      wpAny (model Challenge.rw_jj0017_01.row.prog w) (callerA.deeper (envOfC qual scope L fa (.ref 735))) (execs rest (envOfC qual scope L fa (.ref 735))) R E { s with heap := h', toks := tk' }) :
    wpAny (model Challenge.rw_jj0017_01.row.prog w) (callerA.deeper (envOfC qual scope L fa (.ref 735))) (execs (one body rest) (envOfC qual scope L fa (.ref 735))) R E s := by
  revert ho
  refine pick (by k_is) _ ?_
  intro e
  cases e
  dsimp only [one]
  walk1
  k_here
  k_dflt (refine' For_invVF (h₀ := h₀) ?F ?x ?p ?_ ?s ?e)
  (case F => k_asm)
  (case x => with_unfolding_all rfl)
  (case p => with_unfolding_all rfl)
  (case s => intro _; rfl)
  (case e => assumption)
  k_steps
  all_goals exact hret _ _ _ (by assumption) (by repeat (first | assumption | apply news_tl)) (by assumption)
end
section
variable {w : World} {p : Program} {loose : List Str} {mean : ExcName → Option Value} {mg mb : Str → Option Value}
theorem twelve {b : List Stmt} (h : ∃ s0 s1 s2 s3 s4 s5 s6 s7 s8 s9 s10 s11 r, b = s0 :: s1 :: s2 :: s3 :: s4 :: s5 :: s6 :: s7 :: s8 :: s9 :: s10 :: s11 :: r) : (one b (one (tl b) (one (tl (tl b)) (one (tl (tl (tl b))) (one (tl (tl (tl (tl b)))) (one (tl (tl (tl (tl (tl b))))) (one (tl (tl (tl (tl (tl (tl b)))))) (one (tl (tl (tl (tl (tl (tl (tl b))))))) (one (tl (tl (tl (tl (tl (tl (tl (tl b)))))))) (one (tl (tl (tl (tl (tl (tl (tl (tl (tl b))))))))) (one (tl (tl (tl (tl (tl (tl (tl (tl (tl (tl b)))))))))) (one (tl (tl (tl (tl (tl (tl (tl (tl (tl (tl (tl b))))))))))) (tl (tl (tl (tl (tl (tl (tl (tl (tl (tl (tl (tl b)))))))))))))))))))))))) = b := by
  obtain ⟨s0, s1, s2, s3, s4, s5, s6, s7, s8, s9, s10, s11, r, rfl⟩ := h
  rfl
theorem fr_pull {h₀ h : Heap} {L : Addr} {m : Str → Option Value} {a : Str} {v : Value} (F : Fr h₀ L h m) (e : m a = some v) : Fr h₀ L h (fun y => if y = a then some v else m y) := by
  have e2 : (fun y => if y = a then some v else m y) = m := by
    funext y
    by_cases hy : y = a
    · rw [if_pos hy, hy, e]
    · rw [if_neg hy]
  rw [e2]
  exact F
theorem ne_nil {a : Addr} : ∀ q ∈ ([] : List (Addr × Obj)), q.1 ≠ a := fun _ h => absurd h List.not_mem_nil
theorem ne_gt {a b : Addr} {o : Obj} {ex : List (Addr × Obj)} (h : @LT.lt Nat _ a b) (k : ∀ q ∈ ex, q.1 ≠ a) : ∀ q ∈ (b, o) :: ex, q.1 ≠ a := fun q hq => by
  rcases List.mem_cons.mp hq with rfl | hq
  · exact Nat.ne_of_gt h
  · exact k q hq
theorem ne_lt {a b : Addr} {o : Obj} {ex : List (Addr × Obj)} (h : @LT.lt Nat _ b a) (k : ∀ q ∈ ex, q.1 ≠ a) : ∀ q ∈ (b, o) :: ex, q.1 ≠ a := fun q hq => by
  rcases List.mem_cons.mp hq with rfl | hq
  · exact Nat.ne_of_lt h
  · exact k q hq
theorem clk_lo (mix : Int) : 0 ≤ 1000 + mix.fmod 1000 := by
  have := mod_lo mix (b := 1000) (by decide)
  omega
theorem news_by {h₀ h : Heap} {L : Addr} {ls ls' : List (Addr × Obj)} (N : News h₀ L h ls) (k : ∀ q ∈ ls', q ∈ ls) : News h₀ L h ls' := fun q hq => N q (k q hq)
theorem law_walk {fa L l : Addr} {h₀ : Heap} {s : Shared} {vs : List Value} {ns : List Int} {c : Obj} {m0 : Str → Option Value} {oc dV kV doc pm ct : Value} {an od : Option Addr} {osl : Array (Option Value)} {nm qual : Str} {params : Arguments} {body : List Stmt} {scope : Scope} {R : Flow → Shared → Prop} {E : Value → Shared → Prop}
    (ho : (pre.heap_1 w.params).lookup 736 = some ⟨oc, od, .func (fnOf nm qual params body scope dV kV doc pm an (.ref 735) ct), osl⟩)
    (B : Below callerA h₀ [] h₀) (X : (pre.heap_1 w.params).In h₀) (T : Top p loose mean mg mb h₀)
    (F : Fr h₀ L s.heap (fun y => if y = Str.ofString "script" then some (.ref l) else m0 y))
    (hc : c.data = .cell none) (N : News h₀ L s.heap [(L + 1, c), (733, tabObj #[])])
    (C : CodeHd h₀ 735 733) (hl : h₀.IsList l vs.toArray) (hi : IntsAre vs ns) (hn : ¬ (63 : Int) < ns.length) (l0 : @LT.lt Nat _ 733 L)
    (hE : PassesOwn (model Challenge.rw_jj0017_01.row.prog w) (callerA.deeper (envOfC qual scope L fa (.ref 735))) (envOfC qual scope L fa (.ref 735)) E)
    (hret : ∀ (h' : Heap) (tk' : Nat) (m' : Str → Option Value) (tps : Array Value), Fr h₀ L h' m' → News h₀ L h' [(733, tabObj tps)] → R (.ret (.bool true)) { s with heap := h', toks := tk' }) :
    wpAny (model Challenge.rw_jj0017_01.row.prog w) (callerA.deeper (envOfC qual scope L fa (.ref 735))) (execs body (envOfC qual scope L fa (.ref 735))) R E s := by
  have h12 : ∃ s0 s1 s2 s3 s4 s5 s6 s7 s8 s9 s10 s11 r, body = s0 :: s1 :: s2 :: s3 :: s4 :: s5 :: s6 :: s7 :: s8 :: s9 :: s10 :: s11 :: r := by
    have ho' := ho
    revert ho'
    refine pick (by k_is) _ ?_
    intro e
    cases e
    exact ⟨_, _, _, _, _, _, _, _, _, _, _, _, _, rfl⟩
  rw [← twelve h12]
  refine loop_walk ho B X T F hc N C hl hi hn l0 hE ?_
  intro h1 k1' m1 F1 N1 hm1
  have F1' := fr_pull F1 ((hm1 (Str.ofString "script") (by decide +kernel)).trans (if_pos rfl))
  refine t1_walk ho B X T F1' hc N1 C hl hi hn l0 ?_
  intro h2 k2' c2 px pd k1 k2 k3 t1 t2 tm hc2 F2 N2 l1 l2
  generalize (ns.take 63).sum = mix at *
  refine t2_walk ho B X T F2 hc2 N2 l1 l2 hl hi hn l0 ?_
  intro h3 k3' m3 F3 e3 N3
  refine t3a_walk ho B X T (fr_pull F3 e3) hc2 N3 C l1 l2 l0 ?_
  intro h4 k4' x d sd xd vd f co q1 q2 q3 q4 os ox ov fo oco tps F4 N4 hC l3 l4 l5 l6 l7 l8 l9 lS lX lV hS hX hV
  have nS : ∀ (a : Addr), @LT.lt Nat _ d a → ∀ q ∈ [(f, fo), (co, oco), (px, instObj 275 pd), (pd, dictOf (itemDict w.params (3 + mix.fmod 9) 1 k1 k2 k3 t1 t2) 3), (L + 1, c2), (733, tabObj tps)], q.1 ≠ a := fun a ha =>
    ne_lt (by omega) (ne_lt (by omega) (ne_lt (by omega) (ne_lt (by omega) (ne_lt (by omega) (ne_lt (by omega) ne_nil)))))
  have nS3 : ∀ (a : Addr), @LT.lt Nat _ d a → ∀ q ∈ [(f, fo), (co, oco), (733, tabObj tps)], q.1 ≠ a := fun a ha =>
    ne_lt (by omega) (ne_lt (by omega) (ne_lt (by omega) ne_nil))
  refine t3b_walk (vd := vd) (q1 := q1) (q2 := q2) (q3 := q3) (q4 := q4) (sd := sd) (xd := xd) (x := x) (d := d) (f := f) (ex := [(vd, ov), (f, fo), (co, oco), (px, instObj 275 pd), (pd, dictOf (itemDict w.params (3 + mix.fmod 9) 1 k1 k2 k3 t1 t2) 3), (L + 1, c2), (733, tabObj tps)]) ho B X T F4 (news_by N4 ?_) hC ?_ (clk_lo mix) lS lX hS hX .nil .nil (ne_gt (by omega) (nS sd (by omega))) (ne_gt (by omega) (nS xd (by omega))) (by omega) (by omega) (by omega) ?_
  · intro q hq
    simp only [List.mem_cons] at hq ⊢
    rcases hq with h | h | h | h | h | h | h | h | h | h | h | h <;> simp [h]
  · intro q hq
    simp only [List.mem_cons] at hq ⊢
    rcases hq with h | h | h | h <;> simp [h]
  intro h5 k5' os5 ox5 kvs5 kvx5 F5 N5 hS5 hX5 e5 g5
  refine t3c_walk (vd := vd) (q1 := q1) (q2 := q2) (q3 := q3) (q4 := q4) (ov := ov) (sd := sd) (xd := xd) (x := x) (d := d) (f := f) (ex := [(f, fo), (co, oco), (px, instObj 275 pd), (pd, dictOf (itemDict w.params (3 + mix.fmod 9) 1 k1 k2 k3 t1 t2) 3), (L + 1, c2), (733, tabObj tps)]) ho B X T F5 (news_by N5 ?_) hC ?_ lS lX lV hS5 hX5 hV e5 g5 (nS sd (by omega)) (nS xd (by omega)) (nS vd (by omega)) (by omega) (by omega) (by omega) (by omega) ?_
  · intro q hq
    simp only [List.mem_cons] at hq ⊢
    rcases hq with h | h | h | h | h | h | h | h | h | h | h | h <;> simp [h]
  · intro q hq
    simp only [List.mem_cons] at hq ⊢
    rcases hq with h | h | h | h <;> simp [h]
  intro h6 k6' os6 ox6 ov6 kvv6 F6 N6 hS6 hX6 hV6 e6
  refine t3d1_walk (vd := vd) (q1 := q1) (q2 := q2) (q3 := q3) (q4 := q4) (px := px) (pd := pd) (mix := mix) (k1 := k1) (k2 := k2) (k3 := k3) (t1 := t1) (t2 := t2) (ov := ov6) (sd := sd) (xd := xd) (x := x) (d := d) (f := f) (c := c2) (ex := [(f, fo), (co, oco), (733, tabObj tps)]) ho B X T F6 (news_by N6 ?_) hc2 hC ?_ lS lX lV hS6 hX6 hV6 e6 (nS3 sd (by omega)) (nS3 xd (by omega)) (nS3 vd (by omega)) (by omega) (by omega) (by omega) (by omega) (by omega) (by omega) (by omega) ?_
  · intro q hq
    simp only [List.mem_cons] at hq ⊢
    rcases hq with h | h | h | h | h | h | h | h | h | h | h | h <;> simp [h]
  · intro q hq
    simp only [List.mem_cons] at hq ⊢
    rcases hq with h | h | h | h <;> simp [h]
  intro h7 k7' lm ld q5 F7 N7 l10 l11
  refine t3d2_walk (vd := vd) (q1 := q1) (q2 := q2) (q3 := q3) (q4 := q4) (px := px) (pd := pd) (mix := mix) (k1 := k1) (k2 := k2) (k3 := k3) (t1 := t1) (t2 := t2) (ov := ov6) (sd := sd) (xd := xd) (x := x) (d := d) (f := f) (c := c2) (ex := [(f, fo), (co, oco), (733, tabObj tps)]) ho B X T F7 N7 hc2 hC ?_ (clk_lo mix) lS lX lV hS6 hX6 hV6 .nil .nil e6 ?_ ?_ (by omega) (by omega) (by omega) (by omega) (nS3 sd (by omega)) (nS3 xd (by omega)) (nS3 vd (by omega)) ?_
  · intro q hq
    simp only [List.mem_cons] at hq ⊢
    rcases hq with h | h | h | h <;> simp [h]
  · exact ne_gt (by omega) (ne_gt (by omega) (ne_lt (by omega) (ne_lt (by omega) (ne_gt (by omega) (ne_lt (by omega) (nS3 sd (by omega)))))))
  · exact ne_gt (by omega) (ne_gt (by omega) (ne_lt (by omega) (ne_lt (by omega) (ne_gt (by omega) (ne_lt (by omega) (nS3 xd (by omega)))))))
  · intro h8 k8' m8 F8 N8
    refine hret h8 k8' m8 tps F8 (news_by N8 ?_)
    intro q hq
    simp only [List.mem_cons, List.not_mem_nil, or_false] at hq ⊢
    simp [hq]
end
theorem hd.tw2845207389951388047 : True := trivial
theorem hd.tw17087091549796120035 : True := trivial
theorem hd.tw6924109203229866365 : True := trivial
theorem hd.tw15616948245753086127 : True := trivial
theorem hd.tw13047593935725612058 : True := trivial
theorem hd.tw8587404781116728655 : True := trivial
theorem hd.tw13293453174229064190 : True := trivial
theorem hd.tw7519716089354478335 : True := trivial
theorem hd.tw14892549342360969540 : True := trivial
theorem hd.tw978945382295711627 : True := trivial
theorem hd.tw7523672394736509286 : True := trivial
theorem hd.tw4065347644161347641 : True := trivial
theorem hd.tw6293948785866598258 : True := trivial
theorem hd.tw9641152695372364146 : True := trivial
theorem hd.tw18185175575083235020 : True := trivial
theorem hd.tw17325209927041812611 : True := trivial
theorem hd.tw11128854368766332075 : True := trivial
theorem hd.tw12591134339009171964 : True := trivial
theorem hd.tw4138081844389336918 : True := trivial
theorem hd.tw13808379393613407234 : True := trivial
theorem hd.tw17076082267592564974 : True := trivial
theorem hd.tw13468300074154594103 : True := trivial
theorem hd.tw8068729725432388964 : True := trivial
theorem hd.tw9215827820722605749 : True := trivial
theorem hd.tw9577689765879766989 : True := trivial
theorem hd.tw4367455430839740993 : True := trivial
theorem hd.tw10216474801634566288 : True := trivial
theorem hd.tw12480425521718506038 : True := trivial
theorem hd.tw4091639524402994376 : True := trivial
theorem hd.tw5148922909946612681 : True := trivial
theorem hd.tw16448752775317648489 : True := trivial
theorem hd.tw12414669353804360901 : True := trivial
theorem hd.tw5781342201191254626 : True := trivial
theorem hd.tw17711083657039698284 : True := trivial
theorem hd.tw8990566401137068510 : True := trivial
theorem hd.tw1452849714261714991 : True := trivial
theorem hd.tw16302227732802510677 : True := trivial
theorem hd.tw4126306136578151734 : True := trivial
theorem hd.tw12631932088317031055 : True := trivial
theorem hd.tw137786328141462057 : True := trivial
theorem hd.tw14176624398918483544 : True := trivial
theorem hd.tw15043168886218598503 : True := trivial
theorem hd.tw15179676742415161110 : True := trivial
theorem hd.tw3005643305782870100 : True := trivial
theorem hd.tw16649331688326792143 : True := trivial
theorem hd.tw15103106377680225435 : True := trivial
theorem hd.tw11652457597714270106 : True := trivial
theorem hd.tw3259873300814134281 : True := trivial
theorem hd.tw960944832710211464 : True := trivial
theorem hd.tw7793673504863384051 : True := trivial
theorem hd.tw697623264460660564 : True := trivial
theorem hd.tw17312999752573914782 : True := trivial
theorem hd.tw3513125359445811510 : True := trivial
theorem hd.tw4856431653887292112 : True := trivial
theorem hd.tw307737655149646647 : True := trivial
theorem hd.tw3953601041324332601 : True := trivial
theorem hd.tw11117797201346649052 : True := trivial
theorem hd.tw6046454685291232161 : True := trivial
theorem hd.tw2216850387143573719 : True := trivial
theorem hd.tw8684328023851190084 : True := trivial
theorem hd.tw10543509907540572799 : True := trivial
theorem hd.tw12769127236821124696 : True := trivial
theorem hd.tw15427206886491885616 : True := trivial
theorem hd.tw6838551448383532254 : True := trivial
theorem hd.tw18241275227582772068 : True := trivial
theorem hd.tw5592360268479517082 : True := trivial
theorem hd.tw9077708301081682751 : True := trivial
theorem hd.tw17471934795394947791 : True := trivial
theorem hd.tw16619899343871320964 : True := trivial
theorem hd.tw1847840615245081061 : True := trivial
theorem hd.tw13066319289922817542 : True := trivial
theorem hd.tw17772917993097084435 : True := trivial
theorem hd.tw8047900516022102942 : True := trivial
theorem hd.tw368366308016060594 : True := trivial
theorem hd.tw8671608845466749128 : True := trivial
theorem hd.tw14896477498954680388 : True := trivial
theorem hd.tw14727110085682223627 : True := trivial
theorem hd.tw8343274005884668182 : True := trivial
theorem hd.tw6998783941825042932 : True := trivial
theorem hd.tw4724112764586752083 : True := trivial
theorem hd.tw8801323125487838256 : True := trivial
theorem hd.tw12509009523430927325 : True := trivial
theorem hd.tw9087110039335098043 : True := trivial
theorem hd.tw9571369944969941477 : True := trivial
theorem hd.tw16772102934027710169 : True := trivial
theorem hd.tw12936449754285732098 : True := trivial
theorem hd.tw12442425952204914282 : True := trivial
theorem hd.tw16301592386811335294 : True := trivial
theorem hd.tw13330244855972007585 : True := trivial
theorem hd.tw18087722134493236510 : True := trivial
theorem hd.tw17599816209265215132 : True := trivial
theorem hd.tw11915594877312485397 : True := trivial
theorem hd.tw2114630138375439770 : True := trivial
theorem hd.tw17577478241444706838 : True := trivial
theorem hd.tw17583924267553061668 : True := trivial
theorem hd.tw17650839729002327288 : True := trivial
theorem hd.tw12092154237167983948 : True := trivial
theorem hd.tw17495340751864218003 : True := trivial
theorem hd.tw5010264101278932077 : True := trivial
theorem hd.tw9073681462420916055 : True := trivial
theorem hd.tw1414735120719159333 : True := trivial
theorem hd.tw14598272352848978880 : True := trivial
theorem hd.tw9429285754427346401 : True := trivial
theorem hd.tw17447410573909459338 : True := trivial
theorem hd.tw7540655947842036084 : True := trivial
theorem hd.tw14353793391729792155 : True := trivial
theorem hd.tw7854228177987924090 : True := trivial
theorem hd.tw4990156530697904881 : True := trivial
theorem hd.tw4014540891139286612 : True := trivial
theorem hd.tw7080932558258925280 : True := trivial
theorem hd.tw5567388512258382067 : True := trivial
theorem hd.tw7746578258024575070 : True := trivial
theorem hd.tw12588582704262371052 : True := trivial
theorem hd.tw5282504435634884242 : True := trivial
theorem hd.tw11893437276241958245 : True := trivial
theorem hd.tw11953376511379268794 : True := trivial
theorem hd.tw1382963296337349011 : True := trivial
theorem hd.tw3182187488490625086 : True := trivial
theorem hd.tw13518370688599389936 : True := trivial
theorem hd.tw11249132867342737325 : True := trivial
theorem hd.tw9842699097658496709 : True := trivial
theorem hd.tw5363564295841288755 : True := trivial
theorem hd.tw5562173858411828344 : True := trivial
theorem hd.tw2167537188350426706 : True := trivial
theorem hd.tw7891253978561527248 : True := trivial
theorem hd.tw13903934854276604550 : True := trivial
theorem hd.tw3443669649825651883 : True := trivial
theorem hd.tw6423634429210846174 : True := trivial
theorem hd.tw12131494931117144662 : True := trivial
theorem hd.tw18160293313031310949 : True := trivial
theorem hd.tw3915529967508079626 : True := trivial
theorem hd.tw4817003022231809500 : True := trivial
theorem hd.tw6482722132109649516 : True := trivial
theorem hd.tw14006173549557618073 : True := trivial
theorem hd.tw16502264421070913907 : True := trivial
theorem hd.tw526207354791536317 : True := trivial
theorem hd.tw5464967688985200232 : True := trivial
theorem hd.tw11912922877643110818 : True := trivial
theorem hd.tw9271970288684553227 : True := trivial
theorem hd.tw1448358952932078338 : True := trivial
theorem hd.tw13609717118414637909 : True := trivial
theorem hd.tw8081886968326746073 : True := trivial
theorem hd.tw1213985386368065218 : True := trivial
theorem hd.tw6636792957720756321 : True := trivial
theorem hd.tw7082855905992002993 : True := trivial
theorem hd.tw11631869004601391166 : True := trivial
theorem hd.tw14400467628812073631 : True := trivial
theorem hd.tw4478964076566166474 : True := trivial
theorem hd.tw4115565904173853331 : True := trivial
theorem hd.tw18191168168182482627 : True := trivial
theorem hd.tw6761669909254768831 : True := trivial
theorem hd.tw10273187271170590260 : True := trivial
theorem hd.tw10111801491309104144 : True := trivial
theorem hd.tw6982297934935202809 : True := trivial
theorem hd.tw4768578896829404305 : True := trivial
theorem hd.tw17454471701868102899 : True := trivial
theorem hd.tw16456969618363192440 : True := trivial
theorem hd.tw5623649875543549657 : True := trivial
theorem hd.tw7721951785955056133 : True := trivial
theorem hd.tw5715356086224469760 : True := trivial
theorem hd.tw14294001040229213422 : True := trivial
theorem hd.tw7792395482447073224 : True := trivial
theorem hd.tw13280443560766958183 : True := trivial
theorem hd.tw10525666975642140466 : True := trivial
theorem hd.tw7510230149288206974 : True := trivial
theorem hd.tw8493152586797012548 : True := trivial
theorem hd.tw2502866573005156581 : True := trivial
theorem hd.tw12901994302517312135 : True := trivial
theorem hd.tw6819123309680001836 : True := trivial
theorem hd.tw5987830557187376847 : True := trivial
theorem hd.tw17901334829092211166 : True := trivial
theorem hd.tw2195365466389143174 : True := trivial
theorem hd.tw13225837485096350037 : True := trivial
theorem hd.tw7628703163842673926 : True := trivial
theorem hd.tw1208734638264122097 : True := trivial
theorem hd.tw16037735763661986305 : True := trivial
theorem hd.tw6598312636042714100 : True := trivial
theorem hd.tw3759623122121258479 : True := trivial
theorem hd.tw13218659294841961345 : True := trivial
theorem hd.tw5873113503399164460 : True := trivial
theorem hd.tw1088296927520436173 : True := trivial
theorem hd.tw1865391376527767206 : True := trivial
theorem hd.tw5513025101015932971 : True := trivial
theorem hd.tw17088047866570459193 : True := trivial
theorem hd.tw16155205043701107222 : True := trivial
theorem hd.tw11399449904127653305 : True := trivial
theorem hd.tw8117029840178788049 : True := trivial
theorem hd.tw8545014587354053640 : True := trivial
theorem hd.tw9427301549700849589 : True := trivial
theorem hd.tw9421340871869096474 : True := trivial
theorem hd.tw1882180444382439491 : True := trivial
theorem hd.tw4136554803537287180 : True := trivial
theorem hd.tw16053994301053490033 : True := trivial
theorem hd.tw701787995468756871 : True := trivial
theorem hd.tw7914949630228597729 : True := trivial
theorem hd.tw12050417470231563642 : True := trivial
theorem hd.tw13474097485772985973 : True := trivial
theorem hd.tw7676003278276379012 : True := trivial
theorem hd.tw4292457097857839397 : True := trivial
theorem hd.tw11672842613191775419 : True := trivial
theorem hd.tw3922637787740509324 : True := trivial
theorem hd.tw190519026028168232 : True := trivial
theorem hd.tw16056359734778111409 : True := trivial
theorem hd.tw920214292312260371 : True := trivial
theorem hd.tw10116813279655377562 : True := trivial
theorem hd.tw15463257786427224491 : True := trivial
theorem hd.tw8773699223549846113 : True := trivial
theorem hd.tw17047115858639842297 : True := trivial
theorem hd.tw5978321128707920903 : True := trivial
theorem hd.tw6060742912462422084 : True := trivial
theorem hd.tw2457190517430149469 : True := trivial
theorem hd.tw1118553966540926140 : True := trivial
theorem hd.tw8965841893048198262 : True := trivial
theorem hd.tw2263123870574935043 : True := trivial
theorem hd.tw9783614193127449063 : True := trivial
theorem hd.tw8424336660254810589 : True := trivial
theorem hd.tw5635641802508607975 : True := trivial
theorem hd.tw13483081372092288885 : True := trivial
theorem hd.tw4706079058837389440 : True := trivial
theorem hd.tw14060154772996877548 : True := trivial
theorem hd.tw8191903926673212241 : True := trivial
theorem hd.tw8727321023445011275 : True := trivial
theorem hd.tw7654286748164834634 : True := trivial
theorem hd.tw9244321171653502345 : True := trivial
theorem hd.tw2274498078352570744 : True := trivial
theorem hd.tw8538877666451538035 : True := trivial
theorem hd.tw4993660671451451078 : True := trivial
theorem hd.tw3673089383077640791 : True := trivial
theorem hd.tw3085183777334472315 : True := trivial
theorem hd.tw2134215046882385847 : True := trivial
theorem hd.tw5318216170032084099 : True := trivial
theorem hd.tw1129884963351977449 : True := trivial
theorem hd.tw17628472586750557451 : True := trivial
theorem hd.tw5716766192118558609 : True := trivial
theorem hd.tw1563692795949630186 : True := trivial
theorem hd.tw7085514621470718492 : True := trivial
theorem hd.tw6830512106363814048 : True := trivial
theorem hd.tw13855946660403688772 : True := trivial
theorem hd.tw5245234834050458271 : True := trivial
theorem hd.tw7541792107247259296 : True := trivial
theorem hd.tw10258999931320997221 : True := trivial
theorem hd.tw10170382586518783626 : True := trivial
theorem hd.tw15166520500009309586 : True := trivial
theorem hd.tw8351282476255451920 : True := trivial
theorem hd.tw17574625026820762457 : True := trivial
theorem hd.tw16794629799341752650 : True := trivial
theorem hd.tw11011131195910976488 : True := trivial
theorem hd.tw16412773359747925120 : True := trivial
theorem hd.tw7941745277869089046 : True := trivial
theorem hd.tw10403243965636340961 : True := trivial
theorem hd.tw4225703048834024713 : True := trivial
theorem hd.tw9753359207989701909 : True := trivial
theorem hd.tw4172343393113369950 : True := trivial
theorem hd.tw7366208706002141716 : True := trivial
theorem hd.tw4015398097383911347 : True := trivial
theorem hd.tw12393119488966705847 : True := trivial
theorem hd.tw16945582573551092051 : True := trivial
theorem hd.tw1425423193147277237 : True := trivial
theorem hd.tw2752831430858556228 : True := trivial
theorem hd.tw3828038474966422129 : True := trivial
theorem hd.tw4963670371499459168 : True := trivial
theorem hd.tw10098268173465320503 : True := trivial
theorem hd.tw15987713032478767096 : True := trivial
theorem hd.tw8004679753235328684 : True := trivial
theorem hd.tw881544763273948857 : True := trivial
theorem hd.tw17130151131035750659 : True := trivial
theorem hd.tw14040608126747316905 : True := trivial
theorem hd.tw16853341256802265648 : True := trivial
theorem hd.tw2595994805191909183 : True := trivial
theorem hd.tw18330183385023645277 : True := trivial
theorem hd.tw17387984336315359219 : True := trivial
theorem hd.tw9386895884608548742 : True := trivial
theorem hd.tw11213053971927718326 : True := trivial
theorem hd.tw9325612240067072397 : True := trivial
theorem hd.tw3876449026389394717 : True := trivial
theorem hd.tw1588505670450824345 : True := trivial
theorem hd.tw4523669819894539328 : True := trivial
theorem hd.tw15527848837575444561 : True := trivial
theorem hd.tw14768889098011018680 : True := trivial
theorem hd.tw14772383043592177042 : True := trivial
theorem hd.tw3381375190539634487 : True := trivial
theorem hd.tw9983995961361265002 : True := trivial
theorem hd.tw9420132969298855359 : True := trivial
theorem hd.tw9627899436633539337 : True := trivial
theorem hd.tw13828106393651249627 : True := trivial
theorem hd.tw17588044629489971554 : True := trivial
theorem hd.tw6906073325868019850 : True := trivial
theorem hd.tw16473244170626142550 : True := trivial
theorem hd.tw14859038896228082724 : True := trivial
theorem hd.tw4851647983119433812 : True := trivial
theorem hd.tw14960593345356199642 : True := trivial
theorem hd.tw6186238094035137676 : True := trivial
theorem hd.tw16138627921320673191 : True := trivial
theorem hd.tw10784824025267889561 : True := trivial
theorem hd.tw14705683404202351889 : True := trivial
theorem hd.tw15508949281206285077 : True := trivial
theorem hd.tw3404104791013757517 : True := trivial
theorem hd.tw15026137623113221015 : True := trivial
theorem hd.tw13171141561276507362 : True := trivial
theorem hd.tw2304311442786299043 : True := trivial
theorem hd.tw17172931820748874959 : True := trivial
theorem hd.tw4272726840584523970 : True := trivial
theorem hd.tw3109861748172591687 : True := trivial
theorem hd.tw16257038226119295666 : True := trivial
theorem hd.tw12487502673411948298 : True := trivial
theorem hd.tw8652628183442184457 : True := trivial
theorem hd.tw7133641032537487646 : True := trivial
theorem hd.tw14909680081332682108 : True := trivial
theorem hd.tw15595854959937240912 : True := trivial
theorem hd.tw16828841361933241965 : True := trivial
theorem hd.tw15083628210047938546 : True := trivial
theorem hd.tw9390866547671247325 : True := trivial
theorem hd.tw6196171512934965099 : True := trivial
theorem hd.tw11415386828835887437 : True := trivial
theorem hd.tw13642289790063256904 : True := trivial
theorem hd.tw6898005170327248138 : True := trivial
theorem hd.tw10458740792067480800 : True := trivial
theorem hd.tw128412058910260475 : True := trivial
theorem hd.tw3219085151875037572 : True := trivial
theorem hd.tw17183224562656869120 : True := trivial
theorem hd.tw13866372431405929976 : True := trivial
theorem hd.tw4449123307109862055 : True := trivial
theorem hd.tw15833661619300960221 : True := trivial
theorem hd.tw12112201142124510154 : True := trivial
theorem hd.tw8044012406986999415 : True := trivial
theorem hd.tw8589211134812392127 : True := trivial
theorem hd.tw11375277706881905925 : True := trivial
theorem hd.tw5715734110848049390 : True := trivial
theorem hd.tw13038990169509382042 : True := trivial
theorem hd.tw17213754286329925777 : True := trivial
theorem hd.tw4643362625855044894 : True := trivial
theorem hd.tw14333710738500927179 : True := trivial
theorem hd.tw16091413853298234908 : True := trivial
theorem hd.tw2781682124601125471 : True := trivial
theorem hd.tw13931416462566266981 : True := trivial
theorem hd.tw3530705653197291679 : True := trivial
theorem hd.tw17265738369068824589 : True := trivial
theorem hd.tw262745018181394680 : True := trivial
theorem hd.tw10531373872144210542 : True := trivial
theorem hd.tw16904818350239718627 : True := trivial
theorem hd.tw4282304852377368616 : True := trivial
theorem hd.tw1712922718373300912 : True := trivial
theorem hd.tw9013056391748086436 : True := trivial
theorem hd.tw13322179722446271537 : True := trivial
theorem hd.tw6820862383352777685 : True := trivial
theorem hd.tw402640490398009360 : True := trivial
theorem hd.tw14991384322417631237 : True := trivial
theorem hd.tw2951005344575393816 : True := trivial
theorem hd.tw15837987909243819085 : True := trivial
theorem hd.tw8960069828448710407 : True := trivial
theorem hd.tw7120233287515763914 : True := trivial
theorem hd.tw12364972598781006883 : True := trivial
theorem hd.tw7763873220885509757 : True := trivial
theorem hd.tw5138769234217329475 : True := trivial
theorem hd.tw15642763164714097627 : True := trivial
theorem hd.tw2845679848157327705 : True := trivial
theorem hd.tw6276725880618359904 : True := trivial
theorem hd.tw991583007596301734 : True := trivial
theorem hd.tw11472165163037031739 : True := trivial
theorem hd.tw15279998641719260112 : True := trivial
theorem hd.tw17989097746536338734 : True := trivial
theorem hd.tw5505005885091257285 : True := trivial
theorem hd.tw3789350110615891812 : True := trivial
theorem hd.tw18293851220164018083 : True := trivial
theorem hd.tw13466754112058979494 : True := trivial
theorem hd.tw9631708518359487223 : True := trivial
theorem hd.tw10788059911547816233 : True := trivial
theorem hd.tw4478166936697009375 : True := trivial
theorem hd.tw11539556534233449701 : True := trivial
theorem hd.tw15048261121198461528 : True := trivial
theorem hd.tw1589133516308662214 : True := trivial
theorem hd.tw17491280204586788870 : True := trivial
theorem hd.tw15643275761693703936 : True := trivial
theorem hd.tw10781468475247234061 : True := trivial
theorem hd.tw11749099774412794130 : True := trivial
theorem hd.tw5433107678231618845 : True := trivial
theorem hd.tw1781861727890032366 : True := trivial
theorem hd.tw11852641145169952659 : True := trivial
theorem hd.tw10210669037155785340 : True := trivial
theorem hd.tw10259988299927297344 : True := trivial
theorem hd.tw15675198926951892251 : True := trivial
theorem hd.tw1610171440888473627 : True := trivial
theorem hd.tw4478177076189095293 : True := trivial
theorem hd.tw1535757262459896012 : True := trivial
theorem hd.tw6136932545381038964 : True := trivial
theorem hd.tw15967140613478806237 : True := trivial
theorem hd.tw16194383521188589630 : True := trivial
theorem hd.tw432457690288141553 : True := trivial
theorem hd.tw1699103778626983548 : True := trivial
theorem hd.tw11210553801493137410 : True := trivial
theorem hd.tw13220430256171166289 : True := trivial
theorem hd.tw17387473266821786944 : True := trivial
theorem hd.tw6123773746684550334 : True := trivial
theorem hd.tw7068711184596962023 : True := trivial
theorem hd.tw4367231431732253908 : True := trivial
theorem hd.tw13285133528070534704 : True := trivial
theorem hd.tw1413172679324656950 : True := trivial
theorem hd.tw663384727985864361 : True := trivial
theorem hd.tw13160604113216922460 : True := trivial
theorem hd.tw3039998526598829958 : True := trivial
theorem hd.tw9719896912496429819 : True := trivial
theorem hd.tw5902613922787404954 : True := trivial
theorem hd.tw9908193460736022307 : True := trivial
theorem hd.tw442638132926106271 : True := trivial
theorem hd.tw16919406825032445293 : True := trivial
theorem hd.tw17470177872615007328 : True := trivial
theorem hd.tw825126770350376351 : True := trivial
theorem hd.tw11713075325732132258 : True := trivial
theorem hd.tw10841399608879689956 : True := trivial
theorem hd.tw8210421348078903774 : True := trivial
theorem hd.tw13510399790794764400 : True := trivial
theorem hd.tw14567429538950270057 : True := trivial
theorem hd.tw1580110805410547442 : True := trivial
theorem hd.tw14743440263598761229 : True := trivial
theorem hd.tw10583446816852156582 : True := trivial
theorem hd.tw12949589719889679912 : True := trivial
theorem hd.tw8879563391730754479 : True := trivial
theorem hd.tw250903467453971090 : True := trivial
theorem hd.tw8268277133935991078 : True := trivial
theorem hd.tw14955159897011116063 : True := trivial
theorem hd.tw15278966056882409248 : True := trivial
theorem hd.tw8242931771332617035 : True := trivial
theorem hd.tw10024716035694756283 : True := trivial
theorem hd.tw10404513684093684653 : True := trivial
theorem hd.tw10246146449241189800 : True := trivial
theorem hd.tw5167245352685981253 : True := trivial
theorem hd.tw5130813555471234732 : True := trivial
theorem hd.tw7512474625130614241 : True := trivial
theorem hd.tw5983496337302601536 : True := trivial
theorem hd.tw15089522573102190283 : True := trivial
theorem hd.tw14683707025165767436 : True := trivial
theorem hd.tw11917015161858427179 : True := trivial
theorem hd.tw15924899543223041283 : True := trivial
theorem hd.tw6879831473291441079 : True := trivial
theorem hd.tw18264458681608554015 : True := trivial
theorem hd.tw16154546982801380032 : True := trivial
theorem hd.tw10286656452748174568 : True := trivial
theorem hd.tw17895171251205151618 : True := trivial
theorem hd.tw212345690472687942 : True := trivial
theorem hd.tw16299908979028503884 : True := trivial
theorem hd.tw1359830224848277088 : True := trivial
theorem hd.tw12744807935193187038 : True := trivial
theorem hd.tw11631947586910100387 : True := trivial
theorem hd.tw2386827423013361158 : True := trivial
theorem hd.tw5480042469492414594 : True := trivial
theorem hd.tw16634568088961857937 : True := trivial
theorem hd.tw6627881031435992008 : True := trivial
theorem hd.tw9398405308114057262 : True := trivial
theorem hd.tw7379015992945566340 : True := trivial
theorem hd.tw7174315439194531881 : True := trivial
theorem hd.tw5629675986466331604 : True := trivial
theorem hd.tw13790719812936386609 : True := trivial
theorem hd.tw6164396464334811476 : True := trivial
theorem hd.tw8770659054964912022 : True := trivial
theorem hd.tw18245042118932799458 : True := trivial
theorem hd.tw10919297434634762262 : True := trivial
theorem hd.tw17919194246423945575 : True := trivial
theorem hd.tw2101469004524951375 : True := trivial
theorem hd.tw10847404155465417027 : True := trivial
theorem hd.tw9702936160620672325 : True := trivial
theorem hd.tw656455966557771466 : True := trivial
theorem hd.tw14438451200097066615 : True := trivial
theorem hd.tw15199589371867527261 : True := trivial
theorem hd.tw6469175993241445255 : True := trivial
theorem hd.tw7598622570094877466 : True := trivial
theorem hd.tw4282359134580295075 : True := trivial
theorem hd.tw15207398651663016943 : True := trivial
theorem hd.tw8934143017859847078 : True := trivial
theorem hd.tw6014424301940151174 : True := trivial
theorem hd.tw8025032847418708242 : True := trivial
theorem hd.tw12575139184659369484 : True := trivial
theorem hd.tw6184208073178115725 : True := trivial
theorem hd.tw15422856539912107476 : True := trivial
theorem hd.tw11814627755841444246 : True := trivial
theorem hd.tw3350930974749635488 : True := trivial
theorem hd.tw1013155817946168525 : True := trivial
theorem hd.tw1836080755315867724 : True := trivial
theorem hd.tw17330945745186091897 : True := trivial
theorem hd.tw12861998865439983172 : True := trivial
theorem hd.tw16970440968685349367 : True := trivial
theorem hd.tw4870687313549177768 : True := trivial
theorem hd.tw14120982254508448379 : True := trivial
theorem hd.tw1666387254794493845 : True := trivial
theorem hd.tw12929554957347739149 : True := trivial
theorem hd.tw12350410155528471161 : True := trivial
theorem hd.tw13855881374063213867 : True := trivial
theorem hd.tw1011335219593555734 : True := trivial
theorem hd.tw243823211424636713 : True := trivial
theorem hd.tw5899666649113621702 : True := trivial
theorem hd.tw6683769817339685419 : True := trivial
theorem hd.tw162610821266807592 : True := trivial
theorem hd.tw7006195865600381663 : True := trivial
theorem hd.tw12659318050587179527 : True := trivial
theorem hd.tw1954109241102656831 : True := trivial
theorem hd.tw8609351116199087170 : True := trivial
theorem hd.tw6965799899956892507 : True := trivial
theorem hd.tw18093812233618175256 : True := trivial
theorem hd.tw12399718760709695909 : True := trivial
theorem hd.tw1222794163293265305 : True := trivial
theorem hd.tw13409441903868389331 : True := trivial
theorem hd.tw5054737718236178183 : True := trivial
theorem hd.tw9763420282994701918 : True := trivial
theorem hd.tw4360684699965382250 : True := trivial
theorem hd.tw9155422001095189878 : True := trivial
theorem hd.tw10360471539772378328 : True := trivial
theorem hd.tw8735263284916673568 : True := trivial
theorem hd.tw17893044597097874663 : True := trivial
theorem hd.tw13267510147771200024 : True := trivial
theorem hd.tw11032806212648032379 : True := trivial
theorem hd.tw14906377314874228009 : True := trivial
theorem hd.tw15042006015671813226 : True := trivial
theorem hd.tw6931407450589930559 : True := trivial
theorem hd.tw8112040973832200146 : True := trivial
theorem hd.tw15910714762333108613 : True := trivial
theorem hd.tw257007361410690125 : True := trivial
theorem hd.tw8312999807965096350 : True := trivial
theorem hd.tw18343703819029505601 : True := trivial
theorem hd.tw16156708551869547534 : True := trivial
theorem hd.tw9132557439983319658 : True := trivial
theorem hd.tw2040990291671593033 : True := trivial
theorem hd.tw7640094616464845771 : True := trivial
theorem hd.tw12940713784782232206 : True := trivial
theorem hd.tw13277076834127875243 : True := trivial
theorem hd.tw689954013368505116 : True := trivial
theorem hd.tw13783031573616600631 : True := trivial
theorem hd.tw12900700647772717614 : True := trivial
theorem hd.tw15220180469806662145 : True := trivial
theorem hd.tw3484992998616243462 : True := trivial
theorem hd.tw280609765759037681 : True := trivial
theorem hd.tw7023726343779634624 : True := trivial
theorem hd.tw5511420028821071320 : True := trivial
theorem hd.tw16178712458983371728 : True := trivial
theorem hd.tw7152984921513172624 : True := trivial
theorem hd.tw13315533130655954831 : True := trivial
theorem hd.tw7880807054014371918 : True := trivial
theorem hd.tw7270182246851987180 : True := trivial
theorem hd.tw3309697970292668127 : True := trivial
theorem hd.tw12614811148066621264 : True := trivial
theorem hd.tw14706022693812145444 : True := trivial
theorem hd.tw13289513938125300765 : True := trivial
theorem hd.tw6079173187612997037 : True := trivial
theorem hd.tw12127338746724423809 : True := trivial
theorem hd.tw6140570298594658328 : True := trivial
theorem hd.tw9496365245306024149 : True := trivial
theorem hd.tw15992342658441690333 : True := trivial
theorem hd.tw14553816603554493358 : True := trivial
theorem hd.tw4040972080148754881 : True := trivial
theorem hd.tw1895953908935734384 : True := trivial
theorem hd.tw16661405048812198066 : True := trivial
theorem hd.tw5009564483982726761 : True := trivial
theorem hd.tw17234923516513369237 : True := trivial
theorem hd.tw10949625832625181284 : True := trivial
theorem hd.tw8479784124755550697 : True := trivial
theorem hd.tw11709330566771433103 : True := trivial
theorem hd.tw17696971302532935780 : True := trivial
theorem hd.tw15813434630575017362 : True := trivial
theorem hd.tw15152743547302097792 : True := trivial
theorem hd.tw16722109127936396110 : True := trivial
theorem hd.tw5535567543195554156 : True := trivial
theorem hd.tw12070654863422294720 : True := trivial
theorem hd.tw5657824000916062451 : True := trivial
theorem hd.tw9406673726873002282 : True := trivial
theorem hd.tw11402939732021071671 : True := trivial
theorem hd.tw16713699803418581334 : True := trivial
theorem hd.tw6555240042291301478 : True := trivial
theorem hd.tw8977460988437922124 : True := trivial
theorem hd.tw6411954120941647267 : True := trivial
theorem hd.tw15625209780758371316 : True := trivial
theorem hd.tw922143313871775805 : True := trivial
theorem hd.tw9131607905817354932 : True := trivial
theorem hd.tw14168552714766633299 : True := trivial
theorem hd.tw5587440605795279889 : True := trivial
theorem hd.tw15634565183472343292 : True := trivial
theorem hd.tw10792051664901133789 : True := trivial
theorem hd.tw2391449824757734642 : True := trivial
theorem hd.tw14525720085042146601 : True := trivial
theorem hd.tw313027258313007627 : True := trivial
theorem hd.tw6785817131721698500 : True := trivial
theorem hd.tw15416985209724490359 : True := trivial
theorem hd.tw11663481321943121269 : True := trivial
theorem hd.tw6308581086252854402 : True := trivial
theorem hd.tw7927469264209771579 : True := trivial
theorem hd.tw3442329435671937591 : True := trivial
theorem hd.tw10117440562283002822 : True := trivial
theorem hd.tw9298403506768410418 : True := trivial
theorem hd.tw12070051907170230399 : True := trivial
theorem hd.tw12952509933414984302 : True := trivial
theorem hd.tw9499510787657705874 : True := trivial
theorem hd.tw3816877163431070358 : True := trivial
theorem hd.tw11232374478483605306 : True := trivial
theorem hd.tw17562767543260142214 : True := trivial
theorem hd.tw7261450039545342454 : True := trivial
theorem hd.tw6038821095411175016 : True := trivial
theorem hd.tw9990345226319884068 : True := trivial
theorem hd.tw10860895700388868024 : True := trivial
theorem hd.tw7317836474542784337 : True := trivial
theorem hd.tw9345676750909349944 : True := trivial
theorem hd.tw11587034568685482758 : True := trivial
theorem hd.tw2442259710966052079 : True := trivial
theorem hd.tw16211521421427940678 : True := trivial
theorem hd.tw2603259988358896889 : True := trivial
theorem hd.tw14029546391885035639 : True := trivial
theorem hd.tw2999033326186475339 : True := trivial
theorem hd.tw8664936974563722654 : True := trivial
theorem hd.tw7256068157193428750 : True := trivial
theorem hd.tw7369741819223213686 : True := trivial
theorem hd.tw185848376630758926 : True := trivial
theorem hd.tw17714235663813219645 : True := trivial
theorem hd.tw5366084841770067474 : True := trivial
theorem hd.tw14745743045033390146 : True := trivial
theorem hd.tw16547865195752855329 : True := trivial
theorem hd.tw17066044127408595049 : True := trivial
theorem hd.tw1561501074875855439 : True := trivial
theorem hd.tw10614716105012338702 : True := trivial
theorem hd.tw4315991029959535628 : True := trivial
theorem hd.tw6019021122589006684 : True := trivial
theorem hd.tw4021928978595405253 : True := trivial
theorem hd.tw1800889605409440832 : True := trivial
theorem hd.tw9960721518486171458 : True := trivial
theorem hd.tw8990313861142287110 : True := trivial
theorem hd.tw7339039647409124788 : True := trivial
theorem hd.tw1005483496087919985 : True := trivial
theorem hd.tw7153062008950511462 : True := trivial
theorem hd.tw10465514089279642386 : True := trivial
theorem hd.tw8134915037123179040 : True := trivial
theorem hd.tw845060206244984605 : True := trivial
theorem hd.tw3044193314922437478 : True := trivial
theorem hd.tw4734902545126651661 : True := trivial
theorem hd.tw5940121870281237432 : True := trivial
theorem hd.tw2855845756224970109 : True := trivial
theorem hd.tw10365702040365258594 : True := trivial
theorem hd.tw13929354066492186541 : True := trivial
theorem hd.tw701333769924781912 : True := trivial
theorem hd.tw9345929723534960622 : True := trivial
theorem hd.tw14462709497994964445 : True := trivial
theorem hd.tw2808349399557158395 : True := trivial
theorem hd.tw3919010098100093602 : True := trivial
theorem hd.tw3811592773271367157 : True := trivial
theorem hd.tw17948085552500728524 : True := trivial
theorem hd.tw15064902949301533346 : True := trivial
theorem hd.tw5416991563250132298 : True := trivial
theorem hd.tw11389486352061984695 : True := trivial
theorem hd.tw561391293025646643 : True := trivial
theorem hd.tw6575455958538490 : True := trivial
theorem hd.tw1760603350576429475 : True := trivial
theorem hd.tw5927567313105069670 : True := trivial
theorem hd.tw16920754564084929960 : True := trivial
theorem hd.tw13060121041845849462 : True := trivial
theorem hd.tw9617658007855726926 : True := trivial
theorem hd.tw14673209030070457562 : True := trivial
theorem hd.tw10491609206876299696 : True := trivial
theorem hd.tw4819202231147424091 : True := trivial
theorem hd.tw17975533764899295144 : True := trivial
theorem hd.tw6804821044290156842 : True := trivial
theorem hd.tw4111692666942324129 : True := trivial
theorem hd.tw16868993833207775613 : True := trivial
theorem hd.tw13321331477185743149 : True := trivial
theorem hd.tw13893168526513508166 : True := trivial
theorem hd.tw9184186324627900627 : True := trivial
theorem hd.tw15946356160694317329 : True := trivial
theorem hd.tw8244733829118024811 : True := trivial
theorem hd.tw17336936450418997793 : True := trivial
theorem hd.tw13122850982685727845 : True := trivial
theorem hd.tw6081201349915205085 : True := trivial
theorem hd.tw4402725079659364252 : True := trivial
theorem hd.tw1600037746751723098 : True := trivial
theorem hd.tw15213948185873263833 : True := trivial
theorem hd.tw8458067239894703972 : True := trivial
theorem hd.tw567884609423149705 : True := trivial
theorem hd.tw8226494294326810461 : True := trivial
theorem hd.tw11251137523995926341 : True := trivial
theorem hd.tw16858285156579221889 : True := trivial
theorem hd.tw15790720579355451973 : True := trivial
theorem hd.tw3452082135128663414 : True := trivial
theorem hd.tw2042292140826266357 : True := trivial
theorem hd.tw728884934406724761 : True := trivial
theorem hd.tw12611767792052310623 : True := trivial
theorem hd.tw15687388767607454252 : True := trivial
theorem hd.tw833173182276230429 : True := trivial
theorem hd.tw17606422857730326317 : True := trivial
theorem hd.tw16684818696116721337 : True := trivial
theorem hd.tw9555612238305686254 : True := trivial
theorem hd.tw7492773218913965947 : True := trivial
theorem hd.tw2051048951616859547 : True := trivial
theorem hd.tw3196399650302076718 : True := trivial
theorem hd.tw13368278939475635651 : True := trivial
theorem hd.tw11465210709893060100 : True := trivial
theorem hd.tw17330132731328240911 : True := trivial
theorem hd.tw16029623286316568529 : True := trivial
theorem hd.tw18358800413957953924 : True := trivial
theorem hd.tw9459050058782445324 : True := trivial
theorem hd.tw3451239065008710300 : True := trivial
theorem hd.tw15344866539931968096 : True := trivial
theorem hd.tw18291419657060728153 : True := trivial
theorem hd.tw5859118754885311737 : True := trivial
theorem hd.tw11319097763535126812 : True := trivial
theorem hd.tw10738003575532504788 : True := trivial
theorem hd.tw14252973204109832912 : True := trivial
theorem hd.tw6407587892757256292 : True := trivial
theorem hd.tw10955317050725887447 : True := trivial
theorem hd.tw8184699220007379433 : True := trivial
theorem hd.tw15411387601460861337 : True := trivial
theorem hd.tw4086058157674990017 : True := trivial
theorem hd.tw14446474709323646786 : True := trivial
theorem hd.tw3333446698644548216 : True := trivial
theorem hd.tw12521463284412890351 : True := trivial
theorem hd.tw395138700845864316 : True := trivial
theorem hd.tw10905682514733158466 : True := trivial
theorem hd.tw7494724483528729301 : True := trivial
theorem hd.tw13132618709999183898 : True := trivial
theorem hd.tw3878383114103592795 : True := trivial
theorem hd.tw4159134105002834734 : True := trivial
theorem hd.tw4363365295628954845 : True := trivial
theorem hd.tw9228397985900620932 : True := trivial
theorem hd.tw7031273417212677730 : True := trivial
theorem hd.tw9673543361469618366 : True := trivial
theorem hd.tw8457440626546761165 : True := trivial
theorem hd.tw6082411064634330575 : True := trivial
theorem hd.tw16157073509204512506 : True := trivial
theorem hd.tw13531707123254989501 : True := trivial
theorem hd.tw14984183105004643987 : True := trivial
theorem hd.tw4642405928176397000 : True := trivial
theorem hd.tw15946388913382835224 : True := trivial
theorem hd.tw13181700845877081190 : True := trivial
theorem hd.tw16345102440705955213 : True := trivial
theorem hd.tw12647368939536790636 : True := trivial
theorem hd.tw7754304195085646258 : True := trivial
theorem hd.tw1197925565968671727 : True := trivial
theorem hd.tw15673258824015622330 : True := trivial
theorem hd.tw11968265576560266318 : True := trivial
theorem hd.tw17925215291927510665 : True := trivial
theorem hd.tw8273930003744585626 : True := trivial
theorem hd.tw11754176132448286083 : True := trivial
theorem hd.tw3493717111155160527 : True := trivial
theorem hd.tw18103420901670897651 : True := trivial
theorem hd.tw12994019391074448376 : True := trivial
theorem hd.tw2783992281797965187 : True := trivial
theorem hd.tw15606596725942863602 : True := trivial
theorem hd.tw22551697357593593 : True := trivial
theorem hd.tw15578025631644234493 : True := trivial
theorem hd.tw6291416237084387574 : True := trivial
theorem hd.tw18176940659606848779 : True := trivial
theorem hd.tw18268791191939849864 : True := trivial
theorem hd.tw2380272775587480882 : True := trivial
theorem hd.tw6868836192036940282 : True := trivial
theorem hd.tw11801993109049149486 : True := trivial
theorem hd.tw5549315172176941698 : True := trivial
theorem hd.tw13365295217650922812 : True := trivial
theorem hd.tw9955209858657692705 : True := trivial
theorem hd.tw7534799579077118603 : True := trivial
theorem hd.tw1603739661141634737 : True := trivial
theorem hd.tw8683856772340465682 : True := trivial
theorem hd.tw6547078798241139092 : True := trivial
theorem hd.tw18163647496604598072 : True := trivial
theorem hd.tw9533747618267967006 : True := trivial
theorem hd.tw13475242022060392486 : True := trivial
theorem hd.tw7355570028127101125 : True := trivial
theorem hd.tw6767318904944593275 : True := trivial
theorem hd.tw10601615944963115059 : True := trivial
theorem hd.tw7296583596125217682 : True := trivial
theorem hd.tw10678649693572172417 : True := trivial
theorem hd.tw12268275109542032366 : True := trivial
theorem hd.tw14478148883734587675 : True := trivial
theorem hd.tw12271959270614036898 : True := trivial
theorem hd.tw2608437505485318709 : True := trivial
theorem hd.tw8381844023166312768 : True := trivial
theorem hd.tw541196102884509978 : True := trivial
theorem hd.tw15852365999677673905 : True := trivial
theorem hd.tw3646829019195819677 : True := trivial
theorem hd.tw18264374347568628810 : True := trivial
theorem hd.tw4971549296188076032 : True := trivial
theorem hd.tw17177331786930743035 : True := trivial
theorem hd.tw6781338283326393682 : True := trivial
theorem hd.tw7289634563603522867 : True := trivial
theorem hd.tw1792636949448641307 : True := trivial
theorem hd.tw17542962492245011380 : True := trivial
theorem hd.tw14612060388864693735 : True := trivial
theorem hd.tw17252143746492648416 : True := trivial
theorem hd.tw17377529257436501650 : True := trivial
theorem hd.tw9917049931354899413 : True := trivial
theorem hd.tw12459740579856956213 : True := trivial
theorem hd.tw13217827037086042188 : True := trivial
theorem hd.tw6184460063843016694 : True := trivial
theorem hd.tw14457593812595234344 : True := trivial
theorem hd.tw5343241284826551009 : True := trivial
theorem hd.tw12870888531099404533 : True := trivial
theorem hd.tw15610959940260225430 : True := trivial
theorem hd.tw16376525773666504680 : True := trivial
theorem hd.tw6320253292602491972 : True := trivial
theorem hd.tw2922222751358710265 : True := trivial
theorem hd.tw3673020696563887462 : True := trivial
theorem hd.tw7578210074245671484 : True := trivial
theorem hd.tw6264232113106981867 : True := trivial
theorem hd.tw2739504486584576224 : True := trivial
theorem hd.tw3386092968808520798 : True := trivial
theorem hd.tw940617070666608080 : True := trivial
theorem hd.tw11660266114150955751 : True := trivial
theorem hd.tw7191455744419660376 : True := trivial
theorem hd.tw3704167492566942397 : True := trivial
theorem hd.tw5247051413645994129 : True := trivial
theorem hd.tw3496965988886986938 : True := trivial
theorem hd.tw6442067068224118133 : True := trivial
theorem hd.tw1379335367625716243 : True := trivial
theorem hd.tw16477043939570097188 : True := trivial
theorem hd.tw7712595579559962911 : True := trivial
theorem hd.tw16171809288044610508 : True := trivial
theorem hd.tw13262116225945230012 : True := trivial
theorem hd.tw15615420239508185596 : True := trivial
theorem hd.tw3229955645248102723 : True := trivial
theorem hd.tw10603584201595350602 : True := trivial
theorem hd.tw15948780112781908787 : True := trivial
theorem hd.tw14980023328507725902 : True := trivial
theorem hd.tw12602439190401603521 : True := trivial
theorem hd.tw17143205804819765802 : True := trivial
theorem hd.tw9014375795449043846 : True := trivial
theorem hd.tw11151547217846952531 : True := trivial
theorem hd.tw2887051446865420828 : True := trivial
theorem hd.tw10806950440038215891 : True := trivial
theorem hd.tw3608708970678896270 : True := trivial
theorem hd.tw9657781627882305391 : True := trivial
theorem hd.tw11905163887095721015 : True := trivial
theorem hd.tw13648854512587300442 : True := trivial
theorem hd.tw4788038989552484473 : True := trivial
theorem hd.tw2329189449893159454 : True := trivial
theorem hd.tw14060237666301923597 : True := trivial
theorem hd.tw10778257442750969130 : True := trivial
theorem hd.tw13532847315355080253 : True := trivial
theorem hd.tw5190246844813560578 : True := trivial
theorem hd.tw14439243815434019604 : True := trivial
theorem hd.tw14492701947808656938 : True := trivial
theorem hd.tw17956543221229664512 : True := trivial
theorem hd.tw14852329139284432860 : True := trivial
theorem hd.tw7372000682148998216 : True := trivial
theorem hd.tw14103535550066685397 : True := trivial
theorem hd.tw8356816923877370021 : True := trivial
theorem hd.tw9513423893830186035 : True := trivial
theorem hd.tw15683763237869141255 : True := trivial
theorem hd.tw17902569758825723728 : True := trivial
theorem hd.tw10604169790165778682 : True := trivial
theorem hd.tw4297731678662094536 : True := trivial
theorem hd.tw16432713993328977331 : True := trivial
theorem hd.tw12629568148972539762 : True := trivial
theorem hd.tw6755925336976613232 : True := trivial
theorem hd.tw5283464899586487735 : True := trivial
theorem hd.tw876933089483189297 : True := trivial
theorem hd.tw7028611270464810887 : True := trivial
theorem hd.tw14246236162039180721 : True := trivial
theorem hd.tw4654797750381630734 : True := trivial
theorem hd.tw10264135568141901301 : True := trivial
theorem hd.tw17070941380808615275 : True := trivial
theorem hd.tw12113243949977362033 : True := trivial
theorem hd.tw8745986378241412371 : True := trivial
theorem hd.tw9153386212771759811 : True := trivial
theorem hd.tw8228950375871286339 : True := trivial
theorem hd.tw518976864732996251 : True := trivial
theorem hd.tw12832683148521936107 : True := trivial
theorem hd.tw6578402527460240241 : True := trivial
theorem hd.tw1043307727769730188 : True := trivial
theorem hd.tw14667805832236412624 : True := trivial
theorem hd.tw11184233589655437745 : True := trivial
theorem hd.tw6615107907471364465 : True := trivial
theorem hd.tw6394381022753523788 : True := trivial
theorem hd.tw4068527845204499245 : True := trivial
theorem hd.tw17062030032774818151 : True := trivial
theorem hd.tw12337632362937886050 : True := trivial
theorem hd.tw6305734824756694309 : True := trivial
theorem hd.tw2252305205657439004 : True := trivial
theorem hd.tw2708950531961675432 : True := trivial
theorem hd.tw4494801613693538912 : True := trivial
theorem hd.tw16487816990975572028 : True := trivial
theorem hd.tw7526368328331116154 : True := trivial
theorem hd.tw18095200977026478895 : True := trivial
theorem hd.tw11551083187376567056 : True := trivial
theorem hd.tw10424393626065333798 : True := trivial
theorem hd.tw1439246655266547700 : True := trivial
theorem hd.tw5486487638281291605 : True := trivial
theorem hd.tw14685462170515437407 : True := trivial
theorem hd.tw12023040214023829324 : True := trivial
set_option Elab.async true in
theorem hd : PySem.Challenge.rw_jj0017_01.Holds := by
  w_on
  o_law
  o_head (kmHook pre.heap_1 [2, 3, 15, 17, 18, 20, 21, 29, 31, 32, 34, 35, 36, 37, 39, 40, 42, 43, 44, 46, 47, 49, 50, 51, 53, 54, 56, 57, 58, 59, 60, 61, 62, 65, 67, 68, 70, 71, 72, 75, 80, 81, 82, 83, 85, 86, 88, 89, 90, 92, 93, 95, 96, 97, 98, 99, 100, 101, 103, 104, 106, 107, 108, 110, 111, 113, 114, 115, 117, 118, 120, 121, 122, 124, 125, 127, 128, 129, 130, 131, 133, 134, 136, 138, 139, 140, 150, 151, 153, 154, 156, 157, 158, 160, 161, 163, 164, 165, 166, 167, 168, 170, 171, 173, 174, 175, 176, 177, 180, 181, 182, 184, 185, 187, 188, 189, 191, 192, 194, 195, 196, 198, 199, 201, 202, 203, 204, 205, 206, 207, 210, 220, 221, 222, 223, 224, 227, 237, 238, 239, 240, 241, 244, 254, 255, 256, 257, 258, 261, 271, 272, 273, 274, 275, 278, 288, 289, 290, 291, 292, 295, 305, 306, 307, 308, 309, 319, 321, 322, 324, 325, 326, 327, 329, 330, 332, 333, 334, 336, 337, 339, 340, 341, 343, 344, 346, 347, 348, 349, 350, 351, 352, 355, 357, 358, 360, 361, 362, 364, 365, 367, 368, 369, 371, 372, 374, 375, 376, 379, 384, 385, 386, 387, 389, 390, 392, 393, 394, 396, 397, 399, 400, 401, 402, 403, 404, 405, 407, 408, 410, 411, 412, 414, 415, 417, 418, 419, 421, 422, 424, 425, 426, 428, 429, 431, 432, 433, 434, 435, 437, 438, 440, 442, 443, 444, 447, 449, 450, 452, 453, 454, 456, 457, 459, 460, 461, 463, 464, 466, 467, 475, 477, 478, 480, 481, 482, 483, 484, 485, 486, 487, 488, 489, 499, 501, 502, 504, 505, 506, 507, 508, 509, 510, 513, 520, 522, 523, 525, 526, 527, 529, 530, 532, 533, 534, 535, 537, 538, 540, 541, 542, 543, 545, 546, 548, 549, 550, 552, 553, 555, 556, 557, 559, 560, 562, 563, 564, 565, 567, 568, 570, 571, 572, 574, 575, 577, 578, 579, 581, 582, 584, 585, 586, 587, 589, 590, 592, 593, 594, 596, 597, 599, 600, 601, 603, 604, 606, 607, 608, 610, 611, 613, 614, 615, 617, 618, 620, 621, 622, 624, 625, 627, 628, 629, 630, 631, 641, 643, 644, 646, 647, 648, 649, 650, 652, 653, 655, 656, 657, 658, 659, 660, 661, 664, 671, 672, 673, 675, 676, 678, 679, 680, 681, 682, 684, 685, 687, 688, 689, 690, 691, 693, 694, 696, 697, 698, 699, 700, 703, 705, 706, 708, 709, 710, 711, 713, 714, 716, 717, 718, 720, 721, 723, 724, 725, 727, 728, 730, 731, 732, 735, 736] (fun _ => by kernel_rfl) [733])
  (case hw => w_witness2)
  w_strict k_go0
  (rename Fr _ _ _ _ => hF9)
  (rename CodeHd _ _ _ => hC9)
  (rename News _ _ _ _ => hN9)
  refine' law_walk ?zho ?zB ?zX ?zT hF9 ?zhc hN9 hC9 ?zhl ?zhi ?zhn ?zl0 ?zhE ?zhret
  case zho => k_is
  case zB => assumption
  case zX => assumption
  case zT => assumption
  case zhl => assumption
  case zhi => assumption
  case zhn => assumption
  case zl0 => assumption
  case zhc => assumption
  case zhE => passes_own
  case zhret =>
    intro h' tk' m' tps hF' hN'
    (try dsimp only)
    k_steps
end Mine
theorem PySem.Challenge.cw_jj0017_01_holds : PySem.Challenge.rw_jj0017_01.Holds :=
  Mine.hd
