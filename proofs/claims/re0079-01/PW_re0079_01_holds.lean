import PyProof.Rows.All
import Wide.All
import OpenK.AllK
import Wide.FinOn
import Lean
import PySem.Challenge.RW_re0079_01
set_option Elab.async false

section PartTop1
open PySem PySem.W PyProof.Rows
namespace Mine
noncomputable def vw : Program := view Challenge.rw_re0079_01.row.prog [1, 2, 3, 4, 5, 7, 8, 10, 11, 13, 14, 15, 16, 17]
local macro_rules | `(tactic| o_head $H:term) => `(tactic| (
  refine holds_open (q := vw) (loose := []) (Xt := fun s => xlAt vw [] s && recOk (RowW.records (OpenRow.toRowW Challenge.rw_re0079_01.row)) s) (XP := XL vw []) (Yf := Hook.obs $H) (Ya := Hook.val $H) (YP := Hook.says $H) (N := 980) ?hl (Hook.of $H) (Hook.keeps $H) (fun s e => xl_of s (Bool.and_eq_true_iff.mp e).1) XL.keeps (by rfl) (by rfl) (by rfl) (fun s e => recFacts_of (Bool.and_eq_true_iff.mp e).2) (by rfl) (by first | assumption | decide +kernel) (by decide +kernel) ⟨rfl, rfl, rfl, rfl, rfl, by decide +kernel⟩ ?hw ?hc
  case hl => (intro w; kernel_rfl)))
set_option maxRecDepth 100000 in
set_option maxHeartbeats 8000000 in
open_top hd for PySem.Challenge.rw_re0079_01
end Mine
end PartTop1

open PySem.W PyProof.Rows
local macro_rules | `(tactic| walk_at $s:str) => `(tactic| k_extra $s)
local macro_rules | `(tactic| k_all) => `(tactic| k_extra "k_all")
section Lia
local macro_rules | `(tactic| omega) => `(tactic| first | (law_clear; lia) | omega +splitDisjunctions)

section PartBase
open PySem.W PyProof.Rows in
theorem Mine.cleanBase : (1 : Nat) = 1 := by
  (w_on; w_top off; k_with_none)
  first | walk1 | rfl
open PySem PySem.W PyProof.Rows PySem.Spec PySem.Calls
namespace Mine
abbrev HP := Challenge.rw_re0079_01.row.prog
noncomputable def Hold (P : Prop) : Prop := P
theorem fr_re {h₀ h : Heap} {L : Addr} {m m' : Str → Option Value} (F : Fr h₀ L h m) (e : m = m') : Fr h₀ L h m' := e ▸ F
theorem pin {h₀ h : Heap} {L : Addr} {m : Str → Option Value} {x : Str} {v : Value} (F : Fr h₀ L h m) (e : m x = some v) : Fr h₀ L h (fun y => if y = x then some v else m y) := by
  refine fr_re F ?_
  funext y
  by_cases hy : y = x
  · rw [if_pos hy, hy, e]
  · rw [if_neg hy]
theorem lookup_kstB : ∀ (l : List (Str × Value)), (fun y => l.lookup y) = kstB (fun _ => none) l
  | [] => rfl
  | p :: r => by
    funext y
    have ih := congrFun (lookup_kstB r) y
    obtain ⟨k, v⟩ := p
    simp only [kstB, List.lookup_cons]
    by_cases e : y = k
    · subst e; simp
    · have : (y == k) = false := by simpa using e
      simp only [this, if_neg e]
      exact ih
theorem cutM {α : Type} {M : Model} {A : Around} {t : Sem α} {Q Q' : α → Shared → Prop} {E : Value → Shared → Prop} {s : Shared} (h : wpAny M A t (fun a s' => Hold (Q' a s')) E s) (k : ∀ a s', Q' a s' → Q a s') : wpAny M A t Q E s :=
  wpAny_mono h k (fun _ _ x => x)

theorem cutE_wp {M : Model} {A : Around} {env : Env} {Q : Flow → Shared → Prop} {E : Value → Shared → Prop} {P : Shared → Prop} {Γ : PySem.Ctx} (hΓ : Γ.In A) : ∀ (n : Nat) (l : List Stmt) (p : Pos) (s : Shared),
    Sem.wp M Γ (execs (l.take n) env) (fun f _ s' => Hold (f = .next ∧ P s')) (fun e _ s' => E e s') p s → (∀ s', P s' → wpAny M A (execs (l.drop n) env) Q E s') →
    Sem.wp M Γ (execs l env) (fun f _ s' => Q f s') (fun e _ s' => E e s') p s
  | 0, l, p, s, h1, h2 => by
    have h1' : Flow.next = Flow.next ∧ P s := h1
    exact h2 s h1'.2 Γ p hΓ
  | n + 1, [], p, s, h1, h2 => by
    have h1' : Flow.next = Flow.next ∧ P s := h1
    exact h2 s h1'.2 Γ p hΓ
  | n + 1, st :: rest, p, s, h1, h2 => by
    rw [List.take_succ_cons, execs_cons, Sem.wp_bind'] at h1
    rw [execs_cons, Sem.wp_bind']
    refine Sem.wp_mono M Γ _ (fun f p' s' h => ?_) (fun _ _ _ h => h) p s h1
    cases f with
    | next => exact cutE_wp hΓ n rest p' s' h h2
    | brk => exact absurd (show Flow.brk = Flow.next from (show Flow.brk = Flow.next ∧ P s' from h).1) (by simp)
    | cont => exact absurd (show Flow.cont = Flow.next from (show Flow.cont = Flow.next ∧ P s' from h).1) (by simp)
    | ret v => exact absurd (show Flow.ret v = Flow.next from (show Flow.ret v = Flow.next ∧ P s' from h).1) (by simp)
/-- a block cut behind its first n statements -/
theorem cutE {M : Model} {A : Around} {env : Env} {Q : Flow → Shared → Prop} {E : Value → Shared → Prop} {s : Shared} (n : Nat) {l : List Stmt} (P : Shared → Prop)
    (h1 : wpAny M A (execs (l.take n) env) (fun f s' => Hold (f = .next ∧ P s')) E s) (h2 : ∀ s', P s' → wpAny M A (execs (l.drop n) env) Q E s') : wpAny M A (execs l env) Q E s :=
  fun Γ p hΓ => cutE_wp hΓ n l p s (h1 Γ p hΓ) h2

/-- texts as lists -/
abbrev LL (x : Str) : List Nat := x.cps.toList
theorem len_LL (x : Str) : (LL x).length = x.length := rfl
theorem slice_from {x : Str} {i : Int} (h0 : 0 ≤ i) (h2 : i ≤ x.length) : LL (Txt.slice x (some i) none) = (LL x).drop i.toNat := by
  rw [slice_from_eq h0 h2 rfl]
  simp only [LL]
  rw [List.take_of_length_le]
  simp only [List.length_drop, Array.length_toList]
  have : x.length = x.cps.size := rfl
  omega
theorem item_nn {x : Str} {i : Int} (h0 : 0 ≤ i) (h2 : i < x.length) : Txt.item x i = ⟨#[(LL x).getD i.toNat 0]⟩ := by
  have := item_at (x := x) h0 h2 rfl
  rw [this]
  simp only [LL, List.getD, Array.getD]
  by_cases h : i.toNat < x.cps.size <;> simp [h]
theorem item_ng {x : Str} {i : Int} (h0 : i < 0) (h2 : -(x.length : Int) ≤ i) : Txt.item x i = ⟨#[(LL x).getD (i + x.length).toNat 0]⟩ := by
  have := beq_iff_eq.mp (item_closes_neg h0 h2 rfl)
  rw [this]
  simp only [LL, List.getD, Array.getD]
  by_cases h : (i + (x.length : Int)).toNat < x.cps.size <;> simp [h]
theorem slice_to_ng {x : Str} {j : Int} (h0 : j < 0) (h1 : -(x.length : Int) ≤ j) : LL (Txt.slice x none (some j)) = (LL x).take (j + x.length).toNat := by
  rw [beq_iff_eq.mp (slice_closes_to_neg h0 h1 rfl)]
  simp [LL]
theorem slice_all {x : Str} : Txt.slice x none none = x := by
  unfold Txt.slice
  rw [if_pos]
  simp only [PySem.Builtin.Str.strSliceIndices, sliceRange]
  simp
  split <;> omega
theorem str_ext {x y : Str} (h : LL x = LL y) : x = y := by
  cases x; cases y
  simp only [LL] at h
  congr
  exact Array.ext' h
theorem length_of_LL {x : Str} : x.length = (LL x).length := rfl
theorem one_eq {m n : Nat} : ((⟨#[m]⟩ : Str) == ⟨#[n]⟩) = decide (m = n) := by
  by_cases h : m = n
  · subst h; simp
  · simp [h]
end Mine
end PartBase

section PartPlain1
open PySem.W PyProof.Rows in
theorem Mine.cleanPlain1 : (1 : Nat) = 1 := by
  (w_on; w_top off; k_with_none)
  first | walk1 | rfl
open PySem PySem.W PyProof.Rows
namespace Mine
noncomputable def subst (a b : Str) : Int := if a = b then 0 else if Txt.lower a = Txt.lower b then 1 else 2
/-- the price of one sign for another -/
noncomputable def sub (x y : Nat) : Int := subst ⟨#[x]⟩ ⟨#[y]⟩
noncomputable def preLen : List Nat → List Nat → Nat
  | x :: xs, y :: ys => if x = y then preLen xs ys + 1 else 0
  | _, _ => 0
/-- Python's min of two ints -/
abbrev pmin (x y : Int) : Int := if y < x then y else x
/-- one row of the table: (the row's rest, result, minimum) -/
noncomputable def cells (y : Nat) : List Nat → List Int → Int → Int → Int → List Int × Int × Int
  | x :: xs, r :: rs, d, res, mn =>
    let res' := pmin (pmin res r + 2) (d + sub y x)
    let o := cells y xs rs r res' (if res' < mn then res' else mn)
    (res' :: o.1, o.2)
  | _, _, _, res, mn => ([], res, mn)
noncomputable def rows (a : List Nat) (c : Int) : List Nat → Int → List Int → Int → Int
  | [], _, _, res => res
  | y :: ys, k, row, _ =>
    let o := cells y a row (k * 2) (k * 2) 9223372036854775807
    if o.2.2 > c then c + 1 else rows a c ys (k + 1) o.1 o.2.1
noncomputable def row0 (n : Nat) : List Int := (List.range n).map fun (i : Nat) => 2 * (i : Int) + 2
noncomputable def lev3 (a b : List Nat) (c : Int) : Int :=
  if ((b.length : Int) - a.length) * 2 > c then c + 1 else rows a c b 0 (row0 a.length) 0
noncomputable def lev2 (a b : List Nat) (c : Int) : Int :=
  if a.length = 0 ∨ b.length = 0 then 2 * ((a.length : Int) + b.length)
  else if b.length < a.length then lev3 b a c else lev3 a b c
noncomputable def postCut (a b : List Nat) : List Nat := a.take (a.length - preLen a.reverse b.reverse)
noncomputable def lev1 (a b : List Nat) (c : Int) : Int := lev2 (postCut a b) (postCut b a) c
noncomputable def lev (a b : List Nat) (c : Int) : Int :=
  if a = b then 0 else lev1 (a.drop (preLen a b)) (b.drop (preLen a b)) c

theorem preLen_le_left : ∀ (a b : List Nat), preLen a b ≤ a.length
  | [], _ => by simp [preLen]
  | _ :: _, [] => by simp [preLen]
  | x :: xs, y :: ys => by
    unfold preLen
    split
    · have := preLen_le_left xs ys; simp only [List.length_cons]; omega
    · omega
theorem preLen_comm : ∀ (a b : List Nat), preLen a b = preLen b a
  | [], [] => rfl
  | [], _ :: _ => by simp [preLen]
  | _ :: _, [] => by simp [preLen]
  | x :: xs, y :: ys => by
    unfold preLen
    by_cases h : x = y
    · subst h; simp [preLen_comm xs ys]
    · rw [if_neg h, if_neg (fun e => h e.symm)]
theorem preLen_le_right (a b : List Nat) : preLen a b ≤ b.length := preLen_comm a b ▸ preLen_le_left b a
/-- a step of the first while -/
theorem preLen_drop {a b : List Nat} {i : Nat} (ha : i < a.length) (hb : i < b.length) (e : a.getD i 0 = b.getD i 0) : preLen (a.drop i) (b.drop i) = 1 + preLen (a.drop (i + 1)) (b.drop (i + 1)) := by
  rw [List.drop_eq_getElem_cons ha, List.drop_eq_getElem_cons hb]
  have e' : a[i] = b[i] := by simpa [List.getD, ha, hb] using e
  simp [preLen, e', Nat.add_comm]
theorem preLen_stop {a b : List Nat} {i : Nat} (h : a.length ≤ i ∨ b.length ≤ i ∨ (i < a.length ∧ i < b.length ∧ a.getD i 0 ≠ b.getD i 0)) : preLen (a.drop i) (b.drop i) = 0 := by
  rcases h with h | h | ⟨h1, h2, h⟩
  · rw [List.drop_eq_nil_of_le h]; simp [preLen]
  · rw [List.drop_eq_nil_of_le h, preLen_comm]; simp [preLen]
  · rw [List.drop_eq_getElem_cons h1, List.drop_eq_getElem_cons h2]
    have e' : a[i] ≠ b[i] := by simpa [List.getD, h1, h2] using h
    simp [preLen, e']
theorem preLen_add {a b : List Nat} {i : Nat} (h : preLen a b = i + preLen (a.drop i) (b.drop i)) (ha : i < a.length) (hb : i < b.length) (e : a.getD i 0 = b.getD i 0) : preLen a b = (i + 1) + preLen (a.drop (i + 1)) (b.drop (i + 1)) := by
  rw [preLen_drop ha hb e] at h; omega
theorem cells_cons (y x : Nat) (xs : List Nat) (r : Int) (rs : List Int) (d res mn : Int) :
    cells y (x :: xs) (r :: rs) d res mn =
      (pmin (pmin res r + 2) (d + sub y x) :: (cells y xs rs r (pmin (pmin res r + 2) (d + sub y x)) (if pmin (pmin res r + 2) (d + sub y x) < mn then pmin (pmin res r + 2) (d + sub y x) else mn)).1,
       (cells y xs rs r (pmin (pmin res r + 2) (d + sub y x)) (if pmin (pmin res r + 2) (d + sub y x) < mn then pmin (pmin res r + 2) (d + sub y x) else mn)).2) := rfl
theorem dp_start {a b : List Nat} {c : Int} {n : Nat} : (row0 n).length = n ∧ rows a c b 0 (row0 n) 0 = rows a c (List.drop ([] : List Int).length b) (([] : List Int).length : Int) (row0 n) 0 := ⟨by simp [row0], rfl⟩
theorem in_start {y : Nat} {a : List Nat} {row : List Int} {d r mn : Int} {n : Nat} (h : row.length = n) :
    row.length = n ∧ row.drop ([] : List Int).length = row.drop ([] : List Int).length ∧
    cells y a row d r mn = (row.take ([] : List Int).length ++ (cells y (a.drop ([] : List Int).length) (row.drop ([] : List Int).length) d r mn).1, (cells y (a.drop ([] : List Int).length) (row.drop ([] : List Int).length) d r mn).2) := by
  refine ⟨h, rfl, ?_⟩
  simp
/-- one turn of the inner loop, plain -/
theorem in_plain {y : Nat} {a : List Nat} {row1 row2 : List Int} {d r mn d0 r0 m0 : Int} {i : Nat} (hi : i < a.length) (hr : row1.length = a.length) (h1 : row2.length = a.length) (h2 : row2.drop i = row1.drop i)
    (h3 : cells y a row1 d0 r0 m0 = (row2.take i ++ (cells y (a.drop i) (row1.drop i) d r mn).1, (cells y (a.drop i) (row1.drop i) d r mn).2)) (res' : Int) (hres : res' = pmin (pmin r (row2.getD i 0) + 2) (d + sub y (a.getD i 0))) :
    (row2.set i res').length = a.length ∧ (row2.set i res').drop (i + 1) = row1.drop (i + 1) ∧
    cells y a row1 d0 r0 m0 = ((row2.set i res').take (i + 1) ++ (cells y (a.drop (i + 1)) (row1.drop (i + 1)) (row2.getD i 0) res' (if res' < mn then res' else mn)).1, (cells y (a.drop (i + 1)) (row1.drop (i + 1)) (row2.getD i 0) res' (if res' < mn then res' else mn)).2) := by
  have hd : row2.drop (i + 1) = row1.drop (i + 1) := by
    have := congrArg (List.drop 1) h2
    simpa [List.drop_drop] using this
  have hg : row1.getD i 0 = row2.getD i 0 := by
    have e := congrArg (fun l => l.getD 0 0) h2
    simpa [List.getD, List.getElem?_drop] using e.symm
  refine ⟨by rw [List.length_set, h1], by rw [List.drop_set_of_lt (by omega)]; exact hd, ?_⟩
  have ea : a.drop i = a.getD i 0 :: a.drop (i + 1) := by
    rw [List.drop_eq_getElem_cons hi]; simp [List.getD, hi]
  have er : row1.drop i = row2.getD i 0 :: row1.drop (i + 1) := by
    rw [List.drop_eq_getElem_cons (by omega), ← hg]; simp [List.getD, show i < row1.length by omega]
  rw [h3, ea, er, cells_cons, ← hres]
  have et : (row2.set i res').take (i + 1) = row2.take i ++ [res'] := by
    rw [List.take_succ_eq_append_getElem (by rw [List.length_set]; omega), List.take_set_of_le (Nat.le_refl i)]
    simp
  rw [et]
  simp
theorem in_step {A B : Str} {row1 row2 : List Int} {k1 kN d r mn d0 r0 m0 : Int} {pre1 pre2 : List Int}
    (e1 : k1 = 0 + (pre1.length : Int)) (l1 : pre1.length < ((B.length : Int) - 0).toNat) (e2 : kN = 0 + (pre2.length : Int)) (l2 : pre2.length < ((A.length : Int) - 0).toNat)
    (hr : row1.length = A.length) (h1 : row2.length = A.length) (h2 : row2.drop pre2.length = row1.drop pre2.length)
    (h3 : cells ((LL B).getD k1.toNat 0) (LL A) row1 d0 r0 m0 = (row2.take pre2.length ++ (cells ((LL B).getD k1.toNat 0) ((LL A).drop pre2.length) (row1.drop pre2.length) d r mn).1, (cells ((LL B).getD k1.toNat 0) ((LL A).drop pre2.length) (row1.drop pre2.length) d r mn).2))
    (res' : Int) (hres : res' = pmin (pmin r (row2.getD kN.toNat 0) + 2) (d + subst (Txt.item B k1) (Txt.item A kN))) :
    (row2.set kN.toNat res').length = A.length ∧ (row2.set kN.toNat res').drop (pre2 ++ [kN]).length = row1.drop (pre2 ++ [kN]).length ∧
    cells ((LL B).getD k1.toNat 0) (LL A) row1 d0 r0 m0 = ((row2.set kN.toNat res').take (pre2 ++ [kN]).length ++ (cells ((LL B).getD k1.toNat 0) ((LL A).drop (pre2 ++ [kN]).length) (row1.drop (pre2 ++ [kN]).length) (row2.getD kN.toNat 0) res' (if res' < mn then res' else mn)).1,
      (cells ((LL B).getD k1.toNat 0) ((LL A).drop (pre2 ++ [kN]).length) (row1.drop (pre2 ++ [kN]).length) (row2.getD kN.toNat 0) res' (if res' < mn then res' else mn)).2) := by
  have ek : kN.toNat = pre2.length := by omega
  have es : subst (Txt.item B k1) (Txt.item A kN) = sub ((LL B).getD k1.toNat 0) ((LL A).getD kN.toNat 0) := by
    rw [item_nn (by omega) (by omega), item_nn (by omega) (by omega)]; rfl
  rw [es] at hres
  rw [List.length_append, List.length_singleton]
  rw [ek] at hres ⊢
  have la := len_LL A
  exact in_plain (by omega) (by omega) (by omega) h2 h3 res' hres
theorem in_done {y : Nat} {a : List Nat} {row1 row2 : List Int} {d r mn d0 r0 m0 : Int} {n : Nat} (hn : n = a.length) (h1 : row2.length = a.length)
    (h3 : cells y a row1 d0 r0 m0 = (row2.take n ++ (cells y (a.drop n) (row1.drop n) d r mn).1, (cells y (a.drop n) (row1.drop n) d r mn).2)) : cells y a row1 d0 r0 m0 = (row2, r, mn) := by
  subst hn
  rw [h3, List.drop_length]
  have : cells y [] (row1.drop a.length) d r mn = ([], r, mn) := by simp [cells]
  rw [this, ← h1, List.take_length]
  simp
theorem rows_cons (a : List Nat) (c : Int) (y : Nat) (ys : List Nat) (k : Int) (row : List Int) (res : Int) : rows a c (y :: ys) k row res =
    if (cells y a row (k * 2) (k * 2) 9223372036854775807).2.2 > c then c + 1 else rows a c ys (k + 1) (cells y a row (k * 2) (k * 2) 9223372036854775807).1 (cells y a row (k * 2) (k * 2) 9223372036854775807).2.1 := rfl
theorem out_step {a b : List Nat} {c k : Int} {row1 row2 : List Int} {res r mn : Int} {i : Nat} (hi : i < b.length) (hk : k = (i : Int)) (h : cells (b.getD k.toNat 0) a row1 (k * 2) (k * 2) 9223372036854775807 = (row2, r, mn)) :
    rows a c (b.drop i) (i : Int) row1 res = if mn > c then c + 1 else rows a c (b.drop (i + 1)) ((i + 1 : Nat) : Int) row2 r := by
  subst hk
  have eb : b.drop i = b.getD i 0 :: b.drop (i + 1) := by
    rw [List.drop_eq_getElem_cons hi]; simp [List.getD, hi]
  rw [eb, rows_cons]
  rw [Int.toNat_natCast] at h
  rw [h]
  simp
end Mine
end PartPlain1

section PartBase2
open PySem.W PyProof.Rows in
theorem Mine.cleanBase2 : (1 : Nat) = 1 := by
  (w_on; w_top off; k_with_none)
  first | walk1 | rfl
open PySem PySem.W PyProof.Rows PySem.Spec PySem.Calls
namespace Mine
theorem cutR_wp {M : Model} {A : Around} {env : Env} {Q : Flow → Shared → Prop} {E : Value → Shared → Prop} {P : Shared → Prop} {Γ : PySem.Ctx} (hΓ : Γ.In A) : ∀ (n : Nat) (l : List Stmt) (p : Pos) (s : Shared),
    Sem.wp M Γ (execs (l.take n) env) (fun f _ s' => match f with | .next => Hold (P s') | f => Q f s') (fun e _ s' => E e s') p s → (∀ s', P s' → wpAny M A (execs (l.drop n) env) Q E s') →
    Sem.wp M Γ (execs l env) (fun f _ s' => Q f s') (fun e _ s' => E e s') p s
  | 0, l, p, s, h1, h2 => by
    have h1' : P s := h1
    exact h2 s h1' Γ p hΓ
  | n + 1, [], p, s, h1, h2 => by
    have h1' : P s := h1
    exact h2 s h1' Γ p hΓ
  | n + 1, st :: rest, p, s, h1, h2 => by
    rw [List.take_succ_cons, execs_cons, Sem.wp_bind'] at h1
    rw [execs_cons, Sem.wp_bind']
    refine Sem.wp_mono M Γ _ (fun f p' s' h => ?_) (fun _ _ _ h => h) p s h1
    cases f with
    | next => exact cutR_wp hΓ n rest p' s' h h2
    | brk => exact h
    | cont => exact h
    | ret v => exact h
/-- a block cut behind its first n statements, which may return -/
theorem cutR {M : Model} {A : Around} {env : Env} {Q : Flow → Shared → Prop} {E : Value → Shared → Prop} {s : Shared} (n : Nat) {l : List Stmt} (P : Shared → Prop)
    (h1 : wpAny M A (execs (l.take n) env) (fun f s' => match f with | .next => Hold (P s') | f => Q f s') E s) (h2 : ∀ s', P s' → wpAny M A (execs (l.drop n) env) Q E s') : wpAny M A (execs l env) Q E s :=
  fun Γ p hΓ => cutR_wp hΓ n l p s (h1 Γ p hΓ) h2
theorem news_drop {h₀ h : Heap} {L : Addr} {news news' : List (Addr × Obj)} (N : News h₀ L h news') (hs : ∀ p ∈ news, p ∈ news') : News h₀ L h news := fun p hp => N p (hs p hp)
section
variable {prog : Program} {w : World} {A : Around} {E : Value → Shared → Prop} {s : Shared} {h₀ : Heap} {L : Addr} {m : Str → Option Value} {news : List (Addr × Obj)} {Q : Value → Shared → Prop}
theorem list_range_K {r : Addr} {a b c : Int} {t u v : Tok} {n : Nat} (hh : A.handled = none) (F : Fr h₀ L s.heap m) (N : News h₀ L s.heap news) (hr : IsRange s.heap r a b c t u v) (hsmall : Builtin.Range.small a b c = true)
    (hn : Builtin.Range.rangeSize a b c = (n : Int)) (hlen : n ≤ 2 ^ 24)
    (h : ∀ l h' tk (vs : List Value) k, Fr h₀ L h' m → News h₀ L h' ((l, listOf vs.toArray k) :: news) → (∀ p ∈ news, p.1 < l) → IntsAre vs (rangeInts a c n) → Q (.ref l) { s with heap := h', toks := tk }) :
    wpAny (model prog w) A (call (.type "list") [.ref r]) Q E s := by
  refine list_rangeD hh F N hr hsmall hn hlen fun h' tk ys F' N' hk h0 _ hP hC => ?_
  obtain ⟨k, hg⟩ := hP.1
  refine h _ h' tk ys k F' (fun p hp => ?_) (fun p hp => Heap.lt_size (N p hp).1) (IntsAre.ofCarried hC)
  rcases List.mem_cons.mp hp with rfl | hp
  · exact ⟨hg, fun e => absurd F.ns.lt (e ▸ Nat.lt_irrefl _), h0⟩
  · exact N' p hp
theorem rangeSize_two (n : Nat) : Builtin.Range.rangeSize 2 (2 * ((n : Int) + 1)) 2 = (n : Int) := by
  unfold Builtin.Range.rangeSize
  rw [if_pos (by decide)]
  split <;> omega
theorem fits_long {i : Int} (h0 : -1000000 ≤ i) (h1 : i ≤ 1000000) : Builtin.Range.rangeFitsLong i = true := by
  unfold Builtin.Range.rangeFitsLong
  rw [Bool.and_eq_true, decide_eq_true_eq, decide_eq_true_eq]
  omega
theorem small_two {n : Nat} (h : n ≤ 1000) : Builtin.Range.small 2 (2 * ((n : Int) + 1)) 2 = true := by
  unfold Builtin.Range.small
  rw [rangeSize_two, fits_long (by omega) (by omega), fits_long (by omega) (by omega), fits_long (by omega) (by omega), if_pos (by decide), fits_long (by omega) (by omega)]
  simp
theorem rangeInts_two (n : Nat) : rangeInts 2 2 n = row0 n := by
  unfold rangeInts row0
  refine List.map_congr_left fun i _ => ?_
  omega
end
end Mine
end PartBase2

section PartSubst
open PySem.W PyProof.Rows in
theorem Mine.cleanSubst : (1 : Nat) = 1 := by
  (w_on; w_top off; k_with_none)
  first | walk1 | rfl
open PySem PySem.W PyProof.Rows PySem.Spec PySem.Calls
namespace Mine
set_option maxRecDepth 100000 in
set_option maxHeartbeats 8000000 in
theorem subst_cb (w : World) (mean mg mb) (news : List (Addr × Obj)) (a : Str) (ta : Tok) (b : Str) (tb : Tok) :
   CbClaim Challenge.rw_re0079_01.row.prog w (hd.heap_39 w.params) vw (looseW vw []) mean mg mb 21 news [] (a.length ≤ 100 ∧ b.length ≤ 100) [.str a ta, .str b tb] (fun t => .int (subst a b) t) := by
  k_fill
  dsimp only [CbClaim, CbLists, CbRet]
  intro dp un gd cn cs fa ccd cl outer A₀ base h₀ L m s Q E B0 F0 X0 N0 T0 hk hpre hdp hun hret
  obtain ⟨hla, hlb⟩ := hpre
  refine wpAny_call ?_
  k_dflt (refine' code_def ?k1 ?k2 ?k3 ?k4 ?k5 ?kA ?kF ?kK ?k6 ?k7 ?k8 ?k9 ?kB ?_ ?c2 ?c3 ?c4 ?c5; (case kA => exact rfl); (case kF => exact rfl); (case kK => assumption); (case k1 => k_asm); (case k2 => k_asm); (case k3 => k_asm); (case k4 => k_asm); (case k5 => k_asm); (case k6 => k_is); (case k7 => k_is); (case k8 => ktr_room); (case k9 => exact BindsTo.of_eq rfl); (case c5 => decide); (case kB => exact locs rfl); (case c2 => exact rfl); (case c3 => exact rfl); (case c4 => exact rfl); k_whole)
  intro g Lf h1 FG F N B X T
  (try dsimp only); (try k_unmd); (try k_fold)
  repeat' ((first | (k_unfold; (try dsimp only)) | (k_end; wrow_close) | walk1 | (dsimp only; walk1) | (leave1; walk_say "STEP leave1"; try dsimp only) | fail "no step"))
  all_goals (unfold subst at hret; simp only [beq_iff_eq, beq_eq_false_iff_ne, ne_eq] at *; simp only [*, if_true, if_false] at hret; exact hret _ _ _ (by assumption) (by assumption))
section
variable {w : World} {mean : ExcName → Option Value} {mg mb : Str → Option Value} {dp un : Nat} {gd : Option (List Code)} {cn : Str} {cs : Scope} {fa : Addr} {ccd : Value} {cl : List (Str × Addr)} {outer : List Env} {A₀ : Around} {base h₀ : Heap} {L : Addr} {m : Str → Option Value} {s : Shared} {Q E : Value → Shared → Prop} {news : List (Addr × Obj)}
theorem subst_use {a b : Str} {ta tb : Tok} (B : Below A₀ base outer h₀) (F : Fr h₀ L s.heap m) (X : (hd.heap_39 w.params).In h₀) (N : News h₀ L s.heap news) (T : Top vw (looseW vw []) mean mg mb h₀) (hk : cs.kind = .function)
   (hp : a.length ≤ 100 ∧ b.length ≤ 100) (hdp : dp + 1 < recursionLimit) (hun : un + 8 < cLine)
   (h : ∀ (t : Tok) (h' : Heap) (tk' : Nat), Fr h₀ L h' m → News h₀ L h' news → Q (.int (subst a b) t) { s with heap := h', toks := tk' }) :
   wpAny (model Challenge.rw_re0079_01.row.prog w) (ktrTop dp un gd cn cs L fa ccd cl outer) (call (.ref 21) [.str a ta, .str b tb]) Q E s :=
  subst_cb w mean mg mb news a ta b tb _ _ _ _ _ _ _ _ _ _ _ _ _ _ _ _ _ B F X N T hk hp hdp hun h
theorem subst_item {x y : Str} {i j : Int} {ta tb : Tok} (B : Below A₀ base outer h₀) (F : Fr h₀ L s.heap m) (X : (hd.heap_39 w.params).In h₀) (N : News h₀ L s.heap news) (T : Top vw (looseW vw []) mean mg mb h₀) (hk : cs.kind = .function)
   (hdp : dp + 1 < recursionLimit) (hun : un + 8 < cLine)
   (h : ∀ (t : Tok) (h' : Heap) (tk' : Nat), Fr h₀ L h' m → News h₀ L h' news → Q (.int (subst (Txt.item x i) (Txt.item y j)) t) { s with heap := h', toks := tk' }) :
   wpAny (model Challenge.rw_re0079_01.row.prog w) (ktrTop dp un gd cn cs L fa ccd cl outer) (call (.ref 21) [.str (Txt.item x i) ta, .str (Txt.item y j) tb]) Q E s :=
  subst_use B F X N T hk ⟨by rw [item_length]; decide, by rw [item_length]; decide⟩ hdp hun h
end
end Mine
end PartSubst

section PartPlain2
open PySem.W PyProof.Rows in
theorem Mine.cleanPlain2 : (1 : Nat) = 1 := by
  (w_on; w_top off; k_with_none)
  first | walk1 | rfl
open PySem PySem.W PyProof.Rows
namespace Mine
noncomputable def mts (size start other : Int) : Nat → Int
  | 0 => 0
  | n + 1 => mts size start other n + (if Int.fmod (start + n) size = Int.fmod (other - n) size then 1 else 0)
noncomputable def chg (size start other : Int) : Nat → Int
  | 0 => 0
  | n + 1 => chg size start other n + (if n > 0 ∧ Int.fmod (start + n) size = Int.fmod (other - n + 1) size then 1 else 0)
noncomputable def opp (size steps start other : Int) : Int :=
  2 * steps - 2 * (if mts size start other steps.toNat < chg size start other steps.toNat - 1 then chg size start other steps.toNat - 1 else mts size start other steps.toNat)
theorem opp_start {size start other : Int} : (0 : Int) = mts size start other ([] : List Int).length ∧ (0 : Int) = chg size start other ([] : List Int).length := ⟨rfl, rfl⟩
theorem opp_step {size start other kN me ch me' ch' : Int} {pre : List Int} (e : kN = 0 + (pre.length : Int)) (hm : me = mts size start other pre.length) (hc : ch = chg size start other pre.length)
    (hm' : me' = me + if Int.fmod (start + kN) size = Int.fmod (other - kN) size then 1 else 0) (hc' : ch' = ch + if 0 < kN ∧ Int.fmod (start + kN) size = Int.fmod (other - kN + 1) size then 1 else 0) :
    me' = mts size start other (pre ++ [kN]).length ∧ ch' = chg size start other (pre ++ [kN]).length := by
  rw [List.length_append, List.length_singleton]
  have e' : kN = (pre.length : Int) := by omega
  subst e'
  unfold mts chg
  rw [← hm, ← hc, hm', hc']
  refine ⟨rfl, ?_⟩
  congr 2
  simp
end Mine
end PartPlain2

section PartLev1
open PySem.W PyProof.Rows in
theorem Mine.cleanLev1 : (1 : Nat) = 1 := by
  (w_on; w_top off; k_with_none)
  first | walk1 | rfl
open PySem PySem.W PyProof.Rows PySem.Spec PySem.Calls
namespace Mine
theorem w1_step {a b : Str} {p : Int} (h0 : 0 ≤ p) (ha : p ≤ a.length) (hb : p ≤ b.length) (hi : (preLen (LL a) (LL b) : Int) = p + preLen ((LL a).drop p.toNat) ((LL b).drop p.toNat))
   (h1 : ((Txt.slice a (some p) none).length : Int) ≠ 0) (h2 : ((Txt.slice b (some p) none).length : Int) ≠ 0) (h3 : (Txt.item a p == Txt.item b p) = true) :
   0 ≤ p + 1 ∧ p + 1 ≤ a.length ∧ p + 1 ≤ b.length ∧ (preLen (LL a) (LL b) : Int) = (p + 1) + preLen ((LL a).drop (p + 1).toNat) ((LL b).drop (p + 1).toNat) := by
  have l1 : (Txt.slice a (some p) none).length = (LL a).length - p.toNat := by rw [length_of_LL, slice_from h0 ha, List.length_drop]
  have l2 : (Txt.slice b (some p) none).length = (LL b).length - p.toNat := by rw [length_of_LL, slice_from h0 hb, List.length_drop]
  have ea := len_LL a
  have eb := len_LL b
  rw [item_nn h0 (by omega), item_nn h0 (by omega), one_eq, decide_eq_true_eq] at h3
  have := preLen_add (a := LL a) (b := LL b) (i := p.toNat) (by omega) (by omega) (by omega) h3
  have e1 : (p + 1).toNat = p.toNat + 1 := by omega
  rw [e1]
  omega
theorem w1_stop {a b : Str} {p : Int} (h0 : 0 ≤ p) (ha : p ≤ a.length) (hb : p ≤ b.length) (hi : (preLen (LL a) (LL b) : Int) = p + preLen ((LL a).drop p.toNat) ((LL b).drop p.toNat))
   (h : ((Txt.slice a (some p) none).length : Int) = 0 ∨ ((Txt.slice b (some p) none).length : Int) = 0 ∨ (((Txt.slice a (some p) none).length : Int) ≠ 0 ∧ ((Txt.slice b (some p) none).length : Int) ≠ 0 ∧ (Txt.item a p == Txt.item b p) = false)) : p = preLen (LL a) (LL b) := by
  have l1 : (Txt.slice a (some p) none).length = (LL a).length - p.toNat := by rw [length_of_LL, slice_from h0 ha, List.length_drop]
  have l2 : (Txt.slice b (some p) none).length = (LL b).length - p.toNat := by rw [length_of_LL, slice_from h0 hb, List.length_drop]
  have ea := len_LL a
  have eb := len_LL b
  rw [preLen_stop (i := p.toNat)] at hi
  · omega
  · rcases h with h | h | ⟨h1, h2, h⟩
    · left; omega
    · right; left; omega
    · right; right
      rw [item_nn h0 (by omega), item_nn h0 (by omega), one_eq, decide_eq_false_iff_not] at h
      exact ⟨by omega, by omega, h⟩
theorem rev_getD {l : List Nat} {i : Nat} (h : i < l.length) : l.reverse.getD i 0 = l.getD (l.length - 1 - i) 0 := by
  have h2 : l.length - 1 - i < l.length := by omega
  simp only [List.getD, List.getElem?_eq_getElem h2]
  rw [List.getElem?_eq_getElem (by simpa using h), List.getElem_reverse]
theorem w2_item {a : Str} {q : Int} (h0 : q ≤ 0) (ha : -q < a.length) : Txt.item a (q - 1) = ⟨#[(LL a).reverse.getD (-q).toNat 0]⟩ := by
  have ea := len_LL a
  rw [item_ng (by omega) (by omega), rev_getD (by omega)]
  have : (LL a).length - 1 - (-q).toNat = (q - 1 + (a.length : Int)).toNat := by omega
  rw [this]
theorem w2_step {a b : Str} {q : Int} (h0 : q ≤ 0) (ha : -q ≤ a.length) (hb : -q ≤ b.length) (hi : (preLen (LL a).reverse (LL b).reverse : Int) = -q + preLen ((LL a).reverse.drop (-q).toNat) ((LL b).reverse.drop (-q).toNat))
   (h1 : (a.length : Int) + q ≠ 0) (h2 : (b.length : Int) + q ≠ 0) (h3 : (Txt.item a (q - 1) == Txt.item b (q - 1)) = true) :
   q - 1 ≤ 0 ∧ -(q - 1) ≤ a.length ∧ -(q - 1) ≤ b.length ∧ (preLen (LL a).reverse (LL b).reverse : Int) = -(q - 1) + preLen ((LL a).reverse.drop (-(q - 1)).toNat) ((LL b).reverse.drop (-(q - 1)).toNat) := by
  have ea := len_LL a
  have eb := len_LL b
  rw [w2_item h0 (by omega), w2_item h0 (by omega), one_eq, decide_eq_true_eq] at h3
  have := preLen_add (a := (LL a).reverse) (b := (LL b).reverse) (i := (-q).toNat) (by omega) (by simp only [List.length_reverse]; omega) (by simp only [List.length_reverse]; omega) h3
  have e1 : (-(q - 1)).toNat = (-q).toNat + 1 := by omega
  rw [e1]
  omega
theorem w2_stop {a b : Str} {q : Int} (h0 : q ≤ 0) (ha : -q ≤ a.length) (hb : -q ≤ b.length) (hi : (preLen (LL a).reverse (LL b).reverse : Int) = -q + preLen ((LL a).reverse.drop (-q).toNat) ((LL b).reverse.drop (-q).toNat))
   (h : (a.length : Int) + q = 0 ∨ (b.length : Int) + q = 0 ∨ ((a.length : Int) + q ≠ 0 ∧ (b.length : Int) + q ≠ 0 ∧ (Txt.item a (q - 1) == Txt.item b (q - 1)) = false)) : -q = preLen (LL a).reverse (LL b).reverse := by
  have ea := len_LL a
  have eb := len_LL b
  rw [preLen_stop (i := (-q).toNat)] at hi
  · omega
  · simp only [List.length_reverse]
    rcases h with h | h | ⟨h1, h2, h⟩
    · left; omega
    · right; left; omega
    · right; right
      rw [w2_item h0 (by omega), w2_item h0 (by omega), one_eq, decide_eq_false_iff_not] at h
      exact ⟨by omega, by omega, h⟩
section
variable {prog : Program} {w : World} {A : Around} {E : Value → Shared → Prop} {s : Shared} {value slice : Expr} {x : Str} {t : Tok} {h₀ : Heap} {L : Addr} {m : Str → Option Value} {news : List (Addr × Obj)} {Q : Value → Shared → Prop}
theorem slice_nnX (hF : Fr h₀ L s.heap m) (hN : News h₀ L s.heap news) (h : ∀ h' t' k, Fr h₀ L h' m → News h₀ L h' news → Q (.str x t') { s with heap := h', toks := k })
    (hs : subscripted slice false (.str x t) (.ref s.heap.objs.size) = operate [.ref s.heap.objs.size, .str x t] (getItem (.str x t) (.ref s.heap.objs.size)) := by with_unfolding_all rfl)
    (ht : ∀ r, letTemporaryGo value (.str x t) r = pure () := by intro _; with_unfolding_all rfl) (hsz : x.length ≤ sizeLine := by size_fits) :
    wpAny (model prog w) A (subscriptTail value slice (.str x t) (.ref s.heap.objs.size)) Q E { s with heap := s.heap.push { cls := .type "slice", data := .fields #[.none, .none, .none] } } :=
  slice_strN_nn hF hN (fun h' t' k hF' hN' => by rw [slice_all]; exact h h' t' k hF' hN') hs ht hsz
end
theorem in_stepT {A B : Str} {row1 row2 : List Int} {k1 kN d r mn d0 r0 m0 : Int} {pre1 pre2 : List Int}
    (e1 : k1 = 0 + (pre1.length : Int)) (l1 : pre1.length < ((B.length : Int) - 0).toNat) (e2 : kN = 0 + (pre2.length : Int)) (l2 : pre2.length < ((A.length : Int) - 0).toNat)
    (hr : row1.length = A.length) (h1 : row2.length = A.length) (h2 : row2.drop pre2.length = row1.drop pre2.length)
    (h3 : cells ((LL B).getD k1.toNat 0) (LL A) row1 d0 r0 m0 = (row2.take pre2.length ++ (cells ((LL B).getD k1.toNat 0) ((LL A).drop pre2.length) (row1.drop pre2.length) d r mn).1, (cells ((LL B).getD k1.toNat 0) ((LL A).drop pre2.length) (row1.drop pre2.length) d r mn).2))
    (res' : Int) (hb : res' < mn) (hres : res' = pmin (pmin r (row2.getD kN.toNat 0) + 2) (d + subst (Txt.item B k1) (Txt.item A kN))) :
    (row2.set kN.toNat res').length = A.length ∧ (row2.set kN.toNat res').drop (pre2 ++ [kN]).length = row1.drop (pre2 ++ [kN]).length ∧
    cells ((LL B).getD k1.toNat 0) (LL A) row1 d0 r0 m0 = ((row2.set kN.toNat res').take (pre2 ++ [kN]).length ++ (cells ((LL B).getD k1.toNat 0) ((LL A).drop (pre2 ++ [kN]).length) (row1.drop (pre2 ++ [kN]).length) (row2.getD kN.toNat 0) res' res').1,
      (cells ((LL B).getD k1.toNat 0) ((LL A).drop (pre2 ++ [kN]).length) (row1.drop (pre2 ++ [kN]).length) (row2.getD kN.toNat 0) res' res').2) := by
  have := in_step e1 l1 e2 l2 hr h1 h2 h3 res' hres
  rw [if_pos hb] at this
  exact this
theorem in_stepF {A B : Str} {row1 row2 : List Int} {k1 kN d r mn d0 r0 m0 : Int} {pre1 pre2 : List Int}
    (e1 : k1 = 0 + (pre1.length : Int)) (l1 : pre1.length < ((B.length : Int) - 0).toNat) (e2 : kN = 0 + (pre2.length : Int)) (l2 : pre2.length < ((A.length : Int) - 0).toNat)
    (hr : row1.length = A.length) (h1 : row2.length = A.length) (h2 : row2.drop pre2.length = row1.drop pre2.length)
    (h3 : cells ((LL B).getD k1.toNat 0) (LL A) row1 d0 r0 m0 = (row2.take pre2.length ++ (cells ((LL B).getD k1.toNat 0) ((LL A).drop pre2.length) (row1.drop pre2.length) d r mn).1, (cells ((LL B).getD k1.toNat 0) ((LL A).drop pre2.length) (row1.drop pre2.length) d r mn).2))
    (res' : Int) (hb : ¬ res' < mn) (hres : res' = pmin (pmin r (row2.getD kN.toNat 0) + 2) (d + subst (Txt.item B k1) (Txt.item A kN))) :
    (row2.set kN.toNat res').length = A.length ∧ (row2.set kN.toNat res').drop (pre2 ++ [kN]).length = row1.drop (pre2 ++ [kN]).length ∧
    cells ((LL B).getD k1.toNat 0) (LL A) row1 d0 r0 m0 = ((row2.set kN.toNat res').take (pre2 ++ [kN]).length ++ (cells ((LL B).getD k1.toNat 0) ((LL A).drop (pre2 ++ [kN]).length) (row1.drop (pre2 ++ [kN]).length) (row2.getD kN.toNat 0) res' mn).1,
      (cells ((LL B).getD k1.toNat 0) ((LL A).drop (pre2 ++ [kN]).length) (row1.drop (pre2 ++ [kN]).length) (row2.getD kN.toNat 0) res' mn).2) := by
  have := in_step e1 l1 e2 l2 hr h1 h2 h3 res' hres
  rw [if_neg hb] at this
  exact this
theorem out_next {A B : Str} {c kN : Int} {row1 row2 : List Int} {res r mn : Int} {pre : List Int} {X : Int} (e1 : kN = 0 + (pre.length : Int)) (l1 : pre.length < ((B.length : Int) - 0).toNat)
    (h : cells ((LL B).getD kN.toNat 0) (LL A) row1 (kN * 2) (kN * 2) 9223372036854775807 = (row2, r, mn)) (hl : row2.length = A.length) (hX : X = rows (LL A) c ((LL B).drop pre.length) pre.length row1 res) (hc : ¬ c < mn) :
    row2.length = A.length ∧ X = rows (LL A) c ((LL B).drop (pre ++ [kN]).length) ((pre ++ [kN]).length : Int) row2 r := by
  have la := len_LL B
  refine ⟨hl, ?_⟩
  rw [hX, out_step (i := pre.length) (by omega) (by omega) h, if_neg (by omega), List.length_append, List.length_singleton]
set_option maxRecDepth 100000 in
set_option maxHeartbeats 8000000 in
theorem lev_use {w : World} {mean : ExcName → Option Value} {mg mb : Str → Option Value} {dp un : Nat} {gd : Option (List Code)} {cn : Str} {cs : Scope} {fa : Addr} {ccd : Value} {cl : List (Str × Addr)} {outer : List Env} {A₀ : Around} {base h₀ : Heap} {L : Addr} {m : Str → Option Value} {s : Shared} {Q E : Value → Shared → Prop} {news : List (Addr × Obj)} {a b : Str} {ta tb : Tok} {c : Int} {tc : Tok}
   (B0 : Below A₀ base outer h₀) (F0 : Fr h₀ L s.heap m) (X0 : (hd.heap_39 w.params).In h₀) (N0 : News h₀ L s.heap news) (T0 : Top vw (looseW vw []) mean mg mb h₀) (hk : cs.kind = .function)
   (hpre : a.length ≤ 20 ∧ b.length ≤ 20) (hdp : dp + 2 < recursionLimit) (hun : un + 16 < cLine)
   (hret : ∀ (t : Tok) (h' : Heap) (tk' : Nat), Fr h₀ L h' m → News h₀ L h' news → Q (.int (lev (LL a) (LL b) c) t) { s with heap := h', toks := tk' }) :
   wpAny (model Challenge.rw_re0079_01.row.prog w) (ktrTop dp un gd cn cs L fa ccd cl outer) (call (.ref 28) [.str a ta, .str b tb, .int c tc]) Q E s := by
  k_with_none
  k_with "subscriptTail Name Slice str ref" => (((with_reducible show wpAny _ _ (subscriptTail _ (Expr.Slice none (some _) none _) _ _) _ _ _); (with_reducible rename Fr _ _ _ _ => F'); (with_reducible rename News _ _ _ _ => N'); (refine slice_nnX (hsz := ?hsz) (s := ⟨_, _, _, _, _⟩) F' N' ?_); (case hsz => size_fits); intro _ _ _ _ _))
  k_with "call ref" => ((k_here; (with_reducible show wpAny _ _ (call (Value.ref 21) _) _ _ _); k_dflt (refine' subst_item ?k1 ?k2 ?k3 ?k4 ?k5 ?k6 ?k8 ?k9 ?_; (case k1 => k_asm); (case k2 => k_asm); (case k3 => k_asm); (case k4 => k_asm); (case k5 => k_asm); (case k6 => first | exact rfl | assumption); (case k8 => ktr_room); (case k9 => ktr_units); k_whole); intro _ _ _ _ _; (try dsimp only); (try k_fold)))
  revert X0
  k_fill
  intro X0
  obtain ⟨hla, hlb⟩ := hpre
  refine wpAny_call ?_
  k_dflt (refine' code_def ?k1 ?k2 ?k3 ?k4 ?k5 ?kA ?kF ?kK ?k6 ?k7 ?k8 ?k9 ?kB ?_ ?c2 ?c3 ?c4 ?c5; (case kA => exact rfl); (case kF => exact rfl); (case kK => assumption); (case k1 => k_asm); (case k2 => k_asm); (case k3 => k_asm); (case k4 => k_asm); (case k5 => k_asm); (case k6 => k_is); (case k7 => k_is); (case k8 => ktr_room); (case k9 => exact BindsTo.of_eq rfl); (case c5 => decide); (case kB => exact locs rfl); (case c2 => exact rfl); (case c3 => exact rfl); (case c4 => exact rfl); k_whole)
  intro g Lf h1 FG F N B X T
  have F1 : Fr g Lf h1 (fun y : Str => if y = Str.ofString "max_cost" then some (.int c tc) else if y = Str.ofString "b" then some (.str b tb) else if y = Str.ofString "a" then some (.str a ta) else none) := fr_re F (lookup_kstB [(Str.ofString "max_cost", .int c tc), (Str.ofString "b", .str b tb), (Str.ofString "a", .str a ta)])
  clear F
  (try dsimp only); (try k_unmd); (try k_fold)
  repeat' ((fail_if_success (with_reducible show wpAny _ _ (exec (Stmt.While _ _ _ _) _) _ _ _)); (first | (k_unfold; (try dsimp only)) | (k_end; wrow_close) | walk1 | (dsimp only; walk1) | (leave1; walk_say "STEP leave1"; try dsimp only) | fail "no step"))
  · have e : lev (LL a) (LL b) c = 0 := by
      rename_i hab _ _ _ _
      rw [beq_iff_eq] at hab
      subst hab; simp [lev]
    rw [e] at hret
    exact hret _ _ _ (by assumption) (by assumption)
  · rename (a == b) = false => hab
    let Qt : Flow → Shared → Prop := fun f s' => ∀ R : Prop, (∀ (p : Int) (t : Tok) (h' : Heap) (tk' : Nat), f = Flow.next → s' = { s with heap := h', toks := tk' } → Fr g Lf h' (fun y : Str => if y = Str.ofString "pre" then some (.int p t) else if y = Str.ofString "max_cost" then some (.int c tc) else if y = Str.ofString "b" then some (.str b tb) else if y = Str.ofString "a" then some (.str a ta) else none) → News g Lf h' news → 0 ≤ p → p ≤ a.length → p ≤ b.length → p = preLen (LL a) (LL b) → R) → R
    refine cutM (Q' := Qt) ?_ ?_
    ·
      k_while (fun _ p => 0 ≤ p ∧ p ≤ (a.length : Int) ∧ p ≤ (b.length : Int) ∧ (preLen (LL a) (LL b) : Int) = p + preLen ((LL a).drop p.toNat) ((LL b).drop p.toNat)) (fun _ p => a.length - p.toNat) "pre"
      rename_i p t i1 i2 i3 i4
      repeat' ((fail_if_success (with_reducible show wpAny _ _ (exec (Stmt.While _ _ _ _) _) _ _ _)); (fail_if_success (with_reducible show Hold _)); (fail_if_success (with_reducible show KswEnd _ _ _ _ _ _ _ _ _ _ _ _)); (first | (k_unfold; (try dsimp only)) | (k_end; wrow_close) | walk1 | (dsimp only; walk1) | (leave1; walk_say "STEP leave1"; try dsimp only) | fail "no step"))
      · refine ksw_end ⟨_, _⟩ (by assumption) (by assumption) (by kst_in) (by kst_facts) (by kst_all) (by ksw_same) (w1_step (by assumption) (by assumption) (by assumption) (by assumption) (by assumption) (by assumption) (by assumption)) ?_
        have := w1_step (a := a) (b := b) (by assumption) (by assumption) (by assumption) (by assumption) (by assumption) (by assumption) (by assumption)
        dsimp only
        omega
      all_goals (refine fun _ kR => kR p t _ _ rfl rfl (fr_re (by assumption) (by funext z; by_cases hz : z = Str.ofString "pre" <;> simp [hz])) (by assumption) (by assumption) (by assumption) (by assumption) (w1_stop (by assumption) (by assumption) (by assumption) (by assumption) ?_))
      · exact .inr (.inr ⟨by assumption, by assumption, by assumption⟩)
      · exact .inr (.inl (by assumption))
      · exact .inl (by assumption)
    · intro f s' hPr; refine hPr _ ?_; clear hPr Qt; rintro p t h2 tk2 rfl rfl F2 N2 hp0 hpa hpb hp
      repeat' ((fail_if_success (with_reducible show wpAny _ _ (exec (Stmt.While _ _ _ _) _) _ _ _)); (fail_if_success (with_reducible show Hold _)); (first | (k_unfold; (try dsimp only)) | (k_end; wrow_close) | walk1 | (dsimp only; walk1) | (leave1; walk_say "STEP leave1"; try dsimp only) | fail "no step"))
      have ea1 : LL (Txt.slice a (some p) none) = (LL a).drop p.toNat := slice_from hp0 hpa
      have eb1 : LL (Txt.slice b (some p) none) = (LL b).drop p.toNat := slice_from hp0 hpb
      have el : lev (LL a) (LL b) c = lev1 (LL (Txt.slice a (some p) none)) (LL (Txt.slice b (some p) none)) c := by
        rw [ea1, eb1, hp]
        unfold lev
        rw [if_neg (by intro e; have := str_ext e; subst this; simp at hab)]
        simp
      rw [el] at hret
      have ha1 : (Txt.slice a (some p) none).length ≤ 20 := by omega
      have hb1 : (Txt.slice b (some p) none).length ≤ 20 := by omega
      clear el ea1 eb1
      generalize Txt.slice a (some p) none = a1 at *
      generalize Txt.slice b (some p) none = b1 at *
      rename Fr g Lf _ _ => F3
      rename News g Lf _ _ => N3
      obtain ⟨ta1, tb1, t0, F4⟩ : ∃ ta1 tb1 t0, Fr g Lf _ (fun y : Str => if y = Str.ofString "post" then some (.int 0 t0) else if y = Str.ofString "b" then some (.str b1 tb1) else if y = Str.ofString "a" then some (.str a1 ta1) else if y = Str.ofString "pre" then some (.int p t) else if y = Str.ofString "max_cost" then some (.int c tc) else none) := ⟨_, _, _, fr_re F3 (by funext y; exact if h0 : y = Str.ofString "post" then (by subst h0; rfl) else if h1 : y = Str.ofString "b" then (by subst h1; rfl) else if h2 : y = Str.ofString "a" then (by subst h2; rfl) else if h3 : y = Str.ofString "pre" then (by subst h3; rfl) else if h4 : y = Str.ofString "max_cost" then (by subst h4; rfl) else (by simp [h0, h1, h2, h3, h4]))⟩
      clear F3
      let Qt : Flow → Shared → Prop := fun f s' => ∀ R : Prop, (∀ (q : Int) (t1 : Tok) (h' : Heap) (tk' : Nat), f = Flow.next → s' = { s with heap := h', toks := tk' } → Fr g Lf h' (fun y : Str => if y = Str.ofString "post" then some (.int q t1) else if y = Str.ofString "b" then some (.str b1 tb1) else if y = Str.ofString "a" then some (.str a1 ta1) else if y = Str.ofString "pre" then some (.int p t) else if y = Str.ofString "max_cost" then some (.int c tc) else none) → News g Lf h' news → q ≤ 0 → -q ≤ a1.length → -q ≤ b1.length → -q = preLen (LL a1).reverse (LL b1).reverse → R) → R
      refine cutM (Q' := Qt) ?_ ?_
      ·
        k_while (fun _ q => q ≤ 0 ∧ -q ≤ (a1.length : Int) ∧ -q ≤ (b1.length : Int) ∧ (preLen (LL a1).reverse (LL b1).reverse : Int) = -q + preLen ((LL a1).reverse.drop (-q).toNat) ((LL b1).reverse.drop (-q).toNat)) (fun _ q => a1.length - (-q).toNat) "post"
        rename_i q t1 i1 i2 i3 i4
        by_cases hq : q = 0
        · subst hq
          repeat' ((fail_if_success (with_reducible show wpAny _ _ (exec (Stmt.While _ _ _ _) _) _ _ _)); (fail_if_success (with_reducible show Hold _)); (fail_if_success (with_reducible show KswEnd _ _ _ _ _ _ _ _ _ _ _ _)); (first | (k_unfold; (try dsimp only)) | (k_end; wrow_close) | walk1 | (dsimp only; walk1) | (leave1; walk_say "STEP leave1"; try dsimp only) | fail "no step"))
          all_goals (try (exfalso; omega))
          · have hst := w2_step (a := a1) (b := b1) i1 i2 i3 i4 (by omega) (by omega) (by assumption)
            refine ksw_end ⟨_, _⟩ (by assumption) (by assumption) (by kst_in) (by kst_facts) (by kst_all) (by ksw_same) hst ?_
            dsimp only
            omega
          all_goals (refine fun _ kR => kR _ t1 _ _ rfl rfl (fr_re (by assumption) (by funext y; exact if h0 : y = Str.ofString "post" then (by subst h0; rfl) else if h1 : y = Str.ofString "b" then (by subst h1; rfl) else if h2 : y = Str.ofString "a" then (by subst h2; rfl) else if h3 : y = Str.ofString "pre" then (by subst h3; rfl) else if h4 : y = Str.ofString "max_cost" then (by subst h4; rfl) else (by simp [h0, h1, h2, h3, h4]))) (by assumption) i1 i2 i3 (w2_stop i1 i2 i3 i4 ?_))
          · exact .inr (.inr ⟨by omega, by omega, by assumption⟩)
          · exact .inr (.inl (by omega))
          · exact .inl (by omega)
        · have hsa : ((Txt.slice a1 none (some q)).length : Int) = a1.length + q := by
            rw [length_of_LL, slice_to_ng (by omega) (by omega), List.length_take, len_LL]; omega
          have hsb : ((Txt.slice b1 none (some q)).length : Int) = b1.length + q := by
            rw [length_of_LL, slice_to_ng (by omega) (by omega), List.length_take, len_LL]; omega
          repeat' ((fail_if_success (with_reducible show wpAny _ _ (exec (Stmt.While _ _ _ _) _) _ _ _)); (fail_if_success (with_reducible show Hold _)); (fail_if_success (with_reducible show KswEnd _ _ _ _ _ _ _ _ _ _ _ _)); (first | (k_unfold; (try dsimp only)) | (k_end; wrow_close) | walk1 | (dsimp only; walk1) | (leave1; walk_say "STEP leave1"; try dsimp only) | fail "no step"))
          all_goals (try (exfalso; omega))
          · have hst := w2_step (a := a1) (b := b1) i1 i2 i3 i4 (by omega) (by omega) (by assumption)
            refine ksw_end ⟨_, _⟩ (by assumption) (by assumption) (by kst_in) (by kst_facts) (by kst_all) (by ksw_same) hst ?_
            dsimp only
            omega
          all_goals (refine fun _ kR => kR _ t1 _ _ rfl rfl (fr_re (by assumption) (by funext y; exact if h0 : y = Str.ofString "post" then (by subst h0; rfl) else if h1 : y = Str.ofString "b" then (by subst h1; rfl) else if h2 : y = Str.ofString "a" then (by subst h2; rfl) else if h3 : y = Str.ofString "pre" then (by subst h3; rfl) else if h4 : y = Str.ofString "max_cost" then (by subst h4; rfl) else (by simp [h0, h1, h2, h3, h4]))) (by assumption) i1 i2 i3 (w2_stop i1 i2 i3 i4 ?_))
          · exact .inr (.inr ⟨by omega, by omega, by assumption⟩)
          · exact .inr (.inl (by omega))
          · exact .inl (by omega)
      · intro f s' hPr; refine hPr _ ?_; clear hPr Qt; rintro q t1 h3 tk3 rfl rfl F5 N5 hq0 hqa hqb hq
        dsimp only
        let Pq : Shared → Prop := fun s' => ∀ R : Prop, (∀ (M : Str → Option Value) (a2 : Str) (b2 : Str) (u v : Tok) (h' : Heap) (tk' : Nat), s' = { s with heap := h', toks := tk' } → Fr g Lf h' (fun y : Str => if y = Str.ofString "b" then some (.str b2 v) else if y = Str.ofString "a" then some (.str a2 u) else if y = Str.ofString "max_cost" then some (.int c tc) else M y) → News g Lf h' news → LL a2 = postCut (LL a1) (LL b1) → LL b2 = postCut (LL b1) (LL a1) → R) → R
        refine cutE 2 Pq ?_ ?_
        ·
          dsimp only [List.take]
          by_cases hz : q = 0
          · subst hz
            repeat' ((fail_if_success (with_reducible show wpAny _ _ (exec (Stmt.While _ _ _ _) _) _ _ _)); (fail_if_success (with_reducible show Hold _)); (first | (k_unfold; (try dsimp only)) | (k_end; wrow_close) | walk1 | (dsimp only; walk1) | (leave1; walk_say "STEP leave1"; try dsimp only) | fail "no step"))
            refine ⟨rfl, fun _ kR => kR _ _ _ _ _ _ _ rfl (pin (pin (pin (by assumption) rfl) rfl) rfl) (by assumption) ?_ ?_⟩
            · unfold postCut; rw [show preLen (LL a1).reverse (LL b1).reverse = 0 by omega, Nat.sub_zero, List.take_length]
            · unfold postCut; rw [show preLen (LL b1).reverse (LL a1).reverse = 0 by rw [preLen_comm]; omega, Nat.sub_zero, List.take_length]
          · repeat' ((fail_if_success (with_reducible show wpAny _ _ (exec (Stmt.While _ _ _ _) _) _ _ _)); (fail_if_success (with_reducible show Hold _)); (first | (k_unfold; (try dsimp only)) | (k_end; wrow_close) | walk1 | (dsimp only; walk1) | (leave1; walk_say "STEP leave1"; try dsimp only) | fail "no step"))
            all_goals (try (exfalso; omega))
            refine ⟨rfl, fun _ kR => kR _ _ _ _ _ _ _ rfl (pin (pin (pin (by assumption) rfl) rfl) rfl) (by assumption) ?_ ?_⟩
            · have := len_LL a1
              rw [slice_to_ng (by omega) (by omega)]; unfold postCut; congr 1; omega
            · have := len_LL b1
              have e := preLen_comm (LL a1).reverse (LL b1).reverse
              rw [slice_to_ng (by omega) (by omega)]; unfold postCut; congr 1; omega
        · intro s' hPr; refine hPr _ ?_; clear hPr Pq; rintro M a2 b2 u v h4 tk4 rfl F6 N6 ea2 eb2
          dsimp only [List.drop]
          have el : lev1 (LL a1) (LL b1) c = lev2 (LL a2) (LL b2) c := by unfold lev1; rw [ea2, eb2]
          rw [el] at hret
          have la2 : a2.length ≤ 20 := by
            have := len_LL a1; rw [length_of_LL, ea2]; unfold postCut; simp only [List.length_take]; omega
          have lb2 : b2.length ≤ 20 := by
            have := len_LL b1; rw [length_of_LL, eb2]; unfold postCut; simp only [List.length_take]; omega
          clear el ea2 eb2
          let Pq : Shared → Prop := fun s' => ∀ R : Prop, (∀ (M : Str → Option Value) (A : Str) (B : Str) (u v : Tok) (h' : Heap) (tk' : Nat), s' = { s with heap := h', toks := tk' } → Fr g Lf h' (fun y : Str => if y = Str.ofString "b" then some (.str B v) else if y = Str.ofString "a" then some (.str A u) else if y = Str.ofString "max_cost" then some (.int c tc) else M y) → News g Lf h' news → A.length ≤ 20 → B.length ≤ 20 → lev2 (LL a2) (LL b2) c = lev3 (LL A) (LL B) c → R) → R
          refine cutR 3 Pq ?_ ?_
          ·
            dsimp only [List.take]
            repeat' ((fail_if_success (with_reducible show Hold _)); (first | (k_unfold; (try dsimp only)) | (k_end; wrow_close) | walk1 | (dsimp only; walk1) | (leave1; walk_say "STEP leave1"; try dsimp only) | fail "no step"))
            · refine fun _ kR => kR _ b2 a2 _ _ _ _ rfl (pin (pin (pin (by assumption) rfl) rfl) rfl) (news_drop (by assumption) (fun p hp => List.mem_cons_of_mem _ hp)) lb2 la2 ?_
              unfold lev2
              have := len_LL a2
              have := len_LL b2
              rw [if_neg (by omega), if_pos (by omega)]
            · refine fun _ kR => kR _ a2 b2 _ _ _ _ rfl (by assumption) (by assumption) la2 lb2 ?_
              unfold lev2
              have := len_LL a2
              have := len_LL b2
              rw [if_neg (by omega), if_neg (by omega)]
            all_goals (
              have e2 : lev2 (LL a2) (LL b2) c = 2 * ((a2.length : Int) + b2.length) := by
                unfold lev2
                have := len_LL a2
                have := len_LL b2
                rw [if_pos (by omega), len_LL, len_LL]
              rw [e2] at hret
              exact hret _ _ _ (by assumption) (by assumption))
          · intro s' hPr; refine hPr _ ?_; clear hPr Pq; rintro M3 A B u v h5 tk5 rfl F7 N7 lA lB el; clear F6 N6
            dsimp only [List.drop]
            rw [el] at hret
            clear el
            repeat' ((fail_if_success (with_reducible show Hold _)); (fail_if_success (with_reducible show wpAny _ _ (exec (Stmt.For _ _ _ _ _) _) _ _ _)); (fail_if_success (with_reducible show wpAny _ _ (call (Value.type "list") _) _ _ _)); (first | (k_unfold; (try dsimp only)) | (k_end; wrow_close) | walk1 | (dsimp only; walk1) | (leave1; walk_say "STEP leave1"; try dsimp only) | fail "no step"))
            · have e3 : lev3 (LL A) (LL B) c = c + 1 := by
                unfold lev3
                rw [if_pos (by rw [len_LL, len_LL]; omega)]
              rw [e3] at hret
              exact hret _ _ _ (by assumption) (by assumption)
            · have e3 : lev3 (LL A) (LL B) c = rows (LL A) c (LL B) 0 (row0 A.length) 0 := by
                unfold lev3
                rw [if_neg (by rw [len_LL, len_LL]; omega), len_LL]
              rw [e3] at hret
              clear e3
              refine list_range_K rfl (by assumption) (by assumption) (by assumption) (small_two (by omega)) (rangeSize_two A.length) (by omega) ?_
              intro l h6 tk6 vs k6 F8 N8 hl hvs
              rw [rangeInts_two] at hvs
              (try dsimp only)
              repeat' ((fail_if_success (with_reducible show Hold _)); (fail_if_success (with_reducible show wpAny _ _ (pyIter _) _ _ _)); (first | (k_unfold; (try dsimp only)) | (k_end; wrow_close) | walk1 | (dsimp only; walk1) | (leave1; walk_say "STEP leave1"; try dsimp only) | fail "no step"))
              k_with "state" => exact dp_start
              k_state (fun pre row res => row.length = A.length ∧ rows (LL A) c (LL B) 0 (row0 A.length) 0 = rows (LL A) c ((LL B).drop pre.length) pre.length row res) "row" "result"
              · rename_i vs1 row1 cnt1 res1 tres1 hlen1 hinv1 kl1
                repeat' ((fail_if_success (with_reducible show Hold _)); (fail_if_success (with_reducible show wpAny _ _ (pyIter _) _ _ _)); (first | (k_unfold; (try dsimp only)) | (k_end; wrow_close) | walk1 | (dsimp only; walk1) | (leave1; walk_say "STEP leave1"; try dsimp only) | fail "no step"))
                k_with "state" => first | exact in_start (by assumption) | exact in_stepT (by assumption) (by assumption) (by assumption) (by assumption) (by assumption) (by assumption) (by assumption) (by assumption) _ (by assumption) rfl | exact in_stepF (by assumption) (by assumption) (by assumption) (by assumption) (by assumption) (by assumption) (by assumption) (by assumption) _ (by assumption) rfl | exact out_next (by assumption) (by assumption) (by assumption) (by assumption) (by assumption) (by assumption)
                k_state (fun pre2 d r mn row2 => row2.length = A.length ∧ row2.drop pre2.length = row1.drop pre2.length ∧ cells ((LL B).getD kN.toNat 0) (LL A) row1 (kN * 2) (kN * 2) 9223372036854775807 = (row2.take pre2.length ++ (cells ((LL B).getD kN.toNat 0) ((LL A).drop pre2.length) (row1.drop pre2.length) d r mn).1, (cells ((LL B).getD kN.toNat 0) ((LL A).drop pre2.length) (row1.drop pre2.length) d r mn).2)) "distance" "result" "minimum" "row"
                · repeat' ((fail_if_success (with_reducible show Hold _)); (fail_if_success (with_reducible show wpAny _ _ (pyIter _) _ _ _)); (first | (k_unfold; (try dsimp only)) | (k_end; wrow_close) | walk1 | (dsimp only; walk1) | (leave1; walk_say "STEP leave1"; try dsimp only) | fail "no step"))
                · rename_i d2 td2 r2 tr2 mn2 tmn2 cnt2 vs2 row2 hlen2 hdr2 hinv2 kla klb
                  have hcel := in_done (by rw [rangeKs_length, len_LL]; omega) (by rw [hlen2, len_LL]) hinv2
                  repeat' ((fail_if_success (with_reducible show Hold _)); (fail_if_success (with_reducible show wpAny _ _ (pyIter _) _ _ _)); (first | (k_unfold; (try dsimp only)) | (k_end; wrow_close) | walk1 | (dsimp only; walk1) | (leave1; walk_say "STEP leave1"; try dsimp only) | fail "no step"))
                  · have e5 : rows (LL A) c (LL B) 0 (row0 A.length) 0 = c + 1 := by
                      have := len_LL B
                      rw [hinv1, out_step (by omega) (by omega) hcel, if_pos (by omega)]
                    rw [e5] at hret
                    rename News h₀ L _ _ => kN9
                    exact hret _ _ _ (by assumption) (news_drop kN9 (fun p hp => by simp [hp]))
              · rename_i vs1 row1 cnt1 res1 tres1 hlen1 hinv1 kl1
                have e6 : rows (LL A) c (LL B) 0 (row0 A.length) 0 = res1 := by
                  rw [hinv1, rangeKs_length, List.drop_eq_nil_of_le (by rw [len_LL]; omega)]
                  rfl
                rw [e6] at hret
                repeat' ((fail_if_success (with_reducible show Hold _)); (fail_if_success (with_reducible show wpAny _ _ (pyIter _) _ _ _)); (first | (k_unfold; (try dsimp only)) | (k_end; wrow_close) | walk1 | (dsimp only; walk1) | (leave1; walk_say "STEP leave1"; try dsimp only) | fail "no step"))
                rename News h₀ L _ _ => kN9
                exact hret _ _ _ (by assumption) (news_drop kN9 (fun p hp => by simp [hp]))
end Mine
end PartLev1

section PartOpp
open PySem.W PyProof.Rows in
theorem Mine.cleanOpp : (1 : Nat) = 1 := by
  (w_on; w_top off; k_with_none)
  first | walk1 | rfl
open PySem PySem.W PyProof.Rows PySem.Spec PySem.Calls
namespace Mine
set_option maxRecDepth 100000 in
set_option maxHeartbeats 8000000 in
theorem opp_use {w : World} {mean : ExcName → Option Value} {mg mb : Str → Option Value} {dp un : Nat} {gd : Option (List Code)} {cn : Str} {cs : Scope} {fa : Addr} {ccd : Value} {cl : List (Str × Addr)} {outer : List Env} {A₀ : Around} {base h₀ : Heap} {L : Addr} {m : Str → Option Value} {s : Shared} {Q E : Value → Shared → Prop} {news : List (Addr × Obj)} {size steps start other : Int} {t1 t2 t3 t4 : Tok}
   (B0 : Below A₀ base outer h₀) (F0 : Fr h₀ L s.heap m) (X0 : (hd.heap_39 w.params).In h₀) (N0 : News h₀ L s.heap news) (T0 : Top vw (looseW vw []) mean mg mb h₀) (hk : cs.kind = .function)
   (hpre : 0 < size ∧ size ≤ 100 ∧ 0 ≤ steps ∧ steps ≤ 100 ∧ 0 ≤ start ∧ start ≤ 100 ∧ 0 ≤ other ∧ other ≤ 100) (hdp : dp + 1 < recursionLimit) (hun : un + 8 < cLine)
   (hret : ∀ (t : Tok) (h' : Heap) (tk' : Nat), Fr h₀ L h' m → News h₀ L h' news → Q (.int (opp size steps start other) t) { s with heap := h', toks := tk' }) :
   wpAny (model Challenge.rw_re0079_01.row.prog w) (ktrTop dp un gd cn cs L fa ccd cl outer) (call (.ref 75) [.int size t1, .int steps t2, .int start t3, .int other t4]) Q E s := by
  revert X0
  k_fill
  intro X0
  obtain ⟨hs0, hs1, hp0, hp1, ha0, ha1, ho0, ho1⟩ := hpre
  refine wpAny_call ?_
  k_dflt (refine' code_def ?k1 ?k2 ?k3 ?k4 ?k5 ?kA ?kF ?kK ?k6 ?k7 ?k8 ?k9 ?kB ?_ ?c2 ?c3 ?c4 ?c5; (case kA => exact rfl); (case kF => exact rfl); (case kK => assumption); (case k1 => k_asm); (case k2 => k_asm); (case k3 => k_asm); (case k4 => k_asm); (case k5 => k_asm); (case k6 => k_is); (case k7 => k_is); (case k8 => ktr_room); (case k9 => exact BindsTo.of_eq rfl); (case c5 => decide); (case kB => exact locs rfl); (case c2 => exact rfl); (case c3 => exact rfl); (case c4 => exact rfl); k_whole)
  intro g Lf h1 FG F N B X T
  have F1 : Fr g Lf h1 (fun y : Str => if y = Str.ofString "other" then some (.int other t4) else if y = Str.ofString "start" then some (.int start t3) else if y = Str.ofString "steps" then some (.int steps t2) else if y = Str.ofString "size" then some (.int size t1) else none) := fr_re F (lookup_kstB [(Str.ofString "other", .int other t4), (Str.ofString "start", .int start t3), (Str.ofString "steps", .int steps t2), (Str.ofString "size", .int size t1)])
  clear F
  (try dsimp only); (try k_unmd); (try k_fold)
  repeat' ((fail_if_success (with_reducible show Hold _)); (fail_if_success (with_reducible show wpAny _ _ (pyIter _) _ _ _)); (first | (k_unfold; (try dsimp only)) | (k_end; wrow_close) | walk1 | (dsimp only; walk1) | (leave1; walk_say "STEP leave1"; try dsimp only) | fail "no step"))
  k_with "state" => first | exact opp_start | exact opp_step (by assumption) (by assumption) (by assumption) (by first | rw [if_pos (by assumption)] | rw [if_neg (by assumption), Int.add_zero]) (by first | rw [if_pos ⟨by assumption, by assumption⟩] | rw [if_neg (fun h => absurd h.1 (by assumption)), Int.add_zero] | rw [if_neg (fun h => absurd h.2 (by assumption)), Int.add_zero])
  k_state (fun pre me ch => me = mts size start other pre.length ∧ ch = chg size start other pre.length) "meets" "changes"
  · repeat' ((fail_if_success (with_reducible show Hold _)); (first | (k_unfold; (try dsimp only)) | (k_end; wrow_close) | walk1 | (dsimp only; walk1) | (leave1; walk_say "STEP leave1"; try dsimp only) | fail "no step"))
  · rename_i me tm ch tc hm hc
    repeat' ((fail_if_success (with_reducible show Hold _)); (first | (k_unfold; (try dsimp only)) | (k_end; wrow_close) | walk1 | (dsimp only; walk1) | (leave1; walk_say "STEP leave1"; try dsimp only) | fail "no step"))
    have e : opp size steps start other = 2 * steps - 2 * (if me < ch - 1 then ch - 1 else me) := by
      rw [rangeKs_length] at hm hc
      unfold opp
      rw [hm, hc]
      simp
    rw [e] at hret
    exact hret _ _ _ (by assumption) (by assumption)
end Mine
end PartOpp

section PartTold
open PySem.W PyProof.Rows in
theorem Mine.cleanTold : (1 : Nat) = 1 := by
  (w_on; w_top off; k_with_none)
  first | walk1 | rfl
open PySem PySem.W PyProof.Rows PySem.Spec PySem.Calls
namespace Mine
noncomputable def told (a b : List Nat) (p : Int) : Bool := if lev a b p ≠ p then false else decide (lev b a (p - 1) = p)
set_option maxRecDepth 100000 in
set_option maxHeartbeats 8000000 in
theorem told_use {w : World} {mean : ExcName → Option Value} {mg mb : Str → Option Value} {dp un : Nat} {gd : Option (List Code)} {cn : Str} {cs : Scope} {fa : Addr} {ccd : Value} {cl : List (Str × Addr)} {outer : List Env} {A₀ : Around} {base h₀ : Heap} {L : Addr} {m : Str → Option Value} {s : Shared} {Q E : Value → Shared → Prop} {news : List (Addr × Obj)} {a b : Str} {ta tb : Tok} {c : Int} {tc : Tok}
   (B0 : Below A₀ base outer h₀) (F0 : Fr h₀ L s.heap m) (X0 : (hd.heap_39 w.params).In h₀) (N0 : News h₀ L s.heap news) (T0 : Top vw (looseW vw []) mean mg mb h₀) (hk : cs.kind = .function)
   (hpre : a.length ≤ 20 ∧ b.length ≤ 20) (hdp : dp + 3 < recursionLimit) (hun : un + 24 < cLine)
   (hret : ∀ (h' : Heap) (tk' : Nat), Fr h₀ L h' m → News h₀ L h' news → Q (.bool (told (LL a) (LL b) c)) { s with heap := h', toks := tk' }) :
   wpAny (model Challenge.rw_re0079_01.row.prog w) (ktrTop dp un gd cn cs L fa ccd cl outer) (call (.ref 82) [.str a ta, .str b tb, .int c tc]) Q E s := by
  k_with_none
  k_with "call ref" => ((k_here; (with_reducible show wpAny _ _ (call (Value.ref 28) _) _ _ _); k_dflt (refine' lev_use ?k1 ?k2 ?k3 ?k4 ?k5 ?k6 ?k7 ?k8 ?k9 ?_; (case k1 => k_asm); (case k2 => k_asm); (case k3 => k_asm); (case k4 => k_asm); (case k5 => k_asm); (case k6 => first | exact rfl | assumption); (case k7 => exact ⟨by assumption, by assumption⟩); (case k8 => ktr_room); (case k9 => ktr_units); k_whole); intro t9 h9 tk9 F9 N9; (try dsimp only); (try k_fold)))
  revert X0
  k_fill
  intro X0
  obtain ⟨hla, hlb⟩ := hpre
  refine wpAny_call ?_
  k_dflt (refine' code_def ?k1 ?k2 ?k3 ?k4 ?k5 ?kA ?kF ?kK ?k6 ?k7 ?k8 ?k9 ?kB ?_ ?c2 ?c3 ?c4 ?c5; (case kA => exact rfl); (case kF => exact rfl); (case kK => assumption); (case k1 => k_asm); (case k2 => k_asm); (case k3 => k_asm); (case k4 => k_asm); (case k5 => k_asm); (case k6 => k_is); (case k7 => k_is); (case k8 => ktr_room); (case k9 => exact BindsTo.of_eq rfl); (case c5 => decide); (case kB => exact locs rfl); (case c2 => exact rfl); (case c3 => exact rfl); (case c4 => exact rfl); k_whole)
  intro g Lf h1 FG F N B X T
  have F1 : Fr g Lf h1 (fun y : Str => if y = Str.ofString "price" then some (.int c tc) else if y = Str.ofString "second" then some (.str b tb) else if y = Str.ofString "first" then some (.str a ta) else none) := fr_re F (lookup_kstB [(Str.ofString "price", .int c tc), (Str.ofString "second", .str b tb), (Str.ofString "first", .str a ta)])
  clear F
  (try dsimp only); (try k_unmd); (try k_fold)
  repeat' ((fail_if_success (with_reducible show Hold _)); (first | (k_unfold; (try dsimp only)) | (k_end; wrow_close) | walk1 | (dsimp only; walk1) | (leave1; walk_say "STEP leave1"; try dsimp only) | fail "no step"))
  · rename lev (LL a) (LL b) c ≠ c => h5
    have e : told (LL a) (LL b) c = false := by unfold told; rw [if_pos h5]
    rw [e] at hret
    exact hret _ _ (by assumption) (by assumption)
  · rename lev (LL a) (LL b) c = c => h5
    have e : told (LL a) (LL b) c = (lev (LL b) (LL a) (c - 1) == c) := by
      unfold told; rw [if_neg (by simpa using h5)]; rfl
    rw [e] at hret
    exact hret _ _ (by assumption) (by assumption)
end Mine
end PartTold

section PartMax3
open PySem.W PyProof.Rows in
theorem Mine.cleanMax3 : (1 : Nat) = 1 := by
  (w_on; w_top off; k_with_none)
  first | walk1 | rfl
open PySem PySem.W PyProof.Rows PySem.Spec PySem.Calls PySem.Flt
namespace Mine
/-- a token made between two counts -/
noncomputable def TkB (a u b : Nat) : Prop := a ≤ u ∧ u < b ∧ 0 < u
noncomputable def TkP (u : Nat) : Prop := 0 < u
theorem gen_toks {α : Type} {M : Model} {A : Around} {t : Sem α} {Q : α → Shared → Prop} {E : Value → Shared → Prop} {hp : Heap} {g : Array GenState} {d : Drawn} {os : OsState} {n : Nat} (h : ∀ tk : Nat, n ≤ tk → wpAny M A t Q E ⟨hp, g, d, tk, os⟩) : wpAny M A t Q E ⟨hp, g, d, n, os⟩ :=
  h _ (Nat.le_refl _)
section
variable {prog : Program} {w : World} {A : Around} {E : Value → Shared → Prop} {s : Shared} {h₀ : Heap} {L : Addr} {m : Str → Option Value} {news : List (Addr × Obj)} {Q : Value → Shared → Prop} {a b c : UInt64} {t u x : Tok}
theorem max3_f (hh : A.handled = none) (F : Fr h₀ L s.heap m) (N : News h₀ L s.heap news)
    (h : ∀ h' tk y, Fr h₀ L h' m → News h₀ L h' news → s.toks ≤ tk → Q (.float (maxOfBits [a, b, c]) y) { s with heap := h', toks := tk }) :
    wpAny (model prog w) A (call (.builtin "max") [.float a t, .float b u, .float c x]) Q E s := by
  have hT : (s.heap.push { cls := .type "tuple", data := .seq #[.float a t, .float b u, .float c x] }).IsTuple s.heap.objs.size #[.float a t, .float b u, .float c x] := ⟨_, Heap.get?_push_size _ rfl, rfl, 0, rfl⟩
  have hf : FloatsAre [.float a t, .float b u, .float c x] [a, b, c] := .cons a t (.cons b u (.cons c x .nil))
  refine wpAny_with_toks (Nat.le_refl s.toks) ?_
  refine call_max_three (wpAny_pyIter_tuple hT ?_)
  have hsz : (s.heap.push { cls := .type "tuple", data := .seq #[.float a t, .float b u, .float c x] }).objs.size = s.heap.objs.size + 1 := Heap.size_push ..
  refine ⟨_, [_, s.heap.objs.size], [_], _, _, _, fun i j => gtB ([a, b, c].getD i 0) ([a, b, c].getD j 0), rfl, Walks.tuple (A := A.in1) hh _ s.heap.objs.size (by rw [hsz]; exact Nat.ne_of_lt (Nat.lt_succ_self _)) #[.float a t, .float b u, .float c x],
    ⟨⟨_, Heap.get?_push_size _ rfl, rfl, rfl⟩, hT.push _⟩, fun d hd => ?_, by simp, fun i j vi vj s Q E hi hj h => ?_, fun v h' tk hP hk => ?_⟩
  · show d < ((s.heap.push _).push _).objs.size
    rw [Heap.size_push, hsz]
    rcases List.mem_cons.mp hd with rfl | hd
    · rw [hsz]; exact Nat.lt_succ_self _
    · rcases List.mem_cons.mp hd with rfl | hd
      · exact Nat.lt_succ_of_lt (Nat.lt_succ_self _)
      · cases hd
  · obtain ⟨b', t', rfl, e1⟩ := hf.at i vi (by simpa using hi)
    obtain ⟨c', u', rfl, e2⟩ := hf.at j vj (by simpa using hj)
    simp only [List.getD_eq_getElem?_getD, e1, e2, Option.getD_some] at h
    exact AutoFloatOps.gt_0 (by rw [cmp_gt]; exact h)
  · have kp : ∀ d o, s.heap.get? d = some o → h'.get? d = some o := fun d o e => by
      refine hk d o (fun hm => ?_) (Heap.get?_push_of_some _ (Heap.get?_push_of_some _ e))
      rcases List.mem_cons.mp hm with e1 | hm
      · have := Heap.lt_size e; rw [e1, hsz] at this; exact Nat.lt_irrefl _ (Nat.lt_of_succ_lt this)
      · cases hm
    obtain ⟨b', t', rfl, e1⟩ := hf.at _ v ((List.getElem?_toArray).symm.trans hP)
    have e2 := argBest_bits gtB [a, b, c] 2 (by simp)
    rw [List.getD_eq_getElem?_getD] at e2
    have e3 : [a, b, c][argBest (fun i j => gtB ([a, b, c].getD i 0) ([a, b, c].getD j 0)) 2]? = some b' := e1
    rw [e3, Option.getD_some] at e2
    rw [e2]
    exact fun ht => h h' tk t' (F.grownK kp) (N.grown kp) ht
theorem min3_f (hh : A.handled = none) (F : Fr h₀ L s.heap m) (N : News h₀ L s.heap news)
    (h : ∀ h' tk y, Fr h₀ L h' m → News h₀ L h' news → s.toks ≤ tk → Q (.float (minOfBits [a, b, c]) y) { s with heap := h', toks := tk }) :
    wpAny (model prog w) A (call (.builtin "min") [.float a t, .float b u, .float c x]) Q E s := by
  have hT : (s.heap.push { cls := .type "tuple", data := .seq #[.float a t, .float b u, .float c x] }).IsTuple s.heap.objs.size #[.float a t, .float b u, .float c x] := ⟨_, Heap.get?_push_size _ rfl, rfl, 0, rfl⟩
  have hf : FloatsAre [.float a t, .float b u, .float c x] [a, b, c] := .cons a t (.cons b u (.cons c x .nil))
  refine wpAny_with_toks (Nat.le_refl s.toks) ?_
  refine call_min_three (wpAny_pyIter_tuple hT ?_)
  have hsz : (s.heap.push { cls := .type "tuple", data := .seq #[.float a t, .float b u, .float c x] }).objs.size = s.heap.objs.size + 1 := Heap.size_push ..
  refine ⟨_, [_, s.heap.objs.size], [_], _, _, _, fun i j => ltB ([a, b, c].getD i 0) ([a, b, c].getD j 0), rfl, Walks.tuple (A := A.in1) hh _ s.heap.objs.size (by rw [hsz]; exact Nat.ne_of_lt (Nat.lt_succ_self _)) #[.float a t, .float b u, .float c x],
    ⟨⟨_, Heap.get?_push_size _ rfl, rfl, rfl⟩, hT.push _⟩, fun d hd => ?_, by simp, fun i j vi vj s Q E hi hj h => ?_, fun v h' tk hP hk => ?_⟩
  · show d < ((s.heap.push _).push _).objs.size
    rw [Heap.size_push, hsz]
    rcases List.mem_cons.mp hd with rfl | hd
    · rw [hsz]; exact Nat.lt_succ_self _
    · rcases List.mem_cons.mp hd with rfl | hd
      · exact Nat.lt_succ_of_lt (Nat.lt_succ_self _)
      · cases hd
  · obtain ⟨b', t', rfl, e1⟩ := hf.at i vi (by simpa using hi)
    obtain ⟨c', u', rfl, e2⟩ := hf.at j vj (by simpa using hj)
    simp only [List.getD_eq_getElem?_getD, e1, e2, Option.getD_some] at h
    exact AutoFloatOps.lt_0 h
  · have kp : ∀ d o, s.heap.get? d = some o → h'.get? d = some o := fun d o e => by
      refine hk d o (fun hm => ?_) (Heap.get?_push_of_some _ (Heap.get?_push_of_some _ e))
      rcases List.mem_cons.mp hm with e1 | hm
      · have := Heap.lt_size e; rw [e1, hsz] at this; exact Nat.lt_irrefl _ (Nat.lt_of_succ_lt this)
      · cases hm
    obtain ⟨b', t', rfl, e1⟩ := hf.at _ v ((List.getElem?_toArray).symm.trans hP)
    have e2 := argBest_bits ltB [a, b, c] 2 (by simp)
    rw [List.getD_eq_getElem?_getD] at e2
    have e3 : [a, b, c][argBest (fun i j => ltB ([a, b, c].getD i 0) ([a, b, c].getD j 0)) 2]? = some b' := e1
    rw [e3, Option.getD_some] at e2
    rw [e2]
    exact fun ht => h h' tk t' (F.grownK kp) (N.grown kp) ht
end
end Mine
end PartMax3

section PartPlain3
open PySem.W PyProof.Rows in
theorem Mine.cleanPlain3 : (1 : Nat) = 1 := by
  (w_on; w_top off; k_with_none)
  first | walk1 | rfl
open PySem PySem.W PyProof.Rows PySem.Flt
namespace Mine
abbrev tup3 (x y z : UInt64) (t1 t2 t3 : Tok) : Obj := { cls := .type "tuple", data := .seq #[.float x t1, .float y t2, .float z t3] }
noncomputable def eqF (a b : UInt64) : Bool := Float64.cmp a b == some Ordering.eq
noncomputable def leF (a b : UInt64) : Bool := Float64.cmp a b == some Ordering.lt || Float64.cmp a b == some Ordering.eq
noncomputable def hlsH (r g b : UInt64) : UInt64 :=
  let mx := maxOfBits [r, g, b]
  let rangec := Float64.sub mx (minOfBits [r, g, b])
  let rc := Float64.div (Float64.sub mx r) rangec
  let gc := Float64.div (Float64.sub mx g) rangec
  let bc := Float64.div (Float64.sub mx b) rangec
  let h := if eqF r mx = true then Float64.sub bc gc else if eqF g mx = true then Float64.sub (Float64.add 4611686018427387904 rc) bc else Float64.sub (Float64.add 4616189618054758400 gc) rc
  (Float64.divmod (Float64.div h 4618441417868443648) 4607182418800017408).snd
noncomputable def hlsL (r g b : UInt64) : UInt64 := Float64.div (Float64.add (maxOfBits [r, g, b]) (minOfBits [r, g, b])) 4611686018427387904
noncomputable def hlsS (r g b : UInt64) : UInt64 :=
  let mx := maxOfBits [r, g, b]
  let mn := minOfBits [r, g, b]
  if leF (hlsL r g b) 4602678819172646912 = true then Float64.div (Float64.sub mx mn) (Float64.add mx mn) else Float64.div (Float64.sub mx mn) (Float64.sub (Float64.sub 4611686018427387904 mx) mn)
noncomputable def hlsOk (r g b : UInt64) : Bool :=
  let mx := maxOfBits [r, g, b]
  let mn := minOfBits [r, g, b]
  !eqF mn mx && !Float64.isZero (Float64.sub mx mn) && !Float64.isZero (Float64.add mx mn) && !Float64.isZero (Float64.sub (Float64.sub 4611686018427387904 mx) mn)
noncomputable def hsvI (h : UInt64) : Int := Flt.toInt Float64.truncOf (Float64.mul h 4618441417868443648)
noncomputable def hsvP (s v : UInt64) : UInt64 := Float64.mul v (Float64.sub 4607182418800017408 s)
noncomputable def hsvQ (h s v : UInt64) : UInt64 := Float64.mul v (Float64.sub 4607182418800017408 (Float64.mul s (Float64.sub (Float64.mul h 4618441417868443648) (Float64.ofInt (hsvI h)))))
noncomputable def hsvT (h s v : UInt64) : UInt64 := Float64.mul v (Float64.sub 4607182418800017408 (Float64.mul s (Float64.sub 4607182418800017408 (Float64.sub (Float64.mul h 4618441417868443648) (Float64.ofInt (hsvI h))))))
noncomputable def hsvF (h s v : UInt64) : UInt64 × UInt64 × UInt64 :=
  let i := (hsvI h).fmod 6
  if i = 0 then (v, hsvT h s v, hsvP s v) else if i = 1 then (hsvQ h s v, v, hsvP s v) else if i = 2 then (hsvP s v, v, hsvT h s v) else if i = 3 then (hsvP s v, hsvQ h s v, v) else if i = 4 then (hsvT h s v, hsvP s v, v) else (v, hsvP s v, hsvQ h s v)
noncomputable def hsvOk (h s : UInt64) : Bool := !eqF s 0 && Float64.isFinite (Float64.mul h 4618441417868443648) && !Float64.isNaN (Float64.mul h 4618441417868443648) && !Float64.isInf (Float64.mul h 4618441417868443648) && decide ((hsvI h).natAbs < 100)
end Mine
end PartPlain3

section PartHls
open PySem.W PyProof.Rows in
theorem Mine.cleanHls : (1 : Nat) = 1 := by
  (w_on; w_top off; k_with_none)
  first | walk1 | rfl
open PySem PySem.W PyProof.Rows PySem.Spec PySem.Calls
namespace Mine
set_option maxRecDepth 100000 in
set_option maxHeartbeats 8000000 in
theorem hls_use {w : World} {mean : ExcName → Option Value} {mg mb : Str → Option Value} {dp un : Nat} {gd : Option (List Code)} {cn : Str} {cs : Scope} {fa : Addr} {ccd : Value} {cl : List (Str × Addr)} {outer : List Env} {A₀ : Around} {base h₀ : Heap} {L : Addr} {m : Str → Option Value} {s : Shared} {Q E : Value → Shared → Prop} {news : List (Addr × Obj)} {r gr b : UInt64} {t1 t2 t3 : Tok}
   (B0 : Below A₀ base outer h₀) (F0 : Fr h₀ L s.heap m) (X0 : (hd.heap_39 w.params).In h₀) (N0 : News h₀ L s.heap news) (T0 : Top vw (looseW vw []) mean mg mb h₀) (hk : cs.kind = .function)
   (hok : hlsOk r gr b = true) (hdp : dp + 1 < recursionLimit) (hun : un + 8 < cLine)
   (hret : ∀ (D : Addr) (u1 u2 u3 : Tok) (h' : Heap) (tk' : Nat), Fr h₀ L h' m → News h₀ L h' ((D, tup3 (hlsH r gr b) (hlsL r gr b) (hlsS r gr b) u1 u2 u3) :: news) → (∀ p ∈ news, p.1 < D) → (TkB s.toks u1 tk' ∧ TkP u2 ∧ TkP u3) → Q (.ref D) { s with heap := h', toks := tk' }) :
   wpAny (model Challenge.rw_re0079_01.row.prog w) (ktrTop dp un gd cn cs L fa ccd cl outer) (call (.ref 35) [.float r t1, .float gr t2, .float b t3]) Q E s := by
  k_with_none
  k_with "call builtin:max" => (((with_reducible show wpAny _ _ (call (Value.builtin "max") [Value.float _ _, Value.float _ _, Value.float _ _]) _ _ _); (with_reducible rename Fr _ _ _ _ => F'); (with_reducible rename News _ _ _ _ => N'); refine max3_f rfl F' N' ?_; intro _ _ _ _ _ htk; (try dsimp only at htk)))
  k_with "call builtin:min" => (((with_reducible show wpAny _ _ (call (Value.builtin "min") [Value.float _ _, Value.float _ _, Value.float _ _]) _ _ _); (with_reducible rename Fr _ _ _ _ => F'); (with_reducible rename News _ _ _ _ => N'); refine min3_f rfl F' N' ?_; intro _ _ _ _ _ htk; (try dsimp only at htk)))
  k_with "execs cons" => ((k_here; (fail_if_success (fail_if_success k_gentoks)); (with_reducible refine gen_toks ?_); intro tk htk))
  k_with "execs nil" => ((k_here; (fail_if_success (fail_if_success k_gentoks)); (with_reducible refine gen_toks ?_); intro tk htk))
  revert X0
  k_fill
  intro X0
  simp only [hlsOk, Bool.and_eq_true, Bool.not_eq_true'] at hok
  obtain ⟨⟨⟨ho1, ho2⟩, ho3⟩, ho4⟩ := hok
  unfold eqF at ho1
  refine wpAny_call ?_
  k_dflt (refine' code_def ?k1 ?k2 ?k3 ?k4 ?k5 ?kA ?kF ?kK ?k6 ?k7 ?k8 ?k9 ?kB ?_ ?c2 ?c3 ?c4 ?c5; (case kA => exact rfl); (case kF => exact rfl); (case kK => assumption); (case k1 => k_asm); (case k2 => k_asm); (case k3 => k_asm); (case k4 => k_asm); (case k5 => k_asm); (case k6 => k_is); (case k7 => k_is); (case k8 => ktr_room); (case k9 => exact BindsTo.of_eq rfl); (case c5 => decide); (case kB => exact locs rfl); (case c2 => exact rfl); (case c3 => exact rfl); (case c4 => exact rfl); k_whole)
  intro g Lf h1 FG F N B X T
  have F1 : Fr g Lf h1 (fun y : Str => if y = Str.ofString "b" then some (.float b t3) else if y = Str.ofString "g" then some (.float gr t2) else if y = Str.ofString "r" then some (.float r t1) else none) := fr_re F (lookup_kstB [(Str.ofString "b", .float b t3), (Str.ofString "g", .float gr t2), (Str.ofString "r", .float r t1)])
  clear F
  (try dsimp only); (try k_unmd); (try k_fold)
  repeat' ((fail_if_success (with_reducible show Hold _)); (first | (k_unfold; (try dsimp only)) | (k_end; wrow_close) | walk1 | (dsimp only; walk1) | (leave1; walk_say "STEP leave1"; try dsimp only) | fail "no step"))
  all_goals (first
    | (exfalso; simp_all; done)
    | (have e1 : hlsH r gr b = _ := (by simp only [hlsH, eqF, *, if_true, if_false, Bool.false_eq_true]; rfl)
       have e2 : hlsS r gr b = _ := (by simp only [hlsS, hlsL, leF, *, if_true, if_false, Bool.false_eq_true]; rfl)
       rw [e1, e2] at hret
       refine hret _ _ _ _ _ _ (by assumption) (by assumption) (by assumption) ?_
       clear hret e1 e2 ho1 ho2 ho3 ho4
       (try dsimp only at *)
       unfold TkB TkP
       omega)
    | skip)
end Mine
end PartHls

section PartHsv
open PySem.W PyProof.Rows in
theorem Mine.cleanHsv : (1 : Nat) = 1 := by
  (w_on; w_top off; k_with_none)
  first | walk1 | rfl
open PySem PySem.W PyProof.Rows PySem.Spec PySem.Calls
namespace Mine
set_option maxRecDepth 100000 in
set_option maxHeartbeats 8000000 in
theorem hsv_use {w : World} {mean : ExcName → Option Value} {mg mb : Str → Option Value} {dp un : Nat} {gd : Option (List Code)} {cn : Str} {cs : Scope} {fa : Addr} {ccd : Value} {cl : List (Str × Addr)} {outer : List Env} {A₀ : Around} {base h₀ : Heap} {L : Addr} {m : Str → Option Value} {s : Shared} {Q E : Value → Shared → Prop} {news : List (Addr × Obj)} {h sa v : UInt64} {t1 t2 t3 : Tok}
   (B0 : Below A₀ base outer h₀) (F0 : Fr h₀ L s.heap m) (X0 : (hd.heap_39 w.params).In h₀) (N0 : News h₀ L s.heap news) (T0 : Top vw (looseW vw []) mean mg mb h₀) (hk : cs.kind = .function)
   (hok : hsvOk h sa = true) (hdp : dp + 1 < recursionLimit) (hun : un + 8 < cLine)
   (hret : ∀ (D : Addr) (u1 u2 u3 : Tok) (h' : Heap) (tk' : Nat), Fr h₀ L h' m → News h₀ L h' ((D, tup3 (hsvF h sa v).1 (hsvF h sa v).2.1 (hsvF h sa v).2.2 u1 u2 u3) :: news) → (∀ p ∈ news, p.1 < D) → Q (.ref D) { s with heap := h', toks := tk' }) :
   wpAny (model Challenge.rw_re0079_01.row.prog w) (ktrTop dp un gd cn cs L fa ccd cl outer) (call (.ref 42) [.float h t1, .float sa t2, .float v t3]) Q E s := by
  revert X0
  k_fill
  intro X0
  simp only [hsvOk, Bool.and_eq_true, Bool.not_eq_true', decide_eq_true_eq] at hok
  obtain ⟨⟨⟨⟨ho1, ho2⟩, ho3⟩, ho4⟩, ho5⟩ := hok
  unfold eqF at ho1
  have ho6 : 0 ≤ (hsvI h).fmod 6 ∧ (hsvI h).fmod 6 < 6 := ⟨Int.fmod_nonneg_of_pos _ (by decide), Int.fmod_lt_of_pos _ (by decide)⟩
  refine wpAny_call ?_
  k_dflt (refine' code_def ?k1 ?k2 ?k3 ?k4 ?k5 ?kA ?kF ?kK ?k6 ?k7 ?k8 ?k9 ?kB ?_ ?c2 ?c3 ?c4 ?c5; (case kA => exact rfl); (case kF => exact rfl); (case kK => assumption); (case k1 => k_asm); (case k2 => k_asm); (case k3 => k_asm); (case k4 => k_asm); (case k5 => k_asm); (case k6 => k_is); (case k7 => k_is); (case k8 => ktr_room); (case k9 => exact BindsTo.of_eq rfl); (case c5 => decide); (case kB => exact locs rfl); (case c2 => exact rfl); (case c3 => exact rfl); (case c4 => exact rfl); k_whole)
  intro g Lf h1 FG F N B X T
  have F1 : Fr g Lf h1 (fun y : Str => if y = Str.ofString "v" then some (.float v t3) else if y = Str.ofString "s" then some (.float sa t2) else if y = Str.ofString "h" then some (.float h t1) else none) := fr_re F (lookup_kstB [(Str.ofString "v", .float v t3), (Str.ofString "s", .float sa t2), (Str.ofString "h", .float h t1)])
  clear F
  (try dsimp only); (try k_unmd); (try k_fold)
  repeat' ((fail_if_success (with_reducible show Hold _)); (first | (k_unfold; (try dsimp only)) | (k_end; wrow_close) | walk1 | (dsimp only; walk1) | (leave1; walk_say "STEP leave1"; try dsimp only) | fail "no step"))
  all_goals (first
    | (have e1 : hsvF h sa v = _ := (by simp only [hsvF, hsvT, hsvP, hsvQ, hsvI, *, if_true, if_false]; rfl)
       rw [e1] at hret
       exact hret _ _ _ _ _ _ (by assumption) (by assumption) (by assumption))
    | (exfalso; unfold hsvI at ho6; omega)
    | (exfalso; simp_all; done)
    | skip)
  · rename 2 ^ 1024 - 2 ^ 970 ≤ _ => hbig
    have h100 : (100 : Nat) ≤ 2 ^ 1024 - 2 ^ 970 := by decide +kernel
    exact absurd (Nat.le_trans h100 hbig) (Nat.not_le.mpr ho5)
end Mine
end PartHsv

section PartSums
open PySem.W PyProof.Rows in
theorem Mine.cleanSums : (1 : Nat) = 1 := by
  (w_on; w_top off; k_with_none)
  first | walk1 | rfl
open PySem PySem.W PyProof.Rows PySem.Spec PySem.Calls
namespace Mine
theorem sums_start : ([0, 9, 16, 25, 10, 3, 0, 3] : List Int).length = 8 ∧ ∀ y ∈ ([0, 9, 16, 25, 10, 3, 0, 3] : List Int), 0 ≤ y ∧ y ≤ 1000000 * ((([] : List Int).length : Int) + 1) := by
  refine ⟨rfl, ?_⟩
  intro y hy
  simp only [List.mem_cons, List.not_mem_nil, or_false] at hy
  simp only [List.length_nil]
  omega
theorem sums_step {x : List Int} {pre : List Int} {kN v : Int} {i j : Nat} (h8 : x.length = 8) (h : ∀ y ∈ x, 0 ≤ y ∧ y ≤ 1000000 * ((pre.length : Int) + 1)) :
    (x.set i (x.getD j 0 + v.fmod 1000000)).length = 8 ∧ ∀ y ∈ x.set i (x.getD j 0 + v.fmod 1000000), 0 ≤ y ∧ y ≤ 1000000 * (((pre ++ [kN]).length : Int) + 1) := by
  refine ⟨by rw [List.length_set, h8], fun y hy => ?_⟩
  rw [List.length_append, List.length_singleton]
  rcases List.mem_or_eq_of_mem_set hy with hy | rfl
  · have := h y hy; omega
  · have h1 := Int.fmod_nonneg_of_pos v (show (0 : Int) < 1000000 by decide)
    have h2 := Int.fmod_lt_of_pos v (show (0 : Int) < 1000000 by decide)
    have h3 : 0 ≤ x.getD j 0 ∧ x.getD j 0 ≤ 1000000 * ((pre.length : Int) + 1) := by
      by_cases hj : j < x.length
      · have := h _ (List.getElem_mem hj)
        simpa [List.getD, hj] using this
      · simp only [List.getD, List.getElem?_eq_none (Nat.not_lt.mp hj), Option.getD_none]; omega
    omega
set_option maxRecDepth 100000 in
set_option maxHeartbeats 8000000 in
theorem sums_use {w : World} {mean : ExcName → Option Value} {mg mb : Str → Option Value} {dp un : Nat} {gd : Option (List Code)} {cn : Str} {cs : Scope} {fa : Addr} {ccd : Value} {cl : List (Str × Addr)} {outer : List Env} {A₀ : Around} {base h₀ : Heap} {L : Addr} {m : Str → Option Value} {s : Shared} {Q E : Value → Shared → Prop} {news : List (Addr × Obj)} {l : Addr} {vs : List Value} {ns : List Int}
   (B0 : Below A₀ base outer h₀) (F0 : Fr h₀ L s.heap m) (X0 : (hd.heap_39 w.params).In h₀) (N0 : News h₀ L s.heap news) (T0 : Top vw (looseW vw []) mean mg mb h₀) (hk : cs.kind = .function)
   (hl : base.IsList l vs.toArray) (hi : IntsAre vs ns) (hlen : ns.length ≤ 1048576) (hdp : dp + 1 < recursionLimit) (hun : un + 8 < cLine)
   (hret : ∀ (D : Addr) (vs' : List Value) (x : List Int) (k : Nat) (h' : Heap) (tk' : Nat), Fr h₀ L h' m → News h₀ L h' ((D, listOf vs'.toArray k) :: news) → (∀ p ∈ news, p.1 < D) → IntsAre vs' x → x.length = 8 → (∀ y ∈ x, 0 ≤ y ∧ y ≤ 100000000) → Q (.ref D) { s with heap := h', toks := tk' }) :
   wpAny (model Challenge.rw_re0079_01.row.prog w) (ktrTop dp un gd cn cs L fa ccd cl outer) (call (.ref 63) [.ref l]) Q E s := by
  revert X0
  k_fill
  intro X0
  refine wpAny_call ?_
  k_dflt (refine' code_def ?k1 ?k2 ?k3 ?k4 ?k5 ?kA ?kF ?kK ?k6 ?k7 ?k8 ?k9 ?kB ?_ ?c2 ?c3 ?c4 ?c5; (case kA => exact rfl); (case kF => exact rfl); (case kK => assumption); (case k1 => k_asm); (case k2 => k_asm); (case k3 => k_asm); (case k4 => k_asm); (case k5 => k_asm); (case k6 => k_is); (case k7 => k_is); (case k8 => ktr_room); (case k9 => exact BindsTo.of_eq rfl); (case c5 => decide); (case kB => exact locs rfl); (case c2 => exact rfl); (case c3 => exact rfl); (case c4 => exact rfl); k_whole)
  intro g Lf h1 FG F N B X T
  have F1 : Fr g Lf h1 (fun y : Str => if y = Str.ofString "script" then some (.ref l) else none) := fr_re F (lookup_kstB [(Str.ofString "script", .ref l)])
  clear F
  (try dsimp only); (try k_lift B); (try k_unmd); (try k_fold)
  repeat' ((fail_if_success (with_reducible show Hold _)); (fail_if_success (with_reducible show wpAny _ _ (pyIter _) _ _ _)); (first | (k_unfold; (try dsimp only)) | (k_end; wrow_close) | walk1 | (dsimp only; walk1) | (leave1; walk_say "STEP leave1"; try dsimp only) | fail "no step"))
  k_with "state" => first | exact sums_start | exact sums_step (by assumption) (by assumption)
  k_state (fun pre x => x.length = 8 ∧ ∀ y ∈ x, 0 ≤ y ∧ y ≤ 1000000 * ((pre.length : Int) + 1)) "sums"
  · repeat' ((fail_if_success (with_reducible show Hold _)); (first | (k_unfold; (try dsimp only)) | (k_end; wrow_close) | walk1 | (dsimp only; walk1) | (leave1; walk_say "STEP leave1"; try dsimp only) | fail "no step"))
  · repeat' ((fail_if_success (with_reducible show Hold _)); (first | (k_unfold; (try dsimp only)) | (k_end; wrow_close) | walk1 | (dsimp only; walk1) | (leave1; walk_say "STEP leave1"; try dsimp only) | fail "no step"))
    refine hret _ _ _ _ _ _ (by assumption) (by assumption) (by assumption) (by assumption) (by assumption) ?_
    rename ∀ y ∈ _, (0 : Int) ≤ y ∧ y ≤ _ => hb
    intro y hy
    have := hb y hy
    rw [rangeKs_length] at this
    split at this <;> omega
end Mine
end PartSums

section PartComp
open PySem.W PyProof.Rows in
theorem Mine.cleanComp : (1 : Nat) = 1 := by
  (w_on; w_top off; k_with_none)
  first | walk1 | rfl
open PySem PySem.W PyProof.Rows PySem.Spec PySem.Calls
namespace Mine
section
variable {prog : Program} {w : World} {A : Around} {h₀ : Heap} {L : Addr} {m : Str → Option Value} {env : Env} {elt : Expr} {x : Str} {scope : Scope} {cl : List (Str × Addr)} {s : Shared} {S : List (Addr × Obj) → Prop} {P : Nat → Value → Prop} {Fin : List Value → List (Addr × Obj) → Prop} {news : List (Addr × Obj)}
/-- a comprehension whose i-th element meets R i -/
theorem comp_rest {n : Nat} (R : Nat → Value → Prop)
    (turn : ∀ i v I oI C oC D m₂ ys h tk (E' : Value → Shared → Prop), i < n → P i v → LCg.NsObj oC m₂ → m₂ x = some v → Fr h₀ L h m → News h₀ L h ((I, oI) :: (C, oC) :: (D, LCg.lst ys) :: news) → LCg.Off3 I C D news → ((@Ne Nat I C) ∧ (@Ne Nat I D) ∧ (@Ne Nat C D)) →
      wpAny (model prog w) A (eval elt (compEnvC scope cl C env)) (LCg.CompEnd h₀ L m { s with heap := h, toks := tk } I oI C oC D (LCg.lst ys) S (fun y news' => news' = news ∧ R i y)) E' { s with heap := h, toks := tk })
    (fin : ∀ ys : List Value, ys.length = n → (∀ i y, ys[i]? = some y → R i y) → Fin ys news) : LCg.CompRest prog w A h₀ L m env elt x scope cl s S P Fin n 0 [] news := by
  have key : ∀ (j i : Nat) (ys : List Value), i + j = n → ys.length = i → (∀ i y, ys[i]? = some y → R i y) → LCg.CompRest prog w A h₀ L m env elt x scope cl s S P Fin j i ys news := by
    intro j
    induction j with
    | zero =>
      intro i ys hi hl hy
      exact LCg.CompRest.zero (fin ys (by omega) hy)
    | succ j ih =>
      intro i ys hi hl hy
      refine LCg.CompRest.succ ?_
      intro v I oI C oC D m₂ h tk E' hv hC hx F N off ne
      refine wpAny_mono (turn i v I oI C oC D m₂ ys h tk E' (by omega) hv hC hx F N off ne) (fun y s₂ hq => ?_) fun _ _ e => e
      obtain ⟨h', tk', nw, e, F', N', off', hS, hn, hR⟩ := hq
      rw [hn] at N' off' hS
      refine ⟨h', tk', news, e, F', N', off', hS, ?_⟩
      refine ih (i + 1) _ (by omega) (by rw [List.length_append, List.length_singleton, hl]) ?_
      intro k z hk
      by_cases hki : k < i
      · rw [List.getElem?_append_left (by omega)] at hk
        exact hy k z hk
      · rw [List.getElem?_append_right (by omega)] at hk
        have hk0 : k - ys.length = 0 := by
          cases hq : k - ys.length with
          | zero => rfl
          | succ q => rw [hq] at hk; simp at hk
        rw [hk0] at hk
        have : k = i := by omega
        subst this
        simp at hk
        subst hk
        exact hR
  exact key n 0 [] (by omega) rfl (by intro i y h; simp at h)
/-- a comprehension with one test, by what holds of the items so far -/
theorem comp_restT {ct : Expr} {n : Nat} (Inv : Nat → List Value → Prop) (h0 : Inv 0 [])
    (turn : ∀ i v I oI C oC D m₂ ys h tk (E' : Value → Shared → Prop), i < n → P i v → Inv i ys → LCg.NsObj oC m₂ → m₂ x = some v → Fr h₀ L h m → News h₀ L h ((I, oI) :: (C, oC) :: (D, LCg.lst ys) :: news) → LCg.Off3 I C D news → ((@Ne Nat I C) ∧ (@Ne Nat I D) ∧ (@Ne Nat C D)) →
      wpAny (model prog w) A (isTrue ct (compEnvC scope cl C env) (eval ct (compEnvC scope cl C env))) (fun ok s' => if ok = true then
        wpAny (model prog w) A (eval elt (compEnvC scope cl C env)) (LCg.CompEnd h₀ L m { s with heap := h, toks := tk } I oI C oC D (LCg.lst ys) S (fun y news' => news' = news ∧ Inv (i + 1) (ys ++ [y]))) E' s'
        else LCg.CompEnd h₀ L m { s with heap := h, toks := tk } I oI C oC D (LCg.lst ys) S (fun _ news' => news' = news ∧ Inv (i + 1) ys) Value.none s') E' { s with heap := h, toks := tk })
    (fin : ∀ ys : List Value, Inv n ys → Fin ys news) : LCt.CompRestT prog w A h₀ L m env ct elt x scope cl s S P Fin n 0 [] news := by
  have key : ∀ (j i : Nat) (ys : List Value), i + j = n → Inv i ys → LCt.CompRestT prog w A h₀ L m env ct elt x scope cl s S P Fin j i ys news := by
    intro j
    induction j with
    | zero =>
      intro i ys hi hy
      have : i = n := by omega
      subst this
      exact LCt.CompRestT.zero (fin ys hy)
    | succ j ih =>
      intro i ys hi hy
      refine LCt.CompRestT.succ ?_
      intro v I oI C oC D m₂ h tk E' hv hC hx F N off ne
      refine wpAny_mono (turn i v I oI C oC D m₂ ys h tk E' (by omega) hv hy hC hx F N off ne) (fun ok s₂ hq => ?_) fun _ _ e => e
      cases ok with
      | true =>
        simp only [if_true] at hq ⊢
        refine wpAny_mono hq (fun y s₃ hq => ?_) fun _ _ e => e
        obtain ⟨h', tk', nw, e, F', N', off', hS, hn, hR⟩ := hq
        rw [hn] at N' off' hS
        exact ⟨h', tk', news, e, F', N', off', hS, ih (i + 1) _ (by omega) hR⟩
      | false =>
        simp only [Bool.false_eq_true, if_false] at hq ⊢
        obtain ⟨h', tk', nw, e, F', N', off', hS, hn, hR⟩ := hq
        rw [hn] at N' off' hS
        exact ⟨h', tk', news, e, F', N', off', hS, ih (i + 1) _ (by omega) hR⟩
  exact key n 0 [] (by omega) h0
end
end Mine
end PartComp

section PartKinds
open PySem.W PyProof.Rows in
theorem Mine.cleanKinds : (1 : Nat) = 1 := by
  (w_on; w_top off; k_with_none)
  first | walk1 | rfl
open PySem PySem.W PyProof.Rows PySem.Spec PySem.Calls
namespace Mine
theorem all_ne_tail {d a : Nat} {news : List (Addr × Obj)} (h : ∀ p ∈ news, p.1 < d) (hd : d ≤ a) : ∀ p ∈ news, p.1 ≠ a := fun p hp => Nat.ne_of_lt (Nat.lt_of_lt_of_le (h p hp) hd)
theorem gates_T {ks : List Int} {ys : List Value} {i : Nat} {t : Tok} (h : IntsAre ys (((List.range i).filter (fun k => ks.getD k 0 == 2)).map Int.ofNat)) (hk : ks.getD (i : Int).toNat 0 = 2) :
    IntsAre (ys ++ [.int (i : Int) t]) (((List.range (i + 1)).filter (fun k => ks.getD k 0 == 2)).map Int.ofNat) := by
  rw [List.range_succ, List.filter_append, List.map_append]
  refine IntsAre.append h ?_
  rw [Int.toNat_natCast] at hk
  rw [List.filter_cons_of_pos (by simpa using hk)]
  exact .cons _ _ .nil
theorem gates_F {ks : List Int} {ys : List Value} {i : Nat} (h : IntsAre ys (((List.range i).filter (fun k => ks.getD k 0 == 2)).map Int.ofNat)) (hk : ks.getD (i : Int).toNat 0 ≠ 2) :
    IntsAre ys (((List.range (i + 1)).filter (fun k => ks.getD k 0 == 2)).map Int.ofNat) := by
  rw [List.range_succ, List.filter_append, List.map_append]
  rw [Int.toNat_natCast] at hk
  rw [List.filter_cons_of_neg (by simpa using hk)]
  simpa using h
theorem twos_len (l : List Int) : ((List.range l.length).filter (fun k => l.getD k 0 == 2)).length = (l.filter (· == 2)).length := by
  have e : l = (List.range l.length).map (fun k => l.getD k 0) := by
    apply List.ext_getElem (by simp)
    intro i h1 h2
    simp [List.getD, h1]
  have e2 : (l.filter (· == 2)).length = (((List.range l.length).map (fun k => l.getD k 0)).filter (· == 2)).length := by rw [← e]
  rw [e2, List.filter_map, List.length_map]
  rfl
theorem twos_set : ∀ (l : List Int) (i : Nat), l.getD i 0 = 2 → ((l.set i 1).filter (· == 2)).length + 1 = (l.filter (· == 2)).length
  | [], i, h => by simp at h
  | x :: xs, 0, h => by
    have hx : x = 2 := by simpa using h
    subst hx
    simp
  | x :: xs, i + 1, h => by
    have ih := twos_set xs i (by simpa using h)
    rw [List.set_cons_succ]
    by_cases hx : x = 2
    · rw [List.filter_cons_of_pos (by simpa using hx), List.filter_cons_of_pos (by simpa using hx), List.length_cons, List.length_cons]; omega
    · rw [List.filter_cons_of_neg (by simpa using hx), List.filter_cons_of_neg (by simpa using hx)]; exact ih
theorem set_bounds {ks : List Int} {i : Nat} (h : ∀ y ∈ ks, 0 ≤ y ∧ y < 3) : ∀ y ∈ ks.set i 1, 0 ≤ y ∧ y < 3 := by
  intro y hy
  rcases List.mem_or_eq_of_mem_set hy with hy | rfl
  · exact h y hy
  · omega
theorem set_zero {ks : List Int} {i : Nat} (h : ks.getD 0 0 < 2) : (ks.set i 1).getD 0 0 < 2 := by
  cases ks with
  | nil => simpa using h
  | cons x xs => cases i with
    | zero => simp
    | succ i => simpa using h
theorem fmod2 (x : Int) : 0 ≤ x.fmod 2 ∧ x.fmod 2 < 2 := ⟨Int.fmod_nonneg_of_pos _ (by decide), Int.fmod_lt_of_pos _ (by decide)⟩
theorem fmod3 (x : Int) : 0 ≤ x.fmod 3 ∧ x.fmod 3 < 3 := ⟨Int.fmod_nonneg_of_pos _ (by decide), Int.fmod_lt_of_pos _ (by decide)⟩
theorem ints7 {ys : List Value} {f : Nat → Int} (hl : ys.length = 7) (h : ∀ (i : Nat) (y : Value), ys[i]? = some y → ∃ t, y = Value.int (f i) t) :
    ∃ u0 u1 u2 u3 u4 u5 u6, ys = [.int (f 0) u0, .int (f 1) u1, .int (f 2) u2, .int (f 3) u3, .int (f 4) u4, .int (f 5) u5, .int (f 6) u6] := by
  match ys, hl with
  | [a, b, c, d, e, i, j], _ =>
    obtain ⟨u0, rfl⟩ := h 0 a rfl
    obtain ⟨u1, rfl⟩ := h 1 b rfl
    obtain ⟨u2, rfl⟩ := h 2 c rfl
    obtain ⟨u3, rfl⟩ := h 3 d rfl
    obtain ⟨u4, rfl⟩ := h 4 e rfl
    obtain ⟨u5, rfl⟩ := h 5 i rfl
    obtain ⟨u6, rfl⟩ := h 6 j rfl
    exact ⟨u0, u1, u2, u3, u4, u5, u6, rfl⟩
set_option maxRecDepth 100000 in
set_option maxHeartbeats 8000000 in
theorem kinds_use {w : World} {mean : ExcName → Option Value} {mg mb : Str → Option Value} {dp un : Nat} {gd : Option (List Code)} {cn : Str} {cs : Scope} {fa : Addr} {ccd : Value} {cl : List (Str × Addr)} {outer : List Env} {A₀ : Around} {base h₀ : Heap} {L : Addr} {m : Str → Option Value} {s : Shared} {Q E : Value → Shared → Prop} {news : List (Addr × Obj)} {l : Addr} {kc : Nat} {x0 x1 x2 x3 x4 x5 x6 x7 : Int} {t0 t1 t2 t3 t4 t5 t6 t7 : Tok}
   (B0 : Below A₀ base outer h₀) (F0 : Fr h₀ L s.heap m) (X0 : (hd.heap_39 w.params).In h₀) (N0 : News h₀ L s.heap ((l, listOf #[.int x0 t0, .int x1 t1, .int x2 t2, .int x3 t3, .int x4 t4, .int x5 t5, .int x6 t6, .int x7 t7] kc) :: news)) (T0 : Top vw (looseW vw []) mean mg mb h₀) (hk : cs.kind = .function)
   (hdp : dp + 1 < recursionLimit) (hun : un + 16 < cLine)
   (hret : ∀ (D : Addr) (vs' : List Value) (x : List Int) (k : Nat) (h' : Heap) (tk' : Nat), Fr h₀ L h' m → News h₀ L h' ((D, listOf vs'.toArray k) :: (l, listOf #[.int x0 t0, .int x1 t1, .int x2 t2, .int x3 t3, .int x4 t4, .int x5 t5, .int x6 t6, .int x7 t7] kc) :: news) → l < D → (∀ p ∈ news, p.1 < D) → IntsAre vs' x → x.length = 8 → (∀ y ∈ x, 0 ≤ y ∧ y < 3) → x.getD 0 0 < 2 → (x.filter (· == 2)).length % 2 = 0 → Q (.ref D) { s with heap := h', toks := tk' }) :
   wpAny (model Challenge.rw_re0079_01.row.prog w) (ktrTop dp un gd cn cs L fa ccd cl outer) (call (.ref 68) [.ref l]) Q E s := by
  k_with_none
  k_with "k_all" => ((refine all_ne_tail (by assumption) ?_; omega))
  revert X0
  k_fill
  intro X0
  refine wpAny_call ?_
  k_dflt (refine' code_defC ?k1 ?k2 ?k3 ?k4 ?k5 ?kA ?kF ?kK ?k6 ?k7 ?k8 ?k9 ?kB ?kD ?_ ?c2 ?c3 ?c4; (case kA => exact rfl); (case kF => exact rfl); (case kK => assumption); (case k1 => k_asm); (case k2 => k_asm); (case k3 => k_asm); (case k4 => k_asm); (case k5 => k_asm); (case k6 => k_is); (case k7 => k_is); (case k8 => ktr_room); (case k9 => exact BindsTo.of_eq rfl); (case kB => exact rfl); (case kD => decide +kernel); (case c2 => exact rfl); (case c3 => exact rfl); (case c4 => exact rfl); k_whole)
  intro g Lf h1 tk1 cells FG F N Y B X T l1
  have hnw : ∀ p ∈ news, p.1 < Lf := fun p hp => l1 p (List.mem_cons_of_mem _ hp)
  have hlL : l < Lf := l1 (l, _) (List.Mem.head _)
  clear l1
  k_lt2 hlL
  k_cells Y; (try simp only [List.cons_append, List.nil_append] at N)
  have F1 : Fr g Lf h1 (fun y : Str => if y = Str.ofString "sums" then some (.ref l) else none) := F
  clear F
  rename Obj => oc
  rename oc.data = _ => hoc
  replace hoc : oc.data = .cell none := hoc
  (try dsimp only); (try k_unmd); (try k_fold)
  refine cutE 1 (fun s' => ∃ (DK : Addr) (vs : List Value) (ks : List Int) (n : Nat) (oc : Obj) (h' : Heap) (tk' : Nat), s' = { s with heap := h', toks := tk' } ∧ Fr g Lf h' (fun y : Str => if y = Str.ofString "sums" then some (.ref l) else none) ∧
    News g Lf h' ((DK, listOf vs.toArray n) :: (Lf + 1, oc) :: (l, listOf #[.int x0 t0, .int x1 t1, .int x2 t2, .int x3 t3, .int x4 t4, .int x5 t5, .int x6 t6, .int x7 t7] kc) :: news) ∧ oc.data = .cell (some (.ref DK)) ∧ Lf + 1 < DK ∧ IntsAre vs ks ∧ ks.length = 8 ∧ (∀ y ∈ ks, 0 ≤ y ∧ y < 3) ∧ ks.getD 0 0 < 2) ?_ ?_
  · dsimp only [List.take]
    repeat' ((fail_if_success (with_reducible show Hold _)); (fail_if_success (with_reducible show wpAny _ _ (eval (Expr.ListComp _ _ _ _) _) _ _ _)); (fail_if_success (with_reducible show wpAny _ _ (exec (Stmt.Assign _ (Expr.ListComp _ _ _ _) _) _) _ _ _)); (first | (k_unfold; (try dsimp only)) | (k_end; wrow_close) | walk1 | (dsimp only; walk1) | (leave1; walk_say "STEP leave1"; try dsimp only) | fail "no step"))
    k_dflt (refine LCg.ListComp_U (F₀ := by k_asm) (by with_unfolding_all rfl) (by decide) (by rfl) (by decide) (by rfl) ?_)
    repeat' ((fail_if_success (with_reducible show Hold _)); (fail_if_success (with_reducible show LCg.CompSrc _ _ _ _ _ _ _ _ _ _ _ _ _ _)); (first | (k_unfold; (try dsimp only)) | (k_end; wrow_close) | walk1 | (dsimp only; walk1) | (leave1; walk_say "STEP leave1"; try dsimp only) | fail "no step"))
    k_dflt (refine LCg.CompSrc.ledger (by rfl) (by k_asm) (by k_asm) (by k_mem) (by exact Nat.le_of_ble_eq_true rfl) ?_)
    intro g1
    refine comp_rest (fun i y => ∃ t, y = .int ((([x1, x2, x3, x4, x5, x6, x7].getD i 0).fdiv 2).fmod 3) t) ?_ ?_
    · intro i v I oI C oC D m2 ys h2 tk2 E2 hi hv hC hx F2 N2 off2 ne2
      have hI : IntsAre [.int x1 t1, .int x2 t2, .int x3 t3, .int x4 t4, .int x5 t5, .int x6 t6, .int x7 t7] [x1, x2, x3, x4, x5, x6, x7] := .cons _ _ (.cons _ _ (.cons _ _ (.cons _ _ (.cons _ _ (.cons _ _ (.cons _ _ .nil))))))
      obtain ⟨tv, rfl⟩ := IntsAre.int_at hI i v (by simpa using hv)
      clear hv hI
      repeat' ((fail_if_success (with_reducible show Hold _)); (fail_if_success (with_reducible show LCg.CompEnd _ _ _ _ _ _ _ _ _ _ _ _ _ _)); (first | (k_unfold; (try dsimp only)) | (k_end; wrow_close) | walk1 | (dsimp only; walk1) | (leave1; walk_say "STEP leave1"; try dsimp only) | fail "no step"))
      exact LCg.CompEnd.intro F2 N2 _ (fun p hp => hp) off2 (.inr ⟨_, List.Mem.head _, rfl, _, rfl⟩) ⟨rfl, _, rfl⟩
    · intro ys hly hys
      obtain ⟨u0, u1, u2, u3, u4, u5, u6, rfl⟩ := ints7 (f := fun i => (([x1, x2, x3, x4, x5, x6, x7].getD i 0).fdiv 2).fmod 3) hly hys
      clear hly hys
      intro D h2 tk2 F2 N2 off2
      simp only [List.getD_cons_zero, List.getD_cons_succ] at N2
      (try dsimp only)
      (try simp only [LCg.Off1, and_true] at off2)
      repeat' ((fail_if_success (with_reducible show Hold _)); (fail_if_success (with_reducible show wpAny _ _ (eval (Expr.ListComp _ _ _ _) _) _ _ _)); (fail_if_success (with_reducible show wpAny _ _ (exec (Stmt.Assign _ (Expr.ListComp _ _ _ _) _) _) _ _ _)); (first | (k_unfold; (try dsimp only)) | (k_end; wrow_close) | walk1 | (dsimp only; walk1) | (leave1; walk_say "STEP leave1"; try dsimp only) | fail "no step"))
      rename News g Lf _ _ => N3
      rename Obj => o2
      have b0 := fmod2 (x0.fdiv 2)
      have b1 := fmod3 (x1.fdiv 2)
      have b2 := fmod3 (x2.fdiv 2)
      have b3 := fmod3 (x3.fdiv 2)
      have b4 := fmod3 (x4.fdiv 2)
      have b5 := fmod3 (x5.fdiv 2)
      have b6 := fmod3 (x6.fdiv 2)
      have b7 := fmod3 (x7.fdiv 2)
      simp only [Int.toNat_zero, List.getD_cons_zero] at N3
      refine ⟨rfl, _, _, [(x0.fdiv 2).fmod 2, (x1.fdiv 2).fmod 3, (x2.fdiv 2).fmod 3, (x3.fdiv 2).fmod 3, (x4.fdiv 2).fmod 3, (x5.fdiv 2).fmod 3, (x6.fdiv 2).fmod 3, (x7.fdiv 2).fmod 3], _, o2, _, _, rfl, ?_, news_drop N3 (List.forall_mem_cons.mpr ⟨List.Mem.head _, ?_⟩), ?_, ?_, ?_, rfl, ?_, ?_⟩
      · assumption
      · intro p hp
        simp only [List.mem_cons] at hp ⊢
        rcases hp with hp | hp | hp <;> simp [hp]
      · assumption
      · exact ltN (by omega)
      · exact .cons _ _ (.cons _ _ (.cons _ _ (.cons _ _ (.cons _ _ (.cons _ _ (.cons _ _ (.cons _ _ .nil)))))))
      · intro y hy
        simp only [List.mem_cons, List.not_mem_nil, or_false] at hy
        omega
      · simpa using b0.2
  · rintro s' ⟨DK, vs, ks, n, oc, h2, tk2, rfl, F2, N2, hoc2, hDK, hks, hk8, hkb, hk0⟩
    k_lt2 hDK
    dsimp only [List.drop]
    refine cutE 1 (fun s' => ∃ (DG : Addr) (gs : List Int) (gv : List Value) (n2 : Nat) (h' : Heap) (tk' : Nat), s' = { s with heap := h', toks := tk' } ∧ Fr g Lf h' (fun y : Str => if y = Str.ofString "gates" then some (.ref DG) else if y = Str.ofString "sums" then some (.ref l) else none) ∧
      News g Lf h' ((DG, listOf gv.toArray n2) :: (DK, listOf vs.toArray n) :: (Lf + 1, oc) :: (l, listOf #[.int x0 t0, .int x1 t1, .int x2 t2, .int x3 t3, .int x4 t4, .int x5 t5, .int x6 t6, .int x7 t7] kc) :: news) ∧ DG ≠ DK ∧ IntsAre gv gs ∧ gs = ((List.range 8).filter (fun k => ks.getD k 0 == 2)).map Int.ofNat) ?_ ?_
    · dsimp only [List.take]
      repeat' ((fail_if_success (with_reducible show Hold _)); (fail_if_success (with_reducible show wpAny _ _ (eval (Expr.ListComp _ _ _ _) _) _ _ _)); (fail_if_success (with_reducible show wpAny _ _ (exec (Stmt.Assign _ (Expr.ListComp _ _ _ _) _) _) _ _ _)); (first | (k_unfold; (try dsimp only)) | (k_end; wrow_close) | walk1 | (dsimp only; walk1) | (leave1; walk_say "STEP leave1"; try dsimp only) | fail "no step"))
      k_dflt (refine LCt.Assign_ListComp_T (F₀ := by k_asm) (by rfl) (by with_unfolding_all rfl) (by with_unfolding_all rfl) (by decide) (by rfl) (by decide) (by rfl) (by rfl) (by rfl) ?_)
      repeat' ((fail_if_success (with_reducible show Hold _)); (fail_if_success (with_reducible show LCt.CompSrcT _ _ _ _ _ _ _ _ _ _ _ _ _ _ _)); (first | (k_unfold; (try dsimp only)) | (k_end; wrow_close) | walk1 | (dsimp only; walk1) | (leave1; walk_say "STEP leave1"; try dsimp only) | fail "no step"))
      k_dflt (refine LCt.CompSrcT.range (n := 8) (by rfl) (by k_asm) (by k_asm) (by assumption) (by decide) (by rfl) (by exact Nat.le_of_ble_eq_true rfl) ?_)
      intro g1
      refine comp_restT (fun i ys => IntsAre ys (((List.range i).filter (fun k => ks.getD k 0 == 2)).map Int.ofNat)) .nil ?_ ?_
      · rintro i v I oI C oC D m2 ys h3 tk3 E2 hi ⟨tv, rfl⟩ hinv hC hx F3 N3 off3 ne3
        have hi2 : (0 : Int) + (i : Int) = (i : Int) := by omega
        rw [hi2] at hx
        have hlenvs := IntsAre.length hks
        repeat' ((fail_if_success (with_reducible show Hold _)); (fail_if_success (with_reducible show LCg.CompEnd _ _ _ _ _ _ _ _ _ _ _ _ _ _)); (first | (k_unfold; (try dsimp only)) | (k_end; wrow_close) | walk1 | (dsimp only; walk1) | (leave1; walk_say "STEP leave1"; try dsimp only) | fail "no step"))
        · exact LCg.CompEnd.intro F3 N3 _ (fun p hp => hp) off3 trivial ⟨rfl, gates_T hinv (by assumption)⟩
        · exact LCg.CompEnd.intro F3 N3 _ (fun p hp => hp) off3 trivial ⟨rfl, gates_F hinv (by assumption)⟩
      · intro ys hys
        intro DG h3 tk3 F3 N3 off3
        simp only [LCg.Off1] at off3
        dsimp only
        repeat' ((fail_if_success (with_reducible show Hold _)); (first | (k_unfold; (try dsimp only)) | (k_end; wrow_close) | walk1 | (dsimp only; walk1) | (leave1; walk_say "STEP leave1"; try dsimp only) | fail "no step"))
        exact ⟨rfl, DG, _, ys, _, _, _, rfl, F3, N3, Ne.symm off3.1, hys, rfl⟩
    · rintro s' ⟨DG, gs, gv, n2, h3, tk3, rfl, F3, N3, hDG, hgv, hgs⟩
      dsimp only [List.drop]
      have hgb : ∀ y ∈ gs, 0 ≤ y ∧ y < 8 := by
        intro y hy
        rw [hgs] at hy
        simp only [List.mem_map, List.mem_filter, List.mem_range] at hy
        obtain ⟨k, ⟨hk1, _⟩, rfl⟩ := hy
        simp only [Int.ofNat_eq_coe]; omega
      have hgl : gs.length ≤ 8 := by rw [hgs, List.length_map]; exact List.length_filter_le _ _
      have hlenvs := IntsAre.length hks
      have hlengv := IntsAre.length hgv
      have htw : gs.length = (ks.filter (· == 2)).length := by rw [hgs, List.length_map, ← hk8, twos_len]
      have hlast : gs.length ≠ 0 → gs.getD (-1 + (gs.length : Int)).toNat 0 ∈ gs := by
        intro h0
        have hlt : (-1 + (gs.length : Int)).toNat < gs.length := by omega
        simp only [List.getD, List.getElem?_eq_getElem hlt, Option.getD_some]
        exact List.getElem_mem hlt
      have hpick : ∀ y ∈ gs, ks.getD y.toNat 0 = 2 := by
        intro y hy
        rw [hgs] at hy
        simp only [List.mem_map, List.mem_filter, List.mem_range] at hy
        obtain ⟨k, ⟨_, hk2⟩, rfl⟩ := hy
        simpa using hk2
      repeat' ((fail_if_success (with_reducible show Hold _)); (fail_if_success (with_reducible show wpAny _ _ (setItem _ _ _) _ _ _)); (first | (k_unfold; (try dsimp only)) | (k_end; wrow_close) | walk1 | (dsimp only; walk1) | (leave1; walk_say "STEP leave1"; try dsimp only) | fail "no step"))
      · rename (gs.length : Int).fmod 2 = 1 => hodd
        have h0 : gs.length ≠ 0 := by intro e; rw [e] at hodd; exact absurd hodd (by decide)
        have hmem := hlast h0
        have hb := hgb _ hmem
        have hp := hpick _ hmem
        generalize gs.getD (-1 + (gs.length : Int)).toNat 0 = idx at *
        repeat' ((fail_if_success (with_reducible show Hold _)); (first | (k_unfold; (try dsimp only)) | (k_end; wrow_close) | walk1 | (dsimp only; walk1) | (leave1; walk_say "STEP leave1"; try dsimp only) | fail "no step"))
        rename News h₀ L _ _ => kN9
        have hfe : (gs.length : Int).fmod 2 = (gs.length : Int) % 2 := Int.fmod_eq_emod_of_nonneg _ (by decide)
        have hcut := twos_set ks idx.toNat hp
        refine hret DK _ (ks.set idx.toNat 1) n _ _ (by assumption) (news_drop kN9 ?_) (ltN (by omega)) (fun p hp => Nat.lt_trans (hnw p hp) (ltN (by omega))) (by assumption) (by rw [List.length_set, hk8]) (set_bounds hkb) (set_zero hk0) (by omega)
        intro p hp
        simp only [List.mem_cons] at hp ⊢
        rcases hp with hp | hp | hp <;> simp [hp]
      · rename (gs.length : Int).fmod 2 ≠ 1 => heven
        rename News h₀ L _ _ => kN9
        have hpar := fmod2 (gs.length : Int)
        have hfe : (gs.length : Int).fmod 2 = (gs.length : Int) % 2 := Int.fmod_eq_emod_of_nonneg _ (by decide)
        refine hret DK vs ks n _ _ (by assumption) (news_drop kN9 ?_) (ltN (by omega)) (fun p hp => Nat.lt_trans (hnw p hp) (ltN (by omega))) hks hk8 hkb hk0 (by rw [← htw]; omega)
        intro p hp
        simp only [List.mem_cons] at hp ⊢
        rcases hp with hp | hp | hp <;> simp [hp]
end Mine
end PartKinds

section PartPlainLev
open PySem.W PyProof.Rows in
theorem Mine.cleanPlainLev : (1 : Nat) = 1 := by
  (w_on; w_top off; k_with_none)
  first | walk1 | rfl
open PySem PySem.W PyProof.Rows
namespace Mine
/-- the price between places of a ring -/
noncomputable def subI (x y : Nat) : Int := bif Nat.beq x y then 0 else 2
noncomputable def cellsI (y : Nat) : List Nat → List Int → Int → Int → Int → List Int × Int × Int
  | x :: xs, r :: rs, d, res, mn =>
    let res' := pmin (pmin res r + 2) (d + subI y x)
    let o := cellsI y xs rs r res' (if res' < mn then res' else mn)
    (res' :: o.1, o.2)
  | _, _, _, res, mn => ([], res, mn)
noncomputable def rowsI (a : List Nat) (c : Int) : List Nat → Int → List Int → Int → Int
  | [], _, _, res => res
  | y :: ys, k, row, _ =>
    let o := cellsI y a row (k * 2) (k * 2) 9223372036854775807
    if o.2.2 > c then c + 1 else rowsI a c ys (k + 1) o.1 o.2.1
noncomputable def lev3I (a b : List Nat) (c : Int) : Int :=
  if ((b.length : Int) - a.length) * 2 > c then c + 1 else rowsI a c b 0 (row0 a.length) 0
noncomputable def lev2I (a b : List Nat) (c : Int) : Int :=
  if a.length = 0 ∨ b.length = 0 then 2 * ((a.length : Int) + b.length)
  else if b.length < a.length then lev3I b a c else lev3I a b c
noncomputable def lev1I (a b : List Nat) (c : Int) : Int := lev2I (postCut a b) (postCut b a) c
noncomputable def levI (a b : List Nat) (c : Int) : Int :=
  if a = b then 0 else lev1I (a.drop (preLen a b)) (b.drop (preLen a b)) c
noncomputable def toldI (a b : List Nat) (p : Int) : Bool := decide (levI a b p = p) && decide (levI b a (p - 1) = p)
noncomputable def fwd (size steps : Nat) : List Nat := (List.range steps).map (· % size)
noncomputable def bwd (size steps e : Nat) : List Nat := (List.range steps).map (fun i => (size - (i + e) % size) % size)
noncomputable def alg (size steps e : Nat) : List Nat := (List.range steps).map (fun i => (i + e) % size)
/-- the price asked of two who go opposite ways -/
noncomputable def mtsE (size e : Nat) : Nat → Nat
  | 0 => 0
  | n + 1 => mtsE size e n + (bif Nat.beq ((2 * n + e) % size) 0 then 1 else 0)
noncomputable def chgE (size e : Nat) : Nat → Nat
  | 0 => 0
  | n + 1 => chgE size e n + (bif Nat.ble 1 n && Nat.beq ((2 * n + e + size - 1) % size) 0 then 1 else 0)
noncomputable def oppE (size steps e : Nat) : Int := 2 * (steps : Int) - 2 * (if (mtsE size e steps : Int) < (chgE size e steps : Int) - 1 then (chgE size e steps : Int) - 1 else (mtsE size e steps : Int))
noncomputable def oppOk (size : Nat) : Bool := (List.range 5).all fun t => (List.range size).all fun e => toldI (fwd size (t + 5)) (bwd size (t + 5) e) (oppE size (t + 5) e)
noncomputable def algP (size steps e : Nat) : Int := min (min (4 * (e : Int)) (4 * ((size : Int) - e))) (2 * steps)
noncomputable def algOk (size : Nat) : Bool := (List.range 5).all fun t => (List.range size).all fun e => toldI (fwd size (t + 5)) (alg size (t + 5) e) (algP size (t + 5) e)
theorem opp1 : oppOk 1 = true := by decide +kernel
theorem alg1 : algOk 1 = true := by decide +kernel
theorem opp2 : oppOk 2 = true := by decide +kernel
theorem alg2 : algOk 2 = true := by decide +kernel
theorem opp3 : oppOk 3 = true := by decide +kernel
theorem alg3 : algOk 3 = true := by decide +kernel
theorem opp4 : oppOk 4 = true := by decide +kernel
theorem alg4 : algOk 4 = true := by decide +kernel
theorem opp5 : oppOk 5 = true := by decide +kernel
theorem alg5 : algOk 5 = true := by decide +kernel
theorem opp6 : oppOk 6 = true := by decide +kernel
theorem alg6 : algOk 6 = true := by decide +kernel
theorem opp7 : oppOk 7 = true := by decide +kernel
theorem alg7 : algOk 7 = true := by decide +kernel
theorem opp8 : oppOk 8 = true := by decide +kernel
theorem alg8 : algOk 8 = true := by decide +kernel
end Mine
end PartPlainLev

section PartLevMap
open PySem.W PyProof.Rows in
theorem Mine.cleanLevMap : (1 : Nat) = 1 := by
  (w_on; w_top off; k_with_none)
  first | walk1 | rfl
open PySem PySem.W PyProof.Rows
namespace Mine
section
variable {f : Nat → Nat} {N : Nat} (H : ∀ x y, x < N → y < N → sub (f x) (f y) = subI x y) (J : ∀ x y, x < N → y < N → f x = f y → x = y)
include H in
theorem cells_map {y : Nat} (hy : y < N) : ∀ (xs : List Nat) (rs : List Int) (d r mn : Int), (∀ x ∈ xs, x < N) → cells (f y) (xs.map f) rs d r mn = cellsI y xs rs d r mn
  | [], _, _, _, _, _ => by simp [cells, cellsI]
  | x :: xs, [], _, _, _, _ => by simp [cells, cellsI]
  | x :: xs, r :: rs, d, res, mn, h => by
    have hx : x < N := h x (List.mem_cons_self)
    have ih := fun (a b c : Int) => cells_map hy xs rs a b c (fun z hz => h z (List.mem_cons_of_mem _ hz))
    rw [List.map_cons]
    simp only [cells, cellsI, H y x hy hx, ih]
include H in
theorem rows_map {a : List Nat} (ha : ∀ x ∈ a, x < N) {c : Int} : ∀ (b : List Nat) (k : Int) (row : List Int) (res : Int), (∀ x ∈ b, x < N) → rows (a.map f) c (b.map f) k row res = rowsI a c b k row res
  | [], _, _, _, _ => by simp [rows, rowsI]
  | y :: ys, k, row, res, h => by
    have hy : y < N := h y (List.mem_cons_self)
    rw [List.map_cons]
    simp only [rows, rowsI, cells_map H hy a row _ _ _ ha]
    split
    · rfl
    · exact rows_map ha ys _ _ _ (fun z hz => h z (List.mem_cons_of_mem _ hz))
include H in
theorem lev3_map {a b : List Nat} (ha : ∀ x ∈ a, x < N) (hb : ∀ x ∈ b, x < N) {c : Int} : lev3 (a.map f) (b.map f) c = lev3I a b c := by
  unfold lev3 lev3I
  rw [List.length_map, List.length_map, rows_map H ha _ _ _ _ hb]
include H in
theorem lev2_map {a b : List Nat} (ha : ∀ x ∈ a, x < N) (hb : ∀ x ∈ b, x < N) {c : Int} : lev2 (a.map f) (b.map f) c = lev2I a b c := by
  unfold lev2 lev2I
  rw [List.length_map, List.length_map, lev3_map H ha hb, lev3_map H hb ha]
include J in
theorem preLen_map : ∀ (a b : List Nat), (∀ x ∈ a, x < N) → (∀ x ∈ b, x < N) → preLen (a.map f) (b.map f) = preLen a b
  | [], _, _, _ => by simp [preLen]
  | _ :: _, [], _, _ => by simp [preLen]
  | x :: xs, y :: ys, ha, hb => by
    have ih := preLen_map xs ys (fun z hz => ha z (List.mem_cons_of_mem _ hz)) (fun z hz => hb z (List.mem_cons_of_mem _ hz))
    rw [List.map_cons, List.map_cons]
    unfold preLen
    by_cases h : x = y
    · subst h; simp [ih]
    · rw [if_neg h, if_neg (fun e => h (J x y (ha x List.mem_cons_self) (hb y List.mem_cons_self) e))]
include J in
theorem postCut_map {a b : List Nat} (ha : ∀ x ∈ a, x < N) (hb : ∀ x ∈ b, x < N) : postCut (a.map f) (b.map f) = (postCut a b).map f := by
  unfold postCut
  rw [← List.map_reverse, ← List.map_reverse, preLen_map J _ _ (by simpa using ha) (by simpa using hb), List.length_map, List.map_take]
include H J in
theorem lev_map {a b : List Nat} (ha : ∀ x ∈ a, x < N) (hb : ∀ x ∈ b, x < N) {c : Int} : lev (a.map f) (b.map f) c = levI a b c := by
  have da : ∀ n, ∀ x ∈ a.drop n, x < N := fun n x hx => ha x (List.mem_of_mem_drop hx)
  have db : ∀ n, ∀ x ∈ b.drop n, x < N := fun n x hx => hb x (List.mem_of_mem_drop hx)
  have tk : ∀ {l m : List Nat}, (∀ x ∈ l, x < N) → ∀ x ∈ postCut l m, x < N := fun h x hx => h x (List.mem_of_mem_take hx)
  have hab : a.map f = b.map f ↔ a = b := by
    constructor
    · intro e
      have : ∀ (a b : List Nat), (∀ x ∈ a, x < N) → (∀ x ∈ b, x < N) → a.map f = b.map f → a = b := by
        intro a
        induction a with
        | nil => intro b _ _ e; cases b with
          | nil => rfl
          | cons => simp at e
        | cons x xs ih => intro b ha hb e; cases b with
          | nil => simp at e
          | cons y ys =>
            simp only [List.map_cons, List.cons.injEq] at e
            rw [J x y (ha x List.mem_cons_self) (hb y List.mem_cons_self) e.1, ih ys (fun z hz => ha z (List.mem_cons_of_mem _ hz)) (fun z hz => hb z (List.mem_cons_of_mem _ hz)) e.2]
      exact this a b ha hb e
    · intro e; rw [e]
  unfold lev levI lev1 lev1I
  by_cases e : a = b
  · rw [if_pos (hab.mpr e), if_pos e]
  · rw [if_neg (fun q => e (hab.mp q)), if_neg e, preLen_map J a b ha hb, ← List.map_drop, ← List.map_drop, postCut_map J (da _) (db _), postCut_map J (db _) (da _), lev2_map H (tk (da _)) (tk (db _))]
include H J in
theorem told_map {a b : List Nat} (ha : ∀ x ∈ a, x < N) (hb : ∀ x ∈ b, x < N) {p : Int} (h : toldI a b p = true) : told (a.map f) (b.map f) p = true := by
  simp only [toldI, Bool.and_eq_true, decide_eq_true_eq] at h
  unfold told
  rw [lev_map H J ha hb, lev_map H J hb ha, if_neg (by simpa using h.1)]
  simpa using h.2
end
end Mine
end PartLevMap

section PartCol
open PySem.W PyProof.Rows in
theorem Mine.cleanCol : (1 : Nat) = 1 := by
  (w_on; w_top off; k_with_none)
  first | walk1 | rfl
open PySem PySem.W PyProof.Rows PySem.Flt
namespace Mine
noncomputable def FF (a : Int) : UInt64 := Float64.ofFrac (decide (a < 0) != decide ((16 : Int) < 0)) a.natAbs (16 : Int).natAbs
noncomputable def shareK (k : Int) : UInt64 := if k = 2 then 4602678819172646912 else 4607182418800017408
noncomputable def levelK (k : Int) : UInt64 := if k = 1 then 4602678819172646912 else 4607182418800017408
noncomputable def lightK (k : Int) : UInt64 := if k = 0 then 4602678819172646912 else if k = 1 then 4598175219545276416 else 4604930618986332160
noncomputable def colOk (p : Int) (k : Int) : Bool :=
  let c := hsvF (FF p) (shareK k) (levelK k)
  hsvOk (FF p) (shareK k) && hlsOk c.1 c.2.1 c.2.2 && hlsOk c.1 c.2.2 c.2.1 &&
  (hlsH c.1 c.2.1 c.2.2 == FF p) && (hlsL c.1 c.2.1 c.2.2 == lightK k) && (hlsS c.1 c.2.1 c.2.2 == 4607182418800017408) &&
  (hlsH c.1 c.2.2 c.2.1 == FF ((16 - p).fmod 16)) && (hlsL c.1 c.2.2 c.2.1 == lightK k) && (hlsS c.1 c.2.2 c.2.1 == 4607182418800017408)
noncomputable def colAll : Bool := (List.range 16).all fun p => (List.range 3).all fun k => colOk p k
set_option maxRecDepth 100000 in
theorem colAll_true : colAll = true := by decide +kernel
theorem col_ok {p k : Int} (hp : 0 ≤ p ∧ p < 16) (hk : 0 ≤ k ∧ k < 3) : colOk p k = true := by
  have h := colAll_true
  unfold colAll at h
  rw [List.all_eq_true] at h
  have h1 := h p.toNat (by rw [List.mem_range]; omega)
  rw [List.all_eq_true] at h1
  have h2 := h1 k.toNat (by rw [List.mem_range]; omega)
  rw [Int.toNat_of_nonneg hp.1, Int.toNat_of_nonneg hk.1] at h2
  exact h2
end Mine
end PartCol

section PartLoop
open PySem.W PyProof.Rows in
theorem Mine.cleanLoop : (1 : Nat) = 1 := by
  (w_on; w_top off; k_with_none)
  first | walk1 | rfl
open PySem PySem.W PyProof.Rows PySem.Spec PySem.Calls
namespace Mine
section
variable {prog : Program} {w : World} {A : Around} {E : Value → Shared → Prop} {s : Shared} {env : Env} {h₀ : Heap} {x : Str} {body : List Stmt} {Q : Flow → Shared → Prop}
/-- the end of a turn: any frame, any ledger that meets J; what the loop walks (own) stands -/
noncomputable def TurnEnd (h₀ : Heap) (L I : Addr) (own : List (Addr × Obj)) (Jn : (Str → Option Value) → List (Addr × Obj) → Prop) (s₁ : Shared) (s₂ : Shared) : Prop :=
  ∃ h' tk m₂ news₂, s₂ = { s₁ with heap := h', toks := tk } ∧ Fr h₀ L h' m₂ ∧ News h₀ L h' (own ++ news₂) ∧ (∀ p ∈ news₂, p.1 ≠ I) ∧ Jn m₂ news₂
/-- a for over a made list of ints, by an invariant over the turn's number, the frame and the ledger (which may grow) -/
theorem for_ints {l : Addr} {vs : List Value} {ns : List Int} {nn : Nat} {m₀ : Str → Option Value} {news all : List (Addr × Obj)} (J : Nat → (Str → Option Value) → List (Addr × Obj) → Prop)
    (hh : A.handled = none) (N0 : News h₀ env.locals s.heap all) (hl : (l, listOf vs.toArray nn) ∈ all) (hi : IntsAre vs ns) (F : Fr h₀ env.locals s.heap m₀) (hs : ∀ p ∈ news, p ∈ all) (hj : J 0 m₀ news)
    (turn : ∀ i n t m₁ news₁ h tk I oI oL, ns[i]? = some n → (@Ne Nat I l) → (∀ p ∈ news₁, p.1 ≠ I) → J i m₁ news₁ → Fr h₀ env.locals h (fun y => if y = x then some (.int n t) else m₁ y) → News h₀ env.locals h ((I, oI) :: (l, oL) :: news₁) →
      wpAny (model prog w) A (execs body env) (fun f s₂ => match f with
        | .ret v => Q (.ret v) s₂
        | .brk => Q .next s₂
        | _ => Hold (TurnEnd h₀ env.locals I [(I, oI), (l, oL)] (J (i + 1)) { s with heap := h, toks := tk } s₂)) E { s with heap := h, toks := tk })
    (done : ∀ m₁ news₁ h tk, J ns.length m₁ news₁ → Fr h₀ env.locals h m₁ → News h₀ env.locals h news₁ → Q .next { s with heap := h, toks := tk }) :
    wpAny (model prog w) A (pyIter (.ref l)) (fun it s₂ => LoopAtV prog w A h₀ env x body Q E it s₂) E s := by
  have hol : s.heap.get? l = some (listOf vs.toArray nn) := (N0 _ hl).1
  have hls : s.heap.IsList l vs.toArray := ⟨_, hol, rfl, nn, rfl⟩
  have hne : l ≠ s.heap.objs.size := Nat.ne_of_lt (Heap.lt_size hol)
  have N : News h₀ env.locals s.heap news := fun p hp => N0 p (hs p hp)
  refine wpAny_pyIter_list hls ?_
  have W := Walks.list (prog := prog) (w := w) hh s.heap.objs.size l hne vs.toArray
  have hlen : vs.toArray.size = ns.length := by simp [hi.length]
  rw [hlen] at W
  refine ⟨_, _, _, ns.length, _, _, m₀, news, J, rfl, W, ?_, ?_, ?_, ⟨⟨_, Heap.get?_push_size _ rfl, rfl, rfl⟩, hls.at fun o e => Heap.get?_push_of_some _ e⟩, F.push _, (fun p hp => ⟨Heap.get?_push_of_some _ (N p hp).1, (N p hp).2⟩), hj, ?_, ?_⟩
  · intro hm
    rcases List.mem_cons.mp hm with e | hm
    · exact absurd F.ns.lt (e ▸ Nat.lt_irrefl _)
    · exact (N0 _ hl).2.1 ((List.mem_singleton.mp hm).symm)
  · intro b hb
    rw [List.mem_singleton.mp hb]
    exact next_is_new F
  · intro p hp hI
    exact absurd (Heap.lt_size (N p hp).1) ((List.mem_singleton.mp hI) ▸ Nat.lt_irrefl _)
  · rintro i v m₁ news₁ s₁ own ⟨hh', tk', rfl⟩ hin hP hJ hoff hown hget hfp hst F₁ N₁
    have hlt' : i < ns.length := hin
    obtain ⟨t, hx⟩ := hi.get i ns[i] (by simp [hlt'])
    have hv : v = .int ns[i] t := by
      have hP' : vs[i]? = some v := by simpa using hP
      rw [hx] at hP'; exact (Option.some.inj hP').symm
    subst hv
    obtain ⟨⟨oI, eI, _⟩, ⟨oL, eL, dL, nL, cL⟩⟩ := id hst
    have hI : (s.heap.objs.size, oI) ∈ own := hfp _ (List.mem_cons_self) (next_is_new F) oI eI
    have hL0 := hfp _ (List.mem_cons_of_mem _ (List.mem_singleton.mpr rfl)) (N0 _ hl).2.2 oL eL
    have N₂ : News h₀ env.locals hh' ((s.heap.objs.size, oI) :: (l, oL) :: news₁) := by
      intro p hp
      rcases List.mem_cons.mp hp with rfl | hp
      · exact N₁ _ (List.mem_append_left _ hI)
      · rcases List.mem_cons.mp hp with rfl | hp
        · exact N₁ _ (List.mem_append_left _ hL0)
        · exact N₁ _ (List.mem_append_right _ hp)
    have hown2 : ∀ p ∈ own, p = (s.heap.objs.size, oI) ∨ p = (l, oL) := by
      rintro ⟨a, o⟩ hp
      have hg := (N₁ _ (List.mem_append_left _ hp)).1
      rcases List.mem_cons.mp (hown _ hp) with e | e
      · have e : a = s.heap.objs.size := e
        subst e
        left; rw [Prod.mk.injEq]; exact ⟨rfl, Option.some.inj (hg.symm.trans eI)⟩
      · have e : a = l := List.mem_singleton.mp e
        subst e
        right; rw [Prod.mk.injEq]; exact ⟨rfl, Option.some.inj (hg.symm.trans eL)⟩
    refine wpAny_mono (turn i ns[i] t m₁ news₁ hh' tk' s.heap.objs.size oI oL (by simp [hlt']) (fun e => hne e.symm) (fun p hp e => hoff p hp (List.mem_singleton.mpr e)) hJ F₁ N₂) (fun f s₂ p => ?_) fun _ _ e => e
    · have up : TurnEnd h₀ env.locals s.heap.objs.size [(s.heap.objs.size, oI), (l, oL)] (J (i + 1)) { s with heap := hh', toks := tk' } s₂ → LoopStepU h₀ env.locals [s.heap.objs.size] own (J (i + 1)) { s with heap := hh', toks := tk' } .next s₂ := by
        rintro ⟨h', tk, m₂, news₂, e, F', N', ho, hj'⟩
        have N'' : News h₀ env.locals h' (own ++ news₂) := by
          intro p hp
          rcases List.mem_append.mp hp with hp | hp
          · rcases hown2 p hp with rfl | rfl
            · exact N' _ (List.mem_cons_self)
            · exact N' _ (List.mem_cons_of_mem _ (List.mem_cons_self))
          · exact N' _ (List.mem_cons_of_mem _ (List.mem_cons_of_mem _ hp))
        exact ⟨rfl, h', tk, m₂, news₂, e, F', N'', fun p hp hq => ho p hp (List.mem_singleton.mp hq), hj'⟩
      cases f with
      | ret v => exact .ret p
      | brk => exact .brk p
      | next => exact .next (up p)
      | cont => exact .cont (up p)
  · rintro h' tk m' news' F' N' _ hJ
    exact done m' news' h' tk hJ F' N'
end
end Mine
end PartLoop

section PartFCmp
open PySem.W PyProof.Rows in
theorem Mine.cleanFCmp : (1 : Nat) = 1 := by
  (w_on; w_top off; k_with_none)
  first | walk1 | rfl
open PySem PySem.W PyProof.Rows PySem.Spec PySem.Calls PySem.Flt
namespace Mine
theorem booked {K : Frag} {h₀ h : Heap} {L : Addr} {m : Str → Option Value} (F : Fr h₀ L h m) (X₀ : K.In h₀) (hK : K.lookup cStatics = some ⟨Value.none, none, .dict #[], #[]⟩) : NoneBooked h :=
  ⟨fun _ => none, ⟨_, #[], 0, (X₀.keeps F.keep) _ _ hK, rfl, fun _ h => by simp at h, fun _ => rfl⟩, rfl⟩
theorem isSame_float {M : Model} {A : Around} {E : Value → Shared → Prop} {s : Shared} {y z : UInt64} {u v : Nat} {Q : Bool → Shared → Prop}
    (h0 : TkP u) (h1 : TkP v) (hb : NoneBooked s.heap) (hq : ∀ b, (b = true → u = v ∨ y = z) → Q b s) : wpAny M A (isSame (.float y u) (.float z v)) Q E s := by
  show wpAny M A (isSame.created (y == z && !Float64.isNaN y) u v) Q E s
  unfold isSame.created
  have h0' : (u == 0 || v == 0) = false := by
    unfold TkP at h0 h1
    rw [Bool.or_eq_false_iff, beq_eq_false_iff_ne, beq_eq_false_iff_ne]; omega
  refine wpAny_ite ?_
  split
  · rename_i h; rw [h0'] at h; exact absurd h Bool.false_ne_true
  refine wpAny_ite ?_
  split
  · rename_i h; exact wpAny_pure (hq _ fun _ => .inl (by simpa using h))
  refine wpAny_ite ?_
  split
  · exact wpAny_pure (hq _ fun e => by cases e)
  rename_i _ _ hc
  have hyz : y = z := by
    simp only [Bool.not_eq_true', Bool.not_eq_false] at hc
    rw [Bool.and_eq_true] at hc
    simpa using hc.1
  refine wpAny_bind (wpAny_sharingNotTold_none hb ?_)
  first | rw [if_neg Bool.false_ne_true] | simp only [Bool.false_eq_true, if_false]
  refine wpAny_bind (wpAny_sharingNotTold_none hb ?_)
  first | rw [if_neg Bool.false_ne_true] | simp only [Bool.false_eq_true, if_false]
  exact wpAny_bind (wpAny_rule (wpAny_bind (wpAny_askSetting (wpAny_pure (hq _ fun _ => .inr hyz)))))
/-- equal floats -/
theorem eqAt_float {A : Around} {s : Shared} {a b : UInt64} {t u : Nat} (hb : NoneBooked s.heap) (ht : TkP t) (hu : TkP u) (h : eqF a b = true) : SeqAt.EqAt A s (.float a t) (.float b u) true := fun prog w E Q hq => by
  unfold eqBool
  refine wpAny_holding ?_
  refine wpAny_ite_split (fun _ => ?_) (fun _ => ?_)
  · exact wpAny_bind (wpAny_rule (wpAny_pure hq))
  · refine wpAny_bind (isSame_float ht hu hb fun c _ => ?_)
    cases c
    · refine wpAny_bind (AutoFloatOps.eq_0 (wpAny_truthy_bool ?_))
      have e : (Float64.cmp a b == some Ordering.eq) = true := h
      rw [e]; exact hq
    · exact wpAny_pure hq
/-- floats that differ, made apart -/
theorem eqAt_float_ne {A : Around} {s : Shared} {a b : UInt64} {t u : Nat} (hb : NoneBooked s.heap) (ht : TkP t) (hu : TkP u) (htu : t ≠ u) (h : eqF a b = false) (hne : a ≠ b) : SeqAt.EqAt A s (.float a t) (.float b u) false := fun prog w E Q hq => by
  unfold eqBool
  refine wpAny_holding ?_
  refine wpAny_ite_split (fun hab => absurd (by have := eq_of_beq hab; injection this) hne) (fun _ => ?_)
  refine wpAny_bind (isSame_float ht hu hb fun c hc => ?_)
  cases c
  · refine wpAny_bind (AutoFloatOps.eq_0 (wpAny_truthy_bool ?_))
    have e : (Float64.cmp a b == some Ordering.eq) = false := h
    rw [e]; exact hq
  · exact absurd (hc rfl) (fun e => e.elim htu hne)
section
variable {prog : Program} {w : World} {A : Around} {E : Value → Shared → Prop} {s : Shared} {Q : Value → Shared → Prop}
theorem ne_tup3 {l b : Addr} {x y z x' y' z' : UInt64} {t1 t2 t3 u1 u2 u3 : Nat} (nb : NoneBooked s.heap) (hl : s.heap.get? l = some (tup3 x y z t1 t2 t3)) (hb : s.heap.get? b = some (tup3 x' y' z' u1 u2 u3)) (hu : A.units < cLine)
    (p1 : TkP t1) (p2 : TkP t2) (p3 : TkP t3) (q1 : TkP u1) (q2 : TkP u2) (q3 : TkP u3)
    (h1 : eqF x x' = true) (h2 : eqF y y' = true) (h3 : eqF z z' = true) (h : Q (.bool false) s) : wpAny (model prog w) A (compareOp .NotEq (.ref l) (.ref b)) Q E s := by
  refine EqBoolInt.of_rcne (SeqAt.RcNeAt.tuples (e := fun _ => true) (items := #[.float x t1, .float y t2, .float z t3]) (items2 := #[.float x' u1, .float y' u2, .float z' u3]) ⟨_, hl, rfl, _, rfl⟩ ⟨_, hb, rfl, _, rfl⟩ hu ?_) h
  intro j j1 j2
  match j, j1 with
  | 0, _ => exact eqAt_float nb p1 q1 h1
  | 1, _ => exact eqAt_float nb p2 q2 h2
  | 2, _ => exact eqAt_float nb p3 q3 h3
  | n + 3, hn => exact absurd hn (by simp)
end
section
variable {prog : Program} {w : World} {A : Around} {E : Value → Shared → Prop} {s : Shared} {Q : Value → Shared → Prop}
theorem item_t0 {value slice : Expr} {a : Addr} {u : Tok} {x y z : UInt64} {t1 t2 t3 : Tok} (hg : s.heap.get? a = some (tup3 x y z t1 t2 t3)) (h : Q (.float x t1) s)
    (hs : subscripted slice false (.ref a) (.int 0 u) = operate [.ref a, .int 0 u] (getItem (.ref a) (.int 0 u)) := by with_unfolding_all rfl) (hl : ∀ r, letTemporaryGo value (.ref a) r = pure () := by intro _; with_unfolding_all rfl) :
    wpAny (model prog w) A (subscriptTail value slice (.ref a) (.int 0 u)) Q E s :=
  item_tuple (items := #[.float x t1, .float y t2, .float z t3]) (j := 0) ⟨_, hg, rfl, _, rfl⟩ (by decide) (by decide) rfl rfl h hs hl
theorem item_t1 {value slice : Expr} {a : Addr} {u : Tok} {x y z : UInt64} {t1 t2 t3 : Tok} (hg : s.heap.get? a = some (tup3 x y z t1 t2 t3)) (h : Q (.float y t2) s)
    (hs : subscripted slice false (.ref a) (.int 1 u) = operate [.ref a, .int 1 u] (getItem (.ref a) (.int 1 u)) := by with_unfolding_all rfl) (hl : ∀ r, letTemporaryGo value (.ref a) r = pure () := by intro _; with_unfolding_all rfl) :
    wpAny (model prog w) A (subscriptTail value slice (.ref a) (.int 1 u)) Q E s :=
  item_tuple (items := #[.float x t1, .float y t2, .float z t3]) (j := 1) ⟨_, hg, rfl, _, rfl⟩ (by decide) (by decide) rfl rfl h hs hl
end
/-- the places of the wheel, as floats -/
noncomputable def ffAll : Bool := (List.range 16).all fun p => (eqF (FF p) (FF p) && !Float64.isInf (FF p) && (Flt.toInt Float64.truncOf (Float64.mul (FF p) (Float64.ofInt 16)) == (p : Int)) && (!Float64.isNaN (Float64.mul (FF p) (Float64.ofInt 16)) && !Float64.isInf (Float64.mul (FF p) (Float64.ofInt 16)))) && (List.range 16).all fun q => (p == q) || (!eqF (FF p) (FF q) && (FF p != FF q) && ((Float64.cmp (FF p) (FF q) == some Ordering.lt) == decide (p < q)))
set_option maxRecDepth 100000 in
theorem ffAll_true : ffAll = true := by decide +kernel
theorem ff_one {p : Int} (hp : 0 ≤ p ∧ p < 16) : eqF (FF p) (FF p) = true ∧ Float64.isInf (FF p) = false ∧ Flt.toInt Float64.truncOf (Float64.mul (FF p) (Float64.ofInt 16)) = p ∧ Float64.isNaN (Float64.mul (FF p) (Float64.ofInt 16)) = false ∧ Float64.isInf (Float64.mul (FF p) (Float64.ofInt 16)) = false := by
  have h := ffAll_true
  unfold ffAll at h
  rw [List.all_eq_true] at h
  have h1 := h p.toNat (by rw [List.mem_range]; omega)
  rw [Bool.and_eq_true] at h1
  have h2 := h1.1
  clear h h1
  rw [Int.toNat_of_nonneg hp.1] at h2
  simp only [Bool.and_eq_true, Bool.not_eq_true', beq_iff_eq] at h2
  exact ⟨h2.1.1.1, h2.1.1.2, h2.1.2, h2.2.1, h2.2.2⟩
theorem ff_eq {p : Int} (hp : 0 ≤ p ∧ p < 16) : eqF (FF p) (FF p) = true := (ff_one hp).1
theorem ff_inf {p : Int} (hp : 0 ≤ p ∧ p < 16) : ¬ Float64.isInf (FF p) = true := by rw [(ff_one hp).2.1]; exact Bool.false_ne_true
theorem ff_int {p : Int} (hp : 0 ≤ p ∧ p < 16) : Flt.toInt Float64.truncOf (Float64.mul (FF p) (Float64.ofInt 16)) = p := (ff_one hp).2.2.1
theorem ff_fin {p : Int} (hp : 0 ≤ p ∧ p < 16) : Float64.isNaN (Float64.mul (FF p) (Float64.ofInt 16)) = false ∧ Float64.isInf (Float64.mul (FF p) (Float64.ofInt 16)) = false := (ff_one hp).2.2.2
section
variable {prog : Program} {w : World} {A : Around} {E : Value → Shared → Prop} {s : Shared} {Q : Value → Shared → Prop}
theorem int_ff {p : Int} {t : Tok} (hp : 0 ≤ p ∧ p < 16) (hA : A.handled = none) (h : Q (.int p s.toks) { s with toks := s.toks + 1 }) : wpAny (model prog w) A (call (.type "int") [.float (Float64.mul (FF p) (Float64.ofInt 16)) t]) Q E s := by
  have hf := ff_fin hp
  refine call_int_float3 hA (fun e => ?_) (fun e => ?_) (fun _ => ?_)
  · rw [hf.1] at e; cases e
  · rw [hf.2] at e; cases e
  · rw [ff_int hp]; exact h
theorem lt_yes {a b : UInt64} {t u : Tok} (hc : (Float64.cmp a b == some Ordering.lt) = true) (h : Q (.bool true) s) : wpAny (model prog w) A (compareOp .Lt (.float a t) (.float b u)) Q E s := AutoFloatOps.lt_0 (by rw [hc]; exact h)
theorem lt_no {a b : UInt64} {t u : Tok} (hc : (Float64.cmp a b == some Ordering.lt) = false) (h : Q (.bool false) s) : wpAny (model prog w) A (compareOp .Lt (.float a t) (.float b u)) Q E s := AutoFloatOps.lt_0 (by rw [hc]; exact h)
theorem gt_yes {a b : UInt64} {t u : Tok} (hc : (Float64.cmp a b == some Ordering.gt) = true) (h : Q (.bool true) s) : wpAny (model prog w) A (compareOp .Gt (.float a t) (.float b u)) Q E s := AutoFloatOps.gt_0 (by rw [hc]; exact h)
theorem gt_no {a b : UInt64} {t u : Tok} (hc : (Float64.cmp a b == some Ordering.gt) = false) (h : Q (.bool false) s) : wpAny (model prog w) A (compareOp .Gt (.float a t) (.float b u)) Q E s := AutoFloatOps.gt_0 (by rw [hc]; exact h)
end
theorem mir_b {p : Int} : 0 ≤ (16 - p).fmod 16 ∧ (16 - p).fmod 16 < 16 := ⟨Int.fmod_nonneg_of_pos _ (by decide), Int.fmod_lt_of_pos _ (by decide)⟩
theorem ff_ne {p q : Int} (hp : 0 ≤ p ∧ p < 16) (hq : 0 ≤ q ∧ q < 16) (hne : p ≠ q) : eqF (FF p) (FF q) = false ∧ FF p ≠ FF q ∧ (Float64.cmp (FF p) (FF q) == some Ordering.lt) = decide (p < q) := by
  have h := ffAll_true
  unfold ffAll at h
  rw [List.all_eq_true] at h
  have h1 := h p.toNat (by rw [List.mem_range]; omega)
  rw [Bool.and_eq_true] at h1
  have h2 := h1.2
  rw [List.all_eq_true] at h2
  have h3 := h2 q.toNat (by rw [List.mem_range]; omega)
  rw [Int.toNat_of_nonneg hp.1, Int.toNat_of_nonneg hq.1] at h3
  have hn : (p.toNat == q.toNat) = false := by
    rw [beq_eq_false_iff_ne]; omega
  rw [hn, Bool.false_or, Bool.and_eq_true, Bool.and_eq_true, Bool.not_eq_true', bne_iff_ne, beq_iff_eq] at h3
  refine ⟨h3.1.1, h3.1.2, ?_⟩
  rw [h3.2]
  have : (p.toNat < q.toNat) ↔ (p < q) := by omega
  exact decide_eq_decide.mpr this
end Mine
end PartFCmp

section PartLoop2
open PySem.W PyProof.Rows in
theorem Mine.cleanLoop2 : (1 : Nat) = 1 := by
  (w_on; w_top off; k_with_none)
  first | walk1 | rfl
open PySem PySem.W PyProof.Rows PySem.Spec PySem.Calls
namespace Mine
section
variable {prog : Program} {w : World} {A : Around} {E : Value → Shared → Prop} {s : Shared} {env : Env} {h₀ : Heap} {Q : Flow → Shared → Prop}
/-- a for, by any word of the whole state with a measure -/
theorem for_any {target : Expr} {it : Value} {body : List Stmt} (I : Nat → Shared → Prop) (hE : PassesOwn (model prog w) A env E)
    (turn : ∀ n s, I n s → wpAny (model prog w) A (pyNext it) (fun r s₁ => match r with
      | none => Q .next s₁
      | some v => wpAny (model prog w) A (letOwnedTupleGo target it v) (fun _ s₁' => wpAny (model prog w) A (assign target env v) (fun _ s₂ => wpAny (model prog w) A (execs body env) (fun f s₃ => match f with
            | .next | .cont => ∃ m, m < n ∧ I m s₃
            | .brk => Q .next s₃
            | .ret v => Q (.ret v) s₃) E s₂) E s₁') E s₁) E s)
    (n : Nat) (h : I n s) : codeAny (model prog w) A (.forLoop target it body [] env) (fun r s' => match r with | .ok f => Q f s' | .error e => cameBackBy (model prog w) A env E e s') s := by
  refine codeAny_forLoop_any I (fun n s hI => ?_) n h
  refine wpAny_passesOwn hE (wpAny_mono (turn n s hI) (fun r s₁ h₁ => ?_) fun _ _ x => x)
  cases r with
  | none => exact wpAny_execs_nil h₁
  | some v =>
    refine wpAny_passesOwn hE (wpAny_mono h₁ (fun _ s₂ h₂ => ?_) fun _ _ x => x)
    refine wpAny_passesOwn hE (wpAny_mono h₂ (fun _ s₃ h₃ => ?_) fun _ _ x => x)
    refine wpAny_passesOwn hE (wpAny_mono h₃ (fun f s₄ h₄ => ?_) fun _ _ x => x)
    cases f <;> exact h₄
noncomputable def TurnEnd2 (h₀ : Heap) (L I : Addr) (own : List (Addr × Obj)) (Jn : Nat → (Str → Option Value) → List (Addr × Obj) → Prop) (s₁ : Shared) (s₂ : Shared) : Prop :=
  ∃ h' tk m₂ news₂, s₂ = { s₁ with heap := h', toks := tk } ∧ Fr h₀ L h' m₂ ∧ News h₀ L h' (own ++ news₂) ∧ (∀ p ∈ news₂, p.1 ≠ I) ∧ Jn tk m₂ news₂
/-- a for over a made list of ints, by a word of the turn's number, the count of tokens, the frame and the ledger (which may grow) -/
theorem for_ints2 {l : Addr} {x : Str} {px : Pos} {body : List Stmt} {vs : List Value} {ns : List Int} {nn : Nat} {m₀ : Str → Option Value} {news all : List (Addr × Obj)} (J : Nat → Nat → (Str → Option Value) → List (Addr × Obj) → Prop)
    (hh : A.handled = none) (hx : env.kindOf x = some .local) (hp : (env.scope.kind == .class || (env.scope.kind == .module && env.locals != env.globals)) = false) (hE : PassesOwn (model prog w) A env E)
    (N0 : News h₀ env.locals s.heap all) (hl : (l, listOf vs.toArray nn) ∈ all) (hi : IntsAre vs ns) (F : Fr h₀ env.locals s.heap m₀) (hs : ∀ p ∈ news, p ∈ all) (hj : J 0 s.toks m₀ news)
    (turn : ∀ i n t m₁ news₁ h tk₀ tk I oI oL, ns[i]? = some n → (@Ne Nat I l) → (∀ p ∈ news₁, p.1 ≠ I) → J i tk₀ m₁ news₁ → tk₀ ≤ tk → Fr h₀ env.locals h (fun y => if y = x then some (.int n t) else m₁ y) → News h₀ env.locals h ((I, oI) :: (l, oL) :: news₁) →
      wpAny (model prog w) A (execs body env) (fun f s₂ => match f with
        | .ret v => Q (.ret v) s₂
        | .brk => Q .next s₂
        | _ => Hold (TurnEnd2 h₀ env.locals I [(I, oI), (l, oL)] (J (i + 1)) { s with heap := h, toks := tk } s₂)) E { s with heap := h, toks := tk })
    (done : ∀ m₁ news₁ h tk₀ tk, J ns.length tk₀ m₁ news₁ → tk₀ ≤ tk → Fr h₀ env.locals h m₁ → News h₀ env.locals h news₁ → Q .next { s with heap := h, toks := tk }) :
    wpAny (model prog w) A (pyIter (.ref l)) (fun it s₂ => codeAny (model prog w) A (.forLoop (.Name x px) it body [] env) (fun r s' => match r with | .ok f => Q f s' | .error e => cameBackBy (model prog w) A env E e s') s₂) E s := by
  have hol : s.heap.get? l = some (listOf vs.toArray nn) := (N0 _ hl).1
  have hls : s.heap.IsList l vs.toArray := ⟨_, hol, rfl, nn, rfl⟩
  have hne : l ≠ s.heap.objs.size := Nat.ne_of_lt (Heap.lt_size hol)
  have N : News h₀ env.locals s.heap news := fun p hp => N0 p (hs p hp)
  refine wpAny_pyIter_list hls ?_
  have W := Walks.list (prog := prog) (w := w) hh s.heap.objs.size l hne vs.toArray
  have hlen : vs.toArray.size = ns.length := by simp [hi.length]
  have hLl : env.locals ≠ l := fun e => (N0 _ hl).2.1 e.symm
  have hLI : env.locals ≠ s.heap.objs.size := Nat.ne_of_lt F.ns.lt
  generalize hI : s.heap.objs.size = I at *
  refine for_any (fun k s' => ∃ h' tk₀ tk m' news' i, s' = { s with heap := h', toks := tk } ∧ h'.IsListIter I l i ∧ h'.IsList l vs.toArray ∧ Fr h₀ env.locals h' m' ∧ News h₀ env.locals h' news' ∧ (∀ p ∈ news', p.1 ≠ I) ∧ J i tk₀ m' news' ∧ tk₀ ≤ tk ∧ i ≤ ns.length ∧ k = ns.length + 1 - i)
    hE ?_ (ns.length + 1) ⟨_, s.toks, s.toks, m₀, news, 0, rfl, ⟨_, by rw [← hI]; exact Heap.get?_push_size _ rfl, rfl, rfl⟩, hls.at fun o e => Heap.get?_push_of_some _ e, F.push _, (fun p hp => ⟨Heap.get?_push_of_some _ (N p hp).1, (N p hp).2⟩), ?_, hj, Nat.le_refl _, Nat.zero_le _, rfl⟩
  · rintro k s' ⟨h', tk₀, tk, m', news', i, rfl, hit, hlst, F', N', hoff, hJ, htk, hil, rfl⟩
    have old : ∀ b o, h₀.get? b = some o → b ≠ I := fun b o e q => by
      have h1 := Heap.lt_size e
      have h2 : b < s.heap.objs.size := Nat.lt_of_lt_of_le h1 (Nat.le_trans F.above (Nat.le_of_lt F.ns.lt))
      rw [hI, q] at h2; exact Nat.lt_irrefl _ h2
    refine wpAny_with_toks (n := tk) (Nat.le_refl _) ?_
    by_cases hlt : i < ns.length
    · refine W.item i _ _ _ (by rw [hlen]; exact hlt) ⟨hit, hlst⟩ fun v h₁ tk₁ hP hst₁ hk₁ => ?_
      intro ht
      obtain ⟨t, hxv⟩ := hi.get i ns[i] (by simp [hlt])
      have hv : v = .int ns[i] t := by
        have hP' : vs[i]? = some v := by simpa using hP
        rw [hxv] at hP'; exact (Option.some.inj hP').symm
      subst hv
      have F₁ : Fr h₀ env.locals h₁ m' := ⟨F'.ns.at' fun o e => hk₁ _ o (by simpa using hLI) e, fun b o e => hk₁ b o (by simpa using old b o e) (F'.keep b o e), F'.above⟩
      have N₁ : News h₀ env.locals h₁ news' := fun p hp => ⟨hk₁ _ _ (by simpa using hoff p hp) (N' p hp).1, (N' p hp).2⟩
      refine wpAny_mono (wpAny_of_eq (rfl : letOwnedTupleGo (.Name x px) (.ref I) (.int ns[i] t) = pure ()) (Q := fun _ s' => s' = { s with heap := h₁, toks := tk₁ }) rfl) (fun _ s₃ e₃ => ?_) (fun _ _ x => x)
      subst e₃
      refine wpAny_mono (wpAny_assign_Name (wpAny_storeName_local (Q := fun _ s' => ∃ h₂, s' = { s with heap := h₂, toks := tk₁ + 1 } ∧ h₂.Ns env.locals (fun y => if y = x then some (.int ns[i] t) else m' y) ∧ Heap.SameBut env.locals h₁ h₂) hx F₁.ns (fun h₂ hn₂ hs₂ => ⟨h₂, rfl, hn₂, hs₂⟩) hp)) ?_ (fun _ _ x => x)
      rintro _ s₄ ⟨h₂, rfl, hn₂, hs₂⟩
      have F₂ := F₁.set hn₂ hs₂
      have st₂ : h₂.IsListIter I l (i + 1) ∧ h₂.IsList l vs.toArray := ⟨hst₁.1.at fun o e => hs₂.extBut _ o (Ne.symm hLI) e, hst₁.2.at fun o e => hs₂.extBut _ o (Ne.symm hLl) e⟩
      obtain ⟨⟨oI, eI, rI⟩, ⟨oL, eL, rL⟩⟩ := id st₂
      have hI0 : h₀.get? I = none := by
        cases q : h₀.get? I with
        | none => rfl
        | some o => exact absurd rfl (old _ _ q)
      have N₂ : News h₀ env.locals h₂ ((I, oI) :: (l, oL) :: news') := by
        intro p hp
        rcases List.mem_cons.mp hp with rfl | hp
        · exact ⟨eI, Ne.symm hLI, hI0⟩
        · rcases List.mem_cons.mp hp with rfl | hp
          · exact ⟨eL, Ne.symm hLl, (N0 _ hl).2.2⟩
          · exact N₁.set hs₂ p hp
      refine wpAny_mono (turn i ns[i] t m' news' h₂ tk₀ (tk₁ + 1) I oI oL (by simp [hlt]) (fun e => hne e.symm) hoff hJ (Nat.le_succ_of_le (Nat.le_trans htk ht)) F₂ N₂) (fun f s₅ p => ?_) (fun _ _ x => x)
      have up : TurnEnd2 h₀ env.locals I [(I, oI), (l, oL)] (J (i + 1)) { s with heap := h₂, toks := tk₁ + 1 } s₅ → ∃ m, m < ns.length + 1 - i ∧ ∃ h' tk₀ tk m' news' i, s₅ = { s with heap := h', toks := tk } ∧ h'.IsListIter I l i ∧ h'.IsList l vs.toArray ∧ Fr h₀ env.locals h' m' ∧ News h₀ env.locals h' news' ∧ (∀ p ∈ news', p.1 ≠ I) ∧ J i tk₀ m' news' ∧ tk₀ ≤ tk ∧ i ≤ ns.length ∧ m = ns.length + 1 - i := by
        rintro ⟨h₃, tk₃, m₃, news₃, rfl, F₃, N₃, off₃, J₃⟩
        exact ⟨ns.length + 1 - (i + 1), by omega, h₃, tk₃, tk₃, m₃, news₃, i + 1, rfl, ⟨oI, (N₃ _ (List.mem_cons_self)).1, rI⟩, ⟨oL, (N₃ _ (List.mem_cons_of_mem _ List.mem_cons_self)).1, rL⟩, F₃,
          fun p hp => N₃ p (List.mem_cons_of_mem _ (List.mem_cons_of_mem _ hp)), off₃, J₃, Nat.le_refl _, hlt, rfl⟩
      cases f with
      | ret v => exact p
      | brk => exact p
      | next => exact up p
      | cont => exact up p
    · have hin : i = ns.length := by omega
      subst hin
      refine W.done _ _ _ (by rw [hlen]; exact ⟨hit, hlst⟩) fun h₁ tk₁ hk₁ => ?_
      intro ht
      exact done m' news' h₁ tk₀ tk₁ hJ (Nat.le_trans htk ht) ⟨F'.ns.at' fun o e => hk₁ _ o (by simpa using hLI) e, fun b o e => hk₁ b o (by simpa using old b o e) (F'.keep b o e), F'.above⟩
        (fun p hp => ⟨hk₁ _ _ (by simpa using hoff p hp) (N' p hp).1, (N' p hp).2⟩)
  · intro p hp q
    have := Heap.lt_size (N p hp).1
    rw [hI, q] at this; exact Nat.lt_irrefl _ this
/-- a for over range(n), likewise -/
theorem for_range2 {r : Addr} {x : Str} {px : Pos} {body : List Stmt} {n : Nat} {t u v : Tok} {m₀ : Str → Option Value} {news all : List (Addr × Obj)} (J : Nat → Nat → (Str → Option Value) → List (Addr × Obj) → Prop)
    (hh : A.handled = none) (hx : env.kindOf x = some .local) (hp : (env.scope.kind == .class || (env.scope.kind == .module && env.locals != env.globals)) = false) (hE : PassesOwn (model prog w) A env E)
    (hr : IsRange s.heap r 0 n 1 t u v) (hsmall : Builtin.Range.small 0 n 1 = true) (hn : Builtin.Range.rangeSize 0 n 1 = (n : Int))
    (N0 : News h₀ env.locals s.heap all) (F : Fr h₀ env.locals s.heap m₀) (hs : ∀ p ∈ news, p ∈ all) (hj : J 0 s.toks m₀ news)
    (turn : ∀ i t m₁ news₁ h tk₀ tk I oI, i < n → (∀ p ∈ all, p.1 < I) → (∀ p ∈ news₁, p.1 ≠ I) → J i tk₀ m₁ news₁ → tk₀ ≤ tk → Fr h₀ env.locals h (fun y => if y = x then some (.int (i : Int) t) else m₁ y) → News h₀ env.locals h ((I, oI) :: news₁) →
      wpAny (model prog w) A (execs body env) (fun f s₂ => match f with
        | .ret v => Q (.ret v) s₂
        | .brk => Q .next s₂
        | _ => Hold (TurnEnd2 h₀ env.locals I [(I, oI)] (J (i + 1)) { s with heap := h, toks := tk } s₂)) E { s with heap := h, toks := tk })
    (done : ∀ m₁ news₁ h tk₀ tk, J n tk₀ m₁ news₁ → tk₀ ≤ tk → Fr h₀ env.locals h m₁ → News h₀ env.locals h news₁ → Q .next { s with heap := h, toks := tk }) :
    wpAny (model prog w) A (pyIter (.ref r)) (fun it s₂ => codeAny (model prog w) A (.forLoop (.Name x px) it body [] env) (fun r s' => match r with | .ok f => Q f s' | .error e => cameBackBy (model prog w) A env E e s') s₂) E s := by
  have N : News h₀ env.locals s.heap news := fun p hp => N0 p (hs p hp)
  have hal : ∀ p ∈ all, p.1 < s.heap.objs.size := fun p hp => Heap.lt_size (N0 p hp).1
  refine wpAny_pyIter_range hr hsmall ?_
  rw [hn]
  have W := Walks.range (prog := prog) (w := w) hh s.heap.objs.size 0 1 n
  have hLI : env.locals ≠ s.heap.objs.size := Nat.ne_of_lt F.ns.lt
  generalize hI : s.heap.objs.size = I at *
  refine for_any (fun k s' => ∃ h' tk₀ tk m' news' i, s' = { s with heap := h', toks := tk } ∧ IsRangeIter h' I (0 + (i : Nat) * 1) ((n : Int) - (i : Nat)) 1 ∧ Fr h₀ env.locals h' m' ∧ News h₀ env.locals h' news' ∧ (∀ p ∈ news', p.1 ≠ I) ∧ J i tk₀ m' news' ∧ tk₀ ≤ tk ∧ i ≤ n ∧ k = n + 1 - i)
    hE ?_ (n + 1) ⟨_, s.toks, s.toks, m₀, news, 0, rfl, by rw [← hI]; exact Heap.get?_push_size _ rfl, F.push _, (fun p hp => ⟨Heap.get?_push_of_some _ (N p hp).1, (N p hp).2⟩), ?_, hj, Nat.le_refl _, Nat.zero_le _, rfl⟩
  · rintro k s' ⟨h', tk₀, tk, m', news', i, rfl, hit, F', N', hoff, hJ, htk, hil, rfl⟩
    have old : ∀ b o, h₀.get? b = some o → b ≠ I := fun b o e q => by
      have h1 := Heap.lt_size e
      have h2 : b < s.heap.objs.size := Nat.lt_of_lt_of_le h1 (Nat.le_trans F.above (Nat.le_of_lt F.ns.lt))
      rw [hI, q] at h2; exact Nat.lt_irrefl _ h2
    refine wpAny_with_toks (n := tk) (Nat.le_refl _) ?_
    by_cases hlt : i < n
    · refine W.item i _ _ _ hlt hit fun v h₁ tk₁ hP hst₁ hk₁ => ?_
      intro ht
      obtain ⟨t, rfl⟩ := hP
      have ei : (0 : Int) + (i : Int) * 1 = (i : Int) := by omega
      rw [ei]
      have F₁ : Fr h₀ env.locals h₁ m' := ⟨F'.ns.at' fun o e => hk₁ _ o (by simpa using hLI) e, fun b o e => hk₁ b o (by simpa using old b o e) (F'.keep b o e), F'.above⟩
      have N₁ : News h₀ env.locals h₁ news' := fun p hp => ⟨hk₁ _ _ (by simpa using hoff p hp) (N' p hp).1, (N' p hp).2⟩
      refine wpAny_mono (wpAny_of_eq (rfl : letOwnedTupleGo (.Name x px) (.ref I) (.int (i : Int) t) = pure ()) (Q := fun _ s' => s' = { s with heap := h₁, toks := tk₁ }) rfl) (fun _ s₃ e₃ => ?_) (fun _ _ x => x)
      subst e₃
      refine wpAny_mono (wpAny_assign_Name (wpAny_storeName_local (Q := fun _ s' => ∃ h₂, s' = { s with heap := h₂, toks := tk₁ + 1 } ∧ h₂.Ns env.locals (fun y => if y = x then some (.int (i : Int) t) else m' y) ∧ Heap.SameBut env.locals h₁ h₂) hx F₁.ns (fun h₂ hn₂ hs₂ => ⟨h₂, rfl, hn₂, hs₂⟩) hp)) ?_ (fun _ _ x => x)
      rintro _ s₄ ⟨h₂, rfl, hn₂, hs₂⟩
      have F₂ := F₁.set hn₂ hs₂
      have st₂ : IsRangeIter h₂ I (0 + ((i + 1 : Nat) : Int) * 1) ((n : Int) - ((i + 1 : Nat) : Int)) 1 := hs₂.extBut _ _ (Ne.symm hLI) hst₁
      have hI0 : h₀.get? I = none := by
        cases q : h₀.get? I with
        | none => rfl
        | some o => exact absurd rfl (old _ _ q)
      obtain ⟨oI, eI, rI⟩ : ∃ oI, h₂.get? I = some oI ∧ ∀ h', h'.get? I = some oI → IsRangeIter h' I (0 + ((i + 1 : Nat) : Int) * 1) ((n : Int) - ((i + 1 : Nat) : Int)) 1 := ⟨_, st₂, fun _ e => e⟩
      have N₂ : News h₀ env.locals h₂ ((I, oI) :: news') := by
        intro p hp
        rcases List.mem_cons.mp hp with rfl | hp
        · exact ⟨eI, Ne.symm hLI, hI0⟩
        · exact N₁.set hs₂ p hp
      refine wpAny_mono (turn i t m' news' h₂ tk₀ (tk₁ + 1) I oI hlt hal hoff hJ (Nat.le_succ_of_le (Nat.le_trans htk ht)) F₂ N₂) (fun f s₅ p => ?_) (fun _ _ x => x)
      have up : TurnEnd2 h₀ env.locals I [(I, oI)] (J (i + 1)) { s with heap := h₂, toks := tk₁ + 1 } s₅ → ∃ m, m < n + 1 - i ∧ ∃ h' tk₀ tk m' news' i, s₅ = { s with heap := h', toks := tk } ∧ IsRangeIter h' I (0 + (i : Nat) * 1) ((n : Int) - (i : Nat)) 1 ∧ Fr h₀ env.locals h' m' ∧ News h₀ env.locals h' news' ∧ (∀ p ∈ news', p.1 ≠ I) ∧ J i tk₀ m' news' ∧ tk₀ ≤ tk ∧ i ≤ n ∧ m = n + 1 - i := by
        rintro ⟨h₃, tk₃, m₃, news₃, rfl, F₃, N₃, off₃, J₃⟩
        exact ⟨n + 1 - (i + 1), by omega, h₃, tk₃, tk₃, m₃, news₃, i + 1, rfl, rI _ (N₃ _ (List.mem_cons_self)).1, F₃,
          fun p hp => N₃ p (List.mem_cons_of_mem _ hp), off₃, J₃, Nat.le_refl _, hlt, rfl⟩
      cases f with
      | ret v => exact p
      | brk => exact p
      | next => exact up p
      | cont => exact up p
    · have hin : i = n := by omega
      subst hin
      refine W.done _ _ _ hit fun h₁ tk₁ hk₁ => ?_
      intro ht
      exact done m' news' h₁ tk₀ tk₁ hJ (Nat.le_trans htk ht) ⟨F'.ns.at' fun o e => hk₁ _ o (by simpa using hLI) e, fun b o e => hk₁ b o (by simpa using old b o e) (F'.keep b o e), F'.above⟩
        (fun p hp => ⟨hk₁ _ _ (by simpa using hoff p hp) (N' p hp).1, (N' p hp).2⟩)
  · intro p hp q
    have := Heap.lt_size (N p hp).1
    rw [hI, q] at this; exact Nat.lt_irrefl _ this
end
end Mine
end PartLoop2

section PartLawA
open PySem.W PyProof.Rows in
theorem Mine.cleanLawA : (1 : Nat) = 1 := by
  (w_on; w_top off; k_with_none)
  first | walk1 | rfl
open PySem PySem.W PyProof.Rows PySem.Spec PySem.Calls
namespace Mine
theorem all_gt {d a : Nat} {news : List (Addr × Obj)} (h : ∀ p ∈ news, d < p.1) (hd : a ≤ d) : ∀ p ∈ news, p.1 ≠ a := fun p hp => Nat.ne_of_gt (Nat.lt_of_le_of_lt hd (h p hp))
abbrev tup2 (f : UInt64) (sg : Str) (t1 t2 : Tok) : Obj := { cls := .type "tuple", data := .seq #[.float f t1, .str sg t2] }
/-- the tuples that the list bears, each float made apart -/
noncomputable def TupsAt (tl : List (Addr × Obj)) (vs : List Value) (qs : List (UInt64 × Str)) (tk : Nat) : Prop := ∃ ts : List Nat, vs.length = qs.length ∧ ts.length = qs.length ∧ ts.Nodup ∧ (∀ t ∈ ts, 0 < t ∧ t < tk) ∧
  ∀ (i : Nat) (v : Value), vs[i]? = some v → ∃ q t a t2, qs[i]? = some q ∧ ts[i]? = some t ∧ v = .ref a ∧ (a, tup2 q.1 q.2 t t2) ∈ tl
theorem TupsAt.mono {tl : List (Addr × Obj)} {vs : List Value} {qs : List (UInt64 × Str)} {tk tk' : Nat} (h : TupsAt tl vs qs tk) (ht : tk ≤ tk') : TupsAt tl vs qs tk' := by
  obtain ⟨ts, h1, h2, h3, h4, h5⟩ := h
  exact ⟨ts, h1, h2, h3, fun t hx => ⟨(h4 t hx).1, Nat.lt_of_lt_of_le (h4 t hx).2 ht⟩, h5⟩
theorem TupsAt.nil {tl : List (Addr × Obj)} {tk : Nat} : TupsAt tl [] [] tk := ⟨[], rfl, rfl, List.nodup_nil, by simp, by simp⟩
theorem TupsAt.snoc {tl tl' : List (Addr × Obj)} {vs : List Value} {qs : List (UInt64 × Str)} {tk tk' t t2 : Nat} {a : Addr} {f : UInt64} {sg : Str} (h : TupsAt tl vs qs tk) (ht : tk ≤ t) (ht' : t < tk') (h0 : 0 < t)
    (hm : (a, tup2 f sg t t2) ∈ tl') (hs : ∀ p ∈ tl, p ∈ tl') : TupsAt tl' (vs ++ [.ref a]) (qs ++ [(f, sg)]) tk' := by
  obtain ⟨ts, h1, h2, h3, h4, h5⟩ := h
  refine ⟨ts ++ [t], by simp [h1], by simp [h2], ?_, ?_, ?_⟩
  · rw [List.nodup_append]
    refine ⟨h3, by simp, fun x hx y hy e => ?_⟩
    rw [List.mem_singleton] at hy
    have := (h4 x hx).2
    omega
  · intro x hx
    rcases List.mem_append.mp hx with hx | hx
    · have := h4 x hx; omega
    · rw [List.mem_singleton] at hx; subst hx; exact ⟨h0, ht'⟩
  · intro i v hv
    by_cases hi : i < vs.length
    · rw [List.getElem?_append_left hi] at hv
      obtain ⟨q, t', a', t2', e1, e2, e3, e4⟩ := h5 i v hv
      exact ⟨q, t', a', t2', by rw [List.getElem?_append_left (by omega)]; exact e1, by rw [List.getElem?_append_left (by omega)]; exact e2, e3, hs _ e4⟩
    · rw [List.getElem?_append_right (by omega)] at hv
      have hz : i - vs.length = 0 := by
        cases hq : i - vs.length with
        | zero => rfl
        | succ q => rw [hq] at hv; simp at hv
      rw [hz] at hv
      have hv' : v = .ref a := by simpa using hv.symm
      exact ⟨(f, sg), t, a, t2, by rw [List.getElem?_append_right (by omega), show i - qs.length = 0 by omega]; rfl, by rw [List.getElem?_append_right (by omega), show i - ts.length = 0 by omega]; rfl, hv', hm⟩
noncomputable def ordL : List Int := [0, 3, 6, 1, 4, 7, 2, 5]
noncomputable def loopN : List Str := [Str.ofString "k", Str.ofString "share", Str.ofString "level", Str.ofString "light", Str.ofString "red", Str.ofString "green", Str.ofString "blue", Str.ofString "told", Str.ofString "turned", Str.ofString "sign"]
theorem TupsAt.len {tl : List (Addr × Obj)} {vs : List Value} {f : Int → UInt64 × Str} {i tk : Nat} (h : TupsAt tl vs ((ordL.take i).map f) tk) : vs.length ≤ 8 := by
  obtain ⟨ts, h1, _⟩ := h
  rw [h1, List.length_map, List.length_take]
  exact Nat.min_le_right _ _
noncomputable def loopM (u : Nat → Option Value) (m₀ : Str → Option Value) : Str → Option Value := fun y =>
  if y = Str.ofString "k" then u 0 else if y = Str.ofString "share" then u 1 else if y = Str.ofString "level" then u 2 else if y = Str.ofString "light" then u 3 else if y = Str.ofString "red" then u 4 else
  if y = Str.ofString "green" then u 5 else if y = Str.ofString "blue" then u 6 else if y = Str.ofString "told" then u 7 else if y = Str.ofString "turned" then u 8 else if y = Str.ofString "sign" then u 9 else m₀ y
theorem loopM_of {m₂ m₀ : Str → Option Value} (h : ∀ y, y ∉ loopN → m₂ y = m₀ y) : ∃ u, m₂ = loopM u m₀ := by
  refine ⟨fun i => m₂ (loopN.getD i Str.empty), ?_⟩
  funext y
  unfold loopM
  by_cases hy : y ∈ loopN
  · simp only [loopN, List.mem_cons, List.not_mem_nil, or_false] at hy
    rcases hy with rfl | rfl | rfl | rfl | rfl | rfl | rfl | rfl | rfl | rfl <;> rfl
  · have e := h y hy
    simp only [loopN, List.mem_cons, List.not_mem_nil, or_false, not_or] at hy
    obtain ⟨a0, a1, a2, a3, a4, a5, a6, a7, a8, a9⟩ := hy
    rw [if_neg a0, if_neg a1, if_neg a2, if_neg a3, if_neg a4, if_neg a5, if_neg a6, if_neg a7, if_neg a8, if_neg a9, e]
noncomputable def signK (p k : Int) : Str := if k = 0 then ⟨#[97 + p.toNat]⟩ else if k = 1 then ⟨#[65 + p.toNat]⟩ else ⟨#[34]⟩
noncomputable def seenQ (ks ps : List Int) (n : Int) : UInt64 × Str := (FF (ps.getD n.toNat 0), signK (ps.getD n.toNat 0) (ks.getD n.toNat 0))
noncomputable def mirQ (ks ps : List Int) (n : Int) : UInt64 × Str := (FF ((16 - ps.getD n.toNat 0).fmod 16), signK (ps.getD n.toNat 0) (ks.getD n.toNat 0))
theorem ints8 {sv : List Value} {xs : List Int} (h : IntsAre sv xs) (h8 : xs.length = 8) : ∃ x0 x1 x2 x3 x4 x5 x6 x7 t0 t1 t2 t3 t4 t5 t6 t7,
    xs = [x0, x1, x2, x3, x4, x5, x6, x7] ∧ sv = [.int x0 t0, .int x1 t1, .int x2 t2, .int x3 t3, .int x4 t4, .int x5 t5, .int x6 t6, .int x7 t7] := by
  match xs, h8 with
  | [x0, x1, x2, x3, x4, x5, x6, x7], _ =>
    cases h with | cons _ t0 h => cases h with | cons _ t1 h => cases h with | cons _ t2 h => cases h with | cons _ t3 h => cases h with | cons _ t4 h => cases h with | cons _ t5 h => cases h with | cons _ t6 h => cases h with | cons _ t7 h => cases h with | nil => exact ⟨x0, x1, x2, x3, x4, x5, x6, x7, t0, t1, t2, t3, t4, t5, t6, t7, rfl, rfl⟩
noncomputable def LoopJ (rest : List (Addr × Obj)) (m₀ : Str → Option Value) (ks ps : List Int) (DSe DMi DL : Addr) (i tk : Nat) (m : Str → Option Value) (news : List (Addr × Obj)) : Prop :=
  ∃ (u : Nat → Option Value) (tl : List (Addr × Obj)) (v1 v2 : List Value) (n1 n2 : Nat), m = loopM u m₀ ∧
    news = (DMi, listOf v2.toArray n2) :: (DSe, listOf v1.toArray n1) :: (rest ++ tl) ∧ (∀ p ∈ tl, DL < p.1) ∧ TupsAt tl v1 ((ordL.take i).map (seenQ ks ps)) tk ∧ TupsAt tl v2 ((ordL.take i).map (mirQ ks ps)) tk
theorem ord_b {i : Nat} {k : Int} (h : ordL[i]? = some k) : 0 ≤ k ∧ k < 8 := by
  have := List.mem_of_getElem? h
  simp only [ordL, List.mem_cons, List.not_mem_nil, or_false] at this
  omega
theorem get_b {ks : List Int} (h : ∀ y ∈ ks, 0 ≤ y ∧ y < 3) (i : Nat) (hi : i < ks.length) : 0 ≤ ks.getD i 0 ∧ ks.getD i 0 < 3 := by
  refine h _ ?_
  rw [List.getD_eq_getElem?_getD, List.getElem?_eq_getElem hi]
  exact List.getElem_mem hi
theorem ps_b {ps : List Int} {x1 x2 x3 x4 x5 x6 x7 k : Int} (h : ps = [0, 2 * 1 + x1.fmod 2, 2 * 2 + x2.fmod 2, 2 * 3 + x3.fmod 2, 2 * 4 + x4.fmod 2, 2 * 5 + x5.fmod 2, 2 * 6 + x6.fmod 2, 2 * 7 + x7.fmod 2]) (hk : 0 ≤ k ∧ k < 8) : 0 ≤ ps.getD k.toNat 0 ∧ ps.getD k.toNat 0 < 16 := by
  have b1 := fmod2 x1
  have b2 := fmod2 x2
  have b3 := fmod2 x3
  have b4 := fmod2 x4
  have b5 := fmod2 x5
  have b6 := fmod2 x6
  have b7 := fmod2 x7
  subst h
  obtain ⟨n, rfl⟩ := Int.eq_ofNat_of_zero_le hk.1
  rcases (show n = 0 ∨ n = 1 ∨ n = 2 ∨ n = 3 ∨ n = 4 ∨ n = 5 ∨ n = 6 ∨ n = 7 by omega) with rfl | rfl | rfl | rfl | rfl | rfl | rfl | rfl <;> simp <;> omega
theorem col_facts {p k : Int} (hp : 0 ≤ p ∧ p < 16) (hk : 0 ≤ k ∧ k < 3) : ∃ r g b, hsvF (FF p) (shareK k) (levelK k) = (r, g, b) ∧ hsvOk (FF p) (shareK k) = true ∧ hlsOk r g b = true ∧ hlsOk r b g = true ∧
    hlsH r g b = FF p ∧ hlsL r g b = lightK k ∧ hlsS r g b = 4607182418800017408 ∧ hlsH r b g = FF ((16 - p).fmod 16) ∧ hlsL r b g = lightK k ∧ hlsS r b g = 4607182418800017408 := by
  have h := col_ok hp hk
  simp only [colOk, Bool.and_eq_true, beq_iff_eq] at h
  obtain ⟨⟨⟨⟨⟨⟨⟨⟨h1, h2⟩, h3⟩, h4⟩, h5⟩, h6⟩, h7⟩, h8⟩, h9⟩ := h
  exact ⟨_, _, _, rfl, h1, h2, h3, h4, h5, h6, h7, h8, h9⟩
noncomputable def Known (x c : Int) : Prop := x = c
theorem item_known {prog : Program} {w : World} {A : Around} {E : Value → Shared → Prop} {s : Shared} {value slice : Expr} {l : Addr} {vs : List Value} {ns : List Int} {k c : Int} {u : Tok} {Q : Value → Shared → Prop} (hl : s.heap.IsList l vs.toArray) (hi : IntsAre vs ns)
    (h0 : 0 ≤ k) (h1 : k < ns.length) (hfit : k < 2 ^ 63) (hv : Known (ns.getD k.toNat 0) c) (h : ∀ t, Q (.int c t) s)
    (hs : subscripted slice false (.ref l) (.int k u) = operate [.ref l, .int k u] (getItem (.ref l) (.int k u)) := by with_unfolding_all rfl) (hg : ∀ r, letTemporaryGo value (.ref l) r = pure () := by intro _; with_unfolding_all rfl) :
    wpAny (model prog w) A (subscriptTail value slice (.ref l) (.int k u)) Q E s :=
  item_list_ints hl hi h0 h1 hfit (fun t => by have e : ns.getD k.toNat 0 = c := hv; rw [e]; exact h t) hs hg
theorem share0 : shareK 0 = 4607182418800017408 := by decide
theorem share1 : shareK 1 = 4607182418800017408 := by decide
theorem share2 : shareK 2 = 4602678819172646912 := by decide
theorem level0 : levelK 0 = 4607182418800017408 := by decide
theorem level1 : levelK 1 = 4602678819172646912 := by decide
theorem level2 : levelK 2 = 4607182418800017408 := by decide
theorem light_eq {v : Int} (h : 0 ≤ v ∧ v < 3) : eqF (lightK v) (lightK v) = true := by
  rcases (show v = 0 ∨ v = 1 ∨ v = 2 by omega) with rfl | rfl | rfl <;> decide +kernel
theorem off2 {M m0 : Str → Option Value} {a b : Value} (h1 : m0 (Str.ofString "mirrored") = some a) (h2 : m0 (Str.ofString "seen") = some b) (hM : ∀ y, y ∉ loopN → M y = m0 y) (y : Str) (hy : y ∉ loopN) :
    (if y = Str.ofString "mirrored" then some a else if y = Str.ofString "seen" then some b else M y) = m0 y := by
  by_cases e1 : y = Str.ofString "mirrored"
  · rw [if_pos e1, e1, h1]
  · rw [if_neg e1]
    by_cases e2 : y = Str.ofString "seen"
    · rw [if_pos e2, e2, h2]
    · rw [if_neg e2, hM y hy]
theorem off4 {M m0 : Str → Option Value} {a b c d : Value} (h1 : m0 (Str.ofString "mirrored") = some a) (h2 : m0 (Str.ofString "seen") = some b) (h3 : m0 (Str.ofString "places") = some c) (h4 : m0 (Str.ofString "kinds") = some d) (hM : ∀ y, y ∉ loopN → M y = m0 y) (y : Str) (hy : y ∉ loopN) :
    (if y = Str.ofString "mirrored" then some a else if y = Str.ofString "seen" then some b else if y = Str.ofString "places" then some c else if y = Str.ofString "kinds" then some d else M y) = m0 y := by
  by_cases e1 : y = Str.ofString "mirrored"
  · rw [if_pos e1, e1, h1]
  · rw [if_neg e1]
    by_cases e2 : y = Str.ofString "seen"
    · rw [if_pos e2, e2, h2]
    · rw [if_neg e2]
      by_cases e3 : y = Str.ofString "places"
      · rw [if_pos e3, e3, h3]
      · rw [if_neg e3]
        by_cases e4 : y = Str.ofString "kinds"
        · rw [if_pos e4, e4, h4]
        · rw [if_neg e4, hM y hy]
/-- the ten names of the turn, none of which y is -/
theorem offN {y : Str} (hy : y ∉ loopN) : y ≠ Str.ofString "k" ∧ y ≠ Str.ofString "share" ∧ y ≠ Str.ofString "level" ∧ y ≠ Str.ofString "light" ∧ y ≠ Str.ofString "red" ∧ y ≠ Str.ofString "green" ∧ y ≠ Str.ofString "blue" ∧ y ≠ Str.ofString "told" ∧ y ≠ Str.ofString "turned" ∧ y ≠ Str.ofString "sign" := by
  simp only [loopN, List.mem_cons, List.not_mem_nil, or_false, not_or] at hy
  exact hy
theorem turn_in {h₀ h : Heap} {L : Addr} {u : Nat → Option Value} {m0 : Str → Option Value} {kv a b c d : Value} (F : Fr h₀ L h (fun y => if y = Str.ofString "k" then some kv else loopM u m0 y))
    (h1 : m0 (Str.ofString "mirrored") = some a) (h2 : m0 (Str.ofString "seen") = some b) (h3 : m0 (Str.ofString "places") = some c) (h4 : m0 (Str.ofString "kinds") = some d) :
    ∃ M : Str → Option Value, (∀ y, y ∉ loopN → M y = m0 y) ∧ Fr h₀ L h (fun y => if y = Str.ofString "k" then some kv else if y = Str.ofString "mirrored" then some a else if y = Str.ofString "seen" then some b else if y = Str.ofString "places" then some c else if y = Str.ofString "kinds" then some d else M y) := by
  refine ⟨loopM u m0, ?_, fr_re F ?_⟩
  · intro y hy
    unfold loopM
    obtain ⟨a0, a1, a2, a3, a4, a5, a6, a7, a8, a9⟩ := offN hy
    rw [if_neg a0, if_neg a1, if_neg a2, if_neg a3, if_neg a4, if_neg a5, if_neg a6, if_neg a7, if_neg a8, if_neg a9]
  · funext y
    by_cases e0 : y = Str.ofString "k"
    · rw [if_pos e0, if_pos e0]
    · rw [if_neg e0, if_neg e0]
      by_cases e1 : y = Str.ofString "mirrored"
      · rw [if_pos e1, e1, ← h1]; rfl
      · rw [if_neg e1]
        by_cases e2 : y = Str.ofString "seen"
        · rw [if_pos e2, e2, ← h2]; rfl
        · rw [if_neg e2]
          by_cases e3 : y = Str.ofString "places"
          · rw [if_pos e3, e3, ← h3]; rfl
          · rw [if_neg e3]
            by_cases e4 : y = Str.ofString "kinds"
            · rw [if_pos e4, e4, ← h4]; rfl
            · rw [if_neg e4]
theorem fr_mid {h₀ h : Heap} {L : Addr} {m₂ m0 : Str → Option Value} {a b c d : Value} (F : Fr h₀ L h m₂) (h1 : m₂ (Str.ofString "turned") = some a) (h2 : m₂ (Str.ofString "told") = some b) (h3 : m₂ (Str.ofString "mirrored") = some c) (h4 : m₂ (Str.ofString "seen") = some d) (hm : ∀ y, y ∉ loopN → m₂ y = m0 y) :
    ∃ M : Str → Option Value, (∀ y, y ∉ loopN → M y = m0 y) ∧ Fr h₀ L h (fun y => if y = Str.ofString "turned" then some a else if y = Str.ofString "told" then some b else if y = Str.ofString "mirrored" then some c else if y = Str.ofString "seen" then some d else M y) :=
  ⟨m₂, hm, pin (pin (pin (pin F h4) h3) h2) h1⟩
theorem fr_sign {h₀ h : Heap} {L : Addr} {m₂ m : Str → Option Value} {a : Value} (F : Fr h₀ L h m₂) (h1 : m₂ (Str.ofString "sign") = some a) (hm : ∀ y, y ≠ Str.ofString "sign" → m₂ y = m y) :
    Fr h₀ L h (fun y => if y = Str.ofString "sign" then some a else m y) := by
  refine fr_re F ?_
  funext y
  by_cases y1 : y = Str.ofString "sign"
  · rw [if_pos y1, y1, h1]
  · rw [if_neg y1]; exact hm y y1
theorem light0 : lightK 0 = 4602678819172646912 := by decide
theorem light1 : lightK 1 = 4598175219545276416 := by decide
theorem light2 : lightK 2 = 4604930618986332160 := by decide
abbrev cellL (b : Nat) (c8 c7 c6 c5 c4 c3 c2 c1 : Obj) : List (Addr × Obj) :=
  [(b + 1 + 1 + 1 + 1 + 1 + 1 + 1 + 1, c8), (b + 1 + 1 + 1 + 1 + 1 + 1 + 1, c7), (b + 1 + 1 + 1 + 1 + 1 + 1, c6), (b + 1 + 1 + 1 + 1 + 1, c5), (b + 1 + 1 + 1 + 1, c4), (b + 1 + 1 + 1, c3), (b + 1 + 1, c2), (b + 1, c1)]
theorem sign0 {p : Int} (hp : 0 ≤ p ∧ p < 16) : Txt.item (Str.ofString "abcdefghijklmnop") p = signK p 0 := by
  obtain ⟨n, rfl⟩ := Int.eq_ofNat_of_zero_le hp.1
  have hn : n < 16 := by omega
  have h : ∀ n : Nat, n < 16 → Txt.item (Str.ofString "abcdefghijklmnop") (n : Int) = signK (n : Int) 0 := by decide +kernel
  exact h n hn
theorem sign1 {p : Int} (hp : 0 ≤ p ∧ p < 16) : Txt.upper (Txt.item (Str.ofString "abcdefghijklmnop") p) = signK p 1 := by
  obtain ⟨n, rfl⟩ := Int.eq_ofNat_of_zero_le hp.1
  have hn : n < 16 := by omega
  have h : ∀ n : Nat, n < 16 → Txt.upper (Txt.item (Str.ofString "abcdefghijklmnop") (n : Int)) = signK (n : Int) 1 := by decide +kernel
  exact h n hn
theorem sign2 {p : Int} : Str.ofString "\"" = signK p 2 := by
  have e : signK p 2 = ⟨#[34]⟩ := by unfold signK; rw [if_neg (by decide), if_neg (by decide)]
  rw [e]; decide +kernel
theorem turn_fin {h₀ h : Heap} {L DL DSe DMi d1 d2 I : Addr} {m₂ m₀ : Str → Option Value} {oI oL oP oK : Obj} {aP aK : Addr} {p1 p2 : Addr × Obj} {c1 c2 e1 e2 : Nat} {f1 f2 : UInt64} {g : Str} {n1 n2 i tk0 tk : Nat} {v1 v2 : List Value} {rs tl : List (Addr × Obj)} {ks ps : List Int} {k : Int} {s₁ : Shared}
    (NE : News h₀ L h ((d2, tup2 f2 g c2 e2) :: (d1, tup2 f1 g c1 e1) :: p1 :: p2 :: (I, oI) :: (DL, oL) :: (DMi, listOf (v2 ++ [Value.ref d2]).toArray n2) :: (DSe, listOf (v1 ++ [Value.ref d1]).toArray n1) :: (aP, oP) :: (aK, oK) :: (rs ++ tl)))
    (FE : Fr h₀ L h m₂) (hm : ∀ y, y ∉ loopN → m₂ y = m₀ y) (hIM : @Ne Nat I DMi) (hIS : @Ne Nat I DSe) (hnI : ∀ p ∈ (aP, oP) :: (aK, oK) :: (rs ++ tl), p.1 ≠ I) (hI1 : @LT.lt Nat _ I d1) (hI2 : @LT.lt Nat _ I d2)
    (htl : ∀ p ∈ tl, DL < p.1) (hD1 : @LT.lt Nat _ DL d1) (hD2 : @LT.lt Nat _ DL d2) (hi : ordL[i]? = some k)
    (hT1 : TupsAt tl v1 ((ordL.take i).map (seenQ ks ps)) tk0) (hT2 : TupsAt tl v2 ((ordL.take i).map (mirQ ks ps)) tk0) (hc1 : tk0 ≤ c1 ∧ c1 < tk ∧ 0 < c1) (hc2 : tk0 ≤ c2 ∧ c2 < tk ∧ 0 < c2)
    (hq1 : seenQ ks ps k = (f1, g)) (hq2 : mirQ ks ps k = (f2, g)) :
    TurnEnd2 h₀ L I [(I, oI), (DL, oL)] (LoopJ ((aP, oP) :: (aK, oK) :: rs) m₀ ks ps DSe DMi DL (i + 1)) s₁ { s₁ with heap := h, toks := tk } := by
  obtain ⟨u, hu⟩ := loopM_of hm
  have et : ordL.take (i + 1) = ordL.take i ++ [k] := by rw [List.take_add_one, hi]; rfl
  refine ⟨h, tk, m₂, (DMi, listOf (v2 ++ [Value.ref d2]).toArray n2) :: (DSe, listOf (v1 ++ [Value.ref d1]).toArray n1) :: (((aP, oP) :: (aK, oK) :: rs) ++ (tl ++ [(d1, tup2 f1 g c1 e1), (d2, tup2 f2 g c2 e2)])), rfl, FE, news_drop NE ?_, ?_, ?_⟩
  · intro p hp
    simp only [List.mem_append, List.mem_cons, List.not_mem_nil, or_false] at hp ⊢
    rcases hp with (hp | hp) | hp | hp | (hp | hp | hp) | hp | hp | hp <;> simp [hp]
  · intro p hp
    simp only [List.mem_append, List.mem_cons, List.not_mem_nil, or_false] at hp
    rcases hp with rfl | rfl | hp | hp | rfl | rfl
    · exact fun e => hIM e.symm
    · exact fun e => hIS e.symm
    · refine hnI p ?_
      simp only [List.mem_append, List.mem_cons]
      rcases hp with hp | hp | hp <;> simp [hp]
    · refine hnI p ?_
      simp [hp]
    · exact Nat.ne_of_gt hI1
    · exact Nat.ne_of_gt hI2
  · refine ⟨u, tl ++ [(d1, tup2 f1 g c1 e1), (d2, tup2 f2 g c2 e2)], v1 ++ [Value.ref d1], v2 ++ [Value.ref d2], n1, n2, hu, rfl, ?_, ?_, ?_⟩
    · intro p hp
      simp only [List.mem_append, List.mem_cons, List.not_mem_nil, or_false] at hp
      rcases hp with hp | rfl | rfl
      · exact htl p hp
      · exact hD1
      · exact hD2
    · rw [et, List.map_append, List.map_singleton, hq1]
      exact hT1.snoc hc1.1 hc1.2.1 hc1.2.2 (List.mem_append_right _ (.head _)) (fun p hp => List.mem_append_left _ hp)
    · rw [et, List.map_append, List.map_singleton, hq2]
      exact hT2.snoc hc2.1 hc2.2.1 hc2.2.2 (List.mem_append_right _ (.tail _ (.head _))) (fun p hp => List.mem_append_left _ hp)
end Mine
end PartLawA

section PartSortT
open PySem.W PyProof.Rows in
theorem Mine.cleanSortT : (1 : Nat) = 1 := by
  (w_on; w_top off; k_with_none)
  first | walk1 | rfl
open PySem PySem.W PyProof.Rows PySem.Spec PySem.Calls
namespace Mine
section
variable {prog : Program} {w : World} {A : Around} {E : Value → Shared → Prop} {s : Shared}
theorem oneLt_float {a b : UInt64} {t u : Tok} {Q : Bool → Shared → Prop} (h : Q (Float64.cmp a b == some Ordering.lt) s) : wpAny (model prog w) A (oneLt' true (.float a t) (.float b u)) Q E s := by
  rw [oneLt'_eq]
  simp only [if_true]
  refine wpAny_bind (wpAny_cRoomFor_byValue rfl ?_)
  refine wpAny_bind (wpAny_callSpecialIfBound?_slot (typeIs_float s a t) F.slot_float_lt (call_gives F.slot_float_lt (typeIs_float s a t) F.entry_float_lt (F.args_float_lt_2 _ _) (AutoFloatG5.float___lt___float_float_0 a t b u) ?_))
  exact wpAny_truthy_bool h
/-- one ask of the sort: two tuples whose floats differ -/
theorem ask_tups {x y : Addr} {f g : UInt64} {sx sy : Str} {t u tx ty : Nat} {c : Bool} {C : Bool → Shared → Prop} (nb : NoneBooked s.heap) (hx : s.heap.get? x = some (tup2 f sx t tx)) (hy : s.heap.get? y = some (tup2 g sy u ty))
    (ht : TkP t) (hu : TkP u) (htu : t ≠ u) (he : eqF f g = false) (hne : f ≠ g) (hc : (Float64.cmp f g == some Ordering.lt) = c) (h : C c s) : wpAny (model prog w) A (keyLt' (tuples' true) (.ref x) (.ref y)) C (fun _ _ => False) s := by
  refine kat_lt hx rfl hy rfl ?_
  refine kat_cons (eqAt_float_ne nb ht hu htu he hne prog w _ _ ?_)
  refine kat_no (oneLt_float ?_)
  rw [hc]; exact h
end
/-- the sort's asks, answered by a fixed order -/
noncomputable def kEval {α : Type} (lt : Nat → Nat → Bool) : KasT α → Option α
  | .ret a => some a
  | .ask i j k => bif (Nat.blt i 8 && Nat.blt j 8 && !Nat.beq i j) then kEval lt (k (lt i j)) else none
theorem kEval_wp {α : Type} {cmp : Nat → Nat → (Bool → Shared → Prop) → Shared → Prop} {lt : Nat → Nat → Bool} {s : Shared} (hc : ∀ (i j : Nat) (C : Bool → Shared → Prop), i < 8 → j < 8 → i ≠ j → C (lt i j) s → cmp i j C s) :
    ∀ (t : KasT α) (a : α) (Q : α → Shared → Prop), kEval lt t = some a → Q a s → t.kasWp cmp Q s
  | .ret b, a, Q, h, hq => by
    have e : b = a := Option.some.inj h
    subst e; exact hq
  | .ask i j k, a, Q, h, hq => by
    simp only [kEval] at h
    cases hb : (Nat.blt i 8 && Nat.blt j 8 && !Nat.beq i j) with
    | false => rw [hb] at h; cases h
    | true =>
      rw [hb] at h
      simp only [Bool.and_eq_true, Bool.not_eq_true', Nat.blt_eq] at hb
      exact hc i j _ hb.1.1 hb.1.2 (fun e => by rw [e, Nat.beq_refl] at hb; exact absurd hb.2 (by simp)) (kEval_wp hc (k (lt i j)) a Q h hq)
/-- the order of the wheel, and of the mirror -/
noncomputable def rk1 (i : Nat) : Nat := [0, 3, 6, 1, 4, 7, 2, 5].getD i 0
noncomputable def rk2 (i : Nat) : Nat := [0, 5, 2, 7, 4, 1, 6, 3].getD i 0
noncomputable def perm1 : List Nat := [0, 3, 6, 1, 4, 7, 2, 5]
noncomputable def perm2 : List Nat := [0, 5, 2, 7, 4, 1, 6, 3]
set_option maxRecDepth 100000 in
theorem sort1 : kEval (fun i j => Nat.blt (rk1 i) (rk1 j)) (kas_sort 8) = some perm1.toArray := by decide +kernel
set_option maxRecDepth 100000 in
theorem sort2 : kEval (fun i j => Nat.blt (rk2 i) (rk2 j)) (kas_sort 8) = some perm2.toArray := by decide +kernel
theorem kat_of {h : Heap} : ∀ (vs : List Value), (∀ v ∈ vs, ∃ a f sg t t2, v = .ref a ∧ h.get? a = some (tup2 f sg t t2)) → ∃ fs : List Value, KatTups h vs fs ∧ fs.length = vs.length ∧ ∀ x ∈ fs, ∃ f t, x = Value.float f t
  | [], _ => ⟨[], KatTups.nil, rfl, by simp⟩
  | v :: vs, hv => by
    obtain ⟨fs, h1, h2, h3⟩ := kat_of vs (fun x hx => hv x (List.mem_cons_of_mem _ hx))
    obtain ⟨a, f, sg, t, t2, rfl, hg⟩ := hv v List.mem_cons_self
    refine ⟨.float f t :: fs, KatTups.cons hg rfl rfl rfl h1, by simp [h2], ?_⟩
    intro x hx
    rcases List.mem_cons.mp hx with rfl | hx
    · exact ⟨f, t, rfl⟩
    · exact h3 x hx
section
variable {prog : Program} {w : World} {A : Around} {E : Value → Shared → Prop} {s : Shared} {h₀ : Heap} {L l : Addr} {m : Str → Option Value} {K : Frag} {news tl : List (Addr × Obj)} {v : List Value} {qs : List (UInt64 × Str)} {n tk : Nat} {Q : Value → Shared → Prop}
/-- sorted of eight tuples whose floats are places of the wheel -/
theorem sorted_tups (pk : Nat → Int) (rk : Nat → Nat) (perm : List Nat) (F : Fr h₀ L s.heap m) (N : News h₀ L s.heap news) (X₀ : K.In h₀) (hK : K.lookup cStatics = some ⟨Value.none, none, .dict #[], #[]⟩)
    (hl : (l, listOf v.toArray n) ∈ news) (hs : ∀ p ∈ tl, p ∈ news) (hT : TupsAt tl v qs tk) (h8 : qs.length = 8) (hkey : ∀ i q, qs[i]? = some q → q.1 = FF (pk i)) (hb : ∀ i, i < 8 → 0 ≤ pk i ∧ pk i < 16)
    (hrk : ∀ i j, i < 8 → j < 8 → i ≠ j → pk i ≠ pk j ∧ decide (pk i < pk j) = Nat.blt (rk i) (rk j)) (hsort : kEval (fun i j => Nat.blt (rk i) (rk j)) (kas_sort 8) = some perm.toArray)
    (h : ∀ D e h', Fr h₀ L h' m → News h₀ L h' ((D, listOf (perm.map fun i => v.getD i Value.none).toArray e) :: news) → (∀ q ∈ news, q.1 < D) → Q (.ref D) { s with heap := h' }) :
    wpAny (model prog w) A (call (.builtin "sorted") [.ref l]) Q E s := by
  obtain ⟨ts, t1, t2, t3, t4, t5⟩ := hT
  have hv8 : v.length = 8 := by rw [t1, h8]
  refine kat_sorted F N (⟨_, (N _ hl).1, rfl, n, rfl⟩ : s.heap.IsList l v.toArray) (by omega) (by omega) fun D e1 h' F' N' hlt => ?_
  have all : ∀ x ∈ v, ∃ a f sg t t2, x = Value.ref a ∧ h'.get? a = some (tup2 f sg t t2) := by
    intro x hx
    obtain ⟨i, hi⟩ := List.getElem?_of_mem hx
    obtain ⟨q, t, a, t2, _, _, e3, e4⟩ := t5 i x hi
    exact ⟨a, q.1, q.2, t, t2, e3, (N' _ (List.mem_cons_of_mem _ (hs _ e4))).1⟩
  obtain ⟨fs, k1, k2, k3⟩ := kat_of v all
  refine kat_kind (T := .type "float") k1 (by omega) (fun x hx => ?_) rfl ?_
  · obtain ⟨f, t, rfl⟩ := k3 x hx
    exact .now
  have hk : (Value.type "float" != Value.type "tuple") = true := by decide
  rw [hk, hv8]
  refine kEval_wp (fun i j C hi hj hij hC => ?_) _ perm.toArray _ hsort ?_
  · have at_ : ∀ i, i < 8 → ∃ f sg t a t2, v.getD i Value.none = .ref a ∧ h'.get? a = some (tup2 f sg t t2) ∧ f = FF (pk i) ∧ ts[i]? = some t := by
      intro i hi
      have hvi : v[i]? = some (v.getD i Value.none) := by
        rw [List.getD_eq_getElem?_getD, List.getElem?_eq_getElem (by omega)]; rfl
      obtain ⟨q, t, a, t2, e1, e2, e3, e4⟩ := t5 i _ hvi
      exact ⟨q.1, q.2, t, a, t2, e3, (N' _ (List.mem_cons_of_mem _ (hs _ e4))).1, hkey i q e1, e2⟩
    obtain ⟨f, sx, t, x, tx, ex, gx, rfl, tix⟩ := at_ i hi
    obtain ⟨g, sy, u, y, ty, ey, gy, rfl, tiy⟩ := at_ j hj
    have hne := hrk i j hi hj hij
    have hff := ff_ne (hb i hi) (hb j hj) hne.1
    unfold kas_ask
    rw [ex, ey]
    refine ask_tups (booked F' X₀ hK) gx gy (t4 t (List.mem_of_getElem? tix)).1 (t4 u (List.mem_of_getElem? tiy)).1 (fun e => ?_) hff.1 hff.2.1 (hff.2.2.trans hne.2) hC
    rw [List.getElem?_eq_some_iff] at tix tiy
    obtain ⟨i1, i2⟩ := tix
    obtain ⟨j1, j2⟩ := tiy
    have hp := List.pairwise_iff_getElem.mp t3
    rcases Nat.lt_or_gt_of_ne hij with hlt' | hlt'
    · exact hp i j i1 j1 hlt' (i2.trans (e.trans j2.symm))
    · exact hp j i j1 i1 hlt' (j2.trans (e.symm.trans i2.symm))
  · refine KasFin.intro F' N' (UpdF.head fun p hp => Nat.ne_of_lt (hlt p hp)) fun h'' c F'' N'' => ?_
    exact h D c h'' F'' N'' hlt
end
end Mine
end PartSortT

section PartGenA
open PySem.W PyProof.Rows in
theorem Mine.cleanGenA : (1 : Nat) = 1 := by
  (w_on; w_top off; k_with_none)
  first | walk1 | rfl
open PySem PySem.W PyProof.Rows PySem.Spec PySem.Calls
namespace Mine
section
variable {M : Model} {A : Around} {R : GenEnd} {Y : Protocol} {n : Nat} {s₀ : Shared} {c : Code} {fs : List Frame} {s : Shared} {env : Env}
  {K : Flow → Sem Fin} {H : Value → Sem Fin} {gd : Bool → Bool} {lv : List Value → List Value}
/-- a statement that neither yields nor raises -/
theorem seg_stmt {st : Stmt} {rest : List Stmt} (h : wpAny M (A.over c fs) (exec st env) (fun f s' => f = .next ∧ Seg M A R Y n s₀ c ((execs rest env).wrap K H gd lv) fs s') (fun _ _ => False) s) :
    Seg M A R Y n s₀ c ((execs (st :: rest) env).wrap K H gd lv) fs s := by
  refine seg_execs_cons (seg_wrap (wpAny_mono h (fun f s' h' => ?_) fun _ _ x => x.elim))
  obtain ⟨rfl, h'⟩ := h'
  exact h'
theorem seg_If {test : Expr} {body orelse : List Stmt} {pos : Pos}
    (h : wpAny M (A.over c fs) (isTrue test env (eval test env)) (fun b s' => Seg M A R Y n s₀ c ((if b = true then execs body env else execs orelse env).wrap K H gd lv) fs s') (fun _ _ => False) s) :
    Seg M A R Y n s₀ c ((exec (.If test body orelse pos) env).wrap K H gd lv) fs s := by
  rw [arm_exec_If]
  refine seg_bind_wrap (wpAny_standAt ?_)
  exact seg_bind_wrap (wpAny_mono h (fun _ _ x => x) fun _ _ x => x.elim)
/-- the frame that waits behind a for -/
noncomputable def backK (env : Env) (K : Flow → Sem Fin) (H : Value → Sem Fin) (gd : Bool → Bool) (lv : List Value → List Value) : Result → Sem Fin := fun r => ((match r with | .ok f => (.pure f : Sem Flow) | .error e => .raise e).onRaise fun (x : Value) => do
        if (← field x 1) == Value.none then unsupported "frame.own-activation:exception-without-traceback"
        setFlight x env.frame).wrap K H gd lv
theorem seg_For {target iter : Expr} {body orelse : List Stmt} {pos : Pos} (hs : ∀ x, foldedSetIterable iter env x = pure x)
    (h : wpAny M (A.over c fs) (eval iter env) (fun x s₁ => wpAny M (A.over c fs) (pyIter x) (fun it s₂ => ∀ p, Seg M A R Y n s₀ (.forLoop target it body orelse env) (M.den (.forLoop target it body orelse env))
      (.ret (backK env K H gd lv) none (gd false) (lv []) c p [] :: fs) s₂) (fun _ _ => False) s₁) (fun _ _ => False) s) :
    Seg M A R Y n s₀ c ((exec (.For target iter body orelse pos) env).wrap K H gd lv) fs s := by
  rw [exec_For]
  refine seg_bind_wrap (wpAny_standAt ?_)
  refine seg_bind_wrap (wpAny_mono h (fun x s₁ h₁ => ?_) fun _ _ x => x.elim)
  refine seg_bind_wrap (wpAny_of_eq (hs x) ?_)
  refine seg_bind_wrap (wpAny_standAt ?_)
  refine seg_bind_wrap (wpAny_holding (wpAny_mono h₁ (fun it s₂ h₂ => ?_) fun _ _ x => x.elim))
  exact seg_call h₂
end
section
variable {prog : Program} {w : World} {A : Around} {R : GenEnd} {Y : Protocol} {n : Nat} {s₀ : Shared} {fs : List Frame} {s : Shared} {env : Env}
noncomputable def turnK (c : Code) : Flow → Sem Fin := fun f => match f with
  | .next | .cont => .pure (.again c)
  | .brk => .pure (.done .next)
  | .ret v => .pure (.done (.ret v))
noncomputable def turnH (env : Env) : Value → Sem Fin := fun e => (do noteFrame e env; theTreesLotGoes e : Sem Unit).bind (fun _ => .raise e)
theorem seg_forLoop {target : Expr} {it : Value} {body : List Stmt}
    (h : wpAny (model prog w) (A.over (.forLoop target it body [] env) fs) (pyNext it) (fun r s₁ => match r with
      | none => Seg (model prog w) A R Y n s₀ (.block [] env) (.pure (.done .next)) fs s₁
      | some v => wpAny (model prog w) (A.over (.forLoop target it body [] env) fs) (letOwnedTupleGo target it v) (fun _ s₂ => wpAny (model prog w) (A.over (.forLoop target it body [] env) fs) (assign target env v) (fun _ s₃ =>
          Seg (model prog w) A R Y n s₀ (.forLoop target it body [] env) ((execs body env).wrap (turnK (.forLoop target it body [] env)) (turnH env) id id) fs s₃) (fun _ _ => False) s₂) (fun _ _ => False) s₁) (fun _ _ => False) s) :
    Seg (model prog w) A R Y n s₀ (.forLoop target it body [] env) ((model prog w).den (.forLoop target it body [] env)) fs s := by
  show Seg _ A R Y n s₀ _ ((forTurn target it body [] env).onRaise (fun x => do noteFrame x env; theTreesLotGoes x)) fs s
  unfold forTurn
  rw [Sem.onRaise_eq_wrap]
  refine seg_bind_wrap (wpAny_standAt ?_)
  refine seg_bind_wrap (wpAny_onRaise (wpAny_mono h (fun r s₁ h₁ => ?_) fun _ _ x => x.elim))
  cases r with
  | none => exact seg_again rfl h₁
  | some v =>
    refine seg_bind_wrap (wpAny_mono h₁ (fun _ s₂ h₂ => ?_) fun _ _ x => x.elim)
    refine seg_bind_wrap (wpAny_mono h₂ (fun _ s₃ h₃ => ?_) fun _ _ x => x.elim)
    rw [Sem.bind_eq_wrap', Sem.wrap_wrap]
    rw [Sem.wrap_congr (execs body env) _ _ (K' := turnK (.forLoop target it body [] env)) (H' := turnH env) (fun f => by cases f <;> rfl) (fun e => by rfl)]
    exact h₃
end
end Mine
end PartGenA

section PartGenB
open PySem.W PyProof.Rows in
theorem Mine.cleanGenB : (1 : Nat) = 1 := by
  (w_on; w_top off; k_with_none)
  first | walk1 | rfl
open PySem PySem.W PyProof.Rows PySem.Spec PySem.Calls
namespace Mine
section
variable {prog : Program} {w : World} {A : Around} {E : Value → Shared → Prop} {s : Shared} {K : Frag} {L : Addr} {h₀ : Heap} {m mg mb : Str → Option Value} {news : List (Addr × Obj)} {p : Program} {loose : List Str} {mean : ExcName → Option Value} {Q : Value → Shared → Prop}
  {name qual : Str} {params : Arguments} {body : List Stmt} {scope : Scope} {dV kV doc pm cdv ct oc : Value} {an od : Option Addr} {osl : Array (Option Value)} {f : Addr} {vals : List Value} {binds : List (Str × Value)}
/-- a call of a def that is a generator -/
theorem call_gen (F : Fr h₀ L s.heap m) (X₀ : K.In h₀) (N : News h₀ L s.heap news) (T : Top p loose mean mg mb h₀)
    (ho : K.lookup f = some ⟨oc, od, .func (fnOf name qual params body scope dV kV doc pm an cdv ct), osl⟩) (hcd : codeIn K cdv qual = true) (hroom : A.depth < recursionLimit)
    (hbind : BindsTo s (fnOf name qual params body scope dV kV doc pm an cdv ct) ⟨vals, []⟩ binds) (hloc : ∀ y ∈ binds, scope.names.lookup y.1 = some .local) (hcell : ∀ x ∈ scope.names, x.2 ≠ .cell)
    (hco : scope.isCoroutine = false) (hgen : scope.isGenerator = true) (hk : scope.kind = .function)
    (h : ∀ (GL : Addr) h' tk, L < GL → (∀ p ∈ news, p.1 < GL) → Fr h₀ L h' m → News h₀ L h' news → h'.Ns GL (fun y => binds.reverse.lookup y) → h'.IsGen (GL + 1) s.gens.size →
      Q (.ref (GL + 1 : Nat)) { s with heap := h', toks := tk, gens := s.gens.push (.fresh (.func body (envOf qual scope GL f cdv))) }) :
    wpAny (model prog w) A (call (.ref f) vals) Q E s := by
  refine wpAny_call ?_
  refine codeAny_call_generator (fd := fnOf name qual params body scope dV kV doc pm an cdv ct) (body := body) hroom ((X₀.keeps F.keep) _ _ ho) rfl hco hgen rfl (codeRec_of (X₀.keeps F.keep) hcd) (hbind _ _ _ _ ?_)
  refine wpAny_newFunctionEnv hcell hloc (fun h₁ hns hsb => ⟨(T.nolimit.keeps F.keep).fresh _ hsb, ?_⟩) hk
  have hsz : h₁.objs.size = s.heap.objs.size + 1 := by rw [hsb.1, Heap.size_push]
  have up : ∀ b o, s.heap.get? b = some o → h₁.get? b = some o := fun b o e => hsb.extBut b o (Nat.ne_of_lt (Heap.lt_size e)) (Heap.get?_push_of_some _ e)
  have hG : ∀ o : Obj, (h₁.push o).objs.size = h₁.objs.size + 1 := fun o => Heap.size_push ..
  have := h s.heap.objs.size (h₁.push { cls := .type "generator", data := .fields #[.int s.gens.size 0, .str name (s.toks + binds.length), .str qual (s.toks + binds.length + 1)] }) (s.toks + binds.length + 1 + 1)
    F.ns.lt (fun p hp => Heap.lt_size (N p hp).1) (F.kept fun b o e => Heap.get?_push_of_some _ (up b o e)) (N.grown fun b o e => Heap.get?_push_of_some _ (up b o e)) (hns.push _)
    ⟨_, _, _, by rw [← hsz]; exact Heap.get?_push_size _ rfl, rfl, rfl, rfl⟩
  rw [← hsz] at this
  exact this
end
end Mine
end PartGenB

section PartGenC
open PySem.W PyProof.Rows in
theorem Mine.cleanGenC : (1 : Nat) = 1 := by
  (w_on; w_top off; k_with_none)
  first | walk1 | rfl
open PySem PySem.W PyProof.Rows PySem.Spec PySem.Calls
namespace Mine
/-- what stands in the ledger of all that is not the generator's own: addresses up to G, its frame left out -/
noncomputable def Kept (G GL : Nat) (s₀ s : Shared) : Prop := ∃ h' tk, s = { s₀ with heap := h', toks := tk } ∧ ∀ (b : Nat) o, b ≤ G → b ≠ GL → s₀.heap.get? b = some o → h'.get? b = some o
theorem Kept.refl (G GL : Nat) (s : Shared) : Kept G GL s s := ⟨s.heap, s.toks, rfl, fun _ _ _ _ e => e⟩
theorem Kept.step {G GL : Nat} {s₀ s : Shared} (x : Kept G GL s₀ s) {h' : Heap} {tk : Nat} (hk : ∀ (b : Nat) o, b ≤ G → b ≠ GL → s.heap.get? b = some o → h'.get? b = some o) : Kept G GL s₀ { s with heap := h', toks := tk } := by
  obtain ⟨h₁, tk₁, rfl, hk₁⟩ := x
  exact ⟨h', tk, rfl, fun b o hb hg e => hk b o hb hg (hk₁ b o hb hg e)⟩
abbrev GR (G GL : Nat) : GenEnd := fun n s₀ r s => r = .ok (.ret .none) ∧ (n = 0 ∧ Kept G GL s₀ s)
noncomputable def GY (G GL : Nat) (x : Str) : Protocol := fun m s₀ v s κ => ∃ (i c D u1 u2 EN IT : Nat) (oGL oEN oIT : Obj), m + (i + 1) = x.cps.size ∧ x.cps[i]? = some c ∧ v = .ref D ∧
  s.heap.get? D = some { cls := .type "tuple", data := .seq #[.int (i : Int) u1, .str ⟨#[c]⟩ u2] } ∧ G < D ∧ G < EN ∧ G < IT ∧ s.heap.get? GL = some oGL ∧ s.heap.get? EN = some oEN ∧ s.heap.get? IT = some oIT ∧ Kept G GL s₀ s ∧
  ∀ s'' : Shared, s''.heap.get? GL = some oGL → s''.heap.get? EN = some oEN → s''.heap.get? IT = some oIT → κ (.send .none) s''
noncomputable def enSt (x : Str) (tx : Tok) (EN IT : Addr) (i : Nat) (h : Heap) : Prop := (∃ old, IsEnum h EN IT i old) ∧ h.IsStrIter IT (strIterType x) x tx i
noncomputable def enPt (x : Str) (i : Nat) (vals : Array Value) : Prop := ∃ t v, (∃ c u, x.cps[i]? = some c ∧ v = Value.str ⟨#[c]⟩ u) ∧ vals = #[.int i t, v]
section
variable {prog : Program} {w : World} {A : Around}
theorem enWalk (hh : A.handled = none) (x : Str) (tx : Tok) (EN IT : Addr) (hne : EN ≠ IT) : ∃ Mid, WalksT prog w A EN [EN, IT] [EN, IT] x.cps.size (enPt x) (enSt x tx EN IT) Mid := by
  unfold enSt enPt strIterType
  cases ha : x.cps.all (· < 128)
  · exact ⟨_, by simpa using WalksT.enumerateD (Draws.strWide (prog := prog) (w := w) (A := A.in1) hh IT x tx) EN hne (by simpa using hne) (by simp)⟩
  · exact ⟨_, by simpa using WalksT.enumerateD (Draws.strAscii (prog := prog) (w := w) (A := A.in1) hh IT x tx) EN hne (by simpa using hne) (by simp)⟩
variable {x : Str} {tx : Tok} {env : Env} {fs : List Frame} {G EN IT : Nat}
/-- the loop of the generator, from its i-th turn on -/
theorem gen_loop {px pc pt p1 p2 p3 p4 p5 p6 p7 p8 p9 p10 p11 : Pos} {k1 k2 k3 : Nat} {B1 B2 : List Stmt}
    (hh : A.handled = none) (hpos : env.kindOf (Str.ofString "pos") = some .local) (hch : env.kindOf (Str.ofString "ch") = some .local) (hesc : env.kindOf (Str.ofString "escape") = some .local)
    (hk : env.scope.kind = .function) (hco : env.scope.isCoroutine = false) (hi : interactive env = false) (hfs : splitAtGen fs = none) (hfg : fs.any Frame.guarded = false)
    (hh' : (A.over (.forLoop (.Tuple [.Name (Str.ofString "pos") px, .Name (Str.ofString "ch") pc] k1 pt) (.ref EN) [.If (.Name (Str.ofString "escape") p1) B1 [.If (.Compare (.Name (Str.ofString "ch") p2) [.Eq] [.Constant (.str (Str.ofString "\\")) k2 p3] p4) B2
      [.Expr (.Yield (some (.Tuple [.Name (Str.ofString "pos") p5, .Name (Str.ofString "ch") p6] k3 p7)) p8) p9] p10] p11] [] env) fs).handled = none)
    (hG : env.locals < G) (hEN : G < EN) (hIT : G < IT) (hne : EN ≠ IT) (hx : ∀ (i : Nat) (c : Nat), x.cps[i]? = some c → c ≠ 92)
    (done : ∀ (s₀ s : Shared) m, s.heap.Ns env.locals m → m (Str.ofString "escape") = some (.bool false) → Kept G env.locals s₀ s →
      Seg (model prog w) A (GR G env.locals) (GY G env.locals x) 0 s₀ (.block [] env) (.pure (.done .next)) fs s) :
    ∀ (k i : Nat) (s₀ s : Shared) m, x.cps.size - i = k → i ≤ x.cps.size → enSt x tx EN IT i s.heap → s.heap.Ns env.locals m → m (Str.ofString "escape") = some (.bool false) → Kept G env.locals s₀ s →
      Seg (model prog w) A (GR G env.locals) (GY G env.locals x) k s₀
        (.forLoop (.Tuple [.Name (Str.ofString "pos") px, .Name (Str.ofString "ch") pc] k1 pt) (.ref EN) [.If (.Name (Str.ofString "escape") p1) B1 [.If (.Compare (.Name (Str.ofString "ch") p2) [.Eq] [.Constant (.str (Str.ofString "\\")) k2 p3] p4) B2
          [.Expr (.Yield (some (.Tuple [.Name (Str.ofString "pos") p5, .Name (Str.ofString "ch") p6] k3 p7)) p8) p9] p10] p11] [] env)
        ((model prog w).den (.forLoop (.Tuple [.Name (Str.ofString "pos") px, .Name (Str.ofString "ch") pc] k1 pt) (.ref EN) [.If (.Name (Str.ofString "escape") p1) B1 [.If (.Compare (.Name (Str.ofString "ch") p2) [.Eq] [.Constant (.str (Str.ofString "\\")) k2 p3] p4) B2
          [.Expr (.Yield (some (.Tuple [.Name (Str.ofString "pos") p5, .Name (Str.ofString "ch") p6] k3 p7)) p8) p9] p10] p11] [] env)) fs s := by
  have hp : (env.scope.kind == .class || (env.scope.kind == .module && env.locals != env.globals)) = false := by rw [hk]; rfl
  have hLE : env.locals ≠ EN := Nat.ne_of_lt (Nat.lt_trans hG hEN)
  have hLI : env.locals ≠ IT := Nat.ne_of_lt (Nat.lt_trans hG hIT)
  have n1 : Str.ofString "escape" ≠ Str.ofString "ch" := by decide +kernel
  have n2 : Str.ofString "escape" ≠ Str.ofString "pos" := by decide +kernel
  have n3 : Str.ofString "pos" ≠ Str.ofString "ch" := by decide +kernel
  intro k
  induction k with
  | zero =>
    intro i s₀ s m hki hi hst hn he hK
    have hin : i = x.cps.size := by omega
    subst hin
    refine seg_forLoop ?_
    obtain ⟨Mid, W⟩ := enWalk (prog := prog) (w := w) hh' x tx EN IT hne
    refine W.done _ _ _ hst fun h' tk hk' => ?_
    refine done s₀ _ m (hn.at' fun o e => hk' _ o (by simp [hLE, hLI]) e) he (hK.step fun b o hb _ e => hk' b o ?_ e)
    have hb1 : b ≠ EN := Nat.ne_of_lt (Nat.lt_of_le_of_lt hb hEN)
    have hb2 : b ≠ IT := Nat.ne_of_lt (Nat.lt_of_le_of_lt hb hIT)
    simp [hb1, hb2]
  | succ k ih =>
    intro i s₀ s m hki hi' hst hn he hK
    have hlt : i < x.cps.size := by omega
    refine seg_forLoop ?_
    obtain ⟨Mid, W⟩ := enWalk (prog := prog) (w := w) hh' x tx EN IT hne
    refine W.item i _ _ _ hlt hst fun T vals h₁ tk₁ hPt hT hTup hMid hk₁ => ?_
    obtain ⟨t, v, ⟨c, u, hc, rfl⟩, rfl⟩ := hPt
    have hGs : G < s.heap.objs.size := by
      obtain ⟨⟨old, h1⟩, _⟩ := hst
      exact Nat.lt_trans hEN (Heap.lt_size h1)
    have hGT : G < T := Nat.lt_of_lt_of_le hGs hT
    have low : ∀ b : Nat, b ≤ G → b ∉ [EN, IT] := fun b hb => by
      have hb1 : b ≠ EN := Nat.ne_of_lt (Nat.lt_of_le_of_lt hb hEN)
      have hb2 : b ≠ IT := Nat.ne_of_lt (Nat.lt_of_le_of_lt hb hIT)
      simp [hb1, hb2]
    refine W.go _ _ _ i T _ _ _ hMid fun h₂ hst₂ hk₂ => ?_
    have hTup₂ : h₂.IsTuple T #[.int i t, .str ⟨#[c]⟩ u] := by
      obtain ⟨o, ho, r⟩ := hTup
      exact ⟨o, hk₂ T o (W.apart i T _ hMid) ho, r⟩
    have hn₂ : h₂.Ns env.locals m := (hn.at' fun o e => hk₁ _ o (low _ (Nat.le_of_lt hG)) e).at' fun o e => hk₂ _ o (low _ (Nat.le_of_lt hG)) e
    refine wpAny_assign_Tuple hh' hTup₂ rfl rfl fun h₃ hx₃ => ?_
    replace hx₃ : Heap.ExtBut h₂.objs.size h₂ h₃ := hx₃
    have hsz₂ : ∀ b o, h₂.get? b = some o → h₃.get? b = some o := fun b o e => hx₃ b o (Nat.ne_of_lt (Heap.lt_size e)) e
    have hn₃ : h₃.Ns env.locals m := hn₂.at' fun o e => hsz₂ _ o e
    show wpAny _ _ (do holding [.str ⟨#[c]⟩ u] (assign (.Name (Str.ofString "pos") px) env (.int i t)); do holding [] (assign (.Name (Str.ofString "ch") pc) env (.str ⟨#[c]⟩ u)); pure ()) _ _ _
    refine wpAny_bind (wpAny_holding (wpAny_assign_Name (wpAny_storeName_local hpos hn₃ (fun h₄ hn₄ hs₄ => ?_) hp)))
    replace hs₄ : Heap.SameBut env.locals h₃ h₄ := hs₄
    refine wpAny_bind (wpAny_holding (wpAny_assign_Name (wpAny_storeName_local hch hn₄ (fun h₅ hn₅ hs₅ => wpAny_pure ?_) hp)))
    replace hs₅ : Heap.SameBut env.locals h₄ h₅ := hs₅
    have st₅ : enSt x tx EN IT (i + 1) h₅ := W.frame _ _ _ hst₂ fun b hb o e => by
      have hbL : b ≠ env.locals := by
        rcases List.mem_cons.mp hb with rfl | hb
        · exact hLE.symm
        · rw [List.mem_singleton.mp hb]; exact hLI.symm
      exact hs₅.extBut b o hbL (hs₄.extBut b o hbL (hsz₂ b o e))
    have K₅ : Kept G env.locals s₀ { s with heap := h₅, toks := tk₁ + 1 + 1 } := hK.step fun b o hb hbL e =>
      hs₅.extBut b o hbL (hs₄.extBut b o hbL (hsz₂ b o (hk₂ b o (low b hb) (hk₁ b o (low b hb) e))))
    have hGs₅ : G < h₅.objs.size := by
      obtain ⟨⟨old, h1⟩, _⟩ := st₅
      exact Nat.lt_trans hEN (Heap.lt_size h1)
    -- the turn's body
    refine seg_execs_cons (seg_If ?_)
    refine isTrue_plain (wpAny_Name (wpAny_loadName_local hk hesc hn₅ (v := .bool false) (by simp [n1, n2, he]) (wpAny_truthy_bool ?_)))
    rw [if_neg Bool.false_ne_true]
    refine seg_execs_cons (seg_If ?_)
    refine wpAny_isTrue_Compare1 (wpAny_Name (wpAny_loadName_local hk hch hn₅ (v := .str ⟨#[c]⟩ u) (by simp) (wpAny_Constant_str (PyProof.Rows.eq_str (wpAny_truthy_bool ?_)))))
    have hcc : ((⟨#[c]⟩ : Str) == Str.ofString "\\") = false := by
      have := hx i c hc
      have e : Str.ofString "\\" = ⟨#[92]⟩ := by decide +kernel
      rw [e, one_eq]; simpa using this
    rw [hcc, if_neg Bool.false_ne_true]
    refine seg_execs_cons (seg_Expr_Yield hfs rfl hfg ?_ hco hi)
    refine wpAny_Tuple (spliced_more (wpAny_Name (wpAny_loadName_local hk hpos hn₅ (v := .int i t) (by simp [n3]) (spliced_more (wpAny_Name (wpAny_loadName_local hk hch hn₅ (v := .str ⟨#[c]⟩ u) (by simp) (spliced_none ⟨by show 2 ≤ sizeLine; rw [sizeLine_eq]; omega, ?_⟩)))))))
    intro kap hkap
    obtain ⟨⟨old, hen⟩, ⟨oI, hoI, rI⟩⟩ := id st₅
    obtain ⟨oL, esL, epL, hoL, rL⟩ := id hn₅
    refine ⟨i, c, h₅.objs.size, t, u, EN, IT, oL, _, oI, by omega, hc, rfl, Heap.get?_push_size _ rfl, hGs₅, hEN, hIT, Heap.get?_push_of_some _ hoL, Heap.get?_push_of_some _ hen, Heap.get?_push_of_some _ hoI,
      K₅.step fun b o _ _ e => Heap.get?_push_of_some _ e, fun s'' g1 g2 g3 => ?_⟩
    refine hkap .none s'' ?_
    show Seg _ _ _ _ _ _ _ (.pure (.again _)) fs s''
    refine seg_again rfl (ih (i + 1) s'' s'' _ (by omega) hlt ⟨⟨old, g2⟩, ⟨oI, g3, rI⟩⟩ ⟨oL, esL, epL, g1, rL⟩ (by simp [n1, n2, he]) (Kept.refl _ _ _))
end
end Mine
end PartGenC

section PartGenD
open PySem.W PyProof.Rows in
theorem Mine.cleanGenD : (1 : Nat) = 1 := by
  (w_on; w_top off; k_with_none)
  first | walk1 | rfl
open PySem PySem.W PyProof.Rows PySem.Spec PySem.Calls
namespace Mine
section
variable {prog : Program} {w : World} {A : Around} {E : Value → Shared → Prop} {s : Shared} {x : Str} {G GL : Addr} {Q : Option Value → Shared → Prop}
/-- one draw from the generator -/
theorem gen_next {g i : Nat} {gs : GenState} (hh : A.handled = none) (hl : s.heap.NoLimit) (hroom : A.depth < recursionLimit) (hg : s.heap.IsGen G g) (hgs : s.gens[g]? = some gs) (hi : i ≤ x.cps.size)
    (hgo : gs.Goes (model prog w) A.in1 (GR G GL) (GY G GL x) (x.cps.size - i) (.send .none) (s.setGen g .running))
    (hsome : i < x.cps.size → ∀ (c D u1 u2 EN IT : Nat) (oGL oEN oIT : Obj) h' tk gs' gens', x.cps[i]? = some c → h'.get? D = some { cls := .type "tuple", data := .seq #[.int (i : Int) u1, .str ⟨#[c]⟩ u2] } → G < D → G < EN → G < IT →
      h'.get? GL = some oGL → h'.get? EN = some oEN → h'.get? IT = some oIT → (∀ (b : Nat) o, b ≤ G → b ≠ GL → s.heap.get? b = some o → h'.get? b = some o) → GenOnly g s.gens gens' → gens'[g]? = some gs' →
      (∀ s'' : Shared, s''.heap.get? GL = some oGL → s''.heap.get? EN = some oEN → s''.heap.get? IT = some oIT → gs'.Goes (model prog w) A.in1 (GR G GL) (GY G GL x) (x.cps.size - (i + 1)) (.send .none) s'') →
      Q (some (.ref D)) { s with heap := h', toks := tk, gens := gens' })
    (hnone : i = x.cps.size → ∀ h' tk gens', (∀ (b : Nat) o, b ≤ G → b ≠ GL → s.heap.get? b = some o → h'.get? b = some o) → GenOnly g s.gens gens' → gens'[g]? = some .finished → Q none { s with heap := h', toks := tk, gens := gens' }) :
    wpAny (model prog w) A (pyNext (.ref G)) Q E s := by
  refine wpAny_pyNext_gen (P := fun n s₀ s₁ => n = 0 ∧ Kept G GL s₀ s₁) hh hl hroom hg hgs hgo (fun v s₁ gs' hv => ?_) (fun s₁ hp h' hk => ?_)
  · obtain ⟨i', c, D, u1, u2, EN, IT, oGL, oEN, oIT, hm, hc, rfl, hD, h1, h2, h3, g1, g2, g3, ⟨h', tk, rfl, hk⟩, hkap⟩ := hv
    cases hn : x.cps.size - i with
    | zero =>
      rw [hn] at hkap
      exact (hkap _ g1 g2 g3).elim
    | succ m =>
      rw [hn] at hkap
      have ei : i' = i := by omega
      subst ei
      have em : x.cps.size - (i' + 1) = m := by omega
      exact hsome (by omega) c D u1 u2 EN IT oGL oEN oIT h' tk gs' _ hc hD h1 h2 h3 g1 g2 g3 hk ((GenOnly.setGen s g .running).trans (GenOnly.setGen _ g gs')) (setGen_self (gs := .running) (setGen_self hgs)) (fun s'' q1 q2 q3 => em ▸ hkap s'' q1 q2 q3)
  · obtain ⟨hn, h₁, tk, rfl, hk₁⟩ := hp
    exact hnone (by omega) h' tk _ (fun b o hb hg e => hk b o (hk₁ b o hb hg e)) ((GenOnly.setGen s g .running).trans (GenOnly.setGen _ g .finished)) (setGen_self (gs := .running) (setGen_self hgs))
end
section
variable {prog : Program} {w : World} {A : Around} {x : Str} {tx : Tok} {env : Env} {G : Nat}
/-- the generator from its start -/
theorem gen_start {px pc pt p1 p2 p3 p4 p5 p6 p7 p8 p9 p10 p11 q1 q2 q3 q4 q5 q6 q7 q8 q9 : Pos} {k1 k2 k3 k4 k5 : Nat} {B1 B2 B3 : List Stmt} {iter : Expr} {body : List Stmt} {GL : Nat} (hL : env.locals = GL)
    (hbody : body = [.Assign [.Name (Str.ofString "pos") q1] (.Constant (.int 0) k4 q2) q3, .Assign [.Name (Str.ofString "escape") q4] (.Constant (.bool false) k5 q5) q6,
      .For (.Tuple [.Name (Str.ofString "pos") px, .Name (Str.ofString "ch") pc] k1 pt) iter [.If (.Name (Str.ofString "escape") p1) B1 [.If (.Compare (.Name (Str.ofString "ch") p2) [.Eq] [.Constant (.str (Str.ofString "\\")) k2 p3] p4) B2
        [.Expr (.Yield (some (.Tuple [.Name (Str.ofString "pos") p5, .Name (Str.ofString "ch") p6] k3 p7)) p8) p9] p10] p11] [] q7, .If (.Name (Str.ofString "escape") q8) B3 [] q9])
    (hh : A.handled = none) (hpos : env.kindOf (Str.ofString "pos") = some .local) (hch : env.kindOf (Str.ofString "ch") = some .local) (hesc : env.kindOf (Str.ofString "escape") = some .local)
    (hk : env.scope.kind = .function) (hco : env.scope.isCoroutine = false) (hi : interactive env = false)
    (hG : GL < G) (hx : ∀ (i : Nat) (c : Nat), x.cps[i]? = some c → c ≠ 92) (hs : ∀ v, foldedSetIterable iter env v = pure v)
    {s : Shared} (hGs : G < s.heap.objs.size) (hn : s.heap.Ns env.locals (fun y => if y = Str.ofString "addr" then some (.str x tx) else none))
    (hit : ∀ (s' : Shared) (t0 : Tok) (Q : Value → Shared → Prop), (∃ h' tk, s' = { s with heap := h', toks := tk } ∧ ∀ b o, b ≠ env.locals → s.heap.get? b = some o → h'.get? b = some o) → s'.heap.Ns env.locals (fun y => if y = Str.ofString "escape" then some (.bool false) else if y = Str.ofString "pos" then some (.int 0 t0) else if y = Str.ofString "addr" then some (.str x tx) else none) →
      (∀ h' tk, IsEnum h' (s'.heap.objs.size + 1) s'.heap.objs.size 0 .none → h'.IsStrIter s'.heap.objs.size (strIterType x) x tx 0 → (∀ b o, s'.heap.get? b = some o → h'.get? b = some o) → Q (.ref (s'.heap.objs.size + 1 : Nat)) { s' with heap := h', toks := tk }) →
      wpAny (model prog w) (A.over (.func body env) []) (eval iter env) Q (fun _ _ => False) s') :
    Seg (model prog w) A (GR G GL) (GY G GL x) x.cps.size s (.func body env) ((model prog w).den (.func body env)) [] s := by
  subst hL
  have hp : (env.scope.kind == .class || (env.scope.kind == .module && env.locals != env.globals)) = false := by rw [hk]; rfl
  have n1 : Str.ofString "escape" ≠ Str.ofString "ch" := by decide +kernel
  have n2 : Str.ofString "escape" ≠ Str.ofString "pos" := by decide +kernel
  have n3 : Str.ofString "addr" ≠ Str.ofString "pos" := by decide +kernel
  have n4 : Str.ofString "addr" ≠ Str.ofString "escape" := by decide +kernel
  subst hbody
  refine seg_func ?_
  refine seg_stmt (wpAny_Assign_Name (wpAny_Constant_int (wpAny_storeName_local hpos hn (fun h₁ hn₁ hs₁ => ⟨rfl, ?_⟩) hp)))
  refine seg_stmt (wpAny_Assign_Name (wpAny_Constant_bool (wpAny_storeName_local hesc hn₁ (fun h₂ hn₂ hs₂ => ⟨rfl, ?_⟩) hp)))
  replace hs₁ : Heap.SameBut env.locals s.heap h₁ := hs₁
  replace hs₂ : Heap.SameBut env.locals h₁ h₂ := hs₂
  have K₂ : Kept G env.locals s { s with heap := h₂, toks := s.toks + 1 + 1 + 1 } := ⟨_, _, rfl, fun b o _ hb e => hs₂.extBut b o hb (hs₁.extBut b o hb e)⟩
  refine seg_execs_cons (seg_For hs ?_)
  have up₂ : ∀ b o, b ≠ env.locals → s.heap.get? b = some o → h₂.get? b = some o := fun b o hb e => hs₂.extBut b o hb (hs₁.extBut b o hb e)
  have hz₂ : h₂.objs.size = s.heap.objs.size := by rw [hs₂.1, hs₁.1]
  refine hit _ _ _ ⟨h₂, _, rfl, up₂⟩ hn₂ fun h₃ tk₃ hen hst hk₃ => ?_
  refine wpAny_pyIter_enum hen fun p => ?_
  have hGE : G < h₂.objs.size + 1 := by omega
  have hGI : G < h₂.objs.size := by omega
  refine gen_loop (x := x) (tx := tx) (EN := h₂.objs.size + 1) (IT := h₂.objs.size) hh hpos hch hesc hk hco hi (by rfl) (by rfl) (by exact hh) hG hGE hGI (Nat.succ_ne_self _) hx ?_ _ 0 s _ _ (Nat.sub_zero _) (Nat.zero_le _) ⟨⟨_, hen⟩, hst⟩ (hn₂.at' fun o e => hk₃ _ o e) (by simp) (K₂.step fun b o _ _ e => hk₃ b o e)
  intro s₀ s₁ m₁ hn₁' he₁ hK₁
  refine seg_leaf (r := .ok .next) ?_
  show Seg _ A _ _ _ _ _ ((execs [.If _ _ _ _] env).wrap _ _ _ _) [] s₁
  refine seg_execs_cons (seg_If (isTrue_plain (wpAny_Name (wpAny_loadName_local hk hesc hn₁' he₁ (wpAny_truthy_bool ?_)))))
  rw [if_neg Bool.false_ne_true]
  exact seg_end (.ok (.ret .none)) ⟨rfl, rfl, hK₁⟩
end
end Mine
end PartGenD

section PartPlainStrip
open PySem.W PyProof.Rows in
theorem Mine.cleanPlainStrip : (1 : Nat) = 1 := by
  (w_on; w_top off; k_with_none)
  first | walk1 | rfl
open PySem PySem.W PyProof.Rows
namespace Mine
/-- within quotes or not, and what stood outside of them -/
noncomputable def stepQ (q : Bool × List Nat) (c : Nat) : Bool × List Nat := if c = 34 then (!q.1, q.2) else if q.1 then q else (q.1, q.2 ++ [c])
noncomputable def runQ (l : List Nat) : Bool × List Nat := l.foldl stepQ (false, [])
theorem runQ_snoc (l : List Nat) (c : Nat) : runQ (l ++ [c]) = stepQ (runQ l) c := by simp [runQ]
theorem runQ_plain : ∀ (l : List Nat), 34 ∉ l → runQ l = (false, l) := by
  have h : ∀ (l a : List Nat), 34 ∉ l → l.foldl stepQ (false, a) = (false, a ++ l) := by
    intro l
    induction l with
    | nil => simp
    | cons c r ih =>
      intro a hl
      have hc : c ≠ 34 := fun e => hl (by simp [e])
      have hr : 34 ∉ r := fun e => hl (by simp [e])
      rw [List.foldl_cons]
      have e : stepQ (false, a) c = (false, a ++ [c]) := by simp [stepQ, hc]
      rw [e, ih _ hr]; simp
  intro l hl
  have := h l [] hl
  simpa [runQ] using this
theorem LL_slice {x : Str} {i j : Int} (h : 0 ≤ i ∧ i ≤ j ∧ j ≤ x.length) : LL (Txt.slice x (some i) (some j)) = ((LL x).take j.toNat).drop i.toNat := by
  have e := beq_iff_eq.mp (slice_closes (x := x) (i := i) (j := j) h)
  rw [e]
  simp only [LL]
  rw [List.drop_take]
  congr 1
  omega
theorem LL_join : ∀ ys : List Str, LL (Txt.join (Str.ofString "") ys) = (ys.map LL).flatten := by
  have key : ∀ ys : List Str, LL (Str.join (Str.ofString "") ys) = (ys.map LL).flatten := by
    intro ys
    induction ys with
    | nil => rfl
    | cons y r ih =>
      cases r with
      | nil => simp [join_one, LL]
      | cons z r =>
        rw [join_cons_cons, List.map_cons, List.flatten_cons, ← ih]
        show (y.cps ++ (Str.ofString "").cps ++ (Str.join (Str.ofString "") (z :: r)).cps).toList = _
        have e : (Str.ofString "").cps = #[] := by decide +kernel
        rw [e]
        simp [LL]
  intro ys
  rw [beq_iff_eq.mp (join_plain_closes (Str.ofString "") ys)]
  exact key ys
/-- the loop of _strip_quoted_realnames, between two turns -/
noncomputable def SInv (x : Str) (i : Nat) (st : Int) (op : Option Int) (parts : List Str) : Prop :=
  0 ≤ st ∧ parts.length ≤ i ∧ ((parts.map (·.length)).sum ≤ i) ∧ match op with
  | none => st ≤ i ∧ runQ ((LL x).take i) = (false, (parts.map LL).flatten ++ ((LL x).take i).drop st.toNat)
  | some o => st ≤ o ∧ o < i ∧ runQ ((LL x).take i) = (true, (parts.map LL).flatten ++ ((LL x).take o.toNat).drop st.toNat)
theorem take_snoc {x : Str} {i c : Nat} (h : x.cps[i]? = some c) : (LL x).take (i + 1) = (LL x).take i ++ [c] := by
  have h' : (LL x)[i]? = some c := by simpa [LL] using h
  rw [List.take_add_one, h']; rfl
theorem lt_of_sign {x : Str} {i c : Nat} (h : x.cps[i]? = some c) : i < (LL x).length := by
  have h' : (LL x)[i]? = some c := by simpa [LL] using h
  exact (List.getElem?_eq_some_iff.mp h').1
theorem len_take {x : Str} {i : Nat} (h : i ≤ (LL x).length) : ((LL x).take i).length = i := by rw [List.length_take]; exact Nat.min_eq_left h
theorem sinv_open {x : Str} {i c : Nat} {st : Int} {parts : List Str} (hc : x.cps[i]? = some c) (h34 : c = 34) (h : SInv x i st none parts) : SInv x (i + 1) st (some (i : Int)) parts := by
  obtain ⟨h0, h1, h2, h3, h4⟩ := h
  refine ⟨h0, by omega, by omega, h3, by omega, ?_⟩
  rw [take_snoc hc, runQ_snoc, h4, h34]
  simp [stepQ]
theorem sinv_sign {x : Str} {i c : Nat} {st : Int} {parts : List Str} (hc : x.cps[i]? = some c) (h34 : c ≠ 34) (h : SInv x i st none parts) : SInv x (i + 1) st none parts := by
  obtain ⟨h0, h1, h2, h3, h4⟩ := h
  refine ⟨h0, by omega, by omega, by omega, ?_⟩
  have hl := lt_of_sign hc
  rw [take_snoc hc, runQ_snoc, h4, List.drop_append_of_le_length (by rw [len_take (by omega)]; omega)]
  simp [stepQ, h34]
theorem sinv_in {x : Str} {i c : Nat} {st o : Int} {parts : List Str} (hc : x.cps[i]? = some c) (h34 : c ≠ 34) (h : SInv x i st (some o) parts) : SInv x (i + 1) st (some o) parts := by
  obtain ⟨h0, h1, h2, h3, h4, h5⟩ := h
  refine ⟨h0, by omega, by omega, h3, by omega, ?_⟩
  rw [take_snoc hc, runQ_snoc, h5]
  simp [stepQ, h34]
theorem sinv_close {x : Str} {i c : Nat} {st o : Int} {parts : List Str} (hc : x.cps[i]? = some c) (h34 : c = 34) (h : SInv x i st (some o) parts) : SInv x (i + 1) ((i : Int) + 1) none (parts ++ [Txt.slice x (some st) (some o)]) := by
  obtain ⟨h0, h1, h2, h3, h4, h5⟩ := h
  have hl := lt_of_sign hc
  have e1 : LL (Txt.slice x (some st) (some o)) = ((LL x).take o.toNat).drop st.toNat := LL_slice ⟨h0, h3, by rw [length_of_LL]; omega⟩
  have e2 : (Txt.slice x (some st) (some o)).length = o.toNat - st.toNat := by
    rw [length_of_LL, e1, List.length_drop, len_take (by omega)]
  refine ⟨by omega, by rw [List.length_append, List.length_singleton]; omega, ?_, by omega, ?_⟩
  · have hsum : (parts.map (·.length)).sum + (o.toNat - st.toNat) ≤ i + 1 := by
      have hf : ((parts.map LL).flatten).length = (parts.map (·.length)).sum := by
        rw [List.length_flatten, List.map_map]; rfl
      have hr : ∀ l : List Nat, (runQ l).2.length ≤ l.length := by
        have key : ∀ (l : List Nat) (q : Bool × List Nat), (l.foldl stepQ q).2.length ≤ q.2.length + l.length := by
          intro l
          induction l with
          | nil => intro q; simp
          | cons c r ih =>
            intro q
            rw [List.foldl_cons]
            have := ih (stepQ q c)
            have h2 : (stepQ q c).2.length ≤ q.2.length + 1 := by
              unfold stepQ
              split
              · simp
              · split
                · omega
                · simp
            rw [List.length_cons]; omega
        intro l
        have := key l (false, [])
        simpa [runQ] using this
      have h6 := hr ((LL x).take i)
      rw [h5, len_take (by omega)] at h6
      simp only [List.length_append, hf, List.length_drop, len_take (show o.toNat ≤ (LL x).length by omega)] at h6
      omega
    rw [List.map_append, List.sum_append, List.map_singleton, List.sum_singleton, e2]
    exact hsum
  · rw [take_snoc hc, runQ_snoc, h5, h34]
    have e3 : ((LL x).take i ++ [34]).drop ((i : Int) + 1).toNat = [] := by
      apply List.drop_eq_nil_of_le
      rw [List.length_append, len_take (by omega), List.length_singleton]; omega
    rw [e3, List.map_append, List.flatten_append, List.map_singleton, List.flatten_singleton, e1]
    simp [stepQ]
theorem sinv_skip {x : Str} {i c : Nat} {st o : Int} {parts : List Str} (hc : x.cps[i]? = some c) (h34 : c = 34) (hne : st = o) (h : SInv x i st (some o) parts) : SInv x (i + 1) ((i : Int) + 1) none parts := by
  obtain ⟨h0, h1, h2, h3, h4, h5⟩ := h
  have hl := lt_of_sign hc
  refine ⟨by omega, by omega, by omega, by omega, ?_⟩
  rw [take_snoc hc, runQ_snoc, h5, h34]
  have e3 : ((LL x).take i ++ [34]).drop ((i : Int) + 1).toNat = [] := by
    apply List.drop_eq_nil_of_le
    rw [List.length_append, len_take (by omega), List.length_singleton]; omega
  have e4 : ((LL x).take o.toNat).drop st.toNat = [] := by
    apply List.drop_eq_nil_of_le
    rw [len_take (by omega), hne]; exact Nat.le_refl _
  rw [e3, e4]
  simp [stepQ]
theorem sinv_end_more {x : Str} {st : Int} {op : Option Int} {parts : List Str} (h : SInv x x.cps.size st op parts) (he : (runQ (LL x)).1 = false) (hlt : st < x.length) :
    LL (Txt.join (Str.ofString "") (parts ++ [Txt.slice x (some st) none])) = (runQ (LL x)).2 := by
  have hx : (LL x).take x.cps.size = LL x := List.take_of_length_le (by rw [LL, Array.length_toList]; exact Nat.le_refl _)
  obtain ⟨h0, h1, h2, h3⟩ := h
  cases op with
  | some o => rw [hx] at h3; rw [h3.2.2] at he; cases he
  | none =>
    rw [hx] at h3
    rw [LL_join, List.map_append, List.flatten_append, List.map_singleton, List.flatten_singleton, slice_from h0 (by omega), h3.2]
theorem sinv_end {x : Str} {st : Int} {op : Option Int} {parts : List Str} (h : SInv x x.cps.size st op parts) (he : (runQ (LL x)).1 = false) (hge : ¬ st < x.length) :
    LL (Txt.join (Str.ofString "") parts) = (runQ (LL x)).2 := by
  have hx : (LL x).take x.cps.size = LL x := List.take_of_length_le (by rw [LL, Array.length_toList]; exact Nat.le_refl _)
  obtain ⟨h0, h1, h2, h3⟩ := h
  cases op with
  | some o => rw [hx] at h3; rw [h3.2.2] at he; cases he
  | none =>
    rw [hx] at h3
    have e4 : (LL x).drop st.toNat = [] := by
      apply List.drop_eq_nil_of_le
      rw [len_LL]; omega
    rw [LL_join, h3.2, e4, List.append_nil]
theorem sinv_none {x : Str} {st : Int} {op : Option Int} {parts : List Str} (h : SInv x x.cps.size st op parts) (he : (runQ (LL x)).1 = false) : op = none := by
  have hx : (LL x).take x.cps.size = LL x := List.take_of_length_le (by rw [LL, Array.length_toList]; exact Nat.le_refl _)
  obtain ⟨h0, h1, h2, h3⟩ := h
  cases op with
  | some o => rw [hx] at h3; rw [h3.2.2] at he; cases he
  | none => rfl
end Mine
end PartPlainStrip

section PartGenE
open PySem.W PyProof.Rows in
theorem Mine.cleanGenE : (1 : Nat) = 1 := by
  (w_on; w_top off; k_with_none)
  first | walk1 | rfl
open PySem PySem.W PyProof.Rows PySem.Spec PySem.Calls
namespace Mine
noncomputable def cmap (u0 u1 : Option Value) (RL : Addr) (vop : Value) (st : Int) (ts : Tok) (x : Str) (ta : Tok) : Str → Option Value := fun y =>
  if y = Str.ofString "ch" then u0 else if y = Str.ofString "pos" then u1 else if y = Str.ofString "result" then some (.ref RL) else if y = Str.ofString "open_pos" then some vop else if y = Str.ofString "start" then some (.int st ts) else if y = Str.ofString "addr" then some (.str x ta) else none
theorem cmap_start (RL : Addr) (vop : Value) (st : Int) (ts : Tok) (x : Str) (ta : Tok) : (fun y : Str => if y = Str.ofString "result" then some (Value.ref RL) else if y = Str.ofString "open_pos" then some vop else if y = Str.ofString "start" then some (Value.int st ts) else if y = Str.ofString "addr" then some (Value.str x ta) else none) = cmap none none RL vop st ts x ta := by
  have c1 : Str.ofString "ch" ≠ Str.ofString "result" := by decide +kernel
  have c2 : Str.ofString "ch" ≠ Str.ofString "open_pos" := by decide +kernel
  have c3 : Str.ofString "ch" ≠ Str.ofString "start" := by decide +kernel
  have c4 : Str.ofString "ch" ≠ Str.ofString "addr" := by decide +kernel
  have p1 : Str.ofString "pos" ≠ Str.ofString "result" := by decide +kernel
  have p2 : Str.ofString "pos" ≠ Str.ofString "open_pos" := by decide +kernel
  have p3 : Str.ofString "pos" ≠ Str.ofString "start" := by decide +kernel
  have p4 : Str.ofString "pos" ≠ Str.ofString "addr" := by decide +kernel
  funext y
  unfold cmap
  by_cases e1 : y = Str.ofString "ch"
  · subst e1; simp only [if_neg c1, if_neg c2, if_neg c3, if_neg c4, if_true]
  · by_cases e2 : y = Str.ofString "pos"
    · subst e2; simp only [if_neg p1, if_neg p2, if_neg p3, if_neg p4, if_true, ite_self]
    · simp only [if_neg e1, if_neg e2]
noncomputable def OpV (op : Option Int) (v : Value) : Prop := match op with | none => v = .none | some o => ∃ t, v = .int o t
noncomputable def GenObj (o : Obj) (g : Nat) : Prop := ∃ nm qn, o.cls = .type "generator" ∧ o.data = .fields #[.int g 0, nm, qn] ∧ o.slots = #[]
theorem let_gen {M : Model} {A : Around} {E : Value → Shared → Prop} {s : Shared} {elts : List Expr} {k1 : Nat} {pos : Pos} {G D : Addr} {g : Nat} {oG : Obj} {Q : Unit → Shared → Prop} (hg : s.heap.get? G = some oG) (ho : GenObj oG g) (h : Q () s) :
    wpAny M A (letOwnedTupleGo (.Tuple elts k1 pos) (.ref G) (.ref D)) Q E s := by
  obtain ⟨nm, qn, hc, hd, _⟩ := ho
  unfold letOwnedTupleGo
  refine wpAny_bind (wpAny_load hg ?_)
  rw [hc, hd]
  dsimp only
  rw [if_neg (by simp)]
  exact wpAny_pure h
/-- the loop of _strip_quoted_realnames over its generator -/
noncomputable def CJ (prog : Program) (w : World) (A : Around) (h₀ : Heap) (L GL RL : Nat) (g : Nat) (x : Str) (ta : Tok) (s0 : Shared) (gens0 : Array GenState) (news : List (Addr × Obj)) (k : Nat) (s' : Shared) : Prop :=
  ∃ (i : Nat) (h' : Heap) (tk : Nat) (gens' : Array GenState) (own : List (Addr × Obj)) (gs : GenState) (st : Int) (ts : Tok) (op : Option Int) (vop : Value) (parts : List Str) (pv : List Value) (np : Nat) (u0 u1 : Option Value) (oG : Obj),
    k = x.cps.size + 1 - i ∧ i ≤ x.cps.size ∧ s' = { s0 with heap := h', toks := tk, gens := gens' } ∧ Fr h₀ L h' (cmap u0 u1 RL vop st ts x ta) ∧ News h₀ L h' (own ++ (GL + 1, oG) :: (RL, listOf pv.toArray np) :: news) ∧
    (∀ p ∈ own, p.1 = GL ∨ GL + 1 < p.1) ∧ GenObj oG g ∧ gens'[g]? = some gs ∧ GenOnly g gens0 gens' ∧
    (∀ s'' : Shared, (∀ p ∈ own, s''.heap.get? p.1 = some p.2) → (∀ b o, h₀.get? b = some o → s''.heap.get? b = some o) → GL + 1 < s''.heap.objs.size → gs.Goes (model prog w) A.in1 (GR (GL + 1) GL) (GY (GL + 1) GL x) (x.cps.size - i) (.send .none) s'') ∧
    StrsAre pv parts ∧ OpV op vop ∧ SInv x i st op parts
theorem sinv_start {x : Str} : SInv x 0 0 none [] := ⟨by omega, by simp, by simp, by simp, by simp [runQ]⟩
theorem bare_end {g : Nat} {gens gens' : Array GenState} {gs0 : GenState} (hg : g = gens.size) (hG : GenOnly g (gens.push gs0) gens') (hf : gens'[g]? = some .finished) (hb : ∀ y ∈ gens, y.bare = true) : ∀ y ∈ gens', y.bare = true := by
  intro y hy
  obtain ⟨k, hk, rfl⟩ := Array.mem_iff_getElem.mp hy
  by_cases e : k = g
  · subst e
    rw [Array.getElem?_eq_getElem hk] at hf
    rw [Option.some.inj hf]; rfl
  · have h1 := hG.2 k e
    rw [Array.getElem?_eq_getElem hk] at h1
    have hs := hG.1
    rw [Array.size_push] at hs
    have hk2 : k < gens.size := by omega
    rw [Array.getElem?_push, if_neg (by omega), Array.getElem?_eq_getElem hk2] at h1
    rw [Option.some.inj h1]
    exact hb _ (Array.getElem_mem hk2)
section
variable {prog : Program} {w : World} {A : Around} {E : Value → Shared → Prop} {h₀ : Heap} {L GL RL : Nat} {g : Nat} {x : Str} {ta : Tok} {s0 : Shared} {gens0 : Array GenState} {news : List (Addr × Obj)} {Q : Flow → Shared → Prop} {env : Env}
/-- one turn of that loop: what is left is its body -/
theorem cj_turn {px pc pt : Pos} {k1 : Nat} {body : List Stmt} (hh : A.handled = none) (hl : h₀.NoLimit) (hroom : A.depth < recursionLimit) (hL : env.locals = L) (hpos : env.kindOf (Str.ofString "pos") = some .local) (hch : env.kindOf (Str.ofString "ch") = some .local)
    (hp : (env.scope.kind == .class || (env.scope.kind == .module && env.locals != env.globals)) = false) (hLG : L < GL) (hRG : RL < GL) (hnw : ∀ p ∈ news, p.1 < GL)
    (body_ : ∀ (i c : Nat) (u1 u2 : Tok) h' tk gens' (own : List (Addr × Obj)) (st : Int) (ts : Tok) (op : Option Int) (vop : Value) (parts : List Str) (pv : List Value) (np : Nat) (oG o1 o2 o3 : Obj) (a1 a2 : Nat),
      i < x.cps.size → x.cps[i]? = some c → GL + 1 < a1 → GL + 1 < a2 → Fr h₀ L h' (cmap (some (.str ⟨#[c]⟩ u2)) (some (.int (i : Int) u1)) RL vop st ts x ta) → News h₀ L h' ((GL, o1) :: (a1, o2) :: (a2, o3) :: (GL + 1, oG) :: (RL, listOf pv.toArray np) :: news) → StrsAre pv parts → OpV op vop → SInv x i st op parts →
      wpAny (model prog w) A (execs body env) (fun f s₃ => Hold (f = .next ∧ ∃ h'' tk' u0 u1 st' ts' op' vop' parts' pv' np', s₃ = { s0 with heap := h'', toks := tk', gens := gens' } ∧ Fr h₀ L h'' (cmap u0 u1 RL vop' st' ts' x ta) ∧
        News h₀ L h'' ((GL, o1) :: (a1, o2) :: (a2, o3) :: (GL + 1, oG) :: (RL, listOf pv'.toArray np') :: news) ∧ StrsAre pv' parts' ∧ OpV op' vop' ∧ SInv x (i + 1) st' op' parts')) E { s0 with heap := h', toks := tk, gens := gens' })
    (done : ∀ h' tk gens' st ts op vop parts pv np u0 u1 oG, Fr h₀ L h' (cmap u0 u1 RL vop st ts x ta) → News h₀ L h' ((GL + 1, oG) :: (RL, listOf pv.toArray np) :: news) → GenOnly g gens0 gens' → gens'[g]? = some .finished → StrsAre pv parts → OpV op vop → SInv x x.cps.size st op parts →
      Q .next { s0 with heap := h', toks := tk, gens := gens' }) :
    ∀ n s, CJ prog w A h₀ L GL RL g x ta s0 gens0 news n s → wpAny (model prog w) A (pyNext (.ref (GL + 1 : Nat))) (fun r s₁ => match r with
      | none => Q .next s₁
      | some v => wpAny (model prog w) A (letOwnedTupleGo (.Tuple [.Name (Str.ofString "pos") px, .Name (Str.ofString "ch") pc] k1 pt) (.ref (GL + 1 : Nat)) v) (fun _ s₁' => wpAny (model prog w) A (assign (.Tuple [.Name (Str.ofString "pos") px, .Name (Str.ofString "ch") pc] k1 pt) env v) (fun _ s₂ => wpAny (model prog w) A (execs body env) (fun f s₃ => match f with
            | .next | .cont => ∃ m, m < n ∧ CJ prog w A h₀ L GL RL g x ta s0 gens0 news m s₃
            | .brk => Q .next s₃
            | .ret v => Q (.ret v) s₃) E s₂) E s₁') E s₁) E s := by
  rintro n s ⟨i, h', tk, gens', own, gs, st, ts, op, vop, parts, pv, np, u0, u1, oG, rfl, hi, rfl, F, N, hown, hoG, hgs, hGO, hgo, hpv, hop, hS⟩
  have hoGet := (N (GL + 1, oG) (List.mem_append_right _ (.head _))).1
  have hLn : ∀ b o, h₀.get? b = some o → b ≤ GL + 1 ∧ b ≠ GL := fun b o e => by
    have h1 := Heap.lt_size e
    have h2 : b < L := Nat.lt_of_lt_of_le h1 F.above
    exact ⟨Nat.le_of_lt (Nat.lt_trans h2 (Nat.lt_trans hLG (Nat.lt_succ_self _))), Nat.ne_of_lt (Nat.lt_trans h2 hLG)⟩
  have tailK : ∀ p ∈ (GL + 1, oG) :: (RL, listOf pv.toArray np) :: news, p.1 ≤ GL + 1 ∧ p.1 ≠ GL := by
    intro p hp
    rcases List.mem_cons.mp hp with rfl | hp
    · exact ⟨Nat.le_refl _, Nat.succ_ne_self _⟩
    · rcases List.mem_cons.mp hp with rfl | hp
      · exact ⟨Nat.le_succ_of_le (Nat.le_of_lt hRG), Nat.ne_of_lt hRG⟩
      · exact ⟨Nat.le_succ_of_le (Nat.le_of_lt (hnw p hp)), Nat.ne_of_lt (hnw p hp)⟩
  have Ntail : News h₀ L h' ((GL + 1, oG) :: (RL, listOf pv.toArray np) :: news) := fun p hp => N p (List.mem_append_right _ hp)
  obtain ⟨nm, qn, hc1, hd1, hs1⟩ := id hoG
  refine gen_next (x := x) (G := (GL + 1 : Nat)) (GL := GL) (g := g) (i := i) (gs := gs) hh (hl.keeps F.keep) hroom ⟨oG, nm, qn, hoGet, hc1, hd1, hs1⟩ hgs hi (hgo _ (fun p hp => (N p (List.mem_append_left _ hp)).1) F.keep (Heap.lt_size hoGet)) ?_ ?_
  · intro hlt c D v1 v2 EN IT oGL oEN oIT h'' tk'' gs' gens'' hc hD d1 d2 d3 g1 g2 g3 hk hGO' hgs' hgo'
    dsimp only at hk hGO'
    have F₁ : Fr h₀ L h'' (cmap u0 u1 RL vop st ts x ta) := ⟨F.ns.at' fun o e => hk _ o (Nat.le_of_lt (Nat.lt_trans hLG (Nat.lt_succ_self _))) (Nat.ne_of_lt hLG) e, fun b o e => hk b o (hLn b o e).1 (hLn b o e).2 (F.keep b o e), F.above⟩
    have N₁ : News h₀ L h'' ((GL + 1, oG) :: (RL, listOf pv.toArray np) :: news) := fun p hp => ⟨hk _ _ (tailK p hp).1 (tailK p hp).2 (Ntail p hp).1, (Ntail p hp).2⟩
    have above : ∀ b : Nat, L < b → b ≠ L ∧ h₀.get? b = none := fun b hb => ⟨Nat.ne_of_gt hb, Heap.get?_none_of_le (Nat.le_trans F.above (Nat.le_of_lt hb))⟩
    have hLEN : L < EN := Nat.lt_trans (Nat.lt_trans hLG (Nat.lt_succ_self _)) d2
    have hLIT : L < IT := Nat.lt_trans (Nat.lt_trans hLG (Nat.lt_succ_self _)) d3
    have N₂ : News h₀ L h'' ((GL, oGL) :: (EN, oEN) :: (IT, oIT) :: (GL + 1, oG) :: (RL, listOf pv.toArray np) :: news) := by
      intro p hp
      rcases List.mem_cons.mp hp with rfl | hp
      · exact ⟨g1, above _ hLG⟩
      · rcases List.mem_cons.mp hp with rfl | hp
        · exact ⟨g2, above _ hLEN⟩
        · rcases List.mem_cons.mp hp with rfl | hp
          · exact ⟨g3, above _ hLIT⟩
          · exact N₁ p hp
    refine let_gen (N₁ _ (.head _)).1 hoG ?_
    refine wpAny_assign_Tuple hh (⟨_, hD, rfl, _, rfl⟩ : h''.IsTuple D _) rfl rfl fun h₃ hx₃ => ?_
    replace hx₃ : Heap.ExtBut h''.objs.size h'' h₃ := hx₃
    have up₃ : ∀ b o, h''.get? b = some o → h₃.get? b = some o := fun b o e => hx₃ b o (Nat.ne_of_lt (Heap.lt_size e)) e
    have F₃ : Fr h₀ L h₃ (cmap u0 u1 RL vop st ts x ta) := F₁.kept up₃
    have N₃ := N₂.grown up₃
    show wpAny _ _ (do holding [.str ⟨#[c]⟩ v2] (assign (.Name (Str.ofString "pos") px) env (.int (i : Int) v1)); do holding [] (assign (.Name (Str.ofString "ch") pc) env (.str ⟨#[c]⟩ v2)); pure ()) _ _ _
    subst hL
    refine wpAny_bind (wpAny_holding (wpAny_assign_Name (wpAny_storeName_local hpos F₃.ns (fun h₄ hn₄ hs₄ => ?_) hp)))
    replace hs₄ : Heap.SameBut env.locals h₃ h₄ := hs₄
    have F₄ := F₃.set hn₄ hs₄
    refine wpAny_bind (wpAny_holding (wpAny_assign_Name (wpAny_storeName_local hch F₄.ns (fun h₅ hn₅ hs₅ => wpAny_pure ?_) hp)))
    replace hs₅ : Heap.SameBut env.locals h₄ h₅ := hs₅
    have F₅ := F₄.set hn₅ hs₅
    have N₅ := (N₃.set hs₄).set hs₅
    have F₆ : Fr h₀ env.locals h₅ (cmap (some (.str ⟨#[c]⟩ v2)) (some (.int (i : Int) v1)) RL vop st ts x ta) := by
      refine fr_re F₅ ?_
      funext y
      unfold cmap
      by_cases e1 : y = Str.ofString "ch"
      · simp only [if_pos e1]
      · by_cases e2 : y = Str.ofString "pos"
        · simp only [if_neg e1, if_pos e2]
        · simp only [if_neg e1, if_neg e2]
    refine wpAny_mono (body_ i c v1 v2 h₅ _ gens'' [] st ts op vop parts pv np oG oGL oEN oIT EN IT hlt hc d2 d3 F₆ N₅ hpv hop hS) (fun f s₃ hq => ?_) fun _ _ e => e
    obtain ⟨rfl, h6, tk6, w0, w1, st', ts', op', vop', parts', pv', np', rfl, F6, N6, hpv', hop', hS'⟩ := (show _ ∧ _ from hq)
    refine ⟨x.cps.size + 1 - (i + 1), by omega, i + 1, h6, tk6, gens'', [(GL, oGL), (EN, oEN), (IT, oIT)], gs', st', ts', op', vop', parts', pv', np', w0, w1, oG, rfl, hlt, rfl, F6, N6, ?_, hoG, hgs', hGO.trans hGO', fun s'' q _ _ => hgo' s'' (q _ (.head _)) (q _ (.tail _ (.head _))) (q _ (.tail _ (.tail _ (.head _)))), hpv', hop', hS'⟩
    intro p hp'
    simp only [List.mem_cons, List.not_mem_nil, or_false] at hp'
    rcases hp' with rfl | rfl | rfl
    · exact .inl rfl
    · exact .inr d2
    · exact .inr d3
  · rintro rfl h'' tk'' gens'' hk hGO' hf
    dsimp only at hk hGO'
    refine done h'' tk'' gens'' st ts op vop parts pv np u0 u1 oG ⟨F.ns.at' fun o e => hk _ o (Nat.le_of_lt (Nat.lt_trans hLG (Nat.lt_succ_self _))) (Nat.ne_of_lt hLG) e, fun b o e => hk b o (hLn b o e).1 (hLn b o e).2 (F.keep b o e), F.above⟩
      (fun p hp => ⟨hk _ _ (tailK p hp).1 (tailK p hp).2 (Ntail p hp).1, (Ntail p hp).2⟩) (hGO.trans hGO') hf hpv hop hS
theorem cj_for {px pc pt : Pos} {k1 : Nat} {body : List Stmt} {s : Shared} (hE : PassesOwn (model prog w) A env E) (hh : A.handled = none) (hl : h₀.NoLimit) (hroom : A.depth < recursionLimit) (hL : env.locals = L) (hpos : env.kindOf (Str.ofString "pos") = some .local) (hch : env.kindOf (Str.ofString "ch") = some .local)
    (hp : (env.scope.kind == .class || (env.scope.kind == .module && env.locals != env.globals)) = false) (hLG : L < GL) (hRG : RL < GL) (hnw : ∀ p ∈ news, p.1 < GL)
    (start : CJ prog w A h₀ L GL RL g x ta s s.gens news (x.cps.size + 1) s)
    (body_ : ∀ (i c : Nat) (u1 u2 : Tok) h' tk gens' (st : Int) (ts : Tok) (op : Option Int) (vop : Value) (parts : List Str) (pv : List Value) (np : Nat) (oG o1 o2 o3 : Obj) (a1 a2 : Nat),
      i < x.cps.size → x.cps[i]? = some c → GL + 1 < a1 → GL + 1 < a2 → Fr h₀ L h' (cmap (some (.str ⟨#[c]⟩ u2)) (some (.int (i : Int) u1)) RL vop st ts x ta) → News h₀ L h' ((GL, o1) :: (a1, o2) :: (a2, o3) :: (GL + 1, oG) :: (RL, listOf pv.toArray np) :: news) → StrsAre pv parts → OpV op vop → SInv x i st op parts →
      wpAny (model prog w) A (execs body env) (fun f s₃ => Hold (f = .next ∧ ∃ h'' tk' u0 u1 st' ts' op' vop' parts' pv' np', s₃ = { s with heap := h'', toks := tk', gens := gens' } ∧ Fr h₀ L h'' (cmap u0 u1 RL vop' st' ts' x ta) ∧
        News h₀ L h'' ((GL, o1) :: (a1, o2) :: (a2, o3) :: (GL + 1, oG) :: (RL, listOf pv'.toArray np') :: news) ∧ StrsAre pv' parts' ∧ OpV op' vop' ∧ SInv x (i + 1) st' op' parts')) E { s with heap := h', toks := tk, gens := gens' })
    (done : ∀ h' tk gens' st ts op vop parts pv np u0 u1 oG, Fr h₀ L h' (cmap u0 u1 RL vop st ts x ta) → News h₀ L h' ((GL + 1, oG) :: (RL, listOf pv.toArray np) :: news) → GenOnly g s.gens gens' → gens'[g]? = some .finished → StrsAre pv parts → OpV op vop → SInv x x.cps.size st op parts →
      Q .next { s with heap := h', toks := tk, gens := gens' }) :
    codeAny (model prog w) A (.forLoop (.Tuple [.Name (Str.ofString "pos") px, .Name (Str.ofString "ch") pc] k1 pt) (.ref (GL + 1 : Nat)) body [] env) (fun r s' => match r with | .ok f => Q f s' | .error e => cameBackBy (model prog w) A env E e s') s :=
  for_any (CJ prog w A h₀ L GL RL g x ta s s.gens news) hE (cj_turn hh hl hroom hL hpos hch hp hLG hRG hnw (fun i c u1 u2 h' tk gens' own => body_ i c u1 u2 h' tk gens') done) _ start
end
end Mine
end PartGenE

section PartStrip
open PySem.W PyProof.Rows in
theorem Mine.cleanStrip : (1 : Nat) = 1 := by
  (w_on; w_top off; k_with_none)
  first | walk1 | rfl
open PySem PySem.W PyProof.Rows PySem.Spec PySem.Calls
namespace Mine
set_option maxRecDepth 100000 in
set_option maxHeartbeats 8000000 in
theorem strip_use {w : World} {mean : ExcName → Option Value} {mg mb : Str → Option Value} {dp un : Nat} {gd : Option (List Code)} {cn : Str} {cs : Scope} {fa : Addr} {ccd : Value} {cl : List (Str × Addr)} {outer : List Env} {A₀ : Around} {base h₀ : Heap} {L : Addr} {m : Str → Option Value} {s : Shared} {Q E : Value → Shared → Prop} {news : List (Addr × Obj)} {a : Str} {ta : Tok}
   (B0 : Below A₀ base outer h₀) (F0 : Fr h₀ L s.heap m) (X0 : (hd.heap_39 w.params).In h₀) (N0 : News h₀ L s.heap news) (T0 : Top vw (looseW vw []) mean mg mb h₀) (hk : cs.kind = .function)
   (hpre : a.length ≤ 20) (hbs : ∀ (i : Nat) (c : Nat), a.cps[i]? = some c → c ≠ 92) (hq : (runQ (LL a)).1 = false) (hdp : dp + 5 < recursionLimit) (hun : un + 24 < cLine)
   (hret : ∀ (b : Str) (tb : Tok) (h' : Heap) (tk' : Nat) (gens' : Array GenState), LL b = (runQ (LL a)).2 → ((∀ y ∈ s.gens, y.bare = true) → ∀ y ∈ gens', y.bare = true) → Fr h₀ L h' m → News h₀ L h' news → Q (.str b tb) { s with heap := h', toks := tk', gens := gens' }) :
   wpAny (model Challenge.rw_re0079_01.row.prog w) (ktrTop dp un gd cn cs L fa ccd cl outer) (call (.ref 56) [.str a ta]) Q E s := by
  k_with_none
  k_with "k_all" => ((refine all_ne_tail (by assumption) ?_; omega))
  revert X0
  k_fill
  intro X0
  refine wpAny_call ?_
  k_dflt (refine' code_def ?k1 ?k2 ?k3 ?k4 ?k5 ?kA ?kF ?kK ?k6 ?k7 ?k8 ?k9 ?kB ?_ ?c2 ?c3 ?c4 ?c5; (case kA => exact rfl); (case kF => exact rfl); (case kK => assumption); (case k1 => k_asm); (case k2 => k_asm); (case k3 => k_asm); (case k4 => k_asm); (case k5 => k_asm); (case k6 => k_is); (case k7 => k_is); (case k8 => ktr_room); (case k9 => exact BindsTo.of_eq rfl); (case c5 => decide); (case kB => exact locs rfl); (case c2 => exact rfl); (case c3 => exact rfl); (case c4 => exact rfl); k_whole)
  intro g Lf h1 FG F N B X T
  have F1 : Fr g Lf h1 (fun y : Str => if y = Str.ofString "addr" then some (.str a ta) else none) := fr_re F (lookup_kstB [(Str.ofString "addr", .str a ta)])
  clear F
  (try dsimp only); (try k_unmd); (try k_fold)
  repeat' ((fail_if_success (with_reducible show Hold _)); (fail_if_success (with_reducible show wpAny _ _ (exec (Stmt.For _ _ _ _ _) _) _ _ _)); (first | (k_unfold; (try dsimp only)) | (k_end; wrow_close) | walk1 | (dsimp only; walk1) | (leave1; walk_say "STEP leave1"; try dsimp only) | fail "no step"))
  · have h34 : 34 ∉ LL a := by
      rename _ = true => hocc
      have e : Str.ofString "\"" = ⟨#[34]⟩ := by decide +kernel
      rw [e, empty_one] at hocc
      simpa using hocc
    have hr := runQ_plain _ h34
    exact hret a ta _ _ s.gens (by rw [hr]) (fun h => h) (by assumption) (by assumption)
  · refine wpAny_For ?_ (by intro _; rfl)
    rename Fr g Lf _ _ => F2
    rename News g Lf _ _ => N2
    rename_i RL h2a hRL h2b
    repeat' ((fail_if_success (with_reducible show Hold _)); (fail_if_success (with_reducible show wpAny _ _ (call (Value.ref _) _) _ _ _)); (first | (k_unfold; (try dsimp only)) | (k_end; wrow_close) | walk1 | (dsimp only; walk1) | (leave1; walk_say "STEP leave1"; try dsimp only) | fail "no step"))
    refine call_gen (K := _) (by k_asm) X (by k_asm) T rfl rfl (by ktr_room) (BindsTo.of_eq rfl) (locs rfl) (by decide) rfl rfl rfl ?_
    intro GL h3 tk3 hLG hNG F3 N3 hns hgen
    (try dsimp only)
    refine wpAny_pyIter_gen hgen ?_
    (try dsimp only)
    have hns1 : h3.Ns GL (fun y => [(Str.ofString "addr", Value.str a ta)].lookup y) := hns
    rw [lookup_kstB] at hns1
    have hns2 : h3.Ns GL (fun y : Str => if y = Str.ofString "addr" then some (.str a ta) else none) := hns1
    clear hns hns1
    obtain ⟨oG, nm, qn, hoG, c1, d1, s1⟩ := hgen
    have hRG : @LT.lt Nat _ RL GL := hNG (RL, _) (.head _)
    have e34 : Str.ofString "\"" = ⟨#[34]⟩ := by decide +kernel
    refine cj_for (x := a) (ta := ta) (RL := RL) (g := s.gens.size) (news := news) (h₀ := g) (L := Lf) (by passes_own) rfl T.nolimit (by ktr_room) rfl rfl rfl rfl hLG hRG (fun p hp => hNG p (.tail _ hp)) ?start ?body ?done
    case body =>
      intro i c u1 u2 h4 tk4 gens4 st ts op vop parts pv np oG1 o1 o2 o3 a1 a2 hi hc ha1 ha2 F4 N4 hpv hop hS
      unfold cmap at F4
      have hpl : pv.length ≤ 20 := by
        have e1 := StrsAre.length hpv
        have e2 := hS.2.1
        have e3 : a.cps.size = a.length := rfl
        omega
      have hcl : (i : Int) < 20 := by
        have e3 : a.cps.size = a.length := rfl
        omega
      clear F3 N3 F2 N2 hns2 hret
      cases op with
      | none =>
        have hv : vop = .none := hop
        subst hv
        repeat' ((fail_if_success (with_reducible show Hold _)); (first | (k_unfold; (try dsimp only)) | (k_end; wrow_close) | walk1 | (dsimp only; walk1) | (leave1; walk_say "STEP leave1"; try dsimp only) | fail "no step"))
        · rename ((⟨#[c]⟩ : Str) == Str.ofString "\"") = true => hcc
          rw [e34, one_eq, decide_eq_true_eq] at hcc
          exact ⟨rfl, _, _, some (.str ⟨#[c]⟩ u2), some (.int (i : Int) u1), st, ts, some (i : Int), .int (i : Int) u1, parts, pv, np, rfl, fr_re (by assumption) (by unfold cmap; exact (by funext y; exact if h0 : y = Str.ofString "ch" then (by subst h0; rfl) else if h1 : y = Str.ofString "pos" then (by subst h1; rfl) else if h2 : y = Str.ofString "result" then (by subst h2; rfl) else if h3 : y = Str.ofString "open_pos" then (by subst h3; rfl) else if h4 : y = Str.ofString "start" then (by subst h4; rfl) else if h5 : y = Str.ofString "addr" then (by subst h5; rfl) else (by simp [h0, h1, h2, h3, h4, h5]))), by assumption, hpv, ⟨_, rfl⟩, sinv_open hc hcc hS⟩
        · rename ((⟨#[c]⟩ : Str) == Str.ofString "\"") = false => hcc
          rw [e34, one_eq, decide_eq_false_iff_not] at hcc
          exact ⟨rfl, _, _, some (.str ⟨#[c]⟩ u2), some (.int (i : Int) u1), st, ts, none, .none, parts, pv, np, rfl, fr_re (by assumption) (by unfold cmap; exact (by funext y; exact if h0 : y = Str.ofString "ch" then (by subst h0; rfl) else if h1 : y = Str.ofString "pos" then (by subst h1; rfl) else if h2 : y = Str.ofString "result" then (by subst h2; rfl) else if h3 : y = Str.ofString "open_pos" then (by subst h3; rfl) else if h4 : y = Str.ofString "start" then (by subst h4; rfl) else if h5 : y = Str.ofString "addr" then (by subst h5; rfl) else (by simp [h0, h1, h2, h3, h4, h5]))), by assumption, hpv, rfl, sinv_sign hc hcc hS⟩
      | some o =>
        obtain ⟨to, rfl⟩ := hop
        have hS' := hS
        obtain ⟨hs0, hs1, hs2, hs3, hs4, hs5⟩ := hS'
        repeat' ((fail_if_success (with_reducible show Hold _)); (first | (k_unfold; (try dsimp only)) | (k_end; wrow_close) | walk1 | (dsimp only; walk1) | (leave1; walk_say "STEP leave1"; try dsimp only) | fail "no step"))
        · rename ((⟨#[c]⟩ : Str) == Str.ofString "\"") = true => hcc
          rw [e34, one_eq, decide_eq_true_eq] at hcc
          rename News _ _ _ _ => NE
          simp only [List.push_toArray] at NE
          exact ⟨rfl, _, _, some (.str ⟨#[c]⟩ u2), some (.int (i : Int) u1), (i : Int) + 1, _, none, .none, parts ++ [Txt.slice a (some st) (some o)], _, _, rfl, fr_re (by assumption) (by unfold cmap; exact (by funext y; exact if h0 : y = Str.ofString "ch" then (by subst h0; rfl) else if h1 : y = Str.ofString "pos" then (by subst h1; rfl) else if h2 : y = Str.ofString "result" then (by subst h2; rfl) else if h3 : y = Str.ofString "open_pos" then (by subst h3; rfl) else if h4 : y = Str.ofString "start" then (by subst h4; rfl) else if h5 : y = Str.ofString "addr" then (by subst h5; rfl) else (by simp [h0, h1, h2, h3, h4, h5]))), NE, StrsAre.append' hpv (.cons _ _ .nil), rfl, sinv_close hc hcc hS⟩
        · rename ((⟨#[c]⟩ : Str) == Str.ofString "\"") = true => hcc
          rw [e34, one_eq, decide_eq_true_eq] at hcc
          exact ⟨rfl, _, _, some (.str ⟨#[c]⟩ u2), some (.int (i : Int) u1), (i : Int) + 1, _, none, .none, parts, pv, np, rfl, fr_re (by assumption) (by unfold cmap; exact (by funext y; exact if h0 : y = Str.ofString "ch" then (by subst h0; rfl) else if h1 : y = Str.ofString "pos" then (by subst h1; rfl) else if h2 : y = Str.ofString "result" then (by subst h2; rfl) else if h3 : y = Str.ofString "open_pos" then (by subst h3; rfl) else if h4 : y = Str.ofString "start" then (by subst h4; rfl) else if h5 : y = Str.ofString "addr" then (by subst h5; rfl) else (by simp [h0, h1, h2, h3, h4, h5]))), by assumption, hpv, rfl, sinv_skip hc hcc (by assumption) hS⟩
        · rename ((⟨#[c]⟩ : Str) == Str.ofString "\"") = false => hcc
          rw [e34, one_eq, decide_eq_false_iff_not] at hcc
          exact ⟨rfl, _, _, some (.str ⟨#[c]⟩ u2), some (.int (i : Int) u1), st, ts, some o, .int o to, parts, pv, np, rfl, fr_re (by assumption) (by unfold cmap; exact (by funext y; exact if h0 : y = Str.ofString "ch" then (by subst h0; rfl) else if h1 : y = Str.ofString "pos" then (by subst h1; rfl) else if h2 : y = Str.ofString "result" then (by subst h2; rfl) else if h3 : y = Str.ofString "open_pos" then (by subst h3; rfl) else if h4 : y = Str.ofString "start" then (by subst h4; rfl) else if h5 : y = Str.ofString "addr" then (by subst h5; rfl) else (by simp [h0, h1, h2, h3, h4, h5]))), by assumption, hpv, ⟨_, rfl⟩, sinv_in hc hcc hS⟩
    case done =>
      intro h4 tk4 gens4 st ts op vop parts pv np u0 u1 oG1 F4 N4 hGO hf hpv hop hS
      have hon := sinv_none hS hq
      subst hon
      have hv : vop = .none := hop
      subst hv
      unfold cmap at F4
      have hpl : pv.length ≤ 20 := by
        have e1 := StrsAre.length hpv
        have e2 := hS.2.1
        have e3 : a.cps.size = a.length := rfl
        omega
      have hS' := hS
      obtain ⟨hs0, hs1, hs2, hs3, hs4⟩ := hS'
      have e3 : a.cps.size = a.length := rfl
      clear F3 N3 F2 N2 hns2
      (try dsimp only)
      repeat' ((fail_if_success (with_reducible show Hold _)); (fail_if_success (with_reducible show wpAny _ _ (call (Value.builtin "str.join") _) _ _ _)); (first | (k_unfold; (try dsimp only)) | (k_end; wrow_close) | walk1 | (dsimp only; walk1) | (leave1; walk_say "STEP leave1"; try dsimp only) | fail "no step"))
      · rename News _ _ _ _ => NE
        simp only [List.push_toArray] at NE
        show wpAny _ _ (call (Value.builtin "str.join") [Value.str (Str.ofString "") _, Value.ref RL]) _ _ _
        refine join_listW (ys := parts ++ [Txt.slice a (some st) none]) (News.isList NE (by k_mem)) (by simpa using StrsAre.append' hpv (.cons _ _ .nil)) (by decide) ?_ ?_
        · rw [List.map_append, List.sum_append, List.length_append, List.map_singleton, List.sum_singleton, List.length_singleton]
          have e5 := slice_from (x := a) (i := st) hs0 (by omega)
          have e6 : (Txt.slice a (some st) none).length = (LL a).length - st.toNat := by rw [length_of_LL, e5, List.length_drop]
          have e7 := len_LL a
          omega
        · intro t' k'
          (try dsimp only)
          repeat' ((fail_if_success (with_reducible show Hold _)); (first | (k_unfold; (try dsimp only)) | (k_end; wrow_close) | walk1 | (dsimp only; walk1) | (leave1; walk_say "STEP leave1"; try dsimp only) | fail "no step"))
          rename News h₀ L _ _ => kN9
          exact hret _ _ _ _ gens4 (sinv_end_more hS hq (by assumption)) (bare_end rfl hGO hf) (by assumption) (news_drop kN9 (fun p hp => .tail _ (.tail _ hp)))
      · show wpAny _ _ (call (Value.builtin "str.join") [Value.str (Str.ofString "") _, Value.ref RL]) _ _ _
        refine join_listW (ys := parts) (News.isList N4 (by k_mem)) (by simpa using hpv) (by decide) ?_ ?_
        · omega
        · intro t' k'
          (try dsimp only)
          repeat' ((fail_if_success (with_reducible show Hold _)); (first | (k_unfold; (try dsimp only)) | (k_end; wrow_close) | walk1 | (dsimp only; walk1) | (leave1; walk_say "STEP leave1"; try dsimp only) | fail "no step"))
          rename News h₀ L _ _ => kN9
          exact hret _ _ _ _ gens4 (sinv_end hS hq (by assumption)) (bare_end rfl hGO hf) (by assumption) (news_drop kN9 (fun p hp => .tail _ (.tail _ hp)))
    case start =>
      obtain ⟨oGL, esG, epG, hoGL, rGL⟩ := id hns2
      refine ⟨0, h3, tk3, _, [(GL, oGL)], _, 0, _, none, .none, [], [], 0, none, none, oG, rfl, Nat.zero_le _, rfl, fr_re F3 (cmap_start _ _ _ _ _ _), ?_, ?_, ⟨nm, qn, c1, d1, s1⟩, Array.getElem?_push_size .., ⟨rfl, fun _ _ => rfl⟩, ?_, .nil, rfl, sinv_start⟩
      · intro p hp
        rcases List.mem_cons.mp hp with rfl | hp
        · exact ⟨hoGL, Nat.ne_of_gt hLG, Heap.get?_none_of_le (Nat.le_trans F3.above (Nat.le_of_lt hLG))⟩
        · rcases List.mem_cons.mp hp with rfl | hp
          · exact ⟨hoG, Nat.ne_of_gt (Nat.lt_succ_of_lt hLG), Heap.get?_none_of_le (Nat.le_trans F3.above (Nat.le_of_lt (Nat.lt_succ_of_lt hLG)))⟩
          · exact N3 p hp
      · intro p hp
        rw [List.mem_singleton.mp hp]; exact .inl rfl
      · intro s4 ho4 hk4 hz4
        have g4 := ho4 _ (.head _)
        refine ⟨rfl, ?_⟩
        refine gen_start (x := a) (tx := ta) (s := s4) (by exact rfl) (by exact rfl) (by exact rfl) (by exact rfl) (by exact rfl) (by exact rfl) (by exact rfl) (by exact rfl) (by exact rfl) (Nat.lt_succ_self _) hbs ?b10 ?b11 ?b12 ?b13
        case b10 => intro _; rfl
        case b12 => exact ⟨oGL, esG, epG, g4, rGL⟩
        case b11 => exact hz4
        case b13 =>
          intro s5 t0 Q5 ⟨h5, tk5, e5, hk5⟩ hns5 hQ5
          subst e5
          have F5 : Fr g GL h5 _ := ⟨hns5, fun b o e => hk5 b o (fun q => by have := Heap.lt_size e; rw [q] at this; exact absurd (Nat.lt_of_lt_of_le this (Nat.le_trans F3.above (Nat.le_of_lt hLG))) (Nat.lt_irrefl _)) (hk4 b o e), Nat.le_trans F3.above (Nat.le_of_lt hLG)⟩
          have N5 : News g GL h5 [] := News.nil
          clear F3 N3 F2 N2
          (try dsimp only)
          repeat' ((fail_if_success (with_reducible show Hold _)); (fail_if_success (with_reducible show wpAny _ _ (call _ _) _ _ _)); (first | (k_unfold; (try dsimp only)) | (k_end; wrow_close) | walk1 | (dsimp only; walk1) | (leave1; walk_say "STEP leave1"; try dsimp only) | fail "no step"))
          exact call_enumerate_str fun h6 he6 hst6 hsz6 hk6 => hQ5 h6 _ he6 hst6 hk6
end Mine
end PartStrip

section PartPlainRing
open PySem.W PyProof.Rows in
theorem Mine.cleanPlainRing : (1 : Nat) = 1 := by
  (w_on; w_top off; k_with_none)
  first | walk1 | rfl
open PySem PySem.W PyProof.Rows
namespace Mine
noncomputable def sg (p k : Int) : Nat := if k = 0 then 97 + p.toNat else if k = 1 then 65 + p.toNat else 34
theorem signK_eq (p k : Int) : signK p k = ⟨#[sg p k]⟩ := by
  unfold signK sg
  split
  · rfl
  · split <;> rfl
noncomputable def sgAt (ks ps : List Int) (i : Nat) : Nat := sg (ps.getD i 0) (ks.getD i 0)
noncomputable def ringL (ks ps : List Int) : List Nat := (List.range 8).map (sgAt ks ps)
noncomputable def backL (ks ps : List Int) : List Nat := [0, 7, 6, 5, 4, 3, 2, 1].map (sgAt ks ps)
/-- what stands outside of the quotes -/
noncomputable def keepQ : Bool → List Nat → List Nat
  | _, [] => []
  | q, c :: r => if c = 34 then keepQ (!q) r else if q then keepQ q r else c :: keepQ q r
noncomputable def parQ (l : List Nat) : Bool := l.foldl (fun b c => if c = 34 then !b else b) false
theorem par_from : ∀ (l : List Nat) (b : Bool), l.foldl (fun b c => if c = 34 then !b else b) b = (b != parQ l)
  | [], b => by simp [parQ]
  | c :: r, b => by
    have h1 := par_from r
    unfold parQ
    rw [List.foldl_cons, List.foldl_cons, h1, h1 (if c = 34 then !false else false)]
    by_cases hc : c = 34
    · rw [if_pos hc, if_pos hc]; cases b <;> cases parQ r <;> rfl
    · rw [if_neg hc, if_neg hc]; cases b <;> cases parQ r <;> rfl
theorem par_cons (c : Nat) (r : List Nat) : parQ (c :: r) = ((decide (c = 34)) != parQ r) := by
  conv => lhs; unfold parQ
  rw [List.foldl_cons, par_from]
  by_cases hc : c = 34
  · rw [if_pos hc]; simp [hc]
  · rw [if_neg hc]; simp [hc]
theorem par_append (l r : List Nat) : parQ (l ++ r) = (parQ l != parQ r) := by
  conv => lhs; unfold parQ
  rw [List.foldl_append, par_from]
  rfl
theorem run_from : ∀ (l : List Nat) (q : Bool) (o : List Nat), l.foldl stepQ (q, o) = ((q != parQ l), o ++ keepQ q l)
  | [], q, o => by simp [parQ, keepQ]
  | c :: r, q, o => by
    rw [List.foldl_cons, par_cons]
    by_cases hc : c = 34
    · have e : stepQ (q, o) c = (!q, o) := by simp [stepQ, hc]
      rw [e, run_from r, keepQ, if_pos hc]
      cases q <;> cases parQ r <;> simp [hc]
    · cases q
      · have e : stepQ (false, o) c = (false, o ++ [c]) := by simp [stepQ, hc]
        rw [e, run_from r, keepQ, if_neg hc]
        simp [hc]
      · have e : stepQ (true, o) c = (true, o) := by simp [stepQ, hc]
        rw [e, run_from r, keepQ, if_neg hc]
        simp [hc]
theorem run_eq (l : List Nat) : runQ l = (parQ l, keepQ false l) := by
  unfold runQ
  rw [run_from]; simp
theorem keep_append : ∀ (l r : List Nat) (q : Bool), keepQ q (l ++ r) = keepQ q l ++ keepQ (q != parQ l) r
  | [], r, q => by simp [keepQ, parQ]
  | c :: l, r, q => by
    rw [List.cons_append, keepQ, keepQ, par_cons]
    by_cases hc : c = 34
    · rw [if_pos hc, if_pos hc, keep_append l r]
      congr 2
      cases q <;> cases parQ l <;> simp [hc]
    · rw [if_neg hc, if_neg hc]
      cases q
      · simp only [Bool.false_eq_true, if_false, List.cons_append]
        rw [keep_append l r]
        simp [hc]
      · simp only [if_true]
        rw [keep_append l r]
        simp [hc]
theorem par_reverse : ∀ l : List Nat, parQ l.reverse = parQ l
  | [] => rfl
  | c :: r => by
    rw [List.reverse_cons, par_append, par_reverse r, par_cons, par_cons]
    have : parQ [] = false := rfl
    rw [this]
    cases parQ r <;> cases decide (c = 34) <;> rfl
theorem keep_reverse : ∀ (l : List Nat) (q : Bool), keepQ q l.reverse = (keepQ (q != parQ l) l).reverse
  | [], q => by simp [keepQ]
  | c :: r, q => by
    rw [List.reverse_cons, keep_append, keep_reverse r, par_reverse, par_cons]
    by_cases hc : c = 34
    · have e1 : keepQ (q != parQ r) [c] = [] := by simp [keepQ, hc]
      have e2 : keepQ (q != (decide (c = 34) != parQ r)) (c :: r) = keepQ (!(q != (decide (c = 34) != parQ r))) r := by rw [keepQ, if_pos hc]
      rw [e1, List.append_nil, e2]
      congr 2
      cases q <;> cases parQ r <;> simp [hc]
    · have hd : decide (c = 34) = false := by simpa using hc
      rw [hd]
      have e2 : (q != (false != parQ r)) = (q != parQ r) := by cases q <;> cases parQ r <;> rfl
      rw [e2]
      cases h : (q != parQ r)
      · simp [keepQ, hc]
      · simp [keepQ, hc]
theorem par_sg (ks ps : List Int) (hps : ∀ i, i < 8 → 0 ≤ ps.getD i 0 ∧ ps.getD i 0 < 16) (hks : ∀ i, i < 8 → 0 ≤ ks.getD i 0 ∧ ks.getD i 0 < 3) (i : Nat) (hi : i < 8) : (sgAt ks ps i = 34 ↔ ks.getD i 0 = 2) ∧ sgAt ks ps i ≠ 92 ∧ sgAt ks ps i < 128 := by
  have h1 := hps i hi
  have h2 := hks i hi
  unfold sgAt sg
  split
  · omega
  · split <;> omega
theorem strs_of {f : Nat → Str} : ∀ {n : Nat} {ys : List Value}, ys.length = n → (∀ (i : Nat) (y : Value), ys[i]? = some y → ∃ t, y = .str (f i) t) → StrsAre ys ((List.range n).map f) := by
  intro n
  induction n with
  | zero =>
    intro ys h _
    rw [List.length_eq_zero_iff] at h
    subst h; exact .nil
  | succ n ih =>
    intro ys h hy
    obtain ⟨zs, y, rfl⟩ : ∃ zs y, ys = zs ++ [y] := by
      rcases List.eq_nil_or_concat ys with rfl | ⟨zs, y, e⟩
      · simp at h
      · exact ⟨zs, y, by simpa using e⟩
    have hz : zs.length = n := by simpa using h
    obtain ⟨t, rfl⟩ := hy n y (by rw [List.getElem?_append_right (by omega), hz]; simp)
    rw [List.range_succ, List.map_append]
    refine StrsAre.append' (ih hz fun i v hv => hy i v ?_) (.cons _ _ .nil)
    have : i < zs.length := (List.getElem?_eq_some_iff.mp hv).1
    rw [List.getElem?_append_left this]; exact hv
theorem LL_signs {f : Nat → Nat} {n : Nat} : LL (Txt.join (Str.ofString "") ((List.range n).map fun i => (⟨#[f i]⟩ : Str))) = (List.range n).map f := by
  rw [LL_join, List.map_map]
  have : ∀ l : List Nat, (l.map (LL ∘ fun i => (⟨#[f i]⟩ : Str))).flatten = l.map f := by
    intro l
    induction l with
    | nil => rfl
    | cons a r ih => rw [List.map_cons, List.flatten_cons, ih]; rfl
  exact this _
theorem weigh_signs {f : Nat → Str} (h : ∀ i, (f i).length = 1) : (((List.range 8).map f).map (·.length)).sum + ((List.range 8).map f).length ≤ 1048576 := by
  have e : ((List.range 8).map f).map (·.length) = (List.range 8).map fun _ => 1 := by
    rw [List.map_map]; exact List.map_congr_left fun i _ => h i
  rw [e, List.length_map]
  decide
theorem sign_len (p k : Int) : (signK p k).length = 1 := by rw [signK_eq]; rfl
theorem ring_text (ks ps : List Int) : LL (Txt.join (Str.ofString "") ((List.range 8).map fun i => signK (ps.getD i 0) (ks.getD i 0))) = ringL ks ps := by
  have e : (fun i => signK (ps.getD i 0) (ks.getD i 0)) = fun i => (⟨#[sgAt ks ps i]⟩ : Str) := funext fun i => signK_eq _ _
  rw [e, LL_signs]; rfl
theorem par_count : ∀ l : List Nat, parQ l = decide ((l.countP (· == 34)) % 2 = 1)
  | [] => rfl
  | c :: r => by
    rw [par_cons, par_count r, List.countP_cons]
    by_cases hc : c = 34
    · simp only [hc, decide_true, beq_self_eq_true, if_true]
      by_cases hr : (r.countP (· == 34)) % 2 = 1
      · have : ¬ (r.countP (· == 34) + 1) % 2 = 1 := by omega
        simp [hr, this]
      · have : (r.countP (· == 34) + 1) % 2 = 1 := by omega
        simp [hr, this]
    · simp [hc]
theorem par_ring {ks ps : List Int} (hps : ∀ i, i < 8 → 0 ≤ ps.getD i 0 ∧ ps.getD i 0 < 16) (hks : ∀ i, i < 8 → 0 ≤ ks.getD i 0 ∧ ks.getD i 0 < 3) (h8 : ks.length = 8) (he : (ks.filter (· == 2)).length % 2 = 0) : parQ (ringL ks ps) = false := by
  rw [par_count]
  have e1 : (ringL ks ps).countP (· == 34) = ks.countP (· == 2) := by
    have ek : ks = (List.range 8).map (fun k => ks.getD k 0) := by
      apply List.ext_getElem (by simp [h8])
      intro i h1 h2
      simp [List.getD, h1]
    conv => rhs; rw [ek]
    unfold ringL
    rw [List.countP_map, List.countP_map]
    apply List.countP_congr
    intro i hi
    have hi' : i < 8 := List.mem_range.mp hi
    have := (par_sg ks ps hps hks i hi').1
    simp only [Function.comp_apply, beq_iff_eq]
    exact this
  rw [e1, List.countP_eq_length_filter]
  simp; omega
theorem ring_cons (ks ps : List Int) : ∃ r, ringL ks ps = sgAt ks ps 0 :: r ∧ backL ks ps = sgAt ks ps 0 :: r.reverse :=
  ⟨[1, 2, 3, 4, 5, 6, 7].map (sgAt ks ps), rfl, rfl⟩
theorem par_back {ks ps : List Int} (h : parQ (ringL ks ps) = false) : parQ (backL ks ps) = false := by
  obtain ⟨r, e1, e2⟩ := ring_cons ks ps
  rw [e1, par_cons] at h
  rw [e2, par_cons, par_reverse]; exact h
theorem sign_mem {ks ps : List Int} (hps : ∀ i, i < 8 → 0 ≤ ps.getD i 0 ∧ ps.getD i 0 < 16) (hks : ∀ i, i < 8 → 0 ≤ ks.getD i 0 ∧ ks.getD i 0 < 3) {x : Str} {f : Nat → Nat} (hf : ∀ i, i < 8 → f i < 8) (hx : LL x = (List.range 8).map fun i => sgAt ks ps (f i)) :
    ∀ (i c : Nat), x.cps[i]? = some c → c ≠ 92 := by
  intro i c hc
  have hc' : (LL x)[i]? = some c := by simpa [LL] using hc
  have hm := List.mem_of_getElem? hc'
  rw [hx, List.mem_map] at hm
  obtain ⟨j, hj, rfl⟩ := hm
  exact (par_sg ks ps hps hks _ (hf j (List.mem_range.mp hj))).2.1
/-- the ring without what lies between the gates -/
noncomputable def dueL (ks ps : List Int) : List Nat := keepQ false (ringL ks ps)
/-- the loop that reckons the ring: gates passed, the text so far -/
noncomputable def DInv (ks ps : List Int) (i : Nat) (p : Int) (d : Str) : Prop := 0 ≤ p ∧ p ≤ i ∧ p.fmod 2 = (if parQ ((ringL ks ps).take i) then 1 else 0) ∧ LL d = keepQ false ((ringL ks ps).take i) ∧ d.length ≤ i
theorem dinv_start (ks ps : List Int) : DInv ks ps 0 0 (Str.ofString "") := ⟨by omega, by simp, by simp [parQ], by simp [keepQ]; decide +kernel, by decide +kernel⟩
theorem ring_take {ks ps : List Int} {i : Nat} (hi : i < 8) : (ringL ks ps).take (i + 1) = (ringL ks ps).take i ++ [sgAt ks ps i] := by
  have h : (ringL ks ps)[i]? = some (sgAt ks ps i) := by
    unfold ringL
    rw [List.getElem?_map, List.getElem?_range hi]; rfl
  rw [List.take_add_one, h]; rfl
theorem fmod_step {p : Int} {b : Bool} (hp : 0 ≤ p) (h : p.fmod 2 = if b then 1 else 0) : (p + 1).fmod 2 = if (!b) then 1 else 0 := by
  rw [Int.fmod_eq_emod_of_nonneg _ (by decide)] at h ⊢
  cases b <;> simp at h ⊢ <;> omega
theorem dinv_gate {ks ps : List Int} {i : Nat} {p : Int} {d : Str} (hi : i < 8) (h34 : sgAt ks ps i = 34) (h : DInv ks ps i p d) : DInv ks ps (i + 1) (p + 1) d := by
  obtain ⟨h0, h1, h2, h3, h4⟩ := h
  rw [DInv, ring_take hi, par_append, keep_append, h34]
  refine ⟨by omega, by omega, ?_, ?_, by omega⟩
  · rw [fmod_step h0 h2]
    have : parQ [34] = true := rfl
    rw [this]
    cases parQ ((ringL ks ps).take i) <;> rfl
  · rw [h3]; simp [keepQ]
theorem dinv_in {ks ps : List Int} {i : Nat} {p : Int} {d : Str} (hi : i < 8) (h34 : sgAt ks ps i ≠ 34) (hp : p.fmod 2 ≠ 0) (h : DInv ks ps i p d) : DInv ks ps (i + 1) p d := by
  obtain ⟨h0, h1, h2, h3, h4⟩ := h
  rw [DInv, ring_take hi, par_append, keep_append]
  have e : parQ [sgAt ks ps i] = false := by simp [parQ, h34]
  have hb : parQ ((ringL ks ps).take i) = true := by
    cases hb : parQ ((ringL ks ps).take i)
    · rw [hb] at h2; exact absurd h2 hp
    · rfl
  rw [e, hb]
  rw [hb] at h2
  refine ⟨h0, by omega, h2, ?_, by omega⟩
  rw [h3]; simp [keepQ, h34]
theorem dinv_out {ks ps : List Int} {i : Nat} {p : Int} {d x : Str} (hi : i < 8) (h34 : sgAt ks ps i ≠ 34) (hp : p.fmod 2 = 0) (hx : x = ⟨#[sgAt ks ps i]⟩) (h : DInv ks ps i p d) : DInv ks ps (i + 1) p (d ++ x) := by
  obtain ⟨h0, h1, h2, h3, h4⟩ := h
  rw [DInv, ring_take hi, par_append, keep_append]
  have e : parQ [sgAt ks ps i] = false := by simp [parQ, h34]
  have hb : parQ ((ringL ks ps).take i) = false := by
    cases hb : parQ ((ringL ks ps).take i)
    · rfl
    · rw [hb, hp] at h2; cases h2
  rw [e, hb]
  rw [hb] at h2
  have hL : LL (d ++ x) = LL d ++ LL x := by
    show (d.cps ++ x.cps).toList = _
    simp [LL]
  refine ⟨h0, by omega, h2, ?_, ?_⟩
  · rw [hL, h3, hx]; simp [keepQ, h34, LL]
  · have : (d ++ x).length = d.length + 1 := by
      rw [length_of_LL, hL, List.length_append, hx, len_LL]; rfl
    omega
theorem dinv_end {ks ps : List Int} {p : Int} {d : Str} (h : DInv ks ps 8 p d) : LL d = dueL ks ps := h.2.2.2.1
theorem letter0 {p : Int} (hp : 0 ≤ p ∧ p < 16) : Txt.item (Str.ofString "abcdefghijklmnopABCDEFGHIJKLMNOP") (p + 16 * 0) = ⟨#[sg p 0]⟩ := by
  obtain ⟨n, rfl⟩ := Int.eq_ofNat_of_zero_le hp.1
  have hn : n < 16 := by omega
  have h : ∀ n : Nat, n < 16 → Txt.item (Str.ofString "abcdefghijklmnopABCDEFGHIJKLMNOP") ((n : Int) + 16 * 0) = ⟨#[sg (n : Int) 0]⟩ := by decide +kernel
  exact h n hn
theorem letter1 {p : Int} (hp : 0 ≤ p ∧ p < 16) : Txt.item (Str.ofString "abcdefghijklmnopABCDEFGHIJKLMNOP") (p + 16 * 1) = ⟨#[sg p 1]⟩ := by
  obtain ⟨n, rfl⟩ := Int.eq_ofNat_of_zero_le hp.1
  have hn : n < 16 := by omega
  have h : ∀ n : Nat, n < 16 → Txt.item (Str.ofString "abcdefghijklmnopABCDEFGHIJKLMNOP") ((n : Int) + 16 * 1) = ⟨#[sg (n : Int) 1]⟩ := by decide +kernel
  exact h n hn
noncomputable def dmap (u0 : Option Value) (p : Int) (tp : Tok) (m₀ : Str → Option Value) : Str → Option Value := fun y => if y = Str.ofString "k" then u0 else if y = Str.ofString "passed" then some (.int p tp) else m₀ y
theorem dmap_of {m₂ m₀ : Str → Option Value} {p : Int} {tp : Tok} (hp : m₂ (Str.ofString "passed") = some (.int p tp)) (h : ∀ y, y ≠ Str.ofString "k" → y ≠ Str.ofString "passed" → m₂ y = m₀ y) : ∃ u0, m₂ = dmap u0 p tp m₀ := by
  refine ⟨m₂ (Str.ofString "k"), ?_⟩
  funext y
  unfold dmap
  by_cases e1 : y = Str.ofString "k"
  · rw [if_pos e1, e1]
  · rw [if_neg e1]
    by_cases e2 : y = Str.ofString "passed"
    · rw [if_pos e2, e2, hp]
    · rw [if_neg e2, h y e1 e2]
end Mine
end PartPlainRing

section PartRing
open PySem.W PyProof.Rows in
theorem Mine.cleanRing : (1 : Nat) = 1 := by
  (w_on; w_top off; k_with_none)
  first | walk1 | rfl
open PySem PySem.W PyProof.Rows PySem.Spec PySem.Calls
namespace Mine
section
variable {prog : Program} {w : World} {A : Around} {E : Value → Shared → Prop} {s : Shared} {Q : Value → Shared → Prop}
theorem item_s1 {value slice : Expr} {a : Addr} {u : Tok} {f : UInt64} {x : Str} {t1 t2 : Tok} (hg : s.heap.get? a = some (tup2 f x t1 t2)) (h : Q (.str x t2) s)
    (hs : subscripted slice false (.ref a) (.int 1 u) = operate [.ref a, .int 1 u] (getItem (.ref a) (.int 1 u)) := by with_unfolding_all rfl) (hl : ∀ r, letTemporaryGo value (.ref a) r = pure () := by intro _; with_unfolding_all rfl) :
    wpAny (model prog w) A (subscriptTail value slice (.ref a) (.int 1 u)) Q E s :=
  item_tuple (items := #[.float f t1, .str x t2]) (j := 1) ⟨_, hg, rfl, _, rfl⟩ (by decide) (by decide) rfl rfl h hs hl
end
theorem seen_at {tl : List (Addr × Obj)} {v1 : List Value} {ks ps : List Int} {tk : Nat} (h : TupsAt tl v1 ((ordL.take 8).map (seenQ ks ps)) tk) (i : Nat) (v : Value) (hv : (perm1.map fun i => v1.getD i Value.none)[i]? = some v) :
    ∃ a f t t2, v = .ref a ∧ (a, tup2 f (signK (ps.getD i 0) (ks.getD i 0)) t t2) ∈ tl := by
  obtain ⟨ts, t1, t2, t3, t4, t5⟩ := h
  have hl : v1.length = 8 := t1
  have hi : i < 8 := by
    have := (List.getElem?_eq_some_iff.mp hv).1
    simpa [perm1] using this
  have at_ : ∀ j, j < 8 → v1[j]? = some (v1.getD j Value.none) := fun j hj => by
    rw [List.getD_eq_getElem?_getD, List.getElem?_eq_getElem (by omega)]; rfl
  have go : ∀ j : Nat, j < 8 → v1.getD j Value.none = v → ordL[j]? = some (i : Int) → ∃ a f t t2, v = .ref a ∧ (a, tup2 f (signK (ps.getD i 0) (ks.getD i 0)) t t2) ∈ tl := by
    intro j hj hvj ho
    obtain ⟨q, t, a, u, e1, e2, e3, e4⟩ := t5 j _ (at_ j hj)
    have eq : q = seenQ ks ps (i : Int) := by
      rw [List.getElem?_map, show (ordL.take 8)[j]? = ordL[j]? by rfl, ho] at e1
      exact (Option.some.inj e1).symm
    refine ⟨a, q.1, t, u, hvj ▸ e3, ?_⟩
    rw [eq] at e4 ⊢
    exact e4
  rcases (show i = 0 ∨ i = 1 ∨ i = 2 ∨ i = 3 ∨ i = 4 ∨ i = 5 ∨ i = 6 ∨ i = 7 by omega) with rfl | rfl | rfl | rfl | rfl | rfl | rfl | rfl
  · exact go 0 (by omega) (Option.some.inj hv) rfl
  · exact go 3 (by omega) (Option.some.inj hv) rfl
  · exact go 6 (by omega) (Option.some.inj hv) rfl
  · exact go 1 (by omega) (Option.some.inj hv) rfl
  · exact go 4 (by omega) (Option.some.inj hv) rfl
  · exact go 7 (by omega) (Option.some.inj hv) rfl
  · exact go 2 (by omega) (Option.some.inj hv) rfl
  · exact go 5 (by omega) (Option.some.inj hv) rfl
noncomputable def mo (i : Nat) : Nat := [0, 7, 6, 5, 4, 3, 2, 1].getD i 0
theorem mir_at {tl : List (Addr × Obj)} {v1 : List Value} {ks ps : List Int} {tk : Nat} (h : TupsAt tl v1 ((ordL.take 8).map (mirQ ks ps)) tk) (i : Nat) (v : Value) (hv : (perm2.map fun i => v1.getD i Value.none)[i]? = some v) :
    ∃ a f t t2, v = .ref a ∧ (a, tup2 f (signK (ps.getD (mo i) 0) (ks.getD (mo i) 0)) t t2) ∈ tl := by
  obtain ⟨ts, t1, t2, t3, t4, t5⟩ := h
  have hl : v1.length = 8 := t1
  have hi : i < 8 := by
    have := (List.getElem?_eq_some_iff.mp hv).1
    simpa [perm2] using this
  have at_ : ∀ j, j < 8 → v1[j]? = some (v1.getD j Value.none) := fun j hj => by
    rw [List.getD_eq_getElem?_getD, List.getElem?_eq_getElem (by omega)]; rfl
  have go : ∀ j : Nat, j < 8 → v1.getD j Value.none = v → ordL[j]? = some (mo i : Int) → ∃ a f t t2, v = .ref a ∧ (a, tup2 f (signK (ps.getD (mo i) 0) (ks.getD (mo i) 0)) t t2) ∈ tl := by
    intro j hj hvj ho
    obtain ⟨q, t, a, u, e1, e2, e3, e4⟩ := t5 j _ (at_ j hj)
    have eq : q = mirQ ks ps (mo i : Int) := by
      rw [List.getElem?_map, show (ordL.take 8)[j]? = ordL[j]? by rfl, ho] at e1
      exact (Option.some.inj e1).symm
    refine ⟨a, q.1, t, u, hvj ▸ e3, ?_⟩
    rw [eq] at e4 ⊢
    exact e4
  rcases (show i = 0 ∨ i = 1 ∨ i = 2 ∨ i = 3 ∨ i = 4 ∨ i = 5 ∨ i = 6 ∨ i = 7 by omega) with rfl | rfl | rfl | rfl | rfl | rfl | rfl | rfl
  · exact go 0 (by omega) (Option.some.inj hv) rfl
  · exact go 5 (by omega) (Option.some.inj hv) rfl
  · exact go 2 (by omega) (Option.some.inj hv) rfl
  · exact go 7 (by omega) (Option.some.inj hv) rfl
  · exact go 4 (by omega) (Option.some.inj hv) rfl
  · exact go 1 (by omega) (Option.some.inj hv) rfl
  · exact go 6 (by omega) (Option.some.inj hv) rfl
  · exact go 3 (by omega) (Option.some.inj hv) rfl
/-- the places grow -/
noncomputable def Grows (ps : List Int) : Prop := ps.getD 0 0 = 0 ∧ (∀ a b, a < b → b < 8 → ps.getD a 0 < ps.getD b 0) ∧ ∀ a, a < 8 → 0 ≤ ps.getD a 0 ∧ ps.getD a 0 < 16
theorem ps_grows {ps : List Int} {x1 x2 x3 x4 x5 x6 x7 : Int} (h : ps = [0, 2 * 1 + x1.fmod 2, 2 * 2 + x2.fmod 2, 2 * 3 + x3.fmod 2, 2 * 4 + x4.fmod 2, 2 * 5 + x5.fmod 2, 2 * 6 + x6.fmod 2, 2 * 7 + x7.fmod 2]) : Grows ps := by
  have b1 := fmod2 x1
  have b2 := fmod2 x2
  have b3 := fmod2 x3
  have b4 := fmod2 x4
  have b5 := fmod2 x5
  have b6 := fmod2 x6
  have b7 := fmod2 x7
  have key : ∀ a : Nat, a < 8 → 2 * (a : Int) ≤ ps.getD a 0 ∧ ps.getD a 0 ≤ 2 * (a : Int) + 1 := by
    intro a ha
    subst h
    rcases (show a = 0 ∨ a = 1 ∨ a = 2 ∨ a = 3 ∨ a = 4 ∨ a = 5 ∨ a = 6 ∨ a = 7 by omega) with rfl | rfl | rfl | rfl | rfl | rfl | rfl | rfl <;> simp <;> omega
  refine ⟨by subst h; rfl, fun a b hab hb => ?_, fun a ha => ?_⟩
  · have h1 := key a (by omega); have h2 := key b hb; omega
  · have h1 := key a ha; omega
theorem rk1_lt : ∀ i, i < 8 → rk1 i < 8 := by decide
theorem rk1_inj : ∀ i, i < 8 → ∀ j, j < 8 → rk1 i = rk1 j → i = j := by decide
theorem rk2_eq : ∀ i, i < 8 → rk2 i = (8 - rk1 i) % 8 := by decide
noncomputable def pk1 (ps : List Int) (i : Nat) : Int := ps.getD (rk1 i) 0
noncomputable def pk2 (ps : List Int) (i : Nat) : Int := (16 - ps.getD (rk1 i) 0).fmod 16
theorem pk1_rk {ps : List Int} (h : Grows ps) (i j : Nat) (hi : i < 8) (hj : j < 8) (hij : i ≠ j) : pk1 ps i ≠ pk1 ps j ∧ decide (pk1 ps i < pk1 ps j) = Nat.blt (rk1 i) (rk1 j) := by
  have li := rk1_lt i hi
  have lj := rk1_lt j hj
  unfold pk1
  rcases Nat.lt_trichotomy (rk1 i) (rk1 j) with hlt | heq | hgt
  · have := h.2.1 _ _ hlt lj
    refine ⟨by omega, ?_⟩
    rw [decide_eq_true this, (Nat.blt_eq).mpr hlt]
  · exact absurd (rk1_inj i hi j hj heq) hij
  · have := h.2.1 _ _ hgt li
    refine ⟨by omega, ?_⟩
    rw [decide_eq_false (by omega)]
    cases hb : Nat.blt (rk1 i) (rk1 j)
    · rfl
    · rw [Nat.blt_eq] at hb; omega
theorem pk2_val {ps : List Int} (h : Grows ps) (i : Nat) (hi : i < 8) : pk2 ps i = if rk1 i = 0 then 0 else 16 - ps.getD (rk1 i) 0 := by
  have li := rk1_lt i hi
  unfold pk2
  by_cases h0 : rk1 i = 0
  · rw [if_pos h0, h0, h.1]; decide
  · rw [if_neg h0]
    have h1 := h.2.1 0 (rk1 i) (by omega) li
    have h2 := h.2.2 (rk1 i) li
    rw [h.1] at h1
    rw [Int.fmod_eq_emod_of_nonneg _ (by decide)]
    omega
theorem pk2_rk {ps : List Int} (h : Grows ps) (i j : Nat) (hi : i < 8) (hj : j < 8) (hij : i ≠ j) : pk2 ps i ≠ pk2 ps j ∧ decide (pk2 ps i < pk2 ps j) = Nat.blt (rk2 i) (rk2 j) := by
  have li := rk1_lt i hi
  have lj := rk1_lt j hj
  rw [pk2_val h i hi, pk2_val h j hj, rk2_eq i hi, rk2_eq j hj]
  have bi := h.2.2 (rk1 i) li
  have bj := h.2.2 (rk1 j) lj
  have hne : rk1 i ≠ rk1 j := fun e => hij (rk1_inj i hi j hj e)
  have m0 : ∀ k, 0 < k → k < 8 → 0 < ps.getD k 0 := fun k h0 hk => by have := h.2.1 0 k h0 hk; rw [h.1] at this; exact this
  have fin : ∀ (a b : Int) (c d : Nat), a ≠ b → (a < b ↔ c < d) → a ≠ b ∧ decide (a < b) = Nat.blt c d := fun a b c d hab hcd => by
    refine ⟨hab, ?_⟩
    by_cases hl : a < b
    · rw [decide_eq_true hl, (Nat.blt_eq).mpr (hcd.mp hl)]
    · rw [decide_eq_false hl]
      cases hb : Nat.blt c d
      · rfl
      · rw [Nat.blt_eq] at hb; exact absurd (hcd.mpr hb) hl
  by_cases zi : rk1 i = 0
  · have zj : rk1 j ≠ 0 := fun e => hne (zi.trans e.symm)
    have := m0 (rk1 j) (by omega) lj
    rw [if_pos zi, if_neg zj, zi]
    exact fin _ _ _ _ (by omega) ⟨fun _ => by omega, fun _ => by omega⟩
  · by_cases zj : rk1 j = 0
    · have := m0 (rk1 i) (by omega) li
      rw [if_neg zi, if_pos zj, zj]
      exact fin _ _ _ _ (by omega) ⟨fun _ => by omega, fun _ => by omega⟩
    · rw [if_neg zi, if_neg zj]
      rcases Nat.lt_or_gt_of_ne hne with hlt | hgt
      · have := h.2.1 _ _ hlt lj
        exact fin _ _ _ _ (by omega) ⟨fun _ => by omega, fun _ => by omega⟩
      · have := h.2.1 _ _ hgt li
        exact fin _ _ _ _ (by omega) ⟨fun _ => by omega, fun _ => by omega⟩
theorem seen_key {ks ps : List Int} (i : Nat) (q : UInt64 × Str) (h : ((ordL.take 8).map (seenQ ks ps))[i]? = some q) : q.1 = FF (pk1 ps i) := by
  have hi : i < 8 := (List.getElem?_eq_some_iff.mp h).1
  rcases (show i = 0 ∨ i = 1 ∨ i = 2 ∨ i = 3 ∨ i = 4 ∨ i = 5 ∨ i = 6 ∨ i = 7 by omega) with rfl | rfl | rfl | rfl | rfl | rfl | rfl | rfl <;>
    (rw [← Option.some.inj h]; rfl)
theorem mir_key {ks ps : List Int} (i : Nat) (q : UInt64 × Str) (h : ((ordL.take 8).map (mirQ ks ps))[i]? = some q) : q.1 = FF (pk2 ps i) := by
  have hi : i < 8 := (List.getElem?_eq_some_iff.mp h).1
  rcases (show i = 0 ∨ i = 1 ∨ i = 2 ∨ i = 3 ∨ i = 4 ∨ i = 5 ∨ i = 6 ∨ i = 7 by omega) with rfl | rfl | rfl | rfl | rfl | rfl | rfl | rfl <;>
    (rw [← Option.some.inj h]; rfl)
theorem mo_lt : ∀ i, mo i < 8 := by
  intro i
  by_cases h : i < 8
  · rcases (show i = 0 ∨ i = 1 ∨ i = 2 ∨ i = 3 ∨ i = 4 ∨ i = 5 ∨ i = 6 ∨ i = 7 by omega) with rfl | rfl | rfl | rfl | rfl | rfl | rfl | rfl <;> decide
  · have : mo i = 0 := by
      unfold mo
      rw [List.getD_eq_getElem?_getD, List.getElem?_eq_none (by simp; omega)]; rfl
    rw [this]; decide
theorem back_text (ks ps : List Int) : LL (Txt.join (Str.ofString "") ((List.range 8).map fun i => signK (ps.getD (mo i) 0) (ks.getD (mo i) 0))) = backL ks ps := by
  have e : (fun i => signK (ps.getD (mo i) 0) (ks.getD (mo i) 0)) = fun i => (⟨#[sgAt ks ps (mo i)]⟩ : Str) := funext fun i => signK_eq _ _
  rw [e, LL_signs]; rfl
noncomputable def DJ (pre post : List (Addr × Obj)) (a4 : Addr) (m₀ : Str → Option Value) (ks ps : List Int) (i _tk : Nat) (m : Str → Option Value) (news : List (Addr × Obj)) : Prop :=
  ∃ (u0 : Option Value) (p : Int) (tp : Tok) (d : Str) (td : Tok) (c4 : Obj), m = dmap u0 p tp m₀ ∧ news = pre ++ (a4, c4) :: post ∧ c4.data = .cell (some (.str d td)) ∧ DInv ks ps i p d
theorem dturn {h₀ h : Heap} {L I a4 : Addr} {pre post : List (Addr × Obj)} {c4 cOld oI : Obj} {m₂ m₀ : Str → Option Value} {ks ps : List Int} {i tk : Nat} {p : Int} {tp td : Tok} {d : Str} {s₁ : Shared}
    (NE : News h₀ L h ((I, oI) :: (pre ++ (a4, c4) :: post))) (FE : Fr h₀ L h m₂) (hp : m₂ (Str.ofString "passed") = some (.int p tp)) (hm : ∀ y, y ≠ Str.ofString "k" → y ≠ Str.ofString "passed" → m₂ y = m₀ y)
    (hI : ∀ q ∈ pre ++ (a4, cOld) :: post, q.1 ≠ I) (hc : c4.data = .cell (some (.str d td))) (hD : DInv ks ps (i + 1) p d) :
    TurnEnd2 h₀ L I [(I, oI)] (DJ pre post a4 m₀ ks ps (i + 1)) s₁ { s₁ with heap := h, toks := tk } := by
  obtain ⟨u9, hu⟩ := dmap_of hp hm
  refine ⟨h, tk, m₂, pre ++ (a4, c4) :: post, rfl, FE, NE, ?_, u9, p, tp, d, td, c4, hu, rfl, hc, hD⟩
  intro q hq
  rcases List.mem_append.mp hq with hq | hq
  · exact hI q (List.mem_append_left _ hq)
  · rcases List.mem_cons.mp hq with rfl | hq
    · exact hI (a4, cOld) (List.mem_append_right _ (.head _))
    · exact hI q (List.mem_append_right _ (.tail _ hq))
theorem sg_of {ks ps : List Int} {i : Nat} {c : Int} (h : ks.getD i 0 = c) : sgAt ks ps i = sg (ps.getD i 0) c := by unfold sgAt; rw [h]
theorem loadX_C {M : Model} {A : Around} {E : Value → Shared → Prop} {s : Shared} {h₀ : Heap} {L a c : Addr} {cn : Str} {cs : Scope} {ccd : Value} {cl : List (Str × Addr)} {x : Str} {v : Value} {o : Obj} {Q : Value → Shared → Prop} {news : List (Addr × Obj)}
    (N : News h₀ L s.heap news) (hc : cl.lookup x = some c) (hm : (c, o) ∈ news) (hd : o.data = .cell (some v)) (h : Q v s)
    (hk : cs.kind = .function := by rfl) (hx : (envX cn cs L a ccd cl).kindOf x = some .cell := by rfl) : wpAny M A (loadName (envX cn cs L a ccd cl) x) Q E s := wpAny_loadName_cell hk hx hc ⟨o, N.get hm, hd⟩ h
end Mine
end PartRing

section PartPlainEnd
open PySem.W PyProof.Rows in
theorem Mine.cleanPlainEnd : (1 : Nat) = 1 := by
  (w_on; w_top off; k_with_none)
  first | walk1 | rfl
open PySem PySem.W PyProof.Rows
namespace Mine
noncomputable def back1 : List Nat → List Nat
  | [] => []
  | c :: r => c :: r.reverse
theorem sg0_ne {ks ps : List Int} (hps : ∀ i, i < 8 → 0 ≤ ps.getD i 0 ∧ ps.getD i 0 < 16) (hks : ∀ i, i < 8 → 0 ≤ ks.getD i 0 ∧ ks.getD i 0 < 3) (hk0 : ks.getD 0 0 < 2) : sgAt ks ps 0 ≠ 34 := by
  intro e
  have := (par_sg ks ps hps hks 0 (by decide)).1.mp e
  omega
theorem due_cons {ks ps : List Int} (hps : ∀ i, i < 8 → 0 ≤ ps.getD i 0 ∧ ps.getD i 0 < 16) (hks : ∀ i, i < 8 → 0 ≤ ks.getD i 0 ∧ ks.getD i 0 < 3) (hk0 : ks.getD 0 0 < 2) : ∃ r, ringL ks ps = sgAt ks ps 0 :: r ∧ backL ks ps = sgAt ks ps 0 :: r.reverse ∧ dueL ks ps = sgAt ks ps 0 :: keepQ false r := by
  obtain ⟨r, e1, e2⟩ := ring_cons ks ps
  refine ⟨r, e1, e2, ?_⟩
  unfold dueL
  rw [e1, keepQ, if_neg (sg0_ne hps hks hk0)]
  rfl
theorem due_pos {ks ps : List Int} (hps : ∀ i, i < 8 → 0 ≤ ps.getD i 0 ∧ ps.getD i 0 < 16) (hks : ∀ i, i < 8 → 0 ≤ ks.getD i 0 ∧ ks.getD i 0 < 3) (hk0 : ks.getD 0 0 < 2) {du : Str} (h : LL du = dueL ks ps) : 1 ≤ du.length := by
  obtain ⟨r, _, _, e⟩ := due_cons hps hks hk0
  rw [length_of_LL, h, e]
  simp
theorem back_due {ks ps : List Int} (hps : ∀ i, i < 8 → 0 ≤ ps.getD i 0 ∧ ps.getD i 0 < 16) (hks : ∀ i, i < 8 → 0 ≤ ks.getD i 0 ∧ ks.getD i 0 < 3) (h8 : ks.length = 8) (he : (ks.filter (· == 2)).length % 2 = 0) (hk0 : ks.getD 0 0 < 2) : (runQ (backL ks ps)).2 = back1 (dueL ks ps) := by
  obtain ⟨r, e1, e2, e3⟩ := due_cons hps hks hk0
  have hp := par_ring hps hks h8 he
  rw [e1, par_cons] at hp
  have h0 := sg0_ne hps hks hk0
  have hr : parQ r = false := by simpa [h0] using hp
  rw [run_eq, e2, e3, keepQ, if_neg h0]
  simp only [back1]
  rw [keep_reverse, hr]
  rfl
theorem back1_length (D : List Nat) : (back1 D).length = D.length := by cases D <;> simp [back1]
theorem back1_get {D : List Nat} {j : Nat} (hj : j < D.length) : (back1 D).getD j 0 = D.getD ((D.length - j) % D.length) 0 := by
  cases D with
  | nil => simp at hj
  | cons c r =>
    cases j with
    | zero => simp [back1]
    | succ j =>
      have hj' : j < r.length := by simpa using hj
      have e : ((c :: r).length - (j + 1)) % (c :: r).length = (r.length - 1 - j) + 1 := by
        rw [List.length_cons, Nat.mod_eq_of_lt (by omega)]; omega
      rw [e]
      simp only [back1, List.getD_cons_succ]
      rw [List.getD_eq_getElem?_getD, List.getD_eq_getElem?_getD, List.getElem?_reverse hj']
theorem back1_list (D : List Nat) : back1 D = (List.range D.length).map fun j => D.getD ((D.length - j) % D.length) 0 := by
  apply List.ext_getElem (by simp [back1_length])
  intro j h1 h2
  have hj : j < D.length := by rw [back1_length] at h1; exact h1
  have := back1_get hj
  simp only [List.getElem_map, List.getElem_range]
  rw [← this]
  simp [List.getD, h1]
theorem turn_idx {z i : Nat} (h : i < z) : (((z : Int) - (0 + (i : Int))).fmod (z : Int)).toNat = (z - i) % z := by
  rw [Int.fmod_eq_emod_of_nonneg _ (by omega)]
  have e : ((z : Int) - (0 + (i : Int))) = ((z - i : Nat) : Int) := by omega
  rw [e, ← Int.natCast_emod, Int.toNat_natCast]
theorem fmod_b {z : Nat} (h : 1 ≤ z) (a : Int) : 0 ≤ a.fmod (z : Int) ∧ a.fmod (z : Int) < z := ⟨Int.fmod_nonneg_of_pos _ (by omega), Int.fmod_lt_of_pos _ (by omega)⟩
theorem five_b (a : Int) : 5 ≤ 5 + a.fmod 5 ∧ 5 + a.fmod 5 < 10 := by
  have h1 := Int.fmod_nonneg_of_pos a (b := 5) (by omega)
  have h2 := Int.fmod_lt_of_pos a (b := 5) (by omega)
  omega
/-- the sign on which a walker stands at his i-th step -/
noncomputable def stepL (D : List Nat) (a : Int) (z i : Nat) : Nat := D.getD ((a + (0 + (i : Int))).fmod (z : Int)).toNat 0
/-- a text's sign at a place -/
theorem item_at {x : Str} {j : Int} (h0 : 0 ≤ j) (h1 : j < x.length) : Txt.item x j = ⟨#[(LL x).getD j.toNat 0]⟩ := by
  have hj : j.toNat < x.cps.size := by have : x.length = x.cps.size := rfl; omega
  have e0 : seqIndex? j x.length = some j.toNat := by
    unfold seqIndex?
    simp only [if_neg (show ¬ j < 0 by omega)]
    rw [if_pos (by simp [h0, h1])]
  unfold Txt.item Txt.charAt
  rw [e0]
  simp [LL, List.getD, hj]
/-- a small letter for a great one -/
noncomputable def lowN (c : Nat) : Nat := if c < 97 then c + 32 else c
noncomputable def Let (c : Nat) : Prop := (97 ≤ c ∧ c < 113) ∨ (65 ≤ c ∧ c < 81)
noncomputable def letB (c : Nat) : Bool := decide ((97 ≤ c ∧ c < 113) ∨ (65 ≤ c ∧ c < 81))
theorem letB_of {c : Nat} (h : Let c) : letB c = true := decide_eq_true h
theorem sub_all : ((List.range 113).all fun x => (List.range 113).all fun y => !(letB x && letB y && decide (lowN x ≠ lowN y)) || decide (sub x y = 2)) = true := by decide +kernel
theorem sub_ne {x y : Nat} (hx : Let x) (hy : Let y) (h : lowN x ≠ lowN y) : sub x y = 2 := by
  have := List.all_eq_true.mp (List.all_eq_true.mp sub_all x (by unfold Let at hx; simp; omega)) y (by unfold Let at hy; simp; omega)
  simpa [letB_of hx, letB_of hy, h] using this
theorem sub_self (x : Nat) : sub x x = 0 := by unfold sub subst; rw [if_pos rfl]
noncomputable def Apart (l : List Nat) : Prop := l.Pairwise fun x y => lowN x ≠ lowN y
theorem apart_get {D : List Nat} (h : Apart D) {i j : Nat} (hi : i < D.length) (hj : j < D.length) (hij : i ≠ j) : lowN (D.getD i 0) ≠ lowN (D.getD j 0) := by
  have hp := List.pairwise_iff_getElem.mp h
  have e1 : D.getD i 0 = D[i] := by simp [List.getD, hi]
  have e2 : D.getD j 0 = D[j] := by simp [List.getD, hj]
  rw [e1, e2]
  rcases Nat.lt_or_gt_of_ne hij with h1 | h1
  · exact hp i j hi hj h1
  · exact fun e => hp j i hj hi h1 e.symm
theorem keep_mem : ∀ (l : List Nat) (q : Bool), ∀ c ∈ keepQ q l, c ∈ l ∧ c ≠ 34
  | [], q, c, h => by simp [keepQ] at h
  | a :: r, q, c, h => by
    unfold keepQ at h
    by_cases ha : a = 34
    · rw [if_pos ha] at h
      exact ⟨.tail _ (keep_mem r _ c h).1, (keep_mem r _ c h).2⟩
    · rw [if_neg ha] at h
      cases q
      · simp only [Bool.false_eq_true, if_false] at h
        rcases List.mem_cons.mp h with rfl | h
        · exact ⟨.head _, ha⟩
        · exact ⟨.tail _ (keep_mem r _ c h).1, (keep_mem r _ c h).2⟩
      · simp only [if_true] at h
        exact ⟨.tail _ (keep_mem r _ c h).1, (keep_mem r _ c h).2⟩
theorem keep_sub : ∀ (l : List Nat) (q : Bool), (keepQ q l).Sublist (l.filter (· ≠ 34))
  | [], q => by simp [keepQ]
  | a :: r, q => by
    unfold keepQ
    by_cases ha : a = 34
    · rw [if_pos ha, List.filter_cons_of_neg (by simpa using ha)]; exact keep_sub r _
    · rw [if_neg ha, List.filter_cons_of_pos (by simpa using ha)]
      cases q
      · simpa using (keep_sub r false)
      · exact .cons _ (keep_sub r true)
theorem sg_let {p k : Int} (hp : 0 ≤ p ∧ p < 16) (hk : 0 ≤ k ∧ k < 3) (h : sg p k ≠ 34) : Let (sg p k) ∧ lowN (sg p k) = 97 + p.toNat := by
  unfold Let lowN
  unfold sg at *
  by_cases h0 : k = 0
  · clear h; simp only [h0, if_true]; rw [if_neg (by omega)]; omega
  · by_cases h1 : k = 1
    · clear h; subst h1; simp only [if_true, show ¬ ((1 : Int) = 0) by decide, if_false]; rw [if_pos (by omega)]; omega
    · simp [h0, h1] at h
theorem due_apart {ks ps : List Int} (hG : Grows ps) (hks : ∀ i, i < 8 → 0 ≤ ks.getD i 0 ∧ ks.getD i 0 < 3) : Apart (dueL ks ps) ∧ ∀ c ∈ dueL ks ps, Let c := by
  have hps := hG.2.2
  constructor
  · unfold Apart
    refine List.Pairwise.sublist (keep_sub _ _) ?_
    rw [List.pairwise_filter]
    unfold ringL
    rw [List.pairwise_map]
    refine List.Pairwise.imp_of_mem (R := fun a b => a < b) ?_ (by decide)
    intro a b ha hb hab h1 h2
    have ha' : a < 8 := List.mem_range.mp ha
    have hb' : b < 8 := List.mem_range.mp hb
    have e1 := (sg_let (hps a ha') (hks a ha') (by simpa [sgAt] using h1)).2
    have e2 := (sg_let (hps b hb') (hks b hb') (by simpa [sgAt] using h2)).2
    have := hG.2.1 a b hab hb'
    have := hps a ha'
    have := hps b hb'
    unfold sgAt
    rw [e1, e2]; omega
  · intro c hc
    obtain ⟨hm, hn⟩ := keep_mem _ _ c hc
    unfold ringL at hm
    obtain ⟨i, hi, rfl⟩ := List.mem_map.mp hm
    have hi' : i < 8 := List.mem_range.mp hi
    exact (sg_let (hps i hi') (hks i hi') hn).1
/-- the sign at the j-th place behind the start -/
noncomputable def fL (D : List Nat) (a : Nat) (j : Nat) : Nat := D.getD ((a + j) % D.length) 0
theorem rot_inj {n a x y : Nat} (hx : x < n) (hy : y < n) (h : (a + x) % n = (a + y) % n) : x = y := by
  have h0 : a % n < n := Nat.mod_lt _ (by omega)
  rw [Nat.add_mod a x, Nat.add_mod a y, Nat.mod_eq_of_lt hx, Nat.mod_eq_of_lt hy] at h
  generalize a % n = b at h h0
  have e : ∀ z, z < n → (b + z) % n = if b + z < n then b + z else b + z - n := by
    intro z hz
    split
    · exact Nat.mod_eq_of_lt (by assumption)
    · rw [Nat.mod_eq_sub_mod (by omega)]; exact Nat.mod_eq_of_lt (by omega)
  rw [e x hx, e y hy] at h
  split at h <;> split at h <;> omega
theorem fL_low {D : List Nat} {a : Nat} (h : Apart D) {x y : Nat} (hx : x < D.length) (hy : y < D.length) (hxy : x ≠ y) : lowN (fL D a x) ≠ lowN (fL D a y) :=
  apart_get h (Nat.mod_lt _ (by omega)) (Nat.mod_lt _ (by omega)) fun e => hxy (rot_inj hx hy e)
theorem fL_let {D : List Nat} {a : Nat} (h : ∀ c ∈ D, Let c) {x : Nat} (hx : x < D.length) : Let (fL D a x) := by
  apply h
  unfold fL
  have hi : (a + x) % D.length < D.length := Nat.mod_lt _ (by omega)
  simp only [List.getD, List.getElem?_eq_getElem hi, Option.getD_some]
  exact List.getElem_mem hi
theorem fL_sub {D : List Nat} {a : Nat} (h : Apart D) (h2 : ∀ c ∈ D, Let c) : ∀ x y, x < D.length → y < D.length → sub (fL D a x) (fL D a y) = subI x y := by
  intro x y hx hy
  unfold subI
  by_cases e : x = y
  · subst e; rw [sub_self]; simp
  · rw [sub_ne (fL_let h2 hx) (fL_let h2 hy) (fL_low h hx hy e)]
    have : Nat.beq x y = false := Bool.eq_false_iff.mpr fun q => e (Nat.eq_of_beq_eq_true q)
    rw [this]; rfl
theorem fL_inj {D : List Nat} {a : Nat} (h : Apart D) : ∀ x y, x < D.length → y < D.length → fL D a x = fL D a y → x = y := by
  intro x y hx hy e
  by_cases hxy : x = y
  · exact hxy
  · exact absurd (congrArg lowN e) (fL_low h hx hy hxy)
theorem small0 {n : Nat} (h : n ≤ 16) : Builtin.Range.small 0 n 1 = true := by
  have : ∀ n : Nat, n < 17 → Builtin.Range.small 0 n 1 = true := by decide
  exact this n (by omega)
theorem size0 {n : Nat} (h : n ≤ 16) : Builtin.Range.rangeSize 0 n 1 = ((n : Nat) : Int) := by
  have : ∀ n : Nat, n < 17 → Builtin.Range.rangeSize 0 n 1 = ((n : Nat) : Int) := by decide
  exact this n (by omega)
theorem weigh_n {f : Nat → Nat} {n : Nat} (h : n ≤ 16) : (((List.range n).map fun i => (⟨#[f i]⟩ : Str)).map (·.length)).sum + ((List.range n).map fun i => (⟨#[f i]⟩ : Str)).length ≤ 1048576 := by
  have e : ((List.range n).map fun i => (⟨#[f i]⟩ : Str)).map (·.length) = (List.range n).map fun _ => 1 := by
    rw [List.map_map]; exact List.map_congr_left fun i _ => rfl
  have e2 : ((List.range n).map fun _ => 1).sum = n := by
    rw [List.map_const', List.sum_replicate_nat]; simp
  rw [e, e2, List.length_map, List.length_range]
  omega
section
variable {prog : Program} {w : World} {A : Around} {E : Value → Shared → Prop} {s : Shared} {Q : Value → Shared → Prop}
/-- a text at a place that a rest by its length gives -/
theorem item_in {value slice : Expr} {x : Str} {t u : Tok} {a : Int} {z : Nat} (h1 : 1 ≤ z) (hz : z = x.length) (hx : x.length ≤ 16)
    (h : Q (.str ⟨#[(LL x).getD (a.fmod (z : Int)).toNat 0]⟩ s.toks) { s with toks := s.toks + 1 })
    (hs : subscripted slice false (.str x t) (.int (a.fmod (z : Int)) u) = operate [.str x t, .int (a.fmod (z : Int)) u] (getItem (.str x t) (.int (a.fmod (z : Int)) u)) := by with_unfolding_all rfl) (hl : ∀ r, letTemporaryGo value (.str x t) r = pure () := by intro _; with_unfolding_all rfl) :
    wpAny (model prog w) A (subscriptTail value slice (.str x t) (.int (a.fmod (z : Int)) u)) Q E s := by
  have h0 : 0 ≤ a.fmod (z : Int) := Int.fmod_nonneg_of_pos _ (by omega)
  have h2 : a.fmod (z : Int) < z := Int.fmod_lt_of_pos _ (by omega)
  refine item_str (fitsSsize_of (N := 9223372036854775808) (by omega) (by omega) (Int.le_refl _)) (by omega) (by omega) ?_ hs hl
  intro _
  rw [item_at h0 (by omega)]
  exact h
theorem ne_same {x y : Str} {t u : Tok} (e : x = y) (h : Q (.bool false) s) : wpAny (model prog w) A (compareOp .NotEq (.str x t) (.str y u)) Q E s := ne_str (by
  subst e
  have e1 : (x != x) = false := bne_self_eq_false x
  have e2 : (x.cps.toList != x.cps.toList) = false := bne_self_eq_false _
  first | (rw [e1]; exact h) | (rw [e2]; exact h))
end
end Mine
end PartPlainEnd

section PartPlainFin
open PySem.W PyProof.Rows in
theorem Mine.cleanPlainFin : (1 : Nat) = 1 := by
  (w_on; w_top off; k_with_none)
  first | walk1 | rfl
open PySem PySem.W PyProof.Rows PySem.Spec PySem.Calls
namespace Mine
theorem fmod_nat {z : Nat} {x : Int} {n : Nat} (e : x = (n : Int)) : (x.fmod (z : Int)) = ((n % z : Nat) : Int) := by
  subst e
  rw [Int.fmod_eq_emod_of_nonneg _ (by omega), ← Int.natCast_emod]
theorem stepL_eq {D : List Nat} {A z i : Nat} : stepL D (A : Int) z i = D.getD ((A + i) % z) 0 := by
  unfold stepL
  rw [fmod_nat (n := A + i) (by omega), Int.toNat_natCast]
theorem fwd_eq {D : List Nat} {A z sn : Nat} (hz : D.length = z) : ((List.range sn).map fun i => stepL D (A : Int) z i) = (fwd z sn).map (fL D A) := by
  unfold fwd
  rw [List.map_map]
  refine List.map_congr_left fun i _ => ?_
  rw [stepL_eq]
  simp only [Function.comp, fL, hz]
  rw [Nat.add_mod_mod]
/-- a rest below z by its twins -/
theorem mod_lin {z x y : Nat} (h : ∃ k l : Nat, x + z * k = y + z * l) : x % z = y % z := by
  obtain ⟨k, l, h⟩ := h
  have := congrArg (· % z) h
  simpa using this
theorem bwd_eq {D : List Nat} {A O z sn : Nat} (hz : D.length = z) (h1 : 1 ≤ z) (hO : O < z) : ((List.range sn).map fun i => stepL (back1 D) (O : Int) z i) = (bwd z sn ((A + O) % z)).map (fL D A) := by
  unfold bwd
  rw [List.map_map]
  refine List.map_congr_left fun i _ => ?_
  rw [stepL_eq, back1_get (by rw [hz]; exact Nat.mod_lt _ (by omega))]
  simp only [Function.comp, fL, hz]
  congr 1
  rw [Nat.add_mod_mod, Nat.add_mod_mod]
  apply mod_lin
  have e1 := Nat.mod_add_div (O + i) z
  have e2 := Nat.mod_add_div (i + (A + O)) z
  have l1 := Nat.mod_lt (O + i) (show z > 0 by omega)
  have l2 := Nat.mod_lt (i + (A + O)) (show z > 0 by omega)
  refine ⟨(i + (A + O)) / z, (O + i) / z, ?_⟩
  omega
theorem alg_eq {D : List Nat} {A B e z sn : Nat} (hz : D.length = z) (he : (A + e) % z = B % z) : ((List.range sn).map fun i => stepL D (B : Int) z i) = (alg z sn e).map (fL D A) := by
  unfold alg
  rw [List.map_map]
  refine List.map_congr_left fun i _ => ?_
  rw [stepL_eq]
  simp only [Function.comp, fL, hz]
  congr 1
  rw [Nat.add_mod_mod, show A + (i + e) = (A + e) + i by omega, Nat.add_mod (A + e), he, ← Nat.add_mod]
theorem iff_mod {z : Nat} {x y : Int} {n : Nat} (h1 : 1 ≤ z) (k : Int) (e : x - y = (n : Int) - (z : Int) * k) : (Int.fmod x z = Int.fmod y z) ↔ n % z = 0 := by
  rw [Int.fmod_eq_emod_of_nonneg _ (by omega), Int.fmod_eq_emod_of_nonneg _ (by omega), Int.emod_eq_emod_iff_emod_sub_eq_zero, e, Int.sub_mul_emod_self_left]
  omega
theorem mts_eq {z A O : Nat} (h1 : 1 ≤ z) (hO : O < z) : ∀ n, mts z A ((z : Int) - O) n = (mtsE z ((A + O) % z) n : Int)
  | 0 => rfl
  | n + 1 => by
    unfold mts mtsE
    rw [mts_eq h1 hO n]
    have d := Nat.mod_add_div (A + O) z
    have hi : (Int.fmod ((A : Int) + n) z = Int.fmod ((z : Int) - O - n) z) ↔ (2 * n + (A + O) % z) % z = 0 := by
      refine iff_mod h1 (1 - ((A + O) / z : Nat)) ?_
      rw [Int.mul_sub, ← Int.natCast_mul]
      omega
    by_cases h : (2 * n + (A + O) % z) % z = 0
    · rw [if_pos (hi.mpr h), h]; simp
    · rw [if_neg (fun q => h (hi.mp q)), show Nat.beq ((2 * n + (A + O) % z) % z) 0 = false from Bool.eq_false_iff.mpr fun q => h (Nat.eq_of_beq_eq_true q)]; simp
theorem chg_eq {z A O : Nat} (h1 : 1 ≤ z) (hO : O < z) : ∀ n, chg z A ((z : Int) - O) n = (chgE z ((A + O) % z) n : Int)
  | 0 => rfl
  | n + 1 => by
    unfold chg chgE
    rw [chg_eq h1 hO n]
    have d := Nat.mod_add_div (A + O) z
    have hi : (Int.fmod ((A : Int) + n) z = Int.fmod ((z : Int) - O - n + 1) z) ↔ (2 * n + (A + O) % z + z - 1) % z = 0 := by
      refine iff_mod h1 (2 - ((A + O) / z : Nat)) ?_
      rw [Int.mul_sub, ← Int.natCast_mul]
      omega
    by_cases h0 : n > 0
    · have hb : Nat.ble 1 n = true := Nat.ble_eq_true_of_le h0
      rw [hb]
      by_cases h : (2 * n + (A + O) % z + z - 1) % z = 0
      · rw [if_pos ⟨h0, hi.mpr h⟩, h]; simp
      · rw [if_neg (fun q => h (hi.mp q.2)), show Nat.beq ((2 * n + (A + O) % z + z - 1) % z) 0 = false from Bool.eq_false_iff.mpr fun q => h (Nat.eq_of_beq_eq_true q)]; simp
    · rw [if_neg (fun q => h0 q.1)]
      have hb : Nat.ble 1 n = false := Bool.eq_false_iff.mpr fun q => h0 (Nat.le_of_ble_eq_true q)
      rw [hb]; simp
theorem opp_eq {z A O sn : Nat} (h1 : 1 ≤ z) (hO : O < z) : opp z sn A ((z : Int) - O) = oppE z sn ((A + O) % z) := by
  unfold opp oppE
  rw [Int.toNat_natCast, mts_eq h1 hO, chg_eq h1 hO]
theorem opp_all {z t e : Nat} (h1 : 1 ≤ z) (h8 : z ≤ 8) (ht : t < 5) (he : e < z) : toldI (fwd z (t + 5)) (bwd z (t + 5) e) (oppE z (t + 5) e) = true := by
  have h : oppOk z = true := by
    rcases (show z = 1 ∨ z = 2 ∨ z = 3 ∨ z = 4 ∨ z = 5 ∨ z = 6 ∨ z = 7 ∨ z = 8 by omega) with rfl | rfl | rfl | rfl | rfl | rfl | rfl | rfl
    · exact opp1
    · exact opp2
    · exact opp3
    · exact opp4
    · exact opp5
    · exact opp6
    · exact opp7
    · exact opp8
  exact List.all_eq_true.mp (List.all_eq_true.mp h t (List.mem_range.mpr ht)) e (List.mem_range.mpr he)
theorem alg_all {z t e : Nat} (h1 : 1 ≤ z) (h8 : z ≤ 8) (ht : t < 5) (he : e < z) : toldI (fwd z (t + 5)) (alg z (t + 5) e) (algP z (t + 5) e) = true := by
  have h : algOk z = true := by
    rcases (show z = 1 ∨ z = 2 ∨ z = 3 ∨ z = 4 ∨ z = 5 ∨ z = 6 ∨ z = 7 ∨ z = 8 by omega) with rfl | rfl | rfl | rfl | rfl | rfl | rfl | rfl
    · exact alg1
    · exact alg2
    · exact alg3
    · exact alg4
    · exact alg5
    · exact alg6
    · exact alg7
    · exact alg8
  exact List.all_eq_true.mp (List.all_eq_true.mp h t (List.mem_range.mpr ht)) e (List.mem_range.mpr he)
theorem mem_lt {z : Nat} (h1 : 1 ≤ z) {l : List Nat} {f : Nat → Nat} : ∀ x ∈ l.map (fun i => f i % z), x < z := by
  intro x hx
  obtain ⟨i, _, rfl⟩ := List.mem_map.mp hx
  exact Nat.mod_lt _ (by omega)
theorem opp_told {D : List Nat} {z sn : Nat} {a o : Int} (hA : Apart D) (hL : ∀ c ∈ D, Let c) (hz : D.length = z) (h1 : 1 ≤ z) (h8 : z ≤ 8) (hs : 5 ≤ sn ∧ sn < 10) (ha : 0 ≤ a ∧ a < z) (ho : 0 ≤ o ∧ o < z) :
    told ((List.range sn).map fun i => stepL D a z i) ((List.range sn).map fun i => stepL (back1 D) o z i) (opp z sn a (z - o)) = true := by
  obtain ⟨A, rfl⟩ := Int.eq_ofNat_of_zero_le ha.1
  obtain ⟨O, rfl⟩ := Int.eq_ofNat_of_zero_le ho.1
  obtain ⟨t, rfl⟩ : ∃ t, sn = t + 5 := ⟨sn - 5, by omega⟩
  rw [fwd_eq hz, bwd_eq (A := A) hz h1 (by omega), opp_eq h1 (by omega)]
  exact told_map (N := z) (by rw [← hz]; exact fL_sub hA hL) (by rw [← hz]; exact fL_inj hA) (mem_lt h1 (f := fun i => i)) (mem_lt h1 (f := fun i => z - (i + (A + O) % z) % z)) (opp_all h1 h8 (by omega) (Nat.mod_lt _ (by omega)))
theorem alg_told {D : List Nat} {z sn : Nat} {a b : Int} (hA : Apart D) (hL : ∀ c ∈ D, Let c) (hz : D.length = z) (h1 : 1 ≤ z) (h8 : z ≤ 8) (hs : 5 ≤ sn ∧ sn < 10) (ha : 0 ≤ a ∧ a < z) (hb : 0 ≤ b ∧ b < z) {p : Int}
    (hp : p = min (min (4 * (b - a).fmod z) (4 * (z - (b - a).fmod z))) (2 * sn)) :
    told ((List.range sn).map fun i => stepL D a z i) ((List.range sn).map fun i => stepL D b z i) p = true := by
  obtain ⟨A, rfl⟩ := Int.eq_ofNat_of_zero_le ha.1
  obtain ⟨B, rfl⟩ := Int.eq_ofNat_of_zero_le hb.1
  obtain ⟨t, rfl⟩ : ∃ t, sn = t + 5 := ⟨sn - 5, by omega⟩
  have hm : ((B : Int) - A).fmod z = (((B + (z - A)) % z : Nat) : Int) := by
    rw [Int.fmod_eq_emod_of_nonneg _ (by omega)]
    have : ((B : Int) - A) = ((B + (z - A) : Nat) : Int) - z := by omega
    rw [this, Int.sub_emod_right, ← Int.natCast_emod]
  have he : (A + (B + (z - A)) % z) % z = B % z := by
    rw [Nat.add_mod_mod, show A + (B + (z - A)) = B + z by omega, Nat.add_mod_right]
  have hlt : (B + (z - A)) % z < z := Nat.mod_lt _ (by omega)
  have hp' : p = algP z (t + 5) ((B + (z - A)) % z) := by rw [hp, hm]; rfl
  rw [fwd_eq hz, alg_eq (A := A) hz he, hp']
  exact told_map (N := z) (by rw [← hz]; exact fL_sub hA hL) (by rw [← hz]; exact fL_inj hA) (mem_lt h1 (f := fun i => i)) (mem_lt h1 (f := fun i => i + (B + (z - A)) % z)) (alg_all h1 h8 (by omega) hlt)
section
variable {prog : Program} {w : World} {A : Around} {E : Value → Shared → Prop} {s : Shared} {h₀ : Heap} {L : Addr} {m : Str → Option Value} {news : List (Addr × Obj)} {Q : Value → Shared → Prop} {a b c : Int} {t u x : Tok}
theorem min3_i (hh : A.handled = none) (F : Fr h₀ L s.heap m) (N : News h₀ L s.heap news)
    (h : ∀ h' tk y, Fr h₀ L h' m → News h₀ L h' news → Q (.int (min (min a b) c) y) { s with heap := h', toks := tk }) :
    wpAny (model prog w) A (call (.builtin "min") [.int a t, .int b u, .int c x]) Q E s := by
  refine min_three_ints hh fun h' tk hk => ?_
  have key := fun y => h h' tk y (F.grownK hk) (N.grown hk)
  by_cases h1 : b < a
  · by_cases h2 : c < b
    · rw [show min (min a b) c = c by omega] at key
      simp only [h1, h2, if_true]; exact key _
    · rw [show min (min a b) c = b by omega] at key
      simp only [h1, h2, if_true, if_false]; exact key _
  · by_cases h2 : c < a
    · rw [show min (min a b) c = c by omega] at key
      simp only [h1, h2, if_true, if_false]; exact key _
    · rw [show min (min a b) c = a by omega] at key
      simp only [h1, h2, if_false]; exact key _
end
end Mine
end PartPlainFin

section PartLawE
open PySem.W PyProof.Rows in
theorem Mine.cleanLawE : (1 : Nat) = 1 := by
  (w_on; w_top off; k_with_none)
  first | walk1 | rfl
open PySem PySem.W PyProof.Rows PySem.Spec PySem.Calls
namespace Mine
theorem end_good {s₀ s₁ : Shared} {ns : List Int} {h : Heap} {g : Array GenState} {tk : Nat} (hk : ∀ b o, s₁.heap.get? b = some o → h.get? b = some o) (hb : ∀ y ∈ g, y.bare = true) :
    GoodWG Challenge.rw_re0079_01.row.claim (classAt s₀.heap) (ExcName.means s₀.heap) [ofPy (PyData.list (List.map PyData.int ns))] s₁ (.ok (.ret (.bool true))) { heap := h, gens := g, drawn := s₁.drawn, toks := tk, os := s₁.os } :=
  ⟨.inl ⟨_, .bool true, [], rfl, raisesW_false (by wrow_none_raised), .bool true, postW_of (by wrow_shape) (by wtm_val) (by rfl), fun _ => ⟨List.nodup_nil, by simp⟩⟩, .of_keep hk, rfl, hb⟩
end Mine
end PartLawE

end Lia
section PartLaw
open PySem.W PyProof.Rows in
theorem Mine.cleanLaw : (1 : Nat) = 1 := by
  (w_on; w_top off; k_with_none)
  first | walk1 | rfl
open PySem PySem.W PyProof.Rows PySem.Spec PySem.Calls
namespace Mine
theorem tl_mem {p : Addr × Obj} {q : Addr × Obj} {l : List (Addr × Obj)} (h : p ∈ l) : p ∈ q :: l := List.Mem.tail _ h
set_option maxRecDepth 100000 in
set_option maxHeartbeats 8000000 in
theorem X : PySem.Challenge.rw_re0079_01.Holds := hd (by
  k_with_none
  k_with "subscriptTail Name Name ref int" => (((with_reducible show wpAny _ _ (subscriptTail _ _ (Value.ref _) (Value.int _ _)) _ _ _); (with_unfolding_all refine' item_known ?k1 ?k2 ?k3 ?k4 ?k5 ?k6 ?_; (case k1 => is_list); (case k2 => l_ints); (case k6 => with_reducible assumption); (case k3 => l_idx); (case k4 => l_idx); (case k5 => l_idx); k_whole); intro _))
  k_with "subscriptTail Name Constant ref int" => (first
  | ((with_reducible show wpAny _ _ (subscriptTail (Expr.Name (Str.ofString "told") _) _ (Value.ref _) (Value.int 0 _)) _ _ _); refine item_t0 (News.get (by k_asm) (by k_mem)) ?_)
  | ((with_reducible show wpAny _ _ (subscriptTail (Expr.Name (Str.ofString "turned") _) _ (Value.ref _) (Value.int 0 _)) _ _ _); refine item_t0 (News.get (by k_asm) (by k_mem)) ?_)
  | ((with_reducible show wpAny _ _ (subscriptTail (Expr.Name (Str.ofString "told") _) _ (Value.ref _) (Value.int 1 _)) _ _ _); refine item_t1 (News.get (by k_asm) (by k_mem)) ?_))
  k_with "loadName" => ((k_here; k_dflt (refine' loadX_C ?lxN ?lxc ?lxm ?lxd ?_ ?lxa ?lxb; (case lxa => rfl); (case lxb => rfl); (case lxN => k_asm); (case lxc => rfl); (case lxm => k_mem); (case lxd => k_asm); k_whole)))
  k_with "compareOp Lt float float" => (first | (refine lt_yes (by decide +kernel) ?_) | (refine lt_no (by decide +kernel) ?_))
  k_with "compareOp Gt float float" => (first | (refine gt_yes (by decide +kernel) ?_) | (refine gt_no (by decide +kernel) ?_))
  k_with "k_all" => (first | assumption | (refine all_gt (by assumption) ?_; omega))
  k_with "execs cons" => ((k_here; (fail_if_success (fail_if_success k_gentoks)); (with_reducible refine gen_toks ?_); intro _ htk; (try dsimp only at htk); revert htk; intro _))
  k_with "execs nil" => ((k_here; (fail_if_success (fail_if_success k_gentoks)); (with_reducible refine gen_toks ?_); intro _ htk; (try dsimp only at htk); revert htk; intro _))
  k_with "call ref" => ((k_here; (with_reducible show wpAny _ _ (call (Value.ref 63) _) _ _ _); k_dflt (refine' sums_use ?k1 ?k2 ?k3 ?k4 ?k5 ?k6 ?k7 ?k8 ?k9 ?k10 ?k11 ?_; (case k1 => k_asm); (case k2 => k_asm); (case k3 => k_asm); (case k4 => k_asm); (case k5 => k_asm); (case k6 => first | exact rfl | assumption); (case k7 => assumption); (case k8 => assumption); (case k9 => omega); (case k10 => ktr_room); (case k11 => ktr_units); k_whole)))
  k_with "compareOp NotEq str str" => (refine ne_same (by assumption) ?_)
  k_with "subscriptTail Name BinOp str int" => (((with_reducible show wpAny _ _ (subscriptTail _ _ (Value.str _ _) (Value.int (Int.fmod _ _) _)) _ _ _); refine item_in (by assumption) (by first | rfl | assumption) (by omega) ?_))
  k_fill
  intro w s₀ s₁ mg mb G Y fa o pm cd doc dV kV ho hd' hcd hD hmg hg args vals as hpre hlay hrd hwl hlo
  have KX := kIn_of Y
  have X := (Ground.X G).1
  have V := (Ground.X G).2
  try w_nolog (first | (have GL := glob_more (Ground.glob G (by first | k_qdec | decide +kernel) (by first | k_qdec | decide +kernel)) V) | (have GL := glob_more (Ground.glob G (by decide +kernel)) V))
  refine Ground.open G ?_
  intro T B D TE TW
  try (refine guard_noD D (by decide +kernel) ?_; clear D)
  obtain ⟨_, _, M⟩ := bmod_of_top T
  have TA := at_of_top T
  try (obtain ⟨_, _, he, B0⟩ := based_of_top T rfl hmg ho hd'; have he' : cd = _ := he; subst he'; clear he)
  clear hmg
  wrow_args hpre hlay hrd hwl hlo
  all_goals (
    first | refine callC_kw (enter_call ?_) | refine enter_call ?_ | refine callC_kw (enter_callW ?_) | refine enter_callW ?_ | w_how
    w_top on
    have K0 := below_caller (Top.heap T)
    w_call any ho hd' hcd hD T F
    clear hd' TA
    k_drop
    skip)
  clear X V GL TE TW M hcd hD G Y B
  rename CellsAre _ _ _ => hY
  rename News _ _ _ _ => N0
  rename_i _ _ _ _ ns hs hlay0 hLay hr0 hl2 as1 as2 l vs as3 hL ra w1 r0 hI hr hc1 hc2 h1 tk1 o8 o7 o6 o5 o4 o3 o2 o1 e8 e7 e6 e5 e4 e3 e2 e1
  have F1 : Fr s₁.heap s₁.heap.objs.size h1 (fun y : Str => if y = Str.ofString "script" then some (.ref l) else none) := F
  replace e8 : o8.data = .cell none := e8
  replace e7 : o7.data = .cell none := e7
  replace e6 : o6.data = .cell none := e6
  replace e5 : o5.data = .cell none := e5
  replace e4 : o4.data = .cell none := e4
  replace e3 : o3.data = .cell none := e3
  replace e2 : o2.data = .cell none := e2
  replace e1 : o1.data = .cell none := e1
  clear F hY hs hlay0 hLay hr0 hl2 ra w1 r0 hr ho hc2
  have hlen : ns.length ≤ 63 := by omega
  clear hc1
  (try dsimp only); (try k_unmd); (try k_fold)
  let Pq : Shared → Prop := fun s' => ∀ R : Prop, (∀ (DS : Addr) (sv : List Value) (xs : List Int) (n : Nat) (c1 : Obj) (h' : Heap) (tk' : Nat), s' = { s₁ with heap := h', toks := tk' } → Fr s₁.heap s₁.heap.objs.size h' (fun y : Str => if y = Str.ofString "script" then some (.ref l) else none) → News s₁.heap s₁.heap.objs.size h' ((DS, listOf sv.toArray n) :: cellL s₁.heap.objs.size o8 o7 o6 o5 o4 o3 o2 c1) → c1.data = .cell (some (.ref DS)) → s₁.heap.objs.size + 8 < DS → IntsAre sv xs → xs.length = 8 → (∀ y ∈ xs, 0 ≤ y ∧ y ≤ 100000000) → R) → R
  refine cutE 1 Pq ?_ ?_
  · skip
    dsimp only [List.take]
    repeat' ((fail_if_success (with_reducible show Hold _)); (fail_if_success (with_reducible show wpAny _ _ (call (Value.ref _) _) _ _ _)); (first | (k_unfold; (try dsimp only)) | (k_end; wrow_close) | walk1 | (dsimp only; walk1) | (leave1; walk_say "STEP leave1"; try dsimp only) | fail "no step"))
    k_dflt (refine' sums_use ?k1 ?k2 ?k3 ?k4 ?k5 ?k6 ?k7 ?k8 ?k9 ?k10 ?k11 ?_; (case k1 => k_asm); (case k2 => k_asm); (case k3 => k_asm); (case k4 => k_asm); (case k5 => k_asm); (case k6 => first | exact rfl | assumption); (case k7 => assumption); (case k8 => assumption); (case k9 => omega); (case k10 => ktr_room); (case k11 => ktr_units); k_whole)
    intro DS sv xs n h2 tk2 F2 N2 hDS hsv hx8 hxb
    k_lt hDS
    (try dsimp only)
    repeat' ((fail_if_success (with_reducible show Hold _)); (fail_if_success (with_reducible show wpAny _ _ (call (Value.ref _) _) _ _ _)); (first | (k_unfold; (try dsimp only)) | (k_end; wrow_close) | walk1 | (dsimp only; walk1) | (leave1; walk_say "STEP leave1"; try dsimp only) | fail "no step"))
    exact ⟨rfl, fun _ kR => kR DS sv xs n _ _ _ rfl (by assumption) (by assumption) (by assumption) (ltN (by omega)) hsv hx8 hxb⟩
  · intro s' hPr; refine hPr _ ?_; clear hPr Pq; rintro DS sv xs n c1 h2 tk2 rfl F2 N2 hc1 hDS hsv hx8 hxb
    k_lt2 hDS
    obtain ⟨x0, x1, x2, x3, x4, x5, x6, x7, t0, t1, t2, t3, t4, t5, t6, t7, rfl, rfl⟩ := ints8 hsv hx8
    clear hsv hx8
    dsimp only [cellL] at N2
    dsimp only [List.drop]
    let Pq : Shared → Prop := fun s' => ∀ R : Prop, (∀ (DK : Addr) (kv : List Value) (ks : List Int) (nk : Nat) (h' : Heap) (tk' : Nat), s' = { s₁ with heap := h', toks := tk' } → Fr s₁.heap s₁.heap.objs.size h' (fun y : Str => if y = Str.ofString "kinds" then some (.ref DK) else if y = Str.ofString "script" then some (.ref l) else none) → News s₁.heap s₁.heap.objs.size h' ((DK, listOf kv.toArray nk) :: (DS, listOf #[.int x0 t0, .int x1 t1, .int x2 t2, .int x3 t3, .int x4 t4, .int x5 t5, .int x6 t6, .int x7 t7] n) :: cellL s₁.heap.objs.size o8 o7 o6 o5 o4 o3 o2 c1) → DS < DK → IntsAre kv ks → ks.length = 8 → (∀ y ∈ ks, 0 ≤ y ∧ y < 3) → ks.getD 0 0 < 2 → (ks.filter (· == 2)).length % 2 = 0 → R) → R
    refine cutE 1 Pq ?_ ?_
    · skip
      dsimp only [List.take]
      repeat' ((fail_if_success (with_reducible show Hold _)); (fail_if_success (with_reducible show wpAny _ _ (call (Value.ref _) _) _ _ _)); (first | (k_unfold; (try dsimp only)) | (k_end; wrow_close) | walk1 | (dsimp only; walk1) | (leave1; walk_say "STEP leave1"; try dsimp only) | fail "no step"))
      k_dflt (refine' kinds_use ?k1 ?k2 ?k3 ?k4 ?k5 ?k6 ?k10 ?k11 ?_; (case k1 => k_asm); (case k2 => k_asm); (case k3 => k_asm); (case k4 => k_asm); (case k5 => k_asm); (case k6 => first | exact rfl | assumption); (case k10 => ktr_room); (case k11 => ktr_units); k_whole)
      intro DK kv ks nk h3 tk3 F3 N3 hDK _ hkv hk8 hkb hk0 hke
      (try dsimp only)
      repeat' ((fail_if_success (with_reducible show Hold _)); (fail_if_success (with_reducible show wpAny _ _ (call (Value.ref _) _) _ _ _)); (first | (k_unfold; (try dsimp only)) | (k_end; wrow_close) | walk1 | (dsimp only; walk1) | (leave1; walk_say "STEP leave1"; try dsimp only) | fail "no step"))
      exact ⟨rfl, fun _ kR => kR DK kv ks nk _ _ rfl (by assumption) (by assumption) hDK hkv hk8 hkb hk0 hke⟩
    · intro s' hPr; refine hPr _ ?_; clear hPr Pq; rintro DK kv ks nk h3 tk3 rfl F3 N3 hDK hkv hk8 hkb hk0 hke
      k_lt2 hDK
      dsimp only [cellL] at N3
      dsimp only [List.drop]
      clear F2 N2
      let Pq : Shared → Prop := fun s' => ∀ R : Prop, (∀ (DP : Addr) (pv : List Value) (ps : List Int) (np : Nat) (h' : Heap) (tk' : Nat), s' = { s₁ with heap := h', toks := tk' } → Fr s₁.heap s₁.heap.objs.size h' (fun y : Str => if y = Str.ofString "places" then some (.ref DP) else if y = Str.ofString "kinds" then some (.ref DK) else if y = Str.ofString "script" then some (.ref l) else none) → News s₁.heap s₁.heap.objs.size h' ((DP, listOf pv.toArray np) :: (DK, listOf kv.toArray nk) :: (DS, listOf #[.int x0 t0, .int x1 t1, .int x2 t2, .int x3 t3, .int x4 t4, .int x5 t5, .int x6 t6, .int x7 t7] n) :: cellL s₁.heap.objs.size o8 o7 o6 o5 o4 o3 o2 c1) → DS < DP → DK ≠ DP → IntsAre pv ps → ps = [0, 2 * 1 + x1.fmod 2, 2 * 2 + x2.fmod 2, 2 * 3 + x3.fmod 2, 2 * 4 + x4.fmod 2, 2 * 5 + x5.fmod 2, 2 * 6 + x6.fmod 2, 2 * 7 + x7.fmod 2] → R) → R
      refine cutE 1 Pq ?_ ?_
      · skip
        dsimp only [List.take]
        repeat' ((fail_if_success (with_reducible show Hold _)); (fail_if_success (with_reducible show wpAny _ _ (eval (Expr.ListComp _ _ _ _) _) _ _ _)); (fail_if_success (with_reducible show wpAny _ _ (exec (Stmt.Assign _ (Expr.ListComp _ _ _ _) _) _) _ _ _)); (first | (k_unfold; (try dsimp only)) | (k_end; wrow_close) | walk1 | (dsimp only; walk1) | (leave1; walk_say "STEP leave1"; try dsimp only) | fail "no step"))
        k_dflt (refine LCg.ListComp_U (F₀ := by k_asm) (by with_unfolding_all rfl) (by decide) (by rfl) (by decide) (by rfl) ?_)
        repeat' ((fail_if_success (with_reducible show Hold _)); (fail_if_success (with_reducible show LCg.CompSrc _ _ _ _ _ _ _ _ _ _ _ _ _ _)); (first | (k_unfold; (try dsimp only)) | (k_end; wrow_close) | walk1 | (dsimp only; walk1) | (leave1; walk_say "STEP leave1"; try dsimp only) | fail "no step"))
        k_dflt (refine LCg.CompSrc.range (n := 7) (by rfl) (by k_asm) (by k_asm) (by assumption) (by decide) (by rfl) (by exact Nat.le_of_ble_eq_true rfl) ?_)
        intro g1
        refine comp_rest (fun i y => ∃ t, y = .int (2 * (1 + (i : Int)) + ([x1, x2, x3, x4, x5, x6, x7].getD i 0).fmod 2) t) ?_ ?_
        · rintro i v I oI C oC D m2 ys h4 tk4 E2 hi ⟨tv, rfl⟩ hC hx F4 N4 off4 ne4
          repeat' ((fail_if_success (with_reducible show Hold _)); (fail_if_success (with_reducible show LCg.CompEnd _ _ _ _ _ _ _ _ _ _ _ _ _ _)); (first | (k_unfold; (try dsimp only)) | (k_end; wrow_close) | walk1 | (dsimp only; walk1) | (leave1; walk_say "STEP leave1"; try dsimp only) | fail "no step"))
          have e9 : [x0, x1, x2, x3, x4, x5, x6, x7].getD (1 + (i : Int)).toNat 0 = [x1, x2, x3, x4, x5, x6, x7].getD i 0 := by
            rw [show (1 + (i : Int)).toNat = i + 1 by omega]; rfl
          exact LCg.CompEnd.intro F4 N4 _ (fun p hp => hp) off4 trivial ⟨rfl, _, by rw [e9]⟩
        · intro ys hly hys
          obtain ⟨u0, u1, u2, u3, u4, u5, u6, rfl⟩ := ints7 (f := fun i => 2 * (1 + (i : Int)) + ([x1, x2, x3, x4, x5, x6, x7].getD i 0).fmod 2) hly hys
          clear hly hys
          intro D h4 tk4 F4 N4 off4
          simp only [List.getD_cons_zero, List.getD_cons_succ] at N4
          (try dsimp only)
          (try simp only [LCg.Off1, and_true] at off4)
          repeat' ((fail_if_success (with_reducible show Hold _)); (first | (k_unfold; (try dsimp only)) | (k_end; wrow_close) | walk1 | (dsimp only; walk1) | (leave1; walk_say "STEP leave1"; try dsimp only) | fail "no step"))
          rename Fr s₁.heap s₁.heap.objs.size _ _ => F5
          rename News s₁.heap s₁.heap.objs.size _ _ => N5
          refine ⟨rfl, fun _ kR => kR _ _ _ _ _ _ rfl F5 (news_drop N5 (List.forall_mem_cons.mpr ⟨List.Mem.head _, ?_⟩)) (?_) (?_) (.cons _ _ (.cons _ _ (.cons _ _ (.cons _ _ (.cons _ _ (.cons _ _ (.cons _ _ (.cons _ _ .nil)))))))) (?_)⟩
          · exact fun p hp => by first | exact .tail _ hp | exact .tail _ (.tail _ hp) | exact .tail _ (.tail _ (.tail _ hp)) | exact .tail _ (.tail _ (.tail _ (.tail _ hp)))
          · exact ltN (by omega)
          · exact neN (by omega)
          · rfl
      · intro s' hPr; refine hPr _ ?_; clear hPr Pq; rintro DP pv ps np h4 tk4 rfl F4 N4 hDP1 hDP2 hpv hps
        k_lt2 hDP1
        dsimp only [List.drop]
        clear F3 N3
        obtain ⟨rs, hrs⟩ : ∃ rs, rs = (DS, listOf #[.int x0 t0, .int x1 t1, .int x2 t2, .int x3 t3, .int x4 t4, .int x5 t5, .int x6 t6, .int x7 t7] n) :: cellL s₁.heap.objs.size o8 o7 o6 o5 o4 o3 o2 c1 := ⟨_, rfl⟩
        rw [← hrs] at N4
        have hrl : ∀ p ∈ rs, p.1 ≤ DS := by
          intro p hp
          rw [hrs] at hp
          simp only [cellL, List.mem_cons, List.not_mem_nil, or_false] at hp
          rcases hp with rfl | rfl | rfl | rfl | rfl | rfl | rfl | rfl | rfl <;> exact Nat.le_of_lt_succ (ltN (by omega))
        have hps8 : ps.length = 8 := by rw [hps]; rfl
        have hpb : ∀ k : Int, 0 ≤ k ∧ k < 8 → 0 ≤ ps.getD k.toNat 0 ∧ ps.getD k.toNat 0 < 16 := fun k hk => ps_b hps hk
        let Pq : Shared → Prop := fun s' => ∀ R : Prop, (∀ (m : Str → Option Value) (news : List (Addr × Obj)) (DSe DMi : Addr) (h' : Heap) (tk' : Nat), s' = { s₁ with heap := h', toks := tk' } → Fr s₁.heap s₁.heap.objs.size h' m → News s₁.heap s₁.heap.objs.size h' news → LoopJ ((DP, listOf pv.toArray np) :: (DK, listOf kv.toArray nk) :: rs) (fun y : Str => if y = Str.ofString "mirrored" then some (.ref DMi) else if y = Str.ofString "seen" then some (.ref DSe) else if y = Str.ofString "places" then some (.ref DP) else if y = Str.ofString "kinds" then some (.ref DK) else if y = Str.ofString "script" then some (.ref l) else none) ks ps DSe DMi DMi 8 tk' m news → DK < DSe → DP < DSe → DSe < DMi → R) → R
        refine cutE 3 Pq ?_ ?_
        · skip
          dsimp only [List.take]
          clear hrs hps hxb hc1 e1 e2 e3 e4 e5 e6 e7 e8 hg hL hI hlen
          clear_value qk
          let Pq : Shared → Prop := fun s' => ∀ R : Prop, (∀ (DSe DMi : Addr) (h' : Heap) (tk' : Nat), s' = { s₁ with heap := h', toks := tk' } → Fr s₁.heap s₁.heap.objs.size h' (fun y : Str => if y = Str.ofString "mirrored" then some (.ref DMi) else if y = Str.ofString "seen" then some (.ref DSe) else if y = Str.ofString "places" then some (.ref DP) else if y = Str.ofString "kinds" then some (.ref DK) else if y = Str.ofString "script" then some (.ref l) else none) → News s₁.heap s₁.heap.objs.size h' ((DMi, listOf #[] 0) :: (DSe, listOf #[] 0) :: (DP, listOf pv.toArray np) :: (DK, listOf kv.toArray nk) :: rs) → DK < DSe → DP < DSe → DSe < DMi → R) → R
          refine cutE 2 Pq ?_ ?_
          · dsimp only [List.take]
            repeat' ((fail_if_success (with_reducible show Hold _)); (first | (k_unfold; (try dsimp only)) | (k_end; wrow_close) | walk1 | (dsimp only; walk1) | (leave1; walk_say "STEP leave1"; try dsimp only) | fail "no step"))
            exact ⟨rfl, fun _ kR => kR _ _ _ _ rfl (by assumption) (by assumption) (ltN (by omega)) (ltN (by omega)) (ltN (by omega))⟩
          · intro s' hPr; refine hPr _ ?_; clear hPr Pq; rintro DSe DMi h5 tk5 rfl F5 N5 hSe1 hSe2 hMi
            k_lt2 hSe1
            k_lt2 hSe2
            k_lt2 hMi
            dsimp only [List.drop]
            clear F4 N4
            repeat' ((fail_if_success (with_reducible show Hold _)); (fail_if_success (with_reducible show wpAny _ _ (exec (Stmt.For _ _ _ _ _) _) _ _ _)); (first | (k_unfold; (try dsimp only)) | (k_end; wrow_close) | walk1 | (dsimp only; walk1) | (leave1; walk_say "STEP leave1"; try dsimp only) | fail "no step"))
            refine wpAny_For ?_ (by intro _; rfl)
            repeat' ((fail_if_success (with_reducible show Hold _)); (fail_if_success (with_reducible show wpAny _ _ (pyIter _) _ _ _)); (first | (k_unfold; (try dsimp only)) | (k_end; wrow_close) | walk1 | (dsimp only; walk1) | (leave1; walk_say "STEP leave1"; try dsimp only) | fail "no step"))
            rename Fr s₁.heap s₁.heap.objs.size _ _ => F6
            rename News s₁.heap s₁.heap.objs.size _ _ => N6
            rename_i DL h6 lL
            refine for_ints2 (ns := ordL) (news := (DMi, listOf #[] 0) :: (DSe, listOf #[] 0) :: (DP, listOf pv.toArray np) :: (DK, listOf kv.toArray nk) :: rs)
              (LoopJ ((DP, listOf pv.toArray np) :: (DK, listOf kv.toArray nk) :: rs) (fun y : Str => if y = Str.ofString "mirrored" then some (.ref DMi) else if y = Str.ofString "seen" then some (.ref DSe) else if y = Str.ofString "places" then some (.ref DP) else if y = Str.ofString "kinds" then some (.ref DK) else if y = Str.ofString "script" then some (.ref l) else none) ks ps DSe DMi DL)
              rfl rfl rfl (by passes_own) N6 (List.Mem.head _) (.cons _ _ (.cons _ _ (.cons _ _ (.cons _ _ (.cons _ _ (.cons _ _ (.cons _ _ (.cons _ _ .nil)))))))) F6 (fun p hp => List.mem_cons_of_mem _ hp) ?_ ?_ ?_
            · obtain ⟨u, hu⟩ := loopM_of (m₂ := (fun y : Str => if y = Str.ofString "mirrored" then some (.ref DMi) else if y = Str.ofString "seen" then some (.ref DSe) else if y = Str.ofString "places" then some (.ref DP) else if y = Str.ofString "kinds" then some (.ref DK) else if y = Str.ofString "script" then some (.ref l) else none)) (fun y _ => rfl)
              exact ⟨u, [], [], [], 0, 0, hu, by rw [List.append_nil], by simp, TupsAt.nil, TupsAt.nil⟩
            · rintro i k t m₁ news₁ h7 tk0 tk7 I oI oL hi hIl hnI ⟨u, tl, v1, v2, n1, n2, rfl, rfl, htl, hT1, hT2⟩ htk7 F7 N7
              have hLM : @LT.lt Nat _ DMi DL := lL.1
              have hLS : @LT.lt Nat _ DSe DL := Nat.lt_trans hMi hLM
              clear lL N6 F6
              have hIS : @Ne Nat I DSe := fun e => hnI (DSe, _) (.tail _ (.head _)) e.symm
              have hIM : @Ne Nat I DMi := fun e => hnI (DMi, _) (.head _) e.symm
              have hrS : ∀ p ∈ rs ++ tl, p.1 ≠ DSe := fun p hp => (List.mem_append.mp hp).elim (fun h => Nat.ne_of_lt (Nat.lt_of_le_of_lt (hrl p h) (ltN (by omega)))) (fun h => Nat.ne_of_gt (Nat.lt_trans hLS (htl p h)))
              have hrM : ∀ p ∈ rs ++ tl, p.1 ≠ DMi := fun p hp => (List.mem_append.mp hp).elim (fun h => Nat.ne_of_lt (Nat.lt_of_le_of_lt (hrl p h) (ltN (by omega)))) (fun h => Nat.ne_of_gt (Nat.lt_trans hLM (htl p h)))
              replace N7 : News s₁.heap s₁.heap.objs.size h7 ((I, oI) :: (DL, oL) :: (DMi, listOf v2.toArray n2) :: (DSe, listOf v1.toArray n1) :: (DP, listOf pv.toArray np) :: (DK, listOf kv.toArray nk) :: (rs ++ tl)) := N7
              obtain ⟨rt, hrt⟩ : ∃ rt, rt = rs ++ tl := ⟨_, rfl⟩
              rw [← hrt] at N7 hrS hrM
              replace F7 : Fr s₁.heap s₁.heap.objs.size h7 (fun y => if y = Str.ofString "k" then some (Value.int k t) else loopM u (fun y : Str => if y = Str.ofString "mirrored" then some (.ref DMi) else if y = Str.ofString "seen" then some (.ref DSe) else if y = Str.ofString "places" then some (.ref DP) else if y = Str.ofString "kinds" then some (.ref DK) else if y = Str.ofString "script" then some (.ref l) else none) y) := F7
              have hv1 := hT1.len
              have hv2 := hT2.len
              have hkb8 : 0 ≤ k ∧ k < 8 := ord_b hi
              have hkk := get_b hkb (k.toNat) (by omega)
              have hpp := hpb k hkb8
              let Qt : Flow → Shared → Prop := fun f s₂ => f = .next ∧ TurnEnd2 s₁.heap s₁.heap.objs.size I [(I, oI), (DL, oL)] (LoopJ ((DP, listOf pv.toArray np) :: (DK, listOf kv.toArray nk) :: rs) (fun y : Str => if y = Str.ofString "mirrored" then some (.ref DMi) else if y = Str.ofString "seen" then some (.ref DSe) else if y = Str.ofString "places" then some (.ref DP) else if y = Str.ofString "kinds" then some (.ref DK) else if y = Str.ofString "script" then some (.ref l) else none) ks ps DSe DMi DL (i + 1)) { s₁ with heap := h7, toks := tk7 } s₂
              refine cutM (Q' := Qt) ?_ (by rintro f s₂ ⟨rfl, h⟩; exact h)
              clear hpb hkb hk0 hke hrl
              obtain ⟨M, hM, F7b⟩ := turn_in F7 rfl rfl rfl rfl
              clear F7
              (try dsimp only); (try k_unmd); (try k_fold)
              let Pq : Shared → Prop := fun s' => ∀ R : Prop, (∀ (t1 t2 t3 : Tok) (h' : Heap) (tk' : Nat), s' = { s₁ with heap := h', toks := tk' } → tk7 ≤ tk' → TkP t3 → Fr s₁.heap s₁.heap.objs.size h' (fun y => if y = Str.ofString "light" then some (.float (lightK (ks.getD k.toNat 0)) t3) else if y = Str.ofString "level" then some (.float (levelK (ks.getD k.toNat 0)) t2) else if y = Str.ofString "share" then some (.float (shareK (ks.getD k.toNat 0)) t1) else if y = Str.ofString "k" then some (.int k t) else if y = Str.ofString "mirrored" then some (.ref DMi) else if y = Str.ofString "seen" then some (.ref DSe) else if y = Str.ofString "places" then some (.ref DP) else if y = Str.ofString "kinds" then some (.ref DK) else M y) → News s₁.heap s₁.heap.objs.size h' ((I, oI) :: (DL, oL) :: (DMi, listOf v2.toArray n2) :: (DSe, listOf v1.toArray n1) :: (DP, listOf pv.toArray np) :: (DK, listOf kv.toArray nk) :: rt) → R) → R
              refine cutE 3 Pq ?_ ?_
              · dsimp only [List.take]
                rcases (show ks.getD k.toNat 0 = 0 ∨ ks.getD k.toNat 0 = 1 ∨ ks.getD k.toNat 0 = 2 by omega) with hv | hv | hv
                · replace hv : Known (ks.getD k.toNat 0) 0 := hv
                  repeat' ((fail_if_success (with_reducible show Hold _)); (first | (k_unfold; (try dsimp only)) | (k_end; wrow_close) | walk1 | (dsimp only; walk1) | (leave1; walk_say "STEP leave1"; try dsimp only) | fail "no step"))
                  rename Fr _ _ _ _ => FE
                  rename News _ _ _ _ => NE
                  dsimp only [Pq]
                  rw [show ks.getD k.toNat 0 = 0 from hv, light0, level0, share0]
                  exact ⟨rfl, fun _ kR => kR _ _ _ _ _ rfl (by (try dsimp only); omega) (Nat.succ_pos _) FE (news_drop NE (fun p hp => List.Mem.tail _ hp))⟩
                · replace hv : Known (ks.getD k.toNat 0) 1 := hv
                  repeat' ((fail_if_success (with_reducible show Hold _)); (first | (k_unfold; (try dsimp only)) | (k_end; wrow_close) | walk1 | (dsimp only; walk1) | (leave1; walk_say "STEP leave1"; try dsimp only) | fail "no step"))
                  rename Fr _ _ _ _ => FE
                  rename News _ _ _ _ => NE
                  dsimp only [Pq]
                  rw [show ks.getD k.toNat 0 = 1 from hv, light1, level1, share1]
                  exact ⟨rfl, fun _ kR => kR _ _ _ _ _ rfl (by (try dsimp only); omega) (Nat.succ_pos _) FE (news_drop NE (fun p hp => List.Mem.tail _ hp))⟩
                · replace hv : Known (ks.getD k.toNat 0) 2 := hv
                  repeat' ((fail_if_success (with_reducible show Hold _)); (first | (k_unfold; (try dsimp only)) | (k_end; wrow_close) | walk1 | (dsimp only; walk1) | (leave1; walk_say "STEP leave1"; try dsimp only) | fail "no step"))
                  rename Fr _ _ _ _ => FE
                  rename News _ _ _ _ => NE
                  dsimp only [Pq]
                  rw [show ks.getD k.toNat 0 = 2 from hv, light2, level2, share2]
                  exact ⟨rfl, fun _ kR => kR _ _ _ _ _ rfl (by (try dsimp only); omega) (Nat.succ_pos _) FE (news_drop NE (fun p hp => List.Mem.tail _ hp))⟩
              · intro s' hPr; refine hPr _ ?_; clear hPr Pq; rintro t1 t2 t3 h8 tk8 rfl htk8 ht3 F8 N8
                clear F7b N7
                dsimp only [List.drop]
                let Pq : Shared → Prop := fun s' => ∀ R : Prop, (∀ (M1 : Str → Option Value) (D2 D3 : Addr) (b4 b5 b6 b7 b8 b9 : Nat) (h' : Heap) (tk' : Nat), s' = { s₁ with heap := h', toks := tk' } → (∀ y, y ∉ loopN → M1 y = (fun y : Str => if y = Str.ofString "mirrored" then some (.ref DMi) else if y = Str.ofString "seen" then some (.ref DSe) else if y = Str.ofString "places" then some (.ref DP) else if y = Str.ofString "kinds" then some (.ref DK) else if y = Str.ofString "script" then some (.ref l) else none) y) → (tk7 ≤ b4 ∧ b4 < tk' ∧ 0 < b4) → (tk7 ≤ b7 ∧ b7 < tk' ∧ 0 < b7) → Fr s₁.heap s₁.heap.objs.size h' (fun y => if y = Str.ofString "turned" then some (.ref D3) else if y = Str.ofString "told" then some (.ref D2) else if y = Str.ofString "mirrored" then some (.ref DMi) else if y = Str.ofString "seen" then some (.ref DSe) else M1 y) → News s₁.heap s₁.heap.objs.size h' ((D3, tup3 (FF ((16 - ps.getD k.toNat 0).fmod 16)) (lightK (ks.getD k.toNat 0)) 4607182418800017408 b7 b8 b9) :: (D2, tup3 (FF (ps.getD k.toNat 0)) (lightK (ks.getD k.toNat 0)) 4607182418800017408 b4 b5 b6) :: (I, oI) :: (DL, oL) :: (DMi, listOf v2.toArray n2) :: (DSe, listOf v1.toArray n1) :: (DP, listOf pv.toArray np) :: (DK, listOf kv.toArray nk) :: rt) → @LT.lt Nat _ DSe D2 → @LT.lt Nat _ DMi D2 → @LT.lt Nat _ DSe D3 → @LT.lt Nat _ DMi D3 → R) → R
                refine cutE 5 Pq ?_ ?_
                · dsimp only [List.take]
                  let nb : List (Addr × Obj) := (I, oI) :: (DL, oL) :: (DMi, listOf v2.toArray n2) :: (DSe, listOf v1.toArray n1) :: (DP, listOf pv.toArray np) :: (DK, listOf kv.toArray nk) :: rt
                  have N8b : News s₁.heap s₁.heap.objs.size h8 nb := N8
                  clear N8
                  obtain ⟨r, gr, b, hF, hok1, hok2, hok3, hH1, hL1, hS1, hH2, hL2, hS2⟩ := col_facts (k := ks.getD k.toNat 0) hpp hkk
                  repeat' ((fail_if_success (with_reducible show Hold _)); (fail_if_success (with_reducible show wpAny _ _ (call (Value.ref _) _) _ _ _)); (first | (k_unfold; (try dsimp only)) | (k_end; wrow_close) | walk1 | (dsimp only; walk1) | (leave1; walk_say "STEP leave1"; try dsimp only) | fail "no step"))
                  refine wpAny_with_toks (Nat.le_refl _) ?_
                  k_dflt (refine' hsv_use (h := FF (ps.getD k.toNat 0)) (sa := shareK (ks.getD k.toNat 0)) (v := levelK (ks.getD k.toNat 0)) ?k1 ?k2 ?k3 ?k4 ?k5 ?k6 ?k7 ?k10 ?k11 ?_; (case k1 => k_asm); (case k2 => k_asm); (case k3 => k_asm); (case k4 => k_asm); (case k5 => k_asm); (case k6 => first | exact rfl | assumption); (case k7 => exact hok1); (case k10 => ktr_room); (case k11 => ktr_units); k_whole)
                  intro D1 b1 b2 b3 h9 tk9 F9 N9 lD1 ht9
                  (try dsimp only at ht9)
                  rw [hF] at N9
                  (try dsimp only); (try dsimp only at N9)
                  repeat' ((fail_if_success (with_reducible show Hold _)); (fail_if_success (with_reducible show wpAny _ _ (call (Value.ref _) _) _ _ _)); (first | (k_unfold; (try dsimp only)) | (k_end; wrow_close) | walk1 | (dsimp only; walk1) | (leave1; walk_say "STEP leave1"; try dsimp only) | fail "no step"))
                  k_dflt (refine' hls_use (r := r) (gr := gr) (b := b) ?k1 ?k2 ?k3 ?k4 ?k5 ?k6 ?k7 ?k10 ?k11 ?_; (case k1 => k_asm); (case k2 => k_asm); (case k3 => k_asm); (case k4 => k_asm); (case k5 => k_asm); (case k6 => first | exact rfl | assumption); (case k7 => exact hok2); (case k10 => ktr_room); (case k11 => ktr_units); k_whole)
                  intro D2 b4 b5 b6 h10 tk10 F10 N10 lD2 hb4
                  rw [hH1, hL1, hS1] at N10
                  (try dsimp only); (try dsimp only at N10)
                  repeat' ((fail_if_success (with_reducible show Hold _)); (fail_if_success (with_reducible show wpAny _ _ (call (Value.ref _) _) _ _ _)); (first | (k_unfold; (try dsimp only)) | (k_end; wrow_close) | walk1 | (dsimp only; walk1) | (leave1; walk_say "STEP leave1"; try dsimp only) | fail "no step"))
                  k_dflt (refine' hls_use (r := r) (gr := b) (b := gr) ?k1 ?k2 ?k3 ?k4 ?k5 ?k6 ?k7 ?k10 ?k11 ?_; (case k1 => k_asm); (case k2 => k_asm); (case k3 => k_asm); (case k4 => k_asm); (case k5 => k_asm); (case k6 => first | exact rfl | assumption); (case k7 => exact hok3); (case k10 => ktr_room); (case k11 => ktr_units); k_whole)
                  intro D3 b7 b8 b9 h11 tk11 F11 N11 lD3 hb7
                  rw [hH2, hL2, hS2] at N11
                  (try dsimp only); (try dsimp only at N11)
                  repeat' ((fail_if_success (with_reducible show Hold _)); (fail_if_success (with_reducible show wpAny _ _ (compareOp _ _ _) _ _ _)); (first | (k_unfold; (try dsimp only)) | (k_end; wrow_close) | walk1 | (dsimp only; walk1) | (leave1; walk_say "STEP leave1"; try dsimp only) | fail "no step"))
                  refine ne_tup3 (booked (by k_asm) KX rfl) (News.get (by k_asm) (by k_mem)) (News.get (by k_asm) (by k_mem)) (by ke_room) hb4.1.2.2 hb4.2.1 hb4.2.2 (Nat.succ_pos _) ht3 (Nat.succ_pos _) (ff_eq hpp) (light_eq hkk) (by decide +kernel) ?_
                  repeat' ((fail_if_success (with_reducible show Hold _)); (fail_if_success (with_reducible show wpAny _ _ (compareOp _ _ _) _ _ _)); (first | (k_unfold; (try dsimp only)) | (k_end; wrow_close) | walk1 | (dsimp only; walk1) | (leave1; walk_say "STEP leave1"; try dsimp only) | fail "no step"))
                  · exact absurd (by assumption) (ff_inf (p := ((16 - ps.getD k.toNat 0).fmod 16)) mir_b)
                  refine ne_tup3 (booked (by k_asm) KX rfl) (News.get (by k_asm) (by k_mem)) (News.get (by k_asm) (by k_mem)) (by ke_room) hb7.1.2.2 hb7.2.1 hb7.2.2 (Nat.succ_pos _) ht3 (Nat.succ_pos _) (ff_eq mir_b) (light_eq hkk) (by decide +kernel) ?_
                  repeat' ((fail_if_success (with_reducible show Hold _)); (first | (k_unfold; (try dsimp only)) | (k_end; wrow_close) | walk1 | (dsimp only; walk1) | (leave1; walk_say "STEP leave1"; try dsimp only) | fail "no step"))
                  rename Fr _ _ _ _ => FE
                  rename News _ _ _ _ => NE
                  have hb4' := hb4.1
                  have hb7' := hb7.1
                  unfold TkB at hb4' hb7'
                  (try dsimp only at hb4' hb7')
                  obtain ⟨M1, hM1, FE'⟩ := fr_mid FE rfl rfl rfl rfl (m0 := (fun y : Str => if y = Str.ofString "mirrored" then some (.ref DMi) else if y = Str.ofString "seen" then some (.ref DSe) else if y = Str.ofString "places" then some (.ref DP) else if y = Str.ofString "kinds" then some (.ref DK) else if y = Str.ofString "script" then some (.ref l) else none)) (by intro y hy; obtain ⟨a0, a1, a2, a3, a4, a5, a6, a7, a8, a9⟩ := offN hy; (repeat (refine (if_neg (by assumption)).trans ?_)); exact off4 rfl rfl rfl rfl hM y hy)
                  exact ⟨rfl, fun _ kR => kR M1 D2 D3 b4 b5 b6 b7 b8 b9 _ _ rfl hM1 (by (try dsimp only); omega) (by (try dsimp only); omega) FE' (news_drop NE (by intro p hp; replace hp : p ∈ _ :: _ :: nb := hp; simp only [List.mem_cons] at hp ⊢; rcases hp with hp | hp | hp <;> simp only [hp, true_or, or_true])) (lD2 (DSe, listOf v1.toArray n1) (by repeat (first | exact List.Mem.head _ | refine List.Mem.tail _ ?_))) (lD2 (DMi, listOf v2.toArray n2) (by repeat (first | exact List.Mem.head _ | refine List.Mem.tail _ ?_))) (lD3 (DSe, listOf v1.toArray n1) (by repeat (first | exact List.Mem.head _ | refine List.Mem.tail _ ?_))) (lD3 (DMi, listOf v2.toArray n2) (by repeat (first | exact List.Mem.head _ | refine List.Mem.tail _ ?_)))⟩
                · intro s' hPr; refine hPr _ ?_; clear hPr Pq; rintro M1 D2 D3 b4 b5 b6 b7 b8 b9 h9 tk9 rfl hM1 hb4 hb7 F9 N9 lS2 lM2 lS3 lM3
                  clear F8 N8
                  dsimp only [List.drop]
                  let Pq : Shared → Prop := fun s' => ∀ R : Prop, (∀ (tS : Tok) (h' : Heap) (tk' : Nat), s' = { s₁ with heap := h', toks := tk' } → tk9 ≤ tk' → Fr s₁.heap s₁.heap.objs.size h' (fun y => if y = Str.ofString "sign" then some (.str (Txt.item (Str.ofString "abcdefghijklmnop") (ps.getD k.toNat 0)) tS) else if y = Str.ofString "turned" then some (.ref D3) else if y = Str.ofString "told" then some (.ref D2) else if y = Str.ofString "mirrored" then some (.ref DMi) else if y = Str.ofString "seen" then some (.ref DSe) else M1 y) → News s₁.heap s₁.heap.objs.size h' ((D3, tup3 (FF ((16 - ps.getD k.toNat 0).fmod 16)) (lightK (ks.getD k.toNat 0)) 4607182418800017408 b7 b8 b9) :: (D2, tup3 (FF (ps.getD k.toNat 0)) (lightK (ks.getD k.toNat 0)) 4607182418800017408 b4 b5 b6) :: (I, oI) :: (DL, oL) :: (DMi, listOf v2.toArray n2) :: (DSe, listOf v1.toArray n1) :: (DP, listOf pv.toArray np) :: (DK, listOf kv.toArray nk) :: rt) → R) → R
                  refine cutE 1 Pq ?_ ?_
                  · dsimp only [List.take]
                    repeat' ((fail_if_success (with_reducible show Hold _)); (fail_if_success (with_reducible show wpAny _ _ (call (Value.type "int") _) _ _ _)); (first | (k_unfold; (try dsimp only)) | (k_end; wrow_close) | walk1 | (dsimp only; walk1) | (leave1; walk_say "STEP leave1"; try dsimp only) | fail "no step"))
                    refine int_ff hpp rfl ?_
                    (try dsimp only)
                    repeat' ((fail_if_success (with_reducible show Hold _)); (first | (k_unfold; (try dsimp only)) | (k_end; wrow_close) | walk1 | (dsimp only; walk1) | (leave1; walk_say "STEP leave1"; try dsimp only) | fail "no step"))
                    exact ⟨rfl, fun _ kR => kR _ _ _ rfl (by (try dsimp only); omega) (by assumption) (by assumption)⟩
                  · intro s' hPr; refine hPr _ ?_; clear hPr Pq; rintro tS h10 tk10 rfl htk10 F10 N10
                    clear F9 N9
                    dsimp only [List.drop]
                    let Pq : Shared → Prop := fun s' => ∀ R : Prop, (∀ (tS : Tok) (h' : Heap) (tk' : Nat), s' = { s₁ with heap := h', toks := tk' } → tk9 ≤ tk' → Fr s₁.heap s₁.heap.objs.size h' (fun y => if y = Str.ofString "sign" then some (.str (signK (ps.getD k.toNat 0) (ks.getD k.toNat 0)) tS) else if y = Str.ofString "turned" then some (.ref D3) else if y = Str.ofString "told" then some (.ref D2) else if y = Str.ofString "mirrored" then some (.ref DMi) else if y = Str.ofString "seen" then some (.ref DSe) else M1 y) → News s₁.heap s₁.heap.objs.size h' ((D3, tup3 (FF ((16 - ps.getD k.toNat 0).fmod 16)) (lightK (ks.getD k.toNat 0)) 4607182418800017408 b7 b8 b9) :: (D2, tup3 (FF (ps.getD k.toNat 0)) (lightK (ks.getD k.toNat 0)) 4607182418800017408 b4 b5 b6) :: (I, oI) :: (DL, oL) :: (DMi, listOf v2.toArray n2) :: (DSe, listOf v1.toArray n1) :: (DP, listOf pv.toArray np) :: (DK, listOf kv.toArray nk) :: rt) → R) → R
                    refine cutE 2 Pq ?_ ?_
                    · dsimp only [List.take]
                      have hI1 : (Txt.item (Str.ofString "abcdefghijklmnop") (ps.getD k.toNat 0)).length = 1 := by rw [sign0 hpp]; rfl
                      rcases (show ks.getD k.toNat 0 = 0 ∨ ks.getD k.toNat 0 = 1 ∨ ks.getD k.toNat 0 = 2 by omega) with hv | hv | hv
                      · rw [hv, light0] at N10
                        repeat' ((fail_if_success (with_reducible show Hold _)); (first | (k_unfold; (try dsimp only)) | (k_end; wrow_close) | walk1 | (dsimp only; walk1) | (leave1; walk_say "STEP leave1"; try dsimp only) | fail "no step"))
                        rename Fr _ _ _ _ => FE
                        rename News _ _ _ _ => NE
                        dsimp only [Pq]
                        rw [hv, light0, ← sign0 hpp]
                        exact ⟨rfl, fun _ kR => kR _ _ _ rfl (by (try dsimp only); omega) (fr_sign FE rfl (by intro y hy; (repeat (refine (if_neg hy).trans ?_)); rfl)) NE⟩
                      · rw [hv, light1] at N10
                        repeat' ((fail_if_success (with_reducible show Hold _)); (first | (k_unfold; (try dsimp only)) | (k_end; wrow_close) | walk1 | (dsimp only; walk1) | (leave1; walk_say "STEP leave1"; try dsimp only) | fail "no step"))
                        rename Fr _ _ _ _ => FE
                        rename News _ _ _ _ => NE
                        dsimp only [Pq]
                        rw [hv, light1, ← sign1 hpp]
                        exact ⟨rfl, fun _ kR => kR _ _ _ rfl (by (try dsimp only); omega) (fr_sign FE rfl (by intro y hy; (repeat (refine (if_neg hy).trans ?_)); rfl)) NE⟩
                      · rw [hv, light2] at N10
                        repeat' ((fail_if_success (with_reducible show Hold _)); (first | (k_unfold; (try dsimp only)) | (k_end; wrow_close) | walk1 | (dsimp only; walk1) | (leave1; walk_say "STEP leave1"; try dsimp only) | fail "no step"))
                        rename Fr _ _ _ _ => FE
                        rename News _ _ _ _ => NE
                        dsimp only [Pq]
                        rw [hv, light2, ← sign2]
                        exact ⟨rfl, fun _ kR => kR _ _ _ rfl (by (try dsimp only); omega) (fr_sign FE rfl (by intro y hy; (repeat (refine (if_neg hy).trans ?_)); rfl)) NE⟩
                    · intro s' hPr; refine hPr _ ?_; clear hPr Pq; rintro tS h11 tk11 rfl htk11 F11 N11
                      clear F10 N10
                      dsimp only [List.drop]
                      repeat' ((fail_if_success (with_reducible show Hold _)); (fail_if_success (with_reducible show wpAny _ _ (call (Value.builtin "list.append") _) _ _ _)); (first | (k_unfold; (try dsimp only)) | (k_end; wrow_close) | walk1 | (dsimp only; walk1) | (leave1; walk_say "STEP leave1"; try dsimp only) | fail "no step"))
                      show wpAny _ _ (call (Value.builtin "list.append") [Value.ref DSe, Value.ref _]) _ _ _
                      refine' append_K ?k1 ?k2 ?k3 ?_ ?z
                      case k1 => k_asm
                      case k2 => k_asm
                      case k3 => k_upd
                      case z => size_fits
                      intro h' F' N'
                      (try dsimp only)
                      repeat' ((fail_if_success (with_reducible show Hold _)); (fail_if_success (with_reducible show wpAny _ _ (call (Value.builtin "list.append") _) _ _ _)); (first | (k_unfold; (try dsimp only)) | (k_end; wrow_close) | walk1 | (dsimp only; walk1) | (leave1; walk_say "STEP leave1"; try dsimp only) | fail "no step"))
                      show wpAny _ _ (call (Value.builtin "list.append") [Value.ref DMi, Value.ref _]) _ _ _
                      refine' append_K ?k1 ?k2 ?k3 ?_ ?z
                      case k1 => k_asm
                      case k2 => k_asm
                      case k3 => k_upd
                      case z => size_fits
                      intro h' F' N'
                      (try dsimp only)
                      repeat' ((fail_if_success (with_reducible show Hold _)); (first | (k_unfold; (try dsimp only)) | (k_end; wrow_close) | walk1 | (dsimp only; walk1) | (leave1; walk_say "STEP leave1"; try dsimp only) | fail "no step"))
                      rename News _ _ _ _ => NE
                      rename Fr _ _ _ _ => FE
                      simp only [List.push_toArray] at NE
                      subst hrt
                      exact show Hold (Flow.next = Flow.next ∧ _) from ⟨rfl, turn_fin NE FE (by intro y hy; obtain ⟨a0, a1, a2, a3, a4, a5, a6, a7, a8, a9⟩ := offN hy; (repeat (refine (if_neg (by assumption)).trans ?_)); exact off2 rfl rfl hM1 y hy) hIM hIS (fun p hp => hnI p (.tail _ (.tail _ hp))) (ltN (by omega)) (ltN (by omega)) htl (ltN (by omega)) (ltN (by omega)) hi hT1 hT2 (by omega) (by omega) rfl rfl⟩
            · rintro m₁ news₁ h7 tk0 tk7 ⟨u, tl, v1, v2, n1, n2, rfl, rfl, htl, hT1, hT2⟩ htk7 F7 N7
              exact wpAny_pure ⟨rfl, fun _ kR => kR _ _ _ _ _ _ rfl F7 N7 ⟨u, tl, v1, v2, n1, n2, rfl, rfl, fun p hp => Nat.lt_trans lL.1 (htl p hp), hT1.mono htk7, hT2.mono htk7⟩ hSe1 hSe2 hMi⟩
        · intro s' hPr; refine hPr _ ?_; clear hPr Pq; rintro _ _ DSe DMi h6 tk6 rfl F6o N6 ⟨u, tl, v1, v2, n1, n2, rfl, rfl, htl, hT1, hT2⟩ hSe1 hSe2 hMi
          dsimp only [List.drop]
          have hG := ps_grows hps
          k_lt2 hSe1
          k_lt2 hSe2
          k_lt2 hMi
          subst hrs
          replace N6 : News s₁.heap s₁.heap.objs.size h6 ((DMi, listOf v2.toArray n2) :: (DSe, listOf v1.toArray n1) :: (DP, listOf pv.toArray np) :: (DK, listOf kv.toArray nk) :: (DS, listOf #[.int x0 t0, .int x1 t1, .int x2 t2, .int x3 t3, .int x4 t4, .int x5 t5, .int x6 t6, .int x7 t7] n) :: (cellL s₁.heap.objs.size o8 o7 o6 o5 o4 o3 o2 c1 ++ tl)) := N6
          dsimp only [cellL, List.cons_append, List.nil_append] at N6
          obtain ⟨M, F6⟩ : ∃ M : Str → Option Value, Fr s₁.heap s₁.heap.objs.size h6 (fun y : Str => if y = Str.ofString "mirrored" then some (.ref DMi) else if y = Str.ofString "seen" then some (.ref DSe) else if y = Str.ofString "places" then some (.ref DP) else if y = Str.ofString "kinds" then some (.ref DK) else M y) := ⟨_, pin (pin (pin (pin F6o rfl) rfl) rfl) rfl⟩
          clear F6o
          clear F4 N4 hrl hps
          let Pq : Shared → Prop := fun s' => ∀ R : Prop, (∀ (rg : Str) (tr : Tok) (c2 : Obj) (gens' : Array GenState) (h' : Heap) (tk' : Nat), s' = { s₁ with heap := h', toks := tk', gens := gens' } → (∀ y ∈ gens', y.bare = true) → Fr s₁.heap s₁.heap.objs.size h' (fun y : Str => if y = Str.ofString "mirrored" then some (.ref DMi) else if y = Str.ofString "seen" then some (.ref DSe) else if y = Str.ofString "places" then some (.ref DP) else if y = Str.ofString "kinds" then some (.ref DK) else M y) → News s₁.heap s₁.heap.objs.size h' ((DMi, listOf v2.toArray n2) :: (DSe, listOf v1.toArray n1) :: (DP, listOf pv.toArray np) :: (DK, listOf kv.toArray nk) :: (DS, listOf #[.int x0 t0, .int x1 t1, .int x2 t2, .int x3 t3, .int x4 t4, .int x5 t5, .int x6 t6, .int x7 t7] n) :: (cellL s₁.heap.objs.size o8 o7 o6 o5 o4 o3 c2 c1 ++ tl)) → c2.data = .cell (some (.str rg tr)) → LL rg = (runQ (ringL ks ps)).2 → R) → R
          refine cutE 1 Pq ?_ ?_
          · skip
            dsimp only [List.take]
            repeat' ((fail_if_success (with_reducible show Hold _)); (fail_if_success (with_reducible show wpAny _ _ (eval (Expr.ListComp _ _ _ _) _) _ _ _)); (fail_if_success (with_reducible show wpAny _ _ (exec (Stmt.Assign _ (Expr.ListComp _ _ _ _) _) _) _ _ _)); (first | (k_unfold; (try dsimp only)) | (k_end; wrow_close) | walk1 | (dsimp only; walk1) | (leave1; walk_say "STEP leave1"; try dsimp only) | fail "no step"))
            k_dflt (refine LCg.ListComp_U (F₀ := by k_asm) (by with_unfolding_all rfl) (by decide) (by rfl) (by decide) (by rfl) ?_)
            repeat' ((fail_if_success (with_reducible show Hold _)); (fail_if_success (with_reducible show wpAny _ _ (call (Value.builtin "sorted") _) _ _ _)); (first | (k_unfold; (try dsimp only)) | (k_end; wrow_close) | walk1 | (dsimp only; walk1) | (leave1; walk_say "STEP leave1"; try dsimp only) | fail "no step"))
            refine sorted_tups (pk1 ps) rk1 perm1 (by k_asm) (by k_asm) KX rfl (by k_mem) (fun p hp => by repeat (first | exact hp | refine List.Mem.tail _ ?_)) hT1 rfl seen_key (fun i hi => hG.2.2 _ (rk1_lt i hi)) (pk1_rk hG) sort1 ?_
            intro D7 e7 h7 F7 N7 l7
            (try dsimp only)
            repeat' ((fail_if_success (with_reducible show Hold _)); (fail_if_success (with_reducible show LCg.CompSrc _ _ _ _ _ _ _ _ _ _ _ _ _ _)); (first | (k_unfold; (try dsimp only)) | (k_end; wrow_close) | walk1 | (dsimp only; walk1) | (leave1; walk_say "STEP leave1"; try dsimp only) | fail "no step"))
            k_dflt (refine LCg.CompSrc.ledger (by rfl) (by k_asm) (by k_asm) (by k_mem) (by exact Nat.le_of_ble_eq_true rfl) ?_)
            intro g1
            refine comp_rest (fun i y => ∃ t, y = .str (signK (ps.getD i 0) (ks.getD i 0)) t) ?_ ?_
            · intro i v I oI C oC D m2 ys h8 tk8 E8 hi hv hC hx F8 N8 off8 ne8
              obtain ⟨a8, f8, ta8, tb8, rfl, hm8⟩ := seen_at hT1 i v (by simpa using hv)
              repeat' ((fail_if_success (with_reducible show Hold _)); (fail_if_success (with_reducible show LCg.CompEnd _ _ _ _ _ _ _ _ _ _ _ _ _ _)); (fail_if_success (with_reducible show wpAny _ _ (subscriptTail _ _ _ _) _ _ _)); (first | (k_unfold; (try dsimp only)) | (k_end; wrow_close) | walk1 | (dsimp only; walk1) | (leave1; walk_say "STEP leave1"; try dsimp only) | fail "no step"))
              refine item_s1 (News.get N8 (by repeat (first | exact hm8 | refine List.Mem.tail _ ?_))) ?_
              exact LCg.CompEnd.intro F8 N8 _ (fun p hp => hp) off8 (.inr ⟨_, List.Mem.head _, rfl, _, rfl⟩) ⟨rfl, _, rfl⟩
            · intro ys hly hys
              have hst : StrsAre ys ((List.range 8).map fun i => signK (ps.getD i 0) (ks.getD i 0)) := strs_of (n := 8) hly hys
              clear hly hys
              intro D8 h8 tk8 F8 N8 off8
              (try dsimp only)
              (try simp only [LCg.Off1] at off8)
              repeat' ((fail_if_success (with_reducible show Hold _)); (fail_if_success (with_reducible show wpAny _ _ (call (Value.builtin "str.join") _) _ _ _)); (first | (k_unfold; (try dsimp only)) | (k_end; wrow_close) | walk1 | (dsimp only; walk1) | (leave1; walk_say "STEP leave1"; try dsimp only) | fail "no step"))
              show wpAny _ _ (call (Value.builtin "str.join") [Value.str (Str.ofString "") _, Value.ref D8]) _ _ _
              refine join_listW (ys := (List.range 8).map fun i => signK (ps.getD i 0) (ks.getD i 0)) (⟨_, (N8 _ (.head _)).1, rfl, _, rfl⟩ : Heap.IsList _ D8 ys.toArray) (by simpa using hst) (by decide) (weigh_signs fun i => sign_len _ _) ?_
              intro t' k'
              (try dsimp only)
              have htx := ring_text ks ps
              generalize Txt.join (Str.ofString "") ((List.range 8).map fun i => signK (ps.getD i 0) (ks.getD i 0)) = tx at htx
              have hksb : ∀ i, i < 8 → 0 ≤ ks.getD i 0 ∧ ks.getD i 0 < 3 := fun i hi => get_b hkb i (by omega)
              have hlt : tx.length = 8 := by rw [length_of_LL, htx]; rfl
              have hpar := par_ring hG.2.2 hksb hk8 hke
              repeat' ((fail_if_success (with_reducible show Hold _)); (fail_if_success (with_reducible show wpAny _ _ (call (Value.ref _) _) _ _ _)); (first | (k_unfold; (try dsimp only)) | (k_end; wrow_close) | walk1 | (dsimp only; walk1) | (leave1; walk_say "STEP leave1"; try dsimp only) | fail "no step"))
              k_dflt (refine' strip_use ?k1 ?k2 ?k3 ?k4 ?k5 ?k6 ?k7 ?k8 ?k9 ?k10 ?k11 ?_; (case k1 => k_asm); (case k2 => k_asm); (case k3 => k_asm); (case k4 => k_asm); (case k5 => k_asm); (case k6 => first | exact rfl | assumption); (case k7 => (rw [hlt]; decide)); (case k8 => exact sign_mem hG.2.2 hksb (f := fun i => i) (fun i h => h) htx); (case k9 => (rw [htx, run_eq]; exact hpar)); (case k10 => ktr_room); (case k11 => ktr_units); k_whole)
              intro rg tr h9 tk9 gens9 hrg hgens9 F9 N9
              have N9' := news_drop N9 (fun p hp => .tail _ (.tail _ hp))
              clear N9 N8 F8 off8 l7 hst N7 F7 N6 F6
              (try dsimp only)
              repeat' ((fail_if_success (with_reducible show Hold _)); (first | (k_unfold; (try dsimp only)) | (k_end; wrow_close) | walk1 | (dsimp only; walk1) | (leave1; walk_say "STEP leave1"; try dsimp only) | fail "no step"))
              exact ⟨rfl, fun _ kR => kR rg tr _ gens9 _ _ rfl (hgens9 (by rw [hg]; simp)) (by assumption) (by assumption) (by assumption) (by rw [hrg, htx])⟩
          · intro s' hPr; refine hPr _ ?_; clear hPr Pq; rintro rg tr c2 gensA h6b tk6b rfl hb7 F6b N6b hc2 hrg
            clear F6 N6
            dsimp only [List.drop]
            dsimp only [cellL, List.cons_append, List.nil_append] at N6b
            let Pq : Shared → Prop := fun s' => ∀ R : Prop, (∀ (bk : Str) (tb : Tok) (c3 : Obj) (gens' : Array GenState) (h' : Heap) (tk' : Nat), s' = { s₁ with heap := h', toks := tk', gens := gens' } → (∀ y ∈ gens', y.bare = true) → Fr s₁.heap s₁.heap.objs.size h' (fun y : Str => if y = Str.ofString "mirrored" then some (.ref DMi) else if y = Str.ofString "seen" then some (.ref DSe) else if y = Str.ofString "places" then some (.ref DP) else if y = Str.ofString "kinds" then some (.ref DK) else M y) → News s₁.heap s₁.heap.objs.size h' ((DP, listOf pv.toArray np) :: (DK, listOf kv.toArray nk) :: (DS, listOf #[.int x0 t0, .int x1 t1, .int x2 t2, .int x3 t3, .int x4 t4, .int x5 t5, .int x6 t6, .int x7 t7] n) :: cellL s₁.heap.objs.size o8 o7 o6 o5 o4 c3 c2 c1) → c3.data = .cell (some (.str bk tb)) → LL bk = (runQ (backL ks ps)).2 → R) → R
            refine cutE 1 Pq ?_ ?_
            · skip
              dsimp only [List.take]
              repeat' ((fail_if_success (with_reducible show Hold _)); (fail_if_success (with_reducible show wpAny _ _ (eval (Expr.ListComp _ _ _ _) _) _ _ _)); (fail_if_success (with_reducible show wpAny _ _ (exec (Stmt.Assign _ (Expr.ListComp _ _ _ _) _) _) _ _ _)); (first | (k_unfold; (try dsimp only)) | (k_end; wrow_close) | walk1 | (dsimp only; walk1) | (leave1; walk_say "STEP leave1"; try dsimp only) | fail "no step"))
              k_dflt (refine LCg.ListComp_U (F₀ := by k_asm) (by with_unfolding_all rfl) (by decide) (by rfl) (by decide) (by rfl) ?_)
              repeat' ((fail_if_success (with_reducible show Hold _)); (fail_if_success (with_reducible show wpAny _ _ (call (Value.builtin "sorted") _) _ _ _)); (first | (k_unfold; (try dsimp only)) | (k_end; wrow_close) | walk1 | (dsimp only; walk1) | (leave1; walk_say "STEP leave1"; try dsimp only) | fail "no step"))
              refine sorted_tups (pk2 ps) rk2 perm2 (by k_asm) (by k_asm) KX rfl (by k_mem) (fun p hp => by repeat (first | exact hp | refine List.Mem.tail _ ?_)) hT2 rfl mir_key (fun i hi => mir_b) (pk2_rk hG) sort2 ?_
              intro D7 e7 h7 F7 N7 l7
              (try dsimp only)
              repeat' ((fail_if_success (with_reducible show Hold _)); (fail_if_success (with_reducible show LCg.CompSrc _ _ _ _ _ _ _ _ _ _ _ _ _ _)); (first | (k_unfold; (try dsimp only)) | (k_end; wrow_close) | walk1 | (dsimp only; walk1) | (leave1; walk_say "STEP leave1"; try dsimp only) | fail "no step"))
              k_dflt (refine LCg.CompSrc.ledger (by rfl) (by k_asm) (by k_asm) (by k_mem) (by exact Nat.le_of_ble_eq_true rfl) ?_)
              intro g1
              refine comp_rest (fun i y => ∃ t, y = .str (signK (ps.getD (mo i) 0) (ks.getD (mo i) 0)) t) ?_ ?_
              · intro i v I oI C oC D m2 ys h8 tk8 E8 hi hv hC hx F8 N8 off8 ne8
                obtain ⟨a8, f8, ta8, tb8, rfl, hm8⟩ := mir_at hT2 i v (by simpa using hv)
                repeat' ((fail_if_success (with_reducible show Hold _)); (fail_if_success (with_reducible show LCg.CompEnd _ _ _ _ _ _ _ _ _ _ _ _ _ _)); (fail_if_success (with_reducible show wpAny _ _ (subscriptTail _ _ _ _) _ _ _)); (first | (k_unfold; (try dsimp only)) | (k_end; wrow_close) | walk1 | (dsimp only; walk1) | (leave1; walk_say "STEP leave1"; try dsimp only) | fail "no step"))
                refine item_s1 (News.get N8 (by repeat (first | exact hm8 | refine List.Mem.tail _ ?_))) ?_
                exact LCg.CompEnd.intro F8 N8 _ (fun p hp => hp) off8 (.inr ⟨_, List.Mem.head _, rfl, _, rfl⟩) ⟨rfl, _, rfl⟩
              · intro ys hly hys
                have hst : StrsAre ys ((List.range 8).map fun i => signK (ps.getD (mo i) 0) (ks.getD (mo i) 0)) := strs_of (n := 8) hly hys
                clear hly hys
                intro D8 h8 tk8 F8 N8 off8
                (try dsimp only)
                (try simp only [LCg.Off1] at off8)
                repeat' ((fail_if_success (with_reducible show Hold _)); (fail_if_success (with_reducible show wpAny _ _ (call (Value.builtin "str.join") _) _ _ _)); (first | (k_unfold; (try dsimp only)) | (k_end; wrow_close) | walk1 | (dsimp only; walk1) | (leave1; walk_say "STEP leave1"; try dsimp only) | fail "no step"))
                show wpAny _ _ (call (Value.builtin "str.join") [Value.str (Str.ofString "") _, Value.ref D8]) _ _ _
                refine join_listW (ys := (List.range 8).map fun i => signK (ps.getD (mo i) 0) (ks.getD (mo i) 0)) (⟨_, (N8 _ (.head _)).1, rfl, _, rfl⟩ : Heap.IsList _ D8 ys.toArray) (by simpa using hst) (by decide) (weigh_signs fun i => sign_len _ _) ?_
                intro t' k'
                (try dsimp only)
                have htx := back_text ks ps
                generalize Txt.join (Str.ofString "") ((List.range 8).map fun i => signK (ps.getD (mo i) 0) (ks.getD (mo i) 0)) = tx at htx
                have hksb : ∀ i, i < 8 → 0 ≤ ks.getD i 0 ∧ ks.getD i 0 < 3 := fun i hi => get_b hkb i (by omega)
                have hlt : tx.length = 8 := by rw [length_of_LL, htx]; rfl
                have hpar := par_back (par_ring hG.2.2 hksb hk8 hke)
                repeat' ((fail_if_success (with_reducible show Hold _)); (fail_if_success (with_reducible show wpAny _ _ (call (Value.ref _) _) _ _ _)); (first | (k_unfold; (try dsimp only)) | (k_end; wrow_close) | walk1 | (dsimp only; walk1) | (leave1; walk_say "STEP leave1"; try dsimp only) | fail "no step"))
                k_dflt (refine' strip_use ?k1 ?k2 ?k3 ?k4 ?k5 ?k6 ?k7 ?k8 ?k9 ?k10 ?k11 ?_; (case k1 => k_asm); (case k2 => k_asm); (case k3 => k_asm); (case k4 => k_asm); (case k5 => k_asm); (case k6 => first | exact rfl | assumption); (case k7 => (rw [hlt]; decide)); (case k8 => exact sign_mem hG.2.2 hksb (f := mo) (fun i _ => mo_lt i) htx); (case k9 => (rw [htx, run_eq]; exact hpar)); (case k10 => ktr_room); (case k11 => ktr_units); k_whole)
                intro bk tb h9 tk9 gens9 hrg hgens9 F9 N9
                have N9' := news_drop N9 (fun p hp => .tail _ (.tail _ hp))
                clear N9 N8 F8 off8 l7 hst N7 F7 N6b F6b
                (try dsimp only)
                repeat' ((fail_if_success (with_reducible show Hold _)); (first | (k_unfold; (try dsimp only)) | (k_end; wrow_close) | walk1 | (dsimp only; walk1) | (leave1; walk_say "STEP leave1"; try dsimp only) | fail "no step"))
                rename News _ _ _ _ => NE
                exact ⟨rfl, fun _ kR => kR bk tb _ gens9 _ _ rfl (hgens9 hb7) (by assumption) (news_drop NE (fun p hp => List.Mem.tail _ (List.Mem.tail _ (List.mem_append_left tl hp)))) (by assumption) (by rw [hrg, htx])⟩
            · intro s' hPr; refine hPr _ ?_; clear hPr Pq; rintro bk tb c3 gensB h7 tk7 rfl hb8 F7o N7 hc3 hbk
              clear F6b N6b hT1 hT2 htl
              dsimp only [List.drop]
              dsimp only [cellL] at N7
              obtain ⟨M2, F7⟩ : ∃ M2 : Str → Option Value, Fr s₁.heap s₁.heap.objs.size h7 (fun y : Str => if y = Str.ofString "places" then some (.ref DP) else if y = Str.ofString "kinds" then some (.ref DK) else M2 y) := ⟨_, pin (pin F7o rfl) rfl⟩
              clear F7o
              let Pq : Shared → Prop := fun s' => ∀ R : Prop, (∀ (M : Str → Option Value) (du : Str) (td : Tok) (c4 : Obj) (h' : Heap) (tk' : Nat), s' = { s₁ with heap := h', toks := tk', gens := gensB } → Fr s₁.heap s₁.heap.objs.size h' M → News s₁.heap s₁.heap.objs.size h' ((DP, listOf pv.toArray np) :: (DK, listOf kv.toArray nk) :: (DS, listOf #[.int x0 t0, .int x1 t1, .int x2 t2, .int x3 t3, .int x4 t4, .int x5 t5, .int x6 t6, .int x7 t7] n) :: cellL s₁.heap.objs.size o8 o7 o6 o5 c4 c3 c2 c1) → c4.data = .cell (some (.str du td)) → LL du = dueL ks ps → du.length ≤ 8 → R) → R
              refine cutE 3 Pq ?_ ?_
              · skip
                dsimp only [List.take]
                clear_value qk
                let Pq : Shared → Prop := fun s' => ∀ R : Prop, (∀ (tp : Tok) (td : Tok) (c4 : Obj) (h' : Heap) (tk' : Nat), s' = { s₁ with heap := h', toks := tk', gens := gensB } → Fr s₁.heap s₁.heap.objs.size h' (fun y => if y = Str.ofString "passed" then some (.int 0 tp) else (fun y : Str => if y = Str.ofString "places" then some (.ref DP) else if y = Str.ofString "kinds" then some (.ref DK) else M2 y) y) → News s₁.heap s₁.heap.objs.size h' ((DP, listOf pv.toArray np) :: (DK, listOf kv.toArray nk) :: (DS, listOf #[.int x0 t0, .int x1 t1, .int x2 t2, .int x3 t3, .int x4 t4, .int x5 t5, .int x6 t6, .int x7 t7] n) :: cellL s₁.heap.objs.size o8 o7 o6 o5 c4 c3 c2 c1) → c4.data = .cell (some (.str (Str.ofString "") td)) → R) → R
                refine cutE 2 Pq ?_ ?_
                · dsimp only [List.take]
                  repeat' ((fail_if_success (with_reducible show Hold _)); (first | (k_unfold; (try dsimp only)) | (k_end; wrow_close) | walk1 | (dsimp only; walk1) | (leave1; walk_say "STEP leave1"; try dsimp only) | fail "no step"))
                  exact ⟨rfl, fun _ kR => kR _ _ _ _ _ rfl (by assumption) (by assumption) (by assumption)⟩
                · intro s' hPr; refine hPr _ ?_; clear hPr Pq; rintro tp0 td0 c40 h8 tk8 rfl F8 N8 hc40
                  clear F7 N7
                  dsimp only [List.drop]
                  dsimp only [cellL] at N8
                  (try dsimp only at F8)
                  repeat' ((fail_if_success (with_reducible show Hold _)); (fail_if_success (with_reducible show wpAny _ _ (exec (Stmt.For _ _ _ _ _) _) _ _ _)); (first | (k_unfold; (try dsimp only)) | (k_end; wrow_close) | walk1 | (dsimp only; walk1) | (leave1; walk_say "STEP leave1"; try dsimp only) | fail "no step"))
                  refine wpAny_For ?_ (by intro _; rfl)
                  repeat' ((fail_if_success (with_reducible show Hold _)); (fail_if_success (with_reducible show wpAny _ _ (pyIter _) _ _ _)); (first | (k_unfold; (try dsimp only)) | (k_end; wrow_close) | walk1 | (dsimp only; walk1) | (leave1; walk_say "STEP leave1"; try dsimp only) | fail "no step"))
                  rename News _ _ _ _ => N9
                  rename Fr _ _ _ _ => F9
                  rename IntsAre pv ps => hpv
                  refine for_range2 (n := 8) (news := [(DP, listOf pv.toArray np), (DK, listOf kv.toArray nk), (DS, listOf #[.int x0 t0, .int x1 t1, .int x2 t2, .int x3 t3, .int x4 t4, .int x5 t5, .int x6 t6, .int x7 t7] n), (s₁.heap.objs.size + 1 + 1 + 1 + 1 + 1 + 1 + 1 + 1, o8), (s₁.heap.objs.size + 1 + 1 + 1 + 1 + 1 + 1 + 1, o7), (s₁.heap.objs.size + 1 + 1 + 1 + 1 + 1 + 1, o6), (s₁.heap.objs.size + 1 + 1 + 1 + 1 + 1, o5)] ++ ((s₁.heap.objs.size + 1 + 1 + 1 + 1), c40) :: [(s₁.heap.objs.size + 1 + 1 + 1, c3), (s₁.heap.objs.size + 1 + 1, c2), (s₁.heap.objs.size + 1, c1)]) (DJ [(DP, listOf pv.toArray np), (DK, listOf kv.toArray nk), (DS, listOf #[.int x0 t0, .int x1 t1, .int x2 t2, .int x3 t3, .int x4 t4, .int x5 t5, .int x6 t6, .int x7 t7] n), (s₁.heap.objs.size + 1 + 1 + 1 + 1 + 1 + 1 + 1 + 1, o8), (s₁.heap.objs.size + 1 + 1 + 1 + 1 + 1 + 1 + 1, o7), (s₁.heap.objs.size + 1 + 1 + 1 + 1 + 1 + 1, o6), (s₁.heap.objs.size + 1 + 1 + 1 + 1 + 1, o5)] [(s₁.heap.objs.size + 1 + 1 + 1, c3), (s₁.heap.objs.size + 1 + 1, c2), (s₁.heap.objs.size + 1, c1)] (s₁.heap.objs.size + 1 + 1 + 1 + 1) (fun y : Str => if y = Str.ofString "places" then some (.ref DP) else if y = Str.ofString "kinds" then some (.ref DK) else M2 y) ks ps)
                    rfl rfl rfl (by passes_own) (by assumption) rfl rfl N9 F9 (fun p hp => hp) ?_ ?_ ?_
                  · obtain ⟨u9, hu9⟩ := dmap_of (m₂ := fun y => if y = Str.ofString "passed" then some (.int 0 tp0) else (fun y : Str => if y = Str.ofString "places" then some (.ref DP) else if y = Str.ofString "kinds" then some (.ref DK) else M2 y) y) (m₀ := (fun y : Str => if y = Str.ofString "places" then some (.ref DP) else if y = Str.ofString "kinds" then some (.ref DK) else M2 y)) (p := 0) (tp := tp0) (by simp) (by intro y _ y2; simp only [if_neg y2])
                    exact ⟨u9, 0, tp0, _, td0, c40, hu9, rfl, hc40, dinv_start ks ps⟩
                  · rintro i t m₁ news₁ h10 tk0 tk10 I oI hi hIall hnI ⟨u0, p, tp, d, td, c4, rfl, rfl, hc4, hD⟩ htk F10 N10
                    clear F9 N9
                    have hI2 := allLt_of hIall
                    simp only [AllLt, and_true] at hI2
                    dsimp only [List.cons_append, List.nil_append] at N10
                    replace F10 : Fr s₁.heap s₁.heap.objs.size h10 (fun y => if y = Str.ofString "k" then some (Value.int (i : Int) t) else dmap u0 p tp (fun y : Str => if y = Str.ofString "places" then some (.ref DP) else if y = Str.ofString "kinds" then some (.ref DK) else M2 y) y) := F10
                    dsimp only [dmap] at F10
                    have hkk := get_b hkb i (by omega)
                    have hpp := hG.2.2 i hi
                    have hpp2 : 0 ≤ ps.getD (i : Int).toNat 0 ∧ ps.getD (i : Int).toNat 0 < 16 := hpp
                    have hi8 : (i : Int) < 8 := by omega
                    have hD' := hD
                    obtain ⟨hd0, hd1, hd2, hd3, hd4⟩ := hD'
                    let Qt : Flow → Shared → Prop := fun f s₂ => f = .next ∧ TurnEnd2 s₁.heap s₁.heap.objs.size I [(I, oI)] (DJ [(DP, listOf pv.toArray np), (DK, listOf kv.toArray nk), (DS, listOf #[.int x0 t0, .int x1 t1, .int x2 t2, .int x3 t3, .int x4 t4, .int x5 t5, .int x6 t6, .int x7 t7] n), (s₁.heap.objs.size + 1 + 1 + 1 + 1 + 1 + 1 + 1 + 1, o8), (s₁.heap.objs.size + 1 + 1 + 1 + 1 + 1 + 1 + 1, o7), (s₁.heap.objs.size + 1 + 1 + 1 + 1 + 1 + 1, o6), (s₁.heap.objs.size + 1 + 1 + 1 + 1 + 1, o5)] [(s₁.heap.objs.size + 1 + 1 + 1, c3), (s₁.heap.objs.size + 1 + 1, c2), (s₁.heap.objs.size + 1, c1)] (s₁.heap.objs.size + 1 + 1 + 1 + 1) (fun y : Str => if y = Str.ofString "places" then some (.ref DP) else if y = Str.ofString "kinds" then some (.ref DK) else M2 y) ks ps (i + 1)) { s₁ with heap := h10, toks := tk10, gens := gensB } s₂
                    refine cutM (Q' := Qt) ?_ (by rintro f s₂ ⟨rfl, h⟩; exact h)
                    (try dsimp only); (try k_unmd); (try k_fold)
                    rcases (show ks.getD i 0 = 0 ∨ ks.getD i 0 = 1 ∨ ks.getD i 0 = 2 by omega) with hki | hki | hki
                    · have hv : Known (ks.getD (i : Int).toNat 0) 0 := hki
                      have hs := sg_of (ps := ps) hki
                      have hne : sgAt ks ps i ≠ 34 := by intro e; have := (par_sg ks ps hG.2.2 (fun j hj => get_b hkb j (by omega)) i hi).1.mp e; omega
                      have hlet : Txt.item (Str.ofString "abcdefghijklmnopABCDEFGHIJKLMNOP") (ps.getD (i : Int).toNat 0 + 16 * 0) = ⟨#[sgAt ks ps i]⟩ := by rw [hs]; exact letter0 hpp
                      repeat' ((fail_if_success (with_reducible show Hold _)); (first | (k_unfold; (try dsimp only)) | (k_end; wrow_close) | walk1 | (dsimp only; walk1) | (leave1; walk_say "STEP leave1"; try dsimp only) | fail "no step"))
                      · exact show Hold (Flow.next = Flow.next ∧ _) from ⟨rfl, dturn (by assumption) (by assumption) rfl (by intro y y1 y2; (repeat (refine (if_neg (by assumption)).trans ?_)); rfl) hnI (by assumption) (dinv_out hi hne (by assumption) hlet hD)⟩
                      · exact show Hold (Flow.next = Flow.next ∧ _) from ⟨rfl, dturn (by assumption) (by assumption) rfl (by intro y y1 y2; (repeat (refine (if_neg (by assumption)).trans ?_)); rfl) hnI hc4 (dinv_in hi hne (by assumption) hD)⟩
                    · have hv : Known (ks.getD (i : Int).toNat 0) 1 := hki
                      have hs := sg_of (ps := ps) hki
                      have hne : sgAt ks ps i ≠ 34 := by intro e; have := (par_sg ks ps hG.2.2 (fun j hj => get_b hkb j (by omega)) i hi).1.mp e; omega
                      have hlet : Txt.item (Str.ofString "abcdefghijklmnopABCDEFGHIJKLMNOP") (ps.getD (i : Int).toNat 0 + 16 * 1) = ⟨#[sgAt ks ps i]⟩ := by rw [hs]; exact letter1 hpp
                      repeat' ((fail_if_success (with_reducible show Hold _)); (first | (k_unfold; (try dsimp only)) | (k_end; wrow_close) | walk1 | (dsimp only; walk1) | (leave1; walk_say "STEP leave1"; try dsimp only) | fail "no step"))
                      · exact show Hold (Flow.next = Flow.next ∧ _) from ⟨rfl, dturn (by assumption) (by assumption) rfl (by intro y y1 y2; (repeat (refine (if_neg (by assumption)).trans ?_)); rfl) hnI (by assumption) (dinv_out hi hne (by assumption) hlet hD)⟩
                      · exact show Hold (Flow.next = Flow.next ∧ _) from ⟨rfl, dturn (by assumption) (by assumption) rfl (by intro y y1 y2; (repeat (refine (if_neg (by assumption)).trans ?_)); rfl) hnI hc4 (dinv_in hi hne (by assumption) hD)⟩
                    · skip
                      have hv : Known (ks.getD (i : Int).toNat 0) 2 := hki
                      repeat' ((fail_if_success (with_reducible show Hold _)); (first | (k_unfold; (try dsimp only)) | (k_end; wrow_close) | walk1 | (dsimp only; walk1) | (leave1; walk_say "STEP leave1"; try dsimp only) | fail "no step"))
                      exact show Hold (Flow.next = Flow.next ∧ _) from ⟨rfl, dturn (by assumption) (by assumption) rfl (by intro y y1 y2; (repeat (refine (if_neg (by assumption)).trans ?_)); rfl) hnI hc4 (dinv_gate hi (sg_of hki) hD)⟩
                  · rintro m₁ news₁ h10 tk0 tk10 ⟨u0, p, tp, d, td, c4, rfl, rfl, hc4, hD⟩ htk F10 N10
                    exact wpAny_pure ⟨rfl, fun _ kR => kR _ d td c4 _ _ rfl F10 N10 hc4 (dinv_end hD) hD.2.2.2.2⟩
              · intro s' hPr; refine hPr _ ?_; clear hPr Pq; rintro M du td c4 h8 tk8 rfl F8 N8 hc4 hdu hdl
                clear F7 N7
                dsimp only [List.drop]
                have N8' : News s₁.heap s₁.heap.objs.size h8 ((DS, listOf #[.int x0 t0, .int x1 t1, .int x2 t2, .int x3 t3, .int x4 t4, .int x5 t5, .int x6 t6, .int x7 t7] n) :: cellL s₁.heap.objs.size o8 o7 o6 o5 c4 c3 c2 c1) := news_drop N8 (fun p hp => List.Mem.tail _ (List.Mem.tail _ hp))
                clear N8
                dsimp only [cellL] at N8'
                have hksb : ∀ i, i < 8 → 0 ≤ ks.getD i 0 ∧ ks.getD i 0 < 3 := fun i hi => get_b hkb i (by omega)
                have hd1 : 1 ≤ du.length := due_pos hG.2.2 hksb hk0 hdu
                have hrgd : LL rg = LL du := by rw [hrg, hdu, run_eq]; rfl
                have hbkd : LL bk = back1 (LL du) := by rw [hbk, hdu]; exact back_due hG.2.2 hksb hk8 hke hk0
                let Pq : Shared → Prop := fun s' => ∀ R : Prop, (∀ (tz : Tok) (c5 : Obj) (h' : Heap) (tk' : Nat), s' = { s₁ with heap := h', toks := tk', gens := gensB } → Fr s₁.heap s₁.heap.objs.size h' M → News s₁.heap s₁.heap.objs.size h' ((DS, listOf #[.int x0 t0, .int x1 t1, .int x2 t2, .int x3 t3, .int x4 t4, .int x5 t5, .int x6 t6, .int x7 t7] n) :: cellL s₁.heap.objs.size o8 o7 o6 c5 c4 c3 c2 c1) → c5.data = .cell (some (.int du.length tz)) → R) → R
                refine cutE 1 Pq ?_ ?_
                · dsimp only [List.take]
                  repeat' ((fail_if_success (with_reducible show Hold _)); (first | (k_unfold; (try dsimp only)) | (k_end; wrow_close) | walk1 | (dsimp only; walk1) | (leave1; walk_say "STEP leave1"; try dsimp only) | fail "no step"))
                  exact ⟨rfl, fun _ kR => kR _ _ _ _ rfl (by assumption) (by assumption) (by assumption)⟩
                · intro s' hPr; refine hPr _ ?_; clear hPr Pq; rintro tz c5 h9 tk9 rfl F9 N9 hc5
                  clear F8 N8'
                  dsimp only [List.drop]
                  dsimp only [cellL] at N9
                  let Pq : Shared → Prop := fun s' => ∀ R : Prop, (∀ (h' : Heap) (tk' : Nat), s' = { s₁ with heap := h', toks := tk', gens := gensB } → Fr s₁.heap s₁.heap.objs.size h' M → News s₁.heap s₁.heap.objs.size h' ((DS, listOf #[.int x0 t0, .int x1 t1, .int x2 t2, .int x3 t3, .int x4 t4, .int x5 t5, .int x6 t6, .int x7 t7] n) :: cellL s₁.heap.objs.size o8 o7 o6 c5 c4 c3 c2 c1) → R) → R
                  refine cutE 1 Pq ?_ ?_
                  · skip
                    dsimp only [List.take]
                    have hrd : rg = du := str_ext hrgd
                    repeat' ((fail_if_success (with_reducible show Hold _)); (fail_if_success (with_reducible show wpAny _ _ (eval (Expr.ListComp _ _ _ _) _) _ _ _)); (fail_if_success (with_reducible show wpAny _ _ (exec (Stmt.Assign _ (Expr.ListComp _ _ _ _) _) _) _ _ _)); (first | (k_unfold; (try dsimp only)) | (k_end; wrow_close) | walk1 | (dsimp only; walk1) | (leave1; walk_say "STEP leave1"; try dsimp only) | fail "no step"))
                    k_dflt (refine LCg.ListComp_U (F₀ := by k_asm) (by with_unfolding_all rfl) (by decide) (by rfl) (by decide) (by rfl) ?_)
                    repeat' ((fail_if_success (with_reducible show Hold _)); (fail_if_success (with_reducible show LCg.CompSrc _ _ _ _ _ _ _ _ _ _ _ _ _ _)); (first | (k_unfold; (try dsimp only)) | (k_end; wrow_close) | walk1 | (dsimp only; walk1) | (leave1; walk_say "STEP leave1"; try dsimp only) | fail "no step"))
                    k_dflt (refine LCg.CompSrc.range (n := du.length) (by rfl) (by k_asm) (by k_asm) (by assumption) (small0 (by omega)) (size0 (by omega)) (Nat.le_trans (show du.length ≤ 8 by omega) (Nat.le_of_ble_eq_true rfl)) ?_)
                    intro g1
                    refine comp_rest (fun i y => ∃ t, y = .str ⟨#[(LL du).getD ((du.length - i) % du.length) 0]⟩ t) ?_ ?_
                    · rintro i v I oI C oC D m2 ys h10 tk10 E2 hi ⟨tv, rfl⟩ hC hx F10 N10 off4 ne4
                      repeat' ((fail_if_success (with_reducible show Hold _)); (fail_if_success (with_reducible show LCg.CompEnd _ _ _ _ _ _ _ _ _ _ _ _ _ _)); (first | (k_unfold; (try dsimp only)) | (k_end; wrow_close) | walk1 | (dsimp only; walk1) | (leave1; walk_say "STEP leave1"; try dsimp only) | fail "no step"))
                      exact LCg.CompEnd.intro F10 N10 _ (fun p hp => hp) off4 trivial ⟨rfl, _, by rw [turn_idx hi]⟩
                    · intro ys hly hys
                      have hst : StrsAre ys ((List.range du.length).map fun i => (⟨#[(LL du).getD ((du.length - i) % du.length) 0]⟩ : Str)) := strs_of hly hys
                      clear hly hys
                      intro D10 h10 tk10 F10 N10 off10
                      (try dsimp only)
                      (try simp only [LCg.Off1] at off10)
                      repeat' ((fail_if_success (with_reducible show Hold _)); (fail_if_success (with_reducible show wpAny _ _ (call (Value.builtin "str.join") _) _ _ _)); (first | (k_unfold; (try dsimp only)) | (k_end; wrow_close) | walk1 | (dsimp only; walk1) | (leave1; walk_say "STEP leave1"; try dsimp only) | fail "no step"))
                      show wpAny _ _ (call (Value.builtin "str.join") [Value.str (Str.ofString "") _, Value.ref D10]) _ _ _
                      refine join_listW (ys := (List.range du.length).map fun i => (⟨#[(LL du).getD ((du.length - i) % du.length) 0]⟩ : Str)) (⟨_, (N10 _ (.head _)).1, rfl, _, rfl⟩ : Heap.IsList _ D10 ys.toArray) (by simpa using hst) (by decide) (weigh_n (by omega)) ?_
                      intro t' k'
                      (try dsimp only)
                      have hbj : bk = Txt.join (Str.ofString "") ((List.range du.length).map fun i => (⟨#[(LL du).getD ((du.length - i) % du.length) 0]⟩ : Str)) := str_ext (by rw [LL_signs, hbkd, back1_list]; rfl)
                      repeat' ((fail_if_success (with_reducible show Hold _)); (first | (k_unfold; (try dsimp only)) | (k_end; wrow_close) | walk1 | (dsimp only; walk1) | (leave1; walk_say "STEP leave1"; try dsimp only) | fail "no step"))
                      rename Fr _ _ _ _ => FE
                      rename News _ _ _ _ => NE
                      exact ⟨rfl, fun _ kR => kR _ _ rfl FE (news_drop NE (fun p hp => List.Mem.tail _ hp))⟩
                  · intro s' hPr; refine hPr _ ?_; clear hPr Pq; rintro h10 tk10 rfl F10 N10
                    clear F9 N9
                    dsimp only [List.drop]
                    dsimp only [cellL] at N10
                    let Pq : Shared → Prop := fun s' => ∀ R : Prop, (∀ (sp a o b : Int) (ts ta to tb : Tok) (c6 c7 c8 : Obj) (h' : Heap) (tk' : Nat), s' = { s₁ with heap := h', toks := tk', gens := gensB } → Fr s₁.heap s₁.heap.objs.size h' (fun y => if y = Str.ofString "steps" then some (.int sp ts) else M y) → News s₁.heap s₁.heap.objs.size h' (cellL s₁.heap.objs.size c8 c7 c6 c5 c4 c3 c2 c1) → (5 ≤ sp ∧ sp < 10) → (0 ≤ a ∧ a < du.length) → (0 ≤ o ∧ o < du.length) → (0 ≤ b ∧ b < du.length) → c6.data = .cell (some (.int a ta)) → c7.data = .cell (some (.int o to)) → c8.data = .cell (some (.int b tb)) → R) → R
                    refine cutE 4 Pq ?_ ?_
                    · skip
                      dsimp only [List.take]
                      repeat' ((fail_if_success (with_reducible show Hold _)); (first | (k_unfold; (try dsimp only)) | (k_end; wrow_close) | walk1 | (dsimp only; walk1) | (leave1; walk_say "STEP leave1"; try dsimp only) | fail "no step"))
                      rename Fr _ _ _ _ => FE
                      rename News _ _ _ _ => NE
                      exact ⟨rfl, fun _ kR => kR _ _ _ _ _ _ _ _ _ _ _ _ _ rfl FE (news_drop NE (fun p hp => List.Mem.tail _ hp)) (five_b _) (fmod_b hd1 _) (fmod_b hd1 _) (fmod_b hd1 _) (by assumption) (by assumption) (by assumption)⟩
                    · intro s' hPr; refine hPr _ ?_; clear hPr Pq; rintro sp a o b ts ta to tb0 c6 c7 c8 h11 tk11 rfl F11 N11 hsp ha ho hb hc6 hc7 hc8
                      clear F10 N10
                      dsimp only [List.drop]
                      dsimp only [cellL] at N11
                      have hrd : rg = du := str_ext hrgd
                      have hrl : du.length = rg.length := by rw [hrd]
                      have hbl : du.length = bk.length := by have e := back1_length (LL du); rw [← hbkd] at e; exact e.symm
                      obtain ⟨sn, rfl⟩ := Int.eq_ofNat_of_zero_le (show 0 ≤ sp by omega)
                      let Pq : Shared → Prop := fun s' => ∀ R : Prop, (∀ (di : Str) (td1 : Tok) (h' : Heap) (tk' : Nat), s' = { s₁ with heap := h', toks := tk', gens := gensB } → Fr s₁.heap s₁.heap.objs.size h' (fun y => if y = Str.ofString "diary" then some (.str di td1) else if y = Str.ofString "steps" then some (.int (sn : Int) ts) else M y) → News s₁.heap s₁.heap.objs.size h' (cellL s₁.heap.objs.size c8 c7 c6 c5 c4 c3 c2 c1) → LL di = ((List.range sn).map fun i => stepL (LL rg) a du.length i) → R) → R
                      refine cutE 1 Pq ?_ ?_
                      · skip
                        dsimp only [List.take]
                        repeat' ((fail_if_success (with_reducible show Hold _)); (fail_if_success (with_reducible show wpAny _ _ (eval (Expr.ListComp _ _ _ _) _) _ _ _)); (fail_if_success (with_reducible show wpAny _ _ (exec (Stmt.Assign _ (Expr.ListComp _ _ _ _) _) _) _ _ _)); (first | (k_unfold; (try dsimp only)) | (k_end; wrow_close) | walk1 | (dsimp only; walk1) | (leave1; walk_say "STEP leave1"; try dsimp only) | fail "no step"))
                        k_dflt (refine LCg.ListComp_U (F₀ := by k_asm) (by with_unfolding_all rfl) (by decide) (by rfl) (by decide) (by rfl) ?_)
                        repeat' ((fail_if_success (with_reducible show Hold _)); (fail_if_success (with_reducible show LCg.CompSrc _ _ _ _ _ _ _ _ _ _ _ _ _ _)); (first | (k_unfold; (try dsimp only)) | (k_end; wrow_close) | walk1 | (dsimp only; walk1) | (leave1; walk_say "STEP leave1"; try dsimp only) | fail "no step"))
                        k_dflt (refine LCg.CompSrc.range (n := sn) (by rfl) (by k_asm) (by k_asm) (by assumption) (small0 (by omega)) (size0 (by omega)) (Nat.le_trans (show sn ≤ 9 by omega) (Nat.le_of_ble_eq_true rfl)) ?_)
                        intro g1
                        refine comp_rest (fun i y => ∃ t, y = .str ⟨#[stepL (LL rg) a du.length i]⟩ t) ?_ ?_
                        · rintro i v I oI C oC D m2 ys h12 tk12 E2 hi ⟨tv, rfl⟩ hC hx F12 N12 off4 ne4
                          repeat' ((fail_if_success (with_reducible show Hold _)); (fail_if_success (with_reducible show LCg.CompEnd _ _ _ _ _ _ _ _ _ _ _ _ _ _)); (first | (k_unfold; (try dsimp only)) | (k_end; wrow_close) | walk1 | (dsimp only; walk1) | (leave1; walk_say "STEP leave1"; try dsimp only) | fail "no step"))
                          exact LCg.CompEnd.intro F12 N12 _ (fun p hp => hp) off4 trivial ⟨rfl, _, rfl⟩
                        · intro ys hly hys
                          have hst : StrsAre ys ((List.range sn).map fun i => (⟨#[stepL (LL rg) a du.length i]⟩ : Str)) := strs_of hly hys
                          clear hly hys
                          intro D12 h12 tk12 F12 N12 off12
                          (try dsimp only)
                          (try simp only [LCg.Off1] at off12)
                          repeat' ((fail_if_success (with_reducible show Hold _)); (fail_if_success (with_reducible show wpAny _ _ (call (Value.builtin "str.join") _) _ _ _)); (first | (k_unfold; (try dsimp only)) | (k_end; wrow_close) | walk1 | (dsimp only; walk1) | (leave1; walk_say "STEP leave1"; try dsimp only) | fail "no step"))
                          show wpAny _ _ (call (Value.builtin "str.join") [Value.str (Str.ofString "") _, Value.ref D12]) _ _ _
                          refine join_listW (ys := (List.range sn).map fun i => (⟨#[stepL (LL rg) a du.length i]⟩ : Str)) (⟨_, (N12 _ (.head _)).1, rfl, _, rfl⟩ : Heap.IsList _ D12 ys.toArray) (by simpa using hst) (by decide) (weigh_n (by omega)) ?_
                          intro t' k'
                          (try dsimp only)
                          repeat' ((fail_if_success (with_reducible show Hold _)); (first | (k_unfold; (try dsimp only)) | (k_end; wrow_close) | walk1 | (dsimp only; walk1) | (leave1; walk_say "STEP leave1"; try dsimp only) | fail "no step"))
                          rename Fr _ _ _ _ => FE
                          rename News _ _ _ _ => NE
                          exact ⟨rfl, fun _ kR => kR _ _ _ _ rfl FE (news_drop NE (fun p hp => List.Mem.tail _ hp)) LL_signs⟩
                      · intro s' hPr; refine hPr _ ?_; clear hPr Pq; rintro di td1 h12 tk12 rfl F12 N12 hdi
                        clear F11 N11
                        dsimp only [List.drop]
                        dsimp only [cellL] at N12
                        let Pq : Shared → Prop := fun s' => ∀ R : Prop, (∀ (ag : Str) (td2 : Tok) (h' : Heap) (tk' : Nat), s' = { s₁ with heap := h', toks := tk', gens := gensB } → Fr s₁.heap s₁.heap.objs.size h' (fun y => if y = Str.ofString "against" then some (.str ag td2) else if y = Str.ofString "diary" then some (.str di td1) else if y = Str.ofString "steps" then some (.int (sn : Int) ts) else M y) → News s₁.heap s₁.heap.objs.size h' (cellL s₁.heap.objs.size c8 c7 c6 c5 c4 c3 c2 c1) → LL ag = ((List.range sn).map fun i => stepL (LL bk) o du.length i) → R) → R
                        refine cutE 1 Pq ?_ ?_
                        · skip
                          dsimp only [List.take]
                          repeat' ((fail_if_success (with_reducible show Hold _)); (fail_if_success (with_reducible show wpAny _ _ (eval (Expr.ListComp _ _ _ _) _) _ _ _)); (fail_if_success (with_reducible show wpAny _ _ (exec (Stmt.Assign _ (Expr.ListComp _ _ _ _) _) _) _ _ _)); (first | (k_unfold; (try dsimp only)) | (k_end; wrow_close) | walk1 | (dsimp only; walk1) | (leave1; walk_say "STEP leave1"; try dsimp only) | fail "no step"))
                          k_dflt (refine LCg.ListComp_U (F₀ := by k_asm) (by with_unfolding_all rfl) (by decide) (by rfl) (by decide) (by rfl) ?_)
                          repeat' ((fail_if_success (with_reducible show Hold _)); (fail_if_success (with_reducible show LCg.CompSrc _ _ _ _ _ _ _ _ _ _ _ _ _ _)); (first | (k_unfold; (try dsimp only)) | (k_end; wrow_close) | walk1 | (dsimp only; walk1) | (leave1; walk_say "STEP leave1"; try dsimp only) | fail "no step"))
                          k_dflt (refine LCg.CompSrc.range (n := sn) (by rfl) (by k_asm) (by k_asm) (by assumption) (small0 (by omega)) (size0 (by omega)) (Nat.le_trans (show sn ≤ 9 by omega) (Nat.le_of_ble_eq_true rfl)) ?_)
                          intro g1
                          refine comp_rest (fun i y => ∃ t, y = .str ⟨#[stepL (LL bk) o du.length i]⟩ t) ?_ ?_
                          · rintro i v I oI C oC D m2 ys h12 tk12 E2 hi ⟨tv, rfl⟩ hC hx F12 N12 off4 ne4
                            repeat' ((fail_if_success (with_reducible show Hold _)); (fail_if_success (with_reducible show LCg.CompEnd _ _ _ _ _ _ _ _ _ _ _ _ _ _)); (first | (k_unfold; (try dsimp only)) | (k_end; wrow_close) | walk1 | (dsimp only; walk1) | (leave1; walk_say "STEP leave1"; try dsimp only) | fail "no step"))
                            exact LCg.CompEnd.intro F12 N12 _ (fun p hp => hp) off4 trivial ⟨rfl, _, rfl⟩
                          · intro ys hly hys
                            have hst : StrsAre ys ((List.range sn).map fun i => (⟨#[stepL (LL bk) o du.length i]⟩ : Str)) := strs_of hly hys
                            clear hly hys
                            intro D12 h12 tk12 F12 N12 off12
                            (try dsimp only)
                            (try simp only [LCg.Off1] at off12)
                            repeat' ((fail_if_success (with_reducible show Hold _)); (fail_if_success (with_reducible show wpAny _ _ (call (Value.builtin "str.join") _) _ _ _)); (first | (k_unfold; (try dsimp only)) | (k_end; wrow_close) | walk1 | (dsimp only; walk1) | (leave1; walk_say "STEP leave1"; try dsimp only) | fail "no step"))
                            show wpAny _ _ (call (Value.builtin "str.join") [Value.str (Str.ofString "") _, Value.ref D12]) _ _ _
                            refine join_listW (ys := (List.range sn).map fun i => (⟨#[stepL (LL bk) o du.length i]⟩ : Str)) (⟨_, (N12 _ (.head _)).1, rfl, _, rfl⟩ : Heap.IsList _ D12 ys.toArray) (by simpa using hst) (by decide) (weigh_n (by omega)) ?_
                            intro t' k'
                            (try dsimp only)
                            repeat' ((fail_if_success (with_reducible show Hold _)); (first | (k_unfold; (try dsimp only)) | (k_end; wrow_close) | walk1 | (dsimp only; walk1) | (leave1; walk_say "STEP leave1"; try dsimp only) | fail "no step"))
                            rename Fr _ _ _ _ => FE
                            rename News _ _ _ _ => NE
                            exact ⟨rfl, fun _ kR => kR _ _ _ _ rfl FE (news_drop NE (fun p hp => List.Mem.tail _ hp)) LL_signs⟩
                        · intro s' hPr; refine hPr _ ?_; clear hPr Pq; rintro ag td2 h13 tk13 rfl F13 N13 hag
                          clear F12 N12
                          dsimp only [List.drop]
                          dsimp only [cellL] at N13
                          let Pq : Shared → Prop := fun s' => ∀ R : Prop, (∀ (al : Str) (td3 : Tok) (h' : Heap) (tk' : Nat), s' = { s₁ with heap := h', toks := tk', gens := gensB } → Fr s₁.heap s₁.heap.objs.size h' (fun y => if y = Str.ofString "along" then some (.str al td3) else if y = Str.ofString "against" then some (.str ag td2) else if y = Str.ofString "diary" then some (.str di td1) else if y = Str.ofString "steps" then some (.int (sn : Int) ts) else M y) → News s₁.heap s₁.heap.objs.size h' (cellL s₁.heap.objs.size c8 c7 c6 c5 c4 c3 c2 c1) → LL al = ((List.range sn).map fun i => stepL (LL rg) b du.length i) → R) → R
                          refine cutE 1 Pq ?_ ?_
                          · skip
                            dsimp only [List.take]
                            repeat' ((fail_if_success (with_reducible show Hold _)); (fail_if_success (with_reducible show wpAny _ _ (eval (Expr.ListComp _ _ _ _) _) _ _ _)); (fail_if_success (with_reducible show wpAny _ _ (exec (Stmt.Assign _ (Expr.ListComp _ _ _ _) _) _) _ _ _)); (first | (k_unfold; (try dsimp only)) | (k_end; wrow_close) | walk1 | (dsimp only; walk1) | (leave1; walk_say "STEP leave1"; try dsimp only) | fail "no step"))
                            k_dflt (refine LCg.ListComp_U (F₀ := by k_asm) (by with_unfolding_all rfl) (by decide) (by rfl) (by decide) (by rfl) ?_)
                            repeat' ((fail_if_success (with_reducible show Hold _)); (fail_if_success (with_reducible show LCg.CompSrc _ _ _ _ _ _ _ _ _ _ _ _ _ _)); (first | (k_unfold; (try dsimp only)) | (k_end; wrow_close) | walk1 | (dsimp only; walk1) | (leave1; walk_say "STEP leave1"; try dsimp only) | fail "no step"))
                            k_dflt (refine LCg.CompSrc.range (n := sn) (by rfl) (by k_asm) (by k_asm) (by assumption) (small0 (by omega)) (size0 (by omega)) (Nat.le_trans (show sn ≤ 9 by omega) (Nat.le_of_ble_eq_true rfl)) ?_)
                            intro g1
                            refine comp_rest (fun i y => ∃ t, y = .str ⟨#[stepL (LL rg) b du.length i]⟩ t) ?_ ?_
                            · rintro i v I oI C oC D m2 ys h12 tk12 E2 hi ⟨tv, rfl⟩ hC hx F12 N12 off4 ne4
                              repeat' ((fail_if_success (with_reducible show Hold _)); (fail_if_success (with_reducible show LCg.CompEnd _ _ _ _ _ _ _ _ _ _ _ _ _ _)); (first | (k_unfold; (try dsimp only)) | (k_end; wrow_close) | walk1 | (dsimp only; walk1) | (leave1; walk_say "STEP leave1"; try dsimp only) | fail "no step"))
                              exact LCg.CompEnd.intro F12 N12 _ (fun p hp => hp) off4 trivial ⟨rfl, _, rfl⟩
                            · intro ys hly hys
                              have hst : StrsAre ys ((List.range sn).map fun i => (⟨#[stepL (LL rg) b du.length i]⟩ : Str)) := strs_of hly hys
                              clear hly hys
                              intro D12 h12 tk12 F12 N12 off12
                              (try dsimp only)
                              (try simp only [LCg.Off1] at off12)
                              repeat' ((fail_if_success (with_reducible show Hold _)); (fail_if_success (with_reducible show wpAny _ _ (call (Value.builtin "str.join") _) _ _ _)); (first | (k_unfold; (try dsimp only)) | (k_end; wrow_close) | walk1 | (dsimp only; walk1) | (leave1; walk_say "STEP leave1"; try dsimp only) | fail "no step"))
                              show wpAny _ _ (call (Value.builtin "str.join") [Value.str (Str.ofString "") _, Value.ref D12]) _ _ _
                              refine join_listW (ys := (List.range sn).map fun i => (⟨#[stepL (LL rg) b du.length i]⟩ : Str)) (⟨_, (N12 _ (.head _)).1, rfl, _, rfl⟩ : Heap.IsList _ D12 ys.toArray) (by simpa using hst) (by decide) (weigh_n (by omega)) ?_
                              intro t' k'
                              (try dsimp only)
                              repeat' ((fail_if_success (with_reducible show Hold _)); (first | (k_unfold; (try dsimp only)) | (k_end; wrow_close) | walk1 | (dsimp only; walk1) | (leave1; walk_say "STEP leave1"; try dsimp only) | fail "no step"))
                              rename Fr _ _ _ _ => FE
                              rename News _ _ _ _ => NE
                              exact ⟨rfl, fun _ kR => kR _ _ _ _ rfl FE (news_drop NE (fun p hp => List.Mem.tail _ hp)) LL_signs⟩
                          · intro s' hPr; refine hPr _ ?_; clear hPr Pq; rintro al td3 h14 tk14 rfl F14 N14 hal
                            clear F13 N13
                            dsimp only [List.drop]
                            dsimp only [cellL] at N14
                            have hAL := due_apart hG hksb
                            rw [← hdu] at hAL
                            rw [hrd] at hdi hal
                            rw [hbkd] at hag
                            repeat' ((fail_if_success (with_reducible show Hold _)); (fail_if_success (with_reducible show wpAny _ _ (call (Value.ref _) _) _ _ _)); (first | (k_unfold; (try dsimp only)) | (k_end; wrow_close) | walk1 | (dsimp only; walk1) | (leave1; walk_say "STEP leave1"; try dsimp only) | fail "no step"))
                            k_dflt (refine' opp_use (size := du.length) (steps := sn) (start := a) (other := (du.length : Int) - o) ?k1 ?k2 ?k3 ?k4 ?k5 ?k6 ?k7 ?k10 ?k11 ?_; (case k1 => k_asm); (case k2 => k_asm); (case k3 => k_asm); (case k4 => k_asm); (case k5 => k_asm); (case k6 => first | exact rfl | assumption); (case k7 => omega); (case k10 => ktr_room); (case k11 => ktr_units); k_whole)
                            intro tq h15 tk15 F15 N15
                            (try dsimp only)
                            repeat' ((fail_if_success (with_reducible show Hold _)); (fail_if_success (with_reducible show wpAny _ _ (call (Value.ref _) _) _ _ _)); (first | (k_unfold; (try dsimp only)) | (k_end; wrow_close) | walk1 | (dsimp only; walk1) | (leave1; walk_say "STEP leave1"; try dsimp only) | fail "no step"))
                            have hld : di.length = sn := by rw [length_of_LL, hdi]; simp
                            have hlg : ag.length = sn := by rw [length_of_LL, hag]; simp
                            have hll : al.length = sn := by rw [length_of_LL, hal]; simp
                            k_dflt (refine' told_use (a := di) (b := ag) ?k1 ?k2 ?k3 ?k4 ?k5 ?k6 ?k7 ?k10 ?k11 ?_; (case k1 => k_asm); (case k2 => k_asm); (case k3 => k_asm); (case k4 => k_asm); (case k5 => k_asm); (case k6 => first | exact rfl | assumption); (case k7 => exact ⟨by omega, by omega⟩); (case k10 => ktr_room); (case k11 => ktr_units); k_whole)
                            intro h16 tk16 F16 N16
                            have hT1 := opp_told (D := LL du) (z := du.length) (sn := sn) hAL.1 hAL.2 rfl hd1 hdl (by omega) ha ho
                            rw [hdi, hag, hT1]
                            (try dsimp only)
                            repeat' ((fail_if_success (with_reducible show Hold _)); (fail_if_success (with_reducible show wpAny _ _ (call (Value.ref _) _) _ _ _)); (first | (k_unfold; (try dsimp only)) | (k_end; wrow_close) | walk1 | (dsimp only; walk1) | (leave1; walk_say "STEP leave1"; try dsimp only) | fail "no step"))
                            repeat' ((fail_if_success (with_reducible show Hold _)); (fail_if_success (with_reducible show wpAny _ _ (call (Value.builtin "min") _) _ _ _)); (first | (k_unfold; (try dsimp only)) | (k_end; wrow_close) | walk1 | (dsimp only; walk1) | (leave1; walk_say "STEP leave1"; try dsimp only) | fail "no step"))
                            rename Fr _ _ _ _ => FE
                            rename News _ _ _ _ => NE
                            refine min3_i rfl FE NE ?_
                            clear FE NE
                            intro h17 tk17 ty F17 N17
                            (try dsimp only)
                            repeat' ((fail_if_success (with_reducible show Hold _)); (fail_if_success (with_reducible show wpAny _ _ (call (Value.ref _) _) _ _ _)); (first | (k_unfold; (try dsimp only)) | (k_end; wrow_close) | walk1 | (dsimp only; walk1) | (leave1; walk_say "STEP leave1"; try dsimp only) | fail "no step"))
                            have hT2 := alg_told (D := LL du) (z := du.length) (sn := sn) hAL.1 hAL.2 rfl hd1 hdl (by omega) ha hb rfl
                            k_dflt (refine' told_use (a := di) (b := al) ?k1 ?k2 ?k3 ?k4 ?k5 ?k6 ?k7 ?k10 ?k11 ?_; (case k1 => k_asm); (case k2 => k_asm); (case k3 => k_asm); (case k4 => k_asm); (case k5 => k_asm); (case k6 => first | exact rfl | assumption); (case k7 => exact ⟨by omega, by omega⟩); (case k10 => ktr_room); (case k11 => ktr_units); k_whole)
                            intro h18 tk18 F18 N18
                            rw [hdi, hal, hT2]
                            (try dsimp only)
                            repeat' ((fail_if_success (with_reducible show Hold _)); (first | (k_unfold; (try dsimp only)) | (k_end; wrow_close) | walk1 | (dsimp only; walk1) | (leave1; walk_say "STEP leave1"; try dsimp only) | fail "no step"))
                            exact end_good F18.keep hb8)
end Mine
end PartLaw

set_option maxRecDepth 100000 in
set_option maxHeartbeats 8000000 in
theorem PySem.Challenge.cw_re0079_01_holds : PySem.Challenge.rw_re0079_01.Holds := by
  exact Mine.X
