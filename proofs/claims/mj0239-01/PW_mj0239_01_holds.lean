import PyProof.Rows.All
import Wide.All
import OpenK.AllK
import Wide.FinOn
import PySem.Challenge.RW_mj0239_01
open PySem PySem.W PyProof.Rows
set_option Elab.async false
set_option maxHeartbeats 1000000
set_option linter.all false
namespace Mine
def view : Program := { PySem.Challenge.pw_mj0239_01 with main := { PySem.Challenge.pw_mj0239_01.main with body := ((PySem.Challenge.pw_mj0239_01.main.body.eraseIdx 13).eraseIdx 7).eraseIdx 1 } }
local macro_rules | `(tactic| o_head $H) => do
  let hw := Lean.mkIdent `hw
  let hc := Lean.mkIdent `hc
  `(tactic| (
    refine PySem.W.holds_open (q := view) (loose := [Str.ofString "_NodeInfo"]) (Xt := fun s => xlAt view [] s && recOk (RowW.records (OpenRow.toRowW (OpenLaw.row PySem.Challenge.rw_mj0239_01))) s) (XP := XL view []) (Yf := Hook.obs $H) (Ya := Hook.val $H) (YP := Hook.says $H) (N := 3042) ?hl (Hook.of $H) (Hook.keeps $H) (fun s e => xl_of s (Bool.and_eq_true_iff.mp e).1) XL.keeps (by rfl) (by rfl) (by rfl) (fun s e => recFacts_of (Bool.and_eq_true_iff.mp e).2) (by rfl) (by first | assumption | decide +kernel) (by decide +kernel) ⟨rfl, rfl, rfl, rfl, rfl, by decide +kernel⟩ ?$hw ?$hc
    · intro w
      unfold openEnds topFrom
      rw [PySem.W.Fast.te14364793385576792824, PySem.W.Fast.te14082659384304107361, PySem.W.Fast.te4187177175401517315]
      kernel_rfl))
local macro_rules | `(tactic| o_law) => `(tactic| refine PySem.W.holds_law (by kernel_rfl) fun said => ?_)
set_option maxRecDepth 100000 in
set_option maxHeartbeats 8000000 in
open_top hd for PySem.Challenge.rw_mj0239_01
end Mine

namespace Mine
/-! a checker of linear arithmetic: terms and statements as data, and a proof as a tree of cases with sums of inequalities at its leaves -/
section
/-- a term, read as a natural number and as an integer; u: 0 minus, 1 cast, 2 toNat, 3 natAbs; b: 0 +, 1 -, 2 *, 3 /, 4 %, 5 min, 6 max -/
inductive Tm where
  | v (i : Nat)
  | k (n : Nat)
  | u (o : Nat) (x : Tm)
  | b (o : Nat) (x y : Tm)
namespace Tm
noncomputable def nth {α : Type} (d : α) : List α → Nat → α
  | [], _ => d
  | x :: l, i => Nat.casesOn i x fun i => nth d l i
noncomputable def un (o : Nat) (x : Nat × Int) : Nat × Int := bif Nat.beq o 0 then (0, -x.2) else bif Nat.beq o 1 then (0, (x.1 : Int)) else bif Nat.beq o 2 then (x.2.toNat, 0) else (x.2.natAbs, 0)
noncomputable def bi (o : Nat) (x y : Nat × Int) : Nat × Int := bif Nat.beq o 0 then (x.1 + y.1, x.2 + y.2) else bif Nat.beq o 1 then (x.1 - y.1, x.2 - y.2) else bif Nat.beq o 2 then (x.1 * y.1, x.2 * y.2) else
  bif Nat.beq o 3 then (x.1 / y.1, x.2 / y.2) else bif Nat.beq o 4 then (x.1 % y.1, x.2 % y.2) else bif Nat.beq o 5 then (min x.1 y.1, min x.2 y.2) else (max x.1 y.1, max x.2 y.2)
noncomputable def den (ns : List Nat) (zs : List Int) : Tm → Nat × Int
  | .v i => (nth 0 ns i, nth 0 zs i)
  | .k n => (n, (n : Int))
  | .u o x => un o (den ns zs x)
  | .b o x y => bi o (den ns zs x) (den ns zs y)
noncomputable def of (b : Bool) (x : Nat × Int) : Int := bif b then (x.1 : Int) else x.2
noncomputable abbrev val (ns : List Nat) (zs : List Int) (b : Bool) (t : Tm) : Int := of b (den ns zs t)
noncomputable def same : Tm → Tm → Bool
  | .v i, y => Tm.casesOn y (fun j => Nat.beq i j) (fun _ => false) (fun _ _ => false) fun _ _ _ => false
  | .k i, y => Tm.casesOn y (fun _ => false) (fun j => Nat.beq i j) (fun _ _ => false) fun _ _ _ => false
  | .u o x, y => Tm.casesOn y (fun _ => false) (fun _ => false) (fun p y => Nat.beq o p && same x y) fun _ _ _ => false
  | .b o x x', y => Tm.casesOn y (fun _ => false) (fun _ => false) (fun _ _ => false) fun p y y' => Nat.beq o p && (same x y && same x' y')
theorem same_eq {x y : Tm} (h : same x y = true) : x = y := by
  induction x generalizing y with
  | v i => cases y with
    | v j => rw [Nat.eq_of_beq_eq_true (show Nat.beq i j = true from h)]
    | _ => cases h
  | k i => cases y with
    | k j => rw [Nat.eq_of_beq_eq_true (show Nat.beq i j = true from h)]
    | _ => cases h
  | u o x ih => cases y with
    | u p y =>
      have h := Bool.and_eq_true_iff.mp (show (Nat.beq o p && same x y) = true from h)
      rw [Nat.eq_of_beq_eq_true h.1, ih h.2]
    | _ => cases h
  | b o x x' ih ih' => cases y with
    | b p y y' =>
      have h := Bool.and_eq_true_iff.mp (show (Nat.beq o p && (same x y && same x' y')) = true from h)
      have h2 := Bool.and_eq_true_iff.mp h.2
      rw [Nat.eq_of_beq_eq_true h.1, ih h2.1, ih' h2.2]
    | _ => cases h
noncomputable def kst (t : Tm) : Option Nat := Tm.casesOn t (fun _ => none) some (fun _ _ => none) fun _ _ _ => none
theorem kst_eq {t : Tm} {n : Nat} (h : kst t = some n) : t = .k n := by
  cases t with
  | k m => cases h; rfl
  | _ => cases h
noncomputable def kneg (t : Tm) : Option Nat := Tm.casesOn t (fun _ => none) (fun _ => none) (fun o x => bif Nat.beq o 0 then kst x else none) fun _ _ _ => none
theorem kneg_eq {t : Tm} {n : Nat} (h : kneg t = some n) : t = .u 0 (.k n) := by
  cases t with
  | u o x =>
    cases ho : Nat.beq o 0 with
    | true => rw [Nat.eq_of_beq_eq_true ho] at h ⊢; rw [kst_eq (t := x) h]
    | false => rw [show kneg (.u o x) = bif Nat.beq o 0 then kst x else none from rfl, ho] at h; cases h
  | _ => cases h
end Tm
/-- a sum: coefficients before terms (true: the term as a natural number); the number 1 is the term k 1 -/
abbrev Ls := List (Int × Bool × Tm)
theorem bif_t {α : Type} {b : Bool} {x y : α} (h : b = true) : (bif b then x else y) = x := by rw [h]; rfl
theorem bif_f {α : Type} {b : Bool} {x y : α} (h : b = false) : (bif b then x else y) = y := by rw [h]; rfl
theorem bif_of {α : Type} {b : Bool} {x y : α} {P : α → Prop} (h : b = true → P x) (k : P y) : P (bif b then x else y) := by
  cases b
  · exact k
  · exact h rfl
theorem opt_of {α β : Type} {o : Option α} {f : α → β} {y : β} {P : β → Prop} (h : ∀ a, o = some a → P (f a)) (k : P y) : P (Option.casesOn o y f) := by
  cases o
  · exact k
  · exact h _ rfl
namespace Ls
section
variable (ns : List Nat) (zs : List Int)
noncomputable def ev : Ls → Int
  | [] => 0
  | e :: l => e.1 * Tm.val ns zs e.2.1 e.2.2 + ev l
theorem ev_append (l m : Ls) : ev ns zs (l ++ m) = ev ns zs l + ev ns zs m := by
  induction l with
  | nil => exact (Int.zero_add _).symm
  | cons e l ih => show _ + ev ns zs (l ++ m) = _ + _ + _; rw [ih, Int.add_assoc]
theorem ev_one (c : Int) (b : Bool) (t : Tm) : ev ns zs [(c, b, t)] = c * Tm.val ns zs b t := Int.add_zero _
noncomputable def one : Tm := .k 1
noncomputable def lin : Tm → Bool → Int → Ls
  | .v i, b, c => [(c, b, .v i)]
  | .k n, _, c => [(c * n, true, one)]
  | .u o x, b, c => bif Nat.beq o 0 && !b then lin x false (-c) else bif Nat.beq o 1 && !b then lin x true c else [(c, b, .u o x)]
  | .b o x y, b, c => bif Nat.beq o 0 then lin x b c ++ lin y b c else bif Nat.beq o 1 && !b then lin x false c ++ lin y false (-c) else
    bif Nat.beq o 2 then Option.casesOn (Tm.kst x) (Option.casesOn (Tm.kst y) (Option.casesOn (Tm.kneg y) [(c, b, .b o x y)] fun n => bif b then [(c, b, .b o x y)] else lin x false (c * -n)) fun n => lin x b (c * n)) fun n => lin y b (c * n) else [(c, b, .b o x y)]
theorem ev_lin (b : Bool) (c : Int) (t : Tm) : ev ns zs (lin t b c) = c * Tm.val ns zs b t := by
  induction t generalizing b c with
  | v i => exact ev_one ..
  | k n =>
    refine (ev_one ..).trans ?_
    cases b <;> exact Int.mul_one _
  | u o x ih =>
    refine bif_of (P := fun l => ev ns zs l = _) (fun h => ?_) (bif_of (P := fun l => ev ns zs l = _) (fun h => ?_) (ev_one ..))
    · have h := Bool.and_eq_true_iff.mp h
      cases b
      · rw [Nat.eq_of_beq_eq_true h.1, ih]; exact (Int.neg_mul _ _).trans (Int.mul_neg _ _).symm
      · cases h.2
    · have h := Bool.and_eq_true_iff.mp h
      cases b
      · rw [Nat.eq_of_beq_eq_true h.1, ih]; rfl
      · cases h.2
  | b o x y ihx ihy =>
    refine bif_of (P := fun l => ev ns zs l = _) (fun h => ?_) (bif_of (P := fun l => ev ns zs l = _) (fun h => ?_) (bif_of (P := fun l => ev ns zs l = _) (fun h => ?_) (ev_one ..)))
    · rw [Nat.eq_of_beq_eq_true h, ev_append, ihx, ihy, ← Int.mul_add]
      cases b <;> rfl
    · have h := Bool.and_eq_true_iff.mp h
      cases b
      · rw [Nat.eq_of_beq_eq_true h.1, ev_append, ihx, ihy, Int.neg_mul, ← Int.sub_eq_add_neg, ← Int.mul_sub]; rfl
      · cases h.2
    · rw [Nat.eq_of_beq_eq_true h]
      refine opt_of (P := fun l => ev ns zs l = _) (fun n hn => ?_) (opt_of (P := fun l => ev ns zs l = _) (fun n hn => ?_) (opt_of (P := fun l => ev ns zs l = _) (fun n hn => ?_) (ev_one ..)))
      · rw [Tm.kst_eq hn, ihy, Int.mul_assoc]; cases b <;> rfl
      · rw [Tm.kst_eq hn, ihx, Int.mul_assoc, Int.mul_comm (n : Int)]; cases b <;> rfl
      · cases b
        · show ev ns zs (lin x false (c * -n)) = _
          rw [Tm.kneg_eq hn, ihx, Int.mul_assoc, Int.mul_comm (-n : Int)]; rfl
        · exact ev_one ..
/-- all of one term out of a sum -/
noncomputable def pull (b : Bool) (t : Tm) : Ls → Int × Ls
  | [] => (0, [])
  | e :: l => bif (b == e.2.1) && Tm.same t e.2.2 then (e.1 + (pull b t l).1, (pull b t l).2) else ((pull b t l).1, e :: (pull b t l).2)
theorem ev_pull (b : Bool) (t : Tm) (l : Ls) : (pull b t l).1 * Tm.val ns zs b t + ev ns zs (pull b t l).2 = ev ns zs l := by
  induction l with
  | nil => exact (Int.add_zero _).trans (Int.zero_mul _)
  | cons e l ih =>
    refine bif_of (P := fun p : Int × Ls => p.1 * Tm.val ns zs b t + ev ns zs p.2 = ev ns zs (e :: l)) (fun h => ?_) ?_
    · have h := Bool.and_eq_true_iff.mp h
      show (e.1 + (pull b t l).1) * _ + ev ns zs (pull b t l).2 = e.1 * Tm.val ns zs e.2.1 e.2.2 + ev ns zs l
      rw [Int.add_mul, Int.add_assoc, ih, eq_of_beq h.1, Tm.same_eq h.2]
    · show (pull b t l).1 * _ + (e.1 * _ + ev ns zs (pull b t l).2) = e.1 * _ + ev ns zs l
      rw [← ih, Int.add_left_comm]
noncomputable def norm : Nat → Ls → Int × Ls
  | 0, l => (0, l)
  | n + 1, l => List.casesOn l (0, []) fun e l => bif e.2.1 && Tm.same e.2.2 one then (e.1 + (norm n l).1, (norm n l).2) else
    bif decide (e.1 + (pull e.2.1 e.2.2 l).1 = 0) then norm n (pull e.2.1 e.2.2 l).2 else ((norm n (pull e.2.1 e.2.2 l).2).1, (e.1 + (pull e.2.1 e.2.2 l).1, e.2.1, e.2.2) :: (norm n (pull e.2.1 e.2.2 l).2).2)
theorem ev_norm (n : Nat) (l : Ls) : (norm n l).1 + ev ns zs (norm n l).2 = ev ns zs l := by
  induction n generalizing l with
  | zero => exact Int.zero_add _
  | succ n ih =>
    cases l with
    | nil => rfl
    | cons e l =>
      have h2 := ev_pull ns zs e.2.1 e.2.2 l
      refine bif_of (P := fun p : Int × Ls => p.1 + ev ns zs p.2 = ev ns zs (e :: l)) (fun h => ?_) (bif_of (P := fun p : Int × Ls => p.1 + ev ns zs p.2 = ev ns zs (e :: l)) (fun h => ?_) ?_)
      · have h := Bool.and_eq_true_iff.mp h
        show e.1 + (norm n l).1 + ev ns zs (norm n l).2 = e.1 * Tm.val ns zs e.2.1 e.2.2 + ev ns zs l
        rw [h.1, Tm.same_eq h.2, Int.add_assoc, ih]
        show _ = e.1 * 1 + _
        rw [Int.mul_one]
      · show (norm n (pull e.2.1 e.2.2 l).2).1 + ev ns zs (norm n (pull e.2.1 e.2.2 l).2).2 = e.1 * _ + ev ns zs l
        rw [ih, ← h2, ← Int.add_assoc, ← Int.add_mul, of_decide_eq_true h, Int.zero_mul, Int.zero_add]
      · show (norm n (pull e.2.1 e.2.2 l).2).1 + ((e.1 + (pull e.2.1 e.2.2 l).1) * _ + ev ns zs (norm n (pull e.2.1 e.2.2 l).2).2) = e.1 * _ + ev ns zs l
        rw [Int.add_left_comm, ih, ← h2, Int.add_mul, Int.add_assoc]
noncomputable def scale (n : Nat) : Ls → Ls
  | [] => []
  | e :: l => (n * e.1, e.2) :: scale n l
theorem ev_scale (n : Nat) (l : Ls) : ev ns zs (scale n l) = n * ev ns zs l := by
  induction l with
  | nil => exact (Int.mul_zero _).symm
  | cons e l ih => show n * e.1 * _ + ev ns zs (scale n l) = n * (e.1 * _ + ev ns zs l); rw [ih, Int.mul_add, Int.mul_assoc]
/-- all of a list are so -/
noncomputable def Ok (l : List Ls) : Prop := ∀ f ∈ l, 0 ≤ ev ns zs f
variable {ns zs} in
theorem Ok.tail {f : Ls} {l : List Ls} (h : Ok ns zs (f :: l)) : Ok ns zs l := fun g hg => h g (.tail _ hg)
variable {ns zs} in
theorem Ok.cons {f : Ls} {l : List Ls} (h : 0 ≤ ev ns zs f) (h2 : Ok ns zs l) : Ok ns zs (f :: l) := fun _ hg => (List.mem_cons.mp hg).elim (fun e => e ▸ h) (h2 _)
theorem Ok.nil : Ok ns zs [] := fun _ hg => nomatch hg
variable {ns zs} in
theorem Ok.app {l m : List Ls} (h : Ok ns zs l) (h2 : Ok ns zs m) : Ok ns zs (l ++ m) := fun f hf => (List.mem_append.mp hf).elim (h f) (h2 f)
noncomputable def comb : List Nat → List Ls → Ls
  | [], _ => []
  | k :: ks, l => List.casesOn l [] fun f l => bif Nat.beq k 0 then comb ks l else scale k f ++ comb ks l
theorem ev_comb (ks : List Nat) (l : List Ls) (h : Ok ns zs l) : 0 ≤ ev ns zs (comb ks l) := by
  induction ks generalizing l with
  | nil => exact Int.le_refl _
  | cons k ks ih =>
    cases l with
    | nil => exact Int.le_refl _
    | cons f l =>
      refine bif_of (P := fun l => 0 ≤ ev ns zs l) (fun _ => ih l h.tail) ?_
      rw [ev_append, ev_scale]
      exact Int.add_nonneg (Int.mul_nonneg (Int.natCast_nonneg _) (h f (.head _))) (ih l h.tail)
/-- a sum of inequalities that cannot be -/
noncomputable def out (ks : List Nat) (l : List Ls) : Bool := (norm 100 (comb ks l)).2.isEmpty && decide ((norm 100 (comb ks l)).1 < 0)
theorem out_ok {ks : List Nat} {l : List Ls} (h : Ok ns zs l) (q : out ks l = true) : False := by
  have h1 := ev_comb ns zs ks l h
  have q := Bool.and_eq_true_iff.mp q
  rw [← ev_norm ns zs 100, List.isEmpty_iff.mp q.1] at h1
  exact absurd (of_decide_eq_true q.2) (Int.not_lt.mpr ((Int.add_zero (norm 100 (comb ks l)).1) ▸ h1))
/-- a sum, divided -/
noncomputable def divs (d : Nat) : Ls → Ls
  | [] => []
  | e :: l => (e.1 / d, e.2) :: divs d l
theorem ev_divs (d : Nat) (l : Ls) (h : l.all (fun e => decide (e.1 % d = 0)) = true) : ev ns zs l = d * ev ns zs (divs d l) := by
  induction l with
  | nil => exact (Int.mul_zero _).symm
  | cons e l ih =>
    have h := Bool.and_eq_true_iff.mp h
    show e.1 * _ + ev ns zs l = d * (e.1 / d * _ + ev ns zs (divs d l))
    rw [ih h.2, Int.mul_add, ← Int.mul_assoc, Int.mul_ediv_cancel' (Int.dvd_of_emod_eq_zero (of_decide_eq_true h.1))]
noncomputable def cut (ks : List Nat) (d : Nat) (l : List Ls) : Ls := ((norm 100 (comb ks l)).1 / d, true, one) :: divs d (norm 100 (comb ks l)).2
noncomputable def cuts (ks : List Nat) (d : Nat) (l : List Ls) : Bool := Nat.blt 0 d && (norm 100 (comb ks l)).2.all fun e => decide (e.1 % d = 0)
theorem cut_ok {ks : List Nat} {d : Nat} {l : List Ls} (h : Ok ns zs l) (q : cuts ks d l = true) : 0 ≤ ev ns zs (cut ks d l) := by
  have h1 := ev_comb ns zs ks l h
  have q := Bool.and_eq_true_iff.mp q
  have hd : 0 < d := Nat.le_of_ble_eq_true q.1
  rw [← ev_norm ns zs 100, ev_divs ns zs d _ q.2] at h1
  show 0 ≤ _ / (d : Int) * 1 + ev ns zs (divs d (norm 100 (comb ks l)).2)
  rw [Int.mul_one]
  have := Int.ediv_nonneg h1 (Int.natCast_nonneg d)
  rwa [Int.add_mul_ediv_left _ _ (Int.ne_of_gt (Int.natCast_pos.mpr hd))] at this
/-- x - y -/
noncomputable def dif (b : Bool) (x y : Tm) : Ls := lin x b 1 ++ lin y b (-1)
theorem ev_dif (b : Bool) (x y : Tm) : ev ns zs (dif b x y) = Tm.val ns zs b x - Tm.val ns zs b y := by
  rw [dif, ev_append, ev_lin, ev_lin, Int.one_mul, Int.neg_mul, Int.one_mul, Int.sub_eq_add_neg]
theorem ev_le {b : Bool} {x y : Tm} (h : x.val ns zs b ≤ y.val ns zs b) : 0 ≤ ev ns zs (dif b y x) := by
  rw [ev_dif]; exact Int.sub_nonneg_of_le h
theorem ev_lt {b : Bool} {x y : Tm} (h : x.val ns zs b < y.val ns zs b) : 0 ≤ ev ns zs ((-1, true, one) :: dif b y x) := by
  show 0 ≤ -1 + ev ns zs (dif b y x)
  rw [ev_dif, Int.add_comm]; exact Int.sub_nonneg_of_le (Int.lt_iff_add_one_le.mp h |> fun h => by rw [Int.add_comm] at h; exact Int.le_sub_left_of_add_le (Int.add_comm 1 _ ▸ h))
/-- t is x -/
noncomputable def iss (b : Bool) (t : Tm) (b' : Bool) (x : Tm) : List Ls := [(1, b, t) :: lin x b' (-1), (-1, b, t) :: lin x b' 1]
theorem iss_ok {b : Bool} {t : Tm} {b' : Bool} {x : Tm} (h : Tm.val ns zs b t = Tm.val ns zs b' x) : Ok ns zs (iss b t b' x) := by
  refine .cons ?_ (.cons ?_ (.nil ns zs))
  · show 0 ≤ 1 * Tm.val ns zs b t + ev ns zs (lin x b' (-1))
    rw [ev_lin, h, ← Int.add_mul]; exact Int.le_of_eq (Int.zero_mul _).symm
  · show 0 ≤ -1 * Tm.val ns zs b t + ev ns zs (lin x b' 1)
    rw [ev_lin, h, ← Int.add_mul]; exact Int.le_of_eq (Int.zero_mul _).symm
/-- what is so of a term by itself -/
noncomputable def nn (b : Bool) (t : Tm) : List Ls := bif b then [[(1, true, t)]] else []
theorem nn_ok (b : Bool) (t : Tm) : Ok ns zs (nn b t) := by
  cases b
  · exact .nil ns zs
  · exact .cons (by rw [ev_one, Int.one_mul]; exact Int.natCast_nonneg _) (.nil ns zs)
noncomputable def own (b : Bool) (t : Tm) : List Ls := Tm.casesOn t (fun _ => nn b t) (fun _ => nn b t) (fun _ _ => nn b t) fun o x y => Option.casesOn (Tm.kst y) (nn b t) fun n => bif Nat.blt 0 n && (Nat.beq o 3 || Nat.beq o 4) then
    [(1, b, .b 4 x y)] :: [(-1, b, .b 4 x y), ((n : Int) - 1, true, one)] :: ((n, b, .b 3 x y) :: (1, b, .b 4 x y) :: lin x b (-1)) :: ((-n, b, .b 3 x y) :: (-1, b, .b 4 x y) :: lin x b 1) :: nn b t else nn b t
theorem zro_c {p q : Int} (h : p < q) : 0 ≤ -1 * p + ((q - 1) * 1 + 0) := by omega
theorem zro_d (p q : Int) : 0 ≤ 1 * (p - q) + (q - p) := by omega
theorem zro_a (p q : Int) : 0 ≤ p + (1 * q + -1 * (p + q)) := by omega
theorem zro_b (p q : Int) : 0 ≤ -p + (-1 * q + 1 * (p + q)) := by omega
theorem own_ok (b : Bool) (t : Tm) : Ok ns zs (own b t) := by
  cases t with
  | b o x y =>
    refine opt_of (P := Ok ns zs) (fun n hn => bif_of (P := Ok ns zs) (fun h => ?_) (nn_ok ns zs _ _)) (nn_ok ns zs _ _)
    have h := Bool.and_eq_true_iff.mp h
    have hn0 : (0 : Int) < n := Int.natCast_pos.mpr (Nat.le_of_ble_eq_true h.1)
    have e4 : Tm.val ns zs b (.b 4 x y) = Tm.val ns zs b x % (n : Int) := by rw [Tm.kst_eq hn]; cases b <;> rfl
    have e3 : (n : Int) * Tm.val ns zs b (.b 3 x y) + Tm.val ns zs b (.b 4 x y) = Tm.val ns zs b x := by
      rw [e4, show Tm.val ns zs b (.b 3 x y) = Tm.val ns zs b x / (n : Int) from by rw [Tm.kst_eq hn]; cases b <;> rfl]
      exact Int.mul_ediv_add_emod _ _
    refine .cons ?_ (.cons ?_ (.cons ?_ (.cons ?_ (nn_ok ns zs _ _))))
    · rw [ev_one, Int.one_mul, e4]; exact Int.emod_nonneg _ (Int.ne_of_gt hn0)
    · show 0 ≤ -1 * _ + (((n : Int) - 1) * 1 + 0)
      rw [e4]; exact zro_c (Int.emod_lt_of_pos (Tm.val ns zs b x) hn0)
    · show 0 ≤ (n : Int) * _ + (1 * _ + ev ns zs (lin x b (-1)))
      rw [ev_lin, ← e3]; exact zro_a _ _
    · show 0 ≤ -(n : Int) * _ + (-1 * _ + ev ns zs (lin x b 1))
      rw [ev_lin, ← e3, Int.neg_mul]; exact zro_b _ _
  | _ => exact nn_ok ns zs _ _
/-- the two cases of a term -/
noncomputable def two (b : Bool) (t : Tm) : List Ls × List Ls := Tm.casesOn t (fun _ => ([], [])) (fun _ => ([], []))
  (fun o x => bif Nat.beq o 2 && b then (lin x false 1 :: iss true (.u 2 x) false x, [lin x false (-1), [(-1, true, .u 2 x)]]) else
    bif Nat.beq o 3 && b then (lin x false 1 :: iss true (.u 3 x) false x, lin x false (-1) :: iss true (.u 3 x) false (.u 0 x)) else ([], []))
  fun o x y => bif Nat.beq o 1 && b then (dif true x y :: ((1, true, .b 1 x y) :: dif true y x) :: ((-1, true, .b 1 x y) :: dif true x y) :: [], [dif true y x, [(-1, true, .b 1 x y)]]) else
    bif Nat.beq o 5 then (dif b y x :: iss b (.b 5 x y) b x, dif b x y :: iss b (.b 5 x y) b y) else
    bif Nat.beq o 6 then (dif b x y :: iss b (.b 6 x y) b x, dif b y x :: iss b (.b 6 x y) b y) else ([], [])
theorem Ok.le {b : Bool} {x y : Tm} {l : List Ls} (h : x.val ns zs b ≤ y.val ns zs b) (k : Ok ns zs l) : Ok ns zs (dif b y x :: l) := .cons (ev_le ns zs h) k
theorem of_min (b : Bool) (x y : Nat × Int) : Tm.of b (min x.1 y.1, min x.2 y.2) = min (Tm.of b x) (Tm.of b y) := by
  cases b
  · rfl
  · show ((min x.1 y.1 : Nat) : Int) = min (x.1 : Int) (y.1 : Int)
    omega
theorem of_max (b : Bool) (x y : Nat × Int) : Tm.of b (max x.1 y.1, max x.2 y.2) = max (Tm.of b x) (Tm.of b y) := by
  cases b
  · rfl
  · show ((max x.1 y.1 : Nat) : Int) = max (x.1 : Int) (y.1 : Int)
    omega
theorem two_ok (b : Bool) (t : Tm) : Ok ns zs (two b t).1 ∨ Ok ns zs (two b t).2 := by
  cases t with
  | u o x =>
    refine bif_of (P := fun p : List Ls × List Ls => Ok ns zs p.1 ∨ Ok ns zs p.2) (fun h => ?_) (bif_of (P := fun p : List Ls × List Ls => Ok ns zs p.1 ∨ Ok ns zs p.2) (fun h => ?_) (.inl (.nil ns zs)))
    · rcases Int.le_total 0 (Tm.val ns zs false x) with h | h
      · refine .inl (.cons ?_ (iss_ok ns zs (Int.toNat_of_nonneg h)))
        rw [ev_lin, Int.one_mul]; exact h
      · refine .inr (.cons ?_ (.cons ?_ (.nil ns zs)))
        · rw [ev_lin, Int.neg_mul, Int.one_mul]; exact Int.neg_nonneg_of_nonpos h
        · rw [ev_one, show Tm.val ns zs true (.u 2 x) = ((Tm.val ns zs false x).toNat : Int) from rfl, Int.toNat_of_nonpos h]; exact Int.le_refl _
    · rcases Int.le_total 0 (Tm.val ns zs false x) with h | h
      · refine .inl (.cons ?_ (iss_ok ns zs (Int.natAbs_of_nonneg h)))
        rw [ev_lin, Int.one_mul]; exact h
      · refine .inr (.cons ?_ (iss_ok ns zs (Int.ofNat_natAbs_of_nonpos h)))
        rw [ev_lin, Int.neg_mul, Int.one_mul]; exact Int.neg_nonneg_of_nonpos h
  | b o x y =>
    refine bif_of (P := fun p : List Ls × List Ls => Ok ns zs p.1 ∨ Ok ns zs p.2) (fun h => ?_) (bif_of (P := fun p : List Ls × List Ls => Ok ns zs p.1 ∨ Ok ns zs p.2) (fun h => ?_) (bif_of (P := fun p : List Ls × List Ls => Ok ns zs p.1 ∨ Ok ns zs p.2) (fun h => ?_) (.inl (.nil ns zs))))
    · rcases Nat.le_total (Tm.den ns zs y).1 (Tm.den ns zs x).1 with h | h
      · have e : Tm.val ns zs true (.b 1 x y) = Tm.val ns zs true x - Tm.val ns zs true y := Int.ofNat_sub h
        refine .inl (.le ns zs (Int.ofNat_le.mpr h) (.cons ?_ (.cons ?_ (.nil ns zs))))
        · show 0 ≤ 1 * Tm.val ns zs true (.b 1 x y) + ev ns zs (dif true y x); rw [ev_dif, e]; exact zro_d _ _
        · show 0 ≤ -1 * Tm.val ns zs true (.b 1 x y) + ev ns zs (dif true x y); rw [ev_dif, e, ← Int.one_mul (_ - _), ← Int.mul_assoc, ← Int.add_mul]; exact Int.le_of_eq (Int.zero_mul _).symm
      · refine .inr (.le ns zs (Int.ofNat_le.mpr h) (.cons ?_ (.nil ns zs)))
        rw [ev_one, show Tm.val ns zs true (.b 1 x y) = (((Tm.den ns zs x).1 - (Tm.den ns zs y).1 : Nat) : Int) from rfl, Nat.sub_eq_zero_of_le h]; exact Int.le_refl _
    · rcases Int.le_total (Tm.val ns zs b x) (Tm.val ns zs b y) with h | h
      · exact .inl (.le ns zs h (iss_ok ns zs ((of_min b _ _).trans (Int.min_eq_left h))))
      · exact .inr (.le ns zs h (iss_ok ns zs ((of_min b _ _).trans (Int.min_eq_right h))))
    · rcases Int.le_total (Tm.val ns zs b x) (Tm.val ns zs b y) with h | h
      · exact .inr (.le ns zs h (iss_ok ns zs ((of_max b _ _).trans (Int.max_eq_right h))))
      · exact .inl (.le ns zs h (iss_ok ns zs ((of_max b _ _).trans (Int.max_eq_left h))))
  | _ => exact .inl (.nil ns zs)
end
end Ls
/-- a statement -/
inductive Fm where
  | le (b : Bool) (x y : Tm)
  | lt (b : Bool) (x y : Tm)
  | eq (b : Bool) (x y : Tm)
  | no (p : Fm)
  | an (p q : Fm)
  | or (p q : Fm)
  | im (p q : Fm)
  | ii (p q : Fm)
  | tt
  | ff
  | pr (i : Nat)
/-- a proof: fi sums up to a contradiction; ow what is so of a term; tw the two cases of a term; cu a sum, divided; al the two cases of a statement -/
inductive Ct where
  | fi (ks : List Nat)
  | ow (b : Bool) (t : Tm) (c : Ct)
  | tw (b : Bool) (t : Tm) (c e : Ct)
  | cu (ks : List Nat) (d : Nat) (c : Ct)
  | al (c e : Ct)
namespace Fm
section
variable (ns : List Nat) (zs : List Int) (ts : List Prop)
/-- read as its kind says -/
noncomputable def rd (b : Bool) (p q : Prop) : Prop := Bool.casesOn b q p
noncomputable def den : Fm → Prop
  | .le b x y => rd b ((x.den ns zs).1 ≤ (y.den ns zs).1) ((x.den ns zs).2 ≤ (y.den ns zs).2)
  | .lt b x y => rd b ((x.den ns zs).1 < (y.den ns zs).1) ((x.den ns zs).2 < (y.den ns zs).2)
  | .eq b x y => rd b ((x.den ns zs).1 = (y.den ns zs).1) ((x.den ns zs).2 = (y.den ns zs).2)
  | .no p => ¬ den p
  | .an p q => den p ∧ den q
  | .or p q => den p ∨ den q
  | .im p q => den p → den q
  | .ii p q => den p ↔ den q
  | .tt => True
  | .ff => False
  | .pr i => Tm.nth True ts i
theorem le_val {b : Bool} {x y : Tm} : (Fm.le b x y).den ns zs ts ↔ x.val ns zs b ≤ y.val ns zs b := by
  cases b
  · exact Iff.rfl
  · exact (Int.ofNat_le (m := (x.den ns zs).1) (n := (y.den ns zs).1)).symm
theorem lt_val {b : Bool} {x y : Tm} : (Fm.lt b x y).den ns zs ts ↔ x.val ns zs b < y.val ns zs b := by
  cases b
  · exact Iff.rfl
  · exact (Int.ofNat_lt (n := (x.den ns zs).1) (m := (y.den ns zs).1)).symm
theorem eq_val {b : Bool} {x y : Tm} : (Fm.eq b x y).den ns zs ts ↔ x.val ns zs b = y.val ns zs b := by
  cases b
  · exact Iff.rfl
  · exact (Int.ofNat_inj (m := (x.den ns zs).1) (n := (y.den ns zs).1)).symm
end
end Fm
namespace Ct
open Ls
noncomputable def spl (c : Ct) (f g : Ct → Bool) (d : Bool) : Bool := Ct.casesOn c (fun _ => d) (fun _ _ _ => d) (fun _ _ _ _ => d) (fun _ _ _ => d) fun c e => f c && g e
theorem spl_ok {c : Ct} {f g : Ct → Bool} {d : Bool} (h : spl c f g d = true) : ((∃ c, f c = true) ∧ ∃ e, g e = true) ∨ d = true := by
  cases c with
  | al c e => have h := Bool.and_eq_true_iff.mp h; exact .inl ⟨⟨c, h.1⟩, e, h.2⟩
  | _ => exact .inr h
noncomputable abbrev lt (b : Bool) (x y : Tm) : Ls := (-1, true, one) :: dif b y x
noncomputable def fin (n : List Ls → Ct → Bool) (fs : List Ls) (c : Ct) : Bool := Ct.casesOn c (fun ks => out ks fs) (fun b t c => n (own b t ++ fs) c)
  (fun b t c e => n ((two b t).1 ++ fs) c && n ((two b t).2 ++ fs) e) (fun ks d c => cuts ks d fs && n (cut ks d fs :: fs) c) fun _ _ => false
noncomputable def go : Nat → List (Bool × Fm) → List Ls → Ct → Bool
  | 0, _, _, _ => false
  | n + 1, ps, fs, c => List.casesOn ps (fin (go n []) fs c) fun p ps => Fm.casesOn p.2
    (fun b x y => go n ps ((bif p.1 then dif b y x else lt b y x) :: fs) c)
    (fun b x y => go n ps ((bif p.1 then lt b x y else dif b x y) :: fs) c)
    (fun b x y => bif p.1 then go n ps (dif b x y :: dif b y x :: fs) c else spl c (go n ps (lt b x y :: fs)) (go n ps (lt b y x :: fs)) (go n ps fs c))
    (fun q => go n ((!p.1, q) :: ps) fs c)
    (fun q r => bif p.1 then go n ((true, q) :: (true, r) :: ps) fs c else spl c (go n ((false, q) :: ps) fs) (go n ((false, r) :: ps) fs) (go n ps fs c))
    (fun q r => bif p.1 then spl c (go n ((true, q) :: ps) fs) (go n ((true, r) :: ps) fs) (go n ps fs c) else go n ((false, q) :: (false, r) :: ps) fs c)
    (fun q r => bif p.1 then spl c (go n ((false, q) :: ps) fs) (go n ((true, r) :: ps) fs) (go n ps fs c) else go n ((true, q) :: (false, r) :: ps) fs c)
    (fun q r => spl c (go n ((true, q) :: (p.1, r) :: ps) fs) (go n ((false, q) :: (!p.1, r) :: ps) fs) (go n ps fs c))
    (bif p.1 then go n ps fs c else true) (bif p.1 then true else go n ps fs c) fun _ => go n ps fs c
section
variable (ns : List Nat) (zs : List Int) (ts : List Prop)
noncomputable def Is (p : Bool × Fm) : Prop := Bool.casesOn p.1 (¬ p.2.den ns zs ts) (p.2.den ns zs ts)
noncomputable def All (ps : List (Bool × Fm)) : Prop := ∀ p ∈ ps, Is ns zs ts p
variable {ns zs ts}
theorem All.cons {q : Bool × Fm} {l : List (Bool × Fm)} (h : Is ns zs ts q) (h2 : All ns zs ts l) : All ns zs ts (q :: l) := fun _ hp => (List.mem_cons.mp hp).elim (fun e => e ▸ h) (h2 _)
theorem fin_ok {n : List Ls → Ct → Bool} {fs : List Ls} {c : Ct} (ih : ∀ fs c, n fs c = true → Ok ns zs fs → False) (q : fin n fs c = true) (hf : Ok ns zs fs) : False := by
  cases c with
  | fi ks => exact out_ok ns zs hf q
  | ow b t c => exact ih _ _ q ((own_ok ns zs b t).app hf)
  | tw b t c e =>
    have q := Bool.and_eq_true_iff.mp q
    exact (two_ok ns zs b t).elim (fun h => ih _ _ q.1 (h.app hf)) fun h => ih _ _ q.2 (h.app hf)
  | cu ks d c =>
    have q := Bool.and_eq_true_iff.mp q
    exact ih _ _ q.2 (hf.cons (cut_ok ns zs hf q.1))
  | al => cases q
theorem go_ok (n : Nat) : ∀ (ps : List (Bool × Fm)) (fs : List Ls) (c : Ct), go n ps fs c = true → All ns zs ts ps → Ok ns zs fs → False := by
  induction n with
  | zero => intro _ _ _ q; cases q
  | succ n ih =>
    intro ps fs c q hp hf
    cases ps with
    | nil => exact fin_ok (n := go n []) (fun fs c q hf => ih _ _ _ q hp hf) q hf
    | cons p ps =>
      have hps : All ns zs ts ps := fun q hq => hp q (.tail _ hq)
      have h0 : Is ns zs ts p := hp p (.head _)
      have sp : ∀ {l l' : List (Bool × Fm)} {gs gs' : List Ls}, spl c (go n l gs) (go n l' gs') (go n ps fs c) = true → (All ns zs ts l ∧ Ok ns zs gs) ∨ (All ns zs ts l' ∧ Ok ns zs gs') → False := fun h k =>
        (spl_ok h).elim (fun h => k.elim (fun k => h.1.elim fun _ h => ih _ _ _ h k.1 k.2) fun k => h.2.elim fun _ h => ih _ _ _ h k.1 k.2) fun h => ih _ _ _ h hps hf
      obtain ⟨s, p⟩ := p
      cases p with
      | le b x y =>
        refine ih _ _ _ q hps (hf.cons ?_)
        cases s
        · exact ev_lt ns zs (Int.not_le.mp fun h => h0 ((Fm.le_val ns zs ts).mpr h))
        · exact ev_le ns zs ((Fm.le_val ns zs ts).mp h0)
      | lt b x y =>
        refine ih _ _ _ q hps (hf.cons ?_)
        cases s
        · exact ev_le ns zs (Int.not_lt.mp fun h => h0 ((Fm.lt_val ns zs ts).mpr h))
        · exact ev_lt ns zs ((Fm.lt_val ns zs ts).mp h0)
      | eq b x y =>
        cases s
        · exact sp q ((Int.lt_or_gt_of_ne fun h => h0 ((Fm.eq_val ns zs ts).mpr h)).elim (fun h => .inl ⟨hps, hf.cons (ev_lt ns zs h)⟩) fun h => .inr ⟨hps, hf.cons (ev_lt ns zs h)⟩)
        · have h := (Fm.eq_val ns zs ts).mp h0
          exact ih _ _ _ q hps ((hf.cons (ev_le ns zs (Int.le_of_eq h))).cons (ev_le ns zs (Int.le_of_eq h.symm)))
      | no p =>
        refine ih _ _ _ q (.cons ?_ hps) hf
        cases s
        · exact Classical.not_not.mp h0
        · exact h0
      | an p r =>
        cases s
        · exact sp q ((Classical.not_and_iff_not_or_not.mp h0).elim (fun h => .inl ⟨.cons h hps, hf⟩) fun h => .inr ⟨.cons h hps, hf⟩)
        · exact ih _ _ _ q (.cons h0.1 (.cons h0.2 hps)) hf
      | or p r =>
        cases s
        · exact ih _ _ _ q (.cons (fun h => h0 (.inl h)) (.cons (fun h => h0 (.inr h)) hps)) hf
        · exact sp q (h0.elim (fun h => .inl ⟨.cons h hps, hf⟩) fun h => .inr ⟨.cons h hps, hf⟩)
      | im p r =>
        cases s
        · have h := Classical.not_imp.mp h0
          exact ih _ _ _ q (.cons h.1 (.cons h.2 hps)) hf
        · exact sp q ((Classical.em (p.den ns zs ts)).elim (fun h => .inr ⟨.cons (h0 h) hps, hf⟩) fun h => .inl ⟨.cons h hps, hf⟩)
      | ii p r =>
        refine sp q ((Classical.em (p.den ns zs ts)).elim (fun h => .inl ⟨.cons h (.cons ?_ hps), hf⟩) fun h => .inr ⟨.cons h (.cons ?_ hps), hf⟩)
        · cases s
          · exact fun h2 => h0 ⟨fun _ => h2, fun _ => h⟩
          · exact h0.mp h
        · cases s
          · exact Classical.not_not.mp fun h2 => h0 ⟨fun h3 => absurd h3 h, fun h3 => absurd h3 h2⟩
          · exact fun h2 => h (h0.mpr h2)
      | tt =>
        cases s
        · exact h0 trivial
        · exact ih _ _ _ q hps hf
      | ff =>
        cases s
        · exact ih _ _ _ q hps hf
        · exact h0
      | pr i => exact ih _ _ _ q hps hf
end
end Ct
section
variable (ns : List Nat) (zs : List Int) (ts : List Prop)
/-- from the statements of a list, g -/
noncomputable def Imps (g : Fm) : List Fm → Prop
  | [] => g.den ns zs ts
  | h :: hs => h.den ns zs ts → Imps g hs
noncomputable def neg (g : Fm) : List Fm → List (Bool × Fm)
  | [] => [(false, g)]
  | h :: hs => (true, h) :: neg g hs
theorem imps_of (g : Fm) (l : List Fm) (h : Ct.All ns zs ts (neg g l) → False) : Imps ns zs ts g l := by
  induction l with
  | nil => exact Classical.byContradiction fun q => h (.cons q fun _ hp => nomatch hp)
  | cons p l ih => exact fun q => ih fun k => h (.cons q k)
theorem ck (g : Fm) (l : List Fm) (c : Ct) (h : Ct.go 100 (neg g l) [] c = true) : Imps ns zs ts g l := imps_of ns zs ts g l fun k => Ct.go_ok 100 _ _ _ h k (Ls.Ok.nil ns zs)
end
end
end Mine

set_option maxRecDepth 100000
set_option linter.all false
namespace Mine
theorem om0  : (-1 : Int) < (0 : Int) := ck [] [] [] (.lt false (.u 0 (.k 1)) (.k 0)) [] (.fi [1]) (rfl)
theorem om1  : (-1 : Int).natAbs < (1073741824 : Nat) := ck [] [] [] (.lt true (.u 3 (.u 0 (.k 1))) (.k 1073741824)) [] (.tw true (.u 3 (.u 0 (.k 1))) (.fi [1]) (.fi [0, 0, 1, 1])) (rfl)
theorem om2  : (-1000 : Int) < (1 : Int) ∧ (1 : Int) < (100000 : Int) := ck [] [] [] (.an (.lt false (.u 0 (.k 1000)) (.k 1)) (.lt false (.k 1) (.k 100000))) [] (.al (.fi [1]) (.fi [1])) (rfl)
theorem om3  : (-1000 : Int) < (2 : Int) ∧ (2 : Int) < (100000 : Int) := ck [] [] [] (.an (.lt false (.u 0 (.k 1000)) (.k 2)) (.lt false (.k 2) (.k 100000))) [] (.al (.fi [1]) (.fi [1])) (rfl)
theorem om4  : (-1009 : Int) < (-1 : Int) ∧ (-1 : Int) < (1009 : Int) := ck [] [] [] (.an (.lt false (.u 0 (.k 1009)) (.u 0 (.k 1))) (.lt false (.u 0 (.k 1)) (.k 1009))) [] (.al (.fi [1]) (.fi [1])) (rfl)
theorem om5  : (-1009 : Int) < (1 : Int) ∧ (1 : Int) < (1009 : Int) := ck [] [] [] (.an (.lt false (.u 0 (.k 1009)) (.k 1)) (.lt false (.k 1) (.k 1009))) [] (.al (.fi [1]) (.fi [1])) (rfl)
theorem om6  : (0 : Int) < (100000 : Int) := ck [] [] [] (.lt false (.k 0) (.k 100000)) [] (.fi [1]) (rfl)
theorem om7  : (0 : Int) < (2 : Int) ^ (62 : Nat) := ck [] [] [] (.lt false (.k 0) (.k 4611686018427387904)) [] (.fi [1]) (rfl)
theorem om8  : (0 : Int) ≤ (0 : Int) := ck [] [] [] (.le false (.k 0) (.k 0)) [] (.fi [1]) (rfl)
theorem om9  : (0 : Int) ≤ (0 : Int) ∧ (0 : Int) < (1009 : Int) := ck [] [] [] (.an (.le false (.k 0) (.k 0)) (.lt false (.k 0) (.k 1009))) [] (.al (.fi [1]) (.fi [1])) (rfl)
theorem om10  : (0 : Int) ≤ (1 : Int) ∧ (1 : Int) < (1009 : Int) := ck [] [] [] (.an (.le false (.k 0) (.k 1)) (.lt false (.k 1) (.k 1009))) [] (.al (.fi [1]) (.fi [1])) (rfl)
theorem om11  : (0 : Int) ≤ (2 : Int) := ck [] [] [] (.le false (.k 0) (.k 2)) [] (.fi [1]) (rfl)
theorem om12  : (0 : Int) ≤ (2 : Int) ∧ (2 : Int) < (1000 : Int) := ck [] [] [] (.an (.le false (.k 0) (.k 2)) (.lt false (.k 2) (.k 1000))) [] (.al (.fi [1]) (.fi [1])) (rfl)
theorem om20  : (1 : Nat) ≤ (2 : Nat) := ck [] [] [] (.le true (.k 1) (.k 2)) [] (.fi [1]) (rfl)
theorem om21  : (2 : Int) = (0 : Int) → False := ck [] [] [] .ff [(.eq false (.k 2) (.k 0))] (.fi [0, 1]) (rfl)
theorem om22  : (3 : Nat) ≤ (4 : Nat) := ck [] [] [] (.le true (.k 3) (.k 4)) [] (.fi [1]) (rfl)
theorem om23  : (5 : Nat) ≤ (6 : Nat) := ck [] [] [] (.le true (.k 5) (.k 6)) [] (.fi [1]) (rfl)
theorem om24  : -(2 : Int) ^ (62 : Nat) ≤ (0 : Int) := ck [] [] [] (.le false (.u 0 (.k 4611686018427387904)) (.k 0)) [] (.fi [1]) (rfl)
theorem om25  : -(2 : Int) ^ (63 : Nat) ≤ (-1 : Int) := ck [] [] [] (.le false (.u 0 (.k 9223372036854775808)) (.u 0 (.k 1))) [] (.fi [1]) (rfl)
theorem om26 {n0 : Nat} {z1 : Int} {n2 : Nat} {p3 : Prop} : (2 : Nat) * z1.toNat + (1 : Nat) + (1 : Nat) < n2 ∧ ¬p3 → n2 = n0 → n0 - ((2 : Nat) * z1.toNat + (1 : Nat) + (1 : Nat)) < n0 - z1.toNat := ck [n0, n2] [z1] [p3] (.lt true (.b 1 (.v 0) (.b 0 (.b 0 (.b 2 (.k 2) (.u 2 (.v 0))) (.k 1)) (.k 1))) (.b 1 (.v 0) (.u 2 (.v 0)))) [(.an (.lt true (.b 0 (.b 0 (.b 2 (.k 2) (.u 2 (.v 0))) (.k 1)) (.k 1)) (.v 1)) (.no (.pr 0))), (.eq true (.v 1) (.v 0))] (.tw true (.u 2 (.v 0)) (.tw true (.b 1 (.v 0) (.u 2 (.v 0))) (.tw true (.b 1 (.v 0) (.b 0 (.b 0 (.b 2 (.k 2) (.u 2 (.v 0))) (.k 1)) (.k 1))) (.fi [0, 0, 1, 0, 1, 0, 1, 1, 0, 1]) (.fi [1, 0, 0, 0, 0, 0, 0, 0, 0, 0, 1, 1])) (.fi [1, 0, 1, 1, 0, 0, 0, 1, 1])) (.tw true (.b 1 (.v 0) (.u 2 (.v 0))) (.tw true (.b 1 (.v 0) (.b 0 (.b 0 (.b 2 (.k 2) (.u 2 (.v 0))) (.k 1)) (.k 1))) (.ow true (.u 2 (.v 0)) (.fi [1, 0, 0, 1, 0, 1, 0, 0, 0, 1])) (.fi [1, 0, 0, 0, 0, 0, 0, 0, 0, 1, 1])) (.ow true (.v 1) (.fi [1, 2, 0, 0, 0, 0, 0, 2, 1])))) (rfl)
theorem om27 {n0 : Nat} {z1 : Int} {n2 : Nat} : (↑(n0 + n2) : Int) = z1 → ¬(0 : Nat) < n2 → (↑n0 : Int) = z1 := ck [n0, n2] [z1] [] (.eq false (.u 1 (.v 0)) (.v 0)) [(.eq false (.u 1 (.b 0 (.v 0) (.v 1))) (.v 0)), (.no (.lt true (.k 0) (.v 1)))] (.al (.fi [1, 1, 1]) (.ow true (.v 1) (.fi [1, 1, 0, 0, 1]))) (rfl)
theorem om28 {n0 : Nat} {z1 : Int} {n2 : Nat} : (↑(n0 + n2) : Int) ≤ z1 → (↑n0 : Int) ≤ z1 := ck [n0, n2] [z1] [] (.le false (.u 1 (.v 0)) (.v 0)) [(.le false (.u 1 (.b 0 (.v 0) (.v 1))) (.v 0))] (.ow true (.v 1) (.fi [1, 1, 1])) (rfl)
theorem om29 {n0 : Nat} {z1 : Int} {n2 : Nat} : (↑(n2 + n0) : Int) = z1 → (↑n0 : Int) = z1 - (↑n2 : Int) := ck [n0, n2] [z1] [] (.eq false (.u 1 (.v 0)) (.b 1 (.v 0) (.u 1 (.v 1)))) [(.eq false (.u 1 (.b 0 (.v 1) (.v 0))) (.v 0))] (.al (.fi [1, 1]) (.fi [1, 0, 1])) (rfl)
theorem om30 {n0 : Nat} {z1 : Int} {n2 : Nat} : (↑(n2 + n0) : Int) ≤ z1 → (↑n0 : Int) ≤ z1 - (↑n2 : Int) := ck [n0, n2] [z1] [] (.le false (.u 1 (.v 0)) (.b 1 (.v 0) (.u 1 (.v 1)))) [(.le false (.u 1 (.b 0 (.v 1) (.v 0))) (.v 0))] (.fi [1, 1]) (rfl)
theorem om31 {n0 : Nat} {z1 : Int} {n2 : Nat} : n2 = n0 → z1.toNat < n2 → n0 - ((2 : Nat) * z1.toNat + (1 : Nat)) < n0 - z1.toNat := ck [n0, n2] [z1] [] (.lt true (.b 1 (.v 0) (.b 0 (.b 2 (.k 2) (.u 2 (.v 0))) (.k 1))) (.b 1 (.v 0) (.u 2 (.v 0)))) [(.eq true (.v 1) (.v 0)), (.lt true (.u 2 (.v 0)) (.v 1))] (.tw true (.u 2 (.v 0)) (.tw true (.b 1 (.v 0) (.u 2 (.v 0))) (.tw true (.b 1 (.v 0) (.b 0 (.b 2 (.k 2) (.u 2 (.v 0))) (.k 1))) (.fi [0, 0, 1, 0, 1, 0, 1, 1, 0, 1]) (.fi [0, 1, 0, 1, 0, 0, 0, 0, 1, 1, 0, 1])) (.fi [1, 0, 0, 0, 0, 0, 1, 0, 1])) (.tw true (.b 1 (.v 0) (.u 2 (.v 0))) (.tw true (.b 1 (.v 0) (.b 0 (.b 2 (.k 2) (.u 2 (.v 0))) (.k 1))) (.ow true (.u 2 (.v 0)) (.fi [1, 0, 0, 1, 0, 1, 0, 0, 0, 1])) (.fi [0, 1, 0, 1, 0, 0, 0, 1, 1, 0, 1])) (.fi [1, 0, 0, 0, 0, 1, 0, 1]))) (rfl)
theorem om32 {n0 : Nat} {z1 : Int} {n2 n3 n4 n5 n6 n7 n8 : Nat} : (4 : Int) + z1 % (5 : Int) = (↑n2 : Int) → n3 = n2 → n4 = (3 : Nat) + n3 → n4 = n5 → n6 ≤ (1 : Nat) + (2 : Nat) * n7 → (↑n5 : Int) - (1 : Int) + (↑n7 : Int) * (-1 : Int) = (↑n8 : Int) → n0 = n6 → n0 + (2 : Nat) < (100000 : Nat) := ck [n0, n2, n3, n4, n5, n6, n7, n8] [z1] [] (.lt true (.b 0 (.v 0) (.k 2)) (.k 100000)) [(.eq false (.b 0 (.k 4) (.b 4 (.v 0) (.k 5))) (.u 1 (.v 1))), (.eq true (.v 2) (.v 1)), (.eq true (.v 3) (.b 0 (.k 3) (.v 2))), (.eq true (.v 3) (.v 4)), (.le true (.v 5) (.b 0 (.k 1) (.b 2 (.k 2) (.v 6)))), (.eq false (.b 0 (.b 1 (.u 1 (.v 4)) (.k 1)) (.b 2 (.u 1 (.v 6)) (.u 0 (.k 1)))) (.u 1 (.v 7))), (.eq true (.v 0) (.v 5))] (.ow true (.v 7) (.ow false (.b 3 (.v 0) (.k 5)) (.fi [0, 2, 0, 0, 2, 1, 0, 1, 2, 0, 1, 2, 0, 0, 2, 0, 2, 2]))) (rfl)
theorem om33 {n0 : Nat} {z1 : Int} : (0 : Nat) < n0 → (↑(n0 + (1 : Nat)) : Int) ≤ z1 → z1 - (1 : Int) = (0 : Int) → False := ck [n0] [z1] [] .ff [(.lt true (.k 0) (.v 0)), (.le false (.u 1 (.b 0 (.v 0) (.k 1))) (.v 0)), (.eq false (.b 1 (.v 0) (.k 1)) (.k 0))] (.fi [0, 1, 1, 1]) (rfl)
theorem om34 {n0 : Nat} {z1 : Int} : (4 : Int) + z1 % (5 : Int) = (↑n0 : Int) → (0 : Nat) < Min.min n0 (8 : Nat) ∧ Min.min n0 (8 : Nat) < (900 : Nat) := ck [n0] [z1] [] (.an (.lt true (.k 0) (.b 5 (.v 0) (.k 8))) (.lt true (.b 5 (.v 0) (.k 8)) (.k 900))) [(.eq false (.b 0 (.k 4) (.b 4 (.v 0) (.k 5))) (.u 1 (.v 0)))] (.al (.tw true (.b 5 (.v 0) (.k 8)) (.ow false (.b 3 (.v 0) (.k 5)) (.fi [1, 0, 0, 0, 0, 1, 0, 1, 0, 1])) (.fi [0, 1, 0, 1])) (.tw true (.b 5 (.v 0) (.k 8)) (.fi [1, 0, 1, 1]) (.fi [0, 0, 1, 1]))) (rfl)
theorem om35 {n0 : Nat} {z1 : Int} : (4 : Int) + z1 % (5 : Int) = (↑n0 : Int) → Min.min n0 (8 : Nat) = n0 := ck [n0] [z1] [] (.eq true (.b 5 (.v 0) (.k 8)) (.v 0)) [(.eq false (.b 0 (.k 4) (.b 4 (.v 0) (.k 5))) (.u 1 (.v 0)))] (.al (.tw true (.b 5 (.v 0) (.k 8)) (.fi [0, 1, 0, 1]) (.ow false (.b 3 (.v 0) (.k 5)) (.fi [0, 1, 0, 0, 0, 1, 0, 1, 1]))) (.tw true (.b 5 (.v 0) (.k 8)) (.fi [0, 0, 1, 1]) (.fi [1, 0, 1, 1]))) (rfl)
theorem om36 {n0 : Nat} {z1 : Int} : (↑(n0 + (1 : Nat)) : Int) = z1 → (↑n0 : Int) = z1 - (1 : Int) := ck [n0] [z1] [] (.eq false (.u 1 (.v 0)) (.b 1 (.v 0) (.k 1))) [(.eq false (.u 1 (.b 0 (.v 0) (.k 1))) (.v 0))] (.al (.fi [1, 1]) (.fi [1, 0, 1])) (rfl)
theorem om37 {n0 : Nat} {z1 : Int} : (↑(n0 + (1 : Nat)) : Int) = z1 → ¬z1 - (1 : Int) = (0 : Int) → (0 : Nat) < n0 := ck [n0] [z1] [] (.lt true (.k 0) (.v 0)) [(.eq false (.u 1 (.b 0 (.v 0) (.k 1))) (.v 0)), (.no (.eq false (.b 1 (.v 0) (.k 1)) (.k 0)))] (.al (.ow true (.v 0) (.fi [1, 0, 1, 0, 1])) (.fi [1, 1, 1])) (rfl)
theorem om38 {n0 : Nat} {z1 : Int} : (↑(n0 + (1 : Nat)) : Int) ≤ z1 → (↑n0 : Int) ≤ z1 - (1 : Int) := ck [n0] [z1] [] (.le false (.u 1 (.v 0)) (.b 1 (.v 0) (.k 1))) [(.le false (.u 1 (.b 0 (.v 0) (.k 1))) (.v 0))] (.fi [1, 1]) (rfl)
theorem om39 {n0 : Nat} {z1 : Int} : (↑n0 : Int) - (1 : Int) - z1 / (3 : Int) % (3 : Int) < (↑n0 : Int) := ck [n0] [z1] [] (.lt false (.b 1 (.b 1 (.u 1 (.v 0)) (.k 1)) (.b 4 (.b 3 (.v 0) (.k 3)) (.k 3))) (.u 1 (.v 0))) [] (.ow false (.b 3 (.b 3 (.v 0) (.k 3)) (.k 3)) (.fi [1, 0, 0, 0, 1])) (rfl)
theorem om40 {n0 : Nat} {z1 : Int} : (↑n0 : Int) - (3 : Int) ≤ (↑n0 : Int) - (1 : Int) - z1 / (3 : Int) % (3 : Int) := ck [n0] [z1] [] (.le false (.b 1 (.u 1 (.v 0)) (.k 3)) (.b 1 (.b 1 (.u 1 (.v 0)) (.k 1)) (.b 4 (.b 3 (.v 0) (.k 3)) (.k 3)))) [] (.ow false (.b 3 (.b 3 (.v 0) (.k 3)) (.k 3)) (.fi [0, 1, 0, 0, 1])) (rfl)
theorem om41 {n0 : Nat} {z1 : Int} : (↑n0 : Int) = z1 - (1 : Int) → (↑(n0 + (1 : Nat)) : Int) = z1 := ck [n0] [z1] [] (.eq false (.u 1 (.b 0 (.v 0) (.k 1))) (.v 0)) [(.eq false (.u 1 (.v 0)) (.b 1 (.v 0) (.k 1)))] (.al (.fi [1, 1]) (.fi [1, 0, 1])) (rfl)
theorem om42 {n0 : Nat} {z1 : Int} : n0 = (0 : Nat) → z1 - (1 : Int) = (0 : Int) → (↑(n0 + (1 : Nat)) : Int) = z1 := ck [n0] [z1] [] (.eq false (.u 1 (.b 0 (.v 0) (.k 1))) (.v 0)) [(.eq true (.v 0) (.k 0)), (.eq false (.b 1 (.v 0) (.k 1)) (.k 0))] (.al (.fi [1, 0, 1, 1]) (.fi [1, 1, 0, 0, 1])) (rfl)
theorem om43 {n0 : Nat} {z1 z2 : Int} : (3 : Nat) ≤ n0 → n0 < (3 : Nat) → (↑n0 : Int) - (3 : Int) ≤ z1 ∧ z1 < (↑n0 : Int) ∧ (0 : Int) ≤ z2 ∧ z2 < (↑n0 : Int) := ck [n0] [z1, z2] [] (.an (.le false (.b 1 (.u 1 (.v 0)) (.k 3)) (.v 0)) (.an (.lt false (.v 0) (.u 1 (.v 0))) (.an (.le false (.k 0) (.v 1)) (.lt false (.v 1) (.u 1 (.v 0)))))) [(.le true (.k 3) (.v 0)), (.lt true (.v 0) (.k 3))] (.fi [1, 1]) (rfl)
theorem om44 {n0 : Nat} : ((-1 : Int) + (↑n0 : Int)).toNat = n0 - (1 : Nat) := ck [n0] [] [] (.eq true (.u 2 (.b 0 (.u 0 (.k 1)) (.u 1 (.v 0)))) (.b 1 (.v 0) (.k 1))) [] (.al (.tw true (.u 2 (.b 0 (.u 0 (.k 1)) (.u 1 (.v 0)))) (.tw true (.b 1 (.v 0) (.k 1)) (.fi [0, 0, 1, 0, 1, 0, 1]) (.fi [0, 1, 1, 1, 0, 1])) (.tw true (.b 1 (.v 0) (.k 1)) (.ow true (.u 2 (.b 0 (.u 0 (.k 1)) (.u 1 (.v 0)))) (.fi [1, 0, 0, 1, 1, 0, 1])) (.ow true (.u 2 (.b 0 (.u 0 (.k 1)) (.u 1 (.v 0)))) (.fi [1, 0, 1, 0, 0, 1])))) (.tw true (.b 1 (.v 0) (.k 1)) (.tw true (.u 2 (.b 0 (.u 0 (.k 1)) (.u 1 (.v 0)))) (.fi [0, 0, 1, 0, 1, 0, 1]) (.fi [0, 1, 1, 1, 0, 1])) (.tw true (.u 2 (.b 0 (.u 0 (.k 1)) (.u 1 (.v 0)))) (.ow true (.b 1 (.v 0) (.k 1)) (.fi [1, 0, 0, 1, 1, 0, 1])) (.ow true (.b 1 (.v 0) (.k 1)) (.fi [1, 0, 1, 0, 0, 1]))))) (rfl)
theorem om45 {n0 : Nat} : ((↑n0 : Int) - (1 : Int) - (2 : Int)).toNat = n0 - (3 : Nat) := ck [n0] [] [] (.eq true (.u 2 (.b 1 (.b 1 (.u 1 (.v 0)) (.k 1)) (.k 2))) (.b 1 (.v 0) (.k 3))) [] (.al (.tw true (.u 2 (.b 1 (.b 1 (.u 1 (.v 0)) (.k 1)) (.k 2))) (.tw true (.b 1 (.v 0) (.k 3)) (.fi [0, 0, 1, 0, 1, 0, 1]) (.fi [0, 1, 1, 1, 0, 1])) (.tw true (.b 1 (.v 0) (.k 3)) (.ow true (.u 2 (.b 1 (.b 1 (.u 1 (.v 0)) (.k 1)) (.k 2))) (.fi [1, 0, 0, 1, 1, 0, 1])) (.ow true (.u 2 (.b 1 (.b 1 (.u 1 (.v 0)) (.k 1)) (.k 2))) (.fi [1, 0, 1, 0, 0, 1])))) (.tw true (.b 1 (.v 0) (.k 3)) (.tw true (.u 2 (.b 1 (.b 1 (.u 1 (.v 0)) (.k 1)) (.k 2))) (.fi [0, 0, 1, 0, 1, 0, 1]) (.fi [0, 1, 1, 1, 0, 1])) (.tw true (.u 2 (.b 1 (.b 1 (.u 1 (.v 0)) (.k 1)) (.k 2))) (.ow true (.b 1 (.v 0) (.k 3)) (.fi [1, 0, 0, 1, 1, 0, 1])) (.ow true (.b 1 (.v 0) (.k 3)) (.fi [1, 0, 1, 0, 0, 1]))))) (rfl)
theorem om46 {n0 : Nat} : (0 : Int) + (↑n0 : Int) * (1 : Int) = (↑n0 : Int) := ck [n0] [] [] (.eq false (.b 0 (.k 0) (.b 2 (.u 1 (.v 0)) (.k 1))) (.u 1 (.v 0))) [] (.al (.fi [1]) (.fi [1])) (rfl)
theorem om47 {n0 : Nat} : (0 : Int) < (↑((3 : Nat) + n0) : Int) := ck [n0] [] [] (.lt false (.k 0) (.u 1 (.b 0 (.k 3) (.v 0)))) [] (.ow true (.v 0) (.fi [1, 1])) (rfl)
theorem om48 {n0 : Nat} : (0 : Int) ≤ ((7 : Int) * (↑n0 : Int) + (3 : Int)) % (11 : Int) ∧ ((7 : Int) * (↑n0 : Int) + (3 : Int)) % (11 : Int) < (11 : Int) := ck [n0] [] [] (.an (.le false (.k 0) (.b 4 (.b 0 (.b 2 (.k 7) (.u 1 (.v 0))) (.k 3)) (.k 11))) (.lt false (.b 4 (.b 0 (.b 2 (.k 7) (.u 1 (.v 0))) (.k 3)) (.k 11)) (.k 11))) [] (.al (.ow false (.b 3 (.b 0 (.b 2 (.k 7) (.u 1 (.v 0))) (.k 3)) (.k 11)) (.fi [1, 0, 0, 0, 1])) (.ow false (.b 3 (.b 0 (.b 2 (.k 7) (.u 1 (.v 0))) (.k 3)) (.k 11)) (.fi [0, 1, 0, 0, 1]))) (rfl)
theorem om49 {n0 : Nat} : (0 : Int) ≤ (↑n0 : Int) := ck [n0] [] [] (.le false (.k 0) (.u 1 (.v 0))) [] (.ow true (.v 0) (.fi [1, 1])) (rfl)
theorem om50 {n0 : Nat} : (0 : Nat) < (n0 - (1 : Nat)) / (2 : Nat) → ((n0 - (1 : Nat)) / (2 : Nat) - (1 : Nat)) / (2 : Nat) ≠ n0 := ck [n0] [] [] (.no (.eq true (.b 3 (.b 1 (.b 3 (.b 1 (.v 0) (.k 1)) (.k 2)) (.k 1)) (.k 2)) (.v 0))) [(.lt true (.k 0) (.b 3 (.b 1 (.v 0) (.k 1)) (.k 2)))] (.tw true (.b 1 (.v 0) (.k 1)) (.tw true (.b 1 (.b 3 (.b 1 (.v 0) (.k 1)) (.k 2)) (.k 1)) (.ow true (.b 4 (.b 1 (.v 0) (.k 1)) (.k 2)) (.ow true (.b 4 (.b 1 (.b 3 (.b 1 (.v 0) (.k 1)) (.k 2)) (.k 1)) (.k 2)) (.fi [2, 0, 0, 2, 0, 1, 0, 0, 1, 0, 0, 0, 2, 3, 0, 1, 4]))) (.ow true (.b 4 (.b 1 (.b 3 (.b 1 (.v 0) (.k 1)) (.k 2)) (.k 1)) (.k 2)) (.fi [1, 0, 0, 1, 0, 0, 1, 2, 0, 0, 2]))) (.ow true (.b 4 (.b 1 (.v 0) (.k 1)) (.k 2)) (.fi [1, 0, 0, 1, 0, 0, 1, 0, 0, 2]))) (rfl)
theorem om51 {n0 : Nat} : (0 : Nat) < (n0 - (1 : Nat)) / (2 : Nat) → (n0 - (1 : Nat)) / (2 : Nat) ≠ n0 := ck [n0] [] [] (.no (.eq true (.b 3 (.b 1 (.v 0) (.k 1)) (.k 2)) (.v 0))) [(.lt true (.k 0) (.b 3 (.b 1 (.v 0) (.k 1)) (.k 2)))] (.tw true (.b 1 (.v 0) (.k 1)) (.ow true (.b 4 (.b 1 (.v 0) (.k 1)) (.k 2)) (.fi [1, 0, 0, 1, 0, 1, 0, 1, 2])) (.ow true (.b 4 (.b 1 (.v 0) (.k 1)) (.k 2)) (.fi [1, 0, 0, 1, 0, 0, 1, 0, 0, 2]))) (rfl)
theorem om52 {n0 : Nat} : (0 : Nat) < (n0 - (1 : Nat)) / (2 : Nat) → ¬n0 = ((n0 - (1 : Nat)) / (2 : Nat) - (1 : Nat)) / (2 : Nat) := ck [n0] [] [] (.no (.eq true (.v 0) (.b 3 (.b 1 (.b 3 (.b 1 (.v 0) (.k 1)) (.k 2)) (.k 1)) (.k 2)))) [(.lt true (.k 0) (.b 3 (.b 1 (.v 0) (.k 1)) (.k 2)))] (.tw true (.b 1 (.v 0) (.k 1)) (.tw true (.b 1 (.b 3 (.b 1 (.v 0) (.k 1)) (.k 2)) (.k 1)) (.ow true (.b 4 (.b 1 (.v 0) (.k 1)) (.k 2)) (.ow true (.b 4 (.b 1 (.b 3 (.b 1 (.v 0) (.k 1)) (.k 2)) (.k 1)) (.k 2)) (.fi [2, 0, 0, 2, 0, 1, 0, 0, 1, 0, 0, 0, 2, 3, 0, 1, 0, 4]))) (.ow true (.b 4 (.b 1 (.b 3 (.b 1 (.v 0) (.k 1)) (.k 2)) (.k 1)) (.k 2)) (.fi [1, 0, 0, 1, 0, 0, 1, 2, 0, 0, 0, 2]))) (.ow true (.b 4 (.b 1 (.v 0) (.k 1)) (.k 2)) (.fi [1, 0, 0, 1, 0, 0, 1, 0, 0, 2]))) (rfl)
theorem om53 {n0 : Nat} : (0 : Nat) < n0 → (0 : Nat) < n0 := ck [n0] [] [] (.lt true (.k 0) (.v 0)) [(.lt true (.k 0) (.v 0))] (.fi [1, 1]) (rfl)
theorem om54 {n0 : Nat} : (0 : Nat) < n0 → -(↑n0 : Int) ≤ (-1 : Int) := ck [n0] [] [] (.le false (.u 0 (.u 1 (.v 0))) (.u 0 (.k 1))) [(.lt true (.k 0) (.v 0))] (.fi [1, 1]) (rfl)
theorem om55 {n0 : Nat} : (0 : Nat) < n0 → n0 = (0 : Nat) → False := ck [n0] [] [] .ff [(.lt true (.k 0) (.v 0)), (.eq true (.v 0) (.k 0))] (.fi [0, 1, 1]) (rfl)
theorem om56 {n0 : Nat} : (0 : Nat) < n0 → n0 ≠ (0 : Nat) := ck [n0] [] [] (.no (.eq true (.v 0) (.k 0))) [(.lt true (.k 0) (.v 0))] (.fi [0, 1, 1]) (rfl)
theorem om57 {n0 : Nat} : (0 : Nat) < n0 → ¬(0 : Nat) = n0 := ck [n0] [] [] (.no (.eq true (.k 0) (.v 0))) [(.lt true (.k 0) (.v 0))] (.fi [1, 0, 1]) (rfl)
theorem om58 {n0 : Nat} : (0 : Nat) < n0 ∧ n0 < (900 : Nat) → (↑n0 : Int) < (1000 : Int) := ck [n0] [] [] (.lt false (.u 1 (.v 0)) (.k 1000)) [(.an (.lt true (.k 0) (.v 0)) (.lt true (.v 0) (.k 900)))] (.fi [1, 1]) (rfl)
theorem om59 {n0 : Nat} : (0 : Nat) < n0 ∧ n0 < (900 : Nat) → (↑n0 : Int) = (0 : Int) → False := ck [n0] [] [] .ff [(.an (.lt true (.k 0) (.v 0)) (.lt true (.v 0) (.k 900))), (.eq false (.u 1 (.v 0)) (.k 0))] (.fi [0, 1, 0, 1]) (rfl)
theorem om60 {n0 : Nat} : (0 : Nat) < n0 ∧ n0 < (900 : Nat) → n0 < (1000 : Nat) := ck [n0] [] [] (.lt true (.v 0) (.k 1000)) [(.an (.lt true (.k 0) (.v 0)) (.lt true (.v 0) (.k 900)))] (.fi [1, 1]) (rfl)
theorem om61 {n0 : Nat} : (0 : Nat) < n0 ∧ n0 < (900 : Nat) → n0 < (10000 : Nat) := ck [n0] [] [] (.lt true (.v 0) (.k 10000)) [(.an (.lt true (.k 0) (.v 0)) (.lt true (.v 0) (.k 900)))] (.fi [1, 1]) (rfl)
theorem om62 {n0 : Nat} : (0 : Nat) < n0 ∧ n0 < (900 : Nat) → n0 < (100000 : Nat) := ck [n0] [] [] (.lt true (.v 0) (.k 100000)) [(.an (.lt true (.k 0) (.v 0)) (.lt true (.v 0) (.k 900)))] (.fi [1, 1]) (rfl)
theorem om63 {n0 : Nat} : (0 : Nat) ≤ n0 := ck [n0] [] [] (.le true (.k 0) (.v 0)) [] (.ow true (.v 0) (.fi [1, 1])) (rfl)
theorem om64 {n0 : Nat} : (1 : Nat) ≤ n0 + (1 : Nat) := ck [n0] [] [] (.le true (.k 1) (.b 0 (.v 0) (.k 1))) [] (.ow true (.v 0) (.fi [1, 1])) (rfl)
theorem om65 {n0 : Nat} : (1 : Nat) ≤ n0 → Max.max n0 (1 : Nat) = n0 := ck [n0] [] [] (.eq true (.b 6 (.v 0) (.k 1)) (.v 0)) [(.le true (.k 1) (.v 0))] (.al (.tw true (.b 6 (.v 0) (.k 1)) (.fi [0, 1, 0, 1]) (.fi [1, 1, 0, 1])) (.tw true (.b 6 (.v 0) (.k 1)) (.fi [0, 0, 1, 1]) (.fi [0, 0, 1, 1, 1]))) (rfl)
theorem om66 {n0 : Nat} : (1 : Nat) ≤ n0 → n0 - (1 : Nat) < n0 := ck [n0] [] [] (.lt true (.b 1 (.v 0) (.k 1)) (.v 0)) [(.le true (.k 1) (.v 0))] (.tw true (.b 1 (.v 0) (.k 1)) (.fi [0, 0, 1, 1]) (.fi [0, 1, 1, 1])) (rfl)
theorem om67 {n0 : Nat} : (1 : Nat) ≤ n0 → n0 ≠ n0 - (1 : Nat) := ck [n0] [] [] (.no (.eq true (.v 0) (.b 1 (.v 0) (.k 1)))) [(.le true (.k 1) (.v 0))] (.tw true (.b 1 (.v 0) (.k 1)) (.fi [0, 0, 1, 0, 1]) (.fi [0, 1, 0, 1, 1])) (rfl)
theorem om68 {n0 : Nat} : (1 : Nat) ≤ n0 → ¬n0 > (1 : Nat) → n0 = (1 : Nat) := ck [n0] [] [] (.eq true (.v 0) (.k 1)) [(.le true (.k 1) (.v 0)), (.no (.lt true (.k 1) (.v 0)))] (.al (.fi [1, 0, 1]) (.fi [1, 1])) (rfl)
theorem om69 {n0 : Nat} : (1 : Nat) ≤ n0 ∧ n0 < (1000 : Nat) → (1 : Nat) ≤ n0 := ck [n0] [] [] (.le true (.k 1) (.v 0)) [(.an (.le true (.k 1) (.v 0)) (.lt true (.v 0) (.k 1000)))] (.fi [1, 0, 1]) (rfl)
theorem om70 {n0 : Nat} : (1 : Nat) ≤ n0 ∧ n0 < (1000 : Nat) → n0 ≤ (2 : Nat) ^ (24 : Nat) := ck [n0] [] [] (.le true (.v 0) (.k 16777216)) [(.an (.le true (.k 1) (.v 0)) (.lt true (.v 0) (.k 1000)))] (.fi [1, 1]) (rfl)
theorem om71 {n0 : Nat} : (2 : Int) < (↑n0 : Int) → (3 : Nat) ≤ n0 := ck [n0] [] [] (.le true (.k 3) (.v 0)) [(.lt false (.k 2) (.u 1 (.v 0)))] (.fi [1, 1]) (rfl)
theorem om72 {n0 : Nat} : (2 : Nat) * n0 + (1 : Nat) + (1 : Nat) = (2 : Nat) * n0 + (1 : Nat) ∨ (2 : Nat) * n0 + (1 : Nat) + (1 : Nat) = (2 : Nat) * n0 + (1 : Nat) + (1 : Nat) := ck [n0] [] [] (.or (.eq true (.b 0 (.b 0 (.b 2 (.k 2) (.v 0)) (.k 1)) (.k 1)) (.b 0 (.b 2 (.k 2) (.v 0)) (.k 1))) (.eq true (.b 0 (.b 0 (.b 2 (.k 2) (.v 0)) (.k 1)) (.k 1)) (.b 0 (.b 0 (.b 2 (.k 2) (.v 0)) (.k 1)) (.k 1)))) [] (.al (.fi [1]) (.al (.fi [1]) (.fi [1]))) (rfl)
theorem om73 {n0 : Nat} : (2 : Nat) * n0 + (1 : Nat) = (2 : Nat) * n0 + (1 : Nat) ∨ (2 : Nat) * n0 + (1 : Nat) = (2 : Nat) * n0 + (1 : Nat) + (1 : Nat) := ck [n0] [] [] (.or (.eq true (.b 0 (.b 2 (.k 2) (.v 0)) (.k 1)) (.b 0 (.b 2 (.k 2) (.v 0)) (.k 1))) (.eq true (.b 0 (.b 2 (.k 2) (.v 0)) (.k 1)) (.b 0 (.b 0 (.b 2 (.k 2) (.v 0)) (.k 1)) (.k 1)))) [] (.al (.fi [1]) (.fi [1])) (rfl)
theorem om74 {n0 : Nat} : (2 : Nat) ≤ n0 → (0 : Nat) < n0 := ck [n0] [] [] (.lt true (.k 0) (.v 0)) [(.le true (.k 2) (.v 0))] (.fi [1, 1]) (rfl)
theorem om75 {n0 : Nat} : (2 : Nat) ≤ n0 → (1 : Nat) + (n0 - (1 : Nat)) = n0 := ck [n0] [] [] (.eq true (.b 0 (.k 1) (.b 1 (.v 0) (.k 1))) (.v 0)) [(.le true (.k 2) (.v 0))] (.al (.tw true (.b 1 (.v 0) (.k 1)) (.fi [0, 1, 0, 1]) (.fi [1, 0, 0, 1])) (.tw true (.b 1 (.v 0) (.k 1)) (.fi [0, 0, 1, 1]) (.fi [1, 0, 0, 1]))) (rfl)
theorem om76 {n0 : Nat} : (2 : Nat) ≤ n0 → (1 : Nat) ≤ n0 := ck [n0] [] [] (.le true (.k 1) (.v 0)) [(.le true (.k 2) (.v 0))] (.fi [1, 1]) (rfl)
theorem om77 {n0 : Nat} : (2 : Nat) ≤ n0 → (2 : Nat) + (n0 - (2 : Nat)) = n0 := ck [n0] [] [] (.eq true (.b 0 (.k 2) (.b 1 (.v 0) (.k 2))) (.v 0)) [(.le true (.k 2) (.v 0))] (.al (.tw true (.b 1 (.v 0) (.k 2)) (.fi [0, 1, 0, 1]) (.ow true (.b 1 (.v 0) (.k 2)) (.fi [1, 1, 0, 1]))) (.tw true (.b 1 (.v 0) (.k 2)) (.fi [0, 0, 1, 1]) (.fi [0, 1, 1, 1]))) (rfl)
theorem om78 {n0 : Nat} : (3 : Nat) ≤ (3 : Nat) + n0 := ck [n0] [] [] (.le true (.k 3) (.b 0 (.k 3) (.v 0))) [] (.ow true (.v 0) (.fi [1, 1])) (rfl)
theorem om79 {n0 : Nat} : (3 : Nat) ≤ n0 → (0 : Int) < (↑n0 : Int) := ck [n0] [] [] (.lt false (.k 0) (.u 1 (.v 0))) [(.le true (.k 3) (.v 0))] (.fi [1, 1]) (rfl)
theorem om80 {n0 : Nat} : (3 : Nat) ≤ n0 → (3 : Nat) + (n0 - (3 : Nat)) = n0 := ck [n0] [] [] (.eq true (.b 0 (.k 3) (.b 1 (.v 0) (.k 3))) (.v 0)) [(.le true (.k 3) (.v 0))] (.al (.tw true (.b 1 (.v 0) (.k 3)) (.fi [0, 1, 0, 1]) (.ow true (.b 1 (.v 0) (.k 3)) (.fi [1, 1, 0, 1]))) (.tw true (.b 1 (.v 0) (.k 3)) (.fi [0, 0, 1, 1]) (.fi [0, 1, 1, 1]))) (rfl)
theorem om81 {n0 : Nat} : (3 : Nat) ≤ n0 → (↑n0 : Int) ≠ (0 : Int) := ck [n0] [] [] (.no (.eq false (.u 1 (.v 0)) (.k 0))) [(.le true (.k 3) (.v 0))] (.fi [0, 1, 1]) (rfl)
theorem om82 {n0 : Nat} : (3 : Nat) ≤ n0 → ¬(↑n0 : Int) < (3 : Int) := ck [n0] [] [] (.no (.lt false (.u 1 (.v 0)) (.k 3))) [(.le true (.k 3) (.v 0))] (.fi [1, 1]) (rfl)
theorem om83 {n0 : Nat} : (4 : Nat) ≤ n0 ∧ n0 < (900 : Nat) → (↑n0 : Int) < (1000 : Int) := ck [n0] [] [] (.lt false (.u 1 (.v 0)) (.k 1000)) [(.an (.le true (.k 4) (.v 0)) (.lt true (.v 0) (.k 900)))] (.fi [1, 1]) (rfl)
theorem om84 {n0 : Nat} : (4 : Nat) ≤ n0 ∧ n0 < (900 : Nat) → n0 < (100000 : Nat) := ck [n0] [] [] (.lt true (.v 0) (.k 100000)) [(.an (.le true (.k 4) (.v 0)) (.lt true (.v 0) (.k 900)))] (.fi [1, 1]) (rfl)
theorem om85 {n0 : Nat} : (4 : Nat) ≤ n0 ∧ n0 ≤ (11 : Nat) → (0 : Int) ≤ (↑n0 : Int) - (1 : Int) ∧ (↑n0 : Int) - (1 : Int) < (1000 : Int) := ck [n0] [] [] (.an (.le false (.k 0) (.b 1 (.u 1 (.v 0)) (.k 1))) (.lt false (.b 1 (.u 1 (.v 0)) (.k 1)) (.k 1000))) [(.an (.le true (.k 4) (.v 0)) (.le true (.v 0) (.k 11)))] (.al (.fi [1, 0, 1]) (.fi [1, 1])) (rfl)
theorem om86 {n0 : Nat} : (4 : Nat) ≤ n0 ∧ n0 ≤ (11 : Nat) → (0 : Nat) < n0 := ck [n0] [] [] (.lt true (.k 0) (.v 0)) [(.an (.le true (.k 4) (.v 0)) (.le true (.v 0) (.k 11)))] (.fi [1, 0, 1]) (rfl)
theorem om87 {n0 : Nat} : (4 : Nat) ≤ n0 ∧ n0 ≤ (11 : Nat) → (1 : Nat) < n0 := ck [n0] [] [] (.lt true (.k 1) (.v 0)) [(.an (.le true (.k 4) (.v 0)) (.le true (.v 0) (.k 11)))] (.fi [1, 0, 1]) (rfl)
theorem om88 {n0 : Nat} : (4 : Nat) ≤ n0 ∧ n0 ≤ (11 : Nat) → (2 : Int) ≤ (↑n0 : Int) - (1 : Int) := ck [n0] [] [] (.le false (.k 2) (.b 1 (.u 1 (.v 0)) (.k 1))) [(.an (.le true (.k 4) (.v 0)) (.le true (.v 0) (.k 11)))] (.fi [1, 0, 1]) (rfl)
theorem om89 {n0 : Nat} : (4 : Nat) ≤ n0 ∧ n0 ≤ (11 : Nat) → (2 : Nat) < n0 := ck [n0] [] [] (.lt true (.k 2) (.v 0)) [(.an (.le true (.k 4) (.v 0)) (.le true (.v 0) (.k 11)))] (.fi [1, 0, 1]) (rfl)
theorem om90 {n0 : Nat} : (4 : Nat) ≤ n0 ∧ n0 ≤ (11 : Nat) → (3 : Nat) + (n0 - (3 : Nat)) < (100000 : Nat) := ck [n0] [] [] (.lt true (.b 0 (.k 3) (.b 1 (.v 0) (.k 3))) (.k 100000)) [(.an (.le true (.k 4) (.v 0)) (.le true (.v 0) (.k 11)))] (.tw true (.b 1 (.v 0) (.k 3)) (.fi [0, 0, 1, 1, 1]) (.fi [0, 1, 1])) (rfl)
theorem om91 {n0 : Nat} : (4 : Nat) ≤ n0 ∧ n0 ≤ (11 : Nat) → (3 : Nat) + (n0 - (3 : Nat)) = n0 := ck [n0] [] [] (.eq true (.b 0 (.k 3) (.b 1 (.v 0) (.k 3))) (.v 0)) [(.an (.le true (.k 4) (.v 0)) (.le true (.v 0) (.k 11)))] (.al (.tw true (.b 1 (.v 0) (.k 3)) (.fi [0, 1, 0, 1]) (.fi [1, 0, 0, 0, 1])) (.tw true (.b 1 (.v 0) (.k 3)) (.fi [0, 0, 1, 1]) (.fi [1, 0, 0, 0, 1]))) (rfl)
theorem om92 {n0 : Nat} : (4 : Nat) ≤ n0 ∧ n0 ≤ (11 : Nat) → (↑n0 : Int) - (1 : Int) < (1000 : Int) := ck [n0] [] [] (.lt false (.b 1 (.u 1 (.v 0)) (.k 1)) (.k 1000)) [(.an (.le true (.k 4) (.v 0)) (.le true (.v 0) (.k 11)))] (.fi [1, 1]) (rfl)
theorem om93 {n0 : Nat} : (4 : Nat) ≤ n0 ∧ n0 ≤ (11 : Nat) → (↑n0 : Int) - (1 : Int) = (↑(n0 - (1 : Nat)) : Int) := ck [n0] [] [] (.eq false (.b 1 (.u 1 (.v 0)) (.k 1)) (.u 1 (.b 1 (.v 0) (.k 1)))) [(.an (.le true (.k 4) (.v 0)) (.le true (.v 0) (.k 11)))] (.al (.tw true (.b 1 (.v 0) (.k 1)) (.fi [0, 0, 1, 1]) (.fi [1, 0, 0, 0, 1])) (.tw true (.b 1 (.v 0) (.k 1)) (.fi [0, 1, 0, 1]) (.fi [1, 0, 0, 0, 1]))) (rfl)
theorem om94 {n0 : Nat} : (4 : Nat) ≤ n0 ∧ n0 ≤ (11 : Nat) → (↑n0 : Int) - (3 : Int) = (↑(n0 - (3 : Nat)) : Int) := ck [n0] [] [] (.eq false (.b 1 (.u 1 (.v 0)) (.k 3)) (.u 1 (.b 1 (.v 0) (.k 3)))) [(.an (.le true (.k 4) (.v 0)) (.le true (.v 0) (.k 11)))] (.al (.tw true (.b 1 (.v 0) (.k 3)) (.fi [0, 0, 1, 1]) (.fi [1, 0, 0, 0, 1])) (.tw true (.b 1 (.v 0) (.k 3)) (.fi [0, 1, 0, 1]) (.fi [1, 0, 0, 0, 1]))) (rfl)
theorem om95 {n0 : Nat} : (4 : Nat) ≤ n0 ∧ n0 ≤ (11 : Nat) → (↑n0 : Int) < (1000 : Int) := ck [n0] [] [] (.lt false (.u 1 (.v 0)) (.k 1000)) [(.an (.le true (.k 4) (.v 0)) (.le true (.v 0) (.k 11)))] (.fi [1, 1]) (rfl)
theorem om96 {n0 : Nat} : (4 : Nat) ≤ n0 ∧ n0 ≤ (11 : Nat) → n0 - (1 : Nat) < n0 := ck [n0] [] [] (.lt true (.b 1 (.v 0) (.k 1)) (.v 0)) [(.an (.le true (.k 4) (.v 0)) (.le true (.v 0) (.k 11)))] (.tw true (.b 1 (.v 0) (.k 1)) (.fi [0, 0, 1, 1]) (.fi [1, 0, 0, 0, 1])) (rfl)
theorem om97 {n0 : Nat} : (4 : Nat) ≤ n0 ∧ n0 ≤ (11 : Nat) → n0 - (3 : Nat) ≤ (200 : Nat) := ck [n0] [] [] (.le true (.b 1 (.v 0) (.k 3)) (.k 200)) [(.an (.le true (.k 4) (.v 0)) (.le true (.v 0) (.k 11)))] (.tw true (.b 1 (.v 0) (.k 3)) (.fi [0, 0, 1, 1, 1]) (.fi [0, 1, 1])) (rfl)
theorem om98 {n0 : Nat} : (4 : Nat) ≤ n0 ∧ n0 ≤ (11 : Nat) → n0 < (1000 : Nat) := ck [n0] [] [] (.lt true (.v 0) (.k 1000)) [(.an (.le true (.k 4) (.v 0)) (.le true (.v 0) (.k 11)))] (.fi [1, 1]) (rfl)
theorem om99 {n0 : Nat} : (4 : Nat) ≤ n0 ∧ n0 ≤ (11 : Nat) → n0 < (100000 : Nat) := ck [n0] [] [] (.lt true (.v 0) (.k 100000)) [(.an (.le true (.k 4) (.v 0)) (.le true (.v 0) (.k 11)))] (.fi [1, 1]) (rfl)
theorem om100 {n0 : Nat} : (4 : Nat) ≤ n0 ∧ n0 ≤ (11 : Nat) → n0 ≤ (200 : Nat) := ck [n0] [] [] (.le true (.v 0) (.k 200)) [(.an (.le true (.k 4) (.v 0)) (.le true (.v 0) (.k 11)))] (.fi [1, 1]) (rfl)
theorem om101 {n0 : Nat} : (↑(n0 + (1 : Nat)) : Int) - (1 : Int) = (↑n0 : Int) := ck [n0] [] [] (.eq false (.b 1 (.u 1 (.b 0 (.v 0) (.k 1))) (.k 1)) (.u 1 (.v 0))) [] (.al (.fi [1]) (.fi [1])) (rfl)
theorem om102 {n0 : Nat} : -(2 : Int) ^ (63 : Nat) ≤ (↑n0 : Int) := ck [n0] [] [] (.le false (.u 0 (.k 9223372036854775808)) (.u 1 (.v 0))) [] (.ow true (.v 0) (.fi [1, 1])) (rfl)
theorem om103 {n0 : Nat} : Min.min (24 : Nat) n0 < (900 : Nat) := ck [n0] [] [] (.lt true (.b 5 (.k 24) (.v 0)) (.k 900)) [] (.tw true (.b 5 (.k 24) (.v 0)) (.fi [0, 0, 1, 1]) (.fi [1, 0, 1, 1])) (rfl)
theorem om104 {n0 : Nat} : n0 + (1 : Nat) < (900 : Nat) → n0 + (1 : Nat) < (1000 : Nat) := ck [n0] [] [] (.lt true (.b 0 (.v 0) (.k 1)) (.k 1000)) [(.lt true (.b 0 (.v 0) (.k 1)) (.k 900))] (.fi [1, 1]) (rfl)
theorem om105 {n0 : Nat} : n0 + (1 : Nat) < (900 : Nat) → n0 < (900 : Nat) := ck [n0] [] [] (.lt true (.v 0) (.k 900)) [(.lt true (.b 0 (.v 0) (.k 1)) (.k 900))] (.fi [1, 1]) (rfl)
theorem om106 {n0 : Nat} : n0 + (1 : Nat) ≤ (200 : Nat) → n0 ≤ (200 : Nat) := ck [n0] [] [] (.le true (.v 0) (.k 200)) [(.le true (.b 0 (.v 0) (.k 1)) (.k 200))] (.fi [1, 1]) (rfl)
theorem om107 {n0 : Nat} : n0 - (0 : Nat) ≤ n0 := ck [n0] [] [] (.le true (.b 1 (.v 0) (.k 0)) (.v 0)) [] (.tw true (.b 1 (.v 0) (.k 0)) (.fi [0, 0, 1, 1]) (.ow true (.v 0) (.fi [1, 0, 1, 1]))) (rfl)
theorem om108 {n0 : Nat} : n0 - (1 : Nat) = ((-1 : Int) + (↑n0 : Int)).toNat := ck [n0] [] [] (.eq true (.b 1 (.v 0) (.k 1)) (.u 2 (.b 0 (.u 0 (.k 1)) (.u 1 (.v 0))))) [] (.al (.tw true (.b 1 (.v 0) (.k 1)) (.tw true (.u 2 (.b 0 (.u 0 (.k 1)) (.u 1 (.v 0)))) (.fi [0, 0, 1, 0, 1, 0, 1]) (.fi [0, 1, 1, 1, 0, 1])) (.tw true (.u 2 (.b 0 (.u 0 (.k 1)) (.u 1 (.v 0)))) (.ow true (.b 1 (.v 0) (.k 1)) (.fi [1, 0, 0, 1, 1, 0, 1])) (.ow true (.b 1 (.v 0) (.k 1)) (.fi [1, 0, 1, 0, 0, 1])))) (.tw true (.u 2 (.b 0 (.u 0 (.k 1)) (.u 1 (.v 0)))) (.tw true (.b 1 (.v 0) (.k 1)) (.fi [0, 0, 1, 0, 1, 0, 1]) (.fi [0, 1, 1, 1, 0, 1])) (.tw true (.b 1 (.v 0) (.k 1)) (.ow true (.u 2 (.b 0 (.u 0 (.k 1)) (.u 1 (.v 0)))) (.fi [1, 0, 0, 1, 1, 0, 1])) (.ow true (.u 2 (.b 0 (.u 0 (.k 1)) (.u 1 (.v 0)))) (.fi [1, 0, 1, 0, 0, 1]))))) (rfl)
theorem om109 {n0 : Nat} : n0 < (0 : Nat) → False := ck [n0] [] [] .ff [(.lt true (.v 0) (.k 0))] (.ow true (.v 0) (.fi [1, 1])) (rfl)
theorem om110 {n0 : Nat} : n0 < (1000 : Nat) → n0 < (100000 : Nat) := ck [n0] [] [] (.lt true (.v 0) (.k 100000)) [(.lt true (.v 0) (.k 1000))] (.fi [1, 1]) (rfl)
theorem om111 {n0 : Nat} : n0 < (10000 : Nat) → n0 ≤ (2 : Nat) ^ (24 : Nat) := ck [n0] [] [] (.le true (.v 0) (.k 16777216)) [(.lt true (.v 0) (.k 10000))] (.fi [1, 1]) (rfl)
theorem om112 {n0 : Nat} : n0 < (100000 : Nat) → (↑n0 : Int) < (2 : Int) ^ (63 : Nat) := ck [n0] [] [] (.lt false (.u 1 (.v 0)) (.k 9223372036854775808)) [(.lt true (.v 0) (.k 100000))] (.fi [1, 1]) (rfl)
theorem om113 {n0 : Nat} : n0 < (100000 : Nat) → n0 + (1 : Nat) ≤ (2 : Nat) ^ (24 : Nat) := ck [n0] [] [] (.le true (.b 0 (.v 0) (.k 1)) (.k 16777216)) [(.lt true (.v 0) (.k 100000))] (.fi [1, 1]) (rfl)
theorem om114 {n0 : Nat} : n0 < (100000 : Nat) → n0 ≤ (2 : Nat) ^ (24 : Nat) := ck [n0] [] [] (.le true (.v 0) (.k 16777216)) [(.lt true (.v 0) (.k 100000))] (.fi [1, 1]) (rfl)
theorem om115 {n0 : Nat} : n0 < (11 : Nat) → ((((7 : Int) * (↑n0 : Int) + (3 : Int)) % (11 : Int) - (3 : Int)) * (8 : Int) % (11 : Int)).toNat = n0 := by
  omega
theorem om116 {n0 : Nat} : n0 < (2 : Nat) → n0 = (0 : Nat) ∨ n0 = (1 : Nat) := ck [n0] [] [] (.or (.eq true (.v 0) (.k 0)) (.eq true (.v 0) (.k 1))) [(.lt true (.v 0) (.k 2))] (.al (.ow true (.v 0) (.fi [1, 1])) (.al (.fi [1, 1]) (.fi [1, 0, 1]))) (rfl)
theorem om117 {n0 : Nat} : n0 < (3 : Nat) → (↑n0 : Int) < (3 : Int) := ck [n0] [] [] (.lt false (.u 1 (.v 0)) (.k 3)) [(.lt true (.v 0) (.k 3))] (.fi [1, 1]) (rfl)
theorem om118 {n0 : Nat} : n0 < (3 : Nat) → n0 = (0 : Nat) ∨ n0 = (1 : Nat) ∨ n0 = (2 : Nat) := ck [n0] [] [] (.or (.eq true (.v 0) (.k 0)) (.or (.eq true (.v 0) (.k 1)) (.eq true (.v 0) (.k 2)))) [(.lt true (.v 0) (.k 3))] (.al (.ow true (.v 0) (.fi [1, 1])) (.al (.fi [1, 1]) (.al (.fi [1, 1]) (.fi [1, 0, 0, 1])))) (rfl)
theorem om119 {n0 : Nat} : n0 < (3 : Nat) → ¬n0 < (3 : Nat) → False := ck [n0] [] [] .ff [(.lt true (.v 0) (.k 3)), (.no (.lt true (.v 0) (.k 3)))] (.fi [1, 1]) (rfl)
theorem om120 {n0 : Nat} : n0 < (800 : Nat) → n0 < (900 : Nat) := ck [n0] [] [] (.lt true (.v 0) (.k 900)) [(.lt true (.v 0) (.k 800))] (.fi [1, 1]) (rfl)
theorem om121 {n0 : Nat} : n0 < (900 : Nat) → n0 + (1 : Nat) < (1000 : Nat) := ck [n0] [] [] (.lt true (.b 0 (.v 0) (.k 1)) (.k 1000)) [(.lt true (.v 0) (.k 900))] (.fi [1, 1]) (rfl)
theorem om122 {n0 : Nat} : n0 < (900 : Nat) → n0 + (1 : Nat) < (100000 : Nat) := ck [n0] [] [] (.lt true (.b 0 (.v 0) (.k 1)) (.k 100000)) [(.lt true (.v 0) (.k 900))] (.fi [1, 1]) (rfl)
theorem om123 {n0 : Nat} : n0 < (900 : Nat) → n0 < (1000 : Nat) := ck [n0] [] [] (.lt true (.v 0) (.k 1000)) [(.lt true (.v 0) (.k 900))] (.fi [1, 1]) (rfl)
theorem om124 {n0 : Nat} : n0 < (900 : Nat) → n0 < (10000 : Nat) := ck [n0] [] [] (.lt true (.v 0) (.k 10000)) [(.lt true (.v 0) (.k 900))] (.fi [1, 1]) (rfl)
theorem om125 {n0 : Nat} : n0 < (900 : Nat) → n0 < (100000 : Nat) := ck [n0] [] [] (.lt true (.v 0) (.k 100000)) [(.lt true (.v 0) (.k 900))] (.fi [1, 1]) (rfl)
theorem om126 {n0 : Nat} : n0 < n0 + (1 : Nat) := ck [n0] [] [] (.lt true (.v 0) (.b 0 (.v 0) (.k 1))) [] (.fi [1]) (rfl)
theorem om127 {n0 : Nat} : n0 = (0 : Nat) → (-1 : Int) - (↑n0 : Int) = (-1 : Int) := ck [n0] [] [] (.eq false (.b 1 (.u 0 (.k 1)) (.u 1 (.v 0))) (.u 0 (.k 1))) [(.eq true (.v 0) (.k 0))] (.al (.fi [1, 0, 1]) (.fi [1, 1])) (rfl)
theorem om128 {n0 : Nat} : n0 = (0 : Nat) → (-2 : Int) - (↑n0 : Int) = (-2 : Int) := ck [n0] [] [] (.eq false (.b 1 (.u 0 (.k 2)) (.u 1 (.v 0))) (.u 0 (.k 2))) [(.eq true (.v 0) (.k 0))] (.al (.fi [1, 0, 1]) (.fi [1, 1])) (rfl)
theorem om129 {n0 : Nat} : n0 = (0 : Nat) ∨ n0 = (1 : Nat) ∨ n0 = (2 : Nat) ∨ (3 : Nat) ≤ n0 := ck [n0] [] [] (.or (.eq true (.v 0) (.k 0)) (.or (.eq true (.v 0) (.k 1)) (.or (.eq true (.v 0) (.k 2)) (.le true (.k 3) (.v 0))))) [] (.al (.ow true (.v 0) (.fi [1, 0, 1])) (.al (.fi [0, 1, 1]) (.al (.fi [0, 1, 1]) (.fi [1, 1])))) (rfl)
theorem om130 {n0 : Nat} : n0 > (1 : Nat) → (0 : Nat) < n0 - (1 : Nat) := ck [n0] [] [] (.lt true (.k 0) (.b 1 (.v 0) (.k 1))) [(.lt true (.k 1) (.v 0))] (.tw true (.b 1 (.v 0) (.k 1)) (.fi [0, 1, 0, 1, 1]) (.fi [1, 0, 0, 1])) (rfl)
theorem om131 {n0 : Nat} : n0 > (1 : Nat) → n0 - (1 : Nat) < n0 := ck [n0] [] [] (.lt true (.b 1 (.v 0) (.k 1)) (.v 0)) [(.lt true (.k 1) (.v 0))] (.tw true (.b 1 (.v 0) (.k 1)) (.fi [0, 0, 1, 1]) (.fi [1, 0, 0, 1])) (rfl)
theorem om132 {n0 : Nat} : n0 ≤ (1 : Nat) → n0 ≤ (2 : Nat) := ck [n0] [] [] (.le true (.v 0) (.k 2)) [(.le true (.v 0) (.k 1))] (.fi [1, 1]) (rfl)
theorem om133 {n0 : Nat} : n0 ≤ (16 : Nat) → n0 < (900 : Nat) := ck [n0] [] [] (.lt true (.v 0) (.k 900)) [(.le true (.v 0) (.k 16))] (.fi [1, 1]) (rfl)
theorem om134 {n0 : Nat} : n0 ≤ (16 : Nat) → n0 ≤ (40 : Nat) := ck [n0] [] [] (.le true (.v 0) (.k 40)) [(.le true (.v 0) (.k 16))] (.fi [1, 1]) (rfl)
theorem om135 {n0 : Nat} : n0 ≤ (2 : Nat) → Max.max (Max.max (0 : Nat) (Max.max (0 : Nat) (0 : Nat)) + (1 : Nat)) n0 ≤ (2 : Nat) := ck [n0] [] [] (.le true (.b 6 (.b 0 (.b 6 (.k 0) (.b 6 (.k 0) (.k 0))) (.k 1)) (.v 0)) (.k 2)) [(.le true (.v 0) (.k 2))] (.tw true (.b 6 (.b 0 (.b 6 (.k 0) (.b 6 (.k 0) (.k 0))) (.k 1)) (.v 0)) (.tw true (.b 6 (.k 0) (.b 6 (.k 0) (.k 0))) (.fi [0, 0, 1, 0, 0, 1, 1]) (.tw true (.b 6 (.k 0) (.k 0)) (.fi [0, 0, 1, 0, 0, 1, 0, 0, 1, 1]) (.fi [0, 0, 1, 0, 0, 1, 0, 0, 1, 1]))) (.fi [0, 0, 1, 1, 1])) (rfl)
theorem om136 {n0 : Nat} : n0 ≤ (2 : Nat) → n0 + (1 : Nat) ≤ (64 : Nat) := ck [n0] [] [] (.le true (.b 0 (.v 0) (.k 1)) (.k 64)) [(.le true (.v 0) (.k 2))] (.fi [1, 1]) (rfl)
theorem om137 {n0 : Nat} : n0 ≤ (2 : Nat) → n0 < (100000 : Nat) := ck [n0] [] [] (.lt true (.v 0) (.k 100000)) [(.le true (.v 0) (.k 2))] (.fi [1, 1]) (rfl)
theorem om138 {n0 : Nat} : n0 ≤ (200 : Nat) → n0 < (100000 : Nat) := ck [n0] [] [] (.lt true (.v 0) (.k 100000)) [(.le true (.v 0) (.k 200))] (.fi [1, 1]) (rfl)
theorem om139 {n0 : Nat} : n0 ≤ (200 : Nat) → n0 ≤ (256 : Nat) := ck [n0] [] [] (.le true (.v 0) (.k 256)) [(.le true (.v 0) (.k 200))] (.fi [1, 1]) (rfl)
theorem om140 {n0 : Nat} : n0 ≤ n0 := ck [n0] [] [] (.le true (.v 0) (.v 0)) [] (.fi [1]) (rfl)
theorem om141 {n0 : Nat} : ¬(0 : Nat) = (n0 - (1 : Nat)) / (2 : Nat) → (n0 - (1 : Nat)) / (2 : Nat) ≠ (0 : Nat) := ck [n0] [] [] (.no (.eq true (.b 3 (.b 1 (.v 0) (.k 1)) (.k 2)) (.k 0))) [(.no (.eq true (.k 0) (.b 3 (.b 1 (.v 0) (.k 1)) (.k 2))))] (.al (.fi [0, 1, 1]) (.fi [1, 0, 1])) (rfl)
theorem om142 {n0 : Nat} : ¬(2 : Int) < (↑n0 : Int) → ¬(3 : Nat) ≤ n0 := ck [n0] [] [] (.no (.le true (.k 3) (.v 0))) [(.no (.lt false (.k 2) (.u 1 (.v 0))))] (.fi [1, 1]) (rfl)
theorem om143 {n0 : Nat} : ¬(3 : Nat) ≤ n0 → n0 < (11 : Nat) := ck [n0] [] [] (.lt true (.v 0) (.k 11)) [(.no (.le true (.k 3) (.v 0)))] (.fi [1, 1]) (rfl)
theorem om144 {n0 : Nat} : ¬(3 : Nat) ≤ n0 → n0 < (3 : Nat) := ck [n0] [] [] (.lt true (.v 0) (.k 3)) [(.no (.le true (.k 3) (.v 0)))] (.fi [1, 1]) (rfl)
theorem om145 {n0 : Nat} : ¬(↑(63 : Nat) : Int) < (↑n0 : Int) → n0 ≤ (63 : Nat) := ck [n0] [] [] (.le true (.v 0) (.k 63)) [(.no (.lt false (.u 1 (.k 63)) (.u 1 (.v 0))))] (.fi [1, 1]) (rfl)
theorem om146 {n0 : Nat} : ¬(↑n0 : Int) < (0 : Int) := ck [n0] [] [] (.no (.lt false (.u 1 (.v 0)) (.k 0))) [] (.ow true (.v 0) (.fi [1, 1])) (rfl)
theorem om147 {n0 : Nat} : ¬(↑n0 : Int) < (3 : Int) → (3 : Nat) ≤ n0 := ck [n0] [] [] (.le true (.k 3) (.v 0)) [(.no (.lt false (.u 1 (.v 0)) (.k 3)))] (.fi [1, 1]) (rfl)
theorem om148 {n0 : Nat} : ¬n0 < (0 : Nat) := ck [n0] [] [] (.no (.lt true (.v 0) (.k 0))) [] (.ow true (.v 0) (.fi [1, 1])) (rfl)
theorem om149 {n0 : Nat} : ¬n0 < (3 : Nat) → (3 : Nat) ≤ n0 := ck [n0] [] [] (.le true (.k 3) (.v 0)) [(.no (.lt true (.v 0) (.k 3)))] (.fi [1, 1]) (rfl)
theorem om150 {n0 : Nat} : ¬n0 = (0 : Nat) → (0 : Nat) < n0 := ck [n0] [] [] (.lt true (.k 0) (.v 0)) [(.no (.eq true (.v 0) (.k 0)))] (.al (.ow true (.v 0) (.fi [1, 0, 1])) (.fi [1, 1])) (rfl)
theorem om151 {n0 : Nat} : ¬n0 = (0 : Nat) → (n0 - (1 : Nat)) / (2 : Nat) < n0 := ck [n0] [] [] (.lt true (.b 3 (.b 1 (.v 0) (.k 1)) (.k 2)) (.v 0)) [(.no (.eq true (.v 0) (.k 0)))] (.al (.ow true (.v 0) (.fi [1, 0, 1])) (.tw true (.b 1 (.v 0) (.k 1)) (.ow true (.b 4 (.b 1 (.v 0) (.k 1)) (.k 2)) (.fi [1, 0, 0, 1, 0, 1, 0, 1, 2])) (.ow true (.b 4 (.b 1 (.v 0) (.k 1)) (.k 2)) (.fi [1, 0, 0, 1, 0, 0, 1, 2, 2])))) (rfl)
theorem om152 {n0 : Nat} : ¬n0 = (0 : Nat) → n0 ≠ (n0 - (1 : Nat)) / (2 : Nat) := ck [n0] [] [] (.no (.eq true (.v 0) (.b 3 (.b 1 (.v 0) (.k 1)) (.k 2)))) [(.no (.eq true (.v 0) (.k 0)))] (.al (.ow true (.b 4 (.b 1 (.v 0) (.k 1)) (.k 2)) (.ow true (.b 1 (.v 0) (.k 1)) (.fi [1, 0, 1, 1, 0, 0, 2, 0, 2]))) (.tw true (.b 1 (.v 0) (.k 1)) (.ow true (.b 4 (.b 1 (.v 0) (.k 1)) (.k 2)) (.fi [1, 0, 0, 1, 0, 1, 0, 1, 0, 2])) (.ow true (.b 4 (.b 1 (.v 0) (.k 1)) (.k 2)) (.fi [1, 0, 0, 1, 0, 0, 1, 0, 2, 2])))) (rfl)
theorem om153 {n0 n1 : Nat} {p2 : Prop} : (2 : Nat) * n0 + (1 : Nat) + (1 : Nat) < n1 ∧ ¬p2 → (2 : Nat) * n0 + (1 : Nat) + (1 : Nat) < n1 := ck [n0, n1] [] [p2] (.lt true (.b 0 (.b 0 (.b 2 (.k 2) (.v 0)) (.k 1)) (.k 1)) (.v 1)) [(.an (.lt true (.b 0 (.b 0 (.b 2 (.k 2) (.v 0)) (.k 1)) (.k 1)) (.v 1)) (.no (.pr 0)))] (.fi [1, 1]) (rfl)
theorem om154 {n0 n1 : Nat} {p2 : Prop} : (2 : Nat) * n1 + (1 : Nat) + (1 : Nat) < n0 ∧ ¬p2 → n0 - ((2 : Nat) * n1 + (1 : Nat) + (1 : Nat)) < n0 - n1 := ck [n0, n1] [] [p2] (.lt true (.b 1 (.v 0) (.b 0 (.b 0 (.b 2 (.k 2) (.v 1)) (.k 1)) (.k 1))) (.b 1 (.v 0) (.v 1))) [(.an (.lt true (.b 0 (.b 0 (.b 2 (.k 2) (.v 1)) (.k 1)) (.k 1)) (.v 0)) (.no (.pr 0)))] (.tw true (.b 1 (.v 0) (.v 1)) (.tw true (.b 1 (.v 0) (.b 0 (.b 0 (.b 2 (.k 2) (.v 1)) (.k 1)) (.k 1))) (.ow true (.v 1) (.fi [1, 0, 0, 1, 0, 1, 0, 1])) (.fi [1, 0, 0, 0, 0, 0, 1])) (.ow true (.v 0) (.fi [1, 2, 0, 0, 1]))) (rfl)
theorem om155 {n0 n1 : Nat} {p2 : Prop} : n0 < n1 + (1 : Nat) → n0 ≠ n1 ∧ p2 → n0 < n1 := ck [n0, n1] [] [p2] (.lt true (.v 0) (.v 1)) [(.lt true (.v 0) (.b 0 (.v 1) (.k 1))), (.an (.no (.eq true (.v 0) (.v 1))) (.pr 0))] (.al (.fi [1, 1]) (.fi [0, 1, 1])) (rfl)
theorem om156 {n0 n1 : Nat} {z2 : Int} : (0 : Nat) < n0 → (↑(n1 + n0) : Int) ≤ z2 → (↑n1 : Int) = z2 → False := ck [n0, n1] [z2] [] .ff [(.lt true (.k 0) (.v 0)), (.le false (.u 1 (.b 0 (.v 1) (.v 0))) (.v 0)), (.eq false (.u 1 (.v 1)) (.v 0))] (.fi [1, 0, 1, 1]) (rfl)
theorem om157 {n0 n1 : Nat} {z2 : Int} : (↑(n0 + n1) : Int) ≤ z2 → (↑n0 : Int) = z2 → (↑(n0 + n1) : Int) = z2 := ck [n0, n1] [z2] [] (.eq false (.u 1 (.b 0 (.v 0) (.v 1))) (.v 0)) [(.le false (.u 1 (.b 0 (.v 0) (.v 1))) (.v 0)), (.eq false (.u 1 (.v 0)) (.v 0))] (.al (.ow true (.v 1) (.fi [1, 1, 1])) (.fi [1, 0, 0, 1])) (rfl)
theorem om158 {n0 n1 : Nat} {z2 : Int} : (↑n1 : Int) = z2 - (↑n0 : Int) → (↑(n0 + n1) : Int) = z2 := ck [n0, n1] [z2] [] (.eq false (.u 1 (.b 0 (.v 0) (.v 1))) (.v 0)) [(.eq false (.u 1 (.v 1)) (.b 1 (.v 0) (.u 1 (.v 0))))] (.al (.fi [1, 1]) (.fi [1, 0, 1])) (rfl)
theorem om159 {n0 n1 : Nat} {z2 z3 : Int} : z3 ≠ z2 → ¬(-(↑n1 : Int) < -(↑n0 : Int) ∨ -(↑n1 : Int) = -(↑n0 : Int) ∧ z3 < z2) → -(↑n0 : Int) < -(↑n1 : Int) ∨ -(↑n0 : Int) = -(↑n1 : Int) ∧ z2 < z3 := ck [n0, n1] [z2, z3] [] (.or (.lt false (.u 0 (.u 1 (.v 0))) (.u 0 (.u 1 (.v 1)))) (.an (.eq false (.u 0 (.u 1 (.v 0))) (.u 0 (.u 1 (.v 1)))) (.lt false (.v 0) (.v 1)))) [(.no (.eq false (.v 1) (.v 0))), (.no (.or (.lt false (.u 0 (.u 1 (.v 1))) (.u 0 (.u 1 (.v 0)))) (.an (.eq false (.u 0 (.u 1 (.v 1))) (.u 0 (.u 1 (.v 0)))) (.lt false (.v 1) (.v 0)))))] (.al (.al (.al (.fi [0, 1, 1]) (.fi [1, 1])) (.fi [0, 1, 0, 1])) (.al (.al (.fi [0, 1, 1]) (.fi [1, 1])) (.al (.al (.fi [1, 1]) (.fi [1, 0, 0, 1])) (.fi [1, 0, 0, 0, 1])))) (rfl)
theorem om160 {n0 n1 : Nat} : ((7 : Int) * (↑n0 : Int) + (3 : Int)) % (11 : Int) = ((7 : Int) * (↑n1 : Int) + (3 : Int)) % (11 : Int) → n0 < (11 : Nat) → n1 < (11 : Nat) → n0 = n1 := by
  omega
theorem om161 {n0 n1 : Nat} : (0 : Nat) < (n1 - (1 : Nat)) / (2 : Nat) → (n0 - (1 : Nat)) / (2 : Nat) = (n1 - (1 : Nat)) / (2 : Nat) → (n0 - (1 : Nat)) / (2 : Nat) ≠ n1 := ck [n0, n1] [] [] (.no (.eq true (.b 3 (.b 1 (.v 0) (.k 1)) (.k 2)) (.v 1))) [(.lt true (.k 0) (.b 3 (.b 1 (.v 1) (.k 1)) (.k 2))), (.eq true (.b 3 (.b 1 (.v 0) (.k 1)) (.k 2)) (.b 3 (.b 1 (.v 1) (.k 1)) (.k 2)))] (.tw true (.b 1 (.v 1) (.k 1)) (.ow true (.b 4 (.b 1 (.v 1) (.k 1)) (.k 2)) (.fi [1, 0, 0, 1, 0, 1, 0, 1, 2, 0, 0, 2])) (.ow true (.b 4 (.b 1 (.v 1) (.k 1)) (.k 2)) (.fi [1, 0, 0, 1, 0, 0, 1, 0, 0, 0, 0, 2]))) (rfl)
theorem om162 {n0 n1 : Nat} : (0 : Nat) < n0 + n1 → ¬(0 : Nat) < n1 → (0 : Nat) < n0 := ck [n0, n1] [] [] (.lt true (.k 0) (.v 0)) [(.lt true (.k 0) (.b 0 (.v 0) (.v 1))), (.no (.lt true (.k 0) (.v 1)))] (.fi [1, 1, 1]) (rfl)
theorem om163 {n0 n1 : Nat} : (0 : Nat) < n0 → (0 : Nat) < n0 + n1 := ck [n0, n1] [] [] (.lt true (.k 0) (.b 0 (.v 0) (.v 1))) [(.lt true (.k 0) (.v 0))] (.ow true (.v 1) (.fi [1, 1, 1])) (rfl)
theorem om164 {n0 n1 : Nat} : (0 : Nat) < n0 → (n0 - (1 : Nat)) / (2 : Nat) = n1 → n0 = (2 : Nat) * n1 + (1 : Nat) ∨ n0 = (2 : Nat) * n1 + (1 : Nat) + (1 : Nat) := ck [n0, n1] [] [] (.or (.eq true (.v 0) (.b 0 (.b 2 (.k 2) (.v 1)) (.k 1))) (.eq true (.v 0) (.b 0 (.b 0 (.b 2 (.k 2) (.v 1)) (.k 1)) (.k 1)))) [(.lt true (.k 0) (.v 0)), (.eq true (.b 3 (.b 1 (.v 0) (.k 1)) (.k 2)) (.v 1))] (.al (.tw true (.b 1 (.v 0) (.k 1)) (.ow true (.b 4 (.b 1 (.v 0) (.k 1)) (.k 2)) (.fi [1, 0, 0, 1, 0, 0, 0, 1, 1, 2])) (.ow true (.b 4 (.b 1 (.v 0) (.k 1)) (.k 2)) (.fi [1, 0, 0, 1, 0, 0, 1, 1, 2, 0, 1]))) (.al (.fi [1, 1]) (.tw true (.b 1 (.v 0) (.k 1)) (.ow true (.b 4 (.b 1 (.v 0) (.k 1)) (.k 2)) (.fi [0, 1, 1, 0, 0, 0, 1, 0, 1, 0, 0, 2])) (.ow true (.b 3 (.b 1 (.v 0) (.k 1)) (.k 2)) (.fi [0, 0, 0, 0, 2, 1, 0, 1, 0, 0, 2]))))) (rfl)
theorem om165 {n0 n1 : Nat} : (0 : Nat) < n0 → n1 = n0 → n0 - (1 : Nat) < n1 := ck [n0, n1] [] [] (.lt true (.b 1 (.v 0) (.k 1)) (.v 1)) [(.lt true (.k 0) (.v 0)), (.eq true (.v 1) (.v 0))] (.tw true (.b 1 (.v 0) (.k 1)) (.fi [0, 0, 1, 1, 1]) (.fi [0, 1, 1, 1, 0, 1])) (rfl)
theorem om166 {n0 n1 : Nat} : (0 : Nat) < n1 → (0 : Nat) < n0 + n1 := ck [n0, n1] [] [] (.lt true (.k 0) (.b 0 (.v 0) (.v 1))) [(.lt true (.k 0) (.v 1))] (.ow true (.v 0) (.fi [1, 1, 1])) (rfl)
theorem om167 {n0 n1 : Nat} : (0 : Nat) < n1 → n0 = (n1 - (1 : Nat)) / (2 : Nat) → ¬n0 = n1 := ck [n0, n1] [] [] (.no (.eq true (.v 0) (.v 1))) [(.lt true (.k 0) (.v 1)), (.eq true (.v 0) (.b 3 (.b 1 (.v 1) (.k 1)) (.k 2)))] (.tw true (.b 1 (.v 1) (.k 1)) (.ow true (.b 4 (.b 1 (.v 1) (.k 1)) (.k 2)) (.fi [1, 0, 0, 1, 0, 1, 0, 1, 2, 0, 0, 2])) (.ow true (.b 4 (.b 1 (.v 1) (.k 1)) (.k 2)) (.fi [1, 0, 0, 1, 0, 0, 1, 2, 0, 0, 2, 2]))) (rfl)
theorem om168 {n0 n1 : Nat} : (0 : Nat) < n1 → n0 = n1 → (0 : Nat) < n0 := ck [n0, n1] [] [] (.lt true (.k 0) (.v 0)) [(.lt true (.k 0) (.v 1)), (.eq true (.v 0) (.v 1))] (.fi [1, 1, 0, 1]) (rfl)
theorem om169 {n0 n1 : Nat} : (0 : Nat) < n1 → n0 = n1 → ¬n0 = (n1 - (1 : Nat)) / (2 : Nat) := ck [n0, n1] [] [] (.no (.eq true (.v 0) (.b 3 (.b 1 (.v 1) (.k 1)) (.k 2)))) [(.lt true (.k 0) (.v 1)), (.eq true (.v 0) (.v 1))] (.tw true (.b 1 (.v 1) (.k 1)) (.ow true (.b 4 (.b 1 (.v 1) (.k 1)) (.k 2)) (.fi [1, 0, 0, 1, 0, 1, 0, 1, 0, 2, 2])) (.ow true (.b 4 (.b 1 (.v 1) (.k 1)) (.k 2)) (.fi [1, 0, 0, 1, 0, 0, 1, 0, 2, 2, 0, 2]))) (rfl)
theorem om170 {n0 n1 : Nat} : (0 : Nat) = n1 + (1 : Nat) → (3 : Nat) ≤ n0 := ck [n0, n1] [] [] (.le true (.k 3) (.v 0)) [(.eq true (.k 0) (.b 0 (.v 1) (.k 1)))] (.ow true (.v 1) (.fi [1, 0, 1])) (rfl)
theorem om171 {n0 n1 : Nat} : (1 : Nat) + Max.max n0 n1 = (0 : Nat) → False := ck [n0, n1] [] [] .ff [(.eq true (.b 0 (.k 1) (.b 6 (.v 0) (.v 1))) (.k 0))] (.ow true (.b 6 (.v 0) (.v 1)) (.fi [1, 0, 1])) (rfl)
theorem om172 {n0 n1 : Nat} : (2 : Nat) * n0 + (1 : Nat) < n1 → (2 : Nat) * n0 + (1 : Nat) < n1 := ck [n0, n1] [] [] (.lt true (.b 0 (.b 2 (.k 2) (.v 0)) (.k 1)) (.v 1)) [(.lt true (.b 0 (.b 2 (.k 2) (.v 0)) (.k 1)) (.v 1))] (.fi [1, 1]) (rfl)
theorem om173 {n0 n1 : Nat} : (2 : Nat) * n1 + (1 : Nat) < n0 → n0 - ((2 : Nat) * n1 + (1 : Nat)) < n0 - n1 := ck [n0, n1] [] [] (.lt true (.b 1 (.v 0) (.b 0 (.b 2 (.k 2) (.v 1)) (.k 1))) (.b 1 (.v 0) (.v 1))) [(.lt true (.b 0 (.b 2 (.k 2) (.v 1)) (.k 1)) (.v 0))] (.tw true (.b 1 (.v 0) (.v 1)) (.tw true (.b 1 (.v 0) (.b 0 (.b 2 (.k 2) (.v 1)) (.k 1))) (.ow true (.v 1) (.fi [1, 0, 0, 1, 0, 1, 0, 1])) (.fi [1, 0, 0, 0, 0, 0, 1])) (.ow true (.v 0) (.fi [1, 2, 0, 0, 1]))) (rfl)
theorem om174 {n0 n1 : Nat} : (2 : Nat) ≤ n1 → n1 ≤ n0 → (1 : Nat) ≤ n0 := ck [n0, n1] [] [] (.le true (.k 1) (.v 0)) [(.le true (.k 2) (.v 1)), (.le true (.v 1) (.v 0))] (.fi [1, 1, 1]) (rfl)
theorem om175 {n0 n1 : Nat} : (3 : Nat) ≤ n0 → n0 < n1 → n0 - (3 : Nat) < n1 - (3 : Nat) := ck [n0, n1] [] [] (.lt true (.b 1 (.v 0) (.k 3)) (.b 1 (.v 1) (.k 3))) [(.le true (.k 3) (.v 0)), (.lt true (.v 0) (.v 1))] (.tw true (.b 1 (.v 1) (.k 3)) (.tw true (.b 1 (.v 0) (.k 3)) (.fi [0, 0, 1, 0, 1, 0, 1, 1]) (.fi [0, 1, 0, 1, 0, 1, 1, 1])) (.fi [1, 0, 0, 1, 1])) (rfl)
theorem om176 {n0 n1 : Nat} : (3 : Nat) ≤ n0 ∧ n0 < n1 → (4 : Nat) ≤ n1 ∧ n1 ≤ (11 : Nat) → n0 - (3 : Nat) < (8 : Nat) := ck [n0, n1] [] [] (.lt true (.b 1 (.v 0) (.k 3)) (.k 8)) [(.an (.le true (.k 3) (.v 0)) (.lt true (.v 0) (.v 1))), (.an (.le true (.k 4) (.v 1)) (.le true (.v 1) (.k 11)))] (.tw true (.b 1 (.v 0) (.k 3)) (.fi [0, 0, 1, 1, 1, 0, 1]) (.fi [0, 1, 1])) (rfl)
theorem om177 {n0 n1 : Nat} : (3 : Nat) ≤ n0 ∧ n0 < n1 → (4 : Nat) ≤ n1 ∧ n1 ≤ (11 : Nat) → n0 < (11 : Nat) := ck [n0, n1] [] [] (.lt true (.v 0) (.k 11)) [(.an (.le true (.k 3) (.v 0)) (.lt true (.v 0) (.v 1))), (.an (.le true (.k 4) (.v 1)) (.le true (.v 1) (.k 11)))] (.fi [1, 1, 0, 1]) (rfl)
theorem om178 {n0 n1 : Nat} : (3 : Nat) ≤ n1 → n1 < n0 → n0 - (1 : Nat) - n1 < n0 - (3 : Nat) := ck [n0, n1] [] [] (.lt true (.b 1 (.b 1 (.v 0) (.k 1)) (.v 1)) (.b 1 (.v 0) (.k 3))) [(.le true (.k 3) (.v 1)), (.lt true (.v 1) (.v 0))] (.tw true (.b 1 (.v 0) (.k 3)) (.tw true (.b 1 (.b 1 (.v 0) (.k 1)) (.v 1)) (.tw true (.b 1 (.v 0) (.k 1)) (.fi [0, 0, 1, 0, 0, 1, 0, 1, 0, 1, 0, 1]) (.fi [0, 1, 1, 0, 0, 0, 0, 0, 0, 0, 1])) (.fi [0, 1, 0, 1, 0, 1, 1, 1])) (.fi [1, 0, 0, 1, 1])) (rfl)
theorem om179 {n0 n1 : Nat} : (4 : Nat) ≤ n0 ∧ n0 ≤ (11 : Nat) → n0 - (1 : Nat) - n1 < (11 : Nat) := ck [n0, n1] [] [] (.lt true (.b 1 (.b 1 (.v 0) (.k 1)) (.v 1)) (.k 11)) [(.an (.le true (.k 4) (.v 0)) (.le true (.v 0) (.k 11)))] (.tw true (.b 1 (.b 1 (.v 0) (.k 1)) (.v 1)) (.tw true (.b 1 (.v 0) (.k 1)) (.ow true (.v 1) (.fi [1, 0, 0, 1, 0, 0, 1, 1, 1])) (.fi [1, 0, 0, 0, 0, 0, 0, 1])) (.fi [0, 1, 1])) (rfl)
theorem om180 {n0 n1 : Nat} : (4 : Nat) ≤ n1 → n0 + (16 : Nat) * n1 < (9900 : Nat) → n0 + (64 : Nat) < (9900 : Nat) := ck [n0, n1] [] [] (.lt true (.b 0 (.v 0) (.k 64)) (.k 9900)) [(.le true (.k 4) (.v 1)), (.lt true (.b 0 (.v 0) (.b 2 (.k 16) (.v 1))) (.k 9900))] (.fi [1, 1, 16]) (rfl)
theorem om181 {n0 n1 : Nat} : (4 : Nat) ≤ n1 ∧ n1 < (900 : Nat) → n0 < n1 → (↑n0 : Int) < (100000 : Int) := ck [n0, n1] [] [] (.lt false (.u 1 (.v 0)) (.k 100000)) [(.an (.le true (.k 4) (.v 1)) (.lt true (.v 1) (.k 900))), (.lt true (.v 0) (.v 1))] (.fi [1, 1, 1]) (rfl)
theorem om182 {n0 n1 : Nat} : (4 : Nat) ≤ n1 ∧ n1 < (900 : Nat) → n0 = n1 → n0 < (1000 : Nat) := ck [n0, n1] [] [] (.lt true (.v 0) (.k 1000)) [(.an (.le true (.k 4) (.v 1)) (.lt true (.v 1) (.k 900))), (.eq true (.v 0) (.v 1))] (.fi [1, 0, 1, 1]) (rfl)
theorem om183 {n0 n1 : Nat} : (4 : Nat) ≤ n1 ∧ n1 ≤ (11 : Nat) → n0 < (3 : Nat) → n0 < n1 := ck [n0, n1] [] [] (.lt true (.v 0) (.v 1)) [(.an (.le true (.k 4) (.v 1)) (.le true (.v 1) (.k 11))), (.lt true (.v 0) (.k 3))] (.fi [1, 1, 0, 1]) (rfl)
theorem om184 {n0 n1 : Nat} : (4 : Nat) ≤ n1 ∧ n1 ≤ (11 : Nat) → n0 < n1 → (↑n0 : Int) < (100000 : Int) := ck [n0, n1] [] [] (.lt false (.u 1 (.v 0)) (.k 100000)) [(.an (.le true (.k 4) (.v 1)) (.le true (.v 1) (.k 11))), (.lt true (.v 0) (.v 1))] (.fi [1, 1, 1]) (rfl)
theorem om185 {n0 n1 : Nat} : (4 : Nat) ≤ n1 ∧ n1 ≤ (11 : Nat) → n0 < n1 → n0 < (11 : Nat) := ck [n0, n1] [] [] (.lt true (.v 0) (.k 11)) [(.an (.le true (.k 4) (.v 1)) (.le true (.v 1) (.k 11))), (.lt true (.v 0) (.v 1))] (.fi [1, 1, 1]) (rfl)
theorem om186 {n0 n1 : Nat} : (4 : Nat) ≤ n1 ∧ n1 ≤ (11 : Nat) → n0 = n1 - (1 : Nat) → n0 < n1 := ck [n0, n1] [] [] (.lt true (.v 0) (.v 1)) [(.an (.le true (.k 4) (.v 1)) (.le true (.v 1) (.k 11))), (.eq true (.v 0) (.b 1 (.v 1) (.k 1)))] (.tw true (.b 1 (.v 1) (.k 1)) (.fi [0, 0, 1, 1, 0, 1]) (.fi [1, 0, 0, 0, 0, 0, 1])) (rfl)
theorem om187 {n0 n1 : Nat} : (4 : Nat) ≤ n1 ∧ n1 ≤ (11 : Nat) → n0 = n1 → Min.min (3 : Nat) n0 = (3 : Nat) := ck [n0, n1] [] [] (.eq true (.b 5 (.k 3) (.v 0)) (.k 3)) [(.an (.le true (.k 4) (.v 1)) (.le true (.v 1) (.k 11))), (.eq true (.v 0) (.v 1))] (.al (.tw true (.b 5 (.k 3) (.v 0)) (.fi [0, 1, 0, 1]) (.fi [1, 0, 0, 0, 1, 0, 0, 1])) (.tw true (.b 5 (.k 3) (.v 0)) (.fi [0, 0, 1, 1]) (.fi [1, 0, 1, 1]))) (rfl)
theorem om188 {n0 n1 : Nat} : (4 : Nat) ≤ n1 ∧ n1 ≤ (11 : Nat) → n0 = n1 → n0 < (1000 : Nat) := ck [n0, n1] [] [] (.lt true (.v 0) (.k 1000)) [(.an (.le true (.k 4) (.v 1)) (.le true (.v 1) (.k 11))), (.eq true (.v 0) (.v 1))] (.fi [1, 0, 1, 1]) (rfl)
theorem om189 {n0 n1 : Nat} : (4 : Nat) ≤ n1 ∧ n1 ≤ (11 : Nat) → n0 = n1 → n0 < (100000 : Nat) := ck [n0, n1] [] [] (.lt true (.v 0) (.k 100000)) [(.an (.le true (.k 4) (.v 1)) (.le true (.v 1) (.k 11))), (.eq true (.v 0) (.v 1))] (.fi [1, 0, 1, 1]) (rfl)
theorem om190 {n0 n1 : Nat} : (4 : Nat) ≤ n1 ∧ n1 ≤ (11 : Nat) → n0 ≤ (2 : Nat) * (n1 - (3 : Nat)) → n0 < (900 : Nat) := ck [n0, n1] [] [] (.lt true (.v 0) (.k 900)) [(.an (.le true (.k 4) (.v 1)) (.le true (.v 1) (.k 11))), (.le true (.v 0) (.b 2 (.k 2) (.b 1 (.v 1) (.k 3))))] (.tw true (.b 1 (.v 1) (.k 3)) (.fi [0, 0, 2, 1, 1, 2]) (.fi [0, 2, 1, 1])) (rfl)
theorem om191 {n0 n1 : Nat} : (4 : Nat) ≤ n1 ∧ n1 ≤ (11 : Nat) → n0 ≤ n1 → n0 < (20 : Nat) := ck [n0, n1] [] [] (.lt true (.v 0) (.k 20)) [(.an (.le true (.k 4) (.v 1)) (.le true (.v 1) (.k 11))), (.le true (.v 0) (.v 1))] (.fi [1, 1, 1]) (rfl)
theorem om192 {n0 n1 : Nat} : (4 : Nat) ≤ n1 ∧ n1 ≤ (11 : Nat) → n0 ≤ n1 → n0 < (900 : Nat) := ck [n0, n1] [] [] (.lt true (.v 0) (.k 900)) [(.an (.le true (.k 4) (.v 1)) (.le true (.v 1) (.k 11))), (.le true (.v 0) (.v 1))] (.fi [1, 1, 1]) (rfl)
theorem om193 {n0 n1 : Nat} : (n0 - (1 : Nat)) / (2 : Nat) = (n1 - (1 : Nat)) / (2 : Nat) → ¬n1 = (0 : Nat) → (n0 - (1 : Nat)) / (2 : Nat) ≠ n1 := ck [n0, n1] [] [] (.no (.eq true (.b 3 (.b 1 (.v 0) (.k 1)) (.k 2)) (.v 1))) [(.eq true (.b 3 (.b 1 (.v 0) (.k 1)) (.k 2)) (.b 3 (.b 1 (.v 1) (.k 1)) (.k 2))), (.no (.eq true (.v 1) (.k 0)))] (.al (.ow true (.b 4 (.b 1 (.v 1) (.k 1)) (.k 2)) (.ow true (.b 1 (.v 1) (.k 1)) (.fi [1, 0, 1, 1, 0, 0, 0, 2, 2, 2]))) (.tw true (.b 1 (.v 1) (.k 1)) (.ow true (.b 4 (.b 1 (.v 1) (.k 1)) (.k 2)) (.fi [1, 0, 0, 1, 0, 1, 0, 1, 2, 0, 0, 0, 2])) (.ow true (.b 4 (.b 1 (.v 1) (.k 1)) (.k 2)) (.fi [1, 0, 0, 1, 0, 0, 1, 2, 0, 2, 0, 2])))) (rfl)
theorem om194 {n0 n1 : Nat} : (n1 - (1 : Nat)) / (2 : Nat) ≠ (n0 - (1 : Nat)) / (2 : Nat) → n0 = (n1 - (1 : Nat)) / (2 : Nat) → (0 : Nat) < n0 := ck [n0, n1] [] [] (.lt true (.k 0) (.v 0)) [(.no (.eq true (.b 3 (.b 1 (.v 1) (.k 1)) (.k 2)) (.b 3 (.b 1 (.v 0) (.k 1)) (.k 2)))), (.eq true (.v 0) (.b 3 (.b 1 (.v 1) (.k 1)) (.k 2)))] (.al (.tw true (.b 1 (.v 0) (.k 1)) (.fi [1, 0, 0, 1]) (.ow true (.b 4 (.b 1 (.v 1) (.k 1)) (.k 2)) (.ow true (.b 1 (.v 1) (.k 1)) (.ow true (.b 4 (.b 1 (.v 0) (.k 1)) (.k 2)) (.fi [1, 0, 0, 1, 0, 1, 0, 1, 1, 0, 0, 0, 1, 0, 0, 0, 2]))))) (.ow true (.b 4 (.b 1 (.v 0) (.k 1)) (.k 2)) (.ow true (.b 1 (.v 0) (.k 1)) (.fi [1, 0, 1, 1, 0, 0, 2, 2, 0, 2])))) (rfl)
theorem om195 {n0 n1 : Nat} : (↑(n0 + n1) : Int) - (↑n0 : Int) = (↑n1 : Int) := ck [n0, n1] [] [] (.eq false (.b 1 (.u 1 (.b 0 (.v 0) (.v 1))) (.u 1 (.v 0))) (.u 1 (.v 1))) [] (.al (.fi [1]) (.fi [1])) (rfl)
theorem om196 {n0 n1 : Nat} : (↑n0 : Int) - (1 : Int) + (↑n1 : Int) * (-1 : Int) = (↑(n0 - (1 : Nat) - n1) : Int) → n0 - (1 : Nat) - n1 < n0 := ck [n0, n1] [] [] (.lt true (.b 1 (.b 1 (.v 0) (.k 1)) (.v 1)) (.v 0)) [(.eq false (.b 0 (.b 1 (.u 1 (.v 0)) (.k 1)) (.b 2 (.u 1 (.v 1)) (.u 0 (.k 1)))) (.u 1 (.b 1 (.b 1 (.v 0) (.k 1)) (.v 1))))] (.ow true (.v 1) (.fi [1, 1, 1])) (rfl)
theorem om197 {n0 n1 : Nat} : (↑n0 : Int) - (1 : Int) + (↑n1 : Int) * (-1 : Int) = (↑(n0 - (1 : Nat) - n1) : Int) → n0 - n1 = n0 - (1 : Nat) - n1 + (1 : Nat) := ck [n0, n1] [] [] (.eq true (.b 1 (.v 0) (.v 1)) (.b 0 (.b 1 (.b 1 (.v 0) (.k 1)) (.v 1)) (.k 1))) [(.eq false (.b 0 (.b 1 (.u 1 (.v 0)) (.k 1)) (.b 2 (.u 1 (.v 1)) (.u 0 (.k 1)))) (.u 1 (.b 1 (.b 1 (.v 0) (.k 1)) (.v 1))))] (.al (.tw true (.b 1 (.v 0) (.v 1)) (.fi [0, 1, 0, 1, 1]) (.ow true (.b 1 (.b 1 (.v 0) (.k 1)) (.v 1)) (.fi [1, 1, 0, 0, 1]))) (.tw true (.b 1 (.b 1 (.v 0) (.k 1)) (.v 1)) (.tw true (.b 1 (.v 0) (.v 1)) (.fi [0, 0, 1, 0, 0, 0, 1, 0, 1]) (.fi [0, 1, 1, 1, 0, 1])) (.tw true (.b 1 (.v 0) (.v 1)) (.fi [0, 0, 1, 0, 0, 1, 0, 1]) (.ow true (.b 1 (.b 1 (.v 0) (.k 1)) (.v 1)) (.fi [1, 0, 1, 0, 0, 1]))))) (rfl)
theorem om198 {n0 n1 : Nat} : (↑n0 : Int) = (↑n1 : Int) → n0 = n1 := ck [n0, n1] [] [] (.eq true (.v 0) (.v 1)) [(.eq false (.u 1 (.v 0)) (.u 1 (.v 1)))] (.al (.fi [1, 1]) (.fi [1, 0, 1])) (rfl)
theorem om199 {n0 n1 : Nat} : (↑n0 : Int) ≤ (↑(n0 + n1) : Int) := ck [n0, n1] [] [] (.le false (.u 1 (.v 0)) (.u 1 (.b 0 (.v 0) (.v 1)))) [] (.ow true (.v 1) (.fi [1, 1])) (rfl)
theorem om200 {n0 n1 : Nat} : (↑n1 : Int) < (3 : Int) → n0 = n1 → n0 < (100000 : Nat) := ck [n0, n1] [] [] (.lt true (.v 0) (.k 100000)) [(.lt false (.u 1 (.v 1)) (.k 3)), (.eq true (.v 0) (.v 1))] (.fi [1, 0, 1, 1]) (rfl)
theorem om201 {n0 n1 : Nat} : (↑n1 : Int) < (↑n0 : Int) → n0 - (n1 + (1 : Nat)) < n0 - n1 := ck [n0, n1] [] [] (.lt true (.b 1 (.v 0) (.b 0 (.v 1) (.k 1))) (.b 1 (.v 0) (.v 1))) [(.lt false (.u 1 (.v 1)) (.u 1 (.v 0)))] (.tw true (.b 1 (.v 0) (.v 1)) (.tw true (.b 1 (.v 0) (.b 0 (.v 1) (.k 1))) (.fi [0, 0, 1, 0, 1, 0, 1]) (.fi [0, 1, 0, 1, 0, 1, 1])) (.fi [1, 0, 0, 1])) (rfl)
theorem om202 {n0 n1 : Nat} : (↑n1 : Int) = (↑(n1 + n0) : Int) → n0 = (0 : Nat) := ck [n0, n1] [] [] (.eq true (.v 0) (.k 0)) [(.eq false (.u 1 (.v 1)) (.u 1 (.b 0 (.v 1) (.v 0))))] (.al (.fi [1, 0, 1]) (.fi [1, 1])) (rfl)
theorem om203 {n0 n1 : Nat} : -(↑n1 : Int) < -(↑n0 : Int) → n0 ≤ n1 := ck [n0, n1] [] [] (.le true (.v 0) (.v 1)) [(.lt false (.u 0 (.u 1 (.v 1))) (.u 0 (.u 1 (.v 0))))] (.fi [1, 1]) (rfl)
theorem om204 {n0 n1 : Nat} : -(↑n1 : Int) = -(↑n0 : Int) → n0 ≤ n1 := ck [n0, n1] [] [] (.le true (.v 0) (.v 1)) [(.eq false (.u 0 (.u 1 (.v 1))) (.u 0 (.u 1 (.v 0))))] (.fi [1, 0, 1]) (rfl)
theorem om205 {n0 n1 : Nat} : n0 + (0 : Nat) = n1 → n0 = n1 := ck [n0, n1] [] [] (.eq true (.v 0) (.v 1)) [(.eq true (.b 0 (.v 0) (.k 0)) (.v 1))] (.al (.fi [1, 1]) (.fi [1, 0, 1])) (rfl)
theorem om206 {n0 n1 : Nat} : n0 + (0 : Nat) = n1 → n0 ≤ n1 := ck [n0, n1] [] [] (.le true (.v 0) (.v 1)) [(.eq true (.b 0 (.v 0) (.k 0)) (.v 1))] (.fi [1, 0, 1]) (rfl)
theorem om207 {n0 n1 : Nat} : n0 + (0 : Nat) = n1 → ¬n0 < n1 := ck [n0, n1] [] [] (.no (.lt true (.v 0) (.v 1))) [(.eq true (.b 0 (.v 0) (.k 0)) (.v 1))] (.fi [1, 1]) (rfl)
theorem om208 {n0 n1 : Nat} : n0 + (1 : Nat) + n1 = n0 + (n1 + (1 : Nat)) := ck [n0, n1] [] [] (.eq true (.b 0 (.b 0 (.v 0) (.k 1)) (.v 1)) (.b 0 (.v 0) (.b 0 (.v 1) (.k 1)))) [] (.al (.fi [1]) (.fi [1])) (rfl)
theorem om209 {n0 n1 : Nat} : n0 + (1 : Nat) = n1 → n1 ≤ (2 : Nat) → n0 + (1 : Nat) < (100000 : Nat) := ck [n0, n1] [] [] (.lt true (.b 0 (.v 0) (.k 1)) (.k 100000)) [(.eq true (.b 0 (.v 0) (.k 1)) (.v 1)), (.le true (.v 1) (.k 2))] (.fi [1, 1, 0, 1]) (rfl)
theorem om210 {n0 n1 : Nat} : n0 + (1 : Nat) ≤ n1 → n0 ≤ n1 := ck [n0, n1] [] [] (.le true (.v 0) (.v 1)) [(.le true (.b 0 (.v 0) (.k 1)) (.v 1))] (.fi [1, 1]) (rfl)
theorem om211 {n0 n1 : Nat} : n0 + (16 : Nat) * (n1 + (1 : Nat)) < (9900 : Nat) → n0 + (1 : Nat) + (16 : Nat) * n1 < (9900 : Nat) := ck [n0, n1] [] [] (.lt true (.b 0 (.b 0 (.v 0) (.k 1)) (.b 2 (.k 16) (.v 1))) (.k 9900)) [(.lt true (.b 0 (.v 0) (.b 2 (.k 16) (.b 0 (.v 1) (.k 1)))) (.k 9900))] (.fi [1, 1]) (rfl)
theorem om212 {n0 n1 : Nat} : n0 + (16 : Nat) * (n1 + (1 : Nat)) < (9900 : Nat) → n0 + (3 : Nat) + (16 : Nat) * n1 < (9900 : Nat) := ck [n0, n1] [] [] (.lt true (.b 0 (.b 0 (.v 0) (.k 3)) (.b 2 (.k 16) (.v 1))) (.k 9900)) [(.lt true (.b 0 (.v 0) (.b 2 (.k 16) (.b 0 (.v 1) (.k 1)))) (.k 9900))] (.fi [1, 1]) (rfl)
theorem om213 {n0 n1 : Nat} : n0 + (16 : Nat) * n1 < (9900 : Nat) → n0 < (9900 : Nat) := ck [n0, n1] [] [] (.lt true (.v 0) (.k 9900)) [(.lt true (.b 0 (.v 0) (.b 2 (.k 16) (.v 1))) (.k 9900))] (.ow true (.v 1) (.fi [16, 1, 1])) (rfl)
theorem om214 {n0 n1 : Nat} : n0 + (n1 + (1 : Nat)) < (1000 : Nat) → n0 + (1 : Nat) + n1 < (1000 : Nat) := ck [n0, n1] [] [] (.lt true (.b 0 (.b 0 (.v 0) (.k 1)) (.v 1)) (.k 1000)) [(.lt true (.b 0 (.v 0) (.b 0 (.v 1) (.k 1))) (.k 1000))] (.fi [1, 1]) (rfl)
theorem om215 {n0 n1 : Nat} : n0 + n1 < (1000 : Nat) → n0 < (1000 : Nat) := ck [n0, n1] [] [] (.lt true (.v 0) (.k 1000)) [(.lt true (.b 0 (.v 0) (.v 1)) (.k 1000))] (.ow true (.v 1) (.fi [1, 1, 1])) (rfl)
theorem om216 {n0 n1 : Nat} : n0 + n1 < (100000 : Nat) → n0 + n1 ≤ (2 : Nat) ^ (24 : Nat) := ck [n0, n1] [] [] (.le true (.b 0 (.v 0) (.v 1)) (.k 16777216)) [(.lt true (.b 0 (.v 0) (.v 1)) (.k 100000))] (.fi [1, 1]) (rfl)
theorem om217 {n0 n1 : Nat} : n0 - (1 : Nat) - n1 = (0 : Nat) + n0 - (1 : Nat) - n1 := ck [n0, n1] [] [] (.eq true (.b 1 (.b 1 (.v 0) (.k 1)) (.v 1)) (.b 1 (.b 1 (.b 0 (.k 0) (.v 0)) (.k 1)) (.v 1))) [] (.al (.tw true (.b 1 (.b 1 (.v 0) (.k 1)) (.v 1)) (.tw true (.b 1 (.b 1 (.b 0 (.k 0) (.v 0)) (.k 1)) (.v 1)) (.tw true (.b 1 (.v 0) (.k 1)) (.tw true (.b 1 (.b 0 (.k 0) (.v 0)) (.k 1)) (.fi [0, 0, 1, 0, 1, 0, 0, 0, 1, 0, 1, 0, 1]) (.fi [0, 1, 1, 1, 0, 0, 0, 1, 0, 1, 0, 1])) (.tw true (.b 1 (.b 0 (.k 0) (.v 0)) (.k 1)) (.ow true (.v 1) (.fi [1, 0, 0, 1, 1, 0, 0, 0, 1, 1, 1, 0, 1])) (.ow true (.v 1) (.fi [1, 0, 1, 0, 0, 0, 0, 1, 1, 1, 0, 1])))) (.fi [0, 1, 1, 1, 0, 1])) (.tw true (.b 1 (.b 1 (.b 0 (.k 0) (.v 0)) (.k 1)) (.v 1)) (.tw true (.b 1 (.v 0) (.k 1)) (.tw true (.b 1 (.b 0 (.k 0) (.v 0)) (.k 1)) (.ow true (.b 1 (.b 1 (.v 0) (.k 1)) (.v 1)) (.fi [1, 0, 0, 1, 0, 1, 0, 0, 0, 1, 1, 0, 1])) (.ow true (.b 1 (.b 1 (.v 0) (.k 1)) (.v 1)) (.fi [1, 0, 1, 1, 1, 0, 0, 0, 1, 1, 0, 1]))) (.tw true (.b 1 (.b 0 (.k 0) (.v 0)) (.k 1)) (.ow true (.v 1) (.ow true (.b 1 (.b 1 (.v 0) (.k 1)) (.v 1)) (.fi [1, 1, 0, 0, 1, 1, 0, 0, 0, 1, 0, 0, 1]))) (.ow true (.v 1) (.ow true (.b 1 (.b 1 (.v 0) (.k 1)) (.v 1)) (.fi [1, 1, 0, 1, 0, 0, 0, 0, 1, 0, 0, 1]))))) (.ow true (.b 1 (.b 1 (.v 0) (.k 1)) (.v 1)) (.fi [1, 0, 1, 0, 0, 1])))) (.tw true (.b 1 (.b 1 (.b 0 (.k 0) (.v 0)) (.k 1)) (.v 1)) (.tw true (.b 1 (.b 1 (.v 0) (.k 1)) (.v 1)) (.tw true (.b 1 (.b 0 (.k 0) (.v 0)) (.k 1)) (.tw true (.b 1 (.v 0) (.k 1)) (.fi [0, 0, 1, 0, 1, 0, 0, 0, 1, 0, 1, 0, 1]) (.fi [0, 1, 1, 1, 0, 0, 0, 1, 0, 1, 0, 1])) (.tw true (.b 1 (.v 0) (.k 1)) (.ow true (.v 1) (.fi [1, 0, 0, 1, 1, 0, 0, 0, 1, 1, 1, 0, 1])) (.ow true (.v 1) (.fi [1, 0, 1, 0, 0, 0, 0, 1, 1, 1, 0, 1])))) (.fi [0, 1, 1, 1, 0, 1])) (.tw true (.b 1 (.b 1 (.v 0) (.k 1)) (.v 1)) (.tw true (.b 1 (.b 0 (.k 0) (.v 0)) (.k 1)) (.tw true (.b 1 (.v 0) (.k 1)) (.ow true (.b 1 (.b 1 (.b 0 (.k 0) (.v 0)) (.k 1)) (.v 1)) (.fi [1, 0, 0, 1, 0, 1, 0, 0, 0, 1, 1, 0, 1])) (.ow true (.b 1 (.b 1 (.b 0 (.k 0) (.v 0)) (.k 1)) (.v 1)) (.fi [1, 0, 1, 1, 1, 0, 0, 0, 1, 1, 0, 1]))) (.tw true (.b 1 (.v 0) (.k 1)) (.ow true (.v 1) (.ow true (.b 1 (.b 1 (.b 0 (.k 0) (.v 0)) (.k 1)) (.v 1)) (.fi [1, 1, 0, 0, 1, 1, 0, 0, 0, 1, 0, 0, 1]))) (.ow true (.v 1) (.ow true (.b 1 (.b 1 (.b 0 (.k 0) (.v 0)) (.k 1)) (.v 1)) (.fi [1, 1, 0, 1, 0, 0, 0, 0, 1, 0, 0, 1]))))) (.ow true (.b 1 (.b 1 (.b 0 (.k 0) (.v 0)) (.k 1)) (.v 1)) (.fi [1, 0, 1, 0, 0, 1]))))) (rfl)
theorem om218 {n0 n1 : Nat} : n0 - (1 : Nat) ≤ n1 → n0 ≤ n1 + (1 : Nat) := ck [n0, n1] [] [] (.le true (.v 0) (.b 0 (.v 1) (.k 1))) [(.le true (.b 1 (.v 0) (.k 1)) (.v 1))] (.tw true (.b 1 (.v 0) (.k 1)) (.fi [0, 1, 0, 1, 1]) (.ow true (.v 1) (.fi [1, 1, 0, 1]))) (rfl)
theorem om219 {n0 n1 : Nat} : n0 - (3 : Nat) < n1 → n0 - (3 : Nat) ≤ n1 := ck [n0, n1] [] [] (.le true (.b 1 (.v 0) (.k 3)) (.v 1)) [(.lt true (.b 1 (.v 0) (.k 3)) (.v 1))] (.fi [1, 1]) (rfl)
theorem om220 {n0 n1 : Nat} : n0 - (n1 + (1 : Nat)) = n0 - (1 : Nat) - n1 := ck [n0, n1] [] [] (.eq true (.b 1 (.v 0) (.b 0 (.v 1) (.k 1))) (.b 1 (.b 1 (.v 0) (.k 1)) (.v 1))) [] (.al (.tw true (.b 1 (.v 0) (.b 0 (.v 1) (.k 1))) (.tw true (.b 1 (.b 1 (.v 0) (.k 1)) (.v 1)) (.tw true (.b 1 (.v 0) (.k 1)) (.fi [0, 0, 1, 0, 0, 1, 0, 1, 0, 1]) (.ow true (.v 1) (.fi [1, 0, 1, 0, 0, 1, 1, 1, 0, 1]))) (.fi [0, 1, 1, 1, 0, 1])) (.tw true (.b 1 (.b 1 (.v 0) (.k 1)) (.v 1)) (.tw true (.b 1 (.v 0) (.k 1)) (.ow true (.b 1 (.v 0) (.b 0 (.v 1) (.k 1))) (.fi [1, 0, 0, 1, 0, 0, 1, 1, 0, 1])) (.ow true (.v 1) (.ow true (.b 1 (.v 0) (.b 0 (.v 1) (.k 1))) (.fi [1, 1, 0, 1, 0, 0, 1, 0, 0, 1])))) (.ow true (.b 1 (.v 0) (.b 0 (.v 1) (.k 1))) (.fi [1, 0, 1, 0, 0, 1])))) (.tw true (.b 1 (.b 1 (.v 0) (.k 1)) (.v 1)) (.tw true (.b 1 (.v 0) (.b 0 (.v 1) (.k 1))) (.tw true (.b 1 (.v 0) (.k 1)) (.fi [0, 1, 0, 0, 0, 1, 0, 1, 0, 1]) (.ow true (.v 1) (.fi [1, 1, 0, 0, 0, 1, 1, 1, 0, 1]))) (.fi [0, 1, 1, 1, 0, 1])) (.tw true (.b 1 (.v 0) (.b 0 (.v 1) (.k 1))) (.tw true (.b 1 (.v 0) (.k 1)) (.ow true (.b 1 (.b 1 (.v 0) (.k 1)) (.v 1)) (.fi [1, 0, 1, 0, 0, 0, 1, 1, 0, 1])) (.ow true (.v 1) (.ow true (.b 1 (.b 1 (.v 0) (.k 1)) (.v 1)) (.fi [1, 1, 1, 0, 0, 0, 1, 0, 0, 1])))) (.ow true (.b 1 (.b 1 (.v 0) (.k 1)) (.v 1)) (.fi [1, 0, 1, 0, 0, 1]))))) (rfl)
theorem om221 {n0 n1 : Nat} : n0 - n1 ≤ n0 := ck [n0, n1] [] [] (.le true (.b 1 (.v 0) (.v 1)) (.v 0)) [] (.tw true (.b 1 (.v 0) (.v 1)) (.ow true (.v 1) (.fi [1, 0, 0, 1, 1])) (.ow true (.v 0) (.fi [1, 0, 1, 1]))) (rfl)
theorem om222 {n0 n1 : Nat} : n0 < (3 : Nat) → n1 = (3 : Nat) → n0 < n1 := ck [n0, n1] [] [] (.lt true (.v 0) (.v 1)) [(.lt true (.v 0) (.k 3)), (.eq true (.v 1) (.k 3))] (.fi [1, 1, 0, 1]) (rfl)
theorem om223 {n0 n1 : Nat} : n0 < Min.min (3 : Nat) n1 → n0 < (3 : Nat) := ck [n0, n1] [] [] (.lt true (.v 0) (.k 3)) [(.lt true (.v 0) (.b 5 (.k 3) (.v 1)))] (.tw true (.b 5 (.k 3) (.v 1)) (.fi [0, 0, 1, 1, 1]) (.fi [1, 0, 1, 1, 1])) (rfl)
theorem om224 {n0 n1 : Nat} : n0 < n1 + (1 : Nat) → n0 < n1 + (1 : Nat) := ck [n0, n1] [] [] (.lt true (.v 0) (.b 0 (.v 1) (.k 1))) [(.lt true (.v 0) (.b 0 (.v 1) (.k 1)))] (.fi [1, 1]) (rfl)
theorem om225 {n0 n1 : Nat} : n0 < n1 + (1 : Nat) → n0 ≠ n1 → n0 < n1 := ck [n0, n1] [] [] (.lt true (.v 0) (.v 1)) [(.lt true (.v 0) (.b 0 (.v 1) (.k 1))), (.no (.eq true (.v 0) (.v 1)))] (.al (.fi [1, 1]) (.fi [0, 1, 1])) (rfl)
theorem om226 {n0 n1 : Nat} : n0 < n1 + (1 : Nat) → ¬n0 < n1 → n0 = n1 := ck [n0, n1] [] [] (.eq true (.v 0) (.v 1)) [(.lt true (.v 0) (.b 0 (.v 1) (.k 1))), (.no (.lt true (.v 0) (.v 1)))] (.al (.fi [1, 1]) (.fi [1, 0, 1])) (rfl)
theorem om227 {n0 n1 : Nat} : n0 < n1 + (1 : Nat) → ¬n0 = n1 → n0 < n1 := ck [n0, n1] [] [] (.lt true (.v 0) (.v 1)) [(.lt true (.v 0) (.b 0 (.v 1) (.k 1))), (.no (.eq true (.v 0) (.v 1)))] (.al (.fi [1, 1]) (.fi [0, 1, 1])) (rfl)
theorem om228 {n0 n1 : Nat} : n0 < n1 + (1 : Nat) → ¬n1 = n0 → n0 < n1 := ck [n0, n1] [] [] (.lt true (.v 0) (.v 1)) [(.lt true (.v 0) (.b 0 (.v 1) (.k 1))), (.no (.eq true (.v 1) (.v 0)))] (.al (.fi [0, 1, 1]) (.fi [1, 1])) (rfl)
theorem om229 {n0 n1 : Nat} : n0 < n1 → (3 : Nat) + Min.min n0 n1 = (3 : Nat) + n0 := ck [n0, n1] [] [] (.eq true (.b 0 (.k 3) (.b 5 (.v 0) (.v 1))) (.b 0 (.k 3) (.v 0))) [(.lt true (.v 0) (.v 1))] (.al (.tw true (.b 5 (.v 0) (.v 1)) (.fi [0, 1, 0, 1]) (.fi [1, 0, 0, 0, 1])) (.tw true (.b 5 (.v 0) (.v 1)) (.fi [0, 0, 1, 1]) (.fi [1, 0, 0, 0, 1]))) (rfl)
theorem om230 {n0 n1 : Nat} : n0 < n1 → (n0 - (1 : Nat)) / (2 : Nat) < n1 := ck [n0, n1] [] [] (.lt true (.b 3 (.b 1 (.v 0) (.k 1)) (.k 2)) (.v 1)) [(.lt true (.v 0) (.v 1))] (.tw true (.b 1 (.v 0) (.k 1)) (.ow true (.b 4 (.b 1 (.v 0) (.k 1)) (.k 2)) (.fi [1, 0, 0, 1, 0, 1, 0, 1, 2, 2])) (.ow true (.v 0) (.ow true (.b 4 (.b 1 (.v 0) (.k 1)) (.k 2)) (.fi [1, 0, 0, 1, 0, 2, 0, 1, 2, 2])))) (rfl)
theorem om231 {n0 n1 : Nat} : n0 < n1 → (↑n0 : Int) < (↑n1 : Int) := ck [n0, n1] [] [] (.lt false (.u 1 (.v 0)) (.u 1 (.v 1))) [(.lt true (.v 0) (.v 1))] (.fi [1, 1]) (rfl)
theorem om232 {n0 n1 : Nat} : n0 < n1 → Min.min n0 n1 = n0 := ck [n0, n1] [] [] (.eq true (.b 5 (.v 0) (.v 1)) (.v 0)) [(.lt true (.v 0) (.v 1))] (.al (.tw true (.b 5 (.v 0) (.v 1)) (.fi [0, 1, 0, 1]) (.fi [1, 0, 0, 0, 1])) (.tw true (.b 5 (.v 0) (.v 1)) (.fi [0, 0, 1, 1]) (.fi [1, 0, 0, 0, 1]))) (rfl)
theorem om233 {n0 n1 : Nat} : n0 < n1 → n0 + (n1 - n0) = n1 := ck [n0, n1] [] [] (.eq true (.b 0 (.v 0) (.b 1 (.v 1) (.v 0))) (.v 1)) [(.lt true (.v 0) (.v 1))] (.al (.tw true (.b 1 (.v 1) (.v 0)) (.fi [0, 1, 0, 1]) (.fi [1, 0, 0, 1])) (.tw true (.b 1 (.v 1) (.v 0)) (.fi [0, 0, 1, 1]) (.fi [1, 0, 0, 1]))) (rfl)
theorem om234 {n0 n1 : Nat} : n0 < n1 → n0 - (1 : Nat) < n1 := ck [n0, n1] [] [] (.lt true (.b 1 (.v 0) (.k 1)) (.v 1)) [(.lt true (.v 0) (.v 1))] (.tw true (.b 1 (.v 0) (.k 1)) (.fi [0, 0, 1, 1, 1]) (.ow true (.v 0) (.fi [1, 0, 1, 1, 1]))) (rfl)
theorem om235 {n0 n1 : Nat} : n0 < n1 → n0 < n1 := ck [n0, n1] [] [] (.lt true (.v 0) (.v 1)) [(.lt true (.v 0) (.v 1))] (.fi [1, 1]) (rfl)
theorem om236 {n0 n1 : Nat} : n0 < n1 → n0 < n1 + (1 : Nat) := ck [n0, n1] [] [] (.lt true (.v 0) (.b 0 (.v 1) (.k 1))) [(.lt true (.v 0) (.v 1))] (.fi [1, 1]) (rfl)
theorem om237 {n0 n1 : Nat} : n0 < n1 → n0 ≠ n1 := ck [n0, n1] [] [] (.no (.eq true (.v 0) (.v 1))) [(.lt true (.v 0) (.v 1))] (.fi [1, 0, 1]) (rfl)
theorem om238 {n0 n1 : Nat} : n0 < n1 → n0 ≤ n1 - (1 : Nat) := ck [n0, n1] [] [] (.le true (.v 0) (.b 1 (.v 1) (.k 1))) [(.lt true (.v 0) (.v 1))] (.tw true (.b 1 (.v 1) (.k 1)) (.fi [0, 1, 0, 1, 1]) (.ow true (.b 1 (.v 1) (.k 1)) (.fi [1, 1, 0, 1, 1]))) (rfl)
theorem om239 {n0 n1 : Nat} : n0 < n1 → n1 < (1000 : Nat) → (↑n0 : Int) < (100000 : Int) := ck [n0, n1] [] [] (.lt false (.u 1 (.v 0)) (.k 100000)) [(.lt true (.v 0) (.v 1)), (.lt true (.v 1) (.k 1000))] (.fi [1, 1, 1]) (rfl)
theorem om240 {n0 n1 : Nat} : n0 < n1 → n1 < (1000 : Nat) → (↑n0 : Int) < (2 : Int) ^ (63 : Nat) - (1 : Int) := ck [n0, n1] [] [] (.lt false (.u 1 (.v 0)) (.b 1 (.k 9223372036854775808) (.k 1))) [(.lt true (.v 0) (.v 1)), (.lt true (.v 1) (.k 1000))] (.fi [1, 1, 1]) (rfl)
theorem om241 {n0 n1 : Nat} : n0 < n1 → n1 < (2 : Nat) → n0 = (0 : Nat) ∧ n1 = (1 : Nat) := ck [n0, n1] [] [] (.an (.eq true (.v 0) (.k 0)) (.eq true (.v 1) (.k 1))) [(.lt true (.v 0) (.v 1)), (.lt true (.v 1) (.k 2))] (.al (.al (.ow true (.v 0) (.fi [1, 1])) (.fi [1, 1, 1])) (.al (.ow true (.v 0) (.fi [1, 1, 0, 1])) (.fi [1, 1]))) (rfl)
theorem om242 {n0 n1 : Nat} : n0 < n1 → n1 ≤ (11 : Nat) → n0 < (11 : Nat) := ck [n0, n1] [] [] (.lt true (.v 0) (.k 11)) [(.lt true (.v 0) (.v 1)), (.le true (.v 1) (.k 11))] (.fi [1, 1, 1]) (rfl)
theorem om243 {n0 n1 : Nat} : n0 < n1 → ¬n0 = n1 - (1 : Nat) → n0 < n1 - (1 : Nat) := ck [n0, n1] [] [] (.lt true (.v 0) (.b 1 (.v 1) (.k 1))) [(.lt true (.v 0) (.v 1)), (.no (.eq true (.v 0) (.b 1 (.v 1) (.k 1))))] (.al (.fi [1, 1]) (.tw true (.b 1 (.v 1) (.k 1)) (.fi [0, 1, 0, 0, 1, 1]) (.ow true (.b 1 (.v 1) (.k 1)) (.fi [1, 1, 0, 0, 1, 1])))) (rfl)
theorem om244 {n0 n1 : Nat} : n0 = (2 : Nat) * n1 + (1 : Nat) ∨ n0 = (2 : Nat) * n1 + (1 : Nat) + (1 : Nat) → (n0 - (1 : Nat)) / (2 : Nat) = n1 := ck [n0, n1] [] [] (.eq true (.b 3 (.b 1 (.v 0) (.k 1)) (.k 2)) (.v 1)) [(.or (.eq true (.v 0) (.b 0 (.b 2 (.k 2) (.v 1)) (.k 1))) (.eq true (.v 0) (.b 0 (.b 0 (.b 2 (.k 2) (.v 1)) (.k 1)) (.k 1))))] (.al (.al (.tw true (.b 1 (.v 0) (.k 1)) (.ow true (.b 4 (.b 1 (.v 0) (.k 1)) (.k 2)) (.fi [0, 1, 1, 0, 0, 0, 1, 0, 2, 1])) (.ow true (.b 3 (.b 1 (.v 0) (.k 1)) (.k 2)) (.fi [0, 0, 0, 0, 2, 1, 0, 2, 1]))) (.tw true (.b 1 (.v 0) (.k 1)) (.ow true (.b 4 (.b 1 (.v 0) (.k 1)) (.k 2)) (.fi [1, 0, 0, 1, 0, 0, 0, 1, 2, 0, 1])) (.ow true (.b 4 (.b 1 (.v 0) (.k 1)) (.k 2)) (.ow true (.v 1) (.fi [2, 1, 0, 0, 1, 0, 0, 1, 2]))))) (.al (.tw true (.b 1 (.v 0) (.k 1)) (.ow true (.b 4 (.b 1 (.v 0) (.k 1)) (.k 2)) (.fi [0, 1, 1, 0, 0, 0, 1, 0, 2, 1])) (.ow true (.b 3 (.b 1 (.v 0) (.k 1)) (.k 2)) (.fi [0, 0, 0, 0, 2, 1, 0, 2, 1]))) (.tw true (.b 1 (.v 0) (.k 1)) (.ow true (.b 4 (.b 1 (.v 0) (.k 1)) (.k 2)) (.fi [1, 0, 0, 1, 0, 0, 0, 1, 2, 0, 1])) (.ow true (.v 1) (.fi [2, 1, 0, 0, 1]))))) (rfl)
theorem om245 {n0 n1 : Nat} : n0 = (3 : Nat) + n1 → (3 : Nat) ≤ n0 := ck [n0, n1] [] [] (.le true (.k 3) (.v 0)) [(.eq true (.v 0) (.b 0 (.k 3) (.v 1)))] (.ow true (.v 1) (.fi [1, 1, 1])) (rfl)
theorem om246 {n0 n1 : Nat} : n0 = (3 : Nat) + n1 → n0 + (1 : Nat) = (3 : Nat) + (n1 + (1 : Nat)) := ck [n0, n1] [] [] (.eq true (.b 0 (.v 0) (.k 1)) (.b 0 (.k 3) (.b 0 (.v 1) (.k 1)))) [(.eq true (.v 0) (.b 0 (.k 3) (.v 1)))] (.al (.fi [1, 1]) (.fi [1, 0, 1])) (rfl)
theorem om247 {n0 n1 : Nat} : n0 = (3 : Nat) → ¬n1 < (3 : Nat) → n0 ≤ n1 := ck [n0, n1] [] [] (.le true (.v 0) (.v 1)) [(.eq true (.v 0) (.k 3)), (.no (.lt true (.v 1) (.k 3)))] (.fi [1, 1, 0, 1]) (rfl)
theorem om248 {n0 n1 : Nat} : n0 = n1 + (1 : Nat) → n0 = n1 → False := ck [n0, n1] [] [] .ff [(.eq true (.v 0) (.b 0 (.v 1) (.k 1))), (.eq true (.v 0) (.v 1))] (.fi [0, 1, 1]) (rfl)
theorem om249 {n0 n1 : Nat} : n0 = n1 + (1 : Nat) → ¬n0 < n1 := ck [n0, n1] [] [] (.no (.lt true (.v 0) (.v 1))) [(.eq true (.v 0) (.b 0 (.v 1) (.k 1)))] (.fi [1, 1]) (rfl)
theorem om250 {n0 n1 : Nat} : n0 = n1 → (1 : Nat) + n0 = n1 + (1 : Nat) := ck [n0, n1] [] [] (.eq true (.b 0 (.k 1) (.v 0)) (.b 0 (.v 1) (.k 1))) [(.eq true (.v 0) (.v 1))] (.al (.fi [1, 1]) (.fi [1, 0, 1])) (rfl)
theorem om251 {n0 n1 : Nat} : n0 = n1 → n0 - (3 : Nat) = n1 - (3 : Nat) := ck [n0, n1] [] [] (.eq true (.b 1 (.v 0) (.k 3)) (.b 1 (.v 1) (.k 3))) [(.eq true (.v 0) (.v 1))] (.al (.tw true (.b 1 (.v 0) (.k 3)) (.tw true (.b 1 (.v 1) (.k 3)) (.fi [0, 0, 1, 0, 1, 0, 1, 1]) (.fi [0, 1, 1, 1, 0, 1])) (.tw true (.b 1 (.v 1) (.k 3)) (.ow true (.b 1 (.v 0) (.k 3)) (.fi [1, 0, 0, 1, 1, 0, 1, 1])) (.ow true (.b 1 (.v 0) (.k 3)) (.fi [1, 0, 1, 0, 0, 1])))) (.tw true (.b 1 (.v 1) (.k 3)) (.tw true (.b 1 (.v 0) (.k 3)) (.fi [0, 0, 1, 0, 1, 0, 1, 0, 1]) (.fi [0, 1, 1, 1, 0, 1])) (.tw true (.b 1 (.v 0) (.k 3)) (.ow true (.b 1 (.v 1) (.k 3)) (.fi [1, 0, 0, 1, 1, 0, 1, 0, 1])) (.ow true (.b 1 (.v 1) (.k 3)) (.fi [1, 0, 1, 0, 0, 1]))))) (rfl)
theorem om252 {n0 n1 : Nat} : n0 = n1 → n0 < n1 + (1 : Nat) := ck [n0, n1] [] [] (.lt true (.v 0) (.b 0 (.v 1) (.k 1))) [(.eq true (.v 0) (.v 1))] (.fi [1, 0, 1]) (rfl)
theorem om253 {n0 n1 : Nat} : n0 = n1 → n0 ≤ n1 - (3 : Nat) + (3 : Nat) := ck [n0, n1] [] [] (.le true (.v 0) (.b 0 (.b 1 (.v 1) (.k 3)) (.k 3))) [(.eq true (.v 0) (.v 1))] (.tw true (.b 1 (.v 1) (.k 3)) (.fi [0, 1, 0, 1, 0, 1]) (.ow true (.b 1 (.v 1) (.k 3)) (.fi [1, 1, 0, 1, 0, 1]))) (rfl)
theorem om254 {n0 n1 : Nat} : n0 = n1 → n1 < (1000 : Nat) → n0 < (1000 : Nat) := ck [n0, n1] [] [] (.lt true (.v 0) (.k 1000)) [(.eq true (.v 0) (.v 1)), (.lt true (.v 1) (.k 1000))] (.fi [1, 1, 0, 1]) (rfl)
theorem om255 {n0 n1 : Nat} : n0 = n1 → n1 < (1000 : Nat) → n0 < (100000 : Nat) := ck [n0, n1] [] [] (.lt true (.v 0) (.k 100000)) [(.eq true (.v 0) (.v 1)), (.lt true (.v 1) (.k 1000))] (.fi [1, 1, 0, 1]) (rfl)
theorem om256 {n0 n1 : Nat} : n0 = n1 → n1 < (100000 : Nat) → (↑n0 : Int) < (2 : Int) ^ (63 : Nat) := ck [n0, n1] [] [] (.lt false (.u 1 (.v 0)) (.k 9223372036854775808)) [(.eq true (.v 0) (.v 1)), (.lt true (.v 1) (.k 100000))] (.fi [1, 1, 0, 1]) (rfl)
theorem om257 {n0 n1 : Nat} : n0 = n1 → n1 < (20 : Nat) → n0 < (100000 : Nat) := ck [n0, n1] [] [] (.lt true (.v 0) (.k 100000)) [(.eq true (.v 0) (.v 1)), (.lt true (.v 1) (.k 20))] (.fi [1, 1, 0, 1]) (rfl)
theorem om258 {n0 n1 : Nat} : n0 = n1 → n1 < (900 : Nat) → n0 < (10000 : Nat) := ck [n0, n1] [] [] (.lt true (.v 0) (.k 10000)) [(.eq true (.v 0) (.v 1)), (.lt true (.v 1) (.k 900))] (.fi [1, 1, 0, 1]) (rfl)
theorem om259 {n0 n1 : Nat} : n0 = n1 → n1 < (900 : Nat) → n0 < (100000 : Nat) := ck [n0, n1] [] [] (.lt true (.v 0) (.k 100000)) [(.eq true (.v 0) (.v 1)), (.lt true (.v 1) (.k 900))] (.fi [1, 1, 0, 1]) (rfl)
theorem om260 {n0 n1 : Nat} : n0 = n1 → n1 = (3 : Nat) → n0 < (10000 : Nat) := ck [n0, n1] [] [] (.lt true (.v 0) (.k 10000)) [(.eq true (.v 0) (.v 1)), (.eq true (.v 1) (.k 3))] (.fi [1, 0, 1, 0, 1]) (rfl)
theorem om261 {n0 n1 : Nat} : n0 = n1 → n1 ≤ (2 : Nat) → n0 < (1000 : Nat) := ck [n0, n1] [] [] (.lt true (.v 0) (.k 1000)) [(.eq true (.v 0) (.v 1)), (.le true (.v 1) (.k 2))] (.fi [1, 1, 0, 1]) (rfl)
theorem om262 {n0 n1 : Nat} : n0 = n1 → n1 ≤ (63 : Nat) → n0 < (100000 : Nat) := ck [n0, n1] [] [] (.lt true (.v 0) (.k 100000)) [(.eq true (.v 0) (.v 1)), (.le true (.v 1) (.k 63))] (.fi [1, 1, 0, 1]) (rfl)
theorem om263 {n0 n1 : Nat} : n0 = n1 → ¬(2 : Int) < (↑n1 : Int) → n0 < (3 : Nat) := ck [n0, n1] [] [] (.lt true (.v 0) (.k 3)) [(.eq true (.v 0) (.v 1)), (.no (.lt false (.k 2) (.u 1 (.v 1))))] (.fi [1, 1, 0, 1]) (rfl)
theorem om264 {n0 n1 : Nat} : n0 ≠ n1 → n0 ≤ n1 → n0 < n1 := ck [n0, n1] [] [] (.lt true (.v 0) (.v 1)) [(.no (.eq true (.v 0) (.v 1))), (.le true (.v 0) (.v 1))] (.al (.fi [1, 0, 1]) (.fi [0, 1, 1])) (rfl)
theorem om265 {n0 n1 : Nat} : n0 ≠ n1 → ¬(↑n0 : Int) = (↑n1 : Int) := ck [n0, n1] [] [] (.no (.eq false (.u 1 (.v 0)) (.u 1 (.v 1)))) [(.no (.eq true (.v 0) (.v 1)))] (.al (.fi [1, 0, 1]) (.fi [0, 1, 1])) (rfl)
theorem om266 {n0 n1 : Nat} : n0 ≠ n1 → ¬n0 < n1 → ¬n0 < n1 + (1 : Nat) := ck [n0, n1] [] [] (.no (.lt true (.v 0) (.b 0 (.v 1) (.k 1)))) [(.no (.eq true (.v 0) (.v 1))), (.no (.lt true (.v 0) (.v 1)))] (.al (.fi [0, 1, 1]) (.fi [1, 0, 1])) (rfl)
theorem om267 {n0 n1 : Nat} : n0 ≤ (1 : Nat) + (2 : Nat) * n1 → n0 + (2 : Nat) ≤ (1 : Nat) + (2 : Nat) * (n1 + (1 : Nat)) := ck [n0, n1] [] [] (.le true (.b 0 (.v 0) (.k 2)) (.b 0 (.k 1) (.b 2 (.k 2) (.b 0 (.v 1) (.k 1))))) [(.le true (.v 0) (.b 0 (.k 1) (.b 2 (.k 2) (.v 1))))] (.fi [1, 1]) (rfl)
theorem om268 {n0 n1 : Nat} : n0 ≤ (1 : Nat) + (2 : Nat) * n1 → n0 ≤ (1 : Nat) + (2 : Nat) * (n1 + (1 : Nat)) := ck [n0, n1] [] [] (.le true (.v 0) (.b 0 (.k 1) (.b 2 (.k 2) (.b 0 (.v 1) (.k 1))))) [(.le true (.v 0) (.b 0 (.k 1) (.b 2 (.k 2) (.v 1))))] (.fi [1, 1]) (rfl)
theorem om269 {n0 n1 : Nat} : n0 ≤ (2 : Nat) * n1 → n1 ≤ (8 : Nat) → n0 ≤ (16 : Nat) := ck [n0, n1] [] [] (.le true (.v 0) (.k 16)) [(.le true (.v 0) (.b 2 (.k 2) (.v 1))), (.le true (.v 1) (.k 8))] (.fi [1, 2, 1]) (rfl)
theorem om270 {n0 n1 : Nat} : n0 ≤ n0 - Min.min n1 n0 + n1 := ck [n0, n1] [] [] (.le true (.v 0) (.b 0 (.b 1 (.v 0) (.b 5 (.v 1) (.v 0))) (.v 1))) [] (.tw true (.b 1 (.v 0) (.b 5 (.v 1) (.v 0))) (.tw true (.b 5 (.v 1) (.v 0)) (.fi [0, 0, 1, 0, 1, 0, 1]) (.fi [1, 0, 1, 0, 1, 0, 1])) (.tw true (.b 5 (.v 1) (.v 0)) (.ow true (.b 1 (.v 0) (.b 5 (.v 1) (.v 0))) (.fi [1, 0, 0, 1, 1, 0, 1])) (.ow true (.b 1 (.v 0) (.b 5 (.v 1) (.v 0))) (.fi [1, 1, 0, 0, 0, 0, 1])))) (rfl)
theorem om271 {n0 n1 : Nat} : n0 ≤ n1 + (1 : Nat) → n0 ≤ n1 + (1 : Nat) := ck [n0, n1] [] [] (.le true (.v 0) (.b 0 (.v 1) (.k 1))) [(.le true (.v 0) (.b 0 (.v 1) (.k 1)))] (.fi [1, 1]) (rfl)
theorem om272 {n0 n1 : Nat} : n0 ≤ n1 + (1 : Nat) → n1 < (900 : Nat) → n0 ≤ (1000 : Nat) := ck [n0, n1] [] [] (.le true (.v 0) (.k 1000)) [(.le true (.v 0) (.b 0 (.v 1) (.k 1))), (.lt true (.v 1) (.k 900))] (.fi [1, 1, 1]) (rfl)
theorem om273 {n0 n1 : Nat} : n0 ≤ n1 + (1 : Nat) → n1 ≤ (1 : Nat) → n0 ≤ (2 : Nat) := ck [n0, n1] [] [] (.le true (.v 0) (.k 2)) [(.le true (.v 0) (.b 0 (.v 1) (.k 1))), (.le true (.v 1) (.k 1))] (.fi [1, 1, 1]) (rfl)
theorem om274 {n0 n1 : Nat} : n0 ≤ n1 → n0 + (n1 - n0) = n1 := ck [n0, n1] [] [] (.eq true (.b 0 (.v 0) (.b 1 (.v 1) (.v 0))) (.v 1)) [(.le true (.v 0) (.v 1))] (.al (.tw true (.b 1 (.v 1) (.v 0)) (.fi [0, 1, 0, 1]) (.ow true (.b 1 (.v 1) (.v 0)) (.fi [1, 1, 0, 1]))) (.tw true (.b 1 (.v 1) (.v 0)) (.fi [0, 0, 1, 1]) (.fi [0, 1, 1, 1]))) (rfl)
theorem om275 {n0 n1 : Nat} : n0 ≤ n1 → n0 ≤ n1 := ck [n0, n1] [] [] (.le true (.v 0) (.v 1)) [(.le true (.v 0) (.v 1))] (.fi [1, 1]) (rfl)
theorem om276 {n0 n1 : Nat} : n0 ≤ n1 → n0 ≤ n1 + (1 : Nat) := ck [n0, n1] [] [] (.le true (.v 0) (.b 0 (.v 1) (.k 1))) [(.le true (.v 0) (.v 1))] (.fi [1, 1]) (rfl)
theorem om277 {n0 n1 : Nat} : n0 ≤ n1 → n1 ≠ n0 → n0 + (1 : Nat) ≤ n1 := ck [n0, n1] [] [] (.le true (.b 0 (.v 0) (.k 1)) (.v 1)) [(.le true (.v 0) (.v 1)), (.no (.eq true (.v 1) (.v 0)))] (.al (.fi [0, 1, 1]) (.fi [1, 1])) (rfl)
theorem om278 {n0 n1 : Nat} : n0 ≤ n1 → ¬n0 < n1 → n0 = n1 := ck [n0, n1] [] [] (.eq true (.v 0) (.v 1)) [(.le true (.v 0) (.v 1)), (.no (.lt true (.v 0) (.v 1)))] (.al (.fi [1, 1]) (.fi [1, 0, 1])) (rfl)
theorem om279 {n0 n1 : Nat} : n0 ≤ n1 → ¬n1 = n0 → n0 + (1 : Nat) ≤ n1 := ck [n0, n1] [] [] (.le true (.b 0 (.v 0) (.k 1)) (.v 1)) [(.le true (.v 0) (.v 1)), (.no (.eq true (.v 1) (.v 0)))] (.al (.fi [0, 1, 1]) (.fi [1, 1])) (rfl)
theorem om280 {n0 n1 : Nat} : n0 ≤ n1 → ¬n1 = n0 → n0 < n1 := ck [n0, n1] [] [] (.lt true (.v 0) (.v 1)) [(.le true (.v 0) (.v 1)), (.no (.eq true (.v 1) (.v 0)))] (.al (.fi [0, 1, 1]) (.fi [1, 1])) (rfl)
theorem om281 {n0 n1 : Nat} : n1 + (1 : Nat) ≤ n0 → n0 = n0 - (1 : Nat) + (1 : Nat) := ck [n0, n1] [] [] (.eq true (.v 0) (.b 0 (.b 1 (.v 0) (.k 1)) (.k 1))) [(.le true (.b 0 (.v 1) (.k 1)) (.v 0))] (.al (.tw true (.b 1 (.v 0) (.k 1)) (.fi [0, 0, 1, 1]) (.ow true (.v 1) (.fi [1, 0, 1, 1, 1]))) (.tw true (.b 1 (.v 0) (.k 1)) (.fi [0, 1, 0, 1]) (.ow true (.b 1 (.v 0) (.k 1)) (.fi [1, 1, 0, 1])))) (rfl)
theorem om282 {n0 n1 : Nat} : n1 + (1 : Nat) ≤ n0 → ¬n0 < n1 := ck [n0, n1] [] [] (.no (.lt true (.v 0) (.v 1))) [(.le true (.b 0 (.v 1) (.k 1)) (.v 0))] (.fi [1, 1]) (rfl)
theorem om283 {n0 n1 : Nat} : n1 < n0 - (3 : Nat) → (3 : Nat) ≤ n0 - (1 : Nat) - n1 := ck [n0, n1] [] [] (.le true (.k 3) (.b 1 (.b 1 (.v 0) (.k 1)) (.v 1))) [(.lt true (.v 1) (.b 1 (.v 0) (.k 3)))] (.tw true (.b 1 (.v 0) (.k 3)) (.tw true (.b 1 (.b 1 (.v 0) (.k 1)) (.v 1)) (.tw true (.b 1 (.v 0) (.k 1)) (.fi [0, 1, 0, 0, 1, 0, 0, 0, 1, 1, 1]) (.fi [1, 0, 0, 0, 0, 1])) (.tw true (.b 1 (.v 0) (.k 1)) (.fi [0, 1, 0, 1, 0, 0, 0, 1, 0, 1]) (.fi [1, 0, 0, 0, 1]))) (.ow true (.v 1) (.fi [1, 0, 1, 0, 1]))) (rfl)
theorem om284 {n0 n1 : Nat} : n1 < n0 - (3 : Nat) → (3 : Nat) ≤ n0 - (1 : Nat) - n1 ∧ n0 - (1 : Nat) - n1 < n0 := ck [n0, n1] [] [] (.an (.le true (.k 3) (.b 1 (.b 1 (.v 0) (.k 1)) (.v 1))) (.lt true (.b 1 (.b 1 (.v 0) (.k 1)) (.v 1)) (.v 0))) [(.lt true (.v 1) (.b 1 (.v 0) (.k 3)))] (.al (.tw true (.b 1 (.v 0) (.k 3)) (.tw true (.b 1 (.b 1 (.v 0) (.k 1)) (.v 1)) (.tw true (.b 1 (.v 0) (.k 1)) (.fi [0, 1, 0, 0, 1, 0, 0, 0, 1, 1, 1]) (.fi [1, 0, 0, 0, 0, 1])) (.tw true (.b 1 (.v 0) (.k 1)) (.fi [0, 1, 0, 1, 0, 0, 0, 1, 0, 1]) (.fi [1, 0, 0, 0, 1]))) (.ow true (.v 1) (.fi [1, 0, 1, 0, 1]))) (.tw true (.b 1 (.v 0) (.k 3)) (.tw true (.b 1 (.b 1 (.v 0) (.k 1)) (.v 1)) (.tw true (.b 1 (.v 0) (.k 1)) (.ow true (.v 1) (.fi [1, 0, 0, 1, 0, 0, 1, 0, 0, 0, 1])) (.fi [1, 0, 0, 0, 0, 1])) (.fi [0, 1, 1, 0, 0, 1])) (.ow true (.v 1) (.fi [1, 0, 1, 0, 1])))) (rfl)
theorem om285 {n0 n1 : Nat} : n1 < n0 - (3 : Nat) → (↑n0 : Int) - (1 : Int) + (↑n1 : Int) * (-1 : Int) = (↑(n0 - (1 : Nat) - n1) : Int) := ck [n0, n1] [] [] (.eq false (.b 0 (.b 1 (.u 1 (.v 0)) (.k 1)) (.b 2 (.u 1 (.v 1)) (.u 0 (.k 1)))) (.u 1 (.b 1 (.b 1 (.v 0) (.k 1)) (.v 1)))) [(.lt true (.v 1) (.b 1 (.v 0) (.k 3)))] (.al (.tw true (.b 1 (.v 0) (.k 3)) (.tw true (.b 1 (.b 1 (.v 0) (.k 1)) (.v 1)) (.tw true (.b 1 (.v 0) (.k 1)) (.fi [0, 0, 1, 0, 0, 1, 0, 0, 0, 1]) (.fi [1, 0, 0, 0, 0, 1])) (.fi [0, 1, 0, 0, 1, 1, 1])) (.ow true (.v 1) (.fi [1, 0, 1, 0, 1]))) (.tw true (.b 1 (.v 0) (.k 3)) (.tw true (.b 1 (.b 1 (.v 0) (.k 1)) (.v 1)) (.tw true (.b 1 (.v 0) (.k 1)) (.fi [0, 1, 0, 0, 1, 0, 0, 0, 0, 1]) (.fi [1, 0, 0, 0, 0, 1])) (.tw true (.b 1 (.v 0) (.k 1)) (.fi [0, 1, 0, 1, 0, 0, 0, 1, 0, 1]) (.fi [1, 0, 0, 0, 1]))) (.ow true (.v 1) (.fi [1, 0, 1, 0, 1])))) (rfl)
theorem om286 {n0 n1 : Nat} : n1 < n0 → -(↑n0 : Int) < -(↑n1 : Int) := ck [n0, n1] [] [] (.lt false (.u 0 (.u 1 (.v 0))) (.u 0 (.u 1 (.v 1)))) [(.lt true (.v 1) (.v 0))] (.fi [1, 1]) (rfl)
theorem om287 {n0 n1 : Nat} : n1 < n0 → n0 + (1 : Nat) - (n1 + (1 : Nat)) < n0 + (1 : Nat) - n1 := ck [n0, n1] [] [] (.lt true (.b 1 (.b 0 (.v 0) (.k 1)) (.b 0 (.v 1) (.k 1))) (.b 1 (.b 0 (.v 0) (.k 1)) (.v 1))) [(.lt true (.v 1) (.v 0))] (.tw true (.b 1 (.b 0 (.v 0) (.k 1)) (.v 1)) (.tw true (.b 1 (.b 0 (.v 0) (.k 1)) (.b 0 (.v 1) (.k 1))) (.fi [0, 0, 1, 0, 1, 0, 1]) (.fi [1, 0, 0, 0, 0, 0, 1])) (.fi [1, 0, 0, 1])) (rfl)
theorem om288 {n0 n1 : Nat} : n1 < n0 → n0 - (1 : Nat) - (n0 - (1 : Nat) - n1) = n1 := ck [n0, n1] [] [] (.eq true (.b 1 (.b 1 (.v 0) (.k 1)) (.b 1 (.b 1 (.v 0) (.k 1)) (.v 1))) (.v 1)) [(.lt true (.v 1) (.v 0))] (.al (.tw true (.b 1 (.b 1 (.v 0) (.k 1)) (.b 1 (.b 1 (.v 0) (.k 1)) (.v 1))) (.tw true (.b 1 (.b 1 (.v 0) (.k 1)) (.v 1)) (.fi [0, 0, 1, 0, 1, 0, 1]) (.tw true (.b 1 (.v 0) (.k 1)) (.fi [0, 1, 0, 0, 1, 0, 1, 0, 1, 1]) (.fi [1, 0, 0, 0, 1, 1, 0, 1, 1]))) (.tw true (.b 1 (.v 0) (.k 1)) (.tw true (.b 1 (.b 1 (.v 0) (.k 1)) (.v 1)) (.ow true (.b 1 (.b 1 (.v 0) (.k 1)) (.b 1 (.b 1 (.v 0) (.k 1)) (.v 1))) (.fi [1, 0, 0, 1, 0, 0, 0, 1, 0, 1])) (.ow true (.b 1 (.b 1 (.v 0) (.k 1)) (.b 1 (.b 1 (.v 0) (.k 1)) (.v 1))) (.fi [1, 0, 1, 0, 1, 0, 1, 0, 1, 1]))) (.ow true (.b 1 (.b 1 (.v 0) (.k 1)) (.b 1 (.b 1 (.v 0) (.k 1)) (.v 1))) (.fi [1, 1, 0, 0, 0, 1, 1])))) (.tw true (.b 1 (.b 1 (.v 0) (.k 1)) (.b 1 (.b 1 (.v 0) (.k 1)) (.v 1))) (.tw true (.b 1 (.b 1 (.v 0) (.k 1)) (.v 1)) (.fi [0, 1, 0, 0, 0, 1, 1]) (.ow true (.b 1 (.b 1 (.v 0) (.k 1)) (.v 1)) (.fi [1, 1, 0, 0, 0, 1, 1]))) (.ow true (.v 1) (.fi [1, 0, 1, 1])))) (rfl)
theorem om289 {n0 n1 : Nat} : n1 < n0 → ¬n0 = n1 := ck [n0, n1] [] [] (.no (.eq true (.v 0) (.v 1))) [(.lt true (.v 1) (.v 0))] (.fi [0, 1, 1]) (rfl)
theorem om290 {n0 n1 : Nat} : n1 < n0 → ¬n0 ≤ n1 := ck [n0, n1] [] [] (.no (.le true (.v 0) (.v 1))) [(.lt true (.v 1) (.v 0))] (.fi [1, 1]) (rfl)
theorem om291 {n0 n1 : Nat} : n1 = (0 : Nat) → (↑n0 : Int) = (↑(n0 + n1) : Int) := ck [n0, n1] [] [] (.eq false (.u 1 (.v 0)) (.u 1 (.b 0 (.v 0) (.v 1)))) [(.eq true (.v 1) (.k 0))] (.al (.fi [1, 0, 1]) (.fi [1, 1])) (rfl)
theorem om292 {n0 n1 : Nat} : n1 = (2 : Nat) * n0 + (1 : Nat) ∨ n1 = (2 : Nat) * n0 + (1 : Nat) + (1 : Nat) → n0 ≠ n1 := ck [n0, n1] [] [] (.no (.eq true (.v 0) (.v 1))) [(.or (.eq true (.v 1) (.b 0 (.b 2 (.k 2) (.v 0)) (.k 1))) (.eq true (.v 1) (.b 0 (.b 0 (.b 2 (.k 2) (.v 0)) (.k 1)) (.k 1))))] (.al (.ow true (.v 1) (.fi [1, 2, 0, 1])) (.ow true (.v 1) (.fi [1, 2, 0, 1]))) (rfl)
theorem om293 {n0 n1 : Nat} : n1 = (3 : Nat) + n0 → (↑((3 : Nat) + n0) : Int) = (↑n1 : Int) := ck [n0, n1] [] [] (.eq false (.u 1 (.b 0 (.k 3) (.v 0))) (.u 1 (.v 1))) [(.eq true (.v 1) (.b 0 (.k 3) (.v 0)))] (.al (.fi [1, 0, 1]) (.fi [1, 1])) (rfl)
theorem om294 {n0 n1 : Nat} : n1 ≤ n0 → n0 - (n0 - n1) = n1 := ck [n0, n1] [] [] (.eq true (.b 1 (.v 0) (.b 1 (.v 0) (.v 1))) (.v 1)) [(.le true (.v 1) (.v 0))] (.al (.tw true (.b 1 (.v 0) (.b 1 (.v 0) (.v 1))) (.tw true (.b 1 (.v 0) (.v 1)) (.fi [0, 0, 1, 0, 1, 0, 1]) (.fi [0, 1, 0, 1, 0, 1, 1])) (.tw true (.b 1 (.v 0) (.v 1)) (.ow true (.b 1 (.v 0) (.b 1 (.v 0) (.v 1))) (.fi [1, 0, 0, 1, 1, 0, 1])) (.ow true (.b 1 (.v 0) (.b 1 (.v 0) (.v 1))) (.fi [1, 0, 1, 1, 0, 1, 1])))) (.tw true (.b 1 (.v 0) (.b 1 (.v 0) (.v 1))) (.tw true (.b 1 (.v 0) (.v 1)) (.fi [0, 1, 0, 0, 0, 1, 1]) (.ow true (.b 1 (.v 0) (.v 1)) (.fi [1, 1, 0, 0, 0, 1, 1]))) (.ow true (.v 1) (.fi [1, 0, 1, 1])))) (rfl)
theorem om295 {n0 n1 : Nat} : ¬n0 = n1 ∧ n1 ≤ n0 ↔ n1 + (1 : Nat) ≤ n0 := ck [n0, n1] [] [] (.ii (.an (.no (.eq true (.v 0) (.v 1))) (.le true (.v 1) (.v 0))) (.le true (.b 0 (.v 1) (.k 1)) (.v 0))) [] (.al (.al (.fi [0, 1, 1]) (.fi [1, 0, 1])) (.al (.fi [1, 0, 1]) (.fi [1, 1]))) (rfl)
theorem om296 {n0 n1 : Nat} : ¬n0 ≥ n1 → n0 ≤ (n0 + n1) / (2 : Nat) ∧ (n0 + n1) / (2 : Nat) < n1 := ck [n0, n1] [] [] (.an (.le true (.v 0) (.b 3 (.b 0 (.v 0) (.v 1)) (.k 2))) (.lt true (.b 3 (.b 0 (.v 0) (.v 1)) (.k 2)) (.v 1))) [(.no (.le true (.v 1) (.v 0)))] (.al (.ow true (.b 4 (.b 0 (.v 0) (.v 1)) (.k 2)) (.fi [0, 1, 1, 0, 0, 2, 1])) (.ow true (.b 4 (.b 0 (.v 0) (.v 1)) (.k 2)) (.fi [1, 0, 0, 1, 0, 2, 1]))) (rfl)
theorem om297 {n0 n1 n2 : Nat} {p3 : Prop} : n2 < n1 → p3 ∧ n2 = n0 → n0 + (1 : Nat) ≤ n1 := ck [n0, n1, n2] [] [p3] (.le true (.b 0 (.v 0) (.k 1)) (.v 1)) [(.lt true (.v 2) (.v 1)), (.an (.pr 0) (.eq true (.v 2) (.v 0)))] (.fi [1, 1, 0, 1]) (rfl)
theorem om298 {n0 n1 n2 : Nat} {z3 : Int} : n0 = (3 : Nat) + n1 → n1 = n2 → (4 : Int) + z3 % (5 : Int) = (↑n2 : Int) → (4 : Nat) ≤ n0 ∧ n0 < (900 : Nat) := ck [n0, n1, n2] [z3] [] (.an (.le true (.k 4) (.v 0)) (.lt true (.v 0) (.k 900))) [(.eq true (.v 0) (.b 0 (.k 3) (.v 1))), (.eq true (.v 1) (.v 2)), (.eq false (.b 0 (.k 4) (.b 4 (.v 0) (.k 5))) (.u 1 (.v 2)))] (.al (.ow false (.b 3 (.v 0) (.k 5)) (.fi [1, 0, 0, 0, 1, 0, 1, 1, 0, 1])) (.ow false (.b 3 (.v 0) (.k 5)) (.fi [0, 1, 0, 0, 1, 1, 0, 0, 1, 0, 1]))) (rfl)
theorem om299 {n0 n1 n2 : Nat} {z3 : Int} : n0 = (3 : Nat) + n1 → n1 = n2 → (4 : Int) + z3 % (5 : Int) = (↑n2 : Int) → n0 < (100000 : Nat) := ck [n0, n1, n2] [z3] [] (.lt true (.v 0) (.k 100000)) [(.eq true (.v 0) (.b 0 (.k 3) (.v 1))), (.eq true (.v 1) (.v 2)), (.eq false (.b 0 (.k 4) (.b 4 (.v 0) (.k 5))) (.u 1 (.v 2)))] (.ow false (.b 3 (.v 0) (.k 5)) (.fi [0, 1, 0, 0, 1, 1, 0, 0, 1, 0, 1])) (rfl)
theorem om300 {n0 n1 n2 : Nat} {z3 : Int} : n0 = n1 → n1 = n2 → (4 : Int) + z3 % (5 : Int) = (↑n2 : Int) → n0 < (900 : Nat) := ck [n0, n1, n2] [z3] [] (.lt true (.v 0) (.k 900)) [(.eq true (.v 0) (.v 1)), (.eq true (.v 1) (.v 2)), (.eq false (.b 0 (.k 4) (.b 4 (.v 0) (.k 5))) (.u 1 (.v 2)))] (.ow false (.b 3 (.v 0) (.k 5)) (.fi [0, 1, 0, 0, 1, 1, 0, 0, 1, 0, 1])) (rfl)
theorem om301 {n0 n1 n2 : Nat} {z3 : Int} : n2 < n1 → (↑n0 : Int) = z3 → z3 < (↑n2 : Int) → n0 < n1 := ck [n0, n1, n2] [z3] [] (.lt true (.v 0) (.v 1)) [(.lt true (.v 2) (.v 1)), (.eq false (.u 1 (.v 0)) (.v 0)), (.lt false (.v 0) (.u 1 (.v 2)))] (.fi [1, 1, 0, 1, 1]) (rfl)
theorem om302 {n0 n1 n2 : Nat} : (0 : Nat) < n0 → (n0 - (1 : Nat)) / (2 : Nat) = n1 → n0 < n2 → ¬(2 : Nat) * n1 + (1 : Nat) < n2 → False := ck [n0, n1, n2] [] [] .ff [(.lt true (.k 0) (.v 0)), (.eq true (.b 3 (.b 1 (.v 0) (.k 1)) (.k 2)) (.v 1)), (.lt true (.v 0) (.v 2)), (.no (.lt true (.b 0 (.b 2 (.k 2) (.v 1)) (.k 1)) (.v 2)))] (.tw true (.b 1 (.v 0) (.k 1)) (.ow true (.b 4 (.b 1 (.v 0) (.k 1)) (.k 2)) (.fi [1, 0, 0, 1, 0, 0, 0, 1, 1, 1, 2])) (.ow true (.b 4 (.b 1 (.v 0) (.k 1)) (.k 2)) (.fi [1, 0, 0, 1, 0, 0, 1, 1, 1, 2, 0, 1]))) (rfl)
theorem om303 {n0 n1 n2 : Nat} : (0 : Nat) < n0 → (n0 - (1 : Nat)) / (2 : Nat) = n2 → (n2 - (1 : Nat)) / (2 : Nat) = n1 → n0 ≠ n1 := ck [n0, n1, n2] [] [] (.no (.eq true (.v 0) (.v 1))) [(.lt true (.k 0) (.v 0)), (.eq true (.b 3 (.b 1 (.v 0) (.k 1)) (.k 2)) (.v 2)), (.eq true (.b 3 (.b 1 (.v 2) (.k 1)) (.k 2)) (.v 1))] (.tw true (.b 1 (.v 0) (.k 1)) (.tw true (.b 1 (.v 2) (.k 1)) (.ow true (.b 4 (.b 1 (.v 2) (.k 1)) (.k 2)) (.ow true (.b 4 (.b 1 (.v 0) (.k 1)) (.k 2)) (.fi [1, 0, 0, 1, 0, 2, 0, 0, 2, 0, 0, 0, 2, 3, 0, 1, 0, 4, 4, 0, 2]))) (.ow true (.b 4 (.b 1 (.v 2) (.k 1)) (.k 2)) (.fi [1, 0, 0, 1, 0, 0, 1, 2, 0, 0, 0, 2, 2]))) (.tw true (.b 1 (.v 2) (.k 1)) (.ow true (.b 4 (.b 1 (.v 0) (.k 1)) (.k 2)) (.fi [1, 0, 0, 1, 0, 2, 0, 0, 0, 1, 0, 0, 0, 0, 2])) (.ow true (.b 4 (.b 1 (.v 2) (.k 1)) (.k 2)) (.fi [1, 0, 0, 1, 0, 0, 1, 0, 0, 0, 2, 2, 0, 0, 0, 2])))) (rfl)
theorem om304 {n0 n1 n2 : Nat} : (0 : Nat) < n1 → (n1 - (1 : Nat)) / (2 : Nat) = n2 → (n2 - (1 : Nat)) / (2 : Nat) = n0 → ¬n0 = n1 := ck [n0, n1, n2] [] [] (.no (.eq true (.v 0) (.v 1))) [(.lt true (.k 0) (.v 1)), (.eq true (.b 3 (.b 1 (.v 1) (.k 1)) (.k 2)) (.v 2)), (.eq true (.b 3 (.b 1 (.v 2) (.k 1)) (.k 2)) (.v 0))] (.tw true (.b 1 (.v 1) (.k 1)) (.tw true (.b 1 (.v 2) (.k 1)) (.ow true (.b 4 (.b 1 (.v 2) (.k 1)) (.k 2)) (.ow true (.b 4 (.b 1 (.v 1) (.k 1)) (.k 2)) (.fi [1, 0, 0, 1, 0, 2, 0, 0, 2, 0, 0, 0, 2, 3, 0, 1, 4, 0, 4, 0, 2]))) (.ow true (.b 4 (.b 1 (.v 2) (.k 1)) (.k 2)) (.fi [1, 0, 0, 1, 0, 0, 1, 2, 0, 0, 2, 0, 2]))) (.tw true (.b 1 (.v 2) (.k 1)) (.ow true (.b 4 (.b 1 (.v 1) (.k 1)) (.k 2)) (.fi [1, 0, 0, 1, 0, 2, 0, 0, 0, 1, 0, 0, 0, 0, 2])) (.ow true (.b 4 (.b 1 (.v 2) (.k 1)) (.k 2)) (.fi [1, 0, 0, 1, 0, 0, 1, 0, 0, 2, 0, 2, 0, 0, 0, 2])))) (rfl)
theorem om305 {n0 n1 n2 : Nat} : (0 : Nat) < n2 → (n0 - (1 : Nat)) / (2 : Nat) = n2 → (n2 - (1 : Nat)) / (2 : Nat) = n1 → (n0 - (1 : Nat)) / (2 : Nat) ≠ n1 := ck [n0, n1, n2] [] [] (.no (.eq true (.b 3 (.b 1 (.v 0) (.k 1)) (.k 2)) (.v 1))) [(.lt true (.k 0) (.v 2)), (.eq true (.b 3 (.b 1 (.v 0) (.k 1)) (.k 2)) (.v 2)), (.eq true (.b 3 (.b 1 (.v 2) (.k 1)) (.k 2)) (.v 1))] (.tw true (.b 1 (.v 2) (.k 1)) (.ow true (.b 4 (.b 1 (.v 2) (.k 1)) (.k 2)) (.fi [1, 0, 0, 1, 0, 1, 0, 1, 0, 2, 2, 0, 2])) (.ow true (.b 4 (.b 1 (.v 2) (.k 1)) (.k 2)) (.fi [1, 0, 0, 1, 0, 0, 1, 0, 2, 2, 0, 2, 0, 2]))) (rfl)
theorem om306 {n0 n1 n2 : Nat} : (3 : Nat) ≤ n0 - (1 : Nat) - n1 → n0 - (1 : Nat) - n2 = n0 - (1 : Nat) - n1 → n2 < n1 → False := ck [n0, n1, n2] [] [] .ff [(.le true (.k 3) (.b 1 (.b 1 (.v 0) (.k 1)) (.v 1))), (.eq true (.b 1 (.b 1 (.v 0) (.k 1)) (.v 2)) (.b 1 (.b 1 (.v 0) (.k 1)) (.v 1))), (.lt true (.v 2) (.v 1))] (.tw true (.b 1 (.b 1 (.v 0) (.k 1)) (.v 1)) (.tw true (.b 1 (.b 1 (.v 0) (.k 1)) (.v 2)) (.fi [0, 1, 0, 0, 0, 1, 1, 0, 1]) (.fi [1, 0, 1, 0, 0, 1])) (.fi [0, 1, 0, 0, 0, 1])) (rfl)
theorem om307 {n0 n1 n2 : Nat} : (3 : Nat) ≤ n0 ∧ n0 < n2 → (3 : Nat) ≤ n1 ∧ n1 < n2 → n0 ≠ n1 → n0 - (3 : Nat) ≠ n1 - (3 : Nat) := ck [n0, n1, n2] [] [] (.no (.eq true (.b 1 (.v 0) (.k 3)) (.b 1 (.v 1) (.k 3)))) [(.an (.le true (.k 3) (.v 0)) (.lt true (.v 0) (.v 2))), (.an (.le true (.k 3) (.v 1)) (.lt true (.v 1) (.v 2))), (.no (.eq true (.v 0) (.v 1)))] (.al (.tw true (.b 1 (.v 1) (.k 3)) (.tw true (.b 1 (.v 0) (.k 3)) (.fi [0, 0, 1, 0, 1, 0, 1, 0, 1]) (.fi [0, 1, 0, 1, 0, 1, 0, 1, 0, 0, 0, 1])) (.fi [1, 0, 0, 0, 1, 0, 0, 0, 1])) (.tw true (.b 1 (.v 1) (.k 3)) (.tw true (.b 1 (.v 0) (.k 3)) (.fi [0, 1, 0, 0, 0, 1, 0, 1, 1]) (.fi [1, 0, 1, 0, 0, 0, 0, 1])) (.tw true (.b 1 (.v 0) (.k 3)) (.fi [0, 1, 0, 0, 1, 0, 1, 1, 0, 1]) (.fi [1, 0, 0, 0, 0, 0, 1, 0, 1])))) (rfl)
theorem om308 {n0 n1 n2 : Nat} : (3 : Nat) ≤ n1 ∧ n1 < n2 → n1 = n0 → (3 : Nat) ≤ n0 := ck [n0, n1, n2] [] [] (.le true (.k 3) (.v 0)) [(.an (.le true (.k 3) (.v 1)) (.lt true (.v 1) (.v 2))), (.eq true (.v 1) (.v 0))] (.fi [1, 0, 1, 0, 1]) (rfl)
theorem om309 {n0 n1 n2 : Nat} : (4 : Nat) ≤ n1 ∧ n1 < (900 : Nat) → n0 = n2 → n2 < n1 → n0 < (1000 : Nat) := ck [n0, n1, n2] [] [] (.lt true (.v 0) (.k 1000)) [(.an (.le true (.k 4) (.v 1)) (.lt true (.v 1) (.k 900))), (.eq true (.v 0) (.v 2)), (.lt true (.v 2) (.v 1))] (.fi [1, 1, 0, 1, 1]) (rfl)
theorem om310 {n0 n1 n2 : Nat} : (4 : Nat) ≤ n1 ∧ n1 < (900 : Nat) → n0 = n2 → n2 < n1 → n0 < (100000 : Nat) := ck [n0, n1, n2] [] [] (.lt true (.v 0) (.k 100000)) [(.an (.le true (.k 4) (.v 1)) (.lt true (.v 1) (.k 900))), (.eq true (.v 0) (.v 2)), (.lt true (.v 2) (.v 1))] (.fi [1, 1, 0, 1, 1]) (rfl)
theorem om311 {n0 n1 n2 : Nat} : (4 : Nat) ≤ n1 ∧ n1 ≤ (11 : Nat) → (↑n1 : Int) - (1 : Int) + (↑n2 : Int) * (-1 : Int) = (↑n0 : Int) → (↑n0 : Int) < (100000 : Int) := ck [n0, n1, n2] [] [] (.lt false (.u 1 (.v 0)) (.k 100000)) [(.an (.le true (.k 4) (.v 1)) (.le true (.v 1) (.k 11))), (.eq false (.b 0 (.b 1 (.u 1 (.v 1)) (.k 1)) (.b 2 (.u 1 (.v 2)) (.u 0 (.k 1)))) (.u 1 (.v 0)))] (.ow true (.v 2) (.fi [1, 1, 1, 0, 1])) (rfl)
theorem om312 {n0 n1 n2 : Nat} : (4 : Nat) ≤ n1 ∧ n1 ≤ (11 : Nat) → (↑n2 : Int) < (↑n1 : Int) → n0 = n2 → n0 < (100000 : Nat) := ck [n0, n1, n2] [] [] (.lt true (.v 0) (.k 100000)) [(.an (.le true (.k 4) (.v 1)) (.le true (.v 1) (.k 11))), (.lt false (.u 1 (.v 2)) (.u 1 (.v 1))), (.eq true (.v 0) (.v 2))] (.fi [1, 0, 1, 1, 1]) (rfl)
theorem om313 {n0 n1 n2 : Nat} : (4 : Nat) ≤ n1 ∧ n1 ≤ (11 : Nat) → n0 + (n2 + (1 : Nat)) ≤ n1 → n0 < (100000 : Nat) := ck [n0, n1, n2] [] [] (.lt true (.v 0) (.k 100000)) [(.an (.le true (.k 4) (.v 1)) (.le true (.v 1) (.k 11))), (.le true (.b 0 (.v 0) (.b 0 (.v 2) (.k 1))) (.v 1))] (.ow true (.v 2) (.fi [1, 1, 1, 1])) (rfl)
theorem om314 {n0 n1 n2 : Nat} : (4 : Nat) ≤ n1 ∧ n1 ≤ (11 : Nat) → n0 = n2 → n2 ≤ n1 → n0 < (10000 : Nat) := ck [n0, n1, n2] [] [] (.lt true (.v 0) (.k 10000)) [(.an (.le true (.k 4) (.v 1)) (.le true (.v 1) (.k 11))), (.eq true (.v 0) (.v 2)), (.le true (.v 2) (.v 1))] (.fi [1, 1, 0, 1, 1]) (rfl)
theorem om315 {n0 n1 n2 : Nat} : (4 : Nat) ≤ n2 ∧ n2 ≤ (11 : Nat) → n0 ≤ n2 → n1 ≤ (2 : Nat) → n0 + n1 < (1000 : Nat) := ck [n0, n1, n2] [] [] (.lt true (.b 0 (.v 0) (.v 1)) (.k 1000)) [(.an (.le true (.k 4) (.v 2)) (.le true (.v 2) (.k 11))), (.le true (.v 0) (.v 2)), (.le true (.v 1) (.k 2))] (.fi [1, 1, 1, 1]) (rfl)
theorem om316 {n0 n1 n2 : Nat} : (n0 - (1 : Nat)) / (2 : Nat) = n1 → (n2 - (1 : Nat)) / (2 : Nat) ≠ n0 → n1 = n2 → (0 : Nat) < n0 := ck [n0, n1, n2] [] [] (.lt true (.k 0) (.v 0)) [(.eq true (.b 3 (.b 1 (.v 0) (.k 1)) (.k 2)) (.v 1)), (.no (.eq true (.b 3 (.b 1 (.v 2) (.k 1)) (.k 2)) (.v 0))), (.eq true (.v 1) (.v 2))] (.al (.ow true (.b 4 (.b 1 (.v 2) (.k 1)) (.k 2)) (.ow true (.b 1 (.v 2) (.k 1)) (.fi [1, 0, 1, 1, 0, 0, 2, 0, 0, 2]))) (.tw true (.b 1 (.v 0) (.k 1)) (.fi [1, 0, 0, 1]) (.tw true (.b 1 (.v 2) (.k 1)) (.ow true (.b 4 (.b 1 (.v 0) (.k 1)) (.k 2)) (.fi [1, 0, 0, 1, 0, 2, 0, 0, 0, 1, 0, 2, 0, 0, 2])) (.ow true (.v 0) (.ow true (.b 4 (.b 1 (.v 2) (.k 1)) (.k 2)) (.fi [1, 0, 0, 1, 0, 2, 0, 1, 0, 0, 0, 0, 0, 2])))))) (rfl)
theorem om317 {n0 n1 n2 : Nat} : (n2 - (1 : Nat)) / (2 : Nat) = (n0 - (1 : Nat)) / (2 : Nat) → n2 < n1 → (n0 - (1 : Nat)) / (2 : Nat) < n1 := ck [n0, n1, n2] [] [] (.lt true (.b 3 (.b 1 (.v 0) (.k 1)) (.k 2)) (.v 1)) [(.eq true (.b 3 (.b 1 (.v 2) (.k 1)) (.k 2)) (.b 3 (.b 1 (.v 0) (.k 1)) (.k 2))), (.lt true (.v 2) (.v 1))] (.tw true (.b 1 (.v 2) (.k 1)) (.ow true (.b 4 (.b 1 (.v 2) (.k 1)) (.k 2)) (.fi [1, 0, 0, 1, 0, 1, 0, 1, 2, 2, 2])) (.ow true (.v 2) (.ow true (.b 4 (.b 1 (.v 2) (.k 1)) (.k 2)) (.fi [1, 0, 0, 1, 0, 2, 0, 1, 2, 2, 2])))) (rfl)
theorem om318 {n0 n1 n2 : Nat} : (↑n0 : Int) = (1 : Int) + Max.max (↑n1 : Int) (↑n2 : Int) → n0 = (1 : Nat) + Max.max n1 n2 := ck [n0, n1, n2] [] [] (.eq true (.v 0) (.b 0 (.k 1) (.b 6 (.v 1) (.v 2)))) [(.eq false (.u 1 (.v 0)) (.b 0 (.k 1) (.b 6 (.u 1 (.v 1)) (.u 1 (.v 2)))))] (.al (.tw true (.b 6 (.v 1) (.v 2)) (.tw false (.b 6 (.u 1 (.v 1)) (.u 1 (.v 2))) (.fi [0, 1, 0, 0, 0, 1, 1, 1]) (.fi [1, 1, 0, 0, 0, 1, 1, 1])) (.tw false (.b 6 (.u 1 (.v 1)) (.u 1 (.v 2))) (.fi [1, 1, 0, 0, 0, 1, 1, 1]) (.fi [0, 1, 0, 0, 0, 1, 1, 1]))) (.tw true (.b 6 (.v 1) (.v 2)) (.tw false (.b 6 (.u 1 (.v 1)) (.u 1 (.v 2))) (.fi [0, 0, 1, 0, 1, 0, 1, 0, 1]) (.fi [0, 0, 1, 1, 1, 0, 1, 0, 1])) (.tw false (.b 6 (.u 1 (.v 1)) (.u 1 (.v 2))) (.fi [0, 0, 1, 1, 1, 0, 1, 0, 1]) (.fi [0, 0, 1, 0, 1, 0, 1, 0, 1])))) (rfl)
theorem om319 {n0 n1 n2 : Nat} : n0 + (1 : Nat) ≤ n2 → n1 = n2 - (1 : Nat) → ¬n2 = n0 + (1 : Nat) → n0 + (1 : Nat) ≤ n1 := ck [n0, n1, n2] [] [] (.le true (.b 0 (.v 0) (.k 1)) (.v 1)) [(.le true (.b 0 (.v 0) (.k 1)) (.v 2)), (.eq true (.v 1) (.b 1 (.v 2) (.k 1))), (.no (.eq true (.v 2) (.b 0 (.v 0) (.k 1))))] (.al (.fi [0, 1, 0, 0, 1]) (.tw true (.b 1 (.v 2) (.k 1)) (.fi [0, 1, 0, 1, 1, 1]) (.ow true (.v 1) (.fi [1, 1, 0, 1, 1])))) (rfl)
theorem om320 {n0 n1 n2 : Nat} : n0 + (16 : Nat) * n2 < (9900 : Nat) → n1 ≤ n2 → n0 + (16 : Nat) * n1 < (9900 : Nat) := ck [n0, n1, n2] [] [] (.lt true (.b 0 (.v 0) (.b 2 (.k 16) (.v 1))) (.k 9900)) [(.lt true (.b 0 (.v 0) (.b 2 (.k 16) (.v 2))) (.k 9900)), (.le true (.v 1) (.v 2))] (.fi [1, 16, 1]) (rfl)
theorem om321 {n0 n1 n2 : Nat} : n0 + (n1 + (1 : Nat)) = n2 → n0 + (1 : Nat) + n1 = n2 := ck [n0, n1, n2] [] [] (.eq true (.b 0 (.b 0 (.v 0) (.k 1)) (.v 1)) (.v 2)) [(.eq true (.b 0 (.v 0) (.b 0 (.v 1) (.k 1))) (.v 2))] (.al (.fi [1, 1]) (.fi [1, 0, 1])) (rfl)
theorem om322 {n0 n1 n2 : Nat} : n0 + (n1 + n2) = n0 + n1 + n2 := ck [n0, n1, n2] [] [] (.eq true (.b 0 (.v 0) (.b 0 (.v 1) (.v 2))) (.b 0 (.b 0 (.v 0) (.v 1)) (.v 2))) [] (.al (.fi [1]) (.fi [1])) (rfl)
theorem om323 {n0 n1 n2 : Nat} : n0 + (n1 + n2) = n1 + (n0 + n2) := ck [n0, n1, n2] [] [] (.eq true (.b 0 (.v 0) (.b 0 (.v 1) (.v 2))) (.b 0 (.v 1) (.b 0 (.v 0) (.v 2)))) [] (.al (.fi [1]) (.fi [1])) (rfl)
theorem om324 {n0 n1 n2 : Nat} : n0 + (n2 + (1 : Nat)) = n1 → n0 - (1 : Nat) < n1 := ck [n0, n1, n2] [] [] (.lt true (.b 1 (.v 0) (.k 1)) (.v 1)) [(.eq true (.b 0 (.v 0) (.b 0 (.v 2) (.k 1))) (.v 1))] (.tw true (.b 1 (.v 0) (.k 1)) (.ow true (.v 2) (.fi [1, 0, 0, 1, 1, 0, 1])) (.ow true (.v 0) (.ow true (.v 2) (.fi [1, 1, 0, 1, 1, 0, 1])))) (rfl)
theorem om325 {n0 n1 n2 : Nat} : n0 + (n2 + (1 : Nat)) = n1 → n0 < n1 := ck [n0, n1, n2] [] [] (.lt true (.v 0) (.v 1)) [(.eq true (.b 0 (.v 0) (.b 0 (.v 2) (.k 1))) (.v 1))] (.ow true (.v 2) (.fi [1, 1, 0, 1])) (rfl)
theorem om326 {n0 n1 n2 : Nat} : n0 + (n2 + (1 : Nat)) = n1 → n0 ≤ n1 := ck [n0, n1, n2] [] [] (.le true (.v 0) (.v 1)) [(.eq true (.b 0 (.v 0) (.b 0 (.v 2) (.k 1))) (.v 1))] (.ow true (.v 2) (.fi [1, 1, 0, 1])) (rfl)
theorem om327 {n0 n1 n2 : Nat} : n0 + (n2 + (1 : Nat)) ≤ n1 → (↑n0 : Int) < (↑n1 : Int) := ck [n0, n1, n2] [] [] (.lt false (.u 1 (.v 0)) (.u 1 (.v 1))) [(.le true (.b 0 (.v 0) (.b 0 (.v 2) (.k 1))) (.v 1))] (.ow true (.v 2) (.fi [1, 1, 1])) (rfl)
theorem om328 {n0 n1 n2 : Nat} : n0 + Min.min n1 n2 ≤ n0 + n1 := ck [n0, n1, n2] [] [] (.le true (.b 0 (.v 0) (.b 5 (.v 1) (.v 2))) (.b 0 (.v 0) (.v 1))) [] (.tw true (.b 5 (.v 1) (.v 2)) (.fi [0, 0, 1, 1]) (.fi [1, 0, 1, 1])) (rfl)
theorem om329 {n0 n1 n2 : Nat} : n0 + n1 ≤ n2 → n0 + n1 ≤ n2 + (1 : Nat) := ck [n0, n1, n2] [] [] (.le true (.b 0 (.v 0) (.v 1)) (.b 0 (.v 2) (.k 1))) [(.le true (.b 0 (.v 0) (.v 1)) (.v 2))] (.fi [1, 1]) (rfl)
theorem om330 {n0 n1 n2 : Nat} : n0 + n1 ≤ n2 → n2 < (900 : Nat) → n0 + (1 : Nat) < (4096 : Nat) := ck [n0, n1, n2] [] [] (.lt true (.b 0 (.v 0) (.k 1)) (.k 4096)) [(.le true (.b 0 (.v 0) (.v 1)) (.v 2)), (.lt true (.v 2) (.k 900))] (.ow true (.v 1) (.fi [1, 1, 1, 1])) (rfl)
theorem om331 {n0 n1 n2 : Nat} : n0 + n1 ≤ n2 → n2 < (900 : Nat) → n0 < (4096 : Nat) := ck [n0, n1, n2] [] [] (.lt true (.v 0) (.k 4096)) [(.le true (.b 0 (.v 0) (.v 1)) (.v 2)), (.lt true (.v 2) (.k 900))] (.ow true (.v 1) (.fi [1, 1, 1, 1])) (rfl)
theorem om332 {n0 n1 n2 : Nat} : n0 + n2 < (1000 : Nat) → n1 ≤ n2 → n0 + n1 < (1000 : Nat) := ck [n0, n1, n2] [] [] (.lt true (.b 0 (.v 0) (.v 1)) (.k 1000)) [(.lt true (.b 0 (.v 0) (.v 2)) (.k 1000)), (.le true (.v 1) (.v 2))] (.fi [1, 1, 1]) (rfl)
theorem om333 {n0 n1 n2 : Nat} : n0 + n2 ≤ n1 → n0 ≤ n1 := ck [n0, n1, n2] [] [] (.le true (.v 0) (.v 1)) [(.le true (.b 0 (.v 0) (.v 2)) (.v 1))] (.ow true (.v 2) (.fi [1, 1, 1])) (rfl)
theorem om334 {n0 n1 n2 : Nat} : n0 - n2 ≤ (0 : Nat) → n2 ≤ n1 → n0 ≤ n1 := ck [n0, n1, n2] [] [] (.le true (.v 0) (.v 1)) [(.le true (.b 1 (.v 0) (.v 2)) (.k 0)), (.le true (.v 2) (.v 1))] (.tw true (.b 1 (.v 0) (.v 2)) (.fi [0, 1, 0, 1, 1, 1]) (.fi [1, 0, 1, 1])) (rfl)
theorem om335 {n0 n1 n2 : Nat} : n0 < Min.min n1 n2 → n0 = n1 → False := ck [n0, n1, n2] [] [] .ff [(.lt true (.v 0) (.b 5 (.v 1) (.v 2))), (.eq true (.v 0) (.v 1))] (.tw true (.b 5 (.v 1) (.v 2)) (.fi [0, 0, 1, 1, 0, 1]) (.fi [1, 0, 1, 1, 0, 1])) (rfl)
theorem om336 {n0 n1 n2 : Nat} : n0 < n1 + (1 : Nat) → n2 < n0 → n0 - (1 : Nat) < n1 := ck [n0, n1, n2] [] [] (.lt true (.b 1 (.v 0) (.k 1)) (.v 1)) [(.lt true (.v 0) (.b 0 (.v 1) (.k 1))), (.lt true (.v 2) (.v 0))] (.tw true (.b 1 (.v 0) (.k 1)) (.fi [0, 0, 1, 1, 0, 1]) (.ow true (.v 2) (.fi [1, 0, 1, 1, 1, 1]))) (rfl)
theorem om337 {n0 n1 n2 : Nat} : n0 < n1 + (1 : Nat) → n2 ≤ n1 → ¬(n2 < n0 ∧ n0 ≤ n1) → ¬n0 = n2 → n0 < n1 := ck [n0, n1, n2] [] [] (.lt true (.v 0) (.v 1)) [(.lt true (.v 0) (.b 0 (.v 1) (.k 1))), (.le true (.v 2) (.v 1)), (.no (.an (.lt true (.v 2) (.v 0)) (.le true (.v 0) (.v 1)))), (.no (.eq true (.v 0) (.v 2)))] (.al (.al (.fi [1, 1, 0, 1]) (.fi [0, 1, 1])) (.fi [0, 1, 0, 1])) (rfl)
theorem om338 {n0 n1 n2 : Nat} : n0 < n1 - (1 : Nat) ∧ n2 < n1 - (1 : Nat) → n0 < n1 := ck [n0, n1, n2] [] [] (.lt true (.v 0) (.v 1)) [(.an (.lt true (.v 0) (.b 1 (.v 1) (.k 1))) (.lt true (.v 2) (.b 1 (.v 1) (.k 1))))] (.tw true (.b 1 (.v 1) (.k 1)) (.fi [0, 0, 1, 1, 0, 1]) (.ow true (.v 2) (.fi [1, 0, 1, 0, 1]))) (rfl)
theorem om339 {n0 n1 n2 : Nat} : n0 < n1 → n1 < n2 + (1 : Nat) → n0 < n1 ∧ n1 ≤ n2 := ck [n0, n1, n2] [] [] (.an (.lt true (.v 0) (.v 1)) (.le true (.v 1) (.v 2))) [(.lt true (.v 0) (.v 1)), (.lt true (.v 1) (.b 0 (.v 2) (.k 1)))] (.al (.fi [1, 0, 1]) (.fi [1, 1])) (rfl)
theorem om340 {n0 n1 n2 : Nat} : n0 < n1 → n1 = n2 → n2 < (1000 : Nat) → (↑n0 : Int) < (100000 : Int) := ck [n0, n1, n2] [] [] (.lt false (.u 1 (.v 0)) (.k 100000)) [(.lt true (.v 0) (.v 1)), (.eq true (.v 1) (.v 2)), (.lt true (.v 2) (.k 1000))] (.fi [1, 1, 0, 1, 1]) (rfl)
theorem om341 {n0 n1 n2 : Nat} : n0 < n1 → n2 < (900 : Nat) → n2 = n1 → (3 : Nat) + n0 < (100000 : Nat) := ck [n0, n1, n2] [] [] (.lt true (.b 0 (.k 3) (.v 0)) (.k 100000)) [(.lt true (.v 0) (.v 1)), (.lt true (.v 2) (.k 900)), (.eq true (.v 2) (.v 1))] (.fi [1, 1, 0, 1, 1]) (rfl)
theorem om342 {n0 n1 n2 : Nat} : n0 < n1 ∧ n2 < n1 → n1 ≤ n0 → False := ck [n0, n1, n2] [] [] .ff [(.an (.lt true (.v 0) (.v 1)) (.lt true (.v 2) (.v 1))), (.le true (.v 1) (.v 0))] (.fi [1, 0, 1]) (rfl)
theorem om343 {n0 n1 n2 : Nat} : n0 < n1 ∧ n2 < n1 → n1 ≤ n2 → False := ck [n0, n1, n2] [] [] .ff [(.an (.lt true (.v 0) (.v 1)) (.lt true (.v 2) (.v 1))), (.le true (.v 1) (.v 2))] (.fi [1, 1]) (rfl)
theorem om344 {n0 n1 n2 : Nat} : n0 < n2 - (3 : Nat) → n1 = n2 → (3 : Nat) + n0 < n1 := ck [n0, n1, n2] [] [] (.lt true (.b 0 (.k 3) (.v 0)) (.v 1)) [(.lt true (.v 0) (.b 1 (.v 2) (.k 3))), (.eq true (.v 1) (.v 2))] (.tw true (.b 1 (.v 2) (.k 3)) (.fi [0, 0, 1, 1, 1, 0, 1]) (.ow true (.v 0) (.fi [1, 0, 1, 0, 0, 0, 1]))) (rfl)
theorem om345 {n0 n1 n2 : Nat} : n0 < n2 → n1 = (3 : Nat) → n0 < n1 + (n2 - (3 : Nat)) := ck [n0, n1, n2] [] [] (.lt true (.v 0) (.b 0 (.v 1) (.b 1 (.v 2) (.k 3)))) [(.lt true (.v 0) (.v 2)), (.eq true (.v 1) (.k 3))] (.tw true (.b 1 (.v 2) (.k 3)) (.fi [0, 1, 0, 1, 1, 0, 1]) (.ow true (.b 1 (.v 2) (.k 3)) (.fi [1, 1, 0, 1, 1, 0, 1]))) (rfl)
theorem om346 {n0 n1 n2 : Nat} : n0 < n2 → n1 = n2 → (↑n0 : Int) < (↑n1 : Int) := ck [n0, n1, n2] [] [] (.lt false (.u 1 (.v 0)) (.u 1 (.v 1))) [(.lt true (.v 0) (.v 2)), (.eq true (.v 1) (.v 2))] (.fi [1, 1, 0, 1]) (rfl)
theorem om347 {n0 n1 n2 : Nat} : n0 < n2 → n1 = n2 → Min.min n0 n1 = n0 := ck [n0, n1, n2] [] [] (.eq true (.b 5 (.v 0) (.v 1)) (.v 0)) [(.lt true (.v 0) (.v 2)), (.eq true (.v 1) (.v 2))] (.al (.tw true (.b 5 (.v 0) (.v 1)) (.fi [0, 1, 0, 1]) (.fi [1, 0, 0, 0, 1, 0, 1])) (.tw true (.b 5 (.v 0) (.v 1)) (.fi [0, 0, 1, 1]) (.fi [1, 0, 1, 1]))) (rfl)
theorem om348 {n0 n1 n2 : Nat} : n0 < n2 → n1 = n2 → n0 < n1 := ck [n0, n1, n2] [] [] (.lt true (.v 0) (.v 1)) [(.lt true (.v 0) (.v 2)), (.eq true (.v 1) (.v 2))] (.fi [1, 1, 0, 1]) (rfl)
theorem om349 {n0 n1 n2 : Nat} : n0 < n2 → n1 = n2 → n0 ≤ n1 := ck [n0, n1, n2] [] [] (.le true (.v 0) (.v 1)) [(.lt true (.v 0) (.v 2)), (.eq true (.v 1) (.v 2))] (.fi [1, 1, 0, 1]) (rfl)
theorem om350 {n0 n1 n2 : Nat} : n0 < n2 → n2 < n1 → n0 < n1 := ck [n0, n1, n2] [] [] (.lt true (.v 0) (.v 1)) [(.lt true (.v 0) (.v 2)), (.lt true (.v 2) (.v 1))] (.fi [1, 1, 1]) (rfl)
theorem om351 {n0 n1 n2 : Nat} : n0 < n2 → n2 = n1 → n0 < n1 := ck [n0, n1, n2] [] [] (.lt true (.v 0) (.v 1)) [(.lt true (.v 0) (.v 2)), (.eq true (.v 2) (.v 1))] (.fi [1, 0, 1, 1]) (rfl)
theorem om352 {n0 n1 n2 : Nat} : n0 < n2 → n2 = n1 → ¬n0 = n1 := ck [n0, n1, n2] [] [] (.no (.eq true (.v 0) (.v 1))) [(.lt true (.v 0) (.v 2)), (.eq true (.v 2) (.v 1))] (.fi [1, 0, 0, 1, 1]) (rfl)
theorem om353 {n0 n1 n2 : Nat} : n0 = n1 → n1 = n2 → n2 < (900 : Nat) → n0 < (900 : Nat) := ck [n0, n1, n2] [] [] (.lt true (.v 0) (.k 900)) [(.eq true (.v 0) (.v 1)), (.eq true (.v 1) (.v 2)), (.lt true (.v 2) (.k 900))] (.fi [1, 1, 0, 1, 0, 1]) (rfl)
theorem om354 {n0 n1 n2 : Nat} : n0 = n2 → n1 = n2 → n0 = n1 := ck [n0, n1, n2] [] [] (.eq true (.v 0) (.v 1)) [(.eq true (.v 0) (.v 2)), (.eq true (.v 1) (.v 2))] (.al (.fi [1, 0, 1, 1]) (.fi [1, 1, 0, 0, 1])) (rfl)
theorem om355 {n0 n1 n2 : Nat} : n0 = n2 → n2 ≤ n1 → n0 ≤ n1 := ck [n0, n1, n2] [] [] (.le true (.v 0) (.v 1)) [(.eq true (.v 0) (.v 2)), (.le true (.v 2) (.v 1))] (.fi [1, 1, 0, 1]) (rfl)
theorem om356 {n0 n1 n2 : Nat} : n0 = n2 → ¬n1 < n2 → n0 ≤ n1 := ck [n0, n1, n2] [] [] (.le true (.v 0) (.v 1)) [(.eq true (.v 0) (.v 2)), (.no (.lt true (.v 1) (.v 2)))] (.fi [1, 1, 0, 1]) (rfl)
theorem om357 {n0 n1 n2 : Nat} : n0 ≤ (2 : Nat) → n1 ≤ (2 : Nat) * n2 → n0 + n1 ≤ (2 : Nat) * (n2 + (1 : Nat)) := ck [n0, n1, n2] [] [] (.le true (.b 0 (.v 0) (.v 1)) (.b 2 (.k 2) (.b 0 (.v 2) (.k 1)))) [(.le true (.v 0) (.k 2)), (.le true (.v 1) (.b 2 (.k 2) (.v 2)))] (.fi [1, 1, 1]) (rfl)
theorem om358 {n0 n1 n2 : Nat} : n0 ≤ n1 + n2 → n0 ≤ n1 + n2 := ck [n0, n1, n2] [] [] (.le true (.v 0) (.b 0 (.v 1) (.v 2))) [(.le true (.v 0) (.b 0 (.v 1) (.v 2)))] (.fi [1, 1]) (rfl)
theorem om359 {n0 n1 n2 : Nat} : n0 ≤ n1 → n1 < n2 → n2 < (10000 : Nat) → n0 < (100000 : Nat) := ck [n0, n1, n2] [] [] (.lt true (.v 0) (.k 100000)) [(.le true (.v 0) (.v 1)), (.lt true (.v 1) (.v 2)), (.lt true (.v 2) (.k 10000))] (.fi [1, 1, 1, 1]) (rfl)
theorem om360 {n0 n1 n2 : Nat} : n0 ≤ n1 ∧ n1 < n2 → n0 ≤ n1 := ck [n0, n1, n2] [] [] (.le true (.v 0) (.v 1)) [(.an (.le true (.v 0) (.v 1)) (.lt true (.v 1) (.v 2)))] (.fi [1, 0, 1]) (rfl)
theorem om361 {n0 n1 n2 : Nat} : n0 ≤ n2 → (0 : Nat) + n0 + n1 + (1 : Nat) ≤ n1 + (1 : Nat) + n2 := ck [n0, n1, n2] [] [] (.le true (.b 0 (.b 0 (.b 0 (.k 0) (.v 0)) (.v 1)) (.k 1)) (.b 0 (.b 0 (.v 1) (.k 1)) (.v 2))) [(.le true (.v 0) (.v 2))] (.fi [1, 1]) (rfl)
theorem om362 {n0 n1 n2 : Nat} : n0 ≤ n2 → n2 < n1 → n0 + (1 : Nat) ≤ n1 := ck [n0, n1, n2] [] [] (.le true (.b 0 (.v 0) (.k 1)) (.v 1)) [(.le true (.v 0) (.v 2)), (.lt true (.v 2) (.v 1))] (.fi [1, 1, 1]) (rfl)
theorem om363 {n0 n1 n2 : Nat} : n0 ≤ n2 → n2 < n1 → n0 < n1 := ck [n0, n1, n2] [] [] (.lt true (.v 0) (.v 1)) [(.le true (.v 0) (.v 2)), (.lt true (.v 2) (.v 1))] (.fi [1, 1, 1]) (rfl)
theorem om364 {n0 n1 n2 : Nat} : n0 ≤ n2 → n2 ≤ n1 → n0 ≤ n1 := ck [n0, n1, n2] [] [] (.le true (.v 0) (.v 1)) [(.le true (.v 0) (.v 2)), (.le true (.v 2) (.v 1))] (.fi [1, 1, 1]) (rfl)
theorem om365 {n0 n1 n2 : Nat} : n1 + (1 : Nat) ≤ n2 → n2 < n1 → n0 = (0 : Nat) := ck [n0, n1, n2] [] [] (.eq true (.v 0) (.k 0)) [(.le true (.b 0 (.v 1) (.k 1)) (.v 2)), (.lt true (.v 2) (.v 1))] (.fi [1, 1]) (rfl)
theorem om366 {n0 n1 n2 : Nat} : n1 < n0 - (1 : Nat) ∧ n2 < n0 - (1 : Nat) → n0 - (1 : Nat) ≠ n1 := ck [n0, n1, n2] [] [] (.no (.eq true (.b 1 (.v 0) (.k 1)) (.v 1))) [(.an (.lt true (.v 1) (.b 1 (.v 0) (.k 1))) (.lt true (.v 2) (.b 1 (.v 0) (.k 1))))] (.fi [0, 1, 0, 1]) (rfl)
theorem om367 {n0 n1 n2 : Nat} : n1 < n0 → n2 < n1 → n0 - (1 : Nat) - n1 < n0 - (1 : Nat) - n2 := ck [n0, n1, n2] [] [] (.lt true (.b 1 (.b 1 (.v 0) (.k 1)) (.v 1)) (.b 1 (.b 1 (.v 0) (.k 1)) (.v 2))) [(.lt true (.v 1) (.v 0)), (.lt true (.v 2) (.v 1))] (.tw true (.b 1 (.b 1 (.v 0) (.k 1)) (.v 2)) (.tw true (.b 1 (.b 1 (.v 0) (.k 1)) (.v 1)) (.fi [0, 0, 1, 0, 1, 0, 1, 1]) (.tw true (.b 1 (.v 0) (.k 1)) (.fi [0, 1, 0, 0, 1, 0, 1, 0, 1, 1, 1]) (.ow true (.v 2) (.fi [1, 1, 0, 0, 0, 0, 0, 0, 0, 1, 1])))) (.tw true (.b 1 (.b 1 (.v 0) (.k 1)) (.v 1)) (.fi [1, 0, 0, 1, 0, 0, 1]) (.tw true (.b 1 (.v 0) (.k 1)) (.fi [0, 1, 0, 0, 0, 1, 0, 0, 1, 1]) (.ow true (.v 2) (.fi [1, 1, 0, 0, 0, 0, 0, 0, 1, 1]))))) (rfl)
theorem om368 {n0 n1 n2 : Nat} : n1 < n0 → ¬(n0 < n1 ∧ n1 ≤ n2) := ck [n0, n1, n2] [] [] (.no (.an (.lt true (.v 0) (.v 1)) (.le true (.v 1) (.v 2)))) [(.lt true (.v 1) (.v 0))] (.fi [0, 1, 1]) (rfl)
theorem om369 {n0 n1 n2 : Nat} : n1 < n0 ∧ n2 < n0 → ¬n0 = n1 := ck [n0, n1, n2] [] [] (.no (.eq true (.v 0) (.v 1))) [(.an (.lt true (.v 1) (.v 0)) (.lt true (.v 2) (.v 0)))] (.fi [0, 1, 0, 1]) (rfl)
theorem om370 {n0 n1 n2 : Nat} : n1 < n2 → n0 + n1 - (n0 + Min.min n1 n2) = (0 : Nat) := ck [n0, n1, n2] [] [] (.eq true (.b 1 (.b 0 (.v 0) (.v 1)) (.b 0 (.v 0) (.b 5 (.v 1) (.v 2)))) (.k 0)) [(.lt true (.v 1) (.v 2))] (.al (.ow true (.b 1 (.b 0 (.v 0) (.v 1)) (.b 0 (.v 0) (.b 5 (.v 1) (.v 2)))) (.fi [1, 1])) (.tw true (.b 1 (.b 0 (.v 0) (.v 1)) (.b 0 (.v 0) (.b 5 (.v 1) (.v 2)))) (.tw true (.b 5 (.v 1) (.v 2)) (.fi [0, 1, 0, 0, 0, 1, 1]) (.fi [1, 0, 0, 0, 0, 0, 0, 1])) (.fi [0, 1, 1]))) (rfl)
theorem om371 {n0 n1 n2 : Nat} : n1 < n2 → n0 + n1 < n0 + Min.min (n1 + (1 : Nat)) n2 := ck [n0, n1, n2] [] [] (.lt true (.b 0 (.v 0) (.v 1)) (.b 0 (.v 0) (.b 5 (.b 0 (.v 1) (.k 1)) (.v 2)))) [(.lt true (.v 1) (.v 2))] (.tw true (.b 5 (.b 0 (.v 1) (.k 1)) (.v 2)) (.fi [0, 1, 0, 1]) (.fi [0, 1, 0, 1, 1])) (rfl)
theorem om372 {n0 n1 n2 : Nat} : n1 = (1 : Nat) + Max.max n0 n2 → n0 < n1 := ck [n0, n1, n2] [] [] (.lt true (.v 0) (.v 1)) [(.eq true (.v 1) (.b 0 (.k 1) (.b 6 (.v 0) (.v 2))))] (.tw true (.b 6 (.v 0) (.v 2)) (.fi [0, 1, 0, 1, 1]) (.fi [1, 1, 0, 1, 1])) (rfl)
theorem om373 {n0 n1 n2 : Nat} : n1 = (1 : Nat) + Max.max n0 n2 → n0 < n1 ∧ n2 < n1 := ck [n0, n1, n2] [] [] (.an (.lt true (.v 0) (.v 1)) (.lt true (.v 2) (.v 1))) [(.eq true (.v 1) (.b 0 (.k 1) (.b 6 (.v 0) (.v 2))))] (.al (.tw true (.b 6 (.v 0) (.v 2)) (.fi [0, 1, 0, 1, 1]) (.fi [1, 1, 0, 1, 1])) (.tw true (.b 6 (.v 0) (.v 2)) (.fi [1, 1, 0, 1, 1]) (.fi [0, 1, 0, 1, 1]))) (rfl)
theorem om374 {n0 n1 n2 : Nat} : n1 = (1 : Nat) + Max.max n2 n0 → n0 < n1 := ck [n0, n1, n2] [] [] (.lt true (.v 0) (.v 1)) [(.eq true (.v 1) (.b 0 (.k 1) (.b 6 (.v 2) (.v 0))))] (.tw true (.b 6 (.v 2) (.v 0)) (.fi [1, 1, 0, 1, 1]) (.fi [0, 1, 0, 1, 1])) (rfl)
theorem om375 {n0 n1 n2 : Nat} : n1 = (3 : Nat) + n2 → n1 = n0 → (0 : Nat) < n0 := ck [n0, n1, n2] [] [] (.lt true (.k 0) (.v 0)) [(.eq true (.v 1) (.b 0 (.k 3) (.v 2))), (.eq true (.v 1) (.v 0))] (.ow true (.v 2) (.fi [1, 1, 0, 1, 1])) (rfl)
theorem om376 {n0 n1 n2 : Nat} : n1 = (3 : Nat) + n2 → n1 = n0 → (2 : Int) ≤ (↑n0 : Int) - (1 : Int) := ck [n0, n1, n2] [] [] (.le false (.k 2) (.b 1 (.u 1 (.v 0)) (.k 1))) [(.eq true (.v 1) (.b 0 (.k 3) (.v 2))), (.eq true (.v 1) (.v 0))] (.ow true (.v 2) (.fi [1, 1, 0, 1, 1])) (rfl)
theorem om377 {n0 n1 n2 : Nat} : n1 = (3 : Nat) + n2 → n1 = n0 → (3 : Nat) + (n0 - (3 : Nat)) = n0 := ck [n0, n1, n2] [] [] (.eq true (.b 0 (.k 3) (.b 1 (.v 0) (.k 3))) (.v 0)) [(.eq true (.v 1) (.b 0 (.k 3) (.v 2))), (.eq true (.v 1) (.v 0))] (.al (.tw true (.b 1 (.v 0) (.k 3)) (.fi [0, 1, 0, 1]) (.ow true (.b 1 (.v 0) (.k 3)) (.fi [1, 1, 0, 1]))) (.tw true (.b 1 (.v 0) (.k 3)) (.fi [0, 0, 1, 1]) (.ow true (.v 2) (.fi [1, 0, 1, 1, 0, 1, 1])))) (rfl)
theorem om378 {n0 n1 n2 : Nat} : n1 = (3 : Nat) + n2 → n1 = n0 → (↑n0 : Int) - (1 : Int) = (↑(n0 - (1 : Nat)) : Int) := ck [n0, n1, n2] [] [] (.eq false (.b 1 (.u 1 (.v 0)) (.k 1)) (.u 1 (.b 1 (.v 0) (.k 1)))) [(.eq true (.v 1) (.b 0 (.k 3) (.v 2))), (.eq true (.v 1) (.v 0))] (.al (.tw true (.b 1 (.v 0) (.k 1)) (.fi [0, 0, 1, 1]) (.ow true (.v 2) (.fi [1, 1, 0, 0, 0, 1, 1]))) (.tw true (.b 1 (.v 0) (.k 1)) (.fi [0, 1, 0, 1]) (.ow true (.v 2) (.fi [1, 1, 0, 0, 0, 1, 1])))) (rfl)
theorem om379 {n0 n1 n2 : Nat} : n1 = (3 : Nat) + n2 → n1 = n0 → n0 - (1 : Nat) < n0 := ck [n0, n1, n2] [] [] (.lt true (.b 1 (.v 0) (.k 1)) (.v 0)) [(.eq true (.v 1) (.b 0 (.k 3) (.v 2))), (.eq true (.v 1) (.v 0))] (.tw true (.b 1 (.v 0) (.k 1)) (.fi [0, 0, 1, 1]) (.ow true (.v 2) (.fi [1, 1, 0, 0, 0, 1, 1]))) (rfl)
theorem om380 {n0 n1 n2 : Nat} : n1 = (3 : Nat) + n2 → n1 = n0 → n0 - (n0 - (3 : Nat)) = (3 : Nat) := ck [n0, n1, n2] [] [] (.eq true (.b 1 (.v 0) (.b 1 (.v 0) (.k 3))) (.k 3)) [(.eq true (.v 1) (.b 0 (.k 3) (.v 2))), (.eq true (.v 1) (.v 0))] (.al (.tw true (.b 1 (.v 0) (.b 1 (.v 0) (.k 3))) (.tw true (.b 1 (.v 0) (.k 3)) (.fi [0, 0, 1, 0, 1, 0, 1]) (.ow true (.v 2) (.fi [1, 0, 1, 0, 1, 0, 1, 0, 1, 1]))) (.tw true (.b 1 (.v 0) (.k 3)) (.fi [0, 0, 1, 1]) (.ow true (.v 2) (.fi [1, 0, 1, 1, 0, 0, 0, 1, 1])))) (.tw true (.b 1 (.v 0) (.b 1 (.v 0) (.k 3))) (.tw true (.b 1 (.v 0) (.k 3)) (.fi [0, 1, 0, 0, 0, 1, 1]) (.ow true (.b 1 (.v 0) (.k 3)) (.fi [1, 1, 0, 0, 0, 1, 1]))) (.fi [0, 1, 1]))) (rfl)
theorem om381 {n0 n1 n2 : Nat} : n1 ≠ n2 → n2 < n0 - (3 : Nat) → n0 - (1 : Nat) - n1 ≠ n0 - (1 : Nat) - n2 := ck [n0, n1, n2] [] [] (.no (.eq true (.b 1 (.b 1 (.v 0) (.k 1)) (.v 1)) (.b 1 (.b 1 (.v 0) (.k 1)) (.v 2)))) [(.no (.eq true (.v 1) (.v 2))), (.lt true (.v 2) (.b 1 (.v 0) (.k 3)))] (.al (.tw true (.b 1 (.v 0) (.k 3)) (.tw true (.b 1 (.b 1 (.v 0) (.k 1)) (.v 2)) (.tw true (.b 1 (.b 1 (.v 0) (.k 1)) (.v 1)) (.fi [0, 1, 0, 0, 0, 1, 0, 0, 0, 0, 1, 0, 1]) (.fi [1, 0, 1, 0, 0, 0, 0, 0, 0, 0, 0, 1])) (.tw true (.b 1 (.b 1 (.v 0) (.k 1)) (.v 1)) (.tw true (.b 1 (.v 0) (.k 1)) (.fi [0, 1, 0, 0, 0, 0, 1, 0, 0, 0, 1, 0, 0, 1]) (.fi [1, 0, 0, 0, 0, 0, 0, 1])) (.tw true (.b 1 (.v 0) (.k 1)) (.fi [0, 1, 0, 0, 0, 1, 0, 0, 0, 1, 0, 0, 1]) (.fi [1, 0, 0, 0, 0, 0, 1])))) (.ow true (.v 1) (.fi [1, 0, 1, 0, 0, 1, 1]))) (.tw true (.b 1 (.v 0) (.k 3)) (.tw true (.b 1 (.b 1 (.v 0) (.k 1)) (.v 2)) (.tw true (.b 1 (.b 1 (.v 0) (.k 1)) (.v 1)) (.fi [0, 0, 1, 0, 1, 0, 0, 0, 0, 1, 0, 0, 1]) (.tw true (.b 1 (.v 0) (.k 1)) (.fi [0, 1, 0, 0, 1, 0, 1, 0, 0, 0, 1, 1, 0, 1]) (.fi [1, 0, 0, 0, 0, 0, 0, 1]))) (.tw true (.b 1 (.b 1 (.v 0) (.k 1)) (.v 1)) (.fi [1, 0, 0, 1, 0, 0, 0, 0, 0, 0, 0, 1]) (.tw true (.b 1 (.v 0) (.k 1)) (.fi [0, 1, 0, 0, 0, 1, 0, 0, 0, 1, 0, 0, 1]) (.fi [1, 0, 0, 0, 0, 0, 1])))) (.ow true (.v 2) (.fi [1, 0, 1, 0, 0, 1])))) (rfl)
theorem om382 {n0 n1 n2 : Nat} : n2 < n0 → n0 - (1 : Nat) - n1 < n0 := ck [n0, n1, n2] [] [] (.lt true (.b 1 (.b 1 (.v 0) (.k 1)) (.v 1)) (.v 0)) [(.lt true (.v 2) (.v 0))] (.tw true (.b 1 (.b 1 (.v 0) (.k 1)) (.v 1)) (.tw true (.b 1 (.v 0) (.k 1)) (.ow true (.v 1) (.fi [1, 0, 0, 1, 0, 0, 1, 1])) (.ow true (.v 1) (.ow true (.v 2) (.fi [1, 1, 0, 1, 0, 0, 1, 1, 1])))) (.ow true (.v 2) (.fi [1, 0, 1, 1, 1]))) (rfl)
theorem om383 {n0 n1 n2 : Nat} : n2 < n0 ∧ n1 < n0 → ¬n0 = n1 := ck [n0, n1, n2] [] [] (.no (.eq true (.v 0) (.v 1))) [(.an (.lt true (.v 2) (.v 0)) (.lt true (.v 1) (.v 0)))] (.fi [0, 1, 1]) (rfl)
theorem om384 {n0 n1 n2 : Nat} : n2 ≤ n0 ∧ n0 < n1 → n0 + (1 : Nat) ≤ n1 := ck [n0, n1, n2] [] [] (.le true (.b 0 (.v 0) (.k 1)) (.v 1)) [(.an (.le true (.v 2) (.v 0)) (.lt true (.v 0) (.v 1)))] (.fi [1, 1]) (rfl)
theorem om385 {n0 n1 n2 : Nat} : n2 ≤ n1 → n2 ≥ n0 → n0 ≤ n1 := ck [n0, n1, n2] [] [] (.le true (.v 0) (.v 1)) [(.le true (.v 2) (.v 1)), (.le true (.v 0) (.v 2))] (.fi [1, 1, 1]) (rfl)
theorem om386 {n0 n1 n2 n3 : Nat} {z4 : Int} : n0 < n1 → n1 = (3 : Nat) + n2 → n2 = n3 → (4 : Int) + z4 % (5 : Int) = (↑n3 : Int) → (↑n0 : Int) < (100000 : Int) := ck [n0, n1, n2, n3] [z4] [] (.lt false (.u 1 (.v 0)) (.k 100000)) [(.lt true (.v 0) (.v 1)), (.eq true (.v 1) (.b 0 (.k 3) (.v 2))), (.eq true (.v 2) (.v 3)), (.eq false (.b 0 (.k 4) (.b 4 (.v 0) (.k 5))) (.u 1 (.v 3)))] (.ow false (.b 3 (.v 0) (.k 5)) (.fi [0, 1, 0, 0, 1, 1, 0, 0, 1, 0, 1, 1])) (rfl)
theorem om387 {n0 n1 n2 n3 : Nat} {z4 : Int} : n1 = (3 : Nat) + n2 → n1 = n0 → n2 = n3 → (4 : Int) + z4 % (5 : Int) = (↑n3 : Int) → (0 : Int) ≤ (↑n0 : Int) - (1 : Int) ∧ (↑n0 : Int) - (1 : Int) < (1000 : Int) := ck [n0, n1, n2, n3] [z4] [] (.an (.le false (.k 0) (.b 1 (.u 1 (.v 0)) (.k 1))) (.lt false (.b 1 (.u 1 (.v 0)) (.k 1)) (.k 1000))) [(.eq true (.v 1) (.b 0 (.k 3) (.v 2))), (.eq true (.v 1) (.v 0)), (.eq true (.v 2) (.v 3)), (.eq false (.b 0 (.k 4) (.b 4 (.v 0) (.k 5))) (.u 1 (.v 3)))] (.al (.ow true (.v 2) (.fi [1, 1, 0, 0, 0, 0, 0, 1, 1])) (.ow false (.b 3 (.v 0) (.k 5)) (.fi [0, 1, 0, 0, 1, 1, 0, 0, 1, 1, 0, 0, 1]))) (rfl)
theorem om388 {n0 n1 n2 n3 : Nat} {z4 : Int} : n1 = (3 : Nat) + n2 → n1 = n0 → n2 = n3 → (4 : Int) + z4 % (5 : Int) = (↑n3 : Int) → (3 : Nat) ≤ n0 - (1 : Nat) := ck [n0, n1, n2, n3] [z4] [] (.le true (.k 3) (.b 1 (.v 0) (.k 1))) [(.eq true (.v 1) (.b 0 (.k 3) (.v 2))), (.eq true (.v 1) (.v 0)), (.eq true (.v 2) (.v 3)), (.eq false (.b 0 (.k 4) (.b 4 (.v 0) (.k 5))) (.u 1 (.v 3)))] (.tw true (.b 1 (.v 0) (.k 1)) (.ow false (.b 3 (.v 0) (.k 5)) (.fi [1, 0, 0, 0, 0, 1, 0, 1, 0, 1, 1, 0, 0, 1, 1])) (.ow true (.v 2) (.fi [1, 1, 0, 0, 0, 0, 0, 0, 0, 1, 1]))) (rfl)
theorem om389 {n0 n1 n2 n3 : Nat} {z4 : Int} : n1 = (3 : Nat) + n2 → n1 = n0 → n2 = n3 → (4 : Int) + z4 % (5 : Int) = (↑n3 : Int) → (4 : Nat) ≤ n0 ∧ n0 ≤ (11 : Nat) := ck [n0, n1, n2, n3] [z4] [] (.an (.le true (.k 4) (.v 0)) (.le true (.v 0) (.k 11))) [(.eq true (.v 1) (.b 0 (.k 3) (.v 2))), (.eq true (.v 1) (.v 0)), (.eq true (.v 2) (.v 3)), (.eq false (.b 0 (.k 4) (.b 4 (.v 0) (.k 5))) (.u 1 (.v 3)))] (.al (.ow false (.b 3 (.v 0) (.k 5)) (.fi [1, 0, 0, 0, 1, 0, 1, 1, 0, 0, 1, 1])) (.ow false (.b 3 (.v 0) (.k 5)) (.fi [0, 1, 0, 0, 1, 1, 0, 0, 1, 1, 0, 0, 1]))) (rfl)
theorem om390 {n0 n1 n2 n3 : Nat} {z4 : Int} : n1 = (3 : Nat) + n2 → n1 = n0 → n2 = n3 → (4 : Int) + z4 % (5 : Int) = (↑n3 : Int) → (7 : Nat) ≤ n0 ∧ n0 ≤ (11 : Nat) := ck [n0, n1, n2, n3] [z4] [] (.an (.le true (.k 7) (.v 0)) (.le true (.v 0) (.k 11))) [(.eq true (.v 1) (.b 0 (.k 3) (.v 2))), (.eq true (.v 1) (.v 0)), (.eq true (.v 2) (.v 3)), (.eq false (.b 0 (.k 4) (.b 4 (.v 0) (.k 5))) (.u 1 (.v 3)))] (.al (.ow false (.b 3 (.v 0) (.k 5)) (.fi [1, 0, 0, 0, 1, 0, 1, 1, 0, 0, 1, 1])) (.ow false (.b 3 (.v 0) (.k 5)) (.fi [0, 1, 0, 0, 1, 1, 0, 0, 1, 1, 0, 0, 1]))) (rfl)
theorem om391 {n0 n1 n2 n3 : Nat} {z4 : Int} : n1 = (3 : Nat) + n2 → n1 = n0 → n2 = n3 → (4 : Int) + z4 % (5 : Int) = (↑n3 : Int) → (↑n0 : Int) - (1 : Int) < (1000 : Int) := ck [n0, n1, n2, n3] [z4] [] (.lt false (.b 1 (.u 1 (.v 0)) (.k 1)) (.k 1000)) [(.eq true (.v 1) (.b 0 (.k 3) (.v 2))), (.eq true (.v 1) (.v 0)), (.eq true (.v 2) (.v 3)), (.eq false (.b 0 (.k 4) (.b 4 (.v 0) (.k 5))) (.u 1 (.v 3)))] (.ow false (.b 3 (.v 0) (.k 5)) (.fi [0, 1, 0, 0, 1, 1, 0, 0, 1, 1, 0, 0, 1])) (rfl)
theorem om392 {n0 n1 n2 n3 : Nat} {z4 : Int} : n1 = (3 : Nat) + n2 → n1 = n0 → n2 = n3 → (4 : Int) + z4 % (5 : Int) = (↑n3 : Int) → (↑n0 : Int) < (1000 : Int) := ck [n0, n1, n2, n3] [z4] [] (.lt false (.u 1 (.v 0)) (.k 1000)) [(.eq true (.v 1) (.b 0 (.k 3) (.v 2))), (.eq true (.v 1) (.v 0)), (.eq true (.v 2) (.v 3)), (.eq false (.b 0 (.k 4) (.b 4 (.v 0) (.k 5))) (.u 1 (.v 3)))] (.ow false (.b 3 (.v 0) (.k 5)) (.fi [0, 1, 0, 0, 1, 1, 0, 0, 1, 1, 0, 0, 1])) (rfl)
theorem om393 {n0 n1 n2 n3 : Nat} {z4 : Int} : n1 = (3 : Nat) + n2 → n1 = n0 → n2 = n3 → (4 : Int) + z4 % (5 : Int) = (↑n3 : Int) → n0 < (1000 : Nat) := ck [n0, n1, n2, n3] [z4] [] (.lt true (.v 0) (.k 1000)) [(.eq true (.v 1) (.b 0 (.k 3) (.v 2))), (.eq true (.v 1) (.v 0)), (.eq true (.v 2) (.v 3)), (.eq false (.b 0 (.k 4) (.b 4 (.v 0) (.k 5))) (.u 1 (.v 3)))] (.ow false (.b 3 (.v 0) (.k 5)) (.fi [0, 1, 0, 0, 1, 1, 0, 0, 1, 1, 0, 0, 1])) (rfl)
theorem om394 {n0 n1 n2 n3 : Nat} {z4 : Int} : n1 = (3 : Nat) + n2 → n1 = n0 → n2 = n3 → (4 : Int) + z4 % (5 : Int) = (↑n3 : Int) → n0 < (10000 : Nat) := ck [n0, n1, n2, n3] [z4] [] (.lt true (.v 0) (.k 10000)) [(.eq true (.v 1) (.b 0 (.k 3) (.v 2))), (.eq true (.v 1) (.v 0)), (.eq true (.v 2) (.v 3)), (.eq false (.b 0 (.k 4) (.b 4 (.v 0) (.k 5))) (.u 1 (.v 3)))] (.ow false (.b 3 (.v 0) (.k 5)) (.fi [0, 1, 0, 0, 1, 1, 0, 0, 1, 1, 0, 0, 1])) (rfl)
theorem om395 {n0 n1 n2 n3 : Nat} {z4 : Int} : n1 = (3 : Nat) + n2 → n1 = n0 → n2 = n3 → (4 : Int) + z4 % (5 : Int) = (↑n3 : Int) → n0 < (100000 : Nat) := ck [n0, n1, n2, n3] [z4] [] (.lt true (.v 0) (.k 100000)) [(.eq true (.v 1) (.b 0 (.k 3) (.v 2))), (.eq true (.v 1) (.v 0)), (.eq true (.v 2) (.v 3)), (.eq false (.b 0 (.k 4) (.b 4 (.v 0) (.k 5))) (.u 1 (.v 3)))] (.ow false (.b 3 (.v 0) (.k 5)) (.fi [0, 1, 0, 0, 1, 1, 0, 0, 1, 1, 0, 0, 1])) (rfl)
theorem om396 {n0 n1 n2 n3 : Nat} : (0 : Nat) < n2 → (↑n3 : Int) = (↑(n3 + n2) : Int) → n0 = n1 + (1 : Nat) := ck [n0, n1, n2, n3] [] [] (.eq true (.v 0) (.b 0 (.v 1) (.k 1))) [(.lt true (.k 0) (.v 2)), (.eq false (.u 1 (.v 3)) (.u 1 (.b 0 (.v 3) (.v 2))))] (.fi [1, 0, 1]) (rfl)
theorem om397 {n0 n1 n2 n3 : Nat} : (3 : Nat) + n0 < n2 → n1 = n3 → n2 = n3 → Min.min n0 (n1 - (3 : Nat)) = n0 := ck [n0, n1, n2, n3] [] [] (.eq true (.b 5 (.v 0) (.b 1 (.v 1) (.k 3))) (.v 0)) [(.lt true (.b 0 (.k 3) (.v 0)) (.v 2)), (.eq true (.v 1) (.v 3)), (.eq true (.v 2) (.v 3))] (.al (.tw true (.b 5 (.v 0) (.b 1 (.v 1) (.k 3))) (.fi [0, 1, 0, 1]) (.tw true (.b 1 (.v 1) (.k 3)) (.fi [0, 1, 0, 1, 0, 0, 0, 0, 1, 1, 0, 1]) (.ow true (.b 5 (.v 0) (.b 1 (.v 1) (.k 3))) (.fi [1, 1, 0, 0, 0, 0, 1, 0, 1, 1, 0, 1])))) (.tw true (.b 5 (.v 0) (.b 1 (.v 1) (.k 3))) (.fi [0, 0, 1, 1]) (.fi [1, 0, 1, 1]))) (rfl)
theorem om398 {n0 n1 n2 n3 : Nat} : (3 : Nat) ≤ n2 ∧ n2 < n1 → n0 < n2 ∧ n3 < n2 → n0 < n1 := ck [n0, n1, n2, n3] [] [] (.lt true (.v 0) (.v 1)) [(.an (.le true (.k 3) (.v 2)) (.lt true (.v 2) (.v 1))), (.an (.lt true (.v 0) (.v 2)) (.lt true (.v 3) (.v 2)))] (.fi [1, 0, 1, 1]) (rfl)
theorem om399 {n0 n1 n2 n3 : Nat} : (3 : Nat) ≤ n2 ∧ n2 < n1 → n3 < n2 ∧ n0 < n2 → n0 < n1 := ck [n0, n1, n2, n3] [] [] (.lt true (.v 0) (.v 1)) [(.an (.le true (.k 3) (.v 2)) (.lt true (.v 2) (.v 1))), (.an (.lt true (.v 3) (.v 2)) (.lt true (.v 0) (.v 2)))] (.fi [1, 1, 0, 1]) (rfl)
theorem om400 {n0 n1 n2 n3 : Nat} : (4 : Nat) ≤ n1 ∧ n1 ≤ (11 : Nat) → (↑n1 : Int) - (1 : Int) + (↑n2 : Int) * (-1 : Int) = (↑n3 : Int) → n0 ≤ (2 : Nat) * n2 → n0 < (900 : Nat) := ck [n0, n1, n2, n3] [] [] (.lt true (.v 0) (.k 900)) [(.an (.le true (.k 4) (.v 1)) (.le true (.v 1) (.k 11))), (.eq false (.b 0 (.b 1 (.u 1 (.v 1)) (.k 1)) (.b 2 (.u 1 (.v 2)) (.u 0 (.k 1)))) (.u 1 (.v 3))), (.le true (.v 0) (.b 2 (.k 2) (.v 2)))] (.ow true (.v 3) (.fi [2, 1, 1, 2, 0, 2])) (rfl)
theorem om401 {n0 n1 n2 n3 : Nat} : (4 : Nat) ≤ n1 ∧ n1 ≤ (11 : Nat) → (↑n1 : Int) - (1 : Int) + (↑n2 : Int) * (-1 : Int) = (↑n3 : Int) → n0 ≤ (3 : Nat) * n2 → n0 < (800 : Nat) := ck [n0, n1, n2, n3] [] [] (.lt true (.v 0) (.k 800)) [(.an (.le true (.k 4) (.v 1)) (.le true (.v 1) (.k 11))), (.eq false (.b 0 (.b 1 (.u 1 (.v 1)) (.k 1)) (.b 2 (.u 1 (.v 2)) (.u 0 (.k 1)))) (.u 1 (.v 3))), (.le true (.v 0) (.b 2 (.k 3) (.v 2)))] (.ow true (.v 3) (.fi [3, 1, 1, 3, 0, 3])) (rfl)
theorem om402 {n0 n1 n2 n3 : Nat} : (4 : Nat) ≤ n1 ∧ n1 ≤ (11 : Nat) → n0 < n2 ∧ n3 < n2 → n2 < n1 → n0 < (11 : Nat) := ck [n0, n1, n2, n3] [] [] (.lt true (.v 0) (.k 11)) [(.an (.le true (.k 4) (.v 1)) (.le true (.v 1) (.k 11))), (.an (.lt true (.v 0) (.v 2)) (.lt true (.v 3) (.v 2))), (.lt true (.v 2) (.v 1))] (.fi [1, 1, 0, 1, 1]) (rfl)
theorem om403 {n0 n1 n2 n3 : Nat} : (4 : Nat) ≤ n1 ∧ n1 ≤ (11 : Nat) → n0 = n2 → n3 + (n2 + (1 : Nat)) ≤ n1 → n0 + (1 : Nat) < (900 : Nat) := ck [n0, n1, n2, n3] [] [] (.lt true (.b 0 (.v 0) (.k 1)) (.k 900)) [(.an (.le true (.k 4) (.v 1)) (.le true (.v 1) (.k 11))), (.eq true (.v 0) (.v 2)), (.le true (.b 0 (.v 3) (.b 0 (.v 2) (.k 1))) (.v 1))] (.ow true (.v 3) (.fi [1, 1, 1, 0, 1, 1])) (rfl)
theorem om404 {n0 n1 n2 n3 : Nat} : (4 : Nat) ≤ n1 ∧ n1 ≤ (11 : Nat) → n0 ≤ n2 + n3 → n2 ≤ (3 : Nat) * (n1 - (3 : Nat)) → n3 < (3 : Nat) → n0 < (800 : Nat) := ck [n0, n1, n2, n3] [] [] (.lt true (.v 0) (.k 800)) [(.an (.le true (.k 4) (.v 1)) (.le true (.v 1) (.k 11))), (.le true (.v 0) (.b 0 (.v 2) (.v 3))), (.le true (.v 2) (.b 2 (.k 3) (.b 1 (.v 1) (.k 3)))), (.lt true (.v 3) (.k 3))] (.tw true (.b 1 (.v 1) (.k 3)) (.fi [0, 0, 3, 1, 1, 1, 1, 3]) (.fi [0, 3, 1, 1, 1, 1])) (rfl)
theorem om405 {n0 n1 n2 n3 : Nat} : (4 : Nat) ≤ n1 ∧ n1 ≤ (11 : Nat) → n2 < n1 → n3 < n2 ∧ n0 < n2 → n0 < (11 : Nat) := ck [n0, n1, n2, n3] [] [] (.lt true (.v 0) (.k 11)) [(.an (.le true (.k 4) (.v 1)) (.le true (.v 1) (.k 11))), (.lt true (.v 2) (.v 1)), (.an (.lt true (.v 3) (.v 2)) (.lt true (.v 0) (.v 2)))] (.fi [1, 1, 0, 1, 1]) (rfl)
theorem om406 {n0 n1 n2 n3 : Nat} : n0 + n1 + (n2 + n3) = n0 + n2 + (n1 + n3) := ck [n0, n1, n2, n3] [] [] (.eq true (.b 0 (.b 0 (.v 0) (.v 1)) (.b 0 (.v 2) (.v 3))) (.b 0 (.b 0 (.v 0) (.v 2)) (.b 0 (.v 1) (.v 3)))) [] (.al (.fi [1]) (.fi [1])) (rfl)
theorem om407 {n0 n1 n2 n3 : Nat} : n0 + n2 + (1 : Nat) ≤ n3 → n0 + (n1 + (n2 - (0 : Nat))) ≤ n3 + n1 := ck [n0, n1, n2, n3] [] [] (.le true (.b 0 (.v 0) (.b 0 (.v 1) (.b 1 (.v 2) (.k 0)))) (.b 0 (.v 3) (.v 1))) [(.le true (.b 0 (.b 0 (.v 0) (.v 2)) (.k 1)) (.v 3))] (.tw true (.b 1 (.v 2) (.k 0)) (.fi [0, 0, 1, 1, 1]) (.ow true (.v 2) (.fi [1, 0, 1, 1, 1]))) (rfl)
theorem om408 {n0 n1 n2 n3 : Nat} : n0 + n3 ≤ n2 → n1 + (0 : Nat) + (1 : Nat) ≤ n3 → n0 + (1 : Nat) + n1 ≤ n2 := ck [n0, n1, n2, n3] [] [] (.le true (.b 0 (.b 0 (.v 0) (.k 1)) (.v 1)) (.v 2)) [(.le true (.b 0 (.v 0) (.v 3)) (.v 2)), (.le true (.b 0 (.b 0 (.v 1) (.k 0)) (.k 1)) (.v 3))] (.fi [1, 1, 1]) (rfl)
theorem om409 {n0 n1 n2 n3 : Nat} : n0 - n3 = n2 → n1 < n0 → n1 = (2 : Nat) * n3 + (1 : Nat) ∨ n1 = (2 : Nat) * n3 + (1 : Nat) + (1 : Nat) → n0 - n1 < n2 := ck [n0, n1, n2, n3] [] [] (.lt true (.b 1 (.v 0) (.v 1)) (.v 2)) [(.eq true (.b 1 (.v 0) (.v 3)) (.v 2)), (.lt true (.v 1) (.v 0)), (.or (.eq true (.v 1) (.b 0 (.b 2 (.k 2) (.v 3)) (.k 1))) (.eq true (.v 1) (.b 0 (.b 0 (.b 2 (.k 2) (.v 3)) (.k 1)) (.k 1))))] (.al (.tw true (.b 1 (.v 0) (.v 3)) (.tw true (.b 1 (.v 0) (.v 1)) (.ow true (.v 3) (.fi [1, 0, 0, 1, 0, 1, 0, 1, 1, 0, 0, 0, 1])) (.fi [1, 0, 0, 0, 0, 0, 0, 0, 1])) (.ow true (.v 1) (.fi [1, 2, 0, 0, 1, 0, 2]))) (.tw true (.b 1 (.v 0) (.v 3)) (.tw true (.b 1 (.v 0) (.v 1)) (.ow true (.v 3) (.fi [1, 0, 0, 1, 0, 1, 0, 1, 1, 0, 0, 0, 1])) (.fi [1, 0, 0, 0, 0, 0, 0, 0, 1])) (.ow true (.v 1) (.fi [1, 2, 0, 0, 1, 0, 2])))) (rfl)
theorem om410 {n0 n1 n2 n3 : Nat} : n0 - n3 ≤ n2 + (1 : Nat) → n3 ≤ n1 ∧ n1 < n0 → n0 - (n1 + (1 : Nat)) ≤ n2 := ck [n0, n1, n2, n3] [] [] (.le true (.b 1 (.v 0) (.b 0 (.v 1) (.k 1))) (.v 2)) [(.le true (.b 1 (.v 0) (.v 3)) (.b 0 (.v 2) (.k 1))), (.an (.le true (.v 3) (.v 1)) (.lt true (.v 1) (.v 0)))] (.tw true (.b 1 (.v 0) (.v 3)) (.tw true (.b 1 (.v 0) (.b 0 (.v 1) (.k 1))) (.fi [0, 0, 1, 0, 1, 0, 1, 0, 1, 1]) (.fi [0, 1, 0, 1, 0, 1, 1, 1, 1])) (.fi [1, 0, 0, 1, 1])) (rfl)
theorem om411 {n0 n1 n2 n3 : Nat} : n0 < n1 + n2 → n2 ≤ n3 → n0 < n1 + Min.min n2 n3 := ck [n0, n1, n2, n3] [] [] (.lt true (.v 0) (.b 0 (.v 1) (.b 5 (.v 2) (.v 3)))) [(.lt true (.v 0) (.b 0 (.v 1) (.v 2))), (.le true (.v 2) (.v 3))] (.tw true (.b 5 (.v 2) (.v 3)) (.fi [0, 1, 0, 1, 0, 1]) (.fi [0, 1, 0, 1, 1, 1])) (rfl)
theorem om412 {n0 n1 n2 n3 : Nat} : n0 < n1 → n2 < n0 ∧ n0 ≤ n3 → n0 - (1 : Nat) < n1 - (1 : Nat) := ck [n0, n1, n2, n3] [] [] (.lt true (.b 1 (.v 0) (.k 1)) (.b 1 (.v 1) (.k 1))) [(.lt true (.v 0) (.v 1)), (.an (.lt true (.v 2) (.v 0)) (.le true (.v 0) (.v 3)))] (.tw true (.b 1 (.v 1) (.k 1)) (.tw true (.b 1 (.v 0) (.k 1)) (.fi [0, 0, 1, 0, 1, 0, 1, 0, 0, 1]) (.ow true (.v 2) (.fi [1, 0, 1, 0, 1, 0, 1, 0, 1, 1]))) (.ow true (.v 2) (.fi [1, 1, 0, 0, 0, 1, 1]))) (rfl)
theorem om413 {n0 n1 n2 n3 : Nat} : n0 < n2 ∧ n3 < n2 → n2 < n1 → n0 < n1 := ck [n0, n1, n2, n3] [] [] (.lt true (.v 0) (.v 1)) [(.an (.lt true (.v 0) (.v 2)) (.lt true (.v 3) (.v 2))), (.lt true (.v 2) (.v 1))] (.fi [1, 1, 0, 1]) (rfl)
theorem om414 {n0 n1 n2 n3 : Nat} : n0 < n3 ∧ n3 ≤ n2 → n1 < n2 + (1 : Nat) → n3 < n1 → n0 < n1 ∧ n1 ≤ n2 := ck [n0, n1, n2, n3] [] [] (.an (.lt true (.v 0) (.v 1)) (.le true (.v 1) (.v 2))) [(.an (.lt true (.v 0) (.v 3)) (.le true (.v 3) (.v 2))), (.lt true (.v 1) (.b 0 (.v 2) (.k 1))), (.lt true (.v 3) (.v 1))] (.al (.fi [1, 1, 0, 0, 1]) (.fi [1, 0, 1])) (rfl)
theorem om415 {n0 n1 n2 n3 : Nat} : n0 = (3 : Nat) + n1 → n1 < n2 → n3 < (900 : Nat) → n3 = n2 → n0 < (100000 : Nat) := ck [n0, n1, n2, n3] [] [] (.lt true (.v 0) (.k 100000)) [(.eq true (.v 0) (.b 0 (.k 3) (.v 1))), (.lt true (.v 1) (.v 2)), (.lt true (.v 3) (.k 900)), (.eq true (.v 3) (.v 2))] (.fi [1, 1, 0, 1, 1, 0, 1]) (rfl)
theorem om416 {n0 n1 n2 n3 : Nat} : n0 = n1 → n2 = (3 : Nat) + n3 → n2 = n1 → Min.min (3 : Nat) n0 = (3 : Nat) := ck [n0, n1, n2, n3] [] [] (.eq true (.b 5 (.k 3) (.v 0)) (.k 3)) [(.eq true (.v 0) (.v 1)), (.eq true (.v 2) (.b 0 (.k 3) (.v 3))), (.eq true (.v 2) (.v 1))] (.al (.tw true (.b 5 (.k 3) (.v 0)) (.fi [0, 1, 0, 1]) (.ow true (.v 3) (.fi [1, 0, 1, 0, 1, 0, 1, 1, 0, 1]))) (.tw true (.b 5 (.k 3) (.v 0)) (.fi [0, 0, 1, 1]) (.fi [1, 0, 1, 1]))) (rfl)
theorem om417 {n0 n1 n2 n3 : Nat} : n0 = n2 → n3 = n2 → n3 ≤ n1 → n0 ≤ n1 := ck [n0, n1, n2, n3] [] [] (.le true (.v 0) (.v 1)) [(.eq true (.v 0) (.v 2)), (.eq true (.v 3) (.v 2)), (.le true (.v 3) (.v 1))] (.fi [1, 1, 1, 0, 0, 1]) (rfl)
theorem om418 {n0 n1 n2 n3 : Nat} : n0 ≤ n1 → n1 + n2 ≤ n3 → n3 < (900 : Nat) → n0 < (100000 : Nat) := ck [n0, n1, n2, n3] [] [] (.lt true (.v 0) (.k 100000)) [(.le true (.v 0) (.v 1)), (.le true (.b 0 (.v 1) (.v 2)) (.v 3)), (.lt true (.v 3) (.k 900))] (.ow true (.v 2) (.fi [1, 1, 1, 1, 1])) (rfl)
theorem om419 {n0 n1 n2 n3 : Nat} : n0 ≤ n2 → n1 ≤ n3 → n0 + n1 ≤ n2 + n3 := ck [n0, n1, n2, n3] [] [] (.le true (.b 0 (.v 0) (.v 1)) (.b 0 (.v 2) (.v 3))) [(.le true (.v 0) (.v 2)), (.le true (.v 1) (.v 3))] (.fi [1, 1, 1]) (rfl)
theorem om420 {n0 n1 n2 n3 : Nat} : n0 ≤ n3 + n2 → n3 ≤ n1 + (1 : Nat) → n0 ≤ n1 + (n2 + (1 : Nat)) := ck [n0, n1, n2, n3] [] [] (.le true (.v 0) (.b 0 (.v 1) (.b 0 (.v 2) (.k 1)))) [(.le true (.v 0) (.b 0 (.v 3) (.v 2))), (.le true (.v 3) (.b 0 (.v 1) (.k 1)))] (.fi [1, 1, 1]) (rfl)
theorem om421 {n0 n1 n2 n3 : Nat} : n1 + (1 : Nat) ≤ n2 → n2 < n3 → n3 = n1 + (1 : Nat) → n0 = (0 : Nat) := ck [n0, n1, n2, n3] [] [] (.eq true (.v 0) (.k 0)) [(.le true (.b 0 (.v 1) (.k 1)) (.v 2)), (.lt true (.v 2) (.v 3)), (.eq true (.v 3) (.b 0 (.v 1) (.k 1)))] (.fi [0, 1, 1, 1]) (rfl)
theorem om422 {n0 n1 n2 n3 : Nat} : n1 + n2 + (1 : Nat) ≤ n3 → n0 + n1 + n2 + (1 : Nat) ≤ n0 + n3 := ck [n0, n1, n2, n3] [] [] (.le true (.b 0 (.b 0 (.b 0 (.v 0) (.v 1)) (.v 2)) (.k 1)) (.b 0 (.v 0) (.v 3))) [(.le true (.b 0 (.b 0 (.v 1) (.v 2)) (.k 1)) (.v 3))] (.fi [1, 1]) (rfl)
theorem om423 {n0 n1 n2 n3 : Nat} : n1 ≤ n0 ∧ n0 < n3 → n3 - n1 ≤ n2 + (1 : Nat) → n0 - n1 ≤ n2 := ck [n0, n1, n2, n3] [] [] (.le true (.b 1 (.v 0) (.v 1)) (.v 2)) [(.an (.le true (.v 1) (.v 0)) (.lt true (.v 0) (.v 3))), (.le true (.b 1 (.v 3) (.v 1)) (.b 0 (.v 2) (.k 1)))] (.tw true (.b 1 (.v 3) (.v 1)) (.tw true (.b 1 (.v 0) (.v 1)) (.fi [0, 0, 1, 0, 1, 0, 1, 1, 1]) (.fi [0, 1, 0, 1, 0, 1, 1, 1, 1])) (.fi [1, 0, 0, 0, 1, 1])) (rfl)
theorem om424 {n0 n1 n2 n3 : Nat} : n1 ≤ n3 → n3 < n2 → ¬n0 ≥ n1 → (n0 + n1) / (2 : Nat) < n2 := ck [n0, n1, n2, n3] [] [] (.lt true (.b 3 (.b 0 (.v 0) (.v 1)) (.k 2)) (.v 2)) [(.le true (.v 1) (.v 3)), (.lt true (.v 3) (.v 2)), (.no (.le true (.v 1) (.v 0)))] (.ow true (.b 4 (.b 0 (.v 0) (.v 1)) (.k 2)) (.fi [1, 0, 0, 1, 0, 2, 1, 2, 2])) (rfl)
theorem om425 {n0 n1 n2 n3 : Nat} : n2 < n1 → n3 < n2 ∧ n0 < n2 → n0 < n1 := ck [n0, n1, n2, n3] [] [] (.lt true (.v 0) (.v 1)) [(.lt true (.v 2) (.v 1)), (.an (.lt true (.v 3) (.v 2)) (.lt true (.v 0) (.v 2)))] (.fi [1, 1, 0, 1]) (rfl)
theorem om426 {n0 n1 n2 n3 : Nat} : n2 = (1 : Nat) + Max.max n0 n3 → n2 = n1 → n0 < n1 := ck [n0, n1, n2, n3] [] [] (.lt true (.v 0) (.v 1)) [(.eq true (.v 2) (.b 0 (.k 1) (.b 6 (.v 0) (.v 3)))), (.eq true (.v 2) (.v 1))] (.tw true (.b 6 (.v 0) (.v 3)) (.fi [0, 1, 0, 1, 0, 1, 1]) (.fi [1, 1, 0, 1, 0, 1, 1])) (rfl)
theorem om427 {n0 n1 n2 n3 : Nat} : n2 = (1 : Nat) + Max.max n3 n0 → n2 = n1 + (1 : Nat) → ¬n3 = n1 → n0 = n1 := ck [n0, n1, n2, n3] [] [] (.eq true (.v 0) (.v 1)) [(.eq true (.v 2) (.b 0 (.k 1) (.b 6 (.v 3) (.v 0)))), (.eq true (.v 2) (.b 0 (.v 1) (.k 1))), (.no (.eq true (.v 3) (.v 1)))] (.al (.al (.tw true (.b 6 (.v 3) (.v 0)) (.fi [0, 0, 1, 0, 1, 1, 0, 0, 1]) (.fi [0, 0, 1, 1, 0, 1, 0, 0, 1])) (.tw true (.b 6 (.v 3) (.v 0)) (.fi [1, 0, 0, 1, 1]) (.fi [0, 1, 0, 1, 0, 0, 1, 1]))) (.tw true (.b 6 (.v 3) (.v 0)) (.fi [0, 1, 0, 1, 0, 1, 1]) (.fi [1, 1, 0, 1, 0, 1, 1]))) (rfl)
theorem om428 {n0 n1 n2 n3 : Nat} : n2 = (1 : Nat) + Max.max n3 n0 → n2 = n1 → n0 < n1 := ck [n0, n1, n2, n3] [] [] (.lt true (.v 0) (.v 1)) [(.eq true (.v 2) (.b 0 (.k 1) (.b 6 (.v 3) (.v 0)))), (.eq true (.v 2) (.v 1))] (.tw true (.b 6 (.v 3) (.v 0)) (.fi [1, 1, 0, 1, 0, 1, 1]) (.fi [0, 1, 0, 1, 0, 1, 1])) (rfl)
theorem om429 {n0 n1 n2 n3 : Nat} : n2 ≤ n0 → n3 ≤ n1 ∧ n1 < n2 → n0 ≠ n1 := ck [n0, n1, n2, n3] [] [] (.no (.eq true (.v 0) (.v 1))) [(.le true (.v 2) (.v 0)), (.an (.le true (.v 3) (.v 1)) (.lt true (.v 1) (.v 2)))] (.fi [0, 1, 1, 0, 1]) (rfl)
theorem om430 {n0 n1 n2 n3 : Nat} : n2 ≤ n0 ∧ n0 < n3 → n3 ≤ n1 → n0 < n1 := ck [n0, n1, n2, n3] [] [] (.lt true (.v 0) (.v 1)) [(.an (.le true (.v 2) (.v 0)) (.lt true (.v 0) (.v 3))), (.le true (.v 3) (.v 1))] (.fi [1, 1, 1]) (rfl)
theorem om431 {n0 n1 n2 n3 : Nat} : n2 ≤ n0 ∧ n0 < n3 → n3 ≤ n1 → n0 ≤ n1 := ck [n0, n1, n2, n3] [] [] (.le true (.v 0) (.v 1)) [(.an (.le true (.v 2) (.v 0)) (.lt true (.v 0) (.v 3))), (.le true (.v 3) (.v 1))] (.fi [1, 1, 1]) (rfl)
theorem om432 {n0 n1 n2 n3 n4 : Nat} {p5 : Prop} {z6 : Int} : n1 = (3 : Nat) + n2 → n1 = n3 → n2 = n4 → n0 < n3 ∧ p5 → (4 : Int) + z6 % (5 : Int) = (↑n4 : Int) → n0 < (11 : Nat) := ck [n0, n1, n2, n3, n4] [z6] [p5] (.lt true (.v 0) (.k 11)) [(.eq true (.v 1) (.b 0 (.k 3) (.v 2))), (.eq true (.v 1) (.v 3)), (.eq true (.v 2) (.v 4)), (.an (.lt true (.v 0) (.v 3)) (.pr 0)), (.eq false (.b 0 (.k 4) (.b 4 (.v 0) (.k 5))) (.u 1 (.v 4)))] (.ow false (.b 3 (.v 0) (.k 5)) (.fi [0, 1, 0, 0, 1, 1, 0, 1, 0, 1, 1, 0, 0, 1])) (rfl)
theorem om433 {n0 n1 n2 n3 n4 : Nat} {z5 : Int} : (3 : Nat) + n1 < n2 → n0 = (3 : Nat) + n1 → n2 = (3 : Nat) + n3 → n3 = n4 → (4 : Int) + z5 % (5 : Int) = (↑n4 : Int) → n0 < (1000 : Nat) := ck [n0, n1, n2, n3, n4] [z5] [] (.lt true (.v 0) (.k 1000)) [(.lt true (.b 0 (.k 3) (.v 1)) (.v 2)), (.eq true (.v 0) (.b 0 (.k 3) (.v 1))), (.eq true (.v 2) (.b 0 (.k 3) (.v 3))), (.eq true (.v 3) (.v 4)), (.eq false (.b 0 (.k 4) (.b 4 (.v 0) (.k 5))) (.u 1 (.v 4)))] (.ow false (.b 3 (.v 0) (.k 5)) (.fi [0, 1, 0, 0, 1, 1, 0, 0, 1, 0, 1, 0, 1, 1])) (rfl)
theorem om434 {n0 n1 n2 n3 n4 : Nat} {z5 : Int} : n0 = n1 → n2 = (3 : Nat) + n3 → n2 = n1 → n3 = n4 → (4 : Int) + z5 % (5 : Int) = (↑n4 : Int) → n0 < (1000 : Nat) := ck [n0, n1, n2, n3, n4] [z5] [] (.lt true (.v 0) (.k 1000)) [(.eq true (.v 0) (.v 1)), (.eq true (.v 2) (.b 0 (.k 3) (.v 3))), (.eq true (.v 2) (.v 1)), (.eq true (.v 3) (.v 4)), (.eq false (.b 0 (.k 4) (.b 4 (.v 0) (.k 5))) (.u 1 (.v 4)))] (.ow false (.b 3 (.v 0) (.k 5)) (.fi [0, 1, 0, 0, 1, 1, 0, 0, 1, 1, 0, 0, 1, 0, 1])) (rfl)
theorem om435 {n0 n1 n2 n3 n4 : Nat} {z5 : Int} : n0 = n1 → n2 = (3 : Nat) + n3 → n2 = n1 → n3 = n4 → (4 : Int) + z5 % (5 : Int) = (↑n4 : Int) → n0 < (100000 : Nat) := ck [n0, n1, n2, n3, n4] [z5] [] (.lt true (.v 0) (.k 100000)) [(.eq true (.v 0) (.v 1)), (.eq true (.v 2) (.b 0 (.k 3) (.v 3))), (.eq true (.v 2) (.v 1)), (.eq true (.v 3) (.v 4)), (.eq false (.b 0 (.k 4) (.b 4 (.v 0) (.k 5))) (.u 1 (.v 4)))] (.ow false (.b 3 (.v 0) (.k 5)) (.fi [0, 1, 0, 0, 1, 1, 0, 0, 1, 1, 0, 0, 1, 0, 1])) (rfl)
theorem om436 {n0 n1 n2 n3 n4 : Nat} {z5 : Int} : n0 ≤ n1 → n2 = (3 : Nat) + n3 → n2 = n1 → n3 = n4 → (4 : Int) + z5 % (5 : Int) = (↑n4 : Int) → n0 < (64 : Nat) := ck [n0, n1, n2, n3, n4] [z5] [] (.lt true (.v 0) (.k 64)) [(.le true (.v 0) (.v 1)), (.eq true (.v 2) (.b 0 (.k 3) (.v 3))), (.eq true (.v 2) (.v 1)), (.eq true (.v 3) (.v 4)), (.eq false (.b 0 (.k 4) (.b 4 (.v 0) (.k 5))) (.u 1 (.v 4)))] (.ow false (.b 3 (.v 0) (.k 5)) (.fi [0, 1, 0, 0, 1, 1, 0, 0, 1, 1, 0, 0, 1, 1])) (rfl)
theorem om437 {n0 n1 n2 n3 n4 : Nat} {z5 z6 : Int} : (↑n1 : Int) - (1 : Int) + (↑n3 : Int) * (-1 : Int) = (↑n4 : Int) → (↑n0 : Int) = z5 → (↑n2 : Int) = z6 → z5 < (↑n4 : Int) → z6 < (↑n4 : Int) → n0 < n1 ∧ n2 < n1 := ck [n0, n1, n2, n3, n4] [z5, z6] [] (.an (.lt true (.v 0) (.v 1)) (.lt true (.v 2) (.v 1))) [(.eq false (.b 0 (.b 1 (.u 1 (.v 1)) (.k 1)) (.b 2 (.u 1 (.v 3)) (.u 0 (.k 1)))) (.u 1 (.v 4))), (.eq false (.u 1 (.v 0)) (.v 0)), (.eq false (.u 1 (.v 2)) (.v 1)), (.lt false (.v 0) (.u 1 (.v 4))), (.lt false (.v 1) (.u 1 (.v 4)))] (.al (.ow true (.v 3) (.fi [1, 1, 0, 1, 0, 0, 0, 1, 1])) (.ow true (.v 3) (.fi [1, 1, 1, 0, 0, 1, 0, 0, 1]))) (rfl)
theorem om438 {n0 n1 n2 n3 n4 : Nat} : (4 : Nat) ≤ n1 ∧ n1 ≤ (11 : Nat) → n0 = n2 → n2 < n3 ∧ n4 < n3 → n3 < n1 → n0 < (11 : Nat) := ck [n0, n1, n2, n3, n4] [] [] (.lt true (.v 0) (.k 11)) [(.an (.le true (.k 4) (.v 1)) (.le true (.v 1) (.k 11))), (.eq true (.v 0) (.v 2)), (.an (.lt true (.v 2) (.v 3)) (.lt true (.v 4) (.v 3))), (.lt true (.v 3) (.v 1))] (.fi [1, 1, 0, 1, 0, 1, 1]) (rfl)
theorem om439 {n0 n1 n2 n3 n4 : Nat} : (4 : Nat) ≤ n1 ∧ n1 ≤ (11 : Nat) → n0 = n2 → n3 < n1 → n4 < n3 ∧ n2 < n3 → n0 < (11 : Nat) := ck [n0, n1, n2, n3, n4] [] [] (.lt true (.v 0) (.k 11)) [(.an (.le true (.k 4) (.v 1)) (.le true (.v 1) (.k 11))), (.eq true (.v 0) (.v 2)), (.lt true (.v 3) (.v 1)), (.an (.lt true (.v 4) (.v 3)) (.lt true (.v 2) (.v 3)))] (.fi [1, 1, 0, 1, 0, 1, 1]) (rfl)
theorem om440 {n0 n1 n2 n3 n4 : Nat} : n0 + (n1 + (n2 - n3)) ≤ n4 → n3 < n2 → n0 + (n1 + (n2 - (n3 + (1 : Nat)))) < n4 := ck [n0, n1, n2, n3, n4] [] [] (.lt true (.b 0 (.v 0) (.b 0 (.v 1) (.b 1 (.v 2) (.b 0 (.v 3) (.k 1))))) (.v 4)) [(.le true (.b 0 (.v 0) (.b 0 (.v 1) (.b 1 (.v 2) (.v 3)))) (.v 4)), (.lt true (.v 3) (.v 2))] (.tw true (.b 1 (.v 2) (.v 3)) (.tw true (.b 1 (.v 2) (.b 0 (.v 3) (.k 1))) (.fi [0, 0, 1, 0, 1, 0, 1, 0, 1]) (.fi [0, 1, 0, 1, 0, 1, 1, 1])) (.fi [1, 0, 0, 1])) (rfl)
theorem om441 {n0 n1 n2 n3 n4 : Nat} : n0 + (n1 + (n3 - n4)) ≤ n2 → n0 + n1 ≤ n2 := ck [n0, n1, n2, n3, n4] [] [] (.le true (.b 0 (.v 0) (.v 1)) (.v 2)) [(.le true (.b 0 (.v 0) (.b 0 (.v 1) (.b 1 (.v 3) (.v 4)))) (.v 2))] (.ow true (.b 1 (.v 3) (.v 4)) (.fi [1, 1, 1])) (rfl)
theorem om442 {n0 n1 n2 n3 n4 : Nat} : n0 = n1 → n1 ≤ n2 → n2 + n3 ≤ n4 → n4 < (900 : Nat) → n0 < (100000 : Nat) := ck [n0, n1, n2, n3, n4] [] [] (.lt true (.v 0) (.k 100000)) [(.eq true (.v 0) (.v 1)), (.le true (.v 1) (.v 2)), (.le true (.b 0 (.v 2) (.v 3)) (.v 4)), (.lt true (.v 4) (.k 900))] (.ow true (.v 3) (.fi [1, 1, 1, 1, 1, 0, 1])) (rfl)
theorem om443 {n0 n1 n2 n3 n4 : Nat} : n0 ≤ n2 + (1 : Nat) → n2 ≤ n3 + (1 : Nat) → n3 ≤ n4 + (1 : Nat) → n4 ≤ (3 : Nat) * n1 → n0 ≤ (3 : Nat) * (n1 + (1 : Nat)) := ck [n0, n1, n2, n3, n4] [] [] (.le true (.v 0) (.b 2 (.k 3) (.b 0 (.v 1) (.k 1)))) [(.le true (.v 0) (.b 0 (.v 2) (.k 1))), (.le true (.v 2) (.b 0 (.v 3) (.k 1))), (.le true (.v 3) (.b 0 (.v 4) (.k 1))), (.le true (.v 4) (.b 2 (.k 3) (.v 1)))] (.fi [1, 1, 1, 1, 1]) (rfl)
theorem om444 {n0 n1 n2 n3 n4 : Nat} : n0 ≤ n3 + (40 : Nat) * n2 → n3 ≤ n1 + n4 → n4 ≤ (40 : Nat) → n0 ≤ n1 + (40 : Nat) * (n2 + (1 : Nat)) := ck [n0, n1, n2, n3, n4] [] [] (.le true (.v 0) (.b 0 (.v 1) (.b 2 (.k 40) (.b 0 (.v 2) (.k 1))))) [(.le true (.v 0) (.b 0 (.v 3) (.b 2 (.k 40) (.v 2)))), (.le true (.v 3) (.b 0 (.v 1) (.v 4))), (.le true (.v 4) (.k 40))] (.fi [1, 1, 1, 1]) (rfl)
theorem om445 {n0 n1 n2 n3 n4 : Nat} : n0 ≤ n3 → n1 ≤ n4 → n3 < n2 ∧ n4 < n2 → (1 : Nat) + Max.max n0 n1 ≤ n2 := ck [n0, n1, n2, n3, n4] [] [] (.le true (.b 0 (.k 1) (.b 6 (.v 0) (.v 1))) (.v 2)) [(.le true (.v 0) (.v 3)), (.le true (.v 1) (.v 4)), (.an (.lt true (.v 3) (.v 2)) (.lt true (.v 4) (.v 2)))] (.tw true (.b 6 (.v 0) (.v 1)) (.fi [0, 0, 1, 1, 0, 1, 0, 1]) (.fi [0, 0, 1, 1, 1, 0, 1])) (rfl)
theorem om446 {n0 n1 n2 n3 n4 : Nat} : n2 < n1 → n3 ≤ n0 ∧ n0 < n4 → n4 ≤ n2 → n0 < n1 := ck [n0, n1, n2, n3, n4] [] [] (.lt true (.v 0) (.v 1)) [(.lt true (.v 2) (.v 1)), (.an (.le true (.v 3) (.v 0)) (.lt true (.v 0) (.v 4))), (.le true (.v 4) (.v 2))] (.fi [1, 1, 1, 0, 1]) (rfl)
theorem om447 {n0 n1 n2 n3 n4 n5 : Nat} : n0 + n1 ≤ n2 → n2 ≤ n3 → n3 + n4 ≤ n5 → n5 < (900 : Nat) → n0 < (100000 : Nat) := ck [n0, n1, n2, n3, n4, n5] [] [] (.lt true (.v 0) (.k 100000)) [(.le true (.b 0 (.v 0) (.v 1)) (.v 2)), (.le true (.v 2) (.v 3)), (.le true (.b 0 (.v 3) (.v 4)) (.v 5)), (.lt true (.v 5) (.k 900))] (.ow true (.v 4) (.ow true (.v 1) (.fi [1, 1, 1, 1, 1, 1, 1]))) (rfl)
theorem om448 {n0 n1 n2 n3 n4 n5 : Nat} : n0 = n1 → n1 ≤ n2 → n2 ≤ n3 → n3 + n4 ≤ n5 → n5 < (900 : Nat) → n0 < (100000 : Nat) := ck [n0, n1, n2, n3, n4, n5] [] [] (.lt true (.v 0) (.k 100000)) [(.eq true (.v 0) (.v 1)), (.le true (.v 1) (.v 2)), (.le true (.v 2) (.v 3)), (.le true (.b 0 (.v 3) (.v 4)) (.v 5)), (.lt true (.v 5) (.k 900))] (.ow true (.v 4) (.fi [1, 1, 1, 1, 1, 1, 0, 1])) (rfl)
theorem om449 {n0 n1 n2 n3 n4 n5 : Nat} : n1 < (800 : Nat) → n2 ≤ (2 : Nat) → n3 = n2 → n0 ≤ n4 + n5 → n4 ≤ n1 + (1 : Nat) → n5 ≤ n3 → n0 < (900 : Nat) := ck [n0, n1, n2, n3, n4, n5] [] [] (.lt true (.v 0) (.k 900)) [(.lt true (.v 1) (.k 800)), (.le true (.v 2) (.k 2)), (.eq true (.v 3) (.v 2)), (.le true (.v 0) (.b 0 (.v 4) (.v 5))), (.le true (.v 4) (.b 0 (.v 1) (.k 1))), (.le true (.v 5) (.v 3))] (.fi [1, 1, 1, 1, 0, 1, 1, 1]) (rfl)
theorem om450 {n0 n1 n2 n3 n4 n5 : Nat} : n1 ≤ (2 : Nat) → n2 = n1 → n3 < (900 : Nat) → n0 = n3 + n4 → n4 ≤ n5 → n5 ≤ n2 → n0 < (100000 : Nat) := ck [n0, n1, n2, n3, n4, n5] [] [] (.lt true (.v 0) (.k 100000)) [(.le true (.v 1) (.k 2)), (.eq true (.v 2) (.v 1)), (.lt true (.v 3) (.k 900)), (.eq true (.v 0) (.b 0 (.v 3) (.v 4))), (.le true (.v 4) (.v 5)), (.le true (.v 5) (.v 2))] (.fi [1, 1, 1, 0, 1, 1, 0, 1, 1]) (rfl)
theorem om451 {n0 n1 n2 n3 n4 n5 n6 : Nat} : n0 = n1 → n1 + n2 ≤ n3 → n3 ≤ n4 → n4 + n5 ≤ n6 → n6 < (900 : Nat) → n0 < (100000 : Nat) := ck [n0, n1, n2, n3, n4, n5, n6] [] [] (.lt true (.v 0) (.k 100000)) [(.eq true (.v 0) (.v 1)), (.le true (.b 0 (.v 1) (.v 2)) (.v 3)), (.le true (.v 3) (.v 4)), (.le true (.b 0 (.v 4) (.v 5)) (.v 6)), (.lt true (.v 6) (.k 900))] (.ow true (.v 5) (.ow true (.v 2) (.fi [1, 1, 1, 1, 1, 1, 1, 0, 1]))) (rfl)
theorem om452 {n0 n1 n2 n3 n4 n5 n6 n7 : Nat} : (4 : Nat) ≤ n1 ∧ n1 ≤ (11 : Nat) → n2 + (n3 + (1 : Nat)) ≤ n1 → n4 = n3 → n5 ≤ (2 : Nat) → n6 + (1 : Nat) = n5 → n0 + (1 : Nat) = Min.min n7 n6 + (n4 + (1 : Nat) + (1 : Nat)) → n0 < (900 : Nat) := ck [n0, n1, n2, n3, n4, n5, n6, n7] [] [] (.lt true (.v 0) (.k 900)) [(.an (.le true (.k 4) (.v 1)) (.le true (.v 1) (.k 11))), (.le true (.b 0 (.v 2) (.b 0 (.v 3) (.k 1))) (.v 1)), (.eq true (.v 4) (.v 3)), (.le true (.v 5) (.k 2)), (.eq true (.b 0 (.v 6) (.k 1)) (.v 5)), (.eq true (.b 0 (.v 0) (.k 1)) (.b 0 (.b 5 (.v 7) (.v 6)) (.b 0 (.b 0 (.v 4) (.k 1)) (.k 1))))] (.tw true (.b 5 (.v 7) (.v 6)) (.ow true (.v 2) (.fi [1, 1, 0, 1, 1, 0, 1, 0, 1, 1, 0, 1, 1, 1])) (.ow true (.v 2) (.fi [1, 0, 0, 1, 1, 0, 1, 0, 1, 1, 0, 1, 1, 1]))) (rfl)
theorem om453 {n0 n1 n2 n3 n4 n5 n6 n7 : Nat} : n1 < (100 : Nat) → n2 < (20 : Nat) → n3 ≤ (40 : Nat) → n0 = n4 → n5 ≤ n1 + (40 : Nat) * Min.min n6 n2 → n4 ≤ n5 + Min.min n7 n3 → n0 < (100000 : Nat) := ck [n0, n1, n2, n3, n4, n5, n6, n7] [] [] (.lt true (.v 0) (.k 100000)) [(.lt true (.v 1) (.k 100)), (.lt true (.v 2) (.k 20)), (.le true (.v 3) (.k 40)), (.eq true (.v 0) (.v 4)), (.le true (.v 5) (.b 0 (.v 1) (.b 2 (.k 40) (.b 5 (.v 6) (.v 2))))), (.le true (.v 4) (.b 0 (.v 5) (.b 5 (.v 7) (.v 3))))] (.tw true (.b 5 (.v 6) (.v 2)) (.tw true (.b 5 (.v 7) (.v 3)) (.fi [1, 0, 1, 40, 0, 40, 1, 1, 1, 0, 1, 1, 40, 1]) (.fi [0, 0, 1, 40, 0, 40, 1, 1, 1, 0, 1, 1, 40, 1])) (.tw true (.b 5 (.v 7) (.v 3)) (.fi [1, 0, 1, 0, 0, 40, 1, 1, 1, 0, 1, 1, 40, 1]) (.fi [0, 0, 1, 0, 0, 40, 1, 1, 1, 0, 1, 1, 40, 1]))) (rfl)
theorem om454 {p0 : Prop} {n1 : Nat} : (0 : Nat) < n1 → n1 = (0 : Nat) → p0 := ck [n1] [] [p0] (.pr 0) [(.lt true (.k 0) (.v 0)), (.eq true (.v 0) (.k 0))] (.fi [0, 1, 1]) (rfl)
theorem om455 {p0 : Prop} {n1 : Nat} : (0 : Nat) = n1 → (4 : Nat) ≤ n1 ∧ n1 < (900 : Nat) → p0 := ck [n1] [] [p0] (.pr 0) [(.eq true (.k 0) (.v 0)), (.an (.le true (.k 4) (.v 0)) (.lt true (.v 0) (.k 900)))] (.fi [0, 1, 1]) (rfl)
theorem om456 {p0 : Prop} {n1 : Nat} : (3 : Nat) ≤ n1 → n1 < (3 : Nat) → p0 := ck [n1] [] [p0] (.pr 0) [(.le true (.k 3) (.v 0)), (.lt true (.v 0) (.k 3))] (.fi [1, 1]) (rfl)
theorem om457 {p0 : Prop} {n1 n2 : Nat} : (0 : Nat) < n1 → (n1 - (1 : Nat)) / (2 : Nat) = n2 → n1 < n2 + (1 : Nat) → p0 := ck [n1, n2] [] [p0] (.pr 0) [(.lt true (.k 0) (.v 0)), (.eq true (.b 3 (.b 1 (.v 0) (.k 1)) (.k 2)) (.v 1)), (.lt true (.v 0) (.b 0 (.v 1) (.k 1)))] (.tw true (.b 1 (.v 0) (.k 1)) (.ow true (.b 4 (.b 1 (.v 0) (.k 1)) (.k 2)) (.fi [1, 0, 0, 1, 0, 1, 0, 1, 2, 2])) (.ow true (.b 4 (.b 1 (.v 0) (.k 1)) (.k 2)) (.fi [1, 0, 0, 1, 0, 0, 1, 2, 2, 0, 2]))) (rfl)
theorem om458 {p0 : Prop} {n1 n2 n3 : Nat} {p4 : Prop} : p0 ∧ n1 = n2 → n1 < n3 → p4 ∧ n3 = n2 → False := ck [n1, n2, n3] [] [p0, p4] .ff [(.an (.pr 0) (.eq true (.v 0) (.v 1))), (.lt true (.v 0) (.v 2)), (.an (.pr 1) (.eq true (.v 2) (.v 1)))] (.fi [0, 1, 1, 1]) (rfl)
theorem om459 {p0 : Prop} {n1 n2 n3 : Nat} : n1 < n2 → n3 = n2 → n3 ≤ n1 → p0 := ck [n1, n2, n3] [] [p0] (.pr 0) [(.lt true (.v 0) (.v 1)), (.eq true (.v 2) (.v 1)), (.le true (.v 2) (.v 0))] (.fi [1, 1, 0, 1]) (rfl)
theorem om460 {p0 p1 : Prop} {n2 : Nat} : (3 : Nat) ≤ n2 - (1 : Nat) → n2 ≤ n2 - (1 : Nat) → p0 ∧ p1 := ck [n2] [] [p0, p1] (.an (.pr 0) (.pr 1)) [(.le true (.k 3) (.b 1 (.v 0) (.k 1))), (.le true (.v 0) (.b 1 (.v 0) (.k 1)))] (.tw true (.b 1 (.v 0) (.k 1)) (.fi [0, 0, 1, 1]) (.fi [0, 1, 0, 1])) (rfl)
theorem om461 {p0 p1 : Prop} {n2 n3 n4 : Nat} : n2 < n3 ∧ n4 < n3 → n3 ≤ n2 → p0 ∧ p1 := ck [n2, n3, n4] [] [p0, p1] (.an (.pr 0) (.pr 1)) [(.an (.lt true (.v 0) (.v 1)) (.lt true (.v 2) (.v 1))), (.le true (.v 1) (.v 0))] (.fi [1, 0, 1]) (rfl)
theorem om462 {p0 p1 : Prop} {n2 n3 n4 : Nat} : n2 < n3 ∧ n4 < n3 → n3 ≤ n4 → p0 ∧ p1 := ck [n2, n3, n4] [] [p0, p1] (.an (.pr 0) (.pr 1)) [(.an (.lt true (.v 0) (.v 1)) (.lt true (.v 2) (.v 1))), (.le true (.v 1) (.v 2))] (.fi [1, 1]) (rfl)
theorem om463 {z0 : Int} {n1 : Nat} {z2 : Int} : (0 : Int) ≤ z2 → z0 < (↑n1 : Int) → z2 < (↑n1 : Int) → z0.toNat < n1 := ck [n1] [z0, z2] [] (.lt true (.u 2 (.v 0)) (.v 0)) [(.le false (.k 0) (.v 1)), (.lt false (.v 0) (.u 1 (.v 0))), (.lt false (.v 1) (.u 1 (.v 0)))] (.tw true (.u 2 (.v 0)) (.fi [0, 0, 1, 1, 0, 1]) (.fi [0, 1, 1, 1, 0, 1])) (rfl)
theorem om464 {z0 : Int} {n1 : Nat} : (0 : Int) ≤ z0 → z0 < (↑n1 : Int) → z0.toNat < n1 := ck [n1] [z0] [] (.lt true (.u 2 (.v 0)) (.v 0)) [(.le false (.k 0) (.v 0)), (.lt false (.v 0) (.u 1 (.v 0)))] (.tw true (.u 2 (.v 0)) (.fi [0, 0, 1, 1, 1]) (.fi [0, 1, 1, 1, 1])) (rfl)
theorem om465 {z0 : Int} {n1 : Nat} : (2 : Int) * z0 + (1 : Int) + (1 : Int) < (↑n1 : Int) → n1 < (1000 : Nat) → (2 : Int) * z0 + (1 : Int) + (1 : Int) < (100000 : Int) := ck [n1] [z0] [] (.lt false (.b 0 (.b 0 (.b 2 (.k 2) (.v 0)) (.k 1)) (.k 1)) (.k 100000)) [(.lt false (.b 0 (.b 0 (.b 2 (.k 2) (.v 0)) (.k 1)) (.k 1)) (.u 1 (.v 0))), (.lt true (.v 0) (.k 1000))] (.fi [1, 1, 1]) (rfl)
theorem om466 {z0 : Int} {n1 : Nat} : (2 : Int) * z0 + (1 : Int) + (1 : Int) < (↑n1 : Int) → n1 < (1000 : Nat) → (2 : Int) * z0 + (1 : Int) < (100000 : Int) := ck [n1] [z0] [] (.lt false (.b 0 (.b 2 (.k 2) (.v 0)) (.k 1)) (.k 100000)) [(.lt false (.b 0 (.b 0 (.b 2 (.k 2) (.v 0)) (.k 1)) (.k 1)) (.u 1 (.v 0))), (.lt true (.v 0) (.k 1000))] (.fi [1, 1, 1]) (rfl)
theorem om467 {z0 : Int} {n1 : Nat} : (2 : Int) * z0 + (1 : Int) < (↑n1 : Int) → n1 < (1000 : Nat) → z0 < (100000 : Int) := ck [n1] [z0] [] (.lt false (.v 0) (.k 100000)) [(.lt false (.b 0 (.b 2 (.k 2) (.v 0)) (.k 1)) (.u 1 (.v 0))), (.lt true (.v 0) (.k 1000))] (.fi [2, 1, 1]) (rfl)
theorem om468 {z0 : Int} {n1 : Nat} : (2 : Int) < (↑n1 : Int) → (↑n1 : Int) - (3 : Int) ≤ z0 → (0 : Int) ≤ z0 := ck [n1] [z0] [] (.le false (.k 0) (.v 0)) [(.lt false (.k 2) (.u 1 (.v 0))), (.le false (.b 1 (.u 1 (.v 0)) (.k 3)) (.v 0))] (.fi [1, 1, 1]) (rfl)
theorem om469 {z0 : Int} {n1 : Nat} : (2 : Int) < (↑n1 : Int) → (↑n1 : Int) - (3 : Int) ≤ z0 → (↑z0.toNat : Int) = z0 := ck [n1] [z0] [] (.eq false (.u 1 (.u 2 (.v 0))) (.v 0)) [(.lt false (.k 2) (.u 1 (.v 0))), (.le false (.b 1 (.u 1 (.v 0)) (.k 3)) (.v 0))] (.al (.tw true (.u 2 (.v 0)) (.fi [0, 1, 0, 1]) (.ow true (.u 2 (.v 0)) (.fi [1, 1, 0, 1]))) (.tw true (.u 2 (.v 0)) (.fi [0, 0, 1, 1]) (.fi [0, 1, 1, 1, 1]))) (rfl)
theorem om470 {z0 : Int} {n1 : Nat} : (2 : Int) < (↑n1 : Int) → (↑n1 : Int) - (3 : Int) ≤ z0 → z0 = (↑z0.toNat : Int) := ck [n1] [z0] [] (.eq false (.v 0) (.u 1 (.u 2 (.v 0)))) [(.lt false (.k 2) (.u 1 (.v 0))), (.le false (.b 1 (.u 1 (.v 0)) (.k 3)) (.v 0))] (.al (.tw true (.u 2 (.v 0)) (.fi [0, 0, 1, 1]) (.fi [0, 1, 1, 1, 1])) (.tw true (.u 2 (.v 0)) (.fi [0, 1, 0, 1]) (.ow true (.u 2 (.v 0)) (.fi [1, 1, 0, 1])))) (rfl)
theorem om471 {z0 : Int} {n1 : Nat} : (3 : Nat) ≤ n1 → (↑n1 : Int) - (3 : Int) ≤ z0 → (↑z0.toNat : Int) = z0 := ck [n1] [z0] [] (.eq false (.u 1 (.u 2 (.v 0))) (.v 0)) [(.le true (.k 3) (.v 0)), (.le false (.b 1 (.u 1 (.v 0)) (.k 3)) (.v 0))] (.al (.tw true (.u 2 (.v 0)) (.fi [0, 1, 0, 1]) (.ow true (.u 2 (.v 0)) (.fi [1, 1, 0, 1]))) (.tw true (.u 2 (.v 0)) (.fi [0, 0, 1, 1]) (.fi [0, 1, 1, 1, 1]))) (rfl)
theorem om472 {z0 : Int} {n1 : Nat} : (3 : Nat) ≤ n1 → (↑n1 : Int) - (3 : Int) ≤ z0 → z0 = (↑z0.toNat : Int) := ck [n1] [z0] [] (.eq false (.v 0) (.u 1 (.u 2 (.v 0)))) [(.le true (.k 3) (.v 0)), (.le false (.b 1 (.u 1 (.v 0)) (.k 3)) (.v 0))] (.al (.tw true (.u 2 (.v 0)) (.fi [0, 0, 1, 1]) (.fi [0, 1, 1, 1, 1])) (.tw true (.u 2 (.v 0)) (.fi [0, 1, 0, 1]) (.ow true (.u 2 (.v 0)) (.fi [1, 1, 0, 1])))) (rfl)
theorem om473 {z0 : Int} {n1 : Nat} : (↑((3 : Nat) + n1) : Int) - (3 : Int) ≤ z0 → (0 : Int) ≤ z0 := ck [n1] [z0] [] (.le false (.k 0) (.v 0)) [(.le false (.b 1 (.u 1 (.b 0 (.k 3) (.v 0))) (.k 3)) (.v 0))] (.ow true (.v 0) (.fi [1, 1, 1])) (rfl)
theorem om474 {z0 : Int} {n1 : Nat} : (↑n1 : Int) - (3 : Int) ≤ z0 → ¬(↑n1 : Int) < (3 : Int) → (0 : Int) ≤ z0 := ck [n1] [z0] [] (.le false (.k 0) (.v 0)) [(.le false (.b 1 (.u 1 (.v 0)) (.k 3)) (.v 0)), (.no (.lt false (.u 1 (.v 0)) (.k 3)))] (.fi [1, 1, 1]) (rfl)
theorem om475 {z0 : Int} {n1 : Nat} : (↑n1 : Int) = z0 → (0 : Int) ≤ z0 := ck [n1] [z0] [] (.le false (.k 0) (.v 0)) [(.eq false (.u 1 (.v 0)) (.v 0))] (.ow true (.v 0) (.fi [1, 1, 0, 1])) (rfl)
theorem om476 {z0 : Int} {n1 : Nat} : n1 < (1000 : Nat) → z0 < (↑n1 : Int) → z0 < (100000 : Int) := ck [n1] [z0] [] (.lt false (.v 0) (.k 100000)) [(.lt true (.v 0) (.k 1000)), (.lt false (.v 0) (.u 1 (.v 0)))] (.fi [1, 1, 1]) (rfl)
theorem om477 {z0 : Int} {n1 : Nat} : z0 + (↑n1 : Int) + (1 : Int) = z0 + (↑(n1 + (1 : Nat)) : Int) := ck [n1] [z0] [] (.eq false (.b 0 (.b 0 (.v 0) (.u 1 (.v 0))) (.k 1)) (.b 0 (.v 0) (.u 1 (.b 0 (.v 0) (.k 1))))) [] (.al (.fi [1]) (.fi [1])) (rfl)
theorem om478 {z0 : Int} {n1 : Nat} : z0 - (1 : Int) - (↑n1 : Int) = z0 - ((↑n1 : Int) + (1 : Int)) := ck [n1] [z0] [] (.eq false (.b 1 (.b 1 (.v 0) (.k 1)) (.u 1 (.v 0))) (.b 1 (.v 0) (.b 0 (.u 1 (.v 0)) (.k 1)))) [] (.al (.fi [1]) (.fi [1])) (rfl)
theorem om479 {z0 : Int} {n1 : Nat} : z0.toNat < n1 → ((z0 - (1 : Int)) / (2 : Int)).toNat < n1 := ck [n1] [z0] [] (.lt true (.u 2 (.b 3 (.b 1 (.v 0) (.k 1)) (.k 2))) (.v 0)) [(.lt true (.u 2 (.v 0)) (.v 0))] (.tw true (.u 2 (.v 0)) (.tw true (.u 2 (.b 3 (.b 1 (.v 0) (.k 1)) (.k 2))) (.ow false (.b 4 (.b 1 (.v 0) (.k 1)) (.k 2)) (.fi [1, 0, 0, 1, 0, 0, 2, 1, 2, 0, 2, 2])) (.fi [0, 1, 1, 1, 0, 1, 1])) (.tw true (.u 2 (.b 3 (.b 1 (.v 0) (.k 1)) (.k 2))) (.ow false (.b 4 (.b 1 (.v 0) (.k 1)) (.k 2)) (.fi [1, 0, 0, 1, 2, 0, 0, 1])) (.ow true (.u 2 (.v 0)) (.fi [1, 0, 1, 0, 0, 1, 1])))) (rfl)
theorem om480 {z0 : Int} {n1 : Nat} : z0.toNat < n1 → (z0.toNat - (1 : Nat)) / (2 : Nat) < n1 := ck [n1] [z0] [] (.lt true (.b 3 (.b 1 (.u 2 (.v 0)) (.k 1)) (.k 2)) (.v 0)) [(.lt true (.u 2 (.v 0)) (.v 0))] (.tw true (.u 2 (.v 0)) (.tw true (.b 1 (.u 2 (.v 0)) (.k 1)) (.ow true (.b 4 (.b 1 (.u 2 (.v 0)) (.k 1)) (.k 2)) (.fi [1, 0, 0, 1, 0, 1, 0, 1, 0, 0, 0, 2, 2])) (.ow true (.b 4 (.b 1 (.u 2 (.v 0)) (.k 1)) (.k 2)) (.fi [1, 0, 0, 1, 0, 0, 1, 2, 2, 0, 2, 2]))) (.tw true (.b 1 (.u 2 (.v 0)) (.k 1)) (.fi [1, 0, 0, 0, 1]) (.ow true (.u 2 (.v 0)) (.ow true (.b 4 (.b 1 (.u 2 (.v 0)) (.k 1)) (.k 2)) (.fi [1, 0, 0, 1, 0, 2, 0, 1, 0, 0, 2, 2]))))) (rfl)
theorem om481 {z0 : Int} {n1 : Nat} : z0.toNat < n1 → z0 < (↑n1 : Int) := ck [n1] [z0] [] (.lt false (.v 0) (.u 1 (.v 0))) [(.lt true (.u 2 (.v 0)) (.v 0))] (.tw true (.u 2 (.v 0)) (.fi [0, 1, 0, 1, 1]) (.ow true (.u 2 (.v 0)) (.fi [1, 1, 0, 1, 1]))) (rfl)
theorem om482 {z0 : Int} {n1 : Nat} : z0.toNat < n1 → z0.toNat < n1 := ck [n1] [z0] [] (.lt true (.u 2 (.v 0)) (.v 0)) [(.lt true (.u 2 (.v 0)) (.v 0))] (.fi [1, 1]) (rfl)
theorem om483 {z0 : Int} {n1 n2 : Nat} {p3 : Prop} : (2 : Nat) * z0.toNat + (1 : Nat) + (1 : Nat) < n2 ∧ ¬p3 → n2 = n1 → (2 : Int) * z0 + (1 : Int) + (1 : Int) < (↑n1 : Int) := ck [n1, n2] [z0] [p3] (.lt false (.b 0 (.b 0 (.b 2 (.k 2) (.v 0)) (.k 1)) (.k 1)) (.u 1 (.v 0))) [(.an (.lt true (.b 0 (.b 0 (.b 2 (.k 2) (.u 2 (.v 0))) (.k 1)) (.k 1)) (.v 1)) (.no (.pr 0))), (.eq true (.v 1) (.v 0))] (.tw true (.u 2 (.v 0)) (.fi [0, 2, 0, 1, 0, 1, 1]) (.ow true (.u 2 (.v 0)) (.fi [2, 2, 0, 1, 0, 1, 1]))) (rfl)
theorem om484 {z0 : Int} {n1 n2 : Nat} : ((2 : Int) * z0 + (1 : Int) + (1 : Int)).toNat = (2 : Nat) * z0.toNat + (1 : Nat) + (1 : Nat) → (2 : Int) * z0 + (1 : Int) + (1 : Int) < (↑n2 : Int) → n1 = n2 → (2 : Nat) * z0.toNat + (1 : Nat) + (1 : Nat) < n1 := ck [n1, n2] [z0] [] (.lt true (.b 0 (.b 0 (.b 2 (.k 2) (.u 2 (.v 0))) (.k 1)) (.k 1)) (.v 0)) [(.eq true (.u 2 (.b 0 (.b 0 (.b 2 (.k 2) (.v 0)) (.k 1)) (.k 1))) (.b 0 (.b 0 (.b 2 (.k 2) (.u 2 (.v 0))) (.k 1)) (.k 1))), (.lt false (.b 0 (.b 0 (.b 2 (.k 2) (.v 0)) (.k 1)) (.k 1)) (.u 1 (.v 1))), (.eq true (.v 0) (.v 1))] (.tw true (.u 2 (.b 0 (.b 0 (.b 2 (.k 2) (.v 0)) (.k 1)) (.k 1))) (.fi [0, 0, 1, 1, 1, 0, 1, 1]) (.ow true (.u 2 (.v 0)) (.fi [2, 0, 1, 0, 0, 0, 0, 1]))) (rfl)
theorem om485 {z0 : Int} {n1 n2 : Nat} : ((2 : Int) * z0 + (1 : Int) + (1 : Int)).toNat = (2 : Nat) * z0.toNat + (1 : Nat) + (1 : Nat) → (2 : Int) * z0 + (1 : Int) < (↑n2 : Int) → n1 = n2 → (2 : Nat) * z0.toNat + (1 : Nat) < n1 := ck [n1, n2] [z0] [] (.lt true (.b 0 (.b 2 (.k 2) (.u 2 (.v 0))) (.k 1)) (.v 0)) [(.eq true (.u 2 (.b 0 (.b 0 (.b 2 (.k 2) (.v 0)) (.k 1)) (.k 1))) (.b 0 (.b 0 (.b 2 (.k 2) (.u 2 (.v 0))) (.k 1)) (.k 1))), (.lt false (.b 0 (.b 2 (.k 2) (.v 0)) (.k 1)) (.u 1 (.v 1))), (.eq true (.v 0) (.v 1))] (.tw true (.u 2 (.b 0 (.b 0 (.b 2 (.k 2) (.v 0)) (.k 1)) (.k 1))) (.fi [0, 0, 1, 1, 1, 0, 1, 1]) (.ow true (.v 1) (.fi [1, 0, 1, 1, 1, 0, 0, 1]))) (rfl)
theorem om486 {z0 : Int} {n1 n2 : Nat} : (0 : Int) ≤ z0 → n1 = n2 → z0 < (↑n2 : Int) → z0.toNat < n1 := ck [n1, n2] [z0] [] (.lt true (.u 2 (.v 0)) (.v 0)) [(.le false (.k 0) (.v 0)), (.eq true (.v 0) (.v 1)), (.lt false (.v 0) (.u 1 (.v 1)))] (.tw true (.u 2 (.v 0)) (.fi [0, 0, 1, 1, 1, 1]) (.fi [0, 1, 1, 1, 1, 0, 1])) (rfl)
theorem om487 {z0 : Int} {n1 n2 : Nat} : n1 < (1000 : Nat) → n2 = n1 → z0.toNat < n2 → (z0 - (1 : Int)) / (2 : Int) < (100000 : Int) := ck [n1, n2] [z0] [] (.lt false (.b 3 (.b 1 (.v 0) (.k 1)) (.k 2)) (.k 100000)) [(.lt true (.v 0) (.k 1000)), (.eq true (.v 1) (.v 0)), (.lt true (.u 2 (.v 0)) (.v 1))] (.tw true (.u 2 (.v 0)) (.ow false (.b 4 (.b 1 (.v 0) (.k 1)) (.k 2)) (.fi [1, 0, 0, 1, 0, 1, 0, 2, 1, 0, 1, 1])) (.ow false (.b 4 (.b 1 (.v 0) (.k 1)) (.k 2)) (.fi [1, 0, 0, 1, 1, 0, 2]))) (rfl)
theorem om488 {z0 : Int} {n1 n2 : Nat} : n1 < (1000 : Nat) → n2 = n1 → z0.toNat < n2 → z0 < (100000 : Int) := ck [n1, n2] [z0] [] (.lt false (.v 0) (.k 100000)) [(.lt true (.v 0) (.k 1000)), (.eq true (.v 1) (.v 0)), (.lt true (.u 2 (.v 0)) (.v 1))] (.tw true (.u 2 (.v 0)) (.fi [0, 1, 0, 1, 1, 0, 1, 1]) (.fi [1, 0, 1])) (rfl)
theorem om489 {z0 : Int} {n1 n2 : Nat} : n1 = (3 : Nat) + n2 → z0 < (↑((3 : Nat) + n2) : Int) → z0 < (↑n1 : Int) := ck [n1, n2] [z0] [] (.lt false (.v 0) (.u 1 (.v 0))) [(.eq true (.v 0) (.b 0 (.k 3) (.v 1))), (.lt false (.v 0) (.u 1 (.b 0 (.k 3) (.v 1))))] (.fi [1, 1, 1]) (rfl)
theorem om490 {z0 : Int} {n1 n2 : Nat} : n1 = n2 → z0 < (↑n2 : Int) → z0 < (↑n1 : Int) := ck [n1, n2] [z0] [] (.lt false (.v 0) (.u 1 (.v 0))) [(.eq true (.v 0) (.v 1)), (.lt false (.v 0) (.u 1 (.v 1)))] (.fi [1, 1, 1]) (rfl)
theorem om491 {z0 : Int} {n1 n2 : Nat} : n1 = n2 → ¬(2 : Int) * z0 + (1 : Int) < (↑n2 : Int) → ¬(2 : Nat) * z0.toNat + (1 : Nat) < n1 := ck [n1, n2] [z0] [] (.no (.lt true (.b 0 (.b 2 (.k 2) (.u 2 (.v 0))) (.k 1)) (.v 0))) [(.eq true (.v 0) (.v 1)), (.no (.lt false (.b 0 (.b 2 (.k 2) (.v 0)) (.k 1)) (.u 1 (.v 1))))] (.tw true (.u 2 (.v 0)) (.fi [0, 2, 0, 1, 1, 0, 1]) (.ow true (.u 2 (.v 0)) (.fi [2, 2, 0, 1, 1, 0, 1]))) (rfl)
theorem om492 {z0 : Int} {n1 n2 : Nat} : n2 < n1 → z0 < (↑n2 : Int) → z0.toNat < n1 := ck [n1, n2] [z0] [] (.lt true (.u 2 (.v 0)) (.v 0)) [(.lt true (.v 1) (.v 0)), (.lt false (.v 0) (.u 1 (.v 1)))] (.tw true (.u 2 (.v 0)) (.fi [0, 0, 1, 1, 1, 1]) (.ow true (.v 1) (.fi [1, 0, 1, 1, 0, 1]))) (rfl)
theorem om493 {z0 : Int} {n1 n2 : Nat} : n2 < n1 → z0.toNat = n2 → z0.toNat < n1 := ck [n1, n2] [z0] [] (.lt true (.u 2 (.v 0)) (.v 0)) [(.lt true (.v 1) (.v 0)), (.eq true (.u 2 (.v 0)) (.v 1))] (.fi [1, 0, 1, 1]) (rfl)
theorem om494 {z0 : Int} {n1 n2 : Nat} : z0 - (↑n1 : Int) - (↑n2 : Int) = z0 - (↑(n1 + n2) : Int) := ck [n1, n2] [z0] [] (.eq false (.b 1 (.b 1 (.v 0) (.u 1 (.v 0))) (.u 1 (.v 1))) (.b 1 (.v 0) (.u 1 (.b 0 (.v 0) (.v 1))))) [] (.al (.fi [1]) (.fi [1])) (rfl)
theorem om495 {z0 : Int} {n1 n2 n3 : Nat} : (↑n1 : Int) - (1 : Int) + (↑n2 : Int) * (-1 : Int) = (↑n3 : Int) → z0 < (↑n3 : Int) → z0 < (↑n1 : Int) := ck [n1, n2, n3] [z0] [] (.lt false (.v 0) (.u 1 (.v 0))) [(.eq false (.b 0 (.b 1 (.u 1 (.v 0)) (.k 1)) (.b 2 (.u 1 (.v 1)) (.u 0 (.k 1)))) (.u 1 (.v 2))), (.lt false (.v 0) (.u 1 (.v 2)))] (.ow true (.v 1) (.fi [1, 1, 1, 1])) (rfl)
theorem om496 {z0 : Int} {n1 n2 n3 : Nat} : n1 < (1000 : Nat) → n2 < n3 → n3 = n1 → z0.toNat = n2 → z0 < (100000 : Int) := ck [n1, n2, n3] [z0] [] (.lt false (.v 0) (.k 100000)) [(.lt true (.v 0) (.k 1000)), (.lt true (.v 1) (.v 2)), (.eq true (.v 2) (.v 0)), (.eq true (.u 2 (.v 0)) (.v 1))] (.tw true (.u 2 (.v 0)) (.fi [0, 1, 0, 1, 0, 1, 0, 1, 1, 1]) (.fi [1, 0, 1])) (rfl)
theorem om497 {z0 : Int} {n1 n2 n3 : Nat} : n1 = n2 → n3 < n2 → z0 < (↑n3 : Int) → z0 < (↑n1 : Int) := ck [n1, n2, n3] [z0] [] (.lt false (.v 0) (.u 1 (.v 0))) [(.eq true (.v 0) (.v 1)), (.lt true (.v 2) (.v 1)), (.lt false (.v 0) (.u 1 (.v 2)))] (.fi [1, 1, 1, 1]) (rfl)
theorem om498 {z0 : Int} : ((2 : Int) * z0 + (1 : Int)).toNat = (2 : Nat) * z0.toNat + (1 : Nat) → ((2 : Int) * z0 + (1 : Int) + (1 : Int)).toNat = (2 : Nat) * z0.toNat + (1 : Nat) + (1 : Nat) := ck [] [z0] [] (.eq true (.u 2 (.b 0 (.b 0 (.b 2 (.k 2) (.v 0)) (.k 1)) (.k 1))) (.b 0 (.b 0 (.b 2 (.k 2) (.u 2 (.v 0))) (.k 1)) (.k 1))) [(.eq true (.u 2 (.b 0 (.b 2 (.k 2) (.v 0)) (.k 1))) (.b 0 (.b 2 (.k 2) (.u 2 (.v 0))) (.k 1)))] (.al (.tw true (.u 2 (.b 0 (.b 2 (.k 2) (.v 0)) (.k 1))) (.tw true (.u 2 (.b 0 (.b 0 (.b 2 (.k 2) (.v 0)) (.k 1)) (.k 1))) (.fi [0, 1, 0, 0, 0, 1, 1, 1]) (.fi [1, 0, 1])) (.ow true (.u 2 (.v 0)) (.fi [2, 0, 1, 0, 1]))) (.tw true (.u 2 (.b 0 (.b 2 (.k 2) (.v 0)) (.k 1))) (.tw true (.u 2 (.v 0)) (.tw true (.u 2 (.b 0 (.b 0 (.b 2 (.k 2) (.v 0)) (.k 1)) (.k 1))) (.fi [0, 0, 1, 0, 2, 0, 0, 0, 0, 1]) (.fi [1, 0, 2])) (.tw true (.u 2 (.b 0 (.b 0 (.b 2 (.k 2) (.v 0)) (.k 1)) (.k 1))) (.fi [0, 0, 1, 0, 0, 0, 1, 0, 1, 0, 1]) (.fi [1, 0, 0, 0, 1]))) (.ow true (.u 2 (.v 0)) (.fi [2, 0, 1, 0, 1])))) (rfl)
theorem om499 {z0 : Int} : ((4 : Int) + z0 % (5 : Int)).toNat ≤ (8 : Nat) := ck [] [z0] [] (.le true (.u 2 (.b 0 (.k 4) (.b 4 (.v 0) (.k 5)))) (.k 8)) [] (.tw true (.u 2 (.b 0 (.k 4) (.b 4 (.v 0) (.k 5)))) (.ow false (.b 3 (.v 0) (.k 5)) (.fi [0, 1, 0, 0, 0, 0, 1, 1])) (.fi [0, 1, 1])) (rfl)
theorem om500 {z0 : Int} : ((z0 - (1 : Int)) / (2 : Int)).toNat = (z0.toNat - (1 : Nat)) / (2 : Nat) := ck [] [z0] [] (.eq true (.u 2 (.b 3 (.b 1 (.v 0) (.k 1)) (.k 2))) (.b 3 (.b 1 (.u 2 (.v 0)) (.k 1)) (.k 2))) [] (.al (.tw true (.u 2 (.b 3 (.b 1 (.v 0) (.k 1)) (.k 2))) (.tw true (.b 1 (.u 2 (.v 0)) (.k 1)) (.tw true (.u 2 (.v 0)) (.ow false (.b 4 (.b 1 (.v 0) (.k 1)) (.k 2)) (.ow true (.b 4 (.b 1 (.u 2 (.v 0)) (.k 1)) (.k 2)) (.fi [1, 0, 0, 1, 0, 0, 1, 1, 0, 0, 0, 1, 0, 0, 1, 0, 2, 0, 2]))) (.fi [0, 1, 1])) (.ow true (.b 4 (.b 1 (.u 2 (.v 0)) (.k 1)) (.k 2)) (.fi [1, 0, 0, 1, 0, 0, 1, 2, 2, 0, 2]))) (.tw true (.b 1 (.u 2 (.v 0)) (.k 1)) (.tw true (.u 2 (.v 0)) (.ow false (.b 4 (.b 1 (.v 0) (.k 1)) (.k 2)) (.ow true (.u 2 (.b 3 (.b 1 (.v 0) (.k 1)) (.k 2))) (.ow true (.b 4 (.b 1 (.u 2 (.v 0)) (.k 1)) (.k 2)) (.fi [1, 0, 0, 1, 0, 2, 0, 1, 1, 0, 0, 0, 1, 0, 0, 1, 2, 0, 2])))) (.fi [0, 1, 1])) (.ow true (.u 2 (.b 3 (.b 1 (.v 0) (.k 1)) (.k 2))) (.ow true (.b 4 (.b 1 (.u 2 (.v 0)) (.k 1)) (.k 2)) (.fi [1, 0, 0, 1, 0, 2, 0, 1, 0, 0, 2]))))) (.tw true (.b 1 (.u 2 (.v 0)) (.k 1)) (.tw true (.u 2 (.b 3 (.b 1 (.v 0) (.k 1)) (.k 2))) (.tw true (.u 2 (.v 0)) (.ow false (.b 4 (.b 1 (.v 0) (.k 1)) (.k 2)) (.ow true (.b 4 (.b 1 (.u 2 (.v 0)) (.k 1)) (.k 2)) (.fi [0, 1, 1, 0, 0, 1, 0, 0, 1, 0, 1, 0, 0, 0, 2, 0, 1, 0, 2]))) (.fi [0, 1, 0, 0, 0, 1])) (.ow true (.b 4 (.b 1 (.u 2 (.v 0)) (.k 1)) (.k 2)) (.fi [0, 1, 1, 0, 0, 0, 2, 1, 1, 0, 2]))) (.tw true (.u 2 (.b 3 (.b 1 (.v 0) (.k 1)) (.k 2))) (.tw true (.u 2 (.v 0)) (.ow false (.b 4 (.b 1 (.v 0) (.k 1)) (.k 2)) (.ow true (.b 3 (.b 1 (.u 2 (.v 0)) (.k 1)) (.k 2)) (.fi [0, 0, 0, 0, 2, 1, 0, 0, 1, 0, 1, 0, 0, 0, 2, 1, 0, 2]))) (.ow false (.b 4 (.b 1 (.v 0) (.k 1)) (.k 2)) (.fi [1, 0, 0, 1, 1, 0, 2]))) (.ow true (.b 3 (.b 1 (.u 2 (.v 0)) (.k 1)) (.k 2)) (.fi [0, 0, 0, 0, 1, 0, 1, 0, 0, 1]))))) (rfl)
theorem om501 {z0 : Int} : (-1000 : Int) < z0 ∧ z0 < (100000 : Int) → -(2 : Int) ^ (63 : Nat) ≤ z0 := ck [] [z0] [] (.le false (.u 0 (.k 9223372036854775808)) (.v 0)) [(.an (.lt false (.u 0 (.k 1000)) (.v 0)) (.lt false (.v 0) (.k 100000)))] (.fi [1, 0, 1]) (rfl)
theorem om502 {z0 : Int} : (-1000 : Int) < z0 ∧ z0 < (100000 : Int) → z0 < (2 : Int) ^ (63 : Nat) := ck [] [z0] [] (.lt false (.v 0) (.k 9223372036854775808)) [(.an (.lt false (.u 0 (.k 1000)) (.v 0)) (.lt false (.v 0) (.k 100000)))] (.fi [1, 1]) (rfl)
theorem om503 {z0 : Int} : (-1009 : Int) < z0 ∧ z0 < (1009 : Int) → -(2 : Int) ^ (64 : Nat) < z0 := ck [] [z0] [] (.lt false (.u 0 (.k 18446744073709551616)) (.v 0)) [(.an (.lt false (.u 0 (.k 1009)) (.v 0)) (.lt false (.v 0) (.k 1009)))] (.fi [1, 0, 1]) (rfl)
theorem om504 {z0 : Int} : (-1009 : Int) < z0 ∧ z0 < (1009 : Int) → z0 < (2 : Int) ^ (64 : Nat) := ck [] [z0] [] (.lt false (.v 0) (.k 18446744073709551616)) [(.an (.lt false (.u 0 (.k 1009)) (.v 0)) (.lt false (.v 0) (.k 1009)))] (.fi [1, 1]) (rfl)
theorem om505 {z0 : Int} : (0 : Int) < z0 → ((z0 - (1 : Int)) / (2 : Int)).toNat < z0.toNat := ck [] [z0] [] (.lt true (.u 2 (.b 3 (.b 1 (.v 0) (.k 1)) (.k 2))) (.u 2 (.v 0))) [(.lt false (.k 0) (.v 0))] (.tw true (.u 2 (.v 0)) (.tw true (.u 2 (.b 3 (.b 1 (.v 0) (.k 1)) (.k 2))) (.ow false (.b 4 (.b 1 (.v 0) (.k 1)) (.k 2)) (.fi [1, 0, 0, 1, 0, 0, 2, 1, 2, 0, 2])) (.fi [0, 1, 0, 1, 0, 1, 1])) (.fi [1, 0, 0, 1])) (rfl)
theorem om506 {z0 : Int} : (0 : Int) < z0 → (0 : Int) ≤ (z0 - (1 : Int)) / (2 : Int) := ck [] [z0] [] (.le false (.k 0) (.b 3 (.b 1 (.v 0) (.k 1)) (.k 2))) [(.lt false (.k 0) (.v 0))] (.ow false (.b 4 (.b 1 (.v 0) (.k 1)) (.k 2)) (.fi [0, 1, 1, 0, 2, 1])) (rfl)
theorem om507 {z0 : Int} : (0 : Int) < z0 → (0 : Int) ≤ z0 := ck [] [z0] [] (.le false (.k 0) (.v 0)) [(.lt false (.k 0) (.v 0))] (.fi [1, 1]) (rfl)
theorem om508 {z0 : Int} : (0 : Int) < z0 → (0 : Int) ≤ z0 - (1 : Int) := ck [] [z0] [] (.le false (.k 0) (.b 1 (.v 0) (.k 1))) [(.lt false (.k 0) (.v 0))] (.fi [1, 1]) (rfl)
theorem om509 {z0 : Int} : (0 : Int) < z0 → z0 - (0 : Int) = (↑z0.toNat : Int) := ck [] [z0] [] (.eq false (.b 1 (.v 0) (.k 0)) (.u 1 (.u 2 (.v 0)))) [(.lt false (.k 0) (.v 0))] (.al (.tw true (.u 2 (.v 0)) (.fi [0, 0, 1, 1]) (.fi [1, 0, 0, 1])) (.tw true (.u 2 (.v 0)) (.fi [0, 1, 0, 1]) (.fi [1, 0, 0, 1]))) (rfl)
theorem om510 {z0 : Int} : (0 : Int) < z0 → z0 < (1000 : Int) → z0.natAbs < (1073741824 : Nat) := ck [] [z0] [] (.lt true (.u 3 (.v 0)) (.k 1073741824)) [(.lt false (.k 0) (.v 0)), (.lt false (.v 0) (.k 1000))] (.tw true (.u 3 (.v 0)) (.fi [0, 0, 1, 1, 1]) (.fi [1, 0, 0, 0, 0, 1])) (rfl)
theorem om511 {z0 : Int} : (0 : Int) < z0 → z0 ≠ (0 : Int) := ck [] [z0] [] (.no (.eq false (.v 0) (.k 0))) [(.lt false (.k 0) (.v 0))] (.fi [0, 1, 1]) (rfl)
theorem om512 {z0 : Int} : (0 : Int) < z0 → ¬z0 = (0 : Int) := ck [] [z0] [] (.no (.eq false (.v 0) (.k 0))) [(.lt false (.k 0) (.v 0))] (.fi [0, 1, 1]) (rfl)
theorem om513 {z0 : Int} : (0 : Int) < z0 → ¬z0.toNat = (0 : Nat) := ck [] [z0] [] (.no (.eq true (.u 2 (.v 0)) (.k 0))) [(.lt false (.k 0) (.v 0))] (.tw true (.u 2 (.v 0)) (.fi [0, 1, 0, 0, 1, 1]) (.fi [1, 0, 0, 0, 1])) (rfl)
theorem om514 {z0 : Int} : (0 : Int) = z0 + (0 : Int) + (0 : Int) + -z0 := ck [] [z0] [] (.eq false (.k 0) (.b 0 (.b 0 (.b 0 (.v 0) (.k 0)) (.k 0)) (.u 0 (.v 0)))) [] (.al (.fi [1]) (.fi [1])) (rfl)
theorem om515 {z0 : Int} : (0 : Int) = z0 + -z0 := ck [] [z0] [] (.eq false (.k 0) (.b 0 (.v 0) (.u 0 (.v 0)))) [] (.al (.fi [1]) (.fi [1])) (rfl)
theorem om516 {z0 : Int} : (0 : Int) ≤ z0 % (1009 : Int) ∧ z0 % (1009 : Int) < (1009 : Int) := ck [] [z0] [] (.an (.le false (.k 0) (.b 4 (.v 0) (.k 1009))) (.lt false (.b 4 (.v 0) (.k 1009)) (.k 1009))) [] (.al (.ow false (.b 3 (.v 0) (.k 1009)) (.fi [1, 0, 0, 0, 1])) (.ow false (.b 3 (.v 0) (.k 1009)) (.fi [0, 1, 0, 0, 1]))) (rfl)
theorem om517 {z0 : Int} : (0 : Int) ≤ z0 % (3 : Int) := ck [] [z0] [] (.le false (.k 0) (.b 4 (.v 0) (.k 3))) [] (.ow false (.b 3 (.v 0) (.k 3)) (.fi [1, 0, 0, 0, 1])) (rfl)
theorem om518 {z0 : Int} : (0 : Int) ≤ z0 → ((2 : Int) * z0 + (1 : Int)).toNat = (2 : Nat) * z0.toNat + (1 : Nat) := ck [] [z0] [] (.eq true (.u 2 (.b 0 (.b 2 (.k 2) (.v 0)) (.k 1))) (.b 0 (.b 2 (.k 2) (.u 2 (.v 0))) (.k 1))) [(.le false (.k 0) (.v 0))] (.al (.tw true (.u 2 (.b 0 (.b 2 (.k 2) (.v 0)) (.k 1))) (.tw true (.u 2 (.v 0)) (.fi [0, 0, 2, 0, 1, 0, 1]) (.fi [0, 2, 0, 1, 0, 1, 2])) (.fi [1, 0, 0, 2])) (.tw true (.u 2 (.v 0)) (.tw true (.u 2 (.b 0 (.b 2 (.k 2) (.v 0)) (.k 1))) (.fi [0, 0, 1, 0, 2, 0, 1]) (.fi [1, 0, 2])) (.tw true (.u 2 (.b 0 (.b 2 (.k 2) (.v 0)) (.k 1))) (.ow true (.u 2 (.v 0)) (.fi [2, 0, 0, 1, 2, 0, 1])) (.fi [1, 0, 0, 0, 0, 2])))) (rfl)
theorem om519 {z0 : Int} : (0 : Int) ≤ z0 → (0 : Int) ≤ (2 : Int) * z0 + (1 : Int) := ck [] [z0] [] (.le false (.k 0) (.b 0 (.b 2 (.k 2) (.v 0)) (.k 1))) [(.le false (.k 0) (.v 0))] (.fi [1, 2]) (rfl)
theorem om520 {z0 : Int} : (0 : Int) ≤ z0 → (0 : Int) ≤ (2 : Int) * z0 + (1 : Int) + (1 : Int) := ck [] [z0] [] (.le false (.k 0) (.b 0 (.b 0 (.b 2 (.k 2) (.v 0)) (.k 1)) (.k 1))) [(.le false (.k 0) (.v 0))] (.fi [1, 2]) (rfl)
theorem om521 {z0 : Int} : (0 : Int) ≤ z0 → (0 : Int) ≤ z0 := ck [] [z0] [] (.le false (.k 0) (.v 0)) [(.le false (.k 0) (.v 0))] (.fi [1, 1]) (rfl)
theorem om522 {z0 : Int} : (0 : Int) ≤ z0 → (↑z0.toNat : Int) = z0 := ck [] [z0] [] (.eq false (.u 1 (.u 2 (.v 0))) (.v 0)) [(.le false (.k 0) (.v 0))] (.al (.tw true (.u 2 (.v 0)) (.fi [0, 1, 0, 1]) (.ow true (.u 2 (.v 0)) (.fi [1, 1, 0, 1]))) (.tw true (.u 2 (.v 0)) (.fi [0, 0, 1, 1]) (.fi [0, 1, 1, 1]))) (rfl)
theorem om523 {z0 : Int} : (0 : Int) ≤ z0 → -(2 : Int) ^ (62 : Nat) ≤ z0 := ck [] [z0] [] (.le false (.u 0 (.k 4611686018427387904)) (.v 0)) [(.le false (.k 0) (.v 0))] (.fi [1, 1]) (rfl)
theorem om524 {z0 : Int} : (0 : Int) ≤ z0 → -(2 : Int) ^ (64 : Nat) < z0 := ck [] [z0] [] (.lt false (.u 0 (.k 18446744073709551616)) (.v 0)) [(.le false (.k 0) (.v 0))] (.fi [1, 1]) (rfl)
theorem om525 {z0 : Int} : (0 : Int) ≤ z0 → z0 < (3 : Int) → z0 = (0 : Int) ∨ z0 = (1 : Int) ∨ z0 = (2 : Int) := ck [] [z0] [] (.or (.eq false (.v 0) (.k 0)) (.or (.eq false (.v 0) (.k 1)) (.eq false (.v 0) (.k 2)))) [(.le false (.k 0) (.v 0)), (.lt false (.v 0) (.k 3))] (.al (.fi [1, 0, 1]) (.al (.fi [1, 1]) (.al (.fi [1, 1]) (.fi [1, 0, 0, 1])))) (rfl)
theorem om526 {z0 : Int} : (0 : Int) ≤ z0 → z0 = (↑z0.toNat : Int) := ck [] [z0] [] (.eq false (.v 0) (.u 1 (.u 2 (.v 0)))) [(.le false (.k 0) (.v 0))] (.al (.tw true (.u 2 (.v 0)) (.fi [0, 0, 1, 1]) (.fi [0, 1, 1, 1])) (.tw true (.u 2 (.v 0)) (.fi [0, 1, 0, 1]) (.ow true (.u 2 (.v 0)) (.fi [1, 1, 0, 1])))) (rfl)
theorem om527 {z0 : Int} : (0 : Int) ≤ z0 ∧ z0 < (1009 : Int) → (-1009 : Int) < z0 ∧ z0 < (1009 : Int) := ck [] [z0] [] (.an (.lt false (.u 0 (.k 1009)) (.v 0)) (.lt false (.v 0) (.k 1009))) [(.an (.le false (.k 0) (.v 0)) (.lt false (.v 0) (.k 1009)))] (.al (.fi [1, 0, 1]) (.fi [1, 1])) (rfl)
theorem om528 {z0 : Int} : (4 : Int) + z0 % (5 : Int) = (↑((4 : Int) + z0 % (5 : Int)).toNat : Int) := ck [] [z0] [] (.eq false (.b 0 (.k 4) (.b 4 (.v 0) (.k 5))) (.u 1 (.u 2 (.b 0 (.k 4) (.b 4 (.v 0) (.k 5)))))) [] (.al (.tw true (.u 2 (.b 0 (.k 4) (.b 4 (.v 0) (.k 5)))) (.fi [0, 0, 1, 1]) (.ow false (.b 3 (.v 0) (.k 5)) (.fi [1, 0, 0, 0, 1]))) (.tw true (.u 2 (.b 0 (.k 4) (.b 4 (.v 0) (.k 5)))) (.fi [0, 1, 0, 1]) (.ow true (.u 2 (.b 0 (.k 4) (.b 4 (.v 0) (.k 5)))) (.fi [1, 1, 0, 1])))) (rfl)
theorem om529 {z0 : Int} : (4 : Nat) ≤ ((4 : Int) + z0 % (5 : Int)).toNat := ck [] [z0] [] (.le true (.k 4) (.u 2 (.b 0 (.k 4) (.b 4 (.v 0) (.k 5))))) [] (.tw true (.u 2 (.b 0 (.k 4) (.b 4 (.v 0) (.k 5)))) (.ow false (.b 3 (.v 0) (.k 5)) (.fi [1, 0, 0, 0, 0, 1, 0, 1])) (.ow false (.b 3 (.v 0) (.k 5)) (.fi [1, 0, 0, 0, 1]))) (rfl)
theorem om530 {z0 : Int} : z0 % (1009 : Int) = z0 + (1009 : Int) * -(z0 / (1009 : Int)) := ck [] [z0] [] (.eq false (.b 4 (.v 0) (.k 1009)) (.b 0 (.v 0) (.b 2 (.k 1009) (.u 0 (.b 3 (.v 0) (.k 1009)))))) [] (.al (.ow false (.b 4 (.v 0) (.k 1009)) (.fi [0, 0, 1, 0, 1])) (.ow false (.b 3 (.v 0) (.k 1009)) (.fi [0, 0, 0, 1, 1]))) (rfl)
theorem om531 {z0 : Int} : z0 % (3 : Int) < (3 : Int) := ck [] [z0] [] (.lt false (.b 4 (.v 0) (.k 3)) (.k 3)) [] (.ow false (.b 3 (.v 0) (.k 3)) (.fi [0, 1, 0, 0, 1])) (rfl)
theorem om532 {z0 : Int} : z0 + (0 : Int) = z0 := ck [] [z0] [] (.eq false (.b 0 (.v 0) (.k 0)) (.v 0)) [] (.al (.fi [1]) (.fi [1])) (rfl)
theorem om533 {z0 : Int} : z0 < (1000 : Int) → z0 < (2 : Int) ^ (62 : Nat) := ck [] [z0] [] (.lt false (.v 0) (.k 4611686018427387904)) [(.lt false (.v 0) (.k 1000))] (.fi [1, 1]) (rfl)
theorem om534 {z0 : Int} : z0 < (100000 : Int) → z0 < (2 : Int) ^ (63 : Nat) := ck [] [z0] [] (.lt false (.v 0) (.k 9223372036854775808)) [(.lt false (.v 0) (.k 100000))] (.fi [1, 1]) (rfl)
theorem om535 {z0 : Int} : z0 < (1009 : Int) → z0 < (2 : Int) ^ (64 : Nat) := ck [] [z0] [] (.lt false (.v 0) (.k 18446744073709551616)) [(.lt false (.v 0) (.k 1009))] (.fi [1, 1]) (rfl)
theorem om536 {z0 : Int} : z0 < (3 : Int) → z0 < (100000 : Int) := ck [] [z0] [] (.lt false (.v 0) (.k 100000)) [(.lt false (.v 0) (.k 3))] (.fi [1, 1]) (rfl)
theorem om537 {z0 : Int} : z0 = z0 := ck [] [z0] [] (.eq false (.v 0) (.v 0)) [] (.al (.fi [1]) (.fi [1])) (rfl)
theorem om538 {z0 : Int} : z0 = z0 + (0 : Int) := ck [] [z0] [] (.eq false (.v 0) (.b 0 (.v 0) (.k 0))) [] (.al (.fi [1]) (.fi [1])) (rfl)
theorem om539 {z0 : Int} : ¬(0 : Int) < z0 → (0 : Int) = (↑z0.toNat : Int) := ck [] [z0] [] (.eq false (.k 0) (.u 1 (.u 2 (.v 0)))) [(.no (.lt false (.k 0) (.v 0)))] (.al (.tw true (.u 2 (.v 0)) (.fi [0, 0, 1, 1, 1]) (.fi [0, 1, 1])) (.ow true (.u 2 (.v 0)) (.fi [1, 1]))) (rfl)
theorem om540 {z0 : Int} : ¬(0 : Int) < z0 → z0.toNat = (0 : Nat) := ck [] [z0] [] (.eq true (.u 2 (.v 0)) (.k 0)) [(.no (.lt false (.k 0) (.v 0)))] (.al (.ow true (.u 2 (.v 0)) (.fi [1, 1])) (.tw true (.u 2 (.v 0)) (.fi [0, 0, 1, 1, 1]) (.fi [0, 1, 1]))) (rfl)
theorem om541 {z0 z1 : Int} {n2 n3 : Nat} : n2 < (1 : Nat) → n3 < n2 → z0 < z1 := ck [n2, n3] [z0, z1] [] (.lt false (.v 0) (.v 1)) [(.lt true (.v 0) (.k 1)), (.lt true (.v 1) (.v 0))] (.ow true (.v 1) (.fi [1, 0, 1, 1])) (rfl)
theorem om542 {z0 z1 : Int} {n2 n3 n4 n5 : Nat} : n2 < n3 ∧ n3 ≤ n4 → n5 = n3 - (1 : Nat) → ¬(n2 < n5 ∧ n5 ≤ n4) → ¬n5 = n2 → z0 < z1 := ck [n2, n3, n4, n5] [z0, z1] [] (.lt false (.v 0) (.v 1)) [(.an (.lt true (.v 0) (.v 1)) (.le true (.v 1) (.v 2))), (.eq true (.v 3) (.b 1 (.v 1) (.k 1))), (.no (.an (.lt true (.v 0) (.v 3)) (.le true (.v 3) (.v 2)))), (.no (.eq true (.v 3) (.v 0)))] (.al (.al (.tw true (.b 1 (.v 1) (.k 1)) (.fi [0, 1, 0, 0, 1, 0, 1, 0, 0, 1]) (.ow true (.v 3) (.fi [1, 1, 0, 0, 1, 0, 0, 0, 0, 1]))) (.fi [0, 1, 1])) (.tw true (.b 1 (.v 1) (.k 1)) (.fi [0, 0, 1, 0, 1, 0, 1, 1]) (.ow true (.v 0) (.fi [1, 0, 1, 0, 1, 0, 1, 1, 1])))) (rfl)
theorem om543 {z0 z1 : Int} : (0 : Int) ≤ (z0 + z1) % (1009 : Int) ∧ (z0 + z1) % (1009 : Int) < (1009 : Int) := ck [] [z0, z1] [] (.an (.le false (.k 0) (.b 4 (.b 0 (.v 0) (.v 1)) (.k 1009))) (.lt false (.b 4 (.b 0 (.v 0) (.v 1)) (.k 1009)) (.k 1009))) [] (.al (.ow false (.b 3 (.b 0 (.v 0) (.v 1)) (.k 1009)) (.fi [1, 0, 0, 0, 1])) (.ow false (.b 3 (.b 0 (.v 0) (.v 1)) (.k 1009)) (.fi [0, 1, 0, 0, 1]))) (rfl)
theorem om544 {z0 z1 : Int} : (0 : Int) ≤ (z0 - z1) % (1009 : Int) ∧ (z0 - z1) % (1009 : Int) < (1009 : Int) := ck [] [z0, z1] [] (.an (.le false (.k 0) (.b 4 (.b 1 (.v 0) (.v 1)) (.k 1009))) (.lt false (.b 4 (.b 1 (.v 0) (.v 1)) (.k 1009)) (.k 1009))) [] (.al (.ow false (.b 3 (.b 1 (.v 0) (.v 1)) (.k 1009)) (.fi [1, 0, 0, 0, 1])) (.ow false (.b 3 (.b 1 (.v 0) (.v 1)) (.k 1009)) (.fi [0, 1, 0, 0, 1]))) (rfl)
theorem om545 {z0 z1 : Int} : (0 : Int) ≤ z0 ∧ z0 < (1009 : Int) → z0 = (1009 : Int) * z1 → z0 = (0 : Int) := by
  omega
theorem om546 {z0 z1 : Int} : (0 : Int) ≤ z1 → (0 : Int) ≤ (1 : Int) + Max.max z0 z1 := ck [] [z0, z1] [] (.le false (.k 0) (.b 0 (.k 1) (.b 6 (.v 0) (.v 1)))) [(.le false (.k 0) (.v 1))] (.tw false (.b 6 (.v 0) (.v 1)) (.fi [1, 1, 0, 1, 1]) (.fi [0, 1, 0, 1, 1])) (rfl)
theorem om547 {z0 z1 : Int} : (0 : Int) ≤ z1 → z0 < (1000 : Int) → z1 ≤ z0 → ((((-9223372036854775808 : Int) ≤ z0 ∧ z0 < (9223372036854775808 : Int)) ∧ (-9223372036854775808 : Int) ≤ z1 ∧ z1 < (9223372036854775808 : Int)) ∧ (-9223372036854775808 : Int) ≤ Max.max (z0 - z1) (0 : Int) ∧ Max.max (z0 - z1) (0 : Int) < (9223372036854775808 : Int)) ∧ (Max.max (z0 - z1) (0 : Int) = (0 : Int) ∨ (-9223372036854775808 : Int) ≤ z1 ∧ z1 < (9223372036854775808 : Int)) := ck [] [z0, z1] [] (.an (.an (.an (.an (.le false (.u 0 (.k 9223372036854775808)) (.v 0)) (.lt false (.v 0) (.k 9223372036854775808))) (.an (.le false (.u 0 (.k 9223372036854775808)) (.v 1)) (.lt false (.v 1) (.k 9223372036854775808)))) (.an (.le false (.u 0 (.k 9223372036854775808)) (.b 6 (.b 1 (.v 0) (.v 1)) (.k 0))) (.lt false (.b 6 (.b 1 (.v 0) (.v 1)) (.k 0)) (.k 9223372036854775808)))) (.or (.eq false (.b 6 (.b 1 (.v 0) (.v 1)) (.k 0)) (.k 0)) (.an (.le false (.u 0 (.k 9223372036854775808)) (.v 1)) (.lt false (.v 1) (.k 9223372036854775808))))) [(.le false (.k 0) (.v 1)), (.lt false (.v 0) (.k 1000)), (.le false (.v 1) (.v 0))] (.al (.al (.al (.al (.fi [1, 1, 0, 1]) (.fi [1, 0, 1])) (.al (.fi [1, 0, 0, 1]) (.fi [1, 1, 1]))) (.al (.tw false (.b 6 (.b 1 (.v 0) (.v 1)) (.k 0)) (.fi [1, 1, 0, 1]) (.fi [0, 1, 0, 1])) (.tw false (.b 6 (.b 1 (.v 0) (.v 1)) (.k 0)) (.fi [0, 0, 1, 1, 0, 1, 1]) (.fi [0, 0, 1, 1])))) (.al (.tw false (.b 6 (.b 1 (.v 0) (.v 1)) (.k 0)) (.fi [1, 1, 0, 1]) (.fi [0, 1, 0, 1])) (.al (.fi [1, 0, 0, 0, 1]) (.fi [1, 0, 1, 1])))) (rfl)
theorem om548 {z0 z1 : Int} : (z0 + z1) % (1009 : Int) = z0 + (z1 - (1009 : Int) * ((z0 + z1) / (1009 : Int))) := ck [] [z0, z1] [] (.eq false (.b 4 (.b 0 (.v 0) (.v 1)) (.k 1009)) (.b 0 (.v 0) (.b 1 (.v 1) (.b 2 (.k 1009) (.b 3 (.b 0 (.v 0) (.v 1)) (.k 1009)))))) [] (.al (.ow false (.b 4 (.b 0 (.v 0) (.v 1)) (.k 1009)) (.fi [0, 0, 1, 0, 1])) (.ow false (.b 3 (.b 0 (.v 0) (.v 1)) (.k 1009)) (.fi [0, 0, 0, 1, 1]))) (rfl)
theorem om549 {z0 z1 : Int} : z0 + -(z1 * (0 : Int)) + (0 : Int) = z0 + (0 : Int) := ck [] [z0, z1] [] (.eq false (.b 0 (.b 0 (.v 0) (.u 0 (.b 2 (.v 1) (.k 0)))) (.k 0)) (.b 0 (.v 0) (.k 0))) [] (.al (.fi [1]) (.fi [1])) (rfl)
theorem om550 {z0 z1 : Int} : z0 + -(z1 * (1 : Int)) + z1 = z0 + (0 : Int) := ck [] [z0, z1] [] (.eq false (.b 0 (.b 0 (.v 0) (.u 0 (.b 2 (.v 1) (.k 1)))) (.v 1)) (.b 0 (.v 0) (.k 0))) [] (.al (.fi [1]) (.fi [1])) (rfl)
theorem om551 {z0 z1 : Int} : z0 + z1 = z0 + z1 + (0 : Int) := ck [] [z0, z1] [] (.eq false (.b 0 (.v 0) (.v 1)) (.b 0 (.b 0 (.v 0) (.v 1)) (.k 0))) [] (.al (.fi [1]) (.fi [1])) (rfl)
theorem om552 {z0 z1 : Int} : z0 < z1 → z0 < z1 := ck [] [z0, z1] [] (.lt false (.v 0) (.v 1)) [(.lt false (.v 0) (.v 1))] (.fi [1, 1]) (rfl)
theorem om563 {z0 z1 : Int} : z1 > z0 → ¬z0 ≤ z1 → z0 = z1 := ck [] [z0, z1] [] (.eq false (.v 0) (.v 1)) [(.lt false (.v 0) (.v 1)), (.no (.le false (.v 0) (.v 1)))] (.fi [1, 1]) (rfl)
theorem om564 {z0 z1 : Int} : z1 ≠ z0 → ¬z1 < z0 → z0 < z1 := ck [] [z0, z1] [] (.lt false (.v 0) (.v 1)) [(.no (.eq false (.v 1) (.v 0))), (.no (.lt false (.v 1) (.v 0)))] (.al (.fi [0, 1, 1]) (.fi [1, 0, 1])) (rfl)
theorem om565 {z0 z1 : Int} : z1 ≤ z0 → ¬z0 < z1 := ck [] [z0, z1] [] (.no (.lt false (.v 0) (.v 1))) [(.le false (.v 1) (.v 0))] (.fi [1, 1]) (rfl)
theorem om566 {z0 z1 : Int} : z1 ≤ z0 → ¬z0 > z1 → z0 = z1 := ck [] [z0, z1] [] (.eq false (.v 0) (.v 1)) [(.le false (.v 1) (.v 0)), (.no (.lt false (.v 1) (.v 0)))] (.al (.fi [1, 0, 1]) (.fi [1, 1])) (rfl)
theorem om567 {z0 z1 : Int} : ¬(z0 < z0 ∨ z0 = z0 ∧ z1 < z1) := ck [] [z0, z1] [] (.no (.or (.lt false (.v 0) (.v 0)) (.an (.eq false (.v 0) (.v 0)) (.lt false (.v 1) (.v 1))))) [] (.al (.fi [1]) (.fi [1])) (rfl)
theorem om568 {z0 z1 z2 : Int} {n3 : Nat} : n3 < (0 : Nat) → z0 = z1 + z2 := ck [n3] [z0, z1, z2] [] (.eq false (.v 0) (.b 0 (.v 1) (.v 2))) [(.lt true (.v 0) (.k 0))] (.ow true (.v 0) (.fi [1, 1])) (rfl)
theorem om569 {z0 z1 z2 : Int} : (0 : Int) + (0 : Int) = z1 + (1009 : Int) * z2 → (0 : Int) ≤ z1 ∧ z1 < (1009 : Int) → z0 = (0 : Int) → z0 = z1 := by
  omega
theorem om570 {z0 z1 z2 : Int} : (0 : Int) + z0 = z1 + (1009 : Int) * z2 → (0 : Int) ≤ z0 ∧ z0 < (1009 : Int) → (0 : Int) ≤ z1 ∧ z1 < (1009 : Int) → z0 = z1 := by
  omega
theorem om571 {z0 z1 z2 : Int} : z0 + (z1 + z2) = z0 + z1 + z2 := ck [] [z0, z1, z2] [] (.eq false (.b 0 (.v 0) (.b 0 (.v 1) (.v 2))) (.b 0 (.b 0 (.v 0) (.v 1)) (.v 2))) [] (.al (.fi [1]) (.fi [1])) (rfl)
theorem om572 {z0 z1 z2 : Int} : z0 + -(z1 * (0 : Int)) + z2 = z0 + z2 := ck [] [z0, z1, z2] [] (.eq false (.b 0 (.b 0 (.v 0) (.u 0 (.b 2 (.v 1) (.k 0)))) (.v 2)) (.b 0 (.v 0) (.v 2))) [] (.al (.fi [1]) (.fi [1])) (rfl)
theorem om573 {z0 z1 z2 : Int} : z0 + z1 + (1009 : Int) * z2 = (1 : Int) * z0 + (1 : Int) * z1 + (1009 : Int) * z2 := ck [] [z0, z1, z2] [] (.eq false (.b 0 (.b 0 (.v 0) (.v 1)) (.b 2 (.k 1009) (.v 2))) (.b 0 (.b 0 (.b 2 (.k 1) (.v 0)) (.b 2 (.k 1) (.v 1))) (.b 2 (.k 1009) (.v 2)))) [] (.al (.fi [1]) (.fi [1])) (rfl)
theorem om574 {z0 z1 z2 : Int} : z0 + z1 + (z2 + (0 : Int)) = z0 + z2 + z1 := ck [] [z0, z1, z2] [] (.eq false (.b 0 (.b 0 (.v 0) (.v 1)) (.b 0 (.v 2) (.k 0))) (.b 0 (.b 0 (.v 0) (.v 2)) (.v 1))) [] (.al (.fi [1]) (.fi [1])) (rfl)
theorem om575 {z0 z1 z2 : Int} : z0 - z1 + (1009 : Int) * z2 = (1 : Int) * z0 + (-1 : Int) * z1 + (1009 : Int) * z2 := by
  omega
theorem om576 {z0 z1 z2 : Int} : z0 < z2 → z2 < z1 → z0 < z1 := ck [] [z0, z1, z2] [] (.lt false (.v 0) (.v 1)) [(.lt false (.v 0) (.v 2)), (.lt false (.v 2) (.v 1))] (.fi [1, 1, 1]) (rfl)
theorem om577 {z0 z1 z2 : Int} : z0 < z2 → ¬z1 < z2 → z0 < z1 := ck [] [z0, z1, z2] [] (.lt false (.v 0) (.v 1)) [(.lt false (.v 0) (.v 2)), (.no (.lt false (.v 1) (.v 2)))] (.fi [1, 1, 1]) (rfl)
theorem om579 {z0 z1 z2 z3 : Int} : (0 : Int) ≤ z0 ∧ z0 < (11 : Int) → (0 : Int) ≤ z1 ∧ z1 < (11 : Int) → (11 : Int) * z2 + z0 = (11 : Int) * z3 + z1 → z0 = z1 := by
  omega
theorem om580 {z0 z1 z2 z3 : Int} : (0 : Int) ≤ z2 ∧ z2 < (11 : Int) → (0 : Int) ≤ z3 ∧ z3 < (11 : Int) → (11 : Int) * z0 + z2 = (11 : Int) * z1 + z3 → z0 = z1 := ck [] [z0, z1, z2, z3] [] (.eq false (.v 0) (.v 1)) [(.an (.le false (.k 0) (.v 2)) (.lt false (.v 2) (.k 11))), (.an (.le false (.k 0) (.v 3)) (.lt false (.v 3) (.k 11))), (.eq false (.b 0 (.b 2 (.k 11) (.v 0)) (.v 2)) (.b 0 (.b 2 (.k 11) (.v 1)) (.v 3)))] (.al (.fi [11, 1, 0, 0, 1, 1]) (.fi [11, 0, 1, 1, 0, 0, 1])) (rfl)
theorem om581 {z0 z1 z2 z3 : Int} : (0 : Int) ≤ z2 ∧ z2 < (11 : Int) → (0 : Int) ≤ z3 ∧ z3 < (11 : Int) → (z0 < z1 ∨ z0 = z1 ∧ z2 < z3 ↔ (11 : Int) * z0 + z2 < (11 : Int) * z1 + z3) := ck [] [z0, z1, z2, z3] [] (.ii (.or (.lt false (.v 0) (.v 1)) (.an (.eq false (.v 0) (.v 1)) (.lt false (.v 2) (.v 3)))) (.lt false (.b 0 (.b 2 (.k 11) (.v 0)) (.v 2)) (.b 0 (.b 2 (.k 11) (.v 1)) (.v 3)))) [(.an (.le false (.k 0) (.v 2)) (.lt false (.v 2) (.k 11))), (.an (.le false (.k 0) (.v 3)) (.lt false (.v 3) (.k 11)))] (.al (.al (.fi [1, 11, 0, 1, 1]) (.fi [1, 1, 0, 11])) (.al (.al (.fi [0, 1, 1]) (.fi [1, 11, 0, 1, 0, 0, 1])) (.fi [1, 1, 11]))) (rfl)
theorem om582 {z0 z1 z2 z3 : Int} : z1 < z0 ∨ z1 = z0 ∧ z3 < z2 → ¬(z0 < z1 ∨ z0 = z1 ∧ z2 < z3) := ck [] [z0, z1, z2, z3] [] (.no (.or (.lt false (.v 0) (.v 1)) (.an (.eq false (.v 0) (.v 1)) (.lt false (.v 2) (.v 3))))) [(.or (.lt false (.v 1) (.v 0)) (.an (.eq false (.v 1) (.v 0)) (.lt false (.v 3) (.v 2))))] (.al (.al (.fi [1, 1]) (.fi [0, 0, 1, 1])) (.al (.fi [1, 0, 0, 1]) (.fi [1, 0, 0, 1]))) (rfl)
theorem om583 {z0 z1 z2 z3 : Int} : ¬(z0 < z1 ∨ z0 = z1 ∧ z2 < z3) ∨ ¬(z1 < z0 ∨ z1 = z0 ∧ z3 < z2) := ck [] [z0, z1, z2, z3] [] (.or (.no (.or (.lt false (.v 0) (.v 1)) (.an (.eq false (.v 0) (.v 1)) (.lt false (.v 2) (.v 3))))) (.no (.or (.lt false (.v 1) (.v 0)) (.an (.eq false (.v 1) (.v 0)) (.lt false (.v 3) (.v 2)))))) [] (.al (.al (.fi [1, 1]) (.fi [0, 0, 1, 1])) (.al (.fi [1, 0, 0, 1]) (.fi [1, 0, 0, 1]))) (rfl)
theorem om584 {z0 z1 z2 z3 z4 z5 : Int} : z0 + (z1 - (1009 : Int) * z2) * (0 : Int) + (z3 - (1009 : Int) * z4) * (0 : Int) + -(z5 * (1 : Int)) + (z5 + (0 : Int) + (0 : Int)) = z0 + (0 : Int) := ck [] [z0, z1, z2, z3, z4, z5] [] (.eq false (.b 0 (.b 0 (.b 0 (.b 0 (.v 0) (.b 2 (.b 1 (.v 1) (.b 2 (.k 1009) (.v 2))) (.k 0))) (.b 2 (.b 1 (.v 3) (.b 2 (.k 1009) (.v 4))) (.k 0))) (.u 0 (.b 2 (.v 5) (.k 1)))) (.b 0 (.b 0 (.v 5) (.k 0)) (.k 0))) (.b 0 (.v 0) (.k 0))) [] (.al (.fi [1]) (.fi [1])) (rfl)
theorem om585 {z0 z1 z2 z3 z4 z5 : Int} : z0 < z4 ∨ z0 = z4 ∧ z2 < z5 → z4 < z1 ∨ z4 = z1 ∧ z5 < z3 → z0 < z1 ∨ z0 = z1 ∧ z2 < z3 := ck [] [z0, z1, z2, z3, z4, z5] [] (.or (.lt false (.v 0) (.v 1)) (.an (.eq false (.v 0) (.v 1)) (.lt false (.v 2) (.v 3)))) [(.or (.lt false (.v 0) (.v 4)) (.an (.eq false (.v 0) (.v 4)) (.lt false (.v 2) (.v 5)))), (.or (.lt false (.v 4) (.v 1)) (.an (.eq false (.v 4) (.v 1)) (.lt false (.v 5) (.v 3))))] (.al (.al (.fi [1, 1, 1]) (.fi [1, 0, 0, 1, 1])) (.al (.fi [1, 1, 0, 0, 1]) (.al (.al (.fi [1, 1]) (.fi [1, 0, 0, 0, 1, 0, 0, 1])) (.fi [1, 0, 1, 0, 0, 1])))) (rfl)
theorem om586 {z0 z1 z2 z3 z4 z5 : Int} : ¬(z0 < z4 ∨ z0 = z4 ∧ z2 < z5) → ¬(z4 < z1 ∨ z4 = z1 ∧ z5 < z3) → ¬(z0 < z1 ∨ z0 = z1 ∧ z2 < z3) := ck [] [z0, z1, z2, z3, z4, z5] [] (.no (.or (.lt false (.v 0) (.v 1)) (.an (.eq false (.v 0) (.v 1)) (.lt false (.v 2) (.v 3))))) [(.no (.or (.lt false (.v 0) (.v 4)) (.an (.eq false (.v 0) (.v 4)) (.lt false (.v 2) (.v 5))))), (.no (.or (.lt false (.v 4) (.v 1)) (.an (.eq false (.v 4) (.v 1)) (.lt false (.v 5) (.v 3)))))] (.al (.al (.fi [0, 1, 1]) (.al (.al (.fi [1, 1]) (.al (.fi [1, 1, 0, 1]) (.fi [0, 0, 1, 1, 0, 1]))) (.al (.fi [1, 0, 1, 1]) (.fi [0, 0, 1, 0, 1, 1])))) (.al (.al (.fi [1, 1]) (.al (.fi [1, 1, 0, 0, 1]) (.fi [0, 0, 1, 1, 0, 0, 1]))) (.al (.fi [1, 0, 1, 0, 1]) (.fi [1, 0, 0, 1, 0, 1])))) (rfl)
end Mine

namespace Mine

/-- a ghost heap: the objects that a proof knows -/
abbrev HP := Addr → Option Obj
noncomputable def upd (H : HP) (a : Addr) (o : Obj) : HP := fun x => if x = a then some o else H x
theorem upd_self {H : HP} {a : Addr} {o : Obj} : upd H a o a = some o := by simp [upd]
theorem upd_ne {H : HP} {a x : Addr} {o : Obj} (h : x ≠ a) : upd H a o x = H x := by simp [upd, h]
theorem upd_of {H : HP} {a x : Addr} {o o' : Obj} (h : H x = some o') (hn : H a = none) : upd H a o x = some o' := by
  rw [upd_ne]; exact h
  intro e; rw [e, hn] at h; cases h

/-- what stands outside the ghost heap and is kept: a frame by its names, an object as it is -/
inductive Prot where
  | fr (L : Addr) (m : Str → Option Value)
  | ob (a : Addr) (o : Obj)
noncomputable def Prot.at : Prot → Addr
  | .fr L _ => L
  | .ob a _ => a
noncomputable def Prot.ok (h : Heap) : Prot → Prop
  | .fr L m => h.Ns L m
  | .ob a o => h.get? a = some o
theorem Prot.ok.get {h : Heap} {p : Prot} (k : p.ok h) : ∃ o, h.get? p.at = some o := by
  cases p with
  | fr L m => obtain ⟨o, _, _, ho, _⟩ := k; exact ⟨o, ho⟩
  | ob a o => exact ⟨o, k⟩
theorem Prot.ok.to {h h' : Heap} {p : Prot} (k : p.ok h) (e : ∀ o, h.get? p.at = some o → h'.get? p.at = some o) : p.ok h' := by
  cases p with
  | fr L m => exact Heap.Ns.at' k e
  | ob a o => exact e _ k

structure Hp (b : Shared) (ps : List Prot) (H : HP) (s : Shared) : Prop where
  keep : ∀ a o, b.heap.get? a = some o → s.heap.get? a = some o
  sub : ∀ a o, H a = some o → s.heap.get? a = some o ∧ b.heap.get? a = none ∧ 3 < a
  prot : ∀ p ∈ ps, p.ok s.heap ∧ b.heap.get? p.at = none ∧ H p.at = none
  gens : s.gens = #[] ∧ ∃ o, b.heap.get? 3 = some o
  os : s.os = b.os

section
variable {b s s' : Shared} {ps : List Prot} {H H' : HP} {L a n : Addr} {o o' : Obj} {h' : Heap}

theorem Hp.get (hp : Hp b ps H s) (h : H a = some o) : s.heap.get? a = some o := (hp.sub a o h).1
theorem Hp.low (hp : Hp b ps H s) : 3 < s.heap.objs.size := let ⟨_, e⟩ := hp.gens.2; Heap.lt_size (hp.keep _ _ e)
theorem Hp.lt (hp : Hp b ps H s) (h : H a = some o) : a < s.heap.objs.size := Heap.lt_size (hp.get h)
theorem Hp.fresh (hp : Hp b ps H s) (h : s.heap.get? a = none) : H a = none := by
  cases e : H a with
  | none => rfl
  | some o => rw [hp.get e] at h; cases h
theorem Hp.base_fresh (hp : Hp b ps H s) (h : s.heap.get? a = none) : b.heap.get? a = none := by
  cases e : b.heap.get? a with
  | none => rfl
  | some o => rw [hp.keep _ _ e] at h; cases h
theorem Hp.prot_ne (hp : Hp b ps H s) (h : s.heap.get? a = none) : ∀ p ∈ ps, p.at ≠ a := by
  intro p hpp e
  obtain ⟨o, ho⟩ := (hp.prot p hpp).1.get
  rw [e, h] at ho; cases ho
theorem Hp.prot_ne' (hp : Hp b ps H s) (h : H a = some o) : ∀ p ∈ ps, p.at ≠ a := by
  intro p hpp e
  have := (hp.prot p hpp).2.2
  rw [e, h] at this; cases this
theorem get_size (h : Heap) : h.get? h.objs.size = none := by
  cases e : h.get? h.objs.size with
  | none => rfl
  | some o => exact absurd (Heap.lt_size e) (Nat.lt_irrefl _)

/-- the one step lemma: all outside of S stays -/
theorem Hp.step (hp : Hp b ps H s) (S : Addr → Prop) (hS : ∀ a, S a → b.heap.get? a = none ∧ ∀ p ∈ ps, p.at ≠ a)
    (hk : ∀ a o, ¬ S a → s.heap.get? a = some o → s'.heap.get? a = some o)
    (hH : ∀ a o, H' a = some o → (¬ S a ∧ H a = some o) ∨ (s'.heap.get? a = some o ∧ (b.heap.get? a = none ∧ 3 < a) ∧ ∀ p ∈ ps, p.at ≠ a))
    (hg : s'.gens = s.gens) (ho : s'.os = s.os) : Hp b ps H' s' := by
  refine ⟨fun a o e => hk a o (fun hs => ?_) (hp.keep a o e), fun a o e => ?_, fun p hpp => ⟨(hp.prot p hpp).1.to fun o e => hk _ o (fun hs => (hS _ hs).2 p hpp rfl) e, (hp.prot p hpp).2.1, ?_⟩, ⟨hg.trans hp.gens.1, hp.gens.2⟩, ho.trans hp.os⟩
  · rw [(hS a hs).1] at e; cases e
  · rcases hH a o e with ⟨h1, h2⟩ | ⟨h1, h2, _⟩
    · exact ⟨hk a o h1 (hp.sub a o h2).1, (hp.sub a o h2).2⟩
    · exact ⟨h1, h2⟩
  · cases e : H' p.at with
    | none => rfl
    | some o =>
      rcases hH _ o e with ⟨_, h2⟩ | ⟨_, _, h3⟩
      · rw [(hp.prot p hpp).2.2] at h2; cases h2
      · exact absurd rfl (h3 p hpp)

theorem Hp.of (hp : Hp b ps H s) (hh : s'.heap = s.heap) (hg : s'.gens = s.gens) (ho : s'.os = s.os) : Hp b ps H s' := by
  refine hp.step (fun _ => False) (fun _ h => h.elim) (fun a o _ e => by rw [hh]; exact e) (fun a o e => .inl ⟨id, e⟩) hg ho
theorem Hp.toks (hp : Hp b ps H s) (t : Nat) : Hp b ps H { s with toks := t } := hp.of rfl rfl rfl
/-- an object of the ghost heap is changed -/
theorem Hp.set (hp : Hp b ps H s) (ha : H a = some o) (hs : Heap.SameBut a s.heap h') (ho : h'.get? a = some o') (t : Nat) : Hp b ps (upd H a o') { s with heap := h', toks := t } := by
  refine hp.step (· = a) (fun x hx => hx ▸ ⟨(hp.sub a o ha).2.1, hp.prot_ne' ha⟩) (fun x ox hx e => (hs.2 x hx).trans e) (fun x ox e => ?_) rfl rfl
  by_cases hx : x = a
  · subst hx; rw [upd_self] at e; cases e; exact .inr ⟨ho, (hp.sub x o ha).2, hp.prot_ne' ha⟩
  · rw [upd_ne hx] at e; exact .inl ⟨hx, e⟩
/-- a new object -/
theorem Hp.push (hp : Hp b ps H s) (o : Obj) (hf : o.isFreed = false := by rfl) (t : Nat) : Hp b ps (upd H s.heap.objs.size o) { s with heap := s.heap.push o, toks := t } := by
  have hn := get_size s.heap
  refine hp.step (fun _ => False) (fun _ h => h.elim) (fun x ox _ e => Heap.get?_push_of_some _ e) (fun x ox e => ?_) rfl rfl
  by_cases hx : x = s.heap.objs.size
  · subst hx; rw [upd_self] at e; cases e; exact .inr ⟨Heap.get?_push_size _ hf, ⟨hp.base_fresh hn, hp.low⟩, hp.prot_ne hn⟩
  · rw [upd_ne hx] at e; exact .inl ⟨id, e⟩
/-- only what is new, or garbage, is changed -/
theorem Hp.ext (hp : Hp b ps H s) (hn : s.heap.get? n = none) (he : Heap.ExtBut n s.heap h') (t : Nat) : Hp b ps H { s with heap := h', toks := t } := by
  refine hp.step (· = n) (fun x hx => hx ▸ ⟨hp.base_fresh hn, hp.prot_ne hn⟩) (fun x ox hx e => he x ox hx e) (fun x ox e => .inl ⟨fun hx => ?_, e⟩) rfl rfl
  subst hx; rw [hp.fresh hn] at e; cases e
theorem Hp.all (hp : Hp b ps H s) (he : ∀ x ox, s.heap.get? x = some ox → h'.get? x = some ox) (t : Nat) : Hp b ps H { s with heap := h', toks := t } :=
  hp.step (fun _ => False) (fun _ h => h.elim) (fun x ox _ e => he x ox e) (fun x ox e => .inl ⟨id, e⟩) rfl rfl
theorem Hp.weak (hp : Hp b ps H s) (h : ∀ a o, H' a = some o → H a = some o) : Hp b ps H' s :=
  hp.step (fun _ => False) (fun _ h => h.elim) (fun _ _ _ e => e) (fun a o e => .inl ⟨id, h a o e⟩) rfl rfl
theorem Hp.drop {p : Prot} (hp : Hp b (p :: ps) H s) : Hp b ps H s := ⟨hp.keep, hp.sub, fun q hq => hp.prot q (.tail _ hq), hp.gens, hp.os⟩
/-- an object of the ghost heap is put aside -/
theorem Hp.aside (hp : Hp b ps H s) (ha : H a = some o) : Hp b (.ob a o :: ps) (fun x => if x = a then none else H x) s := by
  refine ⟨hp.keep, fun x ox e => ?_, fun p hpp => ?_, hp.gens, hp.os⟩
  · by_cases hx : x = a
    · simp [hx] at e
    · exact hp.sub x ox (by simpa [hx] using e)
  · rcases List.mem_cons.mp hpp with rfl | hpp
    · exact ⟨hp.get ha, (hp.sub a o ha).2.1, by simp [Prot.at]⟩
    · refine ⟨(hp.prot p hpp).1, (hp.prot p hpp).2.1, ?_⟩
      split
      · rfl
      · exact (hp.prot p hpp).2.2
/-- a new object is kept aside -/
theorem Hp.keepNew (hp : Hp b ps H s) (hn : s.heap.get? n = none) (ho : s'.heap.get? n = some o) (hk : ∀ x ox, x ≠ n → s.heap.get? x = some ox → s'.heap.get? x = some ox) (hg : s'.gens = s.gens) (hos : s'.os = s.os) : Hp b (.ob n o :: ps) H s' := by
  have h1 : Hp b ps H s' := by
    refine hp.step (· = n) (fun x hx => hx ▸ ⟨hp.base_fresh hn, hp.prot_ne hn⟩) (fun x ox hx e => hk x ox hx e) (fun x ox e => .inl ⟨fun hx => ?_, e⟩) hg hos
    subst hx; rw [hp.fresh hn] at e; cases e
  refine ⟨h1.keep, h1.sub, fun p hpp => ?_, h1.gens, h1.os⟩
  rcases List.mem_cons.mp hpp with rfl | hpp
  · exact ⟨ho, hp.base_fresh hn, hp.fresh hn⟩
  · exact h1.prot p hpp
/-- the object kept aside is changed -/
theorem Hp.keepSet (hp : Hp b (.ob n o :: ps) H s) (hpn : ∀ p ∈ ps, p.at ≠ n) (ho : s'.heap.get? n = some o') (hk : ∀ x ox, x ≠ n → s.heap.get? x = some ox → s'.heap.get? x = some ox) (hg : s'.gens = s.gens) (hos : s'.os = s.os) : Hp b (.ob n o' :: ps) H s' := by
  have hn := hp.prot _ (.head _)
  have h1 : Hp b ps H s' := by
    refine hp.drop.step (· = n) (fun x hx => hx ▸ ⟨hn.2.1, hpn⟩) (fun x ox hx e => hk x ox hx e) (fun x ox e => .inl ⟨fun hx => ?_, e⟩) hg hos
    subst hx; rw [show H x = none from hn.2.2] at e; cases e
  refine ⟨h1.keep, h1.sub, fun p hpp => ?_, h1.gens, h1.os⟩
  rcases List.mem_cons.mp hpp with rfl | hpp
  · exact ⟨ho, hn.2.1, hn.2.2⟩
  · exact h1.prot p hpp

/-- a frame L of the names l above the rest -/
noncomputable def At (b : Shared) (ps : List Prot) (L : Addr) (H : HP) (l : List (Str × Value)) (s : Shared) : Prop :=
  ∃ m, Hp b (.fr L m :: ps) H s ∧ (∀ p ∈ ps, p.at ≠ L) ∧ ∀ x v, l.lookup x = some v → m x = some v

variable {l l' : List (Str × Value)} {x : Str} {v : Value}
theorem At.hp (a : At b ps L H l s) : Hp b ps H s := let ⟨_, h, _⟩ := a; h.drop
theorem At.get (a' : At b ps L H l s) (h : H a = some o) : s.heap.get? a = some o := a'.hp.get h
theorem At.of (a : At b ps L H l s) (hh : s'.heap = s.heap) (hg : s'.gens = s.gens) (ho : s'.os = s.os) : At b ps L H l s' :=
  let ⟨m, h, r⟩ := a; ⟨m, h.of hh hg ho, r⟩
theorem At.toks (a : At b ps L H l s) (t : Nat) : At b ps L H l { s with toks := t } := a.of rfl rfl rfl
theorem At.set (a' : At b ps L H l s) (ha : H a = some o) (hs : Heap.SameBut a s.heap h') (ho : h'.get? a = some o') (t : Nat) : At b ps L (upd H a o') l { s with heap := h', toks := t } :=
  let ⟨m, h, r⟩ := a'; ⟨m, h.set ha hs ho t, r⟩
theorem At.push (a' : At b ps L H l s) (o : Obj) (hf : o.isFreed = false := by rfl) (t : Nat) : At b ps L (upd H s.heap.objs.size o) l { s with heap := s.heap.push o, toks := t } :=
  let ⟨m, h, r⟩ := a'; ⟨m, h.push o hf t, r⟩
theorem At.ext (a' : At b ps L H l s) (hn : s.heap.get? n = none) (he : Heap.ExtBut n s.heap h') (t : Nat) : At b ps L H l { s with heap := h', toks := t } :=
  let ⟨m, h, r⟩ := a'; ⟨m, h.ext hn he t, r⟩
theorem At.all (a' : At b ps L H l s) (he : ∀ x ox, s.heap.get? x = some ox → h'.get? x = some ox) (t : Nat) : At b ps L H l { s with heap := h', toks := t } :=
  let ⟨m, h, r⟩ := a'; ⟨m, h.all he t, r⟩
theorem At.fresh (a' : At b ps L H l s) (h : s.heap.get? a = none) : H a = none := a'.hp.fresh h
theorem At.weak (a' : At b ps L H l s) (h : ∀ a o, H' a = some o → H a = some o) : At b ps L H' l s :=
  let ⟨m, hp, r⟩ := a'; ⟨m, hp.weak h, r⟩
theorem At.names (a' : At b ps L H l s) (h : ∀ x v, l'.lookup x = some v → l.lookup x = some v) : At b ps L H l' s :=
  let ⟨m, hp, r, q⟩ := a'; ⟨m, hp, r, fun x v e => q x v (h x v e)⟩

/-- a few names, each found -/
noncomputable def Names (l : List (Str × Value)) : List (Str × Value) → Prop
  | [] => True
  | (x, v) :: r => l.lookup x = some v ∧ Names l r
theorem Names.all {l : List (Str × Value)} : ∀ {l' : List (Str × Value)}, Names l l' → ∀ x v, l'.lookup x = some v → l.lookup x = some v
  | [], _, x, v, e => by cases e
  | (y, u) :: r, h, x, v, e => by
    rw [List.lookup_cons] at e
    by_cases hx : (x == y) = true
    · rw [hx] at e; cases e
      rw [eq_of_beq hx]; exact h.1
    · rw [Bool.not_eq_true] at hx; rw [hx] at e; exact Names.all h.2 x v e
theorem At.to (a' : At b ps L H l s) (h : Names l l') : At b ps L H l' s := a'.names h.all
theorem lk_here {x : Str} {v : Value} {l : List (Str × Value)} : List.lookup x ((x, v) :: l) = some v := by simp [List.lookup]
theorem lk_next {x y : Str} {u v : Value} {l : List (Str × Value)} (h : (x == y) = false) (e : List.lookup x l = some v) : List.lookup x ((y, u) :: l) = some v := by
  rw [List.lookup_cons, h]; exact e

end
end Mine

namespace Mine
/-- what is asked behind a statement, as a name: the rest of the block, or the way out of it -/
noncomputable def Sq (M : Model) (A : Around) (rest : List Stmt) (env : Env) (Q : Flow → Shared → Prop) (E : Value → Shared → Prop) (K : Flow → Shared → Prop) : Prop :=
  (∀ s', wpAny M A (execs rest env) Q E s' → K .next s') ∧ ∀ f s', f ≠ .next → Q f s' → K f s'
section
variable {M : Model} {A : Around} {rest : List Stmt} {env : Env} {Q K : Flow → Shared → Prop} {E : Value → Shared → Prop} {s : Shared} {st : Stmt} {v : Value}
theorem ex_consK (h : ∀ K, Sq M A rest env Q E K → wpAny M A (exec st env) K E s) : wpAny M A (execs (st :: rest) env) Q E s :=
  wpAny_execs_cons (h _ ⟨fun _ h => h, fun f s' hf h => by cases f <;> first | exact h | exact absurd rfl hf⟩)
theorem Sq.go (h : Sq M A rest env Q E K) (q : wpAny M A (execs rest env) Q E s) : K .next s := h.1 s q
theorem Sq.brk (h : Sq M A rest env Q E K) (q : Q .brk s) : K .brk s := h.2 _ s (fun e => nomatch e) q
theorem Sq.cont (h : Sq M A rest env Q E K) (q : Q .cont s) : K .cont s := h.2 _ s (fun e => nomatch e) q
theorem Sq.ret (h : Sq M A rest env Q E K) (q : Q (.ret v) s) : K (.ret v) s := h.2 _ s (fun e => nomatch e) q
/-- a name that stands for what is asked -/
noncomputable def Nm (_ : Flow → Shared → Prop) : Prop := True
noncomputable def Pq {α : Type} (Q K : α → Shared → Prop) : Prop := ∀ a s, Q a s → K a s
theorem Pq.go {α : Type} {Q K : α → Shared → Prop} {x : α} (h : Pq Q K) (q : Q x s) : K x s := h x s q
theorem gp {α : Type} {t : Sem α} {Q : α → Shared → Prop} (h : ∀ K, Pq Q K → wpAny M A t K E s) : wpAny M A t Q E s := h Q fun _ _ x => x
theorem ex_consN (_ : Nm Q) (h : ∀ K, Nm K → Sq M A rest env Q E K → wpAny M A (exec st env) K E s) : wpAny M A (execs (st :: rest) env) Q E s := ex_consK fun K hK => h K trivial hK
theorem ex_consG (h : ∀ K₀, Nm K₀ → Pq Q K₀ → ∀ K, Nm K → Sq M A rest env K₀ E K → wpAny M A (exec st env) K E s) : wpAny M A (execs (st :: rest) env) Q E s :=
  gp fun K₀ h₀ => ex_consK fun K hK => h K₀ trivial h₀ K trivial hK
end
end Mine

namespace Mine

structure Ctx (K : Frag) (b : Shared) (mg mb : Str → Option Value) : Prop where
  K : K.In b.heap
  g : b.heap.Ns mainGlobals mg
  bn : b.heap.Ns builtinsNs mb
  bv : ∀ x, x ≠ ("__name__" : Str) → mb x = bootBuiltins x
  lim : b.heap.NoLimit

structure EnvIs (e : Env) (L : Addr) (ns : List (Str × NameKind)) (cs : List (Str × Addr)) : Prop where
  loc : e.locals = L
  kind : e.scope.kind = .function
  glob : e.globals = mainGlobals
  blt : e.builtins = builtinsNs
  kof : ∀ x, e.kindOf x = ns.lookup x
  frame : ns.lookup (".0" : Str) = none → e.frame = some L
  cells : e.cells = cs

abbrev NoE : Value → Shared → Prop := fun _ _ => False

section
variable {prog : Program} {w : World} {M : Model} {A : Around} {E : Value → Shared → Prop} {K : Frag} {mg mb : Str → Option Value}
  {b s : Shared} {ps : List Prot} {H : HP} {L : Addr} {l : List (Str × Value)} {env : Env} {ns : List (Str × NameKind)} {cs : List (Str × Addr)} {Q : Value → Shared → Prop}

/-- a statement, cut off from what follows -/
theorem ex_cut {st : Stmt} {rest : List Stmt} {Q : Flow → Shared → Prop} (Mid : Shared → Prop) (h : wpAny M A (exec st env) (fun f s' => f = .next ∧ Mid s') NoE s) (k : ∀ s', Mid s' → wpAny M A (execs rest env) Q E s') :
    wpAny M A (execs (st :: rest) env) Q E s :=
  wpAny_execs_cons (wpAny_mono h (fun f s' ⟨e, m⟩ => by subst e; exact k s' m) fun _ _ x => x.elim)
theorem noE {α : Type} {t : Sem α} {Q : α → Shared → Prop} (h : wpAny M A t Q NoE s) : wpAny M A t Q E s := wpAny_mono h (fun _ _ x => x) fun _ _ x => x.elim

/-! names -/
theorem ev_local {x : Str} {pos : Pos} {v : Value} (a : At b ps L H l s) (he : EnvIs env L ns cs) (hv : l.lookup x = some v) (h : Q v s)
    (hl : ns.lookup x = some .local := by kernel_rfl!) (hd : (x == ("__debug__" : Str)) = false := by kernel_rfl!) :
    wpAny M A (eval (.Name x pos) env) Q E s := by
  obtain ⟨m, hp, _, hm⟩ := a
  refine wpAny_Name (wpAny_loadName_local he.kind ((he.kof x).trans hl) (m := m) ?_ (hm _ _ hv) h) hd
  rw [he.loc]; exact (hp.prot _ (.head _)).1
theorem ev_global {x : Str} {pos : Pos} {v : Value} (C : Ctx K b mg mb) (a : At b ps L H l s) (he : EnvIs env L ns cs) (e : nsIn K mainGlobals x = some (some v)) (h : Q v s)
    (hl : ns.lookup x = some .globalImplicit := by kernel_rfl!) (hd : (x == ("__debug__" : Str)) = false := by kernel_rfl!) :
    wpAny M A (eval (.Name x pos) env) Q E s := by
  refine Calls.Name_function_global he.kind ((he.kof x).trans hl) (Calls.loadGlobal_global (mg := mg) ?_ (mg_of C.K C.g e) h) hd
  rw [he.glob]; exact C.g.keeps a.hp.keep
theorem ev_builtin {x : Str} {pos : Pos} {v : Value} (C : Ctx K b mg mb) (a : At b ps L H l s) (he : EnvIs env L ns cs) (e : nsIn K mainGlobals x = some none) (e2 : bootBuiltins x = some v) (h : Q v s)
    (hn : x ≠ ("__name__" : Str) := by decide) (hl : ns.lookup x = some .globalImplicit := by kernel_rfl!) (hd : (x == ("__debug__" : Str)) = false := by kernel_rfl!) :
    wpAny M A (eval (.Name x pos) env) Q E s := by
  refine Calls.Name_function_global he.kind ((he.kof x).trans hl) (Calls.loadGlobal_builtin (mg := mg) (mb := mb) ?_ (mg_none_of C.K C.g e) ?_ ((C.bv x hn).trans e2) h) hd
  · rw [he.glob]; exact C.g.keeps a.hp.keep
  · rw [he.blt]; exact C.bn.keeps a.hp.keep
theorem st_local {x : Str} {v : Value} {Q : Unit → Shared → Prop} (a : At b ps L H l s) (he : EnvIs env L ns cs) (h : ∀ s', At b ps L H ((x, v) :: l) s' → Q () s')
    (hl : ns.lookup x = some .local := by kernel_rfl!) :
    wpAny M A (storeName env x v) Q E s := by
  obtain ⟨m, hp', hne, hm⟩ := a
  have hL := hp'.prot _ (.head _)
  refine wpAny_storeName_local ((he.kof x).trans hl) (m := m) (by rw [he.loc]; exact hL.1) (fun h' hn hs => h _ ⟨fun y => if y = x then some v else m y, ?_, hne, ?_⟩) (by rw [he.kind]; rfl)
  · rw [he.loc] at hn hs
    have h1 : Hp b ps H { s with heap := h', toks := s.toks + 1 } := by
      refine hp'.drop.step (· = L) (fun x hx => hx ▸ ⟨hL.2.1, hne⟩) (fun x ox hx e => (hs.2 x hx).trans e) (fun x ox e => .inl ⟨fun hx => ?_, e⟩) rfl rfl
      subst hx
      rw [show H x = none from hL.2.2] at e; cases e
    refine ⟨h1.keep, h1.sub, fun p hpp => ?_, h1.gens, h1.os⟩
    rcases List.mem_cons.mp hpp with rfl | hpp
    · exact ⟨hn, hL.2.1, hL.2.2⟩
    · exact h1.prot p hpp
  · intro y u e
    rw [List.lookup_cons] at e
    by_cases hy : (y == x) = true
    · rw [hy] at e; cases e; simp [eq_of_beq hy]
    · rw [Bool.not_eq_true] at hy; rw [hy] at e
      have : y ≠ x := fun h => by simp [h] at hy
      simp [this, hm y u e]

/-! constants -/
theorem ev_int {i : Int} {k : Nat} {pos : Pos} (a : At b ps L H l s) (h : ∀ t s', At b ps L H l s' → Q (.int i t) s') : wpAny M A (eval (.Constant (.int i) k pos) env) Q E s :=
  wpAny_Constant_int (h _ _ (a.toks _))
theorem ev_none {k : Nat} {pos : Pos} (h : Q .none s) : wpAny M A (eval (.Constant .none k pos) env) Q E s := wpAny_Constant_none h

/-! ints -/
theorem op_add {x y : Int} {t u : Tok} (a : At b ps L H l s) (h : ∀ t s', At b ps L H l s' → Q (.int (x + y) t) s') : wpAny (model prog w) A (binaryOp .Add (.int x t) (.int y u)) Q E s := add_int (h _ _ (a.toks _))
theorem op_sub {x y : Int} {t u : Tok} (a : At b ps L H l s) (h : ∀ t s', At b ps L H l s' → Q (.int (x - y) t) s') : wpAny (model prog w) A (binaryOp .Sub (.int x t) (.int y u)) Q E s := sub_int (h _ _ (a.toks _))
theorem op_mul {x y : Int} {t u : Tok} (a : At b ps L H l s) (hm : IntMulOk x y) (h : ∀ t s', At b ps L H l s' → Q (.int (x * y) t) s') : wpAny (model prog w) A (binaryOp .Mult (.int x t) (.int y u)) Q E s := mul_int (h _ _ (a.toks _)) hm
theorem op_mulL {x y : Int} {t u : Tok} (a : At b ps L H l s) (hm : Builtin.Int.intBits x ≤ 64) (h : ∀ t s', At b ps L H l s' → Q (.int (x * y) t) s') : wpAny (model prog w) A (binaryOp .Mult (.int x t) (.int y u)) Q E s := op_mul a (IntMulOk.of_left hm) h
theorem op_mod {x y : Int} {t u : Tok} (a : At b ps L H l s) (hy : 0 < y) (h : ∀ t s', At b ps L H l s' → Q (.int (x % y) t) s') : wpAny (model prog w) A (binaryOp .Mod (.int x t) (.int y u)) Q E s :=
  mod_int' (by exact om511 hy) (by rw [Int.fmod_eq_emod_of_nonneg _ (by exact om507 hy)]; exact h _ _ (a.toks _))
theorem op_rshift1 {x : Int} {t u : Tok} (a : At b ps L H l s) (hx : 0 ≤ x) (h : ∀ t s', At b ps L H l s' → Q (.int (x / 2) t) s') : wpAny (model prog w) A (binaryOp .RShift (.int x t) (.int 1 u)) Q E s := wpAny_rshift1_int hx (h _ _ (a.toks _))
theorem op_neg {x : Int} {t : Tok} (a : At b ps L H l s) (h : ∀ t s', At b ps L H l s' → Q (.int (-x) t) s') : wpAny (model prog w) A (unaryOp .USub (.int x t)) Q E s := neg_int (h _ _ (a.toks _))

/-! comparisons of ints, tests -/
theorem cmp_lt {x y : Int} {t u : Tok} (h : Q (.bool (decide (x < y))) s) : wpAny (model prog w) A (compareOp .Lt (.int x t) (.int y u)) Q E s := lt_int h
theorem cmp_gt {x y : Int} {t u : Tok} (h : Q (.bool (decide (y < x))) s) : wpAny (model prog w) A (compareOp .Gt (.int x t) (.int y u)) Q E s := gt_int h
theorem cmp_ge {x y : Int} {t u : Tok} (h : Q (.bool (decide (y ≤ x))) s) : wpAny (model prog w) A (compareOp .GtE (.int x t) (.int y u)) Q E s := ge_int h
theorem cmp_eq {x y : Int} {t u : Tok} (h : Q (.bool (decide (x = y))) s) : wpAny (model prog w) A (compareOp .Eq (.int x t) (.int y u)) Q E s := eq_int (by rw [show (x == y) = decide (x = y) from rfl]; exact h)
theorem cmp_ne {x y : Int} {t u : Tok} (h : Q (.bool (decide (x ≠ y))) s) : wpAny (model prog w) A (compareOp .NotEq (.int x t) (.int y u)) Q E s := ne_int (by rw [show (x != y) = decide (x ≠ y) from by simp [bne, decide_not]; rfl]; exact h)
theorem tr_bool {v : Bool} {Q : Bool → Shared → Prop} (h : Q v s) : wpAny M A (truthy (.bool v)) Q E s := wpAny_truthy_bool h
theorem ite_dec {p : Prop} [Decidable p] {X Y : Prop} (h1 : p → X) (h2 : ¬ p → Y) : if decide p = true then X else Y := by
  by_cases h : p
  · simp only [h, decide_true, if_true]; exact h1 h
  · simp only [h, decide_false, Bool.false_eq_true, if_false]; exact h2 h
theorem ite_not {p : Prop} [Decidable p] {X Y : Prop} (h1 : ¬ p → X) (h2 : p → Y) : if (!decide p) = true then X else Y := by
  by_cases h : p
  · simp only [h, decide_true, Bool.not_true, Bool.false_eq_true, if_false]; exact h2 h
  · simp only [h, decide_false, Bool.not_false, if_true]; exact h1 h

theorem ite_true' {X Y : Prop} (h : X) : if true = true then X else Y := by simpa using h
theorem ite_false' {X Y : Prop} (h : Y) : if false = true then X else Y := by simpa using h

/-! a call of the text's own def -/
noncomputable def Kept (b s : Shared) : Prop := ∀ a o, b.heap.get? a = some o → s.heap.get? a = some o
theorem At.kept (a : At b ps L H l s) : Kept b s := a.hp.keep
/-- out of a frame into a call, and back -/
theorem At.call (a : At b ps L H l s) : ∃ p : Prot, Hp b (p :: ps) H s ∧ ∀ H' s', Hp b (p :: ps) H' s' → At b ps L H' l s' := by
  obtain ⟨m, hp, hne, hm⟩ := a
  exact ⟨.fr L m, hp, fun H' s' hp' => ⟨m, hp', hne, hm⟩⟩
theorem ex_expr {e : Expr} {pos : Pos} {Q : Flow → Shared → Prop} (he : EnvIs env L ns cs) (h : wpAny M A (eval e env) (fun v s' => match v with | .ref _ => False | _ => Q .next s') E s)
    (hsw : swapsWith e none pos.line env = pure false := by rfl) : wpAny M A (exec (.Expr e pos) env) Q E s :=
  wpAny_Expr h (by simp [interactive, he.kind]) hsw
theorem ev_call_fn {x : Str} {np pos : Pos} {e : Expr} {rest : List Expr} {f : Addr} {o : Obj} {fd : FuncData} (C : Ctx K b mg mb) (a : At b ps L H l s) (he : EnvIs env L ns cs)
    (hx : nsIn K mainGlobals x = some (some (.ref f))) (ho : K.lookup f = some o) (hd : o.data = .func fd)
    (h : wpAny M A (spliced (backTo pos (starEach (e :: rest) env))) (fun vs s₁ => Kept b s₁ ∧ wpAny M A (call (.ref f) vs) Q E s₁) E s)
    (hst : starEach (e :: rest) env = (false, eval e env) :: starEach rest env := by rfl) (hl : ns.lookup x = some .globalImplicit := by kernel_rfl!) (hdb : (x == ("__debug__" : Str)) = false := by kernel_rfl!) :
    wpAny M A (eval (.Call (.Name x np) (e :: rest) [] pos) env) Q E s := by
  refine wpAny_Call_NameR (ev_global C a he hx ?_ hl hdb)
  refine callWith_def hd (wpAny_mono h (fun vs s₁ h₁ => ⟨h₁.1 _ _ (C.K _ _ ho), h₁.2⟩) fun _ _ x => x) hst

theorem call_code {f : Addr} {o : Obj} {fd : FuncData} {body : List Stmt} {args : List Value} {R : Result → Shared → Prop} (l : List (Str × Value)) (C : Ctx K b mg mb) (hp : Hp b ps H s)
    (ho : K.lookup f = some o) (hd : o.data = .func fd) (hbody : fd.body = .stmts body) (hns : fd.scope.names = ns) (hcd : codeIn K fd.code fd.qualname = true) (hroom : A.depth < recursionLimit)
    (hbind : BindsTo s fd ⟨args, []⟩ l.reverse) (hcell : ∀ x ∈ ns, x.2 ≠ .cell) (hloc : ∀ x ∈ l.reverse, ns.lookup x.1 = some .local)
    (h : ∀ L s₁ env, EnvIs env L ns [] → At b ps L H l s₁ →
      wpAny (model prog w) (A.deeper env) (execs body env) (fun fl s' => R (.ok (.ret (match fl with | .ret v => v | _ => .none))) s') NoE s₁)
    (hco : fd.scope.isCoroutine = false := by rfl) (hgen : fd.scope.isGenerator = false := by rfl) (hk : fd.scope.kind = .function := by rfl)
    (hg : fd.globals = mainGlobals := by rfl) (hbt : fd.builtins = builtinsNs := by rfl) (hcl : fd.closure = [] := by rfl) :
    codeAny (model prog w) A (.call (.ref f) ⟨args, []⟩) R s := by
  have hX := C.K.keeps hp.keep
  subst hns
  refine codeAny_call_def (fd := fd) (body := body) (binds := l.reverse) hroom (hX _ _ ho) hd (C.lim.keeps hp.keep) (codeRec_of hX hcd) hbody hbind hcell hloc (fun h₁ hns hk₁ => ?_) hco hgen hk
  have hn := get_size s.heap
  have h1 := hp.all hk₁ (s.toks + l.reverse.length)
  rw [List.reverse_reverse] at hns
  refine wpAny_mono (h _ _ _ ⟨rfl, hk, hg, hbt, fun _ => rfl, fun _ => rfl, hcl⟩ ⟨_, ⟨h1.keep, h1.sub, fun p hpp => ?_, h1.gens, h1.os⟩, hp.prot_ne hn, fun x v e => e⟩) (fun fl s' hq => hq) fun _ _ x => x.elim
  rcases List.mem_cons.mp hpp with rfl | hpp
  · exact ⟨hns, hp.base_fresh hn, hp.fresh hn⟩
  · exact h1.prot p hpp
theorem call_def {f : Addr} {o : Obj} {fd : FuncData} {body : List Stmt} {args : List Value} (l : List (Str × Value)) (C : Ctx K b mg mb) (hp : Hp b ps H s)
    (ho : K.lookup f = some o) (hd : o.data = .func fd) (hbody : fd.body = .stmts body) (hns : fd.scope.names = ns) (hcd : codeIn K fd.code fd.qualname = true) (hroom : A.depth < recursionLimit)
    (hbind : BindsTo s fd ⟨args, []⟩ l.reverse) (hcell : ∀ x ∈ ns, x.2 ≠ .cell) (hloc : ∀ x ∈ l.reverse, ns.lookup x.1 = some .local)
    (h : ∀ L s₁ env, EnvIs env L ns [] → At b ps L H l s₁ →
      wpAny (model prog w) (A.deeper env) (execs body env) (fun fl s' => Q (match fl with | .ret v => v | _ => .none) s') NoE s₁)
    (hco : fd.scope.isCoroutine = false := by rfl) (hgen : fd.scope.isGenerator = false := by rfl) (hk : fd.scope.kind = .function := by rfl)
    (hg : fd.globals = mainGlobals := by rfl) (hbt : fd.builtins = builtinsNs := by rfl) (hcl : fd.closure = [] := by rfl) :
    wpAny (model prog w) A (call (.ref f) args) Q E s :=
  wpAny_call (call_code l C hp ho hd hbody hns hcd hroom hbind hcell hloc h hco hgen hk hg hbt hcl)
end
end Mine

namespace Mine

/-- room on the stack -/
noncomputable def Rm (n : Nat) (A : Around) : Prop := A.depth + n < 1000 ∧ A.units + 16 * n < 9900 ∧ A.handled = none
theorem Rm.deeper {n : Nat} {A : Around} {env : Env} (h : Rm (n + 1) A) : Rm n (A.deeper env) := by
  obtain ⟨h1, h2, h3⟩ := h
  exact ⟨by show A.depth + 1 + n < 1000; exact om214 h1, by show A.units + 3 + 16 * n < 9900; exact om212 h2, h3⟩
theorem Rm.mono {n m : Nat} {A : Around} (h : Rm n A) (hm : m ≤ n) : Rm m A := ⟨by have := h.1; exact om332 this hm, by have := h.2.1; exact om320 this hm, h.2.2⟩
theorem Rm.room {n : Nat} {A : Around} (h : Rm n A) : A.depth < recursionLimit := by have := h.1; show A.depth < 1000; exact om215 this
theorem Rm.units {n : Nat} {A : Around} (h : Rm n A) : A.units < cLine := by have := h.2.1; show A.units < 9900; exact om213 this
theorem Rm.hand {n : Nat} {A : Around} (h : Rm n A) : A.handled = none := h.2.2

noncomputable abbrev lsO (vs : List Value) (n : Nat) : Obj := W.listOf vs.toArray n
noncomputable abbrev tpO (vs : List Value) (n : Nat) : Obj := { cls := .type "tuple", data := .seq vs.toArray n }
noncomputable def LsAt (H : HP) (a : Addr) (vs : List Value) : Prop := ∃ n, H a = some (lsO vs n)
noncomputable def TpAt (H : HP) (a : Addr) (vs : List Value) : Prop := ∃ n, H a = some (tpO vs n)

section
variable {H : HP} {a x : Addr} {o : Obj} {vs ws : List Value} {n : Nat}
theorem LsAt.upd (h : LsAt H a vs) (hn : a ≠ x) : LsAt (upd H x o) a vs := let ⟨n, e⟩ := h; ⟨n, by rw [upd_ne hn]; exact e⟩
theorem TpAt.upd (h : TpAt H a vs) (hn : a ≠ x) : TpAt (upd H x o) a vs := let ⟨n, e⟩ := h; ⟨n, by rw [upd_ne hn]; exact e⟩
theorem LsAt.fresh (h : LsAt H a vs) (hn : H x = none) : LsAt (Mine.upd H x o) a vs := let ⟨n, e⟩ := h; ⟨n, upd_of e hn⟩
theorem TpAt.fresh (h : TpAt H a vs) (hn : H x = none) : TpAt (Mine.upd H x o) a vs := let ⟨n, e⟩ := h; ⟨n, upd_of e hn⟩
theorem LsAt.self : LsAt (Mine.upd H a (lsO vs n)) a vs := ⟨n, upd_self⟩
theorem TpAt.self : TpAt (Mine.upd H a (tpO vs n)) a vs := ⟨n, upd_self⟩
theorem tp_ne_ls (h : TpAt H a vs) (h' : LsAt H x ws) : a ≠ x := by
  rintro rfl
  obtain ⟨n, e⟩ := h; obtain ⟨m, e'⟩ := h'
  rw [e] at e'; simp only [Option.some.injEq, Obj.mk.injEq, Value.type.injEq] at e'
  exact absurd e'.1 (by decide)
theorem upd_id {H : HP} {a : Addr} {o : Obj} (h : H a = some o) : Mine.upd H a o = H := by
  funext y
  by_cases e : y = a
  · rw [e, upd_self, h]
  · rw [upd_ne e]
theorem upd_upd {H : HP} {a : Addr} {o o' : Obj} : upd (Mine.upd H a o) a o' = Mine.upd H a o' := by funext y; simp only [Mine.upd]; split <;> rfl
theorem upd_comm {H : HP} {a x : Addr} {o o' : Obj} (h : a ≠ x) : Mine.upd (Mine.upd H a o) x o' = Mine.upd (Mine.upd H x o') a o := by
  funext y; simp only [Mine.upd]; split <;> split <;> first | rfl | (subst_vars; exact absurd rfl h)
end

section
variable {prog : Program} {w : World} {M : Model} {A : Around} {E : Value → Shared → Prop}
  {b s : Shared} {ps : List Prot} {H : HP} {L x : Addr} {l : List (Str × Value)} {env : Env} {Q : Value → Shared → Prop} {vs : List Value} {k : Int} {t : Tok} {v : Value} {value slice : Expr}

theorem LsAt.isList (a : At b ps L H l s) (h : LsAt H x vs) : s.heap.IsList x vs.toArray := let ⟨_, e⟩ := h; ⟨_, a.get e, rfl, _, rfl⟩
theorem TpAt.isTuple (a : At b ps L H l s) (h : TpAt H x vs) : s.heap.IsTuple x vs.toArray := let ⟨_, e⟩ := h; ⟨_, a.get e, rfl, _, rfl⟩
theorem TpAt.isTup (a : At b ps L H l s) (h : TpAt H x vs) : IsTup s.heap x vs.toArray := h.isTuple a

/-! reads -/
theorem sub_list (a : At b ps L H l s) (hl : LsAt H x vs) (h0 : 0 ≤ k) (hb : k < 100000) (hv : vs[k.toNat]? = some v) (h : Q v s)
    (hs : subscripted slice false (.ref x) (.int k t) = operate [.ref x, .int k t] (getItem (.ref x) (.int k t)) := by rfl) :
    wpAny (model prog w) A (subscriptTail value slice (.ref x) (.int k t)) Q E s :=
  tail_any (hl.isList a).typeIs slot_list_getitem.lookup (wpAny_getItem_list (hl.isList a) h0 (by exact om534 hb) (by simpa using hv) h) hs
theorem sub_last (a : At b ps L H l s) (hl : LsAt H x vs) (hv : vs.getLast? = some v) (h : Q v s)
    (hs : subscripted slice false (.ref x) (.int (-1) t) = operate [.ref x, .int (-1) t] (getItem (.ref x) (.int (-1) t)) := by rfl) :
    wpAny (model prog w) A (subscriptTail value slice (.ref x) (.int (-1) t)) Q E s := by
  have hne : 0 < vs.length := by cases vs with | nil => cases hv | cons _ _ => simp
  refine tail_any (hl.isList a).typeIs slot_list_getitem.lookup (wpAny_getItem_list_neg (hl.isList a) (by exact om0) (by simp only [List.size_toArray]; exact om54 hne) (by exact om25) ?_ h) hs
  rw [List.getLast?_eq_getElem?] at hv
  simp only [List.size_toArray, List.getElem?_toArray]
  rw [show (-1 + (vs.length : Int)).toNat = vs.length - 1 from by exact om44]; exact hv
theorem sub_tuple {j : Nat} (a : At b ps L H l s) (hl : TpAt H x vs) (hb : -1000 < k ∧ k < 100000) (hj : seqIndex? k vs.length = some j) (hv : vs[j]? = some v) (h : Q v s)
    (hs : subscripted slice false (.ref x) (.int k t) = operate [.ref x, .int k t] (getItem (.ref x) (.int k t)) := by rfl) :
    wpAny (model prog w) A (subscriptTail value slice (.ref x) (.int k t)) Q E s :=
  item_tupleT (hl.isTup a) (by exact om501 hb) (by exact om502 hb) hj hv h hs

/-! writes -/
theorem set_list {Q : Unit → Shared → Prop} (a : At b ps L H l s) (hl : LsAt H x vs) (h0 : 0 ≤ k) (hb : k < 100000) (hk : k.toNat < vs.length)
    (h : ∀ s' n, At b ps L (upd H x (lsO (vs.set k.toNat v) n)) l s' → Q () s') :
    wpAny (model prog w) A (setItem (.ref x) (.int k t) v) Q E s := by
  obtain ⟨n, e⟩ := hl
  refine ki_setAt (a.get e) h0 (by exact om534 hb) (by simp only [List.size_toArray]; exact om481 hk) (h _ n ?_)
  refine a.set e (Heap.SameBut.update ..) ?_ s.toks
  have q := PySem.IsL.update (h := s.heap) (l := x) (items := vs.toArray) (n := n) (a.get e) (·.setIfInBounds k.toNat v)
  simp only [List.setIfInBounds_toArray, List.size_toArray, List.length_set, beq_self_eq_true, if_true] at q
  exact q
theorem set_last {Q : Unit → Shared → Prop} (a : At b ps L H l s) (hl : LsAt H x vs) (hb : vs.length < 100000) (hk : 0 < vs.length)
    (h : ∀ s' n, At b ps L (upd H x (lsO (vs.set (vs.length - 1) v) n)) l s' → Q () s') :
    wpAny (model prog w) A (setItem (.ref x) (.int (-1) t) v) Q E s := by
  obtain ⟨n, e⟩ := hl
  refine ki_setBack (a.get e) (by exact om0) (by simp only [List.size_toArray]; exact om54 hk) (by exact om25) (h _ n ?_)
  refine a.set e (Heap.SameBut.update ..) ?_ s.toks
  have q := PySem.IsL.update (h := s.heap) (l := x) (items := vs.toArray) (n := n) (a.get e) (·.setIfInBounds (-1 + (vs.length : Int)).toNat v)
  simp only [List.setIfInBounds_toArray, List.size_toArray, List.length_set, beq_self_eq_true, if_true] at q
  rw [show vs.length - 1 = (-1 + (vs.length : Int)).toNat from by exact om108]
  exact q
theorem do_append (a : At b ps L H l s) (hl : LsAt H x vs) (hb : vs.length < 100000) (h : ∀ s' n, At b ps L (upd H x (lsO (vs ++ [v]) n)) l s' → Q .none s') :
    wpAny (model prog w) A (call (.builtin "list.append") [.ref x, v]) Q E s := by
  obtain ⟨n, e⟩ := hl
  refine wpAny_list_append_plain ⟨n, a.get e⟩ (fun h' hp hs => ?_) (by simp only [List.size_toArray]; show vs.length ≤ 2 ^ 24; exact om114 hb)
  obtain ⟨m, hm⟩ := hp
  refine h _ m (a.set e hs ?_ s.toks)
  simpa using hm
theorem do_pop (a : At b ps L H l s) (hl : LsAt H x (vs ++ [v])) (hb : vs.length < 100000) (h : ∀ s' n, At b ps L (upd H x (lsO vs n)) l s' → Q v s') :
    wpAny (model prog w) A (call (.builtin "list.pop") [.ref x]) Q E s := by
  obtain ⟨n, e⟩ := hl
  have hz' : (vs ++ [v]).toArray.size ≤ sizeLine := by rw [List.size_toArray, List.length_append]; show vs.length + 1 ≤ 2 ^ 24; exact om113 hb
  have hk : (vs ++ [v]).toArray.size - 1 = vs.length := by rw [List.size_toArray, List.length_append]; rfl
  have hy : (vs ++ [v]).toArray[(vs ++ [v]).toArray.size - 1]? = some v := by rw [hk]; simp
  refine call_meets PySem.F.slot_list_pop ⟨_, a.get e, rfl⟩ PySem.F.entry_list_pop (PySem.F.args_list_pop_1 _) (PySem.MeetsSeq.list_pop_last x _ n v hy hz') ⟨a.get e, h _ (n + 1) (a.set e (Heap.SameBut.update ..) ?_ s.toks)⟩
  have q := PySem.IsL.update (h := s.heap) (l := x) (items := (vs ++ [v]).toArray) (n := n) (a.get e) (fun xs => xs.eraseIdxIfInBounds ((vs ++ [v]).toArray.size - 1))
  rw [hk, kl_erase, List.append_nil, if_neg (by simp)] at q
  rw [hk]
  exact q

/-! new sequences -/
theorem new_list (a : At b ps L H l s) (hb : vs.length < 100000) (h : ∀ s' x, H x = none → At b ps L (upd H x (lsO vs 0)) l s' → Q (.ref x) s') : wpAny M A (newList vs) Q E s :=
  wpAny_newList (h _ _ (a.fresh (get_size _)) (a.push (lsO vs 0) rfl s.toks)) (by show vs.length ≤ 2 ^ 24; exact om114 hb)
theorem new_tuple (a : At b ps L H l s) (hb : vs.length < 100000) (h : ∀ s' x, H x = none → At b ps L (upd H x (tpO vs 0)) l s' → Q (.ref x) s') : wpAny M A (newTuple vs) Q E s :=
  wpAny_newTuple (h _ _ (a.fresh (get_size _)) (a.push (tpO vs 0) rfl s.toks)) (by show vs.length ≤ 2 ^ 24; exact om114 hb)

/-! len, truth -/
theorem do_lenN {n : Nat} (a : At b ps L H l s) (hl : LsAt H x vs) (hn : vs.length = n) (hb : n < 100000) (h : ∀ t s', At b ps L H l s' → Q (.int n t) s') : wpAny (model prog w) A (call (.builtin "len") [.ref x]) Q E s :=
  len_list (hl.isList a) (by simp only [List.size_toArray]; exact om256 hn hb) (by simp only [List.size_toArray, hn]; exact h _ _ (a.toks _))
theorem do_len (a : At b ps L H l s) (hl : LsAt H x vs) (hb : vs.length < 100000) (h : ∀ t s', At b ps L H l s' → Q (.int vs.length t) s') : wpAny (model prog w) A (call (.builtin "len") [.ref x]) Q E s :=
  len_list (hl.isList a) (by simp only [List.size_toArray]; exact om112 hb) (by simp only [List.size_toArray]; exact h _ _ (a.toks _))
theorem do_lenT (a : At b ps L H l s) (hl : TpAt H x vs) (hb : vs.length < 100000) (h : ∀ t s', At b ps L H l s' → Q (.int vs.length t) s') : wpAny (model prog w) A (call (.builtin "len") [.ref x]) Q E s :=
  len_tuple (hl.isTup a) (by simp only [List.size_toArray]; exact om112 hb) (by simp only [List.size_toArray]; exact h _ _ (a.toks _))
theorem tr_list {Q : Bool → Shared → Prop} (a : At b ps L H l s) (hl : LsAt H x vs) (hb : vs.length < 100000) (h : ∀ s', At b ps L H l s' → Q (!vs.isEmpty) s') : wpAny (model prog w) A (truthy (.ref x)) Q E s :=
  wpAny_truthy_list (hl.isList a) (by simp only [List.size_toArray]; exact om112 hb) (by have := h _ (a.toks (s.toks + 1 + 1)); simpa using this)

/-! a method of a list -/
theorem ev_method_ls {o : Expr} {name : Str} {apos pos : Pos} {args : List Expr} {id : String} (hslot : Slot "list" name id) (hty : typeOf (.builtin id) = pure (.type "method_descriptor"))
    (h : wpAny (model prog w) A (eval o env) (fun ov s₁ => ∃ b ps L H l x vs, ov = .ref x ∧ At b ps L H l s₁ ∧ LsAt H x vs ∧ wpAny (model prog w) A (callWith pos (.builtin id) [ov] (backTo pos (starEach args env)) []) Q E s₁) E s)
    (h1 : attributeBase o name env (eval o env) = eval o env := by rfl)
    (h2 : ((backTo pos (starEach args env)).all (fun x => !x.1) && (backToKw pos (keywordEach [] env)).all (fun x => x.1.isSome) && decide ((args.length + ([] : List Keyword).length + if ([] : List Keyword).isEmpty then 0 else 1) < 30)) = true := by rfl)
    (h3 : (apos.endLine == pos.line) = true := by rfl) :
    wpAny (model prog w) A (eval (.Call (.Attribute o name apos) args [] pos) env) Q E s := by
  refine wpAny_Call_method h1 h2 h3 PySem.F.plainAttrs_list hslot hty (wpAny_mono h (fun ov s₁ h₁ => ?_) fun _ _ x => x)
  obtain ⟨b, ps, L, H, l, x, vs, rfl, a, hl, h₁⟩ := h₁
  refine ⟨(hl.isList a).typeIs, fun y hy => ?_, h₁⟩
  cases hy
  obtain ⟨n, e⟩ := hl
  exact ⟨_, a.get e, rfl⟩
end
end Mine
namespace Mine
section
variable {prog : Program} {w : World} {M : Model} {A : Around} {E : Value → Shared → Prop} {K : Frag} {mg mb : Str → Option Value}
  {b s : Shared} {ps : List Prot} {H : HP} {L x : Addr} {l : List (Str × Value)} {env : Env} {ns : List (Str × NameKind)} {cs : List (Str × Addr)} {Q : Value → Shared → Prop} {vs : List Value} {v : Value}
theorem ev_call_b {x : Str} {np pos : Pos} {e : Expr} {rest : List Expr} {id : String} (C : Ctx K b mg mb) (a : At b ps L H l s) (he : EnvIs env L ns cs) (e1 : nsIn K mainGlobals x = some none) (e2 : bootBuiltins x = some (.builtin id))
    (h : wpAny M A (spliced (backTo pos (starEach (e :: rest) env))) (fun vs s₁ => wpAny M A (call (.builtin id) vs) Q E s₁) E s)
    (hs : starEach (e :: rest) env = (false, eval e env) :: starEach rest env := by rfl) (hpl : (backTo pos (starEach rest env)).any (·.1) = false := by rfl)
    (hn : x ≠ ("__name__" : Str) := by decide) (hl : ns.lookup x = some .globalImplicit := by kernel_rfl!) (hd : (x == ("__debug__" : Str)) = false := by kernel_rfl!) :
    wpAny M A (eval (.Call (.Name x np) (e :: rest) [] pos) env) Q E s :=
  wpAny_Call_NameR (ev_builtin C a he e1 e2 (PyProof.Rows.callWith_builtin1 h hs hpl) hn hl hd)
theorem ev_call_t {x : Str} {np pos : Pos} {e : Expr} {rest : List Expr} {T : String} (C : Ctx K b mg mb) (a : At b ps L H l s) (he : EnvIs env L ns cs) (e1 : nsIn K mainGlobals x = some none) (e2 : bootBuiltins x = some (.type T))
    (h : wpAny M A (spliced (backTo pos (starEach (e :: rest) env))) (fun vs s₁ => wpAny M A (call (.type T) vs) Q E s₁) E s)
    (hs : starEach (e :: rest) env = (false, eval e env) :: starEach rest env := by rfl) (hpl : (backTo pos (starEach rest env)).any (·.1) = false := by rfl)
    (hn : x ≠ ("__name__" : Str) := by decide) (hl : ns.lookup x = some .globalImplicit := by kernel_rfl!) (hd : (x == ("__debug__" : Str)) = false := by kernel_rfl!) :
    wpAny M A (eval (.Call (.Name x np) (e :: rest) [] pos) env) Q E s :=
  wpAny_Call_NameR (ev_builtin C a he e1 e2 (PyProof.Rows.callWith_type1 h hs hpl) hn hl hd)
/-- x.append(e) -/
theorem ev_append {o elt : Expr} {apos pos : Pos}
    (h : wpAny (model prog w) A (eval o env) (fun ov s₁ => ∃ b ps L H l x vs, ov = .ref x ∧ At b ps L H l s₁ ∧ LsAt H x vs ∧ wpAny (model prog w) A (eval elt env) (fun y s₂ => wpAny (model prog w) A (call (.builtin "list.append") [.ref x, y]) Q E s₂) E s₁) E s)
    (h1 : attributeBase o (Str.ofString "append") env (eval o env) = eval o env := by rfl) (h3 : (apos.endLine == pos.line) = true := by rfl)
    (h4 : backTo pos (starEach [elt] env) = [(false, eval elt env)] := by rfl) :
    wpAny (model prog w) A (eval (.Call (.Attribute o (Str.ofString "append") apos) [elt] [] pos) env) Q E s := by
  refine wpAny_Call_append h1 (by rw [h4]; rfl) h3 h4 (wpAny_mono h (fun ov s₁ h₁ => ?_) fun _ _ x => x)
  obtain ⟨b, ps, L, H, l, x, vs, rfl, a, ⟨n, hn⟩, h₁⟩ := h₁
  exact ⟨x, vs.toArray, rfl, ⟨_, _, a.get hn, rfl, rfl, rfl⟩, h₁⟩
/-- x.pop() -/
theorem ev_pop {o : Expr} {apos pos : Pos}
    (h : wpAny (model prog w) A (eval o env) (fun ov s₁ => ∃ b ps L H l x vs, ov = .ref x ∧ At b ps L H l s₁ ∧ LsAt H x vs ∧ wpAny (model prog w) A (call (.builtin "list.pop") [.ref x]) Q E s₁) E s)
    (h1 : attributeBase o (Str.ofString "pop") env (eval o env) = eval o env := by rfl) (h3 : (apos.endLine == pos.line) = true := by rfl) :
    wpAny (model prog w) A (eval (.Call (.Attribute o (Str.ofString "pop") apos) [] [] pos) env) Q E s := by
  refine ev_method_ls PySem.F.slot_list_pop PySem.F.type_list_pop (wpAny_mono h (fun ov s₁ h₁ => ?_) fun _ _ x => x) h1 rfl h3
  obtain ⟨b, ps, L, H, l, x, vs, rfl, a, hl, h₁⟩ := h₁
  exact ⟨b, ps, L, H, l, x, vs, rfl, a, hl, callWith_method0 h₁⟩
end
end Mine

namespace Mine
/-- a pair of ints as a tuple -/
noncomputable def PrAt (H : HP) (a : Addr) (p : Int × Int) : Prop := ∃ t u, TpAt H a [.int p.1 t, .int p.2 u]
/-- the order of pairs -/
abbrev plt (p q : Int × Int) : Prop := p.1 < q.1 ∨ (p.1 = q.1 ∧ p.2 < q.2)

section
variable {prog : Program} {w : World} {A : Around} {E : Value → Shared → Prop}
  {b s : Shared} {ps : List Prot} {H : HP} {L x y : Addr} {l : List (Str × Value)} {Q : Value → Shared → Prop} {p q : Int × Int}
theorem PrAt.upd {a : Addr} {o : Obj} (h : PrAt H a p) (hn : a ≠ x) : PrAt (upd H x o) a p := let ⟨t, u, e⟩ := h; ⟨t, u, e.upd hn⟩
theorem PrAt.fresh {a : Addr} {o : Obj} (h : PrAt H a p) (hn : H x = none) : PrAt (Mine.upd H x o) a p := let ⟨t, u, e⟩ := h; ⟨t, u, e.fresh hn⟩
theorem tuple_lt_tree {P : Fin → Shared → Prop} (a : At b ps L H l s) (hx : PrAt H x p) (hy : PrAt H y q) (h : P (.done (.ret (.bool (decide (plt p q))))) s) :
    wpAny (model prog w) A (Builtin.«tuple.__lt__» ⟨[.ref x, .ref y], []⟩) P E s := by
  obtain ⟨t1, u1, n1, e1⟩ := hx
  obtain ⟨t2, u2, n2, e2⟩ := hy
  have g1 := a.get e1
  have g2 := a.get e2
  show wpAny _ _ (isInstance (.ref y) (.type "tuple") >>= _) _ _ s
  refine wpAny_bind (wpAny_isInstance (T := "tuple") ⟨_, g2, rfl⟩ isSubtype_tuple_tuple ?_)
  simp only [Bool.not_true, Bool.false_eq_true, if_false]
  refine wpAny_bind (wpAny_tupleItemsOf g1 rfl ?_)
  refine wpAny_bind (wpAny_tupleItemsOf g2 rfl ?_)
  refine wpAny_bind ?_
  simp only [List.zip_cons_cons, List.zip_nil_right, List.forIn_cons, List.forIn_nil]
  refine wpAny_bind (wpAny_bind (wpAny_eqBool_int ?_))
  by_cases h1 : p.1 = q.1
  · have hb : (p.1 == q.1) = true := by simp [h1]
    simp only [hb, Bool.not_true, Bool.false_eq_true, if_false]
    refine wpAny_pure (wpAny_bind (wpAny_bind (wpAny_eqBool_int ?_)))
    by_cases h2 : p.2 = q.2
    · have hb2 : (p.2 == q.2) = true := by simp [h2]
      simp only [hb2, Bool.not_true, Bool.false_eq_true, if_false]
      refine wpAny_pure (wpAny_pure (wpAny_pure ?_))
      have : decide (plt p q) = false := by simp [plt, h1, h2]
      rw [this] at h
      exact h
    · have hb2 : (p.2 == q.2) = false := by simp [h2]
      simp only [hb2, Bool.not_false, if_true]
      refine wpAny_bind (wpAny_rule (wpAny_bind (lt_int (wpAny_bind (wpAny_pure (wpAny_pure (wpAny_pure (wpAny_pure ?_))))))))
      have : decide (plt p q) = decide (p.2 < q.2) := by simp [plt, h1]
      rw [this] at h
      exact h
  · have hb : (p.1 == q.1) = false := by simp [h1]
    simp only [hb, Bool.not_false, if_true]
    refine wpAny_bind (wpAny_rule (wpAny_bind (lt_int (wpAny_bind (wpAny_pure (wpAny_pure (wpAny_pure (wpAny_pure ?_))))))))
    have : decide (plt p q) = decide (p.1 < q.1) := by simp [plt, h1]
    rw [this] at h
    exact h
theorem cmp_lt_pair (a : At b ps L H l s) (hu : A.units < cLine) (hx : PrAt H x p) (hy : PrAt H y q) (h : Q (.bool (decide (plt p q))) s) :
    wpAny (model prog w) A (compareOp .Lt (.ref x) (.ref y)) Q E s := by
  obtain ⟨t1, u1, n1, e1⟩ := id hx
  obtain ⟨t2, u2, n2, e2⟩ := id hy
  refine cmp_ofLt (wpAny_richCompare_same_room (T := "tuple") ⟨_, a.get e1, rfl⟩ ⟨_, a.get e2, rfl⟩ PySem.F.slot_tuple_lt
    (wpAny_call_entry PySem.F.slot_tuple_lt ⟨_, a.get e1, rfl⟩ PySem.F.entry_tuple_lt ?_ (PySem.F.args_tuple_lt_2 _ _)) hu)
  exact tuple_lt_tree a hx hy ⟨_, rfl, by simp, h⟩
end
end Mine

namespace Mine
section
variable {prog : Program} {w : World} {A : Around} {E : Value → Shared → Prop}
  {b s : Shared} {ps : List Prot} {H : HP} {L : Addr} {l : List (Str × Value)} {env : Env} {Q : Flow → Shared → Prop} {body orelse : List Stmt} {test target iter : Expr} {pos : Pos}

theorem At.drop {p : Prot} (a : At b (p :: ps) L H l s) : At b ps L H l s := by
  obtain ⟨m, hp, hne, hm⟩ := a
  refine ⟨m, ⟨hp.keep, hp.sub, fun q hq => ?_, hp.gens, hp.os⟩, fun q hq => hne q (.tail _ hq), hm⟩
  rcases List.mem_cons.mp hq with rfl | hq
  · exact hp.prot _ (.head _)
  · exact hp.prot q (.tail _ (.tail _ hq))
theorem At.aside_get {x : Addr} {o : Obj} (a : At b (.ob x o :: ps) L H l s) : s.heap.get? x = some o := by
  obtain ⟨m, hp, hne, hm⟩ := a
  exact (hp.prot _ (.tail _ (.head _))).1
theorem At.aside_none {x : Addr} {o : Obj} (a : At b (.ob x o :: ps) L H l s) : H x = none := by
  obtain ⟨m, hp, hne, hm⟩ := a
  exact (hp.prot _ (.tail _ (.head _))).2.2
/-- the object kept aside is changed, all else stays -/
theorem At.aside_set {x : Addr} {o o' : Obj} {s' : Shared} (a : At b (.ob x o :: ps) L H l s) (hps : ∀ p ∈ ps, p.at ≠ x) (ho : s'.heap.get? x = some o')
    (hk : ∀ y oy, y ≠ x → s.heap.get? y = some oy → s'.heap.get? y = some oy) (hg : s'.gens = s.gens) (hos : s'.os = s.os) : At b (.ob x o' :: ps) L H l s' := by
  obtain ⟨m, hp, hne, hm⟩ := a
  have hx := hp.prot _ (.tail _ (.head _))
  have hLx : L ≠ x := fun e => hne _ (.head _) e.symm
  have h1 : Hp b (.fr L m :: ps) H s' := by
    refine Hp.step (s := s) (H := H) ⟨hp.keep, hp.sub, fun q hq => ?_, hp.gens, hp.os⟩ (· = x) (fun y hy => hy ▸ ⟨hx.2.1, fun p hpp => ?_⟩) (fun y oy hy e => hk y oy hy e) (fun y oy e => .inl ⟨fun hy => ?_, e⟩) hg hos
    · rcases List.mem_cons.mp hq with rfl | hq
      · exact hp.prot _ (.head _)
      · exact hp.prot q (.tail _ (.tail _ hq))
    · rcases List.mem_cons.mp hpp with rfl | hpp
      · exact hLx
      · exact hps p hpp
    · subst hy; rw [show H y = none from hx.2.2] at e; cases e
  refine ⟨m, ⟨h1.keep, h1.sub, fun q hq => ?_, h1.gens, h1.os⟩, fun q hq => ?_, hm⟩
  · rcases List.mem_cons.mp hq with rfl | hq
    · exact h1.prot _ (.head _)
    · rcases List.mem_cons.mp hq with rfl | hq
      · exact ⟨ho, hx.2.1, hx.2.2⟩
      · exact h1.prot q (.tail _ hq)
  · rcases List.mem_cons.mp hq with rfl | hq
    · exact fun e => hLx e.symm
    · exact hne q (.tail _ hq)
/-- a new object is put aside -/
theorem At.aside_new {x : Addr} {o : Obj} {s' : Shared} (a : At b ps L H l s) (hx : s.heap.get? x = none) (ho : s'.heap.get? x = some o)
    (hk : ∀ y oy, y ≠ x → s.heap.get? y = some oy → s'.heap.get? y = some oy) (hg : s'.gens = s.gens) (hos : s'.os = s.os) : At b (.ob x o :: ps) L H l s' := by
  obtain ⟨m, hp, hne, hm⟩ := a
  have h1 := hp.keepNew hx ho hk hg hos
  have hLx := hp.prot_ne hx
  refine ⟨m, ⟨h1.keep, h1.sub, fun q hq => ?_, h1.gens, h1.os⟩, fun q hq => ?_, hm⟩
  · rcases List.mem_cons.mp hq with rfl | hq
    · exact h1.prot _ (.tail _ (.head _))
    · rcases List.mem_cons.mp hq with rfl | hq
      · exact h1.prot _ (.head _)
      · exact h1.prot q (.tail _ (.tail _ hq))
  · rcases List.mem_cons.mp hq with rfl | hq
    · exact fun e => hLx _ (.head _) e.symm
    · exact hne q hq
theorem At.ps_ne {x : Addr} (a : At b ps L H l s) (hx : s.heap.get? x = none) : ∀ p ∈ ps, p.at ≠ x := a.hp.prot_ne hx

/-! while -/
theorem ex_while (I : Nat → Shared → Prop)
    (turn : ∀ n s, I n s → wpAny (model prog w) A (isTrue test env (eval test env)) (fun v s₂ => if v = true then
        wpAny (model prog w) A (execs body env) (fun f s₃ => match f with
          | .next => ∃ m, m < n ∧ I m s₃
          | .cont => ∃ m, m < n ∧ I m s₃
          | .brk => Q .next s₃
          | .ret v => Q (.ret v) s₃) NoE s₂
      else wpAny (model prog w) A (execs orelse env) Q NoE s₂) NoE s)
    (n : Nat) (h : I n s) : wpAny (model prog w) A (exec (.While test body orelse pos) env) Q E s := by
  refine wpAny_While (codeAny_whileLoop I (fun n s hI => ?_) n h)
  refine wpAny_mono (turn n s hI) (fun v s₂ h₂ => ?_) fun _ _ x => x.elim
  split
  · rename_i hv
    rw [if_pos hv] at h₂
    exact noE (wpAny_mono h₂ (fun f s₃ h₃ => h₃) fun _ _ x => x)
  · rename_i hv
    rw [if_neg hv] at h₂
    exact noE (wpAny_mono h₂ (fun f s₃ h₃ => h₃) fun _ _ x => x)

/-- a while with one way on -/
theorem ex_whileP (I : Nat → Shared → Prop) (P : Shared → Prop)
    (turn : ∀ n s, I n s → wpAny (model prog w) A (isTrue test env (eval test env)) (fun v s₂ => if v = true then
        wpAny (model prog w) A (execs body env) (fun f s₃ => match f with
          | .next => ∃ m, m < n ∧ I m s₃
          | .cont => ∃ m, m < n ∧ I m s₃
          | .brk => P s₃
          | .ret v => Q (.ret v) s₃) NoE s₂
      else P s₂) NoE s)
    (n : Nat) (h : I n s) (post : ∀ s, P s → Q .next s) : wpAny (model prog w) A (exec (.While test body [] pos) env) Q E s := by
  refine ex_while I (fun n s hI => wpAny_mono (turn n s hI) (fun v s₂ h₂ => ?_) fun _ _ x => x) n h
  split
  · rename_i hv
    rw [if_pos hv] at h₂
    refine wpAny_mono h₂ (fun f s₃ h₃ => ?_) fun _ _ x => x
    cases f with
    | next => exact h₃
    | cont => exact h₃
    | brk => exact post _ h₃
    | ret v => exact h₃
  · rename_i hv
    rw [if_neg hv] at h₂
    exact wpAny_execs_nil (post _ h₂)

/-! for, over anything that walks -/
noncomputable def ForPost (b : Shared) (ps : List Prot) (L : Addr) (J : HP → List (Str × Value) → Prop) (Q : Flow → Shared → Prop) (f : Flow) (s : Shared) : Prop := match f with
  | .next => ∃ H l, At b ps L H l s ∧ J H l
  | .cont => ∃ H l, At b ps L H l s ∧ J H l
  | .brk => Q .next s
  | .ret v => Q (.ret v) s
theorem loop_walk {I : Addr} {fp : List Addr} {n : Nat} {P : Nat → Value → Prop} {St : Nat → Heap → Prop} {o₀ : Obj} (W : Walks prog w A I fp [I] n P St) (hI : ∀ i h, St i h → ∃ o, h.get? I = some o) (G : HP)
    (J : Nat → HP → List (Str × Value) → Prop) (hfp : ∀ i H l, J i H l → ∀ y ∈ fp, y ≠ I → ∃ o, G y = some o ∧ H y = some o)
    (hgo : ∀ i v (s : Shared) (Q' : Unit → Shared → Prop), St i s.heap → Q' () s → wpAny (model prog w) A (letOwnedTupleGo target (.ref I) v) Q' NoE s)
    (a : At b (.ob I o₀ :: ps) L H l s) (hps : ∀ p ∈ ps, p.at ≠ I) (h0 : J 0 H l) (hst : St 0 s.heap)
    (turn : ∀ i v s o H l, i < n → P i v → J i H l → At b (.ob I o :: ps) L H l s → wpAny (model prog w) A (assign target env v) (fun _ s₂ => wpAny (model prog w) A (execs body env) (ForPost b (.ob I o :: ps) L (J (i + 1)) Q) NoE s₂) NoE s)
    (done : ∀ s H l, J n H l → At b ps L H l s → wpAny (model prog w) A (execs orelse env) Q NoE s) :
    codeAny (model prog w) A (.forLoop target (.ref I) body orelse env) (fun r s' => match r with | .ok f => Q f s' | .error e => cameBackBy (model prog w) A env E e s') s := by
  refine codeAny_forLoop_any (fun k s => ∃ i H l o, k = n + 1 - i ∧ i ≤ n ∧ St i s.heap ∧ At b (.ob I o :: ps) L H l s ∧ J i H l) ?_ (n + 1) ⟨0, H, l, o₀, rfl, Nat.zero_le _, hst, a, h0⟩
  rintro k s ⟨i, H, l, o, rfl, hi, hst, a, hJ⟩
  by_cases hlt : i < n
  · refine W.item i s _ _ hlt hst fun v h' tk hP hst' hk' => ?_
    obtain ⟨o', ho'⟩ := hI _ _ hst'
    have a' : At b (.ob I o' :: ps) L H l { s with heap := h', toks := tk } := a.aside_set hps ho' (fun y oy hy e => hk' y oy (by simpa using hy) e) rfl rfl
    refine noE (hgo (i + 1) v _ _ hst' ?_)
    refine noE (wpAny_mono (turn i v _ o' H l hlt hP hJ a') (fun _ s₂ h₂ => ?_) fun _ _ x => x)
    refine noE (wpAny_mono h₂ (fun f s₃ h₃ => ?_) fun _ _ x => x)
    have fin : (∃ H l, At b (.ob I o' :: ps) L H l s₃ ∧ J (i + 1) H l) → ∃ m, m < n + 1 - i ∧ ∃ i H l o, m = n + 1 - i ∧ i ≤ n ∧ St i s₃.heap ∧ At b (.ob I o :: ps) L H l s₃ ∧ J i H l := by
      rintro ⟨H', l', a₃, hJ'⟩
      refine ⟨n + 1 - (i + 1), by exact om287 hlt, i + 1, H', l', o', rfl, hlt, W.frame _ _ _ hst' fun y hy oy e => ?_, a₃, hJ'⟩
      by_cases hyI : y = I
      · subst hyI
        rw [show h'.get? y = some oy from e] at ho'; cases ho'
        exact a₃.aside_get
      · obtain ⟨og, hg, hH⟩ := hfp i H l hJ y hy hyI
        obtain ⟨og', hg', hH'⟩ := hfp (i + 1) H' l' hJ' y hy hyI
        have e1 : h'.get? y = some og := a'.get hH
        rw [show h'.get? y = some oy from e] at e1; cases e1
        rw [hg] at hg'; cases hg'
        exact a₃.get hH'
    cases f with
    | next => exact fin h₃
    | cont => exact fin h₃
    | brk => exact h₃
    | ret v => exact h₃
  · have hin : i = n := by exact om278 hi hlt
    subst hin
    refine W.done s _ _ hst fun h' tk hk' => ?_
    refine noE (wpAny_mono (done _ H l hJ ?_) (fun f s₃ h₃ => h₃) fun _ _ x => x)
    have hI' := a.aside_get
    obtain ⟨m, hp, hne, hm⟩ := a
    have hx := hp.prot _ (.tail _ (.head _))
    refine ⟨m, ?_, fun p hpp => hne p (.tail _ hpp), hm⟩
    refine Hp.step (s := s) (H := H) ⟨hp.keep, hp.sub, fun q hq => ?_, hp.gens, hp.os⟩ (· = I) (fun y hy => hy ▸ ⟨hx.2.1, fun p hpp => ?_⟩) (fun y oy hy e => hk' y oy (by simpa using hy) e) (fun y oy e => .inl ⟨fun hy => ?_, e⟩) rfl rfl
    · rcases List.mem_cons.mp hq with rfl | hq
      · exact hp.prot _ (.head _)
      · exact hp.prot q (.tail _ (.tail _ hq))
    · rcases List.mem_cons.mp hpp with rfl | hpp
      · exact fun e => hne _ (.head _) e.symm
      · exact hps p hpp
    · subst hy; rw [show H y = none from hx.2.2] at e; cases e

theorem go_name {x : Str} {px : Pos} {I : Addr} {St : Nat → Heap → Prop} : ∀ i v (s : Shared) (Q' : Unit → Shared → Prop), St i s.heap → Q' () s → wpAny (model prog w) A (letOwnedTupleGo (.Name x px) (.ref I) v) Q' NoE s :=
  fun _ _ _ _ _ h => wpAny_pure h

/-- for over a list that stays -/
theorem for_list {x : Addr} {vs : List Value} (J : Nat → HP → List (Str × Value) → Prop) (hh : A.handled = none) (a : At b ps L H l s) (h0 : J 0 H l) {ol : Obj} (hl : H x = some ol) (hvs : ∃ n, ol = lsO vs n) (hJ : ∀ i H l, J i H l → H x = some ol)
    (turn : ∀ i v s ps' H l, vs[i]? = some v → J i H l → At b ps' L H l s → (∀ {H l s}, At b ps' L H l s → At b ps L H l s) → wpAny (model prog w) A (assign target env v) (fun _ s₂ => wpAny (model prog w) A (execs body env) (ForPost b ps' L (J (i + 1)) Q) NoE s₂) NoE s)
    (done : ∀ s H l, J vs.length H l → At b ps L H l s → wpAny (model prog w) A (execs orelse env) Q NoE s)
    (hgo : ∀ I i v (s : Shared) (Q' : Unit → Shared → Prop), s.heap.IsListIter I x i → Q' () s → wpAny (model prog w) A (letOwnedTupleGo target (.ref I) v) Q' NoE s) :
    wpAny (model prog w) A (pyIter (.ref x)) (fun it s₂ => codeAny (model prog w) A (.forLoop target it body orelse env) (fun r s' => match r with | .ok f => Q f s' | .error e => cameBackBy (model prog w) A env E e s') s₂) E s := by
  obtain ⟨n, rfl⟩ := hvs
  have hls : LsAt H x vs := ⟨n, hl⟩
  have hx := a.get hl
  have hxI : x ≠ s.heap.objs.size := Nat.ne_of_lt (Heap.lt_size hx)
  refine wpAny_pyIter_list (hls.isList a) ?_
  have W := Walks.list (prog := prog) (w := w) hh s.heap.objs.size x hxI vs.toArray
  have hn := get_size s.heap
  have a' : At b (.ob s.heap.objs.size { cls := .type "list_iterator", data := .fields #[.ref x, .int 0 0] } :: ps) L H l { s with heap := s.heap.push { cls := .type "list_iterator", data := .fields #[.ref x, .int 0 0] } } :=
    a.aside_new hn (Heap.get?_push_size _ rfl) (fun y oy _ e => Heap.get?_push_of_some _ e) rfl rfl
  rw [List.size_toArray] at W
  refine loop_walk W (fun i h st => ?_) (fun y => if y = x then some (lsO vs n) else none) J (fun i H l hj y hy hyI => ?_) (fun i v s Q' st q => hgo _ i v s Q' st.1 q) a' (a.ps_ne hn) h0 ⟨⟨_, Heap.get?_push_size _ rfl, rfl, rfl⟩, ?_⟩ ?_ done
  · obtain ⟨o, ho, _⟩ := st.1; exact ⟨o, ho⟩
  · have : y = x := by simpa [hyI] using hy
    subst this
    exact ⟨lsO vs n, by simp, hJ i H l hj⟩
  · exact ⟨_, Heap.get?_push_of_some _ hx, rfl, _, rfl⟩
  · intro i v s₁ o H₁ l₁ hi hP hJ₁ a₁
    exact turn i v s₁ _ H₁ l₁ (by simpa using hP) hJ₁ a₁ (fun a => a.drop)
theorem for_tuple {x : Addr} {vs : List Value} (J : Nat → HP → List (Str × Value) → Prop) (hh : A.handled = none) (a : At b ps L H l s) (h0 : J 0 H l) {ol : Obj} (hl : H x = some ol) (hvs : ∃ n, ol = tpO vs n) (hJ : ∀ i H l, J i H l → H x = some ol)
    (turn : ∀ i v s ps' H l, vs[i]? = some v → J i H l → At b ps' L H l s → (∀ {H l s}, At b ps' L H l s → At b ps L H l s) → wpAny (model prog w) A (assign target env v) (fun _ s₂ => wpAny (model prog w) A (execs body env) (ForPost b ps' L (J (i + 1)) Q) NoE s₂) NoE s)
    (done : ∀ s H l, J vs.length H l → At b ps L H l s → wpAny (model prog w) A (execs orelse env) Q NoE s)
    (hgo : ∀ I i v (s : Shared) (Q' : Unit → Shared → Prop), s.heap.IsTupleIter I x i → Q' () s → wpAny (model prog w) A (letOwnedTupleGo target (.ref I) v) Q' NoE s) :
    wpAny (model prog w) A (pyIter (.ref x)) (fun it s₂ => codeAny (model prog w) A (.forLoop target it body orelse env) (fun r s' => match r with | .ok f => Q f s' | .error e => cameBackBy (model prog w) A env E e s') s₂) E s := by
  obtain ⟨n, rfl⟩ := hvs
  have hls : TpAt H x vs := ⟨n, hl⟩
  have hx := a.get hl
  have hxI : x ≠ s.heap.objs.size := Nat.ne_of_lt (Heap.lt_size hx)
  refine wpAny_pyIter_tuple (hls.isTuple a) ?_
  have W := Walks.tuple (prog := prog) (w := w) hh s.heap.objs.size x hxI vs.toArray
  have hn := get_size s.heap
  have a' : At b (.ob s.heap.objs.size { cls := .type "tuple_iterator", data := .fields #[.ref x, .int 0 0] } :: ps) L H l { s with heap := s.heap.push { cls := .type "tuple_iterator", data := .fields #[.ref x, .int 0 0] } } :=
    a.aside_new hn (Heap.get?_push_size _ rfl) (fun y oy _ e => Heap.get?_push_of_some _ e) rfl rfl
  rw [List.size_toArray] at W
  refine loop_walk W (fun i h st => ?_) (fun y => if y = x then some (tpO vs n) else none) J (fun i H l hj y hy hyI => ?_) (fun i v s Q' st q => hgo _ i v s Q' st.1 q) a' (a.ps_ne hn) h0 ⟨⟨_, Heap.get?_push_size _ rfl, rfl, rfl⟩, ?_⟩ ?_ done
  · obtain ⟨o, ho, _⟩ := st.1; exact ⟨o, ho⟩
  · have : y = x := by simpa [hyI] using hy
    subst this
    exact ⟨tpO vs n, by simp, hJ i H l hj⟩
  · exact ⟨_, Heap.get?_push_of_some _ hx, rfl, _, rfl⟩
  · intro i v s₁ o H₁ l₁ hi hP hJ₁ a₁
    exact turn i v s₁ _ H₁ l₁ (by simpa using hP) hJ₁ a₁ (fun a => a.drop)
end
end Mine

namespace Mine
/-! the names of the top -/
variable (w : World)
theorem g_len : nsIn (hd.heap_1 w.params) mainGlobals "len" = some none := by kernel_rfl!
theorem g_range : nsIn (hd.heap_1 w.params) mainGlobals "range" = some none := by kernel_rfl!
theorem g_sum : nsIn (hd.heap_1 w.params) mainGlobals "sum" = some none := by kernel_rfl!
theorem g_max : nsIn (hd.heap_1 w.params) mainGlobals "max" = some none := by kernel_rfl!
theorem g_sorted : nsIn (hd.heap_1 w.params) mainGlobals "sorted" = some none := by kernel_rfl!
theorem g_zip : nsIn (hd.heap_1 w.params) mainGlobals "zip" = some none := by kernel_rfl!
theorem g_tuple : nsIn (hd.heap_1 w.params) mainGlobals "tuple" = some none := by kernel_rfl!
theorem g_bool : nsIn (hd.heap_1 w.params) mainGlobals "bool" = some none := by kernel_rfl!
theorem g_iter : nsIn (hd.heap_1 w.params) mainGlobals "iter" = some none := by kernel_rfl!
theorem g_set : nsIn (hd.heap_1 w.params) mainGlobals "set" = some none := by kernel_rfl!
theorem g_StopIteration : nsIn (hd.heap_1 w.params) mainGlobals "StopIteration" = some none := by kernel_rfl!
theorem g_heappush : nsIn (hd.heap_1 w.params) mainGlobals "heappush" = some (some (.ref 28)) := by kernel_rfl!
theorem g_heappop : nsIn (hd.heap_1 w.params) mainGlobals "heappop" = some (some (.ref 35)) := by kernel_rfl!
theorem g_heapreplace : nsIn (hd.heap_1 w.params) mainGlobals "heapreplace" = some (some (.ref 42)) := by kernel_rfl!
theorem g_siftdown : nsIn (hd.heap_1 w.params) mainGlobals "_siftdown" = some (some (.ref 49)) := by kernel_rfl!
theorem g_siftup : nsIn (hd.heap_1 w.params) mainGlobals "_siftup" = some (some (.ref 56)) := by kernel_rfl!
theorem g_NodeInfo : nsIn (hd.heap_1 w.params) mainGlobals "_NodeInfo" = some (some (.ref 75)) := by kernel_rfl!
theorem g_Sorter : nsIn (hd.heap_1 w.params) mainGlobals "TopologicalSorter" = some (some (.ref 172)) := by kernel_rfl!
theorem g_dealt : nsIn (hd.heap_1 w.params) mainGlobals "_law_dealt" = some (some (.ref 181)) := by kernel_rfl!
theorem g_made : nsIn (hd.heap_1 w.params) mainGlobals "_law_made" = some (some (.ref 188)) := by kernel_rfl!
theorem g_rules : nsIn (hd.heap_1 w.params) mainGlobals "_law_rules" = some (some (.ref 195)) := by kernel_rfl!
theorem g_grown : nsIn (hd.heap_1 w.params) mainGlobals "_law_grown" = some (some (.ref 202)) := by kernel_rfl!
theorem g_forward : nsIn (hd.heap_1 w.params) mainGlobals "_law_forward" = some (some (.ref 209)) := by kernel_rfl!
theorem g_backward : nsIn (hd.heap_1 w.params) mainGlobals "_law_backward" = some (some (.ref 216)) := by kernel_rfl!
end Mine

namespace Mine
/-! made objects: attributes, methods, making -/
/-- all of a heap but two addresses, as a ledger -/
noncomputable def allBut (h : Heap) (x L : Addr) : List (Addr × Obj) := (List.range h.objs.size).filterMap fun a => if a = x ∨ a = L then none else (h.get? a).map fun o => (a, o)
theorem mem_allBut {h : Heap} {x L a : Addr} {o : Obj} (hg : h.get? a = some o) (hx : a ≠ x) (hL : a ≠ L) : (a, o) ∈ allBut h x L := by
  refine List.mem_filterMap.mpr ⟨a, List.mem_range.mpr (Heap.lt_size hg), ?_⟩
  rw [if_neg (by rintro (e | e) <;> contradiction), hg]; rfl
theorem of_allBut {h : Heap} {x L : Addr} {p : Addr × Obj} (hp : p ∈ allBut h x L) : h.get? p.1 = some p.2 ∧ p.1 ≠ x ∧ p.1 ≠ L := by
  obtain ⟨a, _, e⟩ := List.mem_filterMap.mp hp
  split at e
  · cases e
  · rename_i hn
    cases hg : h.get? a with
    | none => rw [hg] at e; cases e
    | some o => rw [hg] at e; cases e; exact ⟨hg, fun e => hn (.inl e), fun e => hn (.inr e)⟩
noncomputable def noHeap : Heap := { objs := #[] }
theorem noHeap_get (a : Addr) : noHeap.get? a = none := by
  cases e : noHeap.get? a with
  | none => rfl
  | some o => exact absurd (Heap.lt_size e) (Nat.not_lt_zero _)

section
variable {prog : Program} {w : World} {M : Model} {A : Around} {E : Value → Shared → Prop} {K : Frag} {mg mb : Str → Option Value}
  {b s : Shared} {ps : List Prot} {H : HP} {L x dx C : Addr} {l : List (Str × Value)} {env : Env} {ns : List (Str × NameKind)} {cs : List (Str × Addr)} {Q : Value → Shared → Prop} {vs : List Value} {v : Value}

theorem At.led {ox : Obj} (a : At b ps L H l s) (hx : H x = some ox) : ∃ m post, Fr noHeap L s.heap m ∧ News noHeap L s.heap ([] ++ (x, ox) :: post) ∧ (∀ p ∈ post, p.1 ≠ x) ∧
    ∀ h' ox' t, Fr noHeap L h' m → News noHeap L h' ([] ++ (x, ox') :: post) → At b ps L (upd H x ox') l { s with heap := h', toks := t } := by
  have hget := a.get hx
  obtain ⟨m, hp, hne, hm⟩ := a
  have hL := hp.prot _ (.head _)
  have hxL : x ≠ L := by rintro rfl; rw [show H x = none from hL.2.2] at hx; cases hx
  refine ⟨m, allBut s.heap x L, ⟨hL.1, fun c o e => absurd e (by rw [noHeap_get]; exact fun h => by cases h), Nat.zero_le _⟩, ?_, fun p hpp => (of_allBut hpp).2.1, ?_⟩
  · intro p hpp
    rcases List.mem_cons.mp hpp with rfl | hpp
    · exact ⟨hget, hxL, noHeap_get _⟩
    · exact ⟨(of_allBut hpp).1, (of_allBut hpp).2.2, noHeap_get _⟩
  · intro h' ox' t F' N'
    have hk : ∀ y oy, y ≠ x → y ≠ L → s.heap.get? y = some oy → h'.get? y = some oy := fun y oy hyx hyL e => (N' (y, oy) (.tail _ (mem_allBut e hyx hyL))).1
    have hx' : h'.get? x = some ox' := (N' (x, ox') (.head _)).1
    refine ⟨m, ⟨fun y oy e => ?_, fun y oy e => ?_, fun p hpp => ?_, hp.gens, hp.os⟩, hne, hm⟩
    · refine hk y oy ?_ ?_ (hp.keep y oy e)
      · rintro rfl; rw [(hp.sub y ox hx).2.1] at e; cases e
      · rintro rfl; rw [show b.heap.get? y = none from hL.2.1] at e; cases e
    · by_cases hyx : y = x
      · subst hyx; rw [upd_self] at e; cases e; exact ⟨hx', (hp.sub y ox hx).2⟩
      · rw [upd_ne hyx] at e
        refine ⟨hk y oy hyx ?_ (hp.sub y oy e).1, (hp.sub y oy e).2⟩
        rintro rfl; rw [show H y = none from hL.2.2] at e; cases e
    · have hpx : p.at ≠ x := hp.prot_ne' hx p hpp
      rcases List.mem_cons.mp hpp with rfl | hpp'
      · exact ⟨F'.ns, hL.2.1, by rw [upd_ne hpx]; exact hL.2.2⟩
      · have q := hp.prot p hpp
        exact ⟨q.1.to fun o e => hk _ o hpx (hne p hpp') e, q.2.1, by rw [upd_ne hpx]; exact q.2.2⟩

/-- a made object with its dict -/
noncomputable def InsAt (H : HP) (x C dx : Addr) (sl : Array (Option Value)) (es : List DictEntry) (n : Nat) : Prop := H x = some ⟨.ref C, some dx, .plain, sl⟩ ∧ H dx = some (dictOf es n)
variable {sl : Array (Option Value)} {es : List DictEntry} {n : Nat} {name : Str}
theorem InsAt.inst (a : At b ps L H l s) (h : InsAt H x C dx sl es n) : W.InstAt s.heap x ⟨.ref C, some dx, .plain, sl⟩ C (some (dictOf es n)) := ⟨a.get h.1, rfl, rfl, a.get h.2⟩

theorem ga_own {expr : Bool} {attr : Option Value} (Cx : Ctx K b mg mb) (a : At b ps L H l s) (h : InsAt H x C dx sl es n) (hg : plainGet K C name = true) (hh : hasDictIn K C = true)
    (ha : findIn K (.ref C) name = some attr) (hn : noGet K attr = true) (hl : getL name es = some (some v)) (hv : handedIn v = true) (k : ∀ s', At b ps L H l s' → Q v s') :
    wpAny (model prog w) A (getAttr (.ref x) name expr) Q E s :=
  get_value (Cx.K.keeps a.hp.keep) (h.inst a) (plainGet_of hg).1 (findObj_own hh ha hn hl) hv (k _ (a.toks _))
theorem ga_slot {expr : Bool} {p : Addr} {i : Nat} (Cx : Ctx K b mg mb) (a : At b ps L H l s) (h : InsAt H x C dx sl es n) (hg : plainGet K C name = true) (hc : isClsIn K C = true)
    (ha : findIn K (.ref C) name = some (some (.ref p))) (hs : specialIn K (.ref p) "__get__" = some (some (.builtin "member_descriptor.__get__"))) (ht : takesIn K (.ref p) = some true) (hp : slotIn K p C = some i)
    (hv : (sl[i]?).join = some v) (hh : handedIn v = true) (k : ∀ s', At b ps L H l s' → Q v s') :
    wpAny (model prog w) A (getAttr (.ref x) name expr) Q E s := by
  obtain ⟨m, post, F, -, -, -⟩ := a.led h.1
  have X := Cx.K.keeps a.hp.keep
  refine get_bind X (h.inst a) (plainGet_of hg).1 (findObj_data hc ha hs ht) (plainGet_of hg).2 (wpAny_call ?_)
  refine slot_get (s := { s with toks := s.toks + 1 }) X (h.inst (a.toks _)) hp hv ?_
  show wpAny _ _ (handedOut v) _ _ _
  rw [handedOut_of hh]
  exact wpAny_pure (k _ (a.toks _))
theorem sa_own {Q : Unit → Shared → Prop} (Cx : Ctx K b mg mb) (a : At b ps L H l s) (h : InsAt H x C dx sl es n)
    (hs : findIn K (.ref C) "__setattr__" = some (some (.builtin "object.__setattr__"))) (hp : plainOver K C = true) (ht : takerIn K C name = some none) (hh : hasDictIn K C = true) (hl : (getL name es).isSome = true) (hz : es.length < 900)
    (k : ∀ s' t, At b ps L (upd H dx (dictOf (putL name (PyData.keyHash w.params name) (.str name t) v es) (putN name es n))) l s' → Q () s') :
    wpAny (model prog w) A (setAttr (.ref x) name v) Q E s := by
  obtain ⟨m, post, F, N, hpost, back⟩ := a.led h.2
  have X := Cx.K.keeps a.hp.keep
  refine set_plain X (h.inst a) hs (osa_dict (s := { s with toks := s.toks + 1 }) F N X (h.inst (a.toks _)) rfl hp ht hh hl (fun _ hm => nomatch hm) hpost (putName_dict ..) rfl ?_ fun h' F' N' => k _ (s.toks + 1) (back h' _ _ F' N'))
  have : ∀ es : List DictEntry, (putL name (PyData.keyHash w.params name) (.str name (s.toks + 1)) v es).length ≤ es.length + 1 := by
    intro es
    induction es with
    | nil => simp [putL]
    | cons e r ih => unfold putL; split <;> simp <;> exact om271 ih
  have := this es
  show (putL name _ (.str name (s.toks + 1)) v es).length ≤ 1000
  exact om272 this hz
theorem sa_slot {p : Addr} {i : Nat} {Q : Unit → Shared → Prop} (Cx : Ctx K b mg mb) (a : At b ps L H l s) (h : InsAt H x C dx sl es n)
    (hs : findIn K (.ref C) "__setattr__" = some (some (.builtin "object.__setattr__"))) (hp : plainOver K C = true) (ht : takerIn K C name = some (some (.ref p))) (hT : typeIn K (.ref p) = some (.type "member_descriptor")) (hi : slotIn K p C = some i) (hi' : i < 1000)
    (k : ∀ s', At b ps L (upd H x ⟨.ref C, some dx, .plain, (sl ++ Array.replicate (i + 1 - sl.size) none).setIfInBounds i (some v)⟩) l s' → Q () s') :
    wpAny (model prog w) A (setAttr (.ref x) name v) Q E s := by
  obtain ⟨m, post, F, N, hpost, back⟩ := a.led h.1
  have X := Cx.K.keeps a.hp.keep
  refine set_plain X (h.inst a) hs (osa_descr (s := { s with toks := s.toks + 1 }) KF.slot_mset X (h.inst (a.toks _)) hp ht hT ?_)
  exact slot_set (s := { s with toks := s.toks + 1 }) F N X (h.inst (a.toks _)) hi hi' (fun _ hm => nomatch hm) hpost rfl rfl fun h' F' N' => k _ (back h' _ _ F' N')
theorem gm_own {f : Addr} {pl : Sem Bool} {Q : Value × List Value → Shared → Prop} (Cx : Ctx K b mg mb) (a : At b ps L H l s) (h : InsAt H x C dx sl es n) (hg : plainGet K C name = true)
    (hf : findIn K (.ref C) name = some (some (.ref f))) (ht : typeIn K (.ref f) = some (.type "function")) (hs : (getL name es).map (·.isSome) = some false) (k : Q (.ref f, [.ref x]) s) :
    wpAny (model prog w) A (getMethod (.ref x) name pl) Q E s :=
  method_fn (Cx.K.keeps a.hp.keep) (h.inst a) (plainGet_of hg).1 (plainGet_of hg).2 hf ht hs k
theorem Rm.make {n : Nat} {vals : List Value} (h : Rm (n + 1) A) : Rm n (A.under (.builtin "type.__call__" ⟨.ref C :: vals, []⟩)) := by
  obtain ⟨h1, h2, h3⟩ := h
  exact ⟨by rw [depth_under_make]; exact om214 h1, by rw [units_under_make]; exact om211 h2, h3⟩
/-- C(..): a new object, then its __init__ -/
theorem do_make {fI : Addr} {rest : List Value} (Cx : Ctx K b mg mb) (hp : Hp b ps H s) (hm : makesIn K C = true) (hi : findIn K (.ref C) "__init__" = some (some (.ref fI))) (hf : typeIn K (.ref fI) = some (.type "function"))
    (k : ∀ x dx s', H x = none → H dx = none → x ≠ dx → Hp b ps (upd (upd H dx (dictOf [] 0)) x ⟨.ref C, some dx, .plain, #[]⟩) s' →
      codeAny (model prog w) (A.under (.builtin "type.__call__" ⟨.ref C :: rest, []⟩)) (.call (.ref fI) ⟨.ref x :: rest, []⟩) (InitBack x (fun r s' => match r with | .ok (.ret v) => Q v s' | .ok _ => False | .error e => E e s')) s') :
    wpAny (model prog w) A (call (.ref C) rest) Q E s := by
  refine wpAny_call ?_
  have X := Cx.K.keeps hp.keep
  obtain ⟨h, g, d, t, os⟩ := s
  refine make_core (makes_of X hm) (looks_findIn X hi) (fun self => bind_fn X self hf) (.inl rfl) ?_
  have h1 := hp.push (dictOf [] 0) rfl t
  have h2 := h1.push ⟨.ref C, some h.objs.size, .plain, #[]⟩ rfl t
  dsimp only at h1 h2
  rw [Heap.size_push] at h2
  have hn1 : H h.objs.size = none := hp.fresh (get_size h)
  have hn2 : H (h.objs.size + 1) = none := hp.fresh (by
    cases e : Heap.get? h (h.objs.size + 1) with
    | none => rfl
    | some o => exact absurd (Heap.lt_size e) (Nat.not_lt.mpr (Nat.le_succ _)))
  exact k (h.objs.size + 1) h.objs.size _ hn2 hn1 (Nat.succ_ne_self _) h2

end
end Mine

namespace Mine
/-! the two classes, as the top has them -/
section
variable (w : World)
theorem k_makesS : makesIn (hd.heap_1 w.params) 172 = true := by kernel_rfl!
theorem k_initS : findIn (hd.heap_1 w.params) (.ref 172) "__init__" = some (some (.ref 108)) := by kernel_rfl!
theorem k_fn108 : typeIn (hd.heap_1 w.params) (.ref 108) = some (.type "function") := by kernel_rfl!
theorem k_makesN : makesIn (hd.heap_1 w.params) 75 = true := by kernel_rfl!
theorem k_initN : findIn (hd.heap_1 w.params) (.ref 75) "__init__" = some (some (.ref 71)) := by kernel_rfl!
theorem k_fn71 : typeIn (hd.heap_1 w.params) (.ref 71) = some (.type "function") := by kernel_rfl!
theorem k_getS (name : Str) : plainGet (hd.heap_1 w.params) 172 name = true := by kernel_rfl!
theorem k_getN (name : Str) : plainGet (hd.heap_1 w.params) 75 name = true := by kernel_rfl!
theorem k_dictS : hasDictIn (hd.heap_1 w.params) 172 = true := by kernel_rfl!
theorem k_overS : plainOver (hd.heap_1 w.params) 172 = true := by kernel_rfl!
theorem k_overN : plainOver (hd.heap_1 w.params) 75 = true := by kernel_rfl!
theorem k_setS : findIn (hd.heap_1 w.params) (.ref 172) "__setattr__" = some (some (.builtin "object.__setattr__")) := by kernel_rfl!
theorem k_setN : findIn (hd.heap_1 w.params) (.ref 75) "__setattr__" = some (some (.builtin "object.__setattr__")) := by kernel_rfl!
theorem k_f1 : findIn (hd.heap_1 w.params) (.ref 172) "_node2info" = some none := by kernel_rfl!
theorem k_f2 : findIn (hd.heap_1 w.params) (.ref 172) "_ready_nodes" = some none := by kernel_rfl!
theorem k_f3 : findIn (hd.heap_1 w.params) (.ref 172) "_npassedout" = some none := by kernel_rfl!
theorem k_f4 : findIn (hd.heap_1 w.params) (.ref 172) "_nfinished" = some none := by kernel_rfl!
theorem k_t1 : takerIn (hd.heap_1 w.params) 172 "_node2info" = some none := by kernel_rfl!
theorem k_t2 : takerIn (hd.heap_1 w.params) 172 "_ready_nodes" = some none := by kernel_rfl!
theorem k_t3 : takerIn (hd.heap_1 w.params) 172 "_npassedout" = some none := by kernel_rfl!
theorem k_t4 : takerIn (hd.heap_1 w.params) 172 "_nfinished" = some none := by kernel_rfl!
theorem k_m1 : findIn (hd.heap_1 w.params) (.ref 172) "_get_nodeinfo" = some (some (.ref 115)) := by kernel_rfl!
theorem k_m2 : findIn (hd.heap_1 w.params) (.ref 172) "add" = some (some (.ref 122)) := by kernel_rfl!
theorem k_m3 : findIn (hd.heap_1 w.params) (.ref 172) "prepare" = some (some (.ref 127)) := by kernel_rfl!
theorem k_m4 : findIn (hd.heap_1 w.params) (.ref 172) "get_ready" = some (some (.ref 134)) := by kernel_rfl!
theorem k_m5 : findIn (hd.heap_1 w.params) (.ref 172) "is_active" = some (some (.ref 141)) := by kernel_rfl!
theorem k_m6 : findIn (hd.heap_1 w.params) (.ref 172) "done" = some (some (.ref 155)) := by kernel_rfl!
theorem k_m7 : findIn (hd.heap_1 w.params) (.ref 172) "_find_cycle" = some (some (.ref 162)) := by kernel_rfl!
theorem k_mt1 : typeIn (hd.heap_1 w.params) (.ref 115) = some (.type "function") := by kernel_rfl!
theorem k_mt2 : typeIn (hd.heap_1 w.params) (.ref 122) = some (.type "function") := by kernel_rfl!
theorem k_mt3 : typeIn (hd.heap_1 w.params) (.ref 127) = some (.type "function") := by kernel_rfl!
theorem k_mt4 : typeIn (hd.heap_1 w.params) (.ref 134) = some (.type "function") := by kernel_rfl!
theorem k_mt5 : typeIn (hd.heap_1 w.params) (.ref 141) = some (.type "function") := by kernel_rfl!
theorem k_mt6 : typeIn (hd.heap_1 w.params) (.ref 155) = some (.type "function") := by kernel_rfl!
theorem k_mt7 : typeIn (hd.heap_1 w.params) (.ref 162) = some (.type "function") := by kernel_rfl!
theorem k_clsN : isClsIn (hd.heap_1 w.params) 75 = true := by kernel_rfl!
theorem k_s1 : findIn (hd.heap_1 w.params) (.ref 75) "node" = some (some (.ref 76)) := by kernel_rfl!
theorem k_s2 : findIn (hd.heap_1 w.params) (.ref 75) "npredecessors" = some (some (.ref 77)) := by kernel_rfl!
theorem k_s3 : findIn (hd.heap_1 w.params) (.ref 75) "successors" = some (some (.ref 78)) := by kernel_rfl!
theorem k_sg1 : specialIn (hd.heap_1 w.params) (.ref 76) "__get__" = some (some (.builtin "member_descriptor.__get__")) := by kernel_rfl!
theorem k_sg2 : specialIn (hd.heap_1 w.params) (.ref 77) "__get__" = some (some (.builtin "member_descriptor.__get__")) := by kernel_rfl!
theorem k_sg3 : specialIn (hd.heap_1 w.params) (.ref 78) "__get__" = some (some (.builtin "member_descriptor.__get__")) := by kernel_rfl!
theorem k_sk1 : takesIn (hd.heap_1 w.params) (.ref 76) = some true := by kernel_rfl!
theorem k_sk2 : takesIn (hd.heap_1 w.params) (.ref 77) = some true := by kernel_rfl!
theorem k_sk3 : takesIn (hd.heap_1 w.params) (.ref 78) = some true := by kernel_rfl!
theorem k_si1 : slotIn (hd.heap_1 w.params) 76 75 = some 0 := by kernel_rfl!
theorem k_si2 : slotIn (hd.heap_1 w.params) 77 75 = some 1 := by kernel_rfl!
theorem k_si3 : slotIn (hd.heap_1 w.params) 78 75 = some 2 := by kernel_rfl!
theorem k_st1 : takerIn (hd.heap_1 w.params) 75 "node" = some (some (.ref 76)) := by kernel_rfl!
theorem k_st2 : takerIn (hd.heap_1 w.params) 75 "npredecessors" = some (some (.ref 77)) := by kernel_rfl!
theorem k_st3 : takerIn (hd.heap_1 w.params) 75 "successors" = some (some (.ref 78)) := by kernel_rfl!
theorem k_sT1 : typeIn (hd.heap_1 w.params) (.ref 76) = some (.type "member_descriptor") := by kernel_rfl!
theorem k_sT2 : typeIn (hd.heap_1 w.params) (.ref 77) = some (.type "member_descriptor") := by kernel_rfl!
theorem k_sT3 : typeIn (hd.heap_1 w.params) (.ref 78) = some (.type "member_descriptor") := by kernel_rfl!
end
end Mine

namespace Mine
/-! dicts with int keys, sets of ints -/
noncomputable def DcAt (prog : Program) (w : World) (H : HP) (d : Addr) (kvs : List (Int × Value)) : Prop := ∃ o, H d = some o ∧ o.IsDictOf (PySem.intKind prog w) kvs
noncomputable def StAt (prog : Program) (w : World) (H : HP) (d : Addr) (S : Int → Bool) (n : Nat) : Prop := ∃ o, H d = some o ∧ o.SetObjOf (PySem.intKind prog w) S n
section
variable {prog : Program} {w : World} {M : Model} {A : Around} {E : Value → Shared → Prop}
  {b s : Shared} {ps : List Prot} {H : HP} {L d x : Addr} {l : List (Str × Value)} {env : Env} {Q : Value → Shared → Prop} {v : Value} {kvs : List (Int × Value)} {k : Int} {t : Tok} {o : Obj} {S : Int → Bool} {n : Nat}
theorem DcAt.upd {a : Addr} (h : DcAt prog w H a kvs) (hn : a ≠ x) : DcAt prog w (upd H x o) a kvs := let ⟨q, e, r⟩ := h; ⟨q, by rw [upd_ne hn]; exact e, r⟩
theorem DcAt.fresh {a : Addr} (h : DcAt prog w H a kvs) (hn : H x = none) : DcAt prog w (Mine.upd H x o) a kvs := let ⟨q, e, r⟩ := h; ⟨q, upd_of e hn, r⟩
theorem DcAt.dictOf (a : At b ps L H l s) (h : DcAt prog w H d kvs) : s.heap.DictOf (PySem.intKind prog w) d kvs := let ⟨o, e, r⟩ := h; Heap.dictOf_iff.mpr ⟨o, a.get e, r⟩
theorem DcAt.notMods (a : At b ps L H l s) (h : DcAt prog w H d kvs) : (d == sysModules) = false := by
  obtain ⟨o, e, _⟩ := h
  have := (a.hp.sub d o e).2.2
  rw [beq_eq_false_iff_ne]; intro e; rw [e] at this; exact absurd this (by decide)
theorem DcAt.new (h : H d = some (W.dictOf [] 0)) : DcAt prog w H d [] := by
  refine ⟨_, h, ?_⟩
  obtain ⟨o, ho, r⟩ := Heap.dictOf_iff.mp (Heap.DictOf.new (knd := PySem.intKind prog w) noHeap)
  have : o = W.dictOf [] 0 := by
    have q := Heap.get?_push_size noHeap (o := { cls := .type "dict", data := .dict #[] }) rfl
    rw [q] at ho; cases ho; rfl
  rw [← this]; exact r
theorem dc_item (a : At b ps L H l s) (h : DcAt prog w H d kvs) (hv : valueAt kvs k = some v) (q : ∀ s', At b ps L H l s' → Q v s') : wpAny (model prog w) A (getItem (.ref d) (.int k t)) Q E s :=
  wpAny_getItem_of (knd := PySem.intKind prog w) (PySem.intKind_is prog w k t) (h.dictOf a).mapOf hv (q _ (a.toks _))
theorem dc_sub {value slice : Expr} (a : At b ps L H l s) (h : DcAt prog w H d kvs) (hv : valueAt kvs k = some v) (q : ∀ s', At b ps L H l s' → Q v s')
    (hs : subscripted slice false (.ref d) (.int k t) = operate [.ref d, .int k t] (getItem (.ref d) (.int k t)) := by rfl) :
    wpAny (model prog w) A (subscriptTail value slice (.ref d) (.int k t)) Q E s :=
  tail_any (h.dictOf a).typeIs PySem.F.slot_dict_getitem.lookup (dc_item a h hv q) hs
theorem dc_set {Q : Unit → Shared → Prop} (a : At b ps L H l s) (h : DcAt prog w H d kvs) (hb : kvs.length < 100000) (q : ∀ s' o, o.IsDictOf (PySem.intKind prog w) (stored kvs k v) → At b ps L (upd H d o) l s' → Q () s') :
    wpAny (model prog w) A (setItem (.ref d) (.int k t) v) Q E s := by
  obtain ⟨o, e, r⟩ := id h
  refine wpAny_setItem_pairs (knd := PySem.intKind prog w) (PySem.intKind_is prog w k t) (h.dictOf a) (fun h' hd hs => ?_) (by show kvs.length ≤ 2 ^ 24; exact om114 hb)
  obtain ⟨o', ho', r'⟩ := Heap.dictOf_iff.mp hd
  exact q _ o' r' (a.set e hs ho' _)
theorem dc_in (a : At b ps L H l s) (h : DcAt prog w H d kvs) (q : ∀ s', At b ps L H l s' → Q (.bool (valueAt kvs k).isSome) s') : wpAny (model prog w) A (compareOp .In (.int k t) (.ref d)) Q E s :=
  wpAny_in_of (knd := PySem.intKind prog w) (PySem.intKind_is prog w k t) (h.notMods a) (h.dictOf a).mapOf (q _ (a.toks _))
theorem dc_get {e : Expr} {pos : Pos} (hb : backTo pos (starEach [e] env) = [(false, eval e env)])
    (q : wpAny (model prog w) A (eval e env) (fun key s₁ => ∃ k t kvs b ps L H l, key = .int k t ∧ At b ps L H l s₁ ∧ DcAt prog w H d kvs ∧ ∀ s', At b ps L H l s' → Q ((valueAt kvs k).getD .none) s') E s)
    (hd : (d == sysModules) = false) :
    wpAny (model prog w) A (callWith pos (.builtin "dict.get") [.ref d] (backTo pos (starEach [e] env)) []) Q E s := by
  rw [hb]
  refine wpAny_dict_get1 (knd := PySem.intKind prog w) hd (wpAny_mono q (fun key s₁ h₁ => ?_) fun _ _ x => x)
  obtain ⟨k, t, kvs, b, ps, L, H, l, rfl, a, h, q⟩ := h₁
  exact ⟨k, _, PySem.intKind_is prog w k t, (h.dictOf a).mapOf, q _ (a.toks _)⟩
theorem dc_del {Q : Unit → Shared → Prop} (a : At b ps L H l s) (h : DcAt prog w H d kvs) (hb : kvs.length < 100000) (hs : (valueAt kvs k).isSome = true) (q : ∀ s' o, o.IsDictOf (PySem.intKind prog w) (without kvs k) → At b ps L (upd H d o) l s' → Q () s') :
    wpAny (model prog w) A (delItem (.ref d) (.int k t)) Q E s := by
  obtain ⟨o, e, r⟩ := id h
  have hD := h.dictOf a
  unfold delItem
  try with_reducible refine wpAny_holding ?_
  refine wpAny_bind (wpAny_sequenceKey hD.typeIs (by decide) ?_)
  refine wpAny_bind (wpAny_callSpecial?_slot (name := Str.ofString "__delitem__") hD.typeIs PySem.F.slot_dict_delitem
    (call_meetsIn PySem.F.slot_dict_delitem hD.typeIs PySem.F.entry_dict_delitem (PySem.F.args_dict_delitem_2 _ _) (meets_dict_delitem_pairs (PySem.intKind prog w) d (PySem.intKind_is prog w k t)) ⟨kvs, hD, (by show kvs.length ≤ 2 ^ 24; exact om114 hb), hs, fun h' hmm hs' => ?_⟩))
  obtain ⟨o', ho', hd'⟩ := Heap.dictOf_iff.mp hmm
  exact wpAny_pure (q _ o' hd' (a.set e hs' ho' _))

/-! sets -/
theorem StAt.upd {a : Addr} (h : StAt prog w H a S n) (hn : a ≠ x) : StAt prog w (Mine.upd H x o) a S n := let ⟨q, e, r⟩ := h; ⟨q, by rw [upd_ne hn]; exact e, r⟩
theorem StAt.fresh {a : Addr} (h : StAt prog w H a S n) (hn : H x = none) : StAt prog w (Mine.upd H x o) a S n := let ⟨q, e, r⟩ := h; ⟨q, upd_of e hn, r⟩
theorem st_in (a : At b ps L H l s) (h : StAt prog w H d S n) (hb : n < scanBound) (q : ∀ s', At b ps L H l s' → Q (.bool (S k)) s') : wpAny (model prog w) A (compareOp .In (.int k t) (.ref d)) Q E s := by
  obtain ⟨o, e, r⟩ := id h
  obtain ⟨m, post, F, N, hpost, back⟩ := a.led e
  exact kse_in (g := fun o' => (d, o') :: post) N (UpdF.head hpost) r hb (PySem.intKind_is prog w k t) rfl (q _ (a.toks _))
theorem st_add (a : At b ps L H l s) (h : StAt prog w H d S n) (hb : n + 1 < scanBound) (q : ∀ s' o, o.SetObjOf (PySem.intKind prog w) (fun k' => S k' || decide (k' = k)) (if S k then n else n + 1) → At b ps L (upd H d o) l s' → Q .none s') :
    wpAny (model prog w) A (call (.builtin "set.add") [.ref d, .int k t]) Q E s := by
  obtain ⟨o, e, r⟩ := id h
  obtain ⟨m, post, F, N, hpost, back⟩ := a.led e
  exact kse_add (g := fun o' => (d, o') :: post) F N (UpdF.head hpost) r hb (PySem.intKind_is prog w k t) rfl fun h' so' F' N' r' => q _ so' r' (back h' so' _ F' N')
theorem st_new (a : At b ps L H l s) (q : ∀ s' x o, H x = none → o.SetObjOf (PySem.intKind prog w) (fun _ => false) 0 → At b ps L (upd H x o) l s' → Q (.ref x) s') : wpAny (model prog w) A (call (.type "set") []) Q E s := by
  obtain ⟨m, hp, hne, hm⟩ := id a
  have F : Fr noHeap L s.heap m := ⟨(hp.prot _ (.head _)).1, fun c o e => absurd e (by rw [noHeap_get]; exact fun h => by cases h), Nat.zero_le _⟩
  have N : News noHeap L s.heap (allBut s.heap L L) := fun p hpp => ⟨(of_allBut hpp).1, (of_allBut hpp).2.2, noHeap_get _⟩
  refine newSet_N F N fun h' led F' N' => ?_
  have hn := get_size s.heap
  refine q _ s.heap.objs.size _ (a.fresh hn) (setObjOf_fresh (knd := PySem.intKind prog w) led) ?_
  have hLn : L ≠ s.heap.objs.size := hp.prot_ne hn _ (.head _)
  refine ⟨m, ⟨fun y oy e => ?_, fun y oy e => ?_, fun p hpp => ?_, hp.gens, hp.os⟩, hne, hm⟩
  · have hyL : y ≠ L := by rintro rfl; rw [show b.heap.get? y = none from (hp.prot _ (.head _)).2.1] at e; cases e
    exact (N' (y, oy) (.tail _ (mem_allBut (hp.keep y oy e) hyL hyL))).1
  · by_cases hy : y = s.heap.objs.size
    · subst hy; rw [upd_self] at e; cases e
      exact ⟨(N' _ (.head _)).1, hp.base_fresh hn, hp.low⟩
    · rw [upd_ne hy] at e
      have hyL : y ≠ L := by rintro rfl; rw [show H y = none from (hp.prot _ (.head _)).2.2] at e; cases e
      exact ⟨(N' (y, oy) (.tail _ (mem_allBut (hp.sub y oy e).1 hyL hyL))).1, (hp.sub y oy e).2⟩
  · have hpn : p.at ≠ s.heap.objs.size := hp.prot_ne hn p hpp
    rcases List.mem_cons.mp hpp with rfl | hpp'
    · exact ⟨F'.ns, (hp.prot _ (.head _)).2.1, by rw [upd_ne hpn]; exact (hp.prot _ (.head _)).2.2⟩
    · have r := hp.prot p hpp
      exact ⟨r.1.to fun o e => (N' (p.at, o) (.tail _ (mem_allBut e (hne p hpp') (hne p hpp')))).1, r.2.1, by rw [upd_ne hpn]; exact r.2.2⟩
end
end Mine

namespace Mine
section
variable {prog : Program} {w : World} {M : Model} {A : Around} {E : Value → Shared → Prop} {K : Frag} {mg mb : Str → Option Value}
  {b s : Shared} {ps : List Prot} {H : HP} {ns : List (Str × NameKind)} {Q : Value → Shared → Prop}
/-- a call of a def with a star parameter -/
theorem call_codeV {f : Addr} {o : Obj} {fd : FuncData} {body : List Stmt} {args vs : List Value} {nm : Str} {R : Result → Shared → Prop} (l : List (Str × Value)) (C : Ctx K b mg mb) (hp : Hp b ps H s)
    (ho : K.lookup f = some o) (hd : o.data = .func fd) (hbody : fd.body = .stmts body) (hns : fd.scope.names = ns) (hcd : codeIn K fd.code fd.qualname = true) (hroom : A.depth < recursionLimit)
    (hbind : bindArgs fd ⟨args, []⟩ = (newTuple vs >>= fun t => pure (l.reverse ++ [(nm, t)]))) (hvs : vs.length < 100000) (hcell : ∀ x ∈ ns, x.2 ≠ .cell) (hloc : ∀ x ∈ l.reverse, ns.lookup x.1 = some .local) (hnm : ns.lookup nm = some .local)
    (h : ∀ L s₁ env tp, EnvIs env L ns [] → H tp = none → At b ps L (upd H tp (tpO vs 0)) ((nm, .ref tp) :: l) s₁ →
      wpAny (model prog w) (A.deeper env) (execs body env) (fun fl s' => R (.ok (.ret (match fl with | .ret v => v | _ => .none))) s') NoE s₁)
    (hco : fd.scope.isCoroutine = false := by rfl) (hgen : fd.scope.isGenerator = false := by rfl) (hk : fd.scope.kind = .function := by rfl)
    (hg : fd.globals = mainGlobals := by rfl) (hbt : fd.builtins = builtinsNs := by rfl) (hcl : fd.closure = [] := by rfl) :
    codeAny (model prog w) A (.call (.ref f) ⟨args, []⟩) R s := by
  have hX := C.K.keeps hp.keep
  subst hns
  refine codeAny_call_function hroom (hX _ _ ho) hd hco hgen hbody (codeRec_of hX hcd) ?_
  rw [hbind]
  refine wpAny_bind (wpAny_newTuple (wpAny_pure ?_) (by show vs.length ≤ 2 ^ 24; exact om114 hvs))
  have h1 := hp.push (tpO vs 0) rfl s.toks
  have hfr : H s.heap.objs.size = none := hp.fresh (get_size _)
  refine wpAny_newFunctionEnv hcell (fun x hx => ?_) (fun h₁ hns hsb => ⟨?_, ?_⟩) hk
  · rcases List.mem_append.mp hx with hx | hx
    · exact hloc x hx
    · rw [List.mem_singleton.mp hx]; exact hnm
  · exact ((C.lim.keeps h1.keep).fresh _ hsb)
  · have hn := get_size (s.heap.push (tpO vs 0))
    have hk₁ : ∀ y oy, (s.heap.push (tpO vs 0)).get? y = some oy → h₁.get? y = some oy := fun y oy e => hsb.extBut y oy (Nat.ne_of_lt (Heap.lt_size e)) (Heap.get?_push_of_some _ e)
    have h2 := h1.all hk₁ (s.toks + (l.reverse ++ [(nm, Value.ref s.heap.objs.size)]).length)
    refine codeAny_func (wpAny_mono (h _ _ _ s.heap.objs.size ⟨rfl, hk, hg, hbt, fun _ => rfl, fun _ => rfl, hcl⟩ hfr ⟨_, ⟨h2.keep, h2.sub, fun p hpp => ?_, h2.gens, h2.os⟩, h1.prot_ne hn, fun x v e => e⟩) (fun fl s' hq => hq) fun _ _ x => x.elim)
    rcases List.mem_cons.mp hpp with rfl | hpp
    · refine ⟨?_, h1.base_fresh hn, h1.fresh hn⟩
      show h₁.Ns _ _
      have : (fun x => List.lookup x (l.reverse ++ [(nm, Value.ref s.heap.objs.size)]).reverse) = fun x => List.lookup x ((nm, Value.ref s.heap.objs.size) :: l) := by simp
      rw [← this]; exact hns
    · exact h2.prot p hpp
theorem call_defV {f : Addr} {o : Obj} {fd : FuncData} {body : List Stmt} {args vs : List Value} {nm : Str} (l : List (Str × Value)) (C : Ctx K b mg mb) (hp : Hp b ps H s)
    (ho : K.lookup f = some o) (hd : o.data = .func fd) (hbody : fd.body = .stmts body) (hns : fd.scope.names = ns) (hcd : codeIn K fd.code fd.qualname = true) (hroom : A.depth < recursionLimit)
    (hbind : bindArgs fd ⟨args, []⟩ = (newTuple vs >>= fun t => pure (l.reverse ++ [(nm, t)]))) (hvs : vs.length < 100000) (hcell : ∀ x ∈ ns, x.2 ≠ .cell) (hloc : ∀ x ∈ l.reverse, ns.lookup x.1 = some .local) (hnm : ns.lookup nm = some .local)
    (h : ∀ L s₁ env tp, EnvIs env L ns [] → H tp = none → At b ps L (upd H tp (tpO vs 0)) ((nm, .ref tp) :: l) s₁ →
      wpAny (model prog w) (A.deeper env) (execs body env) (fun fl s' => Q (match fl with | .ret v => v | _ => .none) s') NoE s₁)
    (hco : fd.scope.isCoroutine = false := by rfl) (hgen : fd.scope.isGenerator = false := by rfl) (hk : fd.scope.kind = .function := by rfl)
    (hg : fd.globals = mainGlobals := by rfl) (hbt : fd.builtins = builtinsNs := by rfl) (hcl : fd.closure = [] := by rfl) :
    wpAny (model prog w) A (call (.ref f) args) Q E s :=
  wpAny_call (call_codeV l C hp ho hd hbody hns hcd hroom hbind hvs hcell hloc hnm h hco hgen hk hg hbt hcl)
end
end Mine

namespace Mine
/-! calls of methods and classes; more statements -/
section
variable {prog : Program} {w : World} {M : Model} {A : Around} {E : Value → Shared → Prop} {K : Frag} {mg mb : Str → Option Value}
  {b s : Shared} {ps : List Prot} {H : HP} {L d x : Addr} {l : List (Str × Value)} {env : Env} {ns : List (Str × NameKind)} {cs : List (Str × Addr)} {Q : Value → Shared → Prop} {v : Value} {kvs : List (Int × Value)}
theorem as_sub {o i : Expr} {pos : Pos} {Q : Unit → Shared → Prop} (h : wpAny M A (eval o env) (fun ov s₂ => wpAny M A (eval i env) (fun iv s₃ => wpAny M A (setItem ov iv v) Q E s₃) E s₂) E s) :
    wpAny M A (assign (.Subscript o i pos) env v) Q E s := by
  rw [assign_Subscript]
  refine wpAny_bind (wpAny_holding (wpAny_mono h (fun ov s₂ h₂ => ?_) fun _ _ x => x))
  refine wpAny_bind (wpAny_holding (wpAny_mono h₂ (fun iv s₃ h₃ => ?_) fun _ _ x => x))
  refine wpAny_bind (wpAny_standAt (wpAny_bind (wpAny_holding (wpAny_mono h₃ (fun _ s₄ h₄ => ?_) fun _ _ x => x))))
  exact wpAny_release h₄
theorem gm_dict {name : Str} {id : String} {pl : Sem Bool} {Q : Value × List Value → Shared → Prop} (hslot : Slot "dict" name id) (hty : typeOf (.builtin id) = pure (.type "method_descriptor")) (a : At b ps L H l s) (h : DcAt prog w H d kvs)
    (q : Q (.builtin id, [.ref d]) s) : wpAny (model prog w) A (getMethod (.ref d) name pl) Q E s := by
  obtain ⟨o, e, ⟨es, ep, hx, _⟩⟩ := _root_.id h
  exact getMethod_builtin (h.dictOf a).typeIs PySem.F.plainAttrs_dict hslot hty (fun y hy => by cases hy; exact ⟨o, a.get e, hx.2.1⟩) q
theorem gm_list {vs : List Value} {name : Str} {id : String} {pl : Sem Bool} {Q : Value × List Value → Shared → Prop} (hslot : Slot "list" name id) (hty : typeOf (.builtin id) = pure (.type "method_descriptor")) (a : At b ps L H l s) (h : LsAt H d vs)
    (q : Q (.builtin id, [.ref d]) s) : wpAny (model prog w) A (getMethod (.ref d) name pl) Q E s := by
  obtain ⟨n, e⟩ := _root_.id h
  exact getMethod_builtin (h.isList a).typeIs PySem.F.plainAttrs_list hslot hty (fun y hy => by cases hy; exact ⟨_, a.get e, rfl⟩) q
/-- C(e, ..) for a class of the top -/
theorem ev_call_cls {x : Str} {np pos : Pos} {e : Expr} {rest : List Expr} {f : Addr} (C : Ctx K b mg mb) (a : At b ps L H l s) (he : EnvIs env L ns cs)
    (hx : nsIn K mainGlobals x = some (some (.ref f))) (hk : keepIn K (.ref f) = true)
    (h : wpAny M A (spliced (backTo pos (starEach (e :: rest) env))) (fun vs s₁ => Kept b s₁ ∧ wpAny M A (call (.ref f) vs) Q E s₁) E s)
    (hst : starEach (e :: rest) env = (false, eval e env) :: starEach rest env := by rfl) (hpl : (backTo pos (starEach rest env)).any (·.1) = false := by rfl) (hl : ns.lookup x = some .globalImplicit := by kernel_rfl!) (hdb : (x == ("__debug__" : Str)) = false := by kernel_rfl!) :
    wpAny M A (eval (.Call (.Name x np) (e :: rest) [] pos) env) Q E s :=
  wpAny_Call_NameR (ev_global C a he hx (callWith_K C.K hk (wpAny_mono h (fun vs s₁ h₁ => ⟨C.K.keeps h₁.1, h₁.2⟩) fun _ _ x => x) hst hpl) hl hdb)
theorem ev_call_cls0 {x : Str} {np pos : Pos} {f : Addr} (C : Ctx K b mg mb) (a : At b ps L H l s) (he : EnvIs env L ns cs)
    (hx : nsIn K mainGlobals x = some (some (.ref f))) (hk : keepIn K (.ref f) = true) (h : wpAny M A (call (.ref f) []) Q E s)
    (hl : ns.lookup x = some .globalImplicit := by kernel_rfl!) (hdb : (x == ("__debug__" : Str)) = false := by kernel_rfl!) :
    wpAny M A (eval (.Call (.Name x np) [] [] pos) env) Q E s :=
  wpAny_Call_NameR (ev_global C a he hx (callWith_K0 (C.K.keeps a.hp.keep) hk h) hl hdb)
/-- behind getMethod: a def of a class -/
theorem cw_meth {pos : Pos} {f : Addr} {o : Obj} {fd : FuncData} {first : List Value} {e : Expr} {rest : List Expr} (C : Ctx K b mg mb) (ho : K.lookup f = some o) (hd : o.data = .func fd)
    (h : wpAny M A (spliced (backTo pos (starEach (e :: rest) env))) (fun vs s₁ => Kept b s₁ ∧ wpAny M A (call (.ref f) (first ++ vs)) Q E s₁) E s)
    (he : starEach (e :: rest) env = (false, eval e env) :: starEach rest env := by rfl) :
    wpAny M A (callWith pos (.ref f) first (backTo pos (starEach (e :: rest) env)) []) Q E s :=
  callWith_meth (h₀ := b.heap) hd (C.K _ _ ho) (wpAny_mono h (fun vs s₁ h₁ => ⟨h₁.1, h₁.2⟩) fun _ _ x => x) he
theorem cw_meth0 {pos : Pos} {f : Addr} {o : Obj} {fd : FuncData} {first : List Value} (C : Ctx K b mg mb) (a : At b ps L H l s) (ho : K.lookup f = some o) (hd : o.data = .func fd)
    (h : wpAny M A (call (.ref f) first) Q E s) :
    wpAny M A (callWith pos (.ref f) first (backTo pos (starEach [] env)) []) Q E s :=
  callWith_meth0 hd (a.hp.keep _ _ (C.K _ _ ho)) h
theorem is_none_no {y : Addr} (h : Q (.bool false) s) : wpAny M A (compareOp .Is (.ref y) .none) Q E s := wpAny_is_other rfl (by simp) h
theorem is_none_yes (h : Q (.bool true) s) : wpAny M A (compareOp .Is .none .none) Q E s := wpAny_is_self rfl h
theorem isnt_none_no (h : Q (.bool false) s) : wpAny M A (compareOp .IsNot .none .none) Q E s := wpAny_isNot_self rfl h
theorem isnt_none_yes {y : Addr} (h : Q (.bool true) s) : wpAny M A (compareOp .IsNot (.ref y) .none) Q E s := wpAny_isNot_other rfl (by simp) h
theorem new_dict (a : At b ps L H l s) {pos : Pos} (h : ∀ s' x, H x = none → At b ps L (upd H x (W.dictOf [] 0)) l s' → Q (.ref x) s') : wpAny M A (eval (.Dict [] [] pos) env) Q E s :=
  wpAny_Dict_empty (h _ _ (a.fresh (get_size _)) (a.push (W.dictOf [] 0) rfl s.toks))
theorem op_iadd {x y : Int} {t u : Tok} (a : At b ps L H l s) (h : ∀ t s', At b ps L H l s' → Q (.int (x + y) t) s') : wpAny (model prog w) A (inplaceOp .Add (.int x t) (.int y u)) Q E s := iadd_int (h _ _ (a.toks _))
theorem op_isub {x y : Int} {t u : Tok} (a : At b ps L H l s) (h : ∀ t s', At b ps L H l s' → Q (.int (x - y) t) s') : wpAny (model prog w) A (inplaceOp .Sub (.int x t) (.int y u)) Q E s := isub_int (h _ _ (a.toks _))
end
end Mine

namespace Mine
local macro_rules | `(tactic| walk_at "lk") => `(tactic| first | with_reducible exact lk_here | (apply lk_next; · kernel_rfl!
                                                                                                 · walk_at "lk"))
local macro_rules | `(tactic| walk_at "names") => `(tactic| first | exact True.intro | exact And.intro (by walk_at "lk") (by walk_at "names"))
local macro_rules | `(tactic| walk_at "one") => do
  let a := Lean.mkIdent `a
  `(tactic| with_reducible first
  | refine wpAny_execs_nil ?_
  | refine Sq.go (by assumption) ?_
  | refine wpAny_If ?_
  | refine wpAny_isTrue_Compare1 ?_ (by with_unfolding_all rfl)
  | refine ev_local (by assumption) (by assumption) (by walk_at "lk") ?_
  | (refine ev_int (by assumption) ?_; intro _ _ $a:ident)
  | refine cmp_eq ?_
  | refine cmp_lt ?_
  | refine cmp_gt ?_
  | refine cmp_ge ?_
  | refine cmp_ne ?_
  | refine tr_bool ?_
  | refine wpAny_BinOp ?_
  | refine wpAny_Return_some ?_
  | refine wpAny_Assign_Name ?_ (by with_unfolding_all rfl)
  | refine wpAny_Assign_Subscript ?_ (by with_unfolding_all rfl)
  | refine Subscript_ ?_
  | (refine st_local (by assumption) (by assumption) ?_; intro _ $a:ident)
  | (refine op_add (by assumption) ?_; intro _ _ $a:ident)
  | (refine op_sub (by assumption) ?_; intro _ _ $a:ident)
  | (refine op_mod (by assumption) (by decide) ?_; intro _ _ $a:ident)
  | (refine op_mulL (by assumption) (by decide) ?_; intro _ _ $a:ident)
  | refine wpAny_isTrue_BoolOp ?_
  | refine wpAny_allTrue_And_cons ?_
  | refine wpAny_allTrue_And_nil ?_
  | refine wpAny_isTrue_Not ?_
  | refine spliced_more ?_ (by with_unfolding_all rfl)
  | refine spliced_none ?_
  | refine ex_expr (by assumption) ?_ (by with_unfolding_all rfl)
  | refine plainObj_wpAny_Assign_Attribute ?_ (by with_unfolding_all rfl)
  | refine Attribute_Name_ ?_ (by with_unfolding_all rfl)
  | refine Attribute_any_ ?_ (by with_unfolding_all rfl)
  | refine ev_none ?_
  | refine wpAny_UnaryOp ?_
  | (refine op_neg (by assumption) ?_; intro _ _ $a:ident)
  | refine List_ ?_
  | refine Tuple_ ?_
  | refine wpAny_NamedExpr ?_
  | refine wpAny_AugAssign_AttributeAny ?_
  | (refine op_iadd (by assumption) ?_; intro _ _ $a:ident)
  | (refine op_isub (by assumption) ?_; intro _ _ $a:ident)
  | refine as_sub ?_
  | refine is_none_no ?_
  | refine is_none_yes ?_
  | refine isnt_none_no ?_
  | refine isnt_none_yes ?_
  | refine wpAny_assign_Name ?_
  | refine wpAny_Continue ?_
  | refine wpAny_Break ?_
  | refine Sq.ret (by assumption) ?_
  | refine Sq.cont (by assumption) ?_
  | refine Sq.brk (by assumption) ?_
  | refine Pq.go (by assumption) ?_)
local macro_rules | `(tactic| walk_at "go") => `(tactic| repeat (walk_at "one"))
local macro_rules | `(tactic| walk_at "cons") => do
  let k := Lean.mkIdent `KK
  let h := Lean.mkIdent `hKK
  let n := Lean.mkIdent `nKK
  let k' := Lean.mkIdent `KQ
  let h' := Lean.mkIdent `hKQ
  let n' := Lean.mkIdent `nKQ
  `(tactic| ((repeat (first | with_reducible refine Sq.go (by assumption) ?_ | with_reducible refine wpAny_execs_nil ?_))
             first
             | (with_reducible refine ex_consN (by assumption) ?_; intro $k:ident $n:ident $h:ident)
             | (with_reducible refine ex_consG ?_; intro $k':ident $n':ident $h':ident $k:ident $n:ident $h:ident)))
local macro_rules | `(tactic| walk_at "gp") => do
  let k := Lean.mkIdent `KP
  let h := Lean.mkIdent `hKP
  `(tactic| (with_reducible refine gp ?_; intro $k:ident $h:ident))
local macro_rules | `(tactic| walk_at "st") => `(tactic| (walk_at "cons"; repeat (walk_at "one")))
local macro_rules | `(tactic| walk_at "all") => `(tactic| repeat (first | walk_at "cons" | walk_at "one"))

section
noncomputable def made (kind x y : Int) : Int := if kind = 0 then (x + y) % 1009 else if kind = 1 then (x - y) % 1009 else x * y % 1009

section
variable {prog : Program} {w : World} {A : Around} {E : Value → Shared → Prop} {mg mb : Str → Option Value}
  {b s : Shared} {ps : List Prot} {H : HP} {Q : Value → Shared → Prop}
set_option maxRecDepth 100000
theorem made_spec (C : Ctx (hd.heap_1 w.params) b mg mb) (hp : Hp b ps H s) (hroom : A.depth < recursionLimit) {kind x y : Int} {t1 t2 t3 : Tok}
    (hm : IntMulOk x y) (k : ∀ t s', Hp b ps H s' → Q (.int (made kind x y) t) s') :
    wpAny (model prog w) A (call (.ref 188) [.int kind t1, .int x t2, .int y t3]) Q E s := by
  refine call_def [("y", .int y t3), ("x", .int x t2), ("kind", .int kind t1)] C hp (by with_unfolding_all rfl) rfl rfl rfl (by kernel_rfl!) hroom (BindsTo.of_eq rfl) (by decide) (locs rfl) ?_
  intro L s env he a
  dsimp only at he
  walk_at "all"
  refine ite_dec ?_ ?_ <;> intro _ <;> walk_at "all"
  · unfold made at k; simp only [*, if_true, if_false] at k; exact k _ _ (At.hp (by assumption))
  refine ite_dec ?_ ?_ <;> intro _ <;> walk_at "all"
  · unfold made at k; simp only [*, if_true, if_false] at k; exact k _ _ (At.hp (by assumption))
  refine op_mul (by assumption) (by assumption) ?_; intro _ _ _
  walk_at "all"
  all_goals (unfold made at k; simp only [*, if_true, if_false] at k; exact k _ _ (At.hp (by assumption)))
end
end

section

/-- an item of the heap: where its tuple lies, and its pair -/
abbrev It := Addr × (Int × Int)
abbrev ilt (i j : It) : Prop := plt i.2 j.2
noncomputable abbrev irf (i : It) : Value := .ref i.1
noncomputable def sdn (new : It) (xs : List It) (pos : Nat) : List It :=
  if pos = 0 then xs.set 0 new
  else if ilt new (xs.getD ((pos - 1) / 2) new) then sdn new (xs.set pos (xs.getD ((pos - 1) / 2) new)) ((pos - 1) / 2)
  else xs.set pos new
termination_by pos
decreasing_by exact om151 (by assumption)
noncomputable def chd (d : It) (xs : List It) (pos : Nat) : Nat := if 2 * pos + 1 + 1 < xs.length ∧ ¬ ilt (xs.getD (2 * pos + 1) d) (xs.getD (2 * pos + 1 + 1) d) then 2 * pos + 1 + 1 else 2 * pos + 1
noncomputable def sup (d : It) (xs : List It) (pos : Nat) : List It × Nat :=
  if 2 * pos + 1 < xs.length then sup d (xs.set pos (xs.getD (chd d xs pos) d)) (chd d xs pos) else (xs, pos)
termination_by xs.length - pos
decreasing_by simp only [List.length_set, chd]; split <;> (first | exact om154 (by assumption) | exact om173 (by assumption))

section
variable {prog : Program} {w : World} {A : Around} {E : Value → Shared → Prop} {mg mb : Str → Option Value}
  {b s : Shared} {ps : List Prot} {H : HP} {Q : Value → Shared → Prop}
set_option maxRecDepth 100000
theorem siftdown_spec (C : Ctx (hd.heap_1 w.params) b mg mb) (hp : Hp b ps H s) (rm : Rm 2 A) {x : Addr} {its : List It} {pos : Nat} {t1 t2 : Tok} {new : It}
    (hl : LsAt H x (its.map irf)) (hits : ∀ i ∈ its, PrAt H i.1 i.2) (hnew : its[pos]? = some new) (hlen : its.length < 1000)
    (k : ∀ s' n, Hp b ps (upd H x (lsO ((sdn new its pos).map irf) n)) s' → Q .none s') :
    wpAny (model prog w) A (call (.ref 49) [.ref x, .int 0 t1, .int pos t2]) Q E s := by
  refine call_def [("pos", .int pos t2), ("startpos", .int 0 t1), ("heap", .ref x)] C hp (by with_unfolding_all rfl) rfl rfl rfl (by kernel_rfl!) rm.room (BindsTo.of_eq rfl) (by decide) (locs rfl) ?_
  intro L s env he a
  dsimp only at he
  have rm1 : Rm 1 (A.deeper env) := rm.deeper
  have hposl : pos < its.length := (List.getElem?_eq_some_iff.mp hnew).1
  have hnp : PrAt H new.1 new.2 := hits new (List.mem_of_getElem? hnew)
  have up : ∀ {o : Obj} {i : It}, PrAt H i.1 i.2 → PrAt (upd H x o) i.1 i.2 := fun h => h.upd (by obtain ⟨_, _, h⟩ := h; exact tp_ne_ls h hl)
  walk_at "all"
  refine sub_list (v := irf new) (by assumption) hl (by exact om49) (by exact om239 hposl hlen) (by simp [hnew]) ?_
  walk_at "all"
  refine ex_whileP (fun n s => ∃ (ys : List It) (p : Int) (t : Tok) (m : Nat), n = p.toNat ∧ 0 ≤ p ∧ At b ps L (upd H x (lsO (ys.map irf) m)) [("pos", .int p t), ("newitem", irf new), ("startpos", .int 0 t1), ("heap", .ref x)] s ∧ sdn new ys p.toNat = sdn new its pos ∧ p.toNat < ys.length ∧ ys.length = its.length ∧ ∀ i ∈ ys, PrAt H i.1 i.2)
    (fun s => ∃ (ys : List It) (p : Int) (t : Tok) (m : Nat), 0 ≤ p ∧ At b ps L (upd H x (lsO (ys.map irf) m)) [("pos", .int p t), ("newitem", irf new), ("heap", .ref x)] s ∧ ys.set p.toNat new = sdn new its pos ∧ p.toNat < ys.length ∧ ys.length = its.length) ?_ pos ?_ ?_
  · intro n s hI9
    walk_at "gp"
    obtain ⟨ys, p, t, m, rfl, hp0, a, hR, hp1, hp2, hpr⟩ := hI9
    walk_at "all"
    refine ite_dec (fun hpos => ?_) (fun hpos => ?_)
    · walk_at "all"
      refine op_rshift1 (by assumption) (by exact om508 hpos) ?_; intro _ _ _
      walk_at "all"
      have hk : ((p - 1) / 2).toNat = (p.toNat - 1) / 2 := by exact om500
      obtain ⟨y, hy⟩ : ∃ y, ys[(p.toNat - 1) / 2]? = some y := ⟨_, List.getElem?_eq_getElem (by exact om480 hp1)⟩
      have hyD : ys.getD ((p.toNat - 1) / 2) new = y := by simp [hy]
      refine sub_list (v := irf y) (by assumption) LsAt.self (by exact om506 hpos) (by exact om487 hlen hp2 hp1) (by rw [hk]; simp [hy]) ?_
      walk_at "all"
      refine cmp_lt_pair (by assumption) rm1.units (up hnp) (up (hpr y (List.mem_of_getElem? hy))) ?_
      walk_at "all"
      refine ite_dec (fun hlt => ?_) (fun hlt => ?_)
      · walk_at "all"
        refine set_list (by assumption) LsAt.self (by exact om507 hpos) (by exact om488 hlen hp2 hp1) (by simp; exact om482 hp1) ?_
        intro s n' a
        rw [upd_upd, ← List.map_set] at a
        walk_at "all"
        refine ⟨_, ?_, ys.set p.toNat y, _, _, _, rfl, ?_, a.to (by walk_at "names"), ?_, ?_, by simp [hp2], ?_⟩
        · exact om505 hpos
        · exact om506 hpos
        · rw [← hR, hk]; conv => rhs; unfold sdn
          rw [if_neg (by exact om513 hpos), hyD, if_pos hlt]
        · simp; exact om479 hp1
        · intro i hi
          rcases List.mem_or_eq_of_mem_set hi with hi | rfl
          · exact hpr i hi
          · exact hpr _ (List.mem_of_getElem? hy)
      · walk_at "all"
        refine ⟨ys, p, _, _, hp0, a.to (by walk_at "names"), ?_, hp1, hp2⟩
        rw [← hR]; conv => rhs; unfold sdn
        rw [if_neg (by exact om513 hpos), hyD, if_neg hlt]
    · refine ⟨ys, p, _, _, hp0, a.to (by walk_at "names"), ?_, hp1, hp2⟩
      rw [← hR]; conv => rhs; unfold sdn
      rw [if_pos (by exact om540 hpos), show p.toNat = 0 from by exact om540 hpos]
  · obtain ⟨m, hm⟩ := hl
    refine ⟨its, pos, t2, m, by simp, by exact om49, ?_, by simp, by simpa using hposl, rfl, hits⟩
    refine At.weak (At.to (by assumption) (by walk_at "names")) (fun y o e => ?_)
    by_cases hy : y = x
    · subst hy; rw [upd_self] at e; rw [hm]; exact e
    · rwa [upd_ne hy] at e
  · rintro s ⟨ys, p, t, m, hp0, a, hR, hp1, hp2⟩
    walk_at "all"
    refine set_list a LsAt.self (by exact om521 hp0) (by exact om488 hlen hp2 hp1) (by simp; exact om482 hp1) ?_
    intro s n a
    rw [upd_upd, ← List.map_set, hR] at a
    walk_at "all"
    exact k _ n a.hp
end
end

section

section
variable {prog : Program} {w : World} {A : Around} {E : Value → Shared → Prop} {mg mb : Str → Option Value}
  {b s : Shared} {ps : List Prot} {H : HP} {Q : Value → Shared → Prop}
set_option maxRecDepth 100000
/-- what _siftup(heap, 0) makes of the list -/
noncomputable def sftup (its : List It) (new : It) : List It := sdn new ((sup new its 0).1.set (sup new its 0).2 new) (sup new its 0).2
theorem chd_lt {d : It} {xs : List It} {pos : Nat} (h : 2 * pos + 1 < xs.length) : chd d xs pos < xs.length := by unfold chd; split <;> (first | exact om153 (by assumption) | exact om172 h)
theorem siftup_spec (C : Ctx (hd.heap_1 w.params) b mg mb) (hp : Hp b ps H s) (rm : Rm 3 A) {x : Addr} {its : List It} {t1 : Tok} {new : It}
    (hl : LsAt H x (its.map irf)) (hits : ∀ i ∈ its, PrAt H i.1 i.2) (hnew : its[0]? = some new) (hlen : its.length < 1000)
    (k : ∀ s' n, Hp b ps (upd H x (lsO ((sftup its new).map irf) n)) s' → Q .none s') :
    wpAny (model prog w) A (call (.ref 56) [.ref x, .int 0 t1]) Q E s := by
  refine call_def [("pos", .int 0 t1), ("heap", .ref x)] C hp (by with_unfolding_all rfl) rfl rfl rfl (by kernel_rfl!) rm.room (BindsTo.of_eq rfl) (by decide) (locs rfl) ?_
  intro L s env he a
  dsimp only at he
  have rm1 : Rm 2 (A.deeper env) := rm.deeper
  have hposl : 0 < its.length := (List.getElem?_eq_some_iff.mp hnew).1
  have hnp : PrAt H new.1 new.2 := hits new (List.mem_of_getElem? hnew)
  have up : ∀ {o : Obj} {i : It}, PrAt H i.1 i.2 → PrAt (upd H x o) i.1 i.2 := fun h => h.upd (by obtain ⟨_, _, h⟩ := h; exact tp_ne_ls h hl)
  walk_at "all"
  refine ev_call_b C (by assumption) he (g_len w) boot_len ?_
  walk_at "all"
  refine do_lenN (by assumption) hl (List.length_map _) (by exact om110 hlen) ?_; intro _ _ _
  walk_at "all"
  refine sub_list (v := irf new) (by assumption) hl (by exact om8) (by exact om6) (by simp [hnew]) ?_
  walk_at "all"
  refine ex_whileP (fun n s => ∃ (ys : List It) (p : Int) (t t' te : Tok) (m : Nat), n = its.length - p.toNat ∧ 0 ≤ p ∧ At b ps L (upd H x (lsO (ys.map irf) m)) [("childpos", .int (2 * p + 1) t'), ("pos", .int p t), ("newitem", irf new), ("startpos", .int 0 t1), ("endpos", .int its.length te), ("heap", .ref x)] s ∧ sup new ys p.toNat = sup new its 0 ∧ p.toNat < ys.length ∧ ys.length = its.length ∧ ∀ i ∈ ys, PrAt H i.1 i.2)
    (fun s => ∃ (ys : List It) (p : Int) (t : Tok) (m : Nat), 0 ≤ p ∧ At b ps L (upd H x (lsO (ys.map irf) m)) [("pos", .int p t), ("newitem", irf new), ("startpos", .int 0 t1), ("heap", .ref x)] s ∧ (ys, p.toNat) = sup new its 0 ∧ p.toNat < ys.length ∧ ys.length = its.length ∧ ∀ i ∈ ys, PrAt H i.1 i.2) ?_ (its.length - 0) ?_ ?_
  · intro n s hI9
    walk_at "gp"
    obtain ⟨ys, p, t, t', te, m, rfl, hp0, a, hR, hp1, hp2, hpr⟩ := hI9
    walk_at "all"
    refine ite_dec (fun hpos => ?_) (fun hpos => ?_)
    · walk_at "st"
      have hc : (2 * p + 1).toNat = 2 * p.toNat + 1 := by exact om518 hp0
      have hc1 : (2 * p + 1 + 1).toNat = 2 * p.toNat + 1 + 1 := by exact om498 hc
      obtain ⟨c1, hc1'⟩ : ∃ y, ys[2 * p.toNat + 1]? = some y := ⟨_, List.getElem?_eq_getElem (by exact om485 hc1 hpos hp2)⟩
      have hD1 : ys.getD (2 * p.toNat + 1) new = c1 := by simp [hc1']
      refine ex_cut (fun s => ∃ (c : Int) (t' : Tok), 0 ≤ c ∧ c.toNat = chd new ys p.toNat ∧ At b ps L (upd H x (lsO (ys.map irf) m)) [("childpos", .int c t'), ("pos", .int p t), ("newitem", irf new), ("startpos", .int 0 t1), ("endpos", .int its.length te), ("heap", .ref x)] s) ?_ ?_
      · walk_at "go"
        refine ite_dec (fun hr => ?_) (fun hr => ?_)
        · obtain ⟨c2, hc2'⟩ : ∃ y, ys[2 * p.toNat + 1 + 1]? = some y := ⟨_, List.getElem?_eq_getElem (by exact om484 hc1 hr hp2)⟩
          have hD2 : ys.getD (2 * p.toNat + 1 + 1) new = c2 := by simp [hc2']
          walk_at "go"
          refine sub_list (v := irf c1) (by assumption) LsAt.self (by exact om519 hp0) (by exact om466 hr hlen) (by rw [hc]; simp [hc1']) ?_
          walk_at "go"
          refine sub_list (v := irf c2) (by assumption) LsAt.self (by exact om520 hp0) (by exact om465 hr hlen) (by rw [hc1]; simp [hc2']) ?_
          walk_at "go"
          refine cmp_lt_pair (by assumption) rm1.units (up (hpr c1 (List.mem_of_getElem? hc1'))) (up (hpr c2 (List.mem_of_getElem? hc2'))) ?_
          walk_at "go"
          refine ite_not (fun hlt => ?_) (fun hlt => ?_)
          · walk_at "go"
            refine ite_true' ?_
            walk_at "all"
            refine ⟨rfl, _, _, ?_, ?_, a.to (by walk_at "names")⟩
            · exact om520 hp0
            · unfold chd; rw [hD1, hD2, if_pos ⟨by exact om484 hc1 hr hp2, hlt⟩, hc1]
          · refine ite_false' ?_
            walk_at "all"
            refine ⟨rfl, _, _, ?_, ?_, a.to (by walk_at "names")⟩
            · exact om519 hp0
            · unfold chd; rw [hD1, hD2, if_neg (fun h => h.2 hlt), hc]
        · walk_at "go"
          refine ite_false' ?_
          walk_at "all"
          refine ⟨rfl, _, _, ?_, ?_, a.to (by walk_at "names")⟩
          · exact om519 hp0
          · unfold chd; rw [if_neg (fun h => hr (by exact om483 h hp2)), hc]
      · rintro s ⟨c, t', hc0, hcc, a⟩
        have hcl : chd new ys p.toNat < ys.length := chd_lt (by exact om485 hc1 hpos hp2)
        obtain ⟨y, hy⟩ : ∃ y, ys[chd new ys p.toNat]? = some y := ⟨_, List.getElem?_eq_getElem hcl⟩
        have hyD : ys.getD (chd new ys p.toNat) new = y := by simp [hy]
        walk_at "st"
        refine sub_list (v := irf y) (by assumption) LsAt.self (by exact om521 hc0) (by exact om496 hlen hcl hp2 hcc) (by rw [hcc]; simp [hy]) ?_
        walk_at "go"
        refine set_list (by assumption) LsAt.self (by exact om521 hp0) (by exact om467 hpos hlen) (by simp; exact om482 hp1) ?_
        intro s n' a
        rw [upd_upd, ← List.map_set] at a
        walk_at "all"
        refine ⟨_, ?_, ys.set p.toNat y, c, _, _, _, _, rfl, hc0, a.to (by walk_at "names"), ?_, ?_, by simp [hp2], ?_⟩
        · rw [hcc]; unfold chd; split <;> (first | exact om26 (by assumption) hp2 | exact om31 hp2 hp1)
        · rw [← hR, hcc]; conv => rhs; unfold sup
          rw [if_pos (by exact om485 hc1 hpos hp2), hyD]
        · simp; exact om493 hcl hcc
        · intro i hi
          rcases List.mem_or_eq_of_mem_set hi with hi | rfl
          · exact hpr i hi
          · exact hpr _ (List.mem_of_getElem? hy)
    · refine ⟨ys, p, _, _, hp0, a.to (by walk_at "names"), ?_, hp1, hp2, hpr⟩
      rw [← hR]; unfold sup; rw [if_neg (by exact om491 hp2 hpos)]
  · obtain ⟨m, hm⟩ := hl
    rw [← upd_id hm] at a
    exact ⟨its, 0, _, _, _, m, rfl, by exact om8, a.to (by walk_at "names"), rfl, by simpa using hposl, rfl, hits⟩
  · rintro s ⟨ys, p, t, m, hp0, a, hR, hp1, hp2, hpr⟩
    obtain ⟨q, rfl⟩ := Int.eq_ofNat_of_zero_le hp0
    simp only [Int.toNat_natCast] at *
    walk_at "st"
    refine set_list a LsAt.self (by exact om49) (by exact om340 hp1 hp2 hlen) (by simp; exact om235 hp1) ?_
    intro s n a
    rw [upd_upd, Int.toNat_natCast, ← List.map_set] at a
    walk_at "st"
    refine ev_call_fn C (by assumption) he (g_siftdown w) (by with_unfolding_all rfl) rfl ?_
    walk_at "go"
    refine ⟨At.kept (by assumption), ?_⟩
    obtain ⟨pr, hpc, back⟩ := a.call
    refine siftdown_spec C hpc rm1 (new := new) LsAt.self ?_ (by simp [hp1]) (by simp; exact om254 hp2 hlen) ?_
    · intro i hi
      rcases List.mem_or_eq_of_mem_set hi with hi | rfl
      · exact up (hpr i hi)
      · exact up hnp
    · intro s' n' hp'
      rw [upd_upd] at hp'
      have a := back _ _ hp'
      walk_at "all"
      refine k _ n' ?_
      unfold sftup
      rw [← hR]
      exact a.hp
end
end

section

section
variable {prog : Program} {w : World} {A : Around} {E : Value → Shared → Prop} {mg mb : Str → Option Value}
  {b s : Shared} {ps : List Prot} {H : HP} {Q : Value → Shared → Prop}
set_option maxRecDepth 100000
theorem heappush_spec (C : Ctx (hd.heap_1 w.params) b mg mb) (hp : Hp b ps H s) (rm : Rm 3 A) {x : Addr} {its : List It} {new : It}
    (hl : LsAt H x (its.map irf)) (hits : ∀ i ∈ its, PrAt H i.1 i.2) (hnew : PrAt H new.1 new.2) (hlen : its.length < 900)
    (k : ∀ s' n, Hp b ps (upd H x (lsO ((sdn new (its ++ [new]) its.length).map irf) n)) s' → Q .none s') :
    wpAny (model prog w) A (call (.ref 28) [.ref x, irf new]) Q E s := by
  refine call_def [("item", irf new), ("heap", .ref x)] C hp (by with_unfolding_all rfl) rfl rfl rfl (by kernel_rfl!) rm.room (BindsTo.of_eq rfl) (by decide) (locs rfl) ?_
  intro L s env he a
  dsimp only at he
  have rm1 : Rm 2 (A.deeper env) := rm.deeper
  have up : ∀ {o : Obj} {i : It}, PrAt H i.1 i.2 → PrAt (upd H x o) i.1 i.2 := fun h => h.upd (by obtain ⟨_, _, h⟩ := h; exact tp_ne_ls h hl)
  walk_at "st"
  refine ev_append ?_
  walk_at "go"
  refine ⟨_, _, _, _, _, _, _, rfl, by assumption, hl, ?_⟩
  walk_at "go"
  refine do_append (by assumption) hl (by simp; exact om125 hlen) ?_
  intro s n a
  rw [show its.map irf ++ [irf new] = (its ++ [new]).map irf from by simp] at a
  walk_at "st"
  refine ev_call_fn C (by assumption) he (g_siftdown w) (by with_unfolding_all rfl) rfl ?_
  walk_at "go"
  refine ev_call_b C (by assumption) he (g_len w) boot_len ?_
  walk_at "go"
  refine do_lenN (n := its.length + 1) (by assumption) LsAt.self (by simp) (by exact om122 hlen) ?_; intro _ _ _
  walk_at "go"
  refine ⟨At.kept (by assumption), ?_⟩
  rw [show ((its.length + 1 : Nat) : Int) - 1 = (its.length : Nat) from by exact om101]
  obtain ⟨pr, hpc, back⟩ := a.call
  refine siftdown_spec C hpc rm1 (new := new) LsAt.self ?_ (by simp) (by simp; exact om121 hlen) ?_
  · intro i hi
    rcases List.mem_append.mp hi with hi | hi
    · exact up (hits i hi)
    · rw [List.mem_singleton.mp hi]; exact up hnew
  · intro s' n' hp'
    rw [upd_upd] at hp'
    have a := back _ _ hp'
    walk_at "all"
    exact k _ n' a.hp
theorem heapreplace_spec (C : Ctx (hd.heap_1 w.params) b mg mb) (hp : Hp b ps H s) (rm : Rm 4 A) {x : Addr} {its : List It} {old new : It}
    (hl : LsAt H x (its.map irf)) (hits : ∀ i ∈ its, PrAt H i.1 i.2) (hnew : PrAt H new.1 new.2) (hold : its[0]? = some old) (hlen : its.length < 900)
    (k : ∀ s' n, Hp b ps (upd H x (lsO ((sftup (its.set 0 new) new).map irf) n)) s' → Q (irf old) s') :
    wpAny (model prog w) A (call (.ref 42) [.ref x, irf new]) Q E s := by
  refine call_def [("item", irf new), ("heap", .ref x)] C hp (by with_unfolding_all rfl) rfl rfl rfl (by kernel_rfl!) rm.room (BindsTo.of_eq rfl) (by decide) (locs rfl) ?_
  intro L s env he a
  dsimp only at he
  have rm1 : Rm 3 (A.deeper env) := rm.deeper
  have hposl : 0 < its.length := (List.getElem?_eq_some_iff.mp hold).1
  have up : ∀ {o : Obj} {i : It}, PrAt H i.1 i.2 → PrAt (upd H x o) i.1 i.2 := fun h => h.upd (by obtain ⟨_, _, h⟩ := h; exact tp_ne_ls h hl)
  walk_at "st"
  refine sub_list (v := irf old) (by assumption) hl (by exact om8) (by exact om6) (by simp [hold]) ?_
  walk_at "go"
  walk_at "st"
  refine set_list (by assumption) hl (by exact om8) (by exact om6) (by simp; exact om53 hposl) ?_
  intro s n a
  rw [Int.toNat_zero, ← List.map_set] at a
  walk_at "st"
  refine ev_call_fn C (by assumption) he (g_siftup w) (by with_unfolding_all rfl) rfl ?_
  walk_at "go"
  refine ⟨At.kept (by assumption), ?_⟩
  obtain ⟨pr, hpc, back⟩ := a.call
  refine siftup_spec C hpc rm1 (new := new) LsAt.self ?_ (by simp [hposl]) (by simp; exact om123 hlen) ?_
  · intro i hi
    rcases List.mem_or_eq_of_mem_set hi with hi | rfl
    · exact up (hits i hi)
    · exact up hnew
  · intro s' n' hp'
    rw [upd_upd] at hp'
    have a := back _ _ hp'
    walk_at "all"
    exact k _ n' a.hp
theorem heappop_spec (C : Ctx (hd.heap_1 w.params) b mg mb) (hp : Hp b ps H s) (rm : Rm 4 A) {x : Addr} {its : List It} {last : It}
    (hl : LsAt H x ((its ++ [last]).map irf)) (hits : ∀ i ∈ its ++ [last], PrAt H i.1 i.2) (hlen : its.length < 900)
    (k0 : its = [] → ∀ s' n, Hp b ps (upd H x (lsO [] n)) s' → Q (irf last) s')
    (k : ∀ old, its[0]? = some old → ∀ s' n, Hp b ps (upd H x (lsO ((sftup (its.set 0 last) last).map irf) n)) s' → Q (irf old) s') :
    wpAny (model prog w) A (call (.ref 35) [.ref x]) Q E s := by
  refine call_def [("heap", .ref x)] C hp (by with_unfolding_all rfl) rfl rfl rfl (by kernel_rfl!) rm.room (BindsTo.of_eq rfl) (by decide) (locs rfl) ?_
  intro L s env he a
  dsimp only at he
  have rm1 : Rm 3 (A.deeper env) := rm.deeper
  have up : ∀ {o : Obj} {i : It}, PrAt H i.1 i.2 → PrAt (upd H x o) i.1 i.2 := fun h => h.upd (by obtain ⟨_, _, h⟩ := h; exact tp_ne_ls h hl)
  have hl' : LsAt H x (its.map irf ++ [irf last]) := by simpa using hl
  walk_at "st"
  refine ev_pop ?_
  walk_at "go"
  refine ⟨_, _, _, _, _, _, _, rfl, by assumption, hl', ?_⟩
  refine do_pop (by assumption) hl' (by simp; exact om125 hlen) ?_
  intro s n a
  walk_at "go"
  walk_at "st"
  refine wpAny_isTrue_value ?_ (by with_unfolding_all rfl)
  walk_at "go"
  refine tr_list (by assumption) LsAt.self (by simp; exact om125 hlen) ?_
  intro s a
  cases its with
  | nil =>
    refine ite_false' ?_
    walk_at "all"
    exact k0 rfl _ _ a.hp
  | cons old r =>
    refine ite_true' ?_
    walk_at "st"
    refine sub_list (v := irf old) (by assumption) LsAt.self (by exact om8) (by exact om6) (by simp) ?_
    walk_at "go"
    walk_at "st"
    refine set_list (by assumption) LsAt.self (by exact om8) (by exact om6) (by simp) ?_
    intro s n a
    rw [upd_upd, Int.toNat_zero, ← List.map_set] at a
    walk_at "st"
    refine ev_call_fn C (by assumption) he (g_siftup w) (by with_unfolding_all rfl) rfl ?_
    walk_at "go"
    refine ⟨At.kept (by assumption), ?_⟩
    obtain ⟨pr, hpc, back⟩ := a.call
    refine siftup_spec C hpc rm1 (new := last) LsAt.self ?_ (by simp) (by simp at hlen ⊢; exact om104 hlen) ?_
    · intro i hi
      refine up (hits i ?_)
      rcases List.mem_or_eq_of_mem_set hi with hi | rfl
      · exact List.mem_append_left _ hi
      · exact List.mem_append_right _ (List.mem_singleton.mpr rfl)
    · intro s' n' hp'
      rw [upd_upd] at hp'
      have a := back _ _ hp'
      walk_at "all"
      exact k old rfl _ n' a.hp
end
end

section

/-- the sorter's four attributes -/
noncomputable def sEs (P : Params) (t1 t2 t3 t4 : Tok) (d r p f : Value) : List DictEntry :=
  [⟨PyData.keyHash P "_node2info", .str "_node2info" t1, d⟩, ⟨PyData.keyHash P "_ready_nodes", .str "_ready_nodes" t2, r⟩, ⟨PyData.keyHash P "_npassedout", .str "_npassedout" t3, p⟩, ⟨PyData.keyHash P "_nfinished", .str "_nfinished" t4, f⟩]
noncomputable def SAt (P : Params) (H : HP) (x dx : Addr) (d r p f : Value) : Prop := ∃ t1 t2 t3 t4, InsAt H x 172 dx #[] (sEs P t1 t2 t3 t4 d r p f) 4
/-- a node's record: its name, its count, the list of its followers -/
noncomputable def NdAt (H : HP) (y dy : Addr) (k np : Int) (sa : Addr) : Prop := ∃ t u, InsAt H y 75 dy #[some (.int k t), some (.int np u), some (.ref sa)] [] 0

section
variable {prog : Program} {w : World} {A : Around} {E : Value → Shared → Prop} {mg mb : Str → Option Value}
  {b s : Shared} {ps : List Prot} {H : HP} {L x dx y dy sa z : Addr} {l : List (Str × Value)} {Q : Value → Shared → Prop} {d r p f v : Value} {P : Params} {o : Obj} {k np : Int} {expr : Bool}
theorem InsAt.upd {C : Addr} {sl : Array (Option Value)} {es : List DictEntry} {n : Nat} (h : InsAt H x C dx sl es n) (h1 : x ≠ z) (h2 : dx ≠ z) : InsAt (upd H z o) x C dx sl es n := ⟨by rw [upd_ne h1]; exact h.1, by rw [upd_ne h2]; exact h.2⟩
theorem InsAt.fresh {C : Addr} {sl : Array (Option Value)} {es : List DictEntry} {n : Nat} (h : InsAt H x C dx sl es n) (h1 : H z = none) : InsAt (Mine.upd H z o) x C dx sl es n := ⟨upd_of h.1 h1, upd_of h.2 h1⟩
theorem SAt.upd (h : SAt P H x dx d r p f) (h1 : x ≠ z) (h2 : dx ≠ z) : SAt P (Mine.upd H z o) x dx d r p f := let ⟨t1, t2, t3, t4, e⟩ := h; ⟨t1, t2, t3, t4, e.upd h1 h2⟩
theorem SAt.fresh (h : SAt P H x dx d r p f) (h1 : H z = none) : SAt P (Mine.upd H z o) x dx d r p f := let ⟨t1, t2, t3, t4, e⟩ := h; ⟨t1, t2, t3, t4, e.fresh h1⟩
theorem NdAt.upd (h : NdAt H y dy k np sa) (h1 : y ≠ z) (h2 : dy ≠ z) : NdAt (Mine.upd H z o) y dy k np sa := let ⟨t, u, e⟩ := h; ⟨t, u, e.upd h1 h2⟩
theorem NdAt.fresh (h : NdAt H y dy k np sa) (h1 : H z = none) : NdAt (Mine.upd H z o) y dy k np sa := let ⟨t, u, e⟩ := h; ⟨t, u, e.fresh h1⟩

theorem ga_n2i (C : Ctx (hd.heap_1 w.params) b mg mb) (a : At b ps L H l s) (h : SAt P H x dx d r p f) (hv : handedIn d = true) (q : ∀ s', At b ps L H l s' → Q d s') : wpAny (model prog w) A (getAttr (.ref x) "_node2info" expr) Q E s := by
  obtain ⟨t1, t2, t3, t4, e⟩ := h
  exact ga_own C a e (k_getS w _) (k_dictS w) (k_f1 w) rfl (by with_unfolding_all rfl) hv q
theorem ga_ready (C : Ctx (hd.heap_1 w.params) b mg mb) (a : At b ps L H l s) (h : SAt P H x dx d r p f) (hv : handedIn r = true) (q : ∀ s', At b ps L H l s' → Q r s') : wpAny (model prog w) A (getAttr (.ref x) "_ready_nodes" expr) Q E s := by
  obtain ⟨t1, t2, t3, t4, e⟩ := h
  exact ga_own C a e (k_getS w _) (k_dictS w) (k_f2 w) rfl (by with_unfolding_all rfl) hv q
theorem ga_pass (C : Ctx (hd.heap_1 w.params) b mg mb) (a : At b ps L H l s) (h : SAt P H x dx d r p f) (hv : handedIn p = true) (q : ∀ s', At b ps L H l s' → Q p s') : wpAny (model prog w) A (getAttr (.ref x) "_npassedout" expr) Q E s := by
  obtain ⟨t1, t2, t3, t4, e⟩ := h
  exact ga_own C a e (k_getS w _) (k_dictS w) (k_f3 w) rfl (by with_unfolding_all rfl) hv q
theorem ga_fin (C : Ctx (hd.heap_1 w.params) b mg mb) (a : At b ps L H l s) (h : SAt P H x dx d r p f) (hv : handedIn f = true) (q : ∀ s', At b ps L H l s' → Q f s') : wpAny (model prog w) A (getAttr (.ref x) "_nfinished" expr) Q E s := by
  obtain ⟨t1, t2, t3, t4, e⟩ := h
  exact ga_own C a e (k_getS w _) (k_dictS w) (k_f4 w) rfl (by with_unfolding_all rfl) hv q
theorem SAt.ne (h : SAt P H x dx d r p f) : x ≠ dx := by
  obtain ⟨t1, t2, t3, t4, e1, e2⟩ := h
  rintro rfl; rw [e1] at e2; cases e2
theorem sa_ready {Q : Unit → Shared → Prop} (C : Ctx (hd.heap_1 w.params) b mg mb) (a : At b ps L H l s) (h : SAt w.params H x dx d r p f) (q : ∀ s' o, SAt w.params (upd H dx o) x dx d v p f → At b ps L (upd H dx o) l s' → Q () s') : wpAny (model prog w) A (setAttr (.ref x) "_ready_nodes" v) Q E s := by
  have hne := h.ne
  obtain ⟨t1, t2, t3, t4, e⟩ := h
  refine sa_own C a e (k_setS w) (k_overS w) (k_t2 w) (k_dictS w) (by with_unfolding_all rfl) (by show 4 < 900; decide) (fun s' t a => q s' _ ⟨t1, t2, t3, t4, ?_, ?_⟩ a)
  · rw [upd_ne hne]; exact e.1
  · rw [upd_self]; rfl
theorem sa_pass {Q : Unit → Shared → Prop} (C : Ctx (hd.heap_1 w.params) b mg mb) (a : At b ps L H l s) (h : SAt w.params H x dx d r p f) (q : ∀ s' o, SAt w.params (upd H dx o) x dx d r v f → At b ps L (upd H dx o) l s' → Q () s') : wpAny (model prog w) A (setAttr (.ref x) "_npassedout" v) Q E s := by
  have hne := h.ne
  obtain ⟨t1, t2, t3, t4, e⟩ := h
  refine sa_own C a e (k_setS w) (k_overS w) (k_t3 w) (k_dictS w) (by with_unfolding_all rfl) (by show 4 < 900; decide) (fun s' t a => q s' _ ⟨t1, t2, t3, t4, ?_, ?_⟩ a)
  · rw [upd_ne hne]; exact e.1
  · rw [upd_self]; rfl
theorem sa_fin {Q : Unit → Shared → Prop} (C : Ctx (hd.heap_1 w.params) b mg mb) (a : At b ps L H l s) (h : SAt w.params H x dx d r p f) (q : ∀ s' o, SAt w.params (upd H dx o) x dx d r p v → At b ps L (upd H dx o) l s' → Q () s') : wpAny (model prog w) A (setAttr (.ref x) "_nfinished" v) Q E s := by
  have hne := h.ne
  obtain ⟨t1, t2, t3, t4, e⟩ := h
  refine sa_own C a e (k_setS w) (k_overS w) (k_t4 w) (k_dictS w) (by with_unfolding_all rfl) (by show 4 < 900; decide) (fun s' t a => q s' _ ⟨t1, t2, t3, t4, ?_, ?_⟩ a)
  · rw [upd_ne hne]; exact e.1
  · rw [upd_self]; rfl
theorem ga_npred (C : Ctx (hd.heap_1 w.params) b mg mb) (a : At b ps L H l s) (h : NdAt H y dy k np sa) (q : ∀ t s', At b ps L H l s' → Q (.int np t) s') : wpAny (model prog w) A (getAttr (.ref y) "npredecessors" expr) Q E s := by
  obtain ⟨t, u, e⟩ := h
  exact ga_slot C a e (k_getN w _) (k_clsN w) (k_s2 w) (k_sg2 w) (k_sk2 w) (k_si2 w) rfl rfl (q u)
theorem ga_node (C : Ctx (hd.heap_1 w.params) b mg mb) (a : At b ps L H l s) (h : NdAt H y dy k np sa) (q : ∀ t s', At b ps L H l s' → Q (.int k t) s') : wpAny (model prog w) A (getAttr (.ref y) "node" expr) Q E s := by
  obtain ⟨t, u, e⟩ := h
  exact ga_slot C a e (k_getN w _) (k_clsN w) (k_s1 w) (k_sg1 w) (k_sk1 w) (k_si1 w) rfl rfl (q t)
theorem ga_succ (C : Ctx (hd.heap_1 w.params) b mg mb) (a : At b ps L H l s) (h : NdAt H y dy k np sa) (q : ∀ s', At b ps L H l s' → Q (.ref sa) s') : wpAny (model prog w) A (getAttr (.ref y) "successors" expr) Q E s := by
  obtain ⟨t, u, e⟩ := h
  exact ga_slot C a e (k_getN w _) (k_clsN w) (k_s3 w) (k_sg3 w) (k_sk3 w) (k_si3 w) rfl rfl q
theorem NdAt.ne (h : NdAt H y dy k np sa) : y ≠ dy := by
  obtain ⟨t, u, e1, e2⟩ := h
  rintro rfl; rw [e1] at e2; cases e2
theorem sa_npred {Q : Unit → Shared → Prop} {np' : Int} {t' : Tok} (C : Ctx (hd.heap_1 w.params) b mg mb) (a : At b ps L H l s) (h : NdAt H y dy k np sa) (q : ∀ s' o, NdAt (upd H y o) y dy k np' sa → At b ps L (upd H y o) l s' → Q () s') : wpAny (model prog w) A (setAttr (.ref y) "npredecessors" (.int np' t')) Q E s := by
  have hne := h.ne
  obtain ⟨t, u, e⟩ := h
  refine sa_slot C a e (k_setN w) (k_overN w) (k_st2 w) (k_sT2 w) (k_si2 w) (by decide) (fun s' a => q s' _ ⟨t, t', ?_, ?_⟩ a)
  · rw [upd_self]; rfl
  · rw [upd_ne hne.symm]; exact e.2

set_option maxRecDepth 100000
/-- _NodeInfo(k) -/
theorem mknode_spec {t : Tok} (C : Ctx (hd.heap_1 w.params) b mg mb) (hp : Hp b ps H s) (rm : Rm 3 A)
    (q : ∀ H' y dy sa s', (∀ a o, H a = some o → H' a = some o) → H y = none → H dy = none → H sa = none → NdAt H' y dy k 0 sa → LsAt H' sa [] → Hp b ps H' s' → Q (.ref y) s') :
    wpAny (model prog w) A (call (.ref 75) [.int k t]) Q E s := by
  refine do_make C hp (k_makesN w) (k_initN w) (k_fn71 w) ?_
  intro y dy s' hy hdy hne hp
  refine call_code [("node", .int k t), ("self", .ref y)] C hp (by with_unfolding_all rfl) rfl rfl rfl (by kernel_rfl!) (rm.make (n := 2)).room (BindsTo.of_eq rfl) (by decide) (locs rfl) ?_
  intro L s env he a
  dsimp only at he
  have i0 : InsAt (upd (upd H dy (W.dictOf [] 0)) y ⟨.ref 75, some dy, .plain, #[]⟩) y 75 dy #[] [] 0 := ⟨upd_self, by rw [upd_ne hne.symm, upd_self]⟩
  walk_at "st"
  refine sa_slot C (by assumption) i0 (k_setN w) (k_overN w) (k_st1 w) (k_sT1 w) (k_si1 w) (by decide) ?_
  intro s a
  rw [upd_upd] at a
  have i1 : InsAt (upd (upd H dy (W.dictOf [] 0)) y ⟨.ref 75, some dy, .plain, #[some (.int k t)]⟩) y 75 dy #[some (.int k t)] [] 0 := ⟨upd_self, by rw [upd_ne hne.symm, upd_self]⟩
  walk_at "st"
  rename_i t2 _
  refine sa_slot C a i1 (k_setN w) (k_overN w) (k_st2 w) (k_sT2 w) (k_si2 w) (by decide) ?_
  intro s a
  rw [upd_upd] at a
  have i2 : InsAt (upd (upd H dy (W.dictOf [] 0)) y ⟨.ref 75, some dy, .plain, #[some (.int k t), some (.int 0 t2)]⟩) y 75 dy #[some (.int k t), some (.int 0 t2)] [] 0 := ⟨upd_self, by rw [upd_ne hne.symm, upd_self]⟩
  walk_at "st"
  refine new_list a (by simp) ?_
  intro s sa hsa a
  walk_at "go"
  refine sa_slot C a (i2.fresh hsa) (k_setN w) (k_overN w) (k_st3 w) (k_sT3 w) (k_si3 w) (by decide) ?_
  intro s a
  walk_at "all"
  have hsy : sa ≠ y := by rintro rfl; exact absurd hsa (by rw [upd_self]; simp)
  have hsd : sa ≠ dy := by rintro rfl; exact absurd hsa (by rw [upd_ne hne.symm, upd_self]; simp)
  have hsa' : H sa = none := by rw [upd_ne hsy, upd_ne hsd] at hsa; exact hsa
  refine ⟨rfl, q _ y dy sa _ ?_ hy hdy hsa' ⟨t, t2, ?_, ?_⟩ ?_ a.hp⟩
  · intro z o e
    have hzy : z ≠ y := by rintro rfl; rw [hy] at e; cases e
    have hzd : z ≠ dy := by rintro rfl; rw [hdy] at e; cases e
    have hzs : z ≠ sa := by rintro rfl; rw [hsa'] at e; cases e
    rw [upd_ne hzy, upd_ne hzs, upd_ne hzy, upd_ne hzd]; exact e
  · rw [upd_self]; rfl
  · rw [upd_ne hne.symm, upd_ne hsd.symm, upd_ne hne.symm, upd_self]
  · exact ⟨0, by rw [upd_ne hsy, upd_self]⟩
end
end

section

/-- a list of ints -/
noncomputable def IlAt (H : HP) (a : Addr) (ns : List Int) : Prop := ∃ vs, LsAt H a vs ∧ IntsAre vs ns
/-- where the nodes lie -/
structure Ga where
  xa : Int → Addr
  da : Int → Addr
  sa : Int → Addr
/-- the nodes: who, counts, followers -/
structure GrAt (prog : Program) (w : World) (H : HP) (d : Addr) (keys : List Int) (α : Ga) (np : Int → Int) (su : Int → List Int) : Prop where
  dict : DcAt prog w H d (keys.map fun k => (k, .ref (α.xa k)))
  nodup : keys.Nodup
  node : ∀ k ∈ keys, NdAt H (α.xa k) (α.da k) k (np k) (α.sa k)
  list : ∀ k ∈ keys, IlAt H (α.sa k) (su k)
  apart : ∀ i ∈ keys, ∀ j ∈ keys, α.sa i = α.sa j → i = j
  dne : ∀ k ∈ keys, α.da k ≠ d
  out : ∀ k, k ∉ keys → np k = 0 ∧ su k = []
noncomputable def Gfoot (d : Addr) (keys : List Int) (α : Ga) (a : Addr) : Prop := a = d ∨ ∃ k ∈ keys, a = α.xa k ∨ a = α.da k ∨ a = α.sa k

section
variable {prog : Program} {w : World} {A : Around} {E : Value → Shared → Prop} {mg mb : Str → Option Value}
  {b s : Shared} {ps : List Prot} {H H' : HP} {L x dx y dy sa z d : Addr} {l : List (Str × Value)} {Q : Value → Shared → Prop} {r p f v : Value} {P : Params} {o : Obj} {k : Int} {keys : List Int} {α : Ga} {np : Int → Int} {su : Int → List Int} {ns : List Int}
theorem IlAt.upd (h : IlAt H x ns) (hn : x ≠ z) : IlAt (upd H z o) x ns := let ⟨vs, e, r⟩ := h; ⟨vs, e.upd hn, r⟩
theorem IlAt.fresh (h : IlAt H x ns) (hn : H z = none) : IlAt (Mine.upd H z o) x ns := let ⟨vs, e, r⟩ := h; ⟨vs, e.fresh hn, r⟩
theorem NdAt.inj {dy' sa' : Addr} {k' np np' : Int} (h : NdAt H y dy k np sa) (h' : NdAt H y dy' k' np' sa') : k = k' := by
  obtain ⟨t, u, e, _⟩ := h
  obtain ⟨t', u', e', _⟩ := h'
  rw [e] at e'; cases e'; rfl
theorem GrAt.xinj (g : GrAt prog w H d keys α np su) {i j : Int} (hi : i ∈ keys) (hj : j ∈ keys) (e : α.xa i = α.xa j) : i = j := by
  have h1 := g.node i hi
  rw [e] at h1
  exact h1.inj (g.node j hj)
theorem GrAt.foot_some (g : GrAt prog w H d keys α np su) {a : Addr} (h : Gfoot d keys α a) : ∃ o, H a = some o := by
  rcases h with rfl | ⟨k, hk, rfl | rfl | rfl⟩
  · obtain ⟨o, e, _⟩ := g.dict; exact ⟨o, e⟩
  · obtain ⟨t, u, e, _⟩ := g.node k hk; exact ⟨_, e⟩
  · obtain ⟨t, u, _, e⟩ := g.node k hk; exact ⟨_, e⟩
  · obtain ⟨vs, ⟨n, e⟩, _⟩ := g.list k hk; exact ⟨_, e⟩
theorem DcAt.mono {kvs : List (Int × Value)} (h : DcAt prog w H d kvs) (m : ∀ o, H d = some o → H' d = some o) : DcAt prog w H' d kvs := let ⟨o, e, r⟩ := h; ⟨o, m o e, r⟩
theorem NdAt.mono {np : Int} (h : NdAt H y dy k np sa) (m1 : ∀ o, H y = some o → H' y = some o) (m2 : ∀ o, H dy = some o → H' dy = some o) : NdAt H' y dy k np sa := let ⟨t, u, e1, e2⟩ := h; ⟨t, u, m1 _ e1, m2 _ e2⟩
theorem IlAt.mono (h : IlAt H x ns) (m : ∀ o, H x = some o → H' x = some o) : IlAt H' x ns := let ⟨vs, ⟨n, e⟩, r⟩ := h; ⟨vs, ⟨n, m _ e⟩, r⟩
theorem GrAt.mono (g : GrAt prog w H d keys α np su) (m : ∀ a, Gfoot d keys α a → ∀ o, H a = some o → H' a = some o) : GrAt prog w H' d keys α np su where
  dict := g.dict.mono (m d (.inl rfl))
  nodup := g.nodup
  node := fun k hk => (g.node k hk).mono (m _ (.inr ⟨k, hk, .inl rfl⟩)) (m _ (.inr ⟨k, hk, .inr (.inl rfl)⟩))
  list := fun k hk => (g.list k hk).mono (m _ (.inr ⟨k, hk, .inr (.inr rfl)⟩))
  apart := g.apart
  dne := g.dne
  out := g.out
theorem GrAt.off (g : GrAt prog w H d keys α np su) (hz : ¬ Gfoot d keys α z) : GrAt prog w (upd H z o) d keys α np su :=
  g.mono fun a ha _ e => by rw [upd_ne (by rintro rfl; exact hz ha)]; exact e
theorem GrAt.fresh (g : GrAt prog w H d keys α np su) (hz : H z = none) : GrAt prog w (upd H z o) d keys α np su :=
  g.off fun h => by obtain ⟨o, e⟩ := g.foot_some h; rw [hz] at e; cases e
/-- different kinds of objects lie apart -/
theorem GrAt.x_ne_d (g : GrAt prog w H d keys α np su) (hk : k ∈ keys) : α.xa k ≠ d := by
  intro e
  obtain ⟨t, u, e1, _⟩ := g.node k hk
  obtain ⟨o, e2, ⟨es, ep, ⟨h1, _⟩, _⟩⟩ := g.dict
  rw [e, e2] at e1; cases e1; cases h1
theorem GrAt.x_ne_da (g : GrAt prog w H d keys α np su) {j : Int} (hk : k ∈ keys) (hj : j ∈ keys) : α.xa k ≠ α.da j := by
  intro e
  obtain ⟨t, u, e1, _⟩ := g.node k hk
  obtain ⟨t', u', _, e2⟩ := g.node j hj
  rw [e, e2] at e1; cases e1
theorem GrAt.x_ne_sa (g : GrAt prog w H d keys α np su) {j : Int} (hk : k ∈ keys) (hj : j ∈ keys) : α.xa k ≠ α.sa j := by
  intro e
  obtain ⟨t, u, e1, _⟩ := g.node k hk
  obtain ⟨vs, ⟨n, e2⟩, _⟩ := g.list j hj
  rw [e, e2] at e1; cases e1
theorem GrAt.s_ne_d (g : GrAt prog w H d keys α np su) (hk : k ∈ keys) : α.sa k ≠ d := by
  intro e
  obtain ⟨vs, ⟨n, e1⟩, _⟩ := g.list k hk
  obtain ⟨o, e2, ⟨es, ep, ⟨h1, _⟩, _⟩⟩ := g.dict
  rw [e, e2] at e1
  rw [Option.some.inj e1] at h1
  exact absurd (show Value.type "list" = Value.type "dict" from h1) (by decide)
theorem GrAt.s_ne_da (g : GrAt prog w H d keys α np su) {j : Int} (hk : k ∈ keys) (hj : j ∈ keys) : α.sa k ≠ α.da j := by
  intro e
  obtain ⟨vs, ⟨n, e1⟩, _⟩ := g.list k hk
  obtain ⟨t', u', _, e2⟩ := g.node j hj
  rw [e, e2] at e1
  exact absurd (show Value.type "dict" = Value.type "list" from congrArg Obj.cls (Option.some.inj e1)) (by decide)
theorem GrAt.set_np {nv : Int} (g : GrAt prog w H d keys α np su) (hk : k ∈ keys) (h : NdAt (upd H (α.xa k) o) (α.xa k) (α.da k) k nv (α.sa k)) :
    GrAt prog w (upd H (α.xa k) o) d keys α (fun j => if j = k then nv else np j) su where
  dict := g.dict.upd (g.x_ne_d hk).symm
  nodup := g.nodup
  node := fun j hj => by
    by_cases e : j = k
    · subst e; simp only [if_true]; exact h
    · simp only [e, if_false]; exact (g.node j hj).upd (fun q => e (g.xinj hj hk q)) (g.x_ne_da hk hj).symm
  list := fun j hj => (g.list j hj).upd (g.x_ne_sa hk hj).symm
  apart := g.apart
  dne := g.dne
  out := fun j hj => by
    by_cases e : j = k
    · subst e; exact absurd hk hj
    · simp only [e, if_false]; exact g.out j hj
theorem GrAt.set_su (g : GrAt prog w H d keys α np su) (hk : k ∈ keys) (h : IlAt (upd H (α.sa k) o) (α.sa k) ns) :
    GrAt prog w (upd H (α.sa k) o) d keys α np (fun j => if j = k then ns else su j) where
  dict := g.dict.upd (g.s_ne_d hk).symm
  nodup := g.nodup
  node := fun j hj => (g.node j hj).upd (g.x_ne_sa hj hk) (g.s_ne_da hk hj).symm
  list := fun j hj => by
    by_cases e : j = k
    · subst e; simp only [if_true]; exact h
    · simp only [e, if_false]; exact (g.list j hj).upd (fun q => e (g.apart j hj k hk q))
  apart := g.apart
  dne := g.dne
  out := fun j hj => by
    by_cases e : j = k
    · subst e; exact absurd hk hj
    · simp only [e, if_false]; exact g.out j hj
theorem valueAt_keys (keys : List Int) (xa : Int → Addr) (k : Int) : valueAt (keys.map fun k => (k, Value.ref (xa k))) k = if k ∈ keys then some (.ref (xa k)) else none := by
  unfold valueAt
  induction keys with
  | nil => simp
  | cons i r ih =>
    simp only [List.map_cons, List.find?_cons]
    by_cases e : i = k
    · subst e; simp
    · simp only [e, decide_false]
      rw [ih]
      simp [Ne.symm e]
end
end

section

section
variable (w : World)
theorem k_keepN : keepIn (hd.heap_1 w.params) (.ref 75) = true := by kernel_rfl!
theorem k_keepS : keepIn (hd.heap_1 w.params) (.ref 172) = true := by kernel_rfl!
end
noncomputable def addK (keys : List Int) (k : Int) : List Int := if k ∈ keys then keys else keys ++ [k]
section
variable {prog : Program} {w : World} {A : Around} {E : Value → Shared → Prop} {mg mb : Str → Option Value}
  {b s : Shared} {ps : List Prot} {H H' : HP} {L x dx y dy sa z d : Addr} {l : List (Str × Value)} {Q : Value → Shared → Prop} {r p f v : Value} {o : Obj} {k : Int} {keys : List Int} {α : Ga} {np : Int → Int} {su : Int → List Int} {ns : List Int}
set_option maxRecDepth 100000
/-- TopologicalSorter() -/
theorem mksorter_spec (C : Ctx (hd.heap_1 w.params) b mg mb) (hp : Hp b ps H s) (rm : Rm 3 A)
    (q : ∀ H' x dx d s', (∀ a o, H a = some o → H' a = some o) → H x = none → H dx = none → H d = none → (∃ t u, SAt w.params H' x dx (.ref d) .none (.int 0 t) (.int 0 u)) → H' d = some (W.dictOf [] 0) → d ≠ dx → Hp b ps H' s' → Q (.ref x) s') :
    wpAny (model prog w) A (call (.ref 172) []) Q E s := by
  refine do_make C hp (k_makesS w) (k_initS w) (k_fn108 w) ?_
  intro x dx s' hx hdx hne hp
  refine call_code [("graph", .none), ("self", .ref x)] C hp (by with_unfolding_all rfl) rfl rfl rfl (by kernel_rfl!) (rm.make (n := 2)).room (kp_binds (C.K.keeps hp.keep) (fun S => by kernel_rfl!)) (by decide) (locs rfl) ?_
  intro L s env he a
  dsimp only at he
  have i0 : InsAt (upd (upd H dx (W.dictOf [] 0)) x ⟨.ref 172, some dx, .plain, #[]⟩) x 172 dx #[] [] 0 := ⟨upd_self, by rw [upd_ne hne.symm, upd_self]⟩
  walk_at "st"
  refine new_dict a ?_
  intro s d hd a
  walk_at "go"
  have hdx' : d ≠ dx := by rintro rfl; exact absurd hd (by rw [upd_ne hne.symm, upd_self]; simp)
  have hdxx : d ≠ x := by rintro rfl; exact absurd hd (by rw [upd_self]; simp)
  have hd' : H d = none := by rw [upd_ne hdxx, upd_ne hdx'] at hd; exact hd
  refine sa_own C a (i0.fresh hd) (k_setS w) (k_overS w) (k_t1 w) (k_dictS w) (by with_unfolding_all rfl) (by show 0 < 900; decide) ?_
  intro s t1 a
  have fr : ∀ {es : List DictEntry} {n : Nat}, InsAt (upd (upd (upd (upd H dx (W.dictOf [] 0)) x ⟨.ref 172, some dx, .plain, #[]⟩) d (W.dictOf [] 0)) dx (W.dictOf es n)) x 172 dx #[] es n :=
    ⟨by rw [upd_ne hne, upd_ne hdxx.symm, upd_self], upd_self⟩
  walk_at "st"
  refine sa_own C (by assumption) fr (k_setS w) (k_overS w) (k_t2 w) (k_dictS w) (by with_unfolding_all rfl) (by show 1 < 900; decide) ?_
  intro s t2 a
  rw [upd_upd] at a
  walk_at "st"
  rename_i u3 _
  refine sa_own C a fr (k_setS w) (k_overS w) (k_t3 w) (k_dictS w) (by with_unfolding_all rfl) (by show 2 < 900; decide) ?_
  intro s t3 a
  rw [upd_upd] at a
  walk_at "st"
  rename_i u4 _
  refine sa_own C a fr (k_setS w) (k_overS w) (k_t4 w) (k_dictS w) (by with_unfolding_all rfl) (by show 3 < 900; decide) ?_
  intro s t4 a
  rw [upd_upd] at a
  walk_at "st"
  refine ite_false' ?_
  walk_at "all"
  refine ⟨rfl, q _ x dx d _ ?_ hx hdx hd' ⟨u3, u4, t1, t2, t3, t4, ?_⟩ ?_ hdx' a.hp⟩
  · intro z o e
    have h1 : z ≠ x := by rintro rfl; rw [hx] at e; cases e
    have h2 : z ≠ dx := by rintro rfl; rw [hdx] at e; cases e
    have h3 : z ≠ d := by rintro rfl; rw [hd'] at e; cases e
    rw [upd_ne h2, upd_ne h3, upd_ne h1, upd_ne h2]; exact e
  · exact ⟨by rw [upd_ne hne, upd_ne hdxx.symm, upd_self], by rw [upd_self]; rfl⟩
  · rw [upd_ne hdx', upd_self]

theorem nodeinfo_spec {t : Tok} (C : Ctx (hd.heap_1 w.params) b mg mb) (hp : Hp b ps H s) (rm : Rm 5 A) (hs : SAt w.params H x dx (.ref d) r p f) (g : GrAt prog w H d keys α np su) (hdx : ¬ Gfoot d keys α dx) (hlen : keys.length < 900)
    (q : ∀ H' α' s', SAt w.params H' x dx (.ref d) r p f → GrAt prog w H' d (addK keys k) α' np su → ¬ Gfoot d (addK keys k) α' dx →
      (∀ a o, H a = some o → ¬ Gfoot d keys α a → H' a = some o) → (∀ a, Gfoot d (addK keys k) α' a → Gfoot d keys α a ∨ H a = none) → Hp b ps H' s' → Q (.ref (α'.xa k)) s') :
    wpAny (model prog w) A (call (.ref 115) [.ref x, .int k t]) Q E s := by
  refine call_def [("node", .int k t), ("self", .ref x)] C hp (by with_unfolding_all rfl) rfl rfl rfl (by kernel_rfl!) rm.room (BindsTo.of_eq rfl) (by decide) (locs rfl) ?_
  intro L s env he a
  dsimp only at he
  have rm1 : Rm 4 (A.deeper env) := rm.deeper
  walk_at "st"
  refine MethodCall_ ?_ (by with_unfolding_all rfl)
  walk_at "go"
  refine ga_n2i C (by assumption) hs rfl ?_
  intro s a
  refine gm_dict PySem.F.slot_dict_get PySem.F.type_dict_get a g.dict ?_
  refine dc_get (by with_unfolding_all rfl) ?_ (g.dict.notMods a)
  walk_at "go"
  refine ⟨k, t, _, _, _, _, _, _, rfl, a, g.dict, ?_⟩
  intro s a
  rw [valueAt_keys]
  by_cases hk : k ∈ keys
  · rw [if_pos hk, Option.getD_some]
    walk_at "all"
    refine ite_false' ?_
    walk_at "all"
    have ek : addK keys k = keys := by unfold addK; rw [if_pos hk]
    exact q H α _ hs (by rw [ek]; exact g) (by rw [ek]; exact hdx) (fun _ _ e _ => e) (fun a h => .inl (by rw [ek] at h; exact h)) a.hp
  · rw [if_neg hk, Option.getD_none]
    walk_at "all"
    refine ite_true' ?_
    walk_at "cons"
    refine wpAny_Assign_two ?_ (by with_unfolding_all rfl) (by with_unfolding_all rfl)
    refine ev_call_cls C (by assumption) he (g_NodeInfo w) (k_keepN w) ?_
    walk_at "go"
    refine ⟨At.kept (by assumption), ?_⟩
    obtain ⟨pr, hpc, back⟩ := a.call
    refine mknode_spec C hpc (rm1.mono (by exact om22)) ?_
    intro H' y dy sa s' hext hy hdy hsa hN hL hp'
    have a := back _ _ hp'
    have hs' : SAt w.params H' x dx (.ref d) r p f := by
      obtain ⟨t1, t2, t3, t4, e1, e2⟩ := hs
      exact ⟨t1, t2, t3, t4, hext _ _ e1, hext _ _ e2⟩
    have g' : GrAt prog w H' d keys α np su := g.mono fun a _ o e => hext a o e
    walk_at "go"
    refine ga_n2i C (by assumption) hs' rfl ?_
    intro s a
    walk_at "go"
    refine dc_set a g'.dict (by simp; exact om125 hlen) ?_
    intro s o ho a
    walk_at "all"
    have ek : addK keys k = keys ++ [k] := by unfold addK; rw [if_neg hk]
    have fsome : ∀ {a}, Gfoot d keys α a → ∃ o, H a = some o := fun h => g.foot_some h
    have hyd : y ≠ d := by rintro rfl; obtain ⟨o, e⟩ := fsome (.inl rfl); rw [hy] at e; cases e
    have hdyd : dy ≠ d := by rintro rfl; obtain ⟨o, e⟩ := fsome (.inl rfl); rw [hdy] at e; cases e
    have hsad : sa ≠ d := by rintro rfl; obtain ⟨o, e⟩ := fsome (.inl rfl); rw [hsa] at e; cases e
    have hkey : ∀ j ∈ keys, j ≠ k := fun j hj e => hk (e ▸ hj)
    have st : stored (keys.map fun k => (k, Value.ref (α.xa k))) k (.ref y) = (keys ++ [k]).map fun j => (j, Value.ref ((fun j => if j = k then y else α.xa j) j)) := by
      unfold stored
      rw [if_neg (by simp only [List.any_map, List.any_eq_true, Function.comp, decide_eq_true_eq]; rintro ⟨j, hj, e⟩; exact hkey j hj e)]
      rw [List.map_append]
      congr 1
      · exact List.map_congr_left fun j hj => by simp [hkey j hj]
      · simp
    refine Eq.mp (by simp) (q (upd H' d o) ⟨fun j => if j = k then y else α.xa j, fun j => if j = k then dy else α.da j, fun j => if j = k then sa else α.sa j⟩ _ ?_ ?_ ?_ ?_ ?_ a.hp)
    · refine hs'.upd ?_ ?_
      · rintro rfl
        obtain ⟨_, _, _, _, e1, _⟩ := hs
        obtain ⟨o', e2, ⟨_, _, hx, _⟩⟩ := g.dict
        rw [e1] at e2; cases e2; cases hx.1
      · intro e; exact hdx (.inl e)
    · rw [ek]
      refine ⟨⟨o, upd_self, by rw [← st]; exact ho⟩, ?_, fun j hj => ?_, fun j hj => ?_, ?_, fun j hj => ?_, fun j hj => g.out j fun h => hj (List.mem_append_left _ h)⟩
      · rw [List.nodup_append]
        exact ⟨g.nodup, by simp, fun i hi j hj e => hk (by rw [List.mem_singleton.mp hj] at e; exact e ▸ hi)⟩
      · rcases List.mem_append.mp hj with hj | hj
        · simp only [hkey j hj, if_false]
          exact (g'.node j hj).upd (g'.x_ne_d hj) (g.dne j hj)
        · have e := List.mem_singleton.mp hj
          subst e
          simp only [if_true, (g.out j hk).1]
          exact hN.upd hyd hdyd
      · rcases List.mem_append.mp hj with hj | hj
        · simp only [hkey j hj, if_false]
          exact (g'.list j hj).upd (g'.s_ne_d hj)
        · have e := List.mem_singleton.mp hj
          subst e
          simp only [if_true, (g.out j hk).2]
          exact ⟨[], hL.upd hsad, .nil⟩
      · have hsn : ∀ j ∈ keys, α.sa j ≠ sa := fun j hj e => by
          obtain ⟨o, e'⟩ := fsome (.inr ⟨j, hj, .inr (.inr rfl)⟩)
          rw [e, hsa] at e'; cases e'
        intro i hi j hj e
        dsimp only at e
        by_cases h1 : i = k
        · by_cases h2 : j = k
          · rw [h1, h2]
          · have hj' : j ∈ keys := (List.mem_append.mp hj).resolve_right fun h => h2 (List.mem_singleton.mp h)
            rw [if_pos h1, if_neg h2] at e
            exact absurd e.symm (hsn j hj')
        · have hi' : i ∈ keys := (List.mem_append.mp hi).resolve_right fun h => h1 (List.mem_singleton.mp h)
          by_cases h2 : j = k
          · rw [if_neg h1, if_pos h2] at e
            exact absurd e (hsn i hi')
          · have hj' : j ∈ keys := (List.mem_append.mp hj).resolve_right fun h => h2 (List.mem_singleton.mp h)
            rw [if_neg h1, if_neg h2] at e
            exact g.apart i hi' j hj' e
      · rcases List.mem_append.mp hj with hj | hj
        · simp only [hkey j hj, if_false]; exact g.dne j hj
        · have e := List.mem_singleton.mp hj
          subst e
          simp only [if_true]; exact hdyd
    · rintro (e | ⟨j, hj, e⟩)
      · exact hdx (.inl e)
      · rw [ek] at hj
        dsimp only at e
        obtain ⟨_, _, _, _, _, e2⟩ := hs
        rcases List.mem_append.mp hj with hj | hj
        · simp only [hkey j hj, if_false] at e
          exact hdx (.inr ⟨j, hj, e⟩)
        · simp only [List.mem_singleton.mp hj, if_true] at e
          rcases e with rfl | rfl | rfl
          · rw [hy] at e2; cases e2
          · rw [hdy] at e2; cases e2
          · rw [hsa] at e2; cases e2
    · intro z o' e hz
      rw [upd_ne (by rintro rfl; exact hz (.inl rfl))]
      exact hext z o' e
    · rintro z (e | ⟨j, hj, e⟩)
      · exact .inl (.inl e)
      · rw [ek] at hj
        dsimp only at e
        rcases List.mem_append.mp hj with hj | hj
        · simp only [hkey j hj, if_false] at e
          exact .inl (.inr ⟨j, hj, e⟩)
        · simp only [List.mem_singleton.mp hj, if_true] at e
          rcases e with rfl | rfl | rfl
          · exact .inr hy
          · exact .inr hdy
          · exact .inr hsa
end
end

section

/-- a step that keeps all but its own part, which takes in new places alone -/
noncomputable def Stp (H : HP) (ft : Addr → Prop) (H' : HP) (ft' : Addr → Prop) : Prop := (∀ a o, H a = some o → ¬ ft a → H' a = some o) ∧ ∀ a, ft' a → ft a ∨ H a = none
theorem Stp.refl {H : HP} {ft : Addr → Prop} : Stp H ft H ft := ⟨fun _ _ e _ => e, fun _ h => .inl h⟩
theorem Stp.trans {H H' H'' : HP} {ft ft' ft'' : Addr → Prop} (h : Stp H ft H' ft') (h' : Stp H' ft' H'' ft'') : Stp H ft H'' ft'' := by
  refine ⟨fun a o e n => h'.1 a o (h.1 a o e n) fun q => ?_, fun a q => ?_⟩
  · rcases h.2 a q with r | r
    · exact n r
    · rw [e] at r; cases r
  · rcases h'.2 a q with r | r
    · exact h.2 a r
    · by_cases hf : ft a
      · exact .inl hf
      · cases e : H a with
        | none => exact .inr rfl
        | some o => rw [h.1 a o e hf] at r; cases r
theorem Stp.new {H : HP} {ft : Addr → Prop} {z : Addr} {o : Obj} (hz : H z = none) : Stp H ft (upd H z o) ft := ⟨fun a o' e _ => upd_of e hz, fun _ h => .inl h⟩
theorem Stp.own {H : HP} {ft : Addr → Prop} {z : Addr} {o : Obj} (hz : ft z) : Stp H ft (upd H z o) ft := ⟨fun a o' e n => by rw [upd_ne (by rintro rfl; exact n hz)]; exact e, fun _ h => .inl h⟩
noncomputable def suAdd (su : Int → List Int) (pl : List Int) (k : Int) (j : Int) : List Int := su j ++ List.replicate (pl.count j) k
theorem suAdd_nil {su : Int → List Int} {k : Int} : suAdd su [] k = su := by funext j; simp [suAdd]
theorem suAdd_snoc {su : Int → List Int} {pl : List Int} {p k : Int} : suAdd su (pl ++ [p]) k = fun j => if j = p then suAdd su pl k p ++ [k] else suAdd su pl k j := by
  funext j
  unfold suAdd
  rw [List.count_append]
  by_cases e : j = p
  · subst e; simp [List.replicate_succ']
  · have : List.count j [p] = 0 := by simp [List.count_cons, Ne.symm e]
    simp [e, this]

section
variable {prog : Program} {w : World} {A : Around} {E : Value → Shared → Prop} {mg mb : Str → Option Value}
  {b s : Shared} {ps : List Prot} {H H' : HP} {L x dx y dy sa z d : Addr} {l : List (Str × Value)} {Q : Value → Shared → Prop} {r p f v : Value} {o : Obj} {k : Int} {keys : List Int} {α : Ga} {np : Int → Int} {su : Int → List Int} {ns : List Int}
theorem SAt.stp {ft ft' : Addr → Prop} (h : SAt w.params H x dx (.ref d) r p f) (st : Stp H ft H' ft') (h1 : ¬ ft x) (h2 : ¬ ft dx) : SAt w.params H' x dx (.ref d) r p f := by
  obtain ⟨t1, t2, t3, t4, e1, e2⟩ := h
  exact ⟨t1, t2, t3, t4, st.1 _ _ e1 h1, st.1 _ _ e2 h2⟩
theorem SAt.x_foot (h : SAt w.params H x dx (.ref d) r p f) (g : GrAt prog w H d keys α np su) : ¬ Gfoot d keys α x := by
  obtain ⟨t1, t2, t3, t4, e1, e2⟩ := h
  rintro (rfl | ⟨k, hk, rfl | rfl | rfl⟩)
  · obtain ⟨o', e2, ⟨_, _, hx, _⟩⟩ := g.dict
    rw [e1] at e2; cases e2; cases hx.1
  · obtain ⟨_, _, e, _⟩ := g.node k hk; rw [e1] at e; cases e
  · obtain ⟨_, _, _, e⟩ := g.node k hk; rw [e1] at e; cases e
  · obtain ⟨_, ⟨_, e⟩, _⟩ := g.list k hk; rw [e1] at e; cases e
theorem tp_foot {tp : Addr} {vs : List Value} {n : Nat} (g : GrAt prog w H d keys α np su) (h : H tp = some (tpO vs n)) : ¬ Gfoot d keys α tp := by
  rintro (rfl | ⟨k, hk, rfl | rfl | rfl⟩)
  · obtain ⟨o', e2, ⟨_, _, hx, _⟩⟩ := g.dict
    rw [h] at e2; cases e2
    exact absurd (show Value.type "tuple" = Value.type "dict" from hx.1) (by decide)
  · obtain ⟨_, _, e, _⟩ := g.node k hk; rw [h] at e; cases e
  · obtain ⟨_, _, _, e⟩ := g.node k hk; rw [h] at e
    exact absurd (show Value.type "tuple" = Value.type "dict" from congrArg Obj.cls (Option.some.inj e)) (by decide)
  · obtain ⟨_, ⟨_, e⟩, _⟩ := g.list k hk; rw [h] at e
    exact absurd (show Value.type "tuple" = Value.type "list" from congrArg Obj.cls (Option.some.inj e)) (by decide)
theorem IntsAre.snoc' {vs : List Value} {ns : List Int} {n : Int} {t : Tok} (h : IntsAre vs ns) : IntsAre (vs ++ [.int n t]) (ns ++ [n]) := h.append (.cons _ _ .nil)
theorem mem_addK {keys : List Int} {k : Int} : k ∈ addK keys k := by unfold addK; split <;> simp_all
theorem addK_sub {keys : List Int} {k j : Int} (h : j ∈ keys) : j ∈ addK keys k := by unfold addK; split <;> simp_all
theorem addK_len {keys : List Int} {k : Int} : (addK keys k).length ≤ keys.length + 1 := by unfold addK; split <;> simp
theorem foldK_len {pl : List Int} : ∀ {keys : List Int}, (pl.foldl addK keys).length ≤ keys.length + pl.length := by
  induction pl with
  | nil => intro keys; simp
  | cons p r ih => intro keys; rw [List.foldl_cons, List.length_cons]; have := ih (keys := addK keys p); have := addK_len (keys := keys) (k := p); exact om420 (by assumption) this
theorem foldK_sub {pl : List Int} : ∀ {keys : List Int} {j : Int}, j ∈ keys → j ∈ pl.foldl addK keys := by
  induction pl with
  | nil => intro keys j h; exact h
  | cons p r ih => intro keys j h; exact ih (addK_sub h)
set_option maxRecDepth 100000
theorem add_spec {t : Tok} {vs : List Value} {pl : List Int} {u1 u2 : Tok} (C : Ctx (hd.heap_1 w.params) b mg mb) (hp : Hp b ps H s) (rm : Rm 7 A) (hs : SAt w.params H x dx (.ref d) .none p f) (g : GrAt prog w H d keys α np su) (hdx : ¬ Gfoot d keys α dx) (hlen : keys.length < 800) (hsu : ∀ j, (su j).length < 900)
    (hvs : (vs = [] ∧ pl = []) ∨ ∃ p1 p2, vs = [.int p1 u1, .int p2 u2] ∧ pl = [p1, p2])
    (q : ∀ H' α' s', SAt w.params H' x dx (.ref d) .none p f → GrAt prog w H' d (pl.foldl addK (addK keys k)) α' (fun j => if j = k then np k + pl.length else np j) (suAdd su pl k) → ¬ Gfoot d (pl.foldl addK (addK keys k)) α' dx →
      Stp H (Gfoot d keys α) H' (Gfoot d (pl.foldl addK (addK keys k)) α') → Hp b ps H' s' → Q .none s') :
    wpAny (model prog w) A (call (.ref 122) (.ref x :: .int k t :: vs)) Q E s := by
  have hint : IntsAre vs pl := by
    rcases hvs with ⟨rfl, rfl⟩ | ⟨p1, p2, rfl, rfl⟩
    · exact .nil
    · exact .cons _ _ (.cons _ _ .nil)
  have hvl : vs.length ≤ 2 := by rcases hvs with ⟨rfl, rfl⟩ | ⟨p1, p2, rfl, rfl⟩ <;> simp
  have hpl : pl.length = vs.length := hint.length.symm
  refine call_defV (nm := "predecessors") (vs := vs) [("node", .int k t), ("self", .ref x)] C hp (by with_unfolding_all rfl) rfl rfl rfl (by kernel_rfl!) rm.room (by rcases hvs with ⟨rfl, rfl⟩ | ⟨p1, p2, rfl, rfl⟩ <;> with_unfolding_all rfl) (by exact om137 hvl) (by decide) (locs rfl) rfl ?_
  intro L s env tp he htp a
  dsimp only at he
  have rm1 : Rm 6 (A.deeper env) := rm.deeper
  have hs0 := hs.fresh (o := tpO vs 0) htp
  have g0 := g.fresh (o := tpO vs 0) htp
  have st0 : Stp H (Gfoot d keys α) (upd H tp (tpO vs 0)) (Gfoot d keys α) := .new htp
  have htpf : ¬ Gfoot d keys α tp := fun h => by obtain ⟨o, e⟩ := g.foot_some h; rw [htp] at e; cases e
  walk_at "st"
  refine ga_ready C (by assumption) hs0 rfl ?_
  intro s a
  walk_at "go"
  refine ite_false' ?_
  walk_at "go"
  walk_at "st"
  refine MethodCall_ ?_ (by with_unfolding_all rfl)
  walk_at "go"
  obtain ⟨t1, t2, t3, t4, i0⟩ := id hs0
  refine gm_own C a i0 (k_getS w _) (k_m1 w) (k_mt1 w) (by with_unfolding_all rfl) ?_
  refine cw_meth C (by with_unfolding_all rfl) rfl ?_
  walk_at "go"
  refine ⟨At.kept (by assumption), ?_⟩
  obtain ⟨pr, hpc, back⟩ := a.call
  refine nodeinfo_spec C hpc (rm1.mono (by exact om23)) hs0 g0 hdx (by exact om120 hlen) ?_
  intro H1 α1 s' hs1 g1 hdx1 k1 n1 hp'
  have st1 : Stp (upd H tp (tpO vs 0)) (Gfoot d keys α) H1 (Gfoot d (addK keys k) α1) := ⟨k1, n1⟩
  have a := back _ _ hp'
  walk_at "go"
  walk_at "st"
  refine ga_npred C (by assumption) (g1.node k mem_addK) ?_
  intro tn s a
  have htp1 : H1 tp = some (tpO vs 0) := st1.1 _ _ upd_self htpf
  refine ev_call_b C (by assumption) he (g_len w) boot_len ?_
  walk_at "go"
  refine do_lenT (vs := vs) a ⟨0, htp1⟩ (by exact om137 hvl) ?_
  intro tl s a
  walk_at "go"
  refine sa_npred C a (g1.node k mem_addK) ?_
  intro s o hN a
  walk_at "go"
  have g2 := g1.set_np mem_addK hN
  have xf : Gfoot d (addK keys k) α1 (α1.xa k) := .inr ⟨k, mem_addK, .inl rfl⟩
  have st2 := (st0.trans st1).trans (Stp.own (o := o) xf)
  have htpx : tp ≠ α1.xa k := by
    intro e
    obtain ⟨_, _, e1, _⟩ := g1.node k mem_addK
    rw [← e, htp1] at e1; cases e1
  have hs2 : SAt w.params (upd H1 (α1.xa k) o) x dx (.ref d) .none p f := hs1.upd (fun e => hs1.x_foot g1 (e ▸ xf)) (fun e => hdx1 (e ▸ xf))
  have htp2 : upd H1 (α1.xa k) o tp = some (tpO vs 0) := by rw [upd_ne htpx]; exact htp1
  walk_at "cons"
  refine wpAny_For ?_ (fun _ => rfl)
  walk_at "go"
  have npe : (fun j => if j = k then np k + (vs.length : Int) else np j) = fun j => if j = k then np k + (pl.length : Int) else np j := by rw [hpl]
  refine for_tuple (fun i H' l => ∃ α' : Ga, (SAt w.params H' x dx (.ref d) .none p f ∧ GrAt prog w H' d ((pl.take i).foldl addK (addK keys k)) α' (fun j => if j = k then np k + pl.length else np j) (suAdd su (pl.take i) k) ∧ ¬ Gfoot d ((pl.take i).foldl addK (addK keys k)) α' dx) ∧
      Stp H (Gfoot d keys α) H' (Gfoot d ((pl.take i).foldl addK (addK keys k)) α') ∧ H' tp = some (tpO vs 0) ∧ Names l [("self", .ref x), ("node", .int k t)]) rm1.hand a ?_ htp2 ⟨0, rfl⟩ (fun i H l h => by obtain ⟨_, _, _, h, _⟩ := h; exact h) ?_ ?_ ?_
  · refine ⟨α1, ⟨hs2, ?_, hdx1⟩, st2, htp2, by walk_at "names"⟩
    rw [List.take_zero, suAdd_nil, ← npe]; exact g2
  · intro i v s ps' H' l hv hI9 a up
    walk_at "gp"
    obtain ⟨α', ⟨hs', g', hdx'⟩, st', htp', hnm⟩ := hI9
    have hil : i < pl.length := by rw [hpl]; exact (List.getElem?_eq_some_iff.mp hv).1
    obtain ⟨u, hu⟩ := hint.get i pl[i] (by simp [hil])
    rw [hu] at hv; cases hv
    have a := a.to (l' := [("self", .ref x), ("node", .int k t)]) hnm
    walk_at "go"
    walk_at "st"
    refine MethodCall_ ?_ (by with_unfolding_all rfl)
    walk_at "go"
    obtain ⟨t1, t2, t3, t4, i0⟩ := id hs'
    refine gm_own C a i0 (k_getS w _) (k_m1 w) (k_mt1 w) (by with_unfolding_all rfl) ?_
    refine cw_meth C (by with_unfolding_all rfl) rfl ?_
    walk_at "go"
    refine ⟨At.kept (by assumption), ?_⟩
    obtain ⟨pr, hpc, back⟩ := a.call
    refine nodeinfo_spec C hpc (rm1.mono (by exact om23)) hs' g' hdx' (by have h1 := foldK_len (pl := pl.take i) (keys := addK keys k); have h2 := addK_len (keys := keys) (k := k); have h3 : (pl.take i).length ≤ pl.length := (List.take_sublist i pl).length_le; exact om449 hlen hvl hpl h1 h2 h3) ?_
    intro H2 α2 s' hs2 g2 hdx2 k2 n2 hp'
    have st3 : Stp H' (Gfoot d ((pl.take i).foldl addK (addK keys k)) α') H2 (Gfoot d (addK ((pl.take i).foldl addK (addK keys k)) pl[i]) α2) := ⟨k2, n2⟩
    have a := back _ _ hp'
    walk_at "go"
    walk_at "st"
    refine ev_append ?_ (by with_unfolding_all rfl) (by with_unfolding_all rfl) (by with_unfolding_all rfl)
    walk_at "go"
    refine ga_succ C (by assumption) (g2.node pl[i] mem_addK) ?_
    intro s a
    obtain ⟨ws, hls, hw⟩ := g2.list pl[i] mem_addK
    refine ⟨_, _, _, _, _, _, _, rfl, a, hls, ?_⟩
    walk_at "go"
    refine do_append a hls ?_ ?_
    · have h1 := hw.length
      have h2 := hsu pl[i]
      unfold suAdd at h1
      simp only [List.length_append, List.length_replicate] at h1
      have h3 : List.count pl[i] (pl.take i) ≤ (pl.take i).length := List.count_le_length
      have h4 : (pl.take i).length ≤ pl.length := (List.take_sublist i pl).length_le
      exact om450 hvl hpl h2 h1 h3 h4
    · intro s n a
      walk_at "all"
      have sf : Gfoot d (addK ((pl.take i).foldl addK (addK keys k)) pl[i]) α2 (α2.sa pl[i]) := .inr ⟨_, mem_addK, .inr (.inr rfl)⟩
      have et : pl.take (i + 1) = pl.take i ++ [pl[i]] := by rw [List.take_add_one]; simp [hil]
      have ek : (pl.take (i + 1)).foldl addK (addK keys k) = addK ((pl.take i).foldl addK (addK keys k)) pl[i] := by rw [et, List.foldl_append]; rfl
      have htp2 : H2 tp = some (tpO vs 0) := st3.1 _ _ htp' (tp_foot g' htp')
      refine ⟨_, _, a, α2, ⟨hs2.upd (fun e => hs2.x_foot g2 (e ▸ sf)) (fun e => hdx2 (e ▸ sf)), ?_, by rw [ek]; exact hdx2⟩, by rw [ek]; exact (st'.trans st3).trans (Stp.own sf), ?_, by walk_at "names"⟩
      · rw [ek, et, suAdd_snoc]
        exact g2.set_su mem_addK ⟨_, LsAt.self, IntsAre.snoc' hw⟩
      · rw [upd_ne (show tp ≠ α2.sa pl[i] from fun e => tp_foot g2 htp2 (by rw [e]; exact sf))]; exact htp2
  · rintro s H' l ⟨α', ⟨hs', g', hdx'⟩, st', htp', hnm⟩ a
    rw [← hpl, List.take_length] at *
    walk_at "all"
    exact q H' α' _ hs' g' hdx' st' a.hp
  · exact fun _ _ _ _ _ _ q => wpAny_pure q
end
end

section

/-- a tuple of ints -/
noncomputable def ItAt (H : HP) (a : Addr) (ns : List Int) : Prop := ∃ vs, TpAt H a vs ∧ IntsAre vs ns
/-- the sorter's own part -/
noncomputable def Sft (dx rl d : Addr) (keys : List Int) (α : Ga) (a : Addr) : Prop := a = dx ∨ a = rl ∨ Gfoot d keys α a
section
variable (w : World)
theorem g_out : ∃ t, nsIn (hd.heap_1 w.params) mainGlobals "_NODE_OUT" = some (some (.int (-1) t)) := ⟨_, by with_unfolding_all rfl⟩
theorem g_done : ∃ t, nsIn (hd.heap_1 w.params) mainGlobals "_NODE_DONE" = some (some (.int (-2) t)) := ⟨_, by with_unfolding_all rfl⟩
end
section
variable {prog : Program} {w : World} {A : Around} {E : Value → Shared → Prop} {mg mb : Str → Option Value}
  {b s : Shared} {ps : List Prot} {H H' : HP} {L x dx y dy sa z d rl : Addr} {l : List (Str × Value)} {Q : Value → Shared → Prop} {r p f v : Value} {o : Obj} {k pn fn : Int} {keys : List Int} {α : Ga} {np : Int → Int} {su : Int → List Int} {ns rdy : List Int} {vs : List Value}
theorem do_tuple (a : At b ps L H l s) (hl : LsAt H x vs) (hb : vs.length < 100000) (h : ∀ s' x, H x = none → At b ps L (upd H x (tpO vs 0)) l s' → Q (.ref x) s') : wpAny (model prog w) A (call (.type "tuple") [.ref x]) Q E s := by
  refine call_tuple_list (hl.isList a) (fun h' hk => ?_) (by simp only [List.size_toArray]; show vs.length ≤ 2 ^ 24; exact om114 hb)
  have a' := a.all hk s.toks
  exact h _ _ (a'.fresh (get_size h')) (a'.push (tpO vs 0) rfl s.toks)
theorem do_clear (a : At b ps L H l s) (hl : LsAt H x vs) (hb : vs.length < 100000) (h : ∀ s' n, At b ps L (upd H x (lsO [] n)) l s' → Q .none s') : wpAny (model prog w) A (call (.builtin "list.clear") [.ref x]) Q E s := by
  obtain ⟨n, e⟩ := hl
  refine call_meets PySem.F.slot_list_clear ⟨_, a.get e, rfl⟩ PySem.F.entry_list_clear (PySem.F.args_list_clear_1 _) (PySem.AutoSeq1.list_clear_list_0 x vs.toArray n (by simp only [List.size_toArray]; show vs.length ≤ 2 ^ 24; exact om114 hb)) ⟨a.get e, ?_⟩
  have q := PySem.IsL.update (h := s.heap) (l := x) (items := vs.toArray) (n := n) (a.get e) (fun _ => #[])
  exact h _ _ (a.set e (Heap.SameBut.update ..) q s.toks)
theorem IlAt.get (h : IlAt H x ns) : ∃ n vs, H x = some (lsO vs n) ∧ IntsAre vs ns := let ⟨vs, ⟨n, e⟩, r⟩ := h; ⟨n, vs, e, r⟩
set_option maxRecDepth 100000
theorem getready_spec {tp tf : Tok} (C : Ctx (hd.heap_1 w.params) b mg mb) (hp : Hp b ps H s) (rm : Rm 3 A) (hs : SAt w.params H x dx (.ref d) (.ref rl) (.int pn tp) (.int fn tf)) (g : GrAt prog w H d keys α np su) (hdx : ¬ Gfoot d keys α dx)
    (hr : IlAt H rl rdy) (hrl : ¬ Gfoot d keys α rl) (hsub : ∀ k ∈ rdy, k ∈ keys) (hlen : rdy.length < 900)
    (q : ∀ H' y t s', SAt w.params H' x dx (.ref d) (.ref rl) (.int (pn + rdy.length) t) (.int fn tf) → GrAt prog w H' d keys α (fun j => if j ∈ rdy then -1 else np j) su → IlAt H' rl [] → H y = none → ItAt H' y rdy →
      Stp H (Sft dx rl d keys α) H' (Sft dx rl d keys α) → Hp b ps H' s' → Q (.ref y) s') :
    wpAny (model prog w) A (call (.ref 134) [.ref x]) Q E s := by
  refine call_def [("self", .ref x)] C hp (by with_unfolding_all rfl) rfl rfl rfl (by kernel_rfl!) rm.room (BindsTo.of_eq rfl) (by decide) (locs rfl) ?_
  intro L s env he a
  dsimp only at he
  have rm1 : Rm 2 (A.deeper env) := rm.deeper
  walk_at "st"
  refine ga_ready C (by assumption) hs rfl ?_
  intro s a
  walk_at "go"
  refine ite_false' ?_
  walk_at "go"
  walk_at "st"
  refine ev_call_t C (by assumption) he (g_tuple w) boot_tuple ?_
  walk_at "go"
  refine ga_ready C (by assumption) hs rfl ?_
  intro s a
  walk_at "go"
  obtain ⟨vs, hl, hint⟩ := id hr
  have hvl := hint.length
  refine do_tuple a hl (by exact om259 hvl hlen) ?_
  intro s y hy a
  walk_at "go"
  have hs0 := hs.fresh (o := tpO vs 0) hy
  have g0 := g.fresh (o := tpO vs 0) hy
  walk_at "st"
  refine ga_n2i C (by assumption) hs0 rfl ?_
  intro s a
  walk_at "go"
  walk_at "cons"
  refine wpAny_For ?_ (fun _ => rfl)
  walk_at "go"
  have xne : x ≠ rl := by
    rintro rfl
    obtain ⟨_, _, _, _, e1, _⟩ := hs
    obtain ⟨n, e2⟩ := hl
    rw [e1] at e2; cases e2
  have dxrl : dx ≠ rl := by
    rintro rfl
    obtain ⟨_, _, _, _, _, e1⟩ := hs
    obtain ⟨n, e2⟩ := hl
    rw [e1] at e2
    exact absurd (show Value.type "dict" = Value.type "list" from congrArg Obj.cls (Option.some.inj e2)) (by decide)
  refine for_tuple (fun i H' l => (SAt w.params H' x dx (.ref d) (.ref rl) (.int pn tp) (.int fn tf) ∧ GrAt prog w H' d keys α (fun j => if j ∈ rdy.take i then -1 else np j) su ∧ LsAt H' rl vs) ∧
      Stp H (Sft dx rl d keys α) H' (Sft dx rl d keys α) ∧ H' y = some (tpO vs 0) ∧ Names l [("n2i", .ref d), ("result", .ref y), ("self", .ref x)]) rm1.hand a ?_ upd_self ⟨0, rfl⟩ (fun i H l h => h.2.2.1) ?_ ?_ ?_
  · refine ⟨⟨hs0, by simpa using g0, hl.fresh hy⟩, .new hy, upd_self, by walk_at "names"⟩
  · intro i v s ps' H' l hv hI9 a up
    walk_at "gp"
    obtain ⟨⟨hs', g', hl'⟩, st', hy', hnm⟩ := hI9
    have hil : i < rdy.length := by rw [← hvl]; exact (List.getElem?_eq_some_iff.mp hv).1
    obtain ⟨u, hu⟩ := hint.get i rdy[i] (by simp [hil])
    rw [hu] at hv; cases hv
    have a := a.to (l' := [("n2i", .ref d), ("result", .ref y), ("self", .ref x)]) hnm
    have hk : rdy[i] ∈ keys := hsub _ (List.getElem_mem hil)
    walk_at "go"
    walk_at "st"
    obtain ⟨to, ho⟩ := g_out w
    refine ev_global C (by assumption) he ho ?_
    walk_at "go"
    refine dc_sub (by assumption) g'.dict (by rw [valueAt_keys, if_pos hk]) ?_
    intro s a
    refine sa_npred C a (g'.node _ hk) ?_
    intro s o hN a
    walk_at "all"
    have xf : Gfoot d keys α (α.xa rdy[i]) := .inr ⟨_, hk, .inl rfl⟩
    refine ⟨_, _, a, ⟨hs'.upd (fun e => hs'.x_foot g' (e ▸ xf)) (fun e => hdx (e ▸ xf)), ?_, hl'.upd (fun e => hrl (e ▸ xf))⟩, st'.trans (Stp.own (.inr (.inr xf))), ?_, by walk_at "names"⟩
    · have := g'.set_np hk hN
      have e : (fun j => if j = rdy[i] then (-1 : Int) else if j ∈ rdy.take i then -1 else np j) = fun j => if j ∈ rdy.take (i + 1) then -1 else np j := by
        funext j
        rw [show rdy.take (i + 1) = rdy.take i ++ [rdy[i]] from by rw [List.take_add_one]; simp [hil]]
        by_cases h1 : j = rdy[i]
        · rw [if_pos h1, if_pos (by rw [h1]; exact List.mem_append_right _ (List.mem_singleton.mpr rfl))]
        · rw [if_neg h1]
          have : (j ∈ rdy.take i ++ [rdy[i]]) ↔ j ∈ rdy.take i := by rw [List.mem_append, List.mem_singleton]; exact ⟨fun h => h.resolve_right h1, .inl⟩
          simp only [this]
      rw [← e]; exact this
    · rw [upd_ne (show y ≠ α.xa rdy[i] from fun e => tp_foot g' hy' (by rw [e]; exact xf))]; exact hy'
  · rintro s H' l ⟨⟨hs', g', hl'⟩, st', hy', hnm⟩ a
    rw [hvl, List.take_length] at g'
    have a := a.to (l' := [("n2i", .ref d), ("result", .ref y), ("self", .ref x)]) hnm
    walk_at "go"
    walk_at "st"
    refine ev_method_ls PySem.F.slot_list_clear PySem.F.type_list_clear ?_ (by with_unfolding_all rfl) (by with_unfolding_all rfl) (by with_unfolding_all rfl)
    walk_at "go"
    refine ga_ready C (by assumption) hs' rfl ?_
    intro s a
    refine ⟨_, _, _, _, _, _, _, rfl, a, hl', callWith_method0 ?_⟩
    refine do_clear a hl' (by exact om259 hvl hlen) ?_
    intro s n a
    have yrl : y ≠ rl := by rintro rfl; exact tp_ne_ls ⟨0, hy'⟩ hl' rfl
    have hs2 := hs'.upd (o := lsO [] n) xne dxrl
    have g2 := g'.off (o := lsO [] n) hrl
    walk_at "go"
    walk_at "st"
    refine ga_pass C (by assumption) hs2 rfl ?_
    intro s a
    refine ev_call_b C (by assumption) he (g_len w) boot_len ?_
    walk_at "go"
    refine do_lenT (vs := vs) a ⟨0, by rw [upd_ne yrl]; exact hy'⟩ (by exact om259 hvl hlen) ?_
    intro tl s a
    walk_at "go"
    refine sa_pass C a hs2 ?_
    intro s o hs3 a
    walk_at "all"
    rw [hvl] at hs3
    refine q _ y _ _ hs3 (g2.off hdx) ?_ hy ⟨vs, ?_, hint⟩ ((st'.trans (Stp.own (.inr (.inl rfl)))).trans (Stp.own (.inl rfl))) a.hp
    · exact ⟨[], LsAt.self.upd dxrl.symm, .nil⟩
    · refine ⟨0, ?_⟩
      have ydx : y ≠ dx := by
        rintro rfl
        obtain ⟨_, _, _, _, _, e1⟩ := hs'
        rw [hy'] at e1
        exact absurd (show Value.type "tuple" = Value.type "dict" from congrArg Obj.cls (Option.some.inj e1)) (by decide)
      rw [upd_ne ydx, upd_ne yrl]; exact hy'
  · exact fun _ _ _ _ _ _ q => wpAny_pure q
end
end

section

theorem zipNil (x : Value) (vs : List Value) (n : Str) : List.zip [n] (x :: vs) = [(n, x)] := by simp
theorem bind_done {fd : FuncData} {x : Value} {vs : List Value} {a va : Arg} (hp : fd.params.posonlyargs = []) (ha : fd.params.args = [a]) (hv : fd.params.vararg = some va) (hk : fd.params.kwonlyargs = []) (hkw : fd.params.kwarg = none) (hd : fd.defaults = .none) :
    bindArgs fd ⟨x :: vs, []⟩ = (newTuple vs >>= fun t => pure ([(a.arg, x)] ++ [(va.arg, t)])) := by
  unfold bindArgs
  simp only [hp, ha, hk, hkw, hd, hv, List.map_nil, List.map_cons, List.nil_append, zipNil, List.forIn_nil, pure_bind, List.length_singleton, Option.isNone_some, Bool.and_false, Bool.false_eq_true, if_false]
  have hs : seqItems? Value.none = pure none := rfl
  have hl : List.lookup a.arg [(a.arg, x)] = some x := by simp [List.lookup]
  rw [hs]
  simp only [pure_bind, Option.getD_none, List.drop_nil, List.length_nil, Nat.sub_zero, List.take, List.filter, hl, Option.isNone_some, List.isEmpty_nil, Bool.not_true, Bool.false_eq_true, if_false, List.drop, List.zip_nil_right, List.forIn_nil, List.append_nil, List.filterMap, Option.map_some]

abbrev Ds := (Int → Int) × List Int
/-- a follower's count goes down; at nought it is ready -/
noncomputable def decOne (st : Ds) (j : Int) : Ds := (fun i => if i = j then st.1 j - 1 else st.1 i, if st.1 j - 1 = 0 then st.2 ++ [j] else st.2)
noncomputable def doneOne (su : Int → List Int) (st : Ds) (k : Int) : Ds := (su k).foldl decOne (fun i => if i = k then -2 else st.1 i, st.2)
noncomputable def doneAll (su : Int → List Int) (st : Ds) (ks : List Int) : Ds := ks.foldl (doneOne su) st
theorem decOne_len (js : List Int) : ∀ (st : Ds), (js.foldl decOne st).2.length ≤ st.2.length + js.length := by
  induction js with
  | nil => intro st; simp
  | cons j r ih =>
    intro st
    rw [List.foldl_cons, List.length_cons]
    have h1 := ih (decOne st j)
    have h2 : (decOne st j).2.length ≤ st.2.length + 1 := by unfold decOne; dsimp only; split <;> simp
    exact om420 h1 h2
theorem doneAll_len {su : Int → List Int} (hsu : ∀ k, (su k).length ≤ 40) (ks : List Int) : ∀ (st : Ds), (doneAll su st ks).2.length ≤ st.2.length + 40 * ks.length := by
  induction ks with
  | nil => intro st; simp [doneAll]
  | cons k r ih =>
    intro st
    show (doneAll su (doneOne su st k) r).2.length ≤ _
    have h1 := ih (doneOne su st k)
    have h2 : (doneOne su st k).2.length ≤ st.2.length + (su k).length := decOne_len (su k) _
    have h3 := hsu k
    rw [List.length_cons]
    exact om444 h1 h2 h3

section
variable {prog : Program} {w : World} {A : Around} {E : Value → Shared → Prop} {mg mb : Str → Option Value}
  {b s : Shared} {ps : List Prot} {H H' : HP} {L x dx y dy sa z d rl : Addr} {l : List (Str × Value)} {Q : Value → Shared → Prop} {r p f v : Value} {o : Obj} {k pn fn : Int} {keys : List Int} {α : Ga} {np : Int → Int} {su : Int → List Int} {ns rdy nodes : List Int} {vs : List Value}
set_option maxRecDepth 100000
theorem done_code {tp tf : Tok} (C : Ctx (hd.heap_1 w.params) b mg mb) (hp : Hp b ps H s) (rm : Rm 3 A) (hs : SAt w.params H x dx (.ref d) (.ref rl) (.int pn tp) (.int fn tf)) (g : GrAt prog w H d keys α np su) (hdx : ¬ Gfoot d keys α dx)
    (hr : IlAt H rl rdy) (hrl : ¬ Gfoot d keys α rl) (hint : IntsAre vs nodes) (hsub : ∀ k ∈ nodes, k ∈ keys) (hsuk : ∀ k ∈ nodes, ∀ j ∈ su k, j ∈ keys) (hlen : rdy.length < 100) (hnl : nodes.length < 20) (hsl : ∀ k, (su k).length ≤ 40)
    (hout : ∀ i (h : i < nodes.length), (doneAll su (np, rdy) (nodes.take i)).1 nodes[i] = -1)
    (q : ∀ H' t s', SAt w.params H' x dx (.ref d) (.ref rl) (.int pn tp) (.int (fn + nodes.length) t) → GrAt prog w H' d keys α (doneAll su (np, rdy) nodes).1 su → IlAt H' rl (doneAll su (np, rdy) nodes).2 →
      Stp H (Sft dx rl d keys α) H' (Sft dx rl d keys α) → Hp b ps H' s' → Q .none s') :
    codeAny (model prog w) A (.call (.ref 155) ⟨.ref x :: vs, []⟩) (fun r s' => match r with | .ok (.ret v) => Q v s' | .ok _ => False | .error e => E e s') s := by
  have hvl := hint.length
  refine call_codeV (nm := "nodes") (vs := vs) [("self", .ref x)] C hp (by with_unfolding_all rfl) rfl rfl rfl (by kernel_rfl!) rm.room (by refine (bind_done rfl rfl rfl rfl rfl rfl).trans ?_; rfl) (by exact om257 hvl hnl) (by decide) (locs rfl) rfl ?_
  intro L s env y he hy a
  dsimp only at he
  have rm1 : Rm 2 (A.deeper env) := rm.deeper
  have xne : x ≠ rl := by
    rintro rfl
    obtain ⟨_, _, _, _, e1, _⟩ := hs
    obtain ⟨vs, ⟨n, e2⟩, _⟩ := hr
    rw [e1] at e2; cases e2
  have dxrl : dx ≠ rl := by
    rintro rfl
    obtain ⟨_, _, _, _, _, e1⟩ := hs
    obtain ⟨vs, ⟨n, e2⟩, _⟩ := hr
    rw [e1] at e2
    exact absurd (show Value.type "dict" = Value.type "list" from congrArg Obj.cls (Option.some.inj e2)) (by decide)
  have hs0 := hs.fresh (o := tpO vs 0) hy
  have g0 := g.fresh (o := tpO vs 0) hy
  walk_at "st"
  refine ga_ready C (by assumption) hs0 rfl ?_
  intro s a
  walk_at "go"
  refine ite_false' ?_
  walk_at "go"
  walk_at "st"
  refine ga_n2i C (by assumption) hs0 rfl ?_
  intro s a
  walk_at "go"
  walk_at "cons"
  refine wpAny_For ?_ (fun _ => rfl)
  walk_at "go"
  refine for_tuple (fun i H' l => ∃ t, (SAt w.params H' x dx (.ref d) (.ref rl) (.int pn tp) (.int (fn + (i : Nat)) t) ∧ GrAt prog w H' d keys α (doneAll su (np, rdy) (nodes.take i)).1 su ∧ IlAt H' rl (doneAll su (np, rdy) (nodes.take i)).2) ∧
      Stp H (Sft dx rl d keys α) H' (Sft dx rl d keys α) ∧ H' y = some (tpO vs 0) ∧ Names l [("n2i", .ref d), ("self", .ref x)]) rm1.hand a ?_ upd_self ⟨0, rfl⟩ (fun i H l h => by obtain ⟨_, _, _, h, _⟩ := h; exact h) ?_ ?_ ?_
  · refine ⟨tf, ⟨by simpa using hs0, g0, hr.fresh hy⟩, .new hy, upd_self, by walk_at "names"⟩
  · intro i v s ps' H' l hv hI9 a up
    walk_at "gp"
    obtain ⟨tf', ⟨hs', g', hr'⟩, st', hy', hnm⟩ := hI9
    have hil : i < nodes.length := by rw [← hvl]; exact (List.getElem?_eq_some_iff.mp hv).1
    obtain ⟨u, hu⟩ := hint.get i nodes[i] (by simp [hil])
    rw [hu] at hv; cases hv
    have a := a.to (l' := [("n2i", .ref d), ("self", .ref x)]) hnm
    have hk : nodes[i] ∈ keys := hsub _ (List.getElem_mem hil)
    have ho := hout i hil
    have et : nodes.take (i + 1) = nodes.take i ++ [nodes[i]] := by rw [List.take_add_one]; simp [hil]
    have hD : doneAll su (np, rdy) (nodes.take (i + 1)) = doneOne su (doneAll su (np, rdy) (nodes.take i)) nodes[i] := by rw [et]; unfold doneAll; rw [List.foldl_append]; rfl
    have hlr := doneAll_len hsl (nodes.take i) (np, rdy)
    have htl : (nodes.take i).length ≤ nodes.length := (List.take_sublist i nodes).length_le
    generalize hst : doneAll su (np, rdy) (nodes.take i) = st at *
    generalize hkk : nodes[i] = k at *
    walk_at "go"
    walk_at "st"
    refine MethodCall_ ?_ (by with_unfolding_all rfl)
    walk_at "go"
    refine gm_dict PySem.F.slot_dict_get PySem.F.type_dict_get a g'.dict ?_
    refine dc_get (by with_unfolding_all rfl) ?_ (g'.dict.notMods a)
    walk_at "go"
    refine ⟨k, u, _, _, _, _, _, _, rfl, a, g'.dict, ?_⟩
    intro s a
    rw [valueAt_keys, if_pos hk, Option.getD_some]
    walk_at "go"
    refine ite_false' ?_
    walk_at "go"
    walk_at "st"
    refine ga_npred C (by assumption) (g'.node k hk) ?_
    intro ts s a
    rw [ho]
    walk_at "go"
    walk_at "st"
    obtain ⟨to, hto⟩ := g_out w
    refine ev_global C (by assumption) he hto ?_
    walk_at "go"
    refine ite_dec (fun h => absurd rfl h) (fun hq0 => ?_)
    walk_at "go"
    walk_at "st"
    obtain ⟨td, htd⟩ := g_done w
    refine ev_global C (by assumption) he htd ?_
    walk_at "go"
    refine sa_npred C a (g'.node k hk) ?_
    intro s o hN a
    walk_at "go"
    have xf : Gfoot d keys α (α.xa k) := .inr ⟨_, hk, .inl rfl⟩
    have g1 := g'.set_np hk hN
    have hs1 := hs'.upd (o := o) (fun e => hs'.x_foot g' (e ▸ xf)) (fun e => hdx (e ▸ xf))
    have hr1 : IlAt (upd H' (α.xa k) o) rl st.2 := hr'.upd (fun e => hrl (e ▸ xf))
    have st1 := st'.trans (Stp.own (o := o) (.inr (.inr xf)))
    have hy1 : upd H' (α.xa k) o y = some (tpO vs 0) := by rw [upd_ne (show y ≠ α.xa k from fun e => tp_foot g' hy' (by rw [e]; exact xf))]; exact hy'
    walk_at "cons"
    refine wpAny_For ?_ (fun _ => rfl)
    walk_at "go"
    refine ga_succ C (by assumption) (g1.node k hk) ?_
    intro s a
    obtain ⟨ws, ⟨nw, hws⟩, hwi⟩ := g1.list k hk
    have hwl := hwi.length
    have nef : ∀ j ∈ keys, ∀ (j' : Int), j' ∈ keys → α.sa j ≠ α.xa j' := fun j hj j' hj' e => g.x_ne_sa hj' hj e.symm
    refine for_list (fun m H2 l => (SAt w.params H2 x dx (.ref d) (.ref rl) (.int pn tp) (.int (fn + (i : Nat)) tf') ∧ GrAt prog w H2 d keys α (((su k).take m).foldl decOne (fun j => if j = k then -2 else st.1 j, st.2)).1 su ∧ IlAt H2 rl (((su k).take m).foldl decOne (fun j => if j = k then -2 else st.1 j, st.2)).2) ∧
        Stp H (Sft dx rl d keys α) H2 (Sft dx rl d keys α) ∧ H2 y = some (tpO vs 0) ∧ H2 (α.sa k) = some (lsO ws nw) ∧ Names l [("n2i", .ref d), ("self", .ref x)]) rm1.hand a ?_ hws ⟨nw, rfl⟩ (fun i H l h => h.2.2.2.1) ?_ ?_ ?_
    · exact ⟨⟨hs1, g1, hr1⟩, st1, hy1, hws, by walk_at "names"⟩
    · intro m v s ps2 H2 l hv hI9 a up2
      walk_at "gp"
      obtain ⟨⟨hs2, g2, hr2⟩, st2, hy2, hws2, hnm⟩ := hI9
      have hml : m < (su k).length := by rw [← hwl]; exact (List.getElem?_eq_some_iff.mp hv).1
      obtain ⟨u', hu'⟩ := hwi.get m (su k)[m] (by simp [hml])
      rw [hu'] at hv; cases hv
      have a := a.to (l' := [("n2i", .ref d), ("self", .ref x)]) hnm
      have hj : (su k)[m] ∈ keys := hsuk k (by rw [← hkk]; exact List.getElem_mem hil) _ (List.getElem_mem hml)
      have et' : (su k).take (m + 1) = (su k).take m ++ [(su k)[m]] := by rw [List.take_add_one]; simp [hml]
      have hD' : ((su k).take (m + 1)).foldl decOne (fun j => if j = k then -2 else st.1 j, st.2) = decOne (((su k).take m).foldl decOne (fun j => if j = k then -2 else st.1 j, st.2)) (su k)[m] := by rw [et', List.foldl_append]; rfl
      have hlr2 := decOne_len ((su k).take m) (fun j => if j = k then -2 else st.1 j, st.2)
      have htl2 : ((su k).take m).length ≤ (su k).length := (List.take_sublist m (su k)).length_le
      have hslk := hsl k
      generalize hst2 : ((su k).take m).foldl decOne (fun j => if j = k then -2 else st.1 j, st.2) = st2' at *
      generalize hjj : (su k)[m] = j at *
      walk_at "go"
      walk_at "st"
      refine dc_sub (by assumption) g2.dict (by rw [valueAt_keys, if_pos hj]) ?_
      intro s a
      walk_at "go"
      walk_at "st"
      refine ga_npred C (by assumption) (g2.node j hj) ?_
      intro tn s a
      walk_at "go"
      refine sa_npred C a (g2.node j hj) ?_
      intro s o2 hN2 a
      walk_at "go"
      have xf2 : Gfoot d keys α (α.xa j) := .inr ⟨_, hj, .inl rfl⟩
      have g3 := g2.set_np hj hN2
      have hs3 := hs2.upd (o := o2) (fun e => hs2.x_foot g2 (e ▸ xf2)) (fun e => hdx (e ▸ xf2))
      have hr3 : IlAt (upd H2 (α.xa j) o2) rl st2'.2 := hr2.upd (fun e => hrl (e ▸ xf2))
      have st3 := st2.trans (Stp.own (o := o2) (.inr (.inr xf2)))
      have hy3 : upd H2 (α.xa j) o2 y = some (tpO vs 0) := by rw [upd_ne (show y ≠ α.xa j from fun e => tp_foot g2 hy2 (by rw [e]; exact xf2))]; exact hy2
      have hws3 : upd H2 (α.xa j) o2 (α.sa k) = some (lsO ws nw) := by rw [upd_ne (nef k hk j hj)]; exact hws2
      walk_at "st"
      refine ga_npred C (by assumption) (g3.node j hj) ?_
      intro tn2 s a
      walk_at "go"
      rw [if_pos rfl]
      refine ite_dec (fun hz => ?_) (fun hz => ?_)
      · obtain ⟨rv, hrv, hri⟩ := id hr3
        have hrvl := hri.length
        walk_at "st"
        refine ev_append ?_ (by with_unfolding_all rfl) (by with_unfolding_all rfl) (by with_unfolding_all rfl)
        walk_at "go"
        refine ga_ready C (by assumption) hs3 rfl ?_
        intro s a
        refine ⟨_, _, _, _, _, _, _, rfl, a, hrv, ?_⟩
        walk_at "go"
        refine do_append a hrv (by simp only [List.length_take] at *; exact om453 hlen hnl hslk hrvl hlr hlr2) ?_
        intro s n3 a
        walk_at "all"
        have hsarl : α.sa k ≠ rl := fun e => hrl (.inr ⟨k, hk, .inr (.inr e.symm)⟩)
        have hyrl : y ≠ rl := by rintro rfl; exact tp_ne_ls ⟨0, hy3⟩ hrv rfl
        refine ⟨_, _, a, ⟨hs3.upd xne dxrl, ?_, ?_⟩, st3.trans (Stp.own (.inr (.inl rfl))), by rw [upd_ne hyrl]; exact hy3, by rw [upd_ne hsarl]; exact hws3, by walk_at "names"⟩
        · rw [hD']; exact g3.off hrl
        · rw [hD']; unfold decOne; dsimp only; rw [if_pos hz]
          exact ⟨_, LsAt.self, IntsAre.snoc' hri⟩
      · walk_at "all"
        refine ⟨_, _, a, ⟨hs3, ?_, ?_⟩, st3, hy3, hws3, by walk_at "names"⟩
        · rw [hD']; exact g3
        · rw [hD']; unfold decOne; dsimp only; rw [if_neg hz]; exact hr3
    · rintro s H2 l ⟨⟨hs2, g2, hr2⟩, st2, hy2, hws2, hnm⟩ a
      rw [hwl, List.take_length] at g2 hr2
      have a := a.to (l' := [("n2i", .ref d), ("self", .ref x)]) hnm
      walk_at "go"
      walk_at "st"
      refine ga_fin C (by assumption) hs2 rfl ?_
      intro s a
      walk_at "go"
      refine sa_fin C a hs2 ?_
      intro s o3 hs3 a
      walk_at "all"
      have ydx : y ≠ dx := by
        rintro rfl
        obtain ⟨_, _, _, _, _, e1⟩ := hs2
        rw [hy2] at e1
        exact absurd (show Value.type "tuple" = Value.type "dict" from congrArg Obj.cls (Option.some.inj e1)) (by decide)
      rw [show fn + (i : Int) + 1 = fn + ((i + 1 : Nat) : Int) from by exact om477] at hs3
      refine ⟨_, _, a, _, ⟨hs3, ?_, ?_⟩, st2.trans (Stp.own (.inl rfl)), by rw [upd_ne ydx]; exact hy2, by walk_at "names"⟩
      · rw [hD]; exact g2.off hdx
      · rw [hD]; exact hr2.upd dxrl.symm
    · exact fun _ _ _ _ _ _ q => wpAny_pure q
  · rintro s H' l ⟨tf', ⟨hs', g', hr'⟩, st', hy', hnm⟩ a
    rw [hvl, List.take_length] at g' hr'
    rw [hvl] at hs'
    walk_at "all"
    exact q H' _ _ hs' g' hr' st' a.hp
  · exact fun _ _ _ _ _ _ q => wpAny_pure q
theorem done_spec {tp tf : Tok} (C : Ctx (hd.heap_1 w.params) b mg mb) (hp : Hp b ps H s) (rm : Rm 3 A) (hs : SAt w.params H x dx (.ref d) (.ref rl) (.int pn tp) (.int fn tf)) (g : GrAt prog w H d keys α np su) (hdx : ¬ Gfoot d keys α dx)
    (hr : IlAt H rl rdy) (hrl : ¬ Gfoot d keys α rl) (hint : IntsAre vs nodes) (hsub : ∀ k ∈ nodes, k ∈ keys) (hsuk : ∀ k ∈ nodes, ∀ j ∈ su k, j ∈ keys) (hlen : rdy.length < 100) (hnl : nodes.length < 20) (hsl : ∀ k, (su k).length ≤ 40)
    (hout : ∀ i (h : i < nodes.length), (doneAll su (np, rdy) (nodes.take i)).1 nodes[i] = -1)
    (q : ∀ H' t s', SAt w.params H' x dx (.ref d) (.ref rl) (.int pn tp) (.int (fn + nodes.length) t) → GrAt prog w H' d keys α (doneAll su (np, rdy) nodes).1 su → IlAt H' rl (doneAll su (np, rdy) nodes).2 →
      Stp H (Sft dx rl d keys α) H' (Sft dx rl d keys α) → Hp b ps H' s' → Q .none s') :
    wpAny (model prog w) A (call (.ref 155) (.ref x :: vs)) Q E s :=
  wpAny_call (done_code C hp rm hs g hdx hr hrl hint hsub hsuk hlen hnl hsl hout q)
end
end

section
section
variable {prog : Program} {w : World} {A : Around} {E : Value → Shared → Prop} {mg mb : Str → Option Value}
  {b s : Shared} {ps : List Prot} {H H' : HP} {L x dx y dy sa z d rl : Addr} {l : List (Str × Value)} {Q : Value → Shared → Prop} {r p f v : Value} {o : Obj} {k pn fn : Int} {keys : List Int} {α : Ga} {np : Int → Int} {su : Int → List Int} {ns rdy : List Int} {vs : List Value}
theorem do_bool (a : At b ps L H l s) (hl : LsAt H x vs) (hb : vs.length < 100000) (h : ∀ s', At b ps L H l s' → Q (.bool (!vs.isEmpty)) s') : wpAny (model prog w) A (call (.type "bool") [.ref x]) Q E s := by
  refine callType_new F.called_bool F.newNe_bool (F.typeCall_bool_1 _) (F.newCall_bool_1 _) (fun obj => F.args_object_init_2 obj _) F.entry_bool_new (S := fun A R s => ∃ b ps L H l vs, At b ps L H l s ∧ LsAt H x vs ∧ vs.length < 100000 ∧ ∀ s', At b ps L H l s' → R (.ok (.ret (.bool (!vs.isEmpty)))) s') ?_ ?_
  · refine Meets.of_wp fun prog w A R s hs => ?_
    obtain ⟨b, ps, L, H, l, vs, a, hl, hb, h⟩ := hs
    have f1 := F.conv_sub_bool
    repeat (any_goals (first | assumption | (with_reducible refine tr_list a hl hb ?_; intro s' a') | wp_step))
    all_goals first | exact ⟨_, rfl, h _ a'⟩ | skip
  · exact ⟨b, ps, L, H, l, vs, a, hl, hb, fun s' a' => ⟨rfl, h s' a'⟩⟩
set_option maxRecDepth 100000
theorem isactive_spec {tp tf : Tok} (C : Ctx (hd.heap_1 w.params) b mg mb) (hp : Hp b ps H s) (rm : Rm 3 A) (hs : SAt w.params H x dx (.ref d) (.ref rl) (.int pn tp) (.int fn tf))
    (hr : LsAt H rl []) (hle : pn ≤ fn) (q : ∀ s', Hp b ps H s' → Q (.bool false) s') :
    wpAny (model prog w) A (call (.ref 141) [.ref x]) Q E s := by
  refine call_def [("self", .ref x)] C hp (by with_unfolding_all rfl) rfl rfl rfl (by kernel_rfl!) rm.room (BindsTo.of_eq rfl) (by decide) (locs rfl) ?_
  intro L s env he a
  dsimp only at he
  have rm1 : Rm 2 (A.deeper env) := rm.deeper
  walk_at "st"
  refine ga_ready C (by assumption) hs rfl ?_
  intro s a
  walk_at "go"
  refine ite_false' ?_
  walk_at "go"
  walk_at "st"
  refine wpAny_Or2 ?_
  refine wpAny_Compare1 ?_
  walk_at "go"
  refine ga_fin C (by assumption) hs rfl ?_
  intro s a
  walk_at "go"
  refine ga_pass C (by assumption) hs rfl ?_
  intro s a
  walk_at "go"
  rw [decide_eq_false (by exact om565 hle)]
  refine ite_false' ?_
  refine ev_call_t C (by assumption) he (g_bool w) boot_bool ?_
  walk_at "go"
  refine ga_ready C (by assumption) hs rfl ?_
  intro s a
  walk_at "go"
  refine do_bool a hr (by simp) ?_
  intro s a
  walk_at "go"
  exact q _ a.hp
end
end

section
set_option maxRecDepth 100000
theorem fslot_ga : Slot "list_iterator" "__getattribute__" "object.__getattribute__" :=
  .of (owner := "object") (n := "__getattribute__") (by rw [typeLookup_type, builtinLookup_eq_fast]; kernel_rfl) (by decide +kernel) (by decide +kernel) (by decide +kernel)
    (by first | exact .inl (by decide +kernel) | exact .inr (by decide +kernel)) (by rw [isSubtype_type]; kernel_rfl)
theorem fentry_ga : entryFor table "object.__getattribute__" = some Builtin.«object.__getattribute__» := entryFor_of_tree (by kernel_rfl)
theorem fargs_ga (a b : Value) : argsOk "object.__getattribute__" ⟨[a, b], []⟩ := by unfold argsOk; kernel_rfl
theorem fslot_wget : Slot "wrapper_descriptor" "__get__" "wrapper_descriptor.__get__" :=
  .of (owner := "wrapper_descriptor") (n := "__get__") (by rw [typeLookup_type, builtinLookup_eq_fast]; kernel_rfl) (by decide +kernel) (by decide +kernel) (by decide +kernel)
    (by first | exact .inl (by decide +kernel) | exact .inr (by decide +kernel)) (by rw [isSubtype_type]; kernel_rfl)
theorem fentry_wget : entryFor table "wrapper_descriptor.__get__" = some Builtin.«wrapper_descriptor.__get__» := entryFor_of_tree (by kernel_rfl)
theorem fargs_wget (a b c : Value) : argsOk "wrapper_descriptor.__get__" ⟨[a, b, c], []⟩ := by unfold argsOk; kernel_rfl
theorem ftype_next : typeOf (.builtin "list_iterator.__next__") = pure (.type "wrapper_descriptor") := by show builtinType _ = _; rw [builtinType_eq_fast]; kernel_rfl
theorem fspec_get : specialOf (.builtin "list_iterator.__next__") "__get__" = pure (some (.builtin "wrapper_descriptor.__get__")) := by
  unfold specialOf; rw [ftype_next]; exact fslot_wget.lookup
theorem fspec_set : specialOf (.builtin "list_iterator.__next__") "__set__" = pure none := by
  unfold specialOf; rw [ftype_next]; show typeLookup _ _ = _; rw [typeLookup_type, builtinLookup_eq_fast]; kernel_rfl
theorem fspec_del : specialOf (.builtin "list_iterator.__next__") "__delete__" = pure none := by
  unfold specialOf; rw [ftype_next]; show typeLookup _ _ = _; rw [typeLookup_type, builtinLookup_eq_fast]; kernel_rfl
theorem fown_next : (kfb_private% "ownerAndName") "list_iterator.__next__" = ("list_iterator", "__next__") := by first | decide +kernel | kernel_rfl
theorem fsub : isSubtype (.type "list_iterator") (.type "list_iterator") = pure true := by rw [isSubtype_type]; kernel_rfl
theorem fnohook : hookBefore (.type "list_iterator") = pure none := rfl
noncomputable def mwO (it : Addr) : Obj := { cls := .type "method-wrapper", data := .fields #[.builtin "list_iterator.__next__", .ref it] }
section
variable {prog : Program} {w : World} {M : Model} {A : Around} {E : Value → Shared → Prop} {s : Shared} {it : Addr} {o : Obj}
theorem ga_next_tree {tk : Tok} {Q : Fin → Shared → Prop} (ho : s.heap.get? it = some o) (hc : o.cls = .type "list_iterator") (hd : o.dict = none) (hdt : ∃ vs, o.data = .fields vs)
    (h : Q (.done (.ret (.ref s.heap.objs.size))) { s with heap := s.heap.push (mwO it) }) :
    wpAny (model prog w) A (Builtin.«object.__getattribute__» ⟨[.ref it, .str "__next__" tk], []⟩) Q E s := by
  have hT : s.TypeIs (.ref it) "list_iterator" := ⟨o, ho, hc⟩
  obtain ⟨vs, hvs⟩ := hdt
  unfold Builtin.«object.__getattribute__»
  refine wpAny_bind (wpAny_of_eq (a := (.ref it, [.str "__next__" tk])) (by first | rfl | kernel_rfl) ?_)
  refine wpAny_bind (wpAny_of_eq (a := Str.ofString "__next__") rfl ?_)
  refine wpAny_bind (wpAny_typeOf hT ?_)
  refine wpAny_bind ?_
  unfold Builtin.ObjectAttr.find
  refine wpAny_bind (wpAny_of_eq slot_listiter_next.lookup ?_)
  refine wpAny_bind (wpAny_of_eq fspec_get ?_)
  refine wpAny_bind ?_
  show wpAny _ _ (do if ← Builtin.ObjectAttr.takesStores (.builtin "list_iterator.__next__") then pure (some (.builtin "wrapper_descriptor.__get__", .builtin "list_iterator.__next__")) else pure none) _ _ _
  unfold Builtin.ObjectAttr.takesStores
  refine wpAny_bind (wpAny_bind (wpAny_of_eq fspec_set ?_))
  refine wpAny_bind (wpAny_of_eq fspec_del ?_)
  refine wpAny_pure (wpAny_pure ?_)
  show wpAny _ _ (Builtin.ObjectAttr.ownThenClass _ _ _ _) _ _ _
  unfold Builtin.ObjectAttr.ownThenClass Builtin.ObjectAttr.inOwnDict
  dsimp only
  refine wpAny_bind (wpAny_bind ?_)
  unfold Builtin.ObjectAttr.ownDict loadHead
  have hg : wpAny (model prog w) A.in1 (Builtin.«wrapper_descriptor.__get__» ⟨[.builtin "list_iterator.__next__", .ref it, .type "list_iterator"], []⟩) (fun fin s' => ∃ v, fin = .done (.ret v) ∧ wpAny (model prog w) A (ret v) Q E s') E s := by
    unfold Builtin.«wrapper_descriptor.__get__»
    refine wpAny_bind (wpAny_of_eq (a := (.builtin "list_iterator.__next__", some (.ref it), some (.type "list_iterator"))) (by first | rfl | kernel_rfl) ?_)
    refine wpAny_bind (wpAny_bind (wpAny_of_eq (a := (Str.ofString "__next__", .type "list_iterator")) (by first | rfl | kernel_rfl) ?_))
    refine wpAny_bind (wpAny_isInstance hT fsub ?_)
    refine wpAny_pure ?_
    exact wpAny_bind (wpAny_newObj_type (wpAny_pure ⟨_, rfl, wpAny_pure h⟩))
  repeat (first | (with_reducible refine wpAny_load ho ?_) | (simp only [hvs, hc, hd]) | wp_step)
  all_goals refine codeAny_call_builtin fslot_wget.plain fentry_wget (fslot_wget.check _ _ _ _ _ _ _ _ ftype_next (fargs_wget _ _ _) (wpAny_mono hg (fun fin s' h' => ?_) fun _ _ h' => h'))
  obtain ⟨v, rfl, hv⟩ := h'; exact hv
theorem ga_next {Q : Value → Shared → Prop} {expr : Bool} (ho : s.heap.get? it = some o) (hc : o.cls = .type "list_iterator") (hd : o.dict = none) (hdt : ∃ vs, o.data = .fields vs)
    (h : Q (.ref s.heap.objs.size) { s with heap := s.heap.push (mwO it), toks := s.toks + 1 }) :
    wpAny (model prog w) A (getAttr (.ref it) "__next__" expr) Q E s := by
  have hT : ∀ t, ({ s with toks := t } : Shared).TypeIs (.ref it) "list_iterator" := fun _ => ⟨o, ho, hc⟩
  unfold getAttr getAttrBy
  refine wpAny_bind (wpAny_mkText (wpAny_holding (wpAny_bind (wpAny_typeOf (hT _) (wpAny_bind (wpAny_of_eq fslot_ga.lookup ?_))))))
  show wpAny _ _ (getAttrByItsOwn (.ref it) (.str "__next__" s.toks) (.type "list_iterator") (.builtin "object.__getattribute__") true expr) _ _ _
  unfold getAttrByItsOwn callGetattribute boundAndCalled
  refine wpAny_bind (wpAny_of_eq fnohook ?_)
  refine wpAny_bind (wpAny_attempt (wpAny_holding ?_))
  rw [show (expr && onTheHeap (.builtin "object.__getattribute__")) = false from by cases expr <;> rfl]
  show wpAny _ _ (bindSpecial (.builtin "object.__getattribute__") (.ref it) >>= _) _ _ _
  refine wpAny_bind (wpAny_of_eq (fslot_ga.bind _) ?_)
  refine wpAny_mono (Q := fun v s' => v = .ref s.heap.objs.size ∧ s' = { s with heap := s.heap.push (mwO it), toks := s.toks + 1 }) (E := fun _ _ => False)
    (wpAny_call_entry fslot_ga (hT _) fentry_ga (ga_next_tree (s := { s with toks := s.toks + 1 }) ho hc hd hdt ⟨_, rfl, rfl, rfl⟩) (fargs_ga _ _)) (fun v s' hv => ?_) fun _ _ z => z.elim
  obtain ⟨rfl, rfl⟩ := hv
  exact wpAny_pure h
end
end

section
set_option maxRecDepth 100000
/-- a heap without some addresses -/
noncomputable def holed (h : Heap) (S : Addr → Prop) : Heap := { objs := h.objs.mapIdx fun i o => @ite _ (S i) (Classical.propDecidable _) ⟨.none, none, .freed, #[]⟩ o }
theorem holed_in (h : Heap) {S : Addr → Prop} {x : Addr} (hx : S x) : (holed h S).get? x = none := by
  unfold holed Heap.get?
  simp only [Array.getElem?_mapIdx]
  cases e : h.objs[x]? with
  | none => rfl
  | some o => simp [hx]
theorem holed_out (h : Heap) {S : Addr → Prop} {x : Addr} (hx : ¬ S x) : (holed h S).get? x = h.get? x := by
  unfold holed Heap.get?
  simp only [Array.getElem?_mapIdx]
  cases e : h.objs[x]? with
  | none => rfl
  | some o => simp [hx]
/-- outside of all that is known -/
noncomputable def Free (b : Shared) (ps : List Prot) (L : Addr) (H : HP) (x : Addr) : Prop := b.heap.get? x = none ∧ H x = none ∧ x ≠ L ∧ ∀ p ∈ ps, p.at ≠ x
noncomputable def ExcNew (s : Shared) (e : Addr) : Prop := ∃ oe vs a0, s.heap.get? e = some oe ∧ oe.cls = .type "StopIteration" ∧ oe.data = .fields vs ∧ vs[1]? = some .none ∧ vs[0]? = some a0
noncomputable def ExcHeld (b : Shared) (ps : List Prot) (L : Addr) (H : HP) (s : Shared) (e : Addr) : Prop := ∃ oe vs T oT ts, s.heap.get? e = some oe ∧ oe.cls = .type "StopIteration" ∧ oe.data = .fields vs ∧ vs[1]? = some (.ref T) ∧ Free b ps L H T ∧ T ≠ e ∧
  s.heap.get? T = some oT ∧ oT.data = .fields ts ∧ 3 < ts.size
/-- the frames around are kept ones -/
noncomputable def FrOk (ps : List Prot) (outer : List Env) : Prop := (∀ e ∈ outer, e.scope.kind ≠ .module ∧ ∃ L m, e.frame = some L ∧ .fr L m ∈ ps) ∧ ∀ x o, .ob x o ∈ ps → ∀ e ∈ outer, e.frame ≠ some x
section
variable {prog : Program} {w : World} {M : Model} {A : Around} {E : Value → Shared → Prop} {mg mb : Str → Option Value}
  {b s s' : Shared} {ps : List Prot} {H H' : HP} {L x e it mw la : Addr} {l : List (Str × Value)} {Q : Value → Shared → Prop} {o : Obj} {vs : List Value} {env : Env} {outer : List Env} {v : Value} {i : Nat}
theorem FrOk.ob (h : FrOk ps outer) (hx : ∀ p ∈ ps, p.at ≠ x) : FrOk (.ob x o :: ps) outer := by
  refine ⟨fun e he => ?_, fun y oy hy e he hf => ?_⟩
  · obtain ⟨h1, L, m, h2, h3⟩ := h.1 e he
    exact ⟨h1, L, m, h2, .tail _ h3⟩
  · rcases List.mem_cons.mp hy with hy | hy
    · cases hy
      obtain ⟨h1, L, m, h2, h3⟩ := h.1 e he
      rw [hf] at h2; cases h2
      exact hx _ h3 rfl
    · exact h.2 y oy hy e he hf
theorem At.free (a : At b ps L H l s) (h : s.heap.get? x = none) : Free b ps L H x := by
  obtain ⟨m, hp, hne, hm⟩ := a
  exact ⟨hp.base_fresh h, hp.fresh h, fun e => hp.prot_ne h _ (.head _) e.symm, fun p hpp => hp.prot_ne h p (.tail _ hpp)⟩
theorem At.freeStep (a : At b ps L H l s) (h : Free b ps L H x) (hk : ∀ y oy, y ≠ x → s.heap.get? y = some oy → s'.heap.get? y = some oy) (hg : s'.gens = s.gens) (hos : s'.os = s.os) : At b ps L H l s' := by
  obtain ⟨m, hp, hne, hm⟩ := a
  refine ⟨m, hp.step (· = x) (fun y hy => hy ▸ ⟨h.1, fun p hpp => ?_⟩) (fun y oy hy q => hk y oy hy q) (fun y oy q => .inl ⟨fun hy => ?_, q⟩) hg hos, hne, hm⟩
  · rcases List.mem_cons.mp hpp with rfl | hpp
    · exact fun q => h.2.2.1 q.symm
    · exact h.2.2.2 p hpp
  · subst hy; rw [h.2.1] at q; cases q
theorem flight_at {Q : Unit → Shared → Prop} (a : At b ps L H l s) (hx : ExcHeld b ps L H s e) (h : ∀ s', At b ps L H l s' → ExcHeld b ps L H s' e → Q () s') : wpAny M A (setFlight (.ref e) none) Q E s := by
  obtain ⟨oe, vs, T, oT, ts, he, hc, hd, h1, hf, hTe, hT, hdT, hsz⟩ := hx
  refine wpAny_setFlight_none he hd h1 hT hdT hsz ?_
  have other : ∀ y, y ≠ T → (s.heap.update T (Obj.mapFields (·.setIfInBounds 3 .none))).get? y = s.heap.get? y := fun y hy => Heap.get?_update_other _ _ (Ne.symm hy)
  refine h _ (a.freeStep hf (fun y oy hy q => (other y hy).trans q) rfl rfl) ⟨oe, vs, T, _, _, (other e (Ne.symm hTe)).trans he, hc, hd, h1, hf, hTe, Heap.get?_update_self _ hT (Obj.isFreed_of_fields (Obj.data_mapFields hdT _)), Obj.data_mapFields hdT _, by simpa using hsz⟩
theorem note_at {Q : Unit → Shared → Prop} (a : At b ps L H l s) (hfr : A.frames = some (env :: outer)) (hk : env.scope.kind ≠ .module) (hf : env.frame = some L) (fo : FrOk ps outer) (hfe : Free b ps L H e) (hx : ExcNew s e)
    (h : ∀ s', At b ps L H l s' → ExcHeld b ps L H s' e → Q () s') : wpAny M A (noteFrame (.ref e) env) Q E s := by
  obtain ⟨oe, vs, a0, he, hc, hd, h1, h0⟩ := hx
  obtain ⟨m, hp, hne, hm⟩ := id a
  let S : Addr → Prop := fun x => x = e ∨ x = L ∨ ∃ ev ∈ outer, ev.frame = some x
  have ns_data : ∀ {h : Heap} {x m}, h.Ns x m → ∃ o, h.get? x = some o ∧ ∀ vs, o.data ≠ .fields vs := by
    rintro h x m ⟨o, es, ep, ho, hd, _⟩
    exact ⟨o, ho, fun vs q => by rw [hd] at q; cases q⟩
  have hlL := ns_data (hp.prot _ (.head _)).1
  have hl : s.heap.FunFrames (holed s.heap S) (env :: outer) := by
    refine ⟨hk, ⟨L, hlL.choose, hf, holed_in _ (.inr (.inl rfl)), hlL.choose_spec.1, hlL.choose_spec.2⟩, ?_⟩
    have : ∀ l' : List Env, (∀ ev ∈ l', ev ∈ outer) → s.heap.FunFrames (holed s.heap S) l' := by
      intro l'
      induction l' with
      | nil => intro _; trivial
      | cons ev r ih =>
        intro hin
        obtain ⟨k1, L', m', k2, k3⟩ := fo.1 ev (hin ev (.head _))
        obtain ⟨o', k4, k5⟩ := ns_data (hp.prot _ (.tail _ k3)).1
        exact ⟨k1, ⟨L', o', k2, holed_in _ (.inr (.inr ⟨ev, hin ev (.head _), k2⟩)), k4, k5⟩, ih fun ev' hev => hin ev' (.tail _ hev)⟩
    exact this outer fun _ q => q
  have hkb : (holed s.heap S).StaysIn s.heap := fun y oy q => by
    by_cases hy : S y
    · rw [holed_in _ hy] at q; cases q
    · rw [holed_out _ hy] at q; exact q
  unfold noteFrame
  simp only [hf]
  refine wpAny_bind (wpAny_field he hd h1 ?_)
  rw [if_neg (by decide)]
  refine wpAny_entryW hfr hl hf he hkb (holed_in _ (.inl rfl)) hd (Array.getElem?_eq_some_iff.mp h1).1 h0 fun h' hN => ?_
  obtain ⟨k1, k2, ⟨oe', vs', T, oT, ts, q1, ⟨q2, _⟩, q3, q4, q5, q6, q7, q8, q9⟩, k4⟩ := hN
  have keep : ∀ y oy, ¬ S y → s.heap.get? y = some oy → h'.get? y = some oy := fun y oy hy q => k1 y oy (by rw [holed_out _ hy]; exact q)
  have hTn : s.heap.get? T = none := by
    by_cases hTS : S T
    · rcases hTS with hTS | hTS | ⟨ev, hev, hTS⟩
      · exact absurd hTS q6
      · subst hTS
        obtain ⟨o', r1, r2⟩ := hlL
        obtain ⟨sl, r3⟩ := k4 _ _ r1 r2
        rw [q7] at r3; cases r3
        exact absurd q8 (r2 ts)
      · obtain ⟨_, L', m', g2, g3⟩ := fo.1 ev hev
        rw [hTS] at g2; cases g2
        obtain ⟨o', r1, r2⟩ := ns_data (hp.prot _ (.tail _ g3)).1
        obtain ⟨sl, r3⟩ := k4 _ _ r1 r2
        rw [show h'.get? T = some oT from q7] at r3; cases r3
        exact absurd q8 (r2 ts)
    · rw [holed_out _ hTS] at q5; exact q5
  have hSe : ∀ y oy, H y = some oy → ¬ S y := by
    rintro y oy hy (rfl | rfl | ⟨ev, hev, hfy⟩)
    · rw [hfe.2.1] at hy; cases hy
    · rw [show H y = none from (hp.prot _ (.head _)).2.2] at hy; cases hy
    · obtain ⟨_, L', m', g2, g3⟩ := fo.1 ev hev
      rw [hfy] at g2; cases g2
      rw [show H y = none from (hp.prot _ (.tail _ g3)).2.2] at hy; cases hy
  refine h _ ⟨m, ⟨fun y oy q => keep y oy ?_ (hp.keep y oy q), fun y oy q => ⟨keep y oy (hSe y oy q) (hp.sub y oy q).1, (hp.sub y oy q).2⟩, fun p hpp => ⟨?_, (hp.prot p hpp).2⟩, hp.gens, hp.os⟩, hne, hm⟩
    ⟨oe', vs', T, oT, ts, q1, q2.trans hc, q3, q4, a.free hTn, q6, q7, q8, (Array.getElem?_eq_some_iff.mp q9).1⟩
  · rintro (rfl | rfl | ⟨ev, hev, hfy⟩)
    · rw [hfe.1] at q; cases q
    · rw [show b.heap.get? y = none from (hp.prot _ (.head _)).2.1] at q; cases q
    · obtain ⟨_, L', m', g2, g3⟩ := fo.1 ev hev
      rw [hfy] at g2; cases g2
      rw [show b.heap.get? y = none from (hp.prot _ (.tail _ g3)).2.1] at q; cases q
  · have hok := (hp.prot p hpp).1
    cases p with
    | fr L' m' =>
      obtain ⟨o', es, ep, ho, hd', r⟩ := hok
      obtain ⟨sl, hs⟩ := k4 _ o' ho fun vs q => by rw [hd'] at q; cases q
      exact ⟨_, es, ep, hs, hd', r⟩
    | ob y oy =>
      refine keep y oy ?_ hok
      rcases List.mem_cons.mp hpp with hq | hpp'
      · cases hq
      · rintro (rfl | rfl | ⟨ev, hev, hfy⟩)
        · exact hfe.2.2.2 _ hpp' rfl
        · exact hne _ hpp' rfl
        · exact fo.2 y oy hpp' ev hev hfy
end
end

section
set_option maxRecDepth 100000
noncomputable abbrev liO (la : Addr) (i : Nat) : Obj := { cls := .type "list_iterator", data := .fields #[.ref la, .int i 0] }
noncomputable abbrev liX (i : Nat) : Obj := { cls := .type "list_iterator", data := .fields #[.none, .int i 0] }
theorem fcheck (it : Addr) : checkBoundCall "list_iterator.__next__" ⟨[.ref it], []⟩ = pure () := by first | kernel_rfl | rfl
theorem fquiet {as : Args} : (Code.builtin "list_iterator.__next__" as).quiet = true := Code.quiet_builtin _ (by decide +kernel)
theorem fplain_stop : isSubtype (.type "StopIteration") (.type "BaseException") = pure true := by rw [isSubtype_type]; kernel_rfl
theorem fmeta_stop : isSubtype (.type ((Manifest.find? "StopIteration").elim "type" fun x => x.metatype)) (.type "tuple") = pure false := by rw [isSubtype_type]; kernel_rfl
theorem fsub_stop : isSubtype (.type "StopIteration") (.type "StopIteration") = pure true := by rw [isSubtype_type]; kernel_rfl
section
variable {prog : Program} {w : World} {M : Model} {A : Around} {E : Value → Shared → Prop} {mg mb : Str → Option Value}
  {b s s' : Shared} {ps : List Prot} {H H' : HP} {L x e it mw la : Addr} {l : List (Str × Value)} {Q : Value → Shared → Prop} {o : Obj} {vs : List Value} {env : Env} {outer : List Env} {v : Value} {i : Nat}
theorem call_mw {R : Result → Shared → Prop} (a : At b ps L H l s) (hmw : H mw = some (mwO it))
    (h : codeAny (model prog w) A (.builtin "list_iterator.__next__" ⟨[.ref it], []⟩) R s) : codeAny (model prog w) A (.call (.ref mw) ⟨[], []⟩) R s := by
  refine codeAny_of_tree ?_
  show wpAny _ A.in1 (callAny (.ref mw) ⟨[], []⟩) _ _ s
  simp only [callAny]
  refine wpAny_bind (wpAny_load (a.get hmw) ?_)
  simp only [mwO, show (Value.type "method-wrapper" == Value.type "method" || Value.type "method-wrapper" == Value.type "builtin_function_or_method" || Value.type "method-wrapper" == Value.type "method-wrapper") = true by decide, if_true]
  refine KFB.if_so (by decide) ?_
  refine wpAny_bind (wpAny_of_eq (a := ()) (fcheck it) ?_)
  refine wpAny_bind (wpAny_pure (wpAny_pure ?_))
  exact ⟨fquiet, h⟩
theorem next_item (a : At b ps L H l s) (hmw : H mw = some (mwO it)) (hit : H it = some (liO la i)) (hl : LsAt H la vs) (hv : vs[i]? = some v) (h : ∀ s', At b ps L (upd H it (liO la (i + 1))) l s' → Q v s') :
    wpAny (model prog w) A (call (.ref mw) []) Q E s := by
  refine wpAny_call (call_mw a hmw (codeAny_builtin entry_listiter_next ?_))
  obtain ⟨n, hla⟩ := hl
  have ho := a.get hit
  show wpAny _ _ (field (.ref it) 0 >>= _) _ _ s
  refine wpAny_bind (wpAny_field ho rfl (x := .ref la) rfl ?_)
  show wpAny _ _ (if (Value.ref la == Value.none) = true then _ else _) _ _ s
  rw [if_neg (show ¬ ((Value.ref la == Value.none) = true) from Bool.false_ne_true)]
  show wpAny _ _ (field (.ref it) 1 >>= _) _ _ s
  refine wpAny_bind (wpAny_field ho rfl (x := .int i 0) rfl ?_)
  show wpAny _ _ (seqItems? (.ref la) >>= _) _ _ s
  refine wpAny_bind (wpAny_seqItems (a.get hla) rfl ?_)
  have hv' : vs.toArray[i]? = some v := by simpa using hv
  simp only [Int.toNat_natCast, hv']
  refine wpAny_bind (wpAny_setField ho rfl (by simp) (wpAny_pure (h _ (a.set hit (Heap.SameBut.update ..) ?_ s.toks))))
  rw [Heap.get?_update_self _ ho (Obj.isFreed_of_fields (Obj.data_mapFields rfl _))]
  rfl
theorem next_end (a : At b ps L H l s) (hmw : H mw = some (mwO it)) (hit : H it = some (liO la i)) (hl : LsAt H la vs) (hv : vs[i]? = none) (hh : A.handled = none)
    (h : ∀ s' e, At b ps L (upd H it (liX i)) l s' → Free b ps L (upd H it (liX i)) e → ExcNew s' e → E (.ref e) s') :
    wpAny (model prog w) A (call (.ref mw) []) Q E s := by
  refine wpAny_call (call_mw a hmw (codeAny_builtin entry_listiter_next ?_))
  obtain ⟨n, hla⟩ := hl
  have ho := a.get hit
  show wpAny _ _ (field (.ref it) 0 >>= _) _ _ s
  refine wpAny_bind (wpAny_field ho rfl (x := .ref la) rfl ?_)
  show wpAny _ _ (if (Value.ref la == Value.none) = true then _ else _) _ _ s
  rw [if_neg (show ¬ ((Value.ref la == Value.none) = true) from Bool.false_ne_true)]
  show wpAny _ _ (field (.ref it) 1 >>= _) _ _ s
  refine wpAny_bind (wpAny_field ho rfl (x := .int i 0) rfl ?_)
  show wpAny _ _ (seqItems? (.ref la) >>= _) _ _ s
  refine wpAny_bind (wpAny_seqItems (a.get hla) rfl ?_)
  have hv' : vs.toArray[i]? = none := by simpa using hv
  simp only [Int.toNat_natCast, hv']
  refine wpAny_bind (wpAny_rule (wpAny_bind (wpAny_setField ho rfl (by simp) ?_)))
  have a1 : At b ps L (upd H it (liX i)) l { s with heap := s.heap.update it (Obj.mapFields (·.setIfInBounds 0 .none)) } := by
    refine a.set hit (Heap.SameBut.update ..) ?_ s.toks
    rw [Heap.get?_update_self _ ho (Obj.isFreed_of_fields (Obj.data_mapFields rfl _))]
    rfl
  show wpAny _ _ (newExc (.type "StopIteration") [] >>= _) _ _ _
  refine wpAny_bind ?_
  simp only [newExc, newTuple]
  refine wpAny_bind (wpAny_newObj_type ?_ (by size_fits))
  refine wpAny_bind (m := firstArgMember _ _) (wpAny_of_eq (a := Value.none) (by first | rfl | (simp only [firstArgMember]; rfl)) ?_)
  refine wpAny_newObj_type ?_ (by size_fits)
  simp only [raiseNew]
  refine wpAny_bind (wpAny_handled ?_)
  rw [show (A.under (Code.builtin "list_iterator.__next__" { pos := [Value.ref it] })).handled = none from hh]
  refine wpAny_bind (wpAny_pure (wpAny_throw ?_))
  refine h _ _ ((a1.all (fun _ _ e => Heap.get?_push_of_some _ e) s.toks).all (fun _ _ e => Heap.get?_push_of_some _ e) s.toks) ?_ ?_
  · refine a1.free (Heap.get?_none_of_le ?_)
    simp only [Heap.size_push]; exact Nat.le_succ _
  · exact ⟨_, _, _, Heap.get?_push_size _ rfl, rfl, rfl, rfl, rfl⟩
/-- m() where m is such a wrapper -/
theorem callWith_mw {pos : Pos} (a : At b ps L H l s) (hmw : H mw = some (mwO it)) (h : wpAny M A (call (.ref mw) []) Q E s) :
    wpAny M A (callWith pos (.ref mw) [] (backTo pos (starEach [] env)) []) Q E s := by
  unfold callWith
  refine wpAny_bind (wpAny_holding ?_)
  refine wpAny_of_eq (a := (⟨[], []⟩ : Args)) (by first | rfl | kernel_rfl) ?_
  refine wpAny_bind (wpAny_standAt ?_)
  have hplain : (backTo pos (starEach [] env)).any (·.1) = false := rfl
  simp only [hplain, List.any_nil, Bool.or_false]
  refine wpAny_bind (m := keeperOf (.ref mw)) ?_
  unfold keeperOf
  refine wpAny_bind (wpAny_load (a.get hmw) ?_)
  simp only [mwO, show (Value.type "method-wrapper" != Value.type "method") = true by decide, show (Value.type "method-wrapper" == Value.type "builtin_function_or_method" || Value.type "method-wrapper" == Value.type "method-wrapper") = true by decide, if_true]
  refine wpAny_pure ?_
  exact wpAny_bind (wpAny_mono h (fun r s₂ hr => wpAny_bind (wpAny_holding (wpAny_point (wpAny_pure hr)))) fun _ _ x => x)
/-- try: .. except StopIteration: .. -/
theorem try_stop {body : List Stmt} {b₀ : Stmt} {suite : List Stmt} {t : Expr} {pos hpos : Pos} {ns : List (Str × NameKind)} {cs : List (Str × Addr)} {Q : Flow → Shared → Prop} (he : EnvIs env L ns cs) (h0 : ns.lookup (".0" : Str) = none) (hfr : A.frames = some (env :: outer)) (fo : FrOk ps outer)
    (ht : ∀ A H l s, At b ps L H l s → wpAny (model prog w) A (eval t env) (fun c s₁ => c = .type "StopIteration" ∧ s₁ = s) NoE s)
    (h : wpAny (model prog w) A (execs body env) (fun f s₁ => match f with | .next => wpAny (model prog w) A (execs [] env) Q E s₁ | f => Q f s₁)
      (fun ev s₁ => ∃ e H l, ev = .ref e ∧ At b ps L H l s₁ ∧ Free b ps L H e ∧ ExcNew s₁ e ∧ ∀ s₂, At b ps L H l s₂ → wpAny (model prog w) (A.mark (some (.ref e))) (execs (b₀ :: suite) env) Q NoE s₂) s) :
    wpAny (model prog w) A (exec (.Try body [.ExceptHandler (some t) none (b₀ :: suite) hpos] [] [] pos) env) Q E s := by
  refine wpAny_Try_except (wpAny_mono h (fun f s₁ h₁ => h₁) fun ev s₁ h₁ => ?_)
  obtain ⟨e, H, l, rfl, a, hf, hx, h₁⟩ := h₁
  refine note_at a hfr (by rw [he.kind]; simp) (he.frame h0) fo hf hx ?_
  intro s₂ a hx
  refine flight_at a hx ?_
  intro s₃ a hx
  refine wpAny_handleBy_builtin fplain_stop fmeta_stop fsub_stop ?_
  refine noE (wpAny_mono (ht _ _ _ s₃ a) (fun c s₄ h₄ => ?_) fun _ _ x => x)
  obtain ⟨rfl, rfl⟩ := h₄
  refine ⟨rfl, ?_, ?_⟩
  · obtain ⟨oe, vs, T, oT, ts, q1, q2, _⟩ := hx
    exact ⟨oe, q1, q2⟩
  · rw [if_pos rfl]
    refine flight_at a hx ?_
    intro s₅ a _
    exact noE (h₁ s₅ a)
end
end

section
set_option maxRecDepth 100000
/-- one open node of the search: its name, how far it is read, the wrapper, the iterator -/
structure Fr1 where
  k : Int
  i : Nat
  mw : Addr
  it : Addr
noncomputable def Cor (α : Ga) (H H1 : HP) (fs : List Fr1) : Prop := (∀ a o, H a = some o → H1 a = some o) ∧ ∀ f ∈ fs, H1 f.mw = some (mwO f.it) ∧ H1 f.it = some (liO (α.sa f.k) f.i) ∧ H f.mw = none ∧ H f.it = none
section
variable {α : Ga} {H H1 : HP} {fs : List Fr1} {x : Addr} {o o' : Obj}
theorem Cor.fresh (c : Cor α H H1 fs) (h : H1 x = none) : Cor α H (upd H1 x o) fs :=
  ⟨fun a o e => upd_of (c.1 a o e) h, fun f hf => let ⟨h1, h2, h3⟩ := c.2 f hf; ⟨upd_of h1 h, upd_of h2 h, h3⟩⟩
theorem Cor.updc (c : Cor α H H1 fs) (hx : H1 x = some o') (h1 : o'.cls ≠ .type "method-wrapper") (h2 : o'.cls ≠ .type "list_iterator") (hn : H x = none) : Cor α H (upd H1 x o) fs := by
  refine ⟨fun a oa e => ?_, fun f hf => ?_⟩
  · rw [upd_ne (by rintro rfl; rw [hn] at e; cases e)]; exact c.1 a oa e
  · obtain ⟨q1, q2, q3⟩ := c.2 f hf
    refine ⟨?_, ?_, q3⟩
    · rw [upd_ne]; exact q1
      rintro rfl; rw [q1] at hx; cases hx; exact h1 rfl
    · rw [upd_ne]; exact q2
      rintro rfl; rw [q2] at hx; cases hx; exact h2 rfl
theorem Cor.none (c : Cor α H H1 fs) (h : H1 x = none) : H x = none := by
  cases e : H x with
  | none => rfl
  | some o => rw [c.1 x o e] at h; cases h
end
noncomputable def unsn (su : Int → List Int) (sn : List Int) (ks : List Int) : Nat := (ks.map fun k => if k ∈ sn then 0 else (su k).length + 1).sum
theorem unsn_le {su : Int → List Int} {sn : List Int} {k : Int} : ∀ ks : List Int, unsn su (k :: sn) ks ≤ unsn su sn ks := by
  intro ks
  induction ks with
  | nil => exact Nat.le_refl _
  | cons j r ih =>
    unfold unsn at *
    simp only [List.map_cons, List.sum_cons, List.mem_cons]
    have : (if j = k ∨ j ∈ sn then 0 else (su j).length + 1) ≤ (if j ∈ sn then 0 else (su j).length + 1) := by split <;> split <;> simp_all
    simp only [List.mem_cons] at ih
    exact om419 this ih
theorem unsn_lt {su : Int → List Int} {sn : List Int} {k : Int} : ∀ {ks : List Int}, k ∈ ks → k ∉ sn → unsn su (k :: sn) ks + (su k).length + 1 ≤ unsn su sn ks := by
  intro ks
  induction ks with
  | nil => intro h; cases h
  | cons j r ih =>
    intro h hn
    have hle := unsn_le (su := su) (sn := sn) (k := k) r
    unfold unsn at *
    simp only [List.map_cons, List.sum_cons, List.mem_cons] at *
    by_cases hj : j = k
    · subst hj; simp only [true_or, if_true, hn, if_false]; exact om361 hle
    · have hk : k ∈ r := by
        rcases h with rfl | h
        · exact absurd rfl hj
        · exact h
      have := ih hk hn
      simp only [hj, false_or]; exact om422 this
theorem unsn_nil : ∀ ks : List Int, unsn (fun _ => []) [] ks = ks.length
  | [] => rfl
  | k :: r => by have := unsn_nil r; unfold unsn at *; simp at *; exact om250 this
noncomputable def remn (su : Int → List Int) (fs : List Fr1) : Nat := (fs.map fun f => (su f.k).length - f.i).sum
section
variable {prog : Program} {w : World} {A : Around} {E : Value → Shared → Prop} {Q : Value → Shared → Prop}
  {b s : Shared} {ps : List Prot} {H : HP} {L x d : Addr} {l : List (Str × Value)} {env : Env} {body orelse : List Stmt} {target : Expr} {vs : List Value} {kvs : List (Int × Value)}
theorem do_iter (a : At b ps L H l s) (hl : LsAt H x vs) (h : ∀ s' it, H it = none → At b ps L (upd H it (liO x 0)) l s' → Q (.ref it) s') : wpAny (model prog w) A (call (.builtin "iter") [.ref x]) Q E s := by
  refine PySem.Calls.call_function_entry (by decide +kernel) (by decide +kernel) kdk_entry_iter (kdk_args_iter _) ?_
  unfold Builtin.«iter»
  refine wpAny_bind (m := someArgs "iter" 1 2 _) (wpAny_of_eq (a := [Value.ref x]) (by first | rfl | kernel_rfl!) ?_)
  show wpAny _ _ (pyIter (.ref x) >>= _) _ _ _
  refine wpAny_bind (wpAny_pyIter_list (hl.isList a) ?_)
  exact wpAny_pure ⟨_, rfl, h _ _ (a.fresh (get_size _)) (a.push (liO x 0) rfl s.toks)⟩
theorem do_nextattr {it : Addr} {i : Nat} {expr : Bool} (a : At b ps L H l s) (hit : H it = some (liO x i)) (h : ∀ s' mw, H mw = none → At b ps L (upd H mw (mwO it)) l s' → Q (.ref mw) s') : wpAny (model prog w) A (getAttr (.ref it) "__next__" expr) Q E s :=
  ga_next (a.get hit) rfl rfl ⟨_, rfl⟩ (h _ _ (a.fresh (get_size _)) (a.push (mwO it) rfl (s.toks + 1)))
/-- for over the keys of a dict that stays -/
theorem for_keys {Q : Flow → Shared → Prop} (J : Nat → HP → List (Str × Value) → Prop) (hh : A.handled = none) (a : At b ps L H l s) (h0 : J 0 H l) {od : Obj} (hd : H d = some od) (hk : od.IsDictOf (PySem.intKind prog w) kvs) (hJ : ∀ i H l, J i H l → H d = some od)
    (turn : ∀ i k x t s ps' H l, kvs[i]? = some (k, x) → J i H l → At b ps' L H l s → (∀ outer, FrOk ps outer → FrOk ps' outer) → wpAny (model prog w) A (assign target env (.int k t)) (fun _ s₂ => wpAny (model prog w) A (execs body env) (ForPost b ps' L (J (i + 1)) Q) NoE s₂) NoE s)
    (done : ∀ s H l, J kvs.length H l → At b ps L H l s → wpAny (model prog w) A (execs orelse env) Q NoE s)
    (hgo : ∀ I v (s : Shared) (Q' : Unit → Shared → Prop), Q' () s → wpAny (model prog w) A (letOwnedTupleGo target (.ref I) v) Q' NoE s) :
    wpAny (model prog w) A (pyIter (.ref d)) (fun it s₂ => codeAny (model prog w) A (.forLoop target it body orelse env) (fun r s' => match r with | .ok f => Q f s' | .error e => cameBackBy (model prog w) A env E e s') s₂) E s := by
  have hD : DcAt prog w H d kvs := ⟨od, hd, hk⟩
  obtain ⟨ep, hA⟩ := (hD.dictOf a).dictAt
  have hx := a.get hd
  have hxI : d ≠ s.heap.objs.size := Nat.ne_of_lt (Heap.lt_size hx)
  refine wpAny_pyIter_dict (hD.notMods a) hA ?_
  have W := Walks.dictKeys (prog := prog) (w := w) (knd := PySem.intKind prog w) hh s.heap.objs.size d hxI kvs ep
  have hn := get_size s.heap
  have a' := a.aside_new (s' := { s with heap := s.heap.push { cls := .type "dict_keyiterator", data := .fields #[.ref d, .int 0 0, .int kvs.length 0, .int ep 0] } }) hn (Heap.get?_push_size _ rfl) (fun y oy _ e => Heap.get?_push_of_some _ e) rfl rfl
  refine loop_walk W (fun i h st => ?_) (fun y => if y = d then some od else none) J (fun i H l hj y hy hyI => ?_) (fun i v s Q' st q => hgo _ v s Q' q) a' (a.ps_ne hn) h0 ⟨⟨_, Heap.get?_push_size _ rfl, rfl, rfl⟩, hA.push _⟩ ?_ done
  · obtain ⟨o, ho, _⟩ := st.1; exact ⟨o, ho⟩
  · have : y = d := by simpa [hyI] using hy
    subst this
    exact ⟨od, by simp, hJ i H l hj⟩
  · rintro i v s₁ o H₁ l₁ hi ⟨k, x, hP, hkv⟩ hJ₁ a₁
    obtain ⟨t, rfl⟩ := Value.isInt_shape hkv
    exact turn i k x t s₁ _ H₁ l₁ hP hJ₁ a₁ (fun outer h => h.ob (a.ps_ne hn))
end
end

section
set_option maxRecDepth 100000
theorem StAt.cls {prog : Program} {w : World} {H : HP} {a : Addr} {S : Int → Bool} {n : Nat} (h : StAt prog w H a S n) : ∃ o, H a = some o ∧ o.cls = .type "set" := by
  obtain ⟨o, e, r⟩ := h
  exact ⟨o, e, r.1.1⟩
theorem DcAt.cls {prog : Program} {w : World} {H : HP} {a : Addr} {kvs : List (Int × Value)} (h : DcAt prog w H a kvs) : ∃ o, H a = some o ∧ o.cls = .type "dict" := by
  obtain ⟨o, e, ⟨es, ep, hx, _⟩⟩ := h
  exact ⟨o, e, hx.1⟩
structure Fv (prog : Program) (w : World) (α : Ga) (H H1 : HP) (st ik se nd : Addr) (fs : List Fr1) (sk : List Int) (iv : List Value) (S : Int → Bool) (n : Nat) (kvs : List (Int × Value)) : Prop where
  cor : Cor α H H1 fs
  stk : IlAt H1 st sk
  itl : LsAt H1 ik iv
  seen : StAt prog w H1 se S n
  n2s : DcAt prog w H1 nd kvs
  out : H st = none ∧ H ik = none ∧ H se = none ∧ H nd = none
  ne : st ≠ ik ∧ st ≠ se ∧ st ≠ nd ∧ ik ≠ se ∧ ik ≠ nd ∧ se ≠ nd
section
variable {prog : Program} {w : World} {α : Ga} {H H1 : HP} {st ik se nd x : Addr} {fs : List Fr1} {f : Fr1} {sk sk' : List Int} {iv iv' vs : List Value} {S S' : Int → Bool} {n n' m : Nat} {kvs kvs' : List (Int × Value)} {o : Obj}
theorem Fv.setSeen (v : Fv prog w α H H1 st ik se nd fs sk iv S n kvs) (ho : o.SetObjOf (PySem.intKind prog w) S' n') : Fv prog w α H (upd H1 se o) st ik se nd fs sk iv S' n' kvs := by
  obtain ⟨n1, n2, n3, n4, n5, n6⟩ := v.ne
  obtain ⟨o', e, hc⟩ := v.seen.cls
  exact ⟨v.cor.updc e (by rw [hc]; decide) (by rw [hc]; decide) v.out.2.2.1, v.stk.upd n2, v.itl.upd n4, ⟨o, upd_self, ho⟩, v.n2s.upd n6.symm, v.out, v.ne⟩
theorem Fv.setNd (v : Fv prog w α H H1 st ik se nd fs sk iv S n kvs) (ho : o.IsDictOf (PySem.intKind prog w) kvs') : Fv prog w α H (upd H1 nd o) st ik se nd fs sk iv S n kvs' := by
  obtain ⟨n1, n2, n3, n4, n5, n6⟩ := v.ne
  obtain ⟨o', e, hc⟩ := v.n2s.cls
  exact ⟨v.cor.updc e (by rw [hc]; decide) (by rw [hc]; decide) v.out.2.2.2, v.stk.upd n3, v.itl.upd n5, v.seen.upd n6, ⟨o, upd_self, ho⟩, v.out, v.ne⟩
theorem Fv.setSt (v : Fv prog w α H H1 st ik se nd fs sk iv S n kvs) (hi : IntsAre vs sk') : Fv prog w α H (upd H1 st (lsO vs m)) st ik se nd fs sk' iv S n kvs := by
  obtain ⟨n1, n2, n3, n4, n5, n6⟩ := v.ne
  obtain ⟨ws, ⟨q, e⟩, _⟩ := v.stk
  exact ⟨v.cor.updc e (by show Value.type "list" ≠ _; decide) (by show Value.type "list" ≠ _; decide) v.out.1, ⟨vs, LsAt.self, hi⟩, v.itl.upd n1.symm, v.seen.upd n2.symm, v.n2s.upd n3.symm, v.out, v.ne⟩
theorem Fv.setIk (v : Fv prog w α H H1 st ik se nd fs sk iv S n kvs) : Fv prog w α H (upd H1 ik (lsO iv' m)) st ik se nd fs sk iv' S n kvs := by
  obtain ⟨n1, n2, n3, n4, n5, n6⟩ := v.ne
  obtain ⟨q, e⟩ := v.itl
  exact ⟨v.cor.updc e (by show Value.type "list" ≠ _; decide) (by show Value.type "list" ≠ _; decide) v.out.2.1, v.stk.upd n1, LsAt.self, v.seen.upd n4.symm, v.n2s.upd n5.symm, v.out, v.ne⟩
theorem Fv.new (v : Fv prog w α H H1 st ik se nd fs sk iv S n kvs) (hx : H1 x = none) : Fv prog w α H (upd H1 x o) st ik se nd fs sk iv S n kvs :=
  ⟨v.cor.fresh hx, v.stk.fresh hx, v.itl.fresh hx, v.seen.fresh hx, v.n2s.fresh hx, v.out, v.ne⟩
theorem Fv.setIt (v : Fv prog w α H H1 st ik se nd (fs ++ [f]) sk iv S n kvs) (hn : ((fs ++ [f]).map (·.it)).Nodup) : Fv prog w α H (upd H1 f.it o) st ik se nd fs sk iv S n kvs := by
  obtain ⟨c1, c2⟩ := v.cor
  obtain ⟨f1, f2, f3, f4⟩ := c2 f (by simp)
  obtain ⟨ws, ⟨q, e⟩, hw⟩ := v.stk
  obtain ⟨q', e'⟩ := v.itl
  obtain ⟨os, es, hs⟩ := v.seen.cls
  obtain ⟨od, ed, hd⟩ := v.n2s.cls
  have cl : ∀ y oy, H1 y = some oy → oy.cls ≠ .type "list_iterator" → y ≠ f.it := by
    rintro y oy e hc rfl; rw [f2] at e; cases e; exact hc rfl
  refine ⟨⟨fun a oa e => ?_, fun g hg => ?_⟩, IlAt.upd ⟨ws, ⟨q, e⟩, hw⟩ (cl _ _ e (by show Value.type "list" ≠ _; decide)), LsAt.upd ⟨q', e'⟩ (cl _ _ e' (by show Value.type "list" ≠ _; decide)), v.seen.upd (cl _ _ es (by rw [hs]; decide)), v.n2s.upd (cl _ _ ed (by rw [hd]; decide)), v.out, v.ne⟩
  · rw [upd_ne (by rintro rfl; rw [f4] at e; cases e)]; exact c1 a oa e
  · obtain ⟨g1, g2, g3⟩ := c2 g (by simp [hg])
    have hne : g.it ≠ f.it := by
      rw [List.map_append, List.nodup_append] at hn
      exact hn.2.2 _ (List.mem_map_of_mem hg) _ (by simp)
    exact ⟨by rw [upd_ne (cl _ _ g1 (by show Value.type "method-wrapper" ≠ _; decide))]; exact g1, by rw [upd_ne hne]; exact g2, g3⟩
theorem Fv.snoc (v : Fv prog w α H H1 st ik se nd fs sk iv S n kvs) (h1 : H1 f.mw = some (mwO f.it)) (h2 : H1 f.it = some (liO (α.sa f.k) f.i)) (h3 : H f.mw = none) (h4 : H f.it = none) : Fv prog w α H H1 st ik se nd (fs ++ [f]) sk iv S n kvs :=
  ⟨⟨v.cor.1, fun g hg => by
    rcases List.mem_append.mp hg with hg | hg
    · exact v.cor.2 g hg
    · rw [List.mem_singleton] at hg; subst hg; exact ⟨h1, h2, h3, h4⟩⟩, v.stk, v.itl, v.seen, v.n2s, v.out, v.ne⟩
theorem Fv.front (v : Fv prog w α H H1 st ik se nd (fs ++ [f]) sk iv S n kvs) : Fv prog w α H H1 st ik se nd fs sk iv S n kvs :=
  ⟨⟨v.cor.1, fun g hg => v.cor.2 g (by simp [hg])⟩, v.stk, v.itl, v.seen, v.n2s, v.out, v.ne⟩
end
/-- what holds of the search's state beside the heap -/
structure Fp (keys : List Int) (rk : Int → Nat) (su : Int → List Int) (fs : List Fr1) (sn : List Int) (kvs : List (Int × Value)) : Prop where
  on : ∀ j, (valueAt kvs j).isSome = true ↔ j ∈ fs.map (·.k)
  kvl : kvs.length ≤ sn.length
  itn : (fs.map (·.it)).Nodup
  sub : ∀ f ∈ fs, f.k ∈ keys ∧ f.i ≤ (su f.k).length
  cnt : sn.length + unsn (fun _ => []) sn keys ≤ keys.length
  rkp : (fs.map (·.k)).Pairwise (fun a b => rk a < rk b)
noncomputable def FInv (prog : Program) (w : World) (keys : List Int) (α : Ga) (rk : Int → Nat) (su : Int → List Int) (H H1 : HP) (st ik se nd : Addr) (fs : List Fr1) (sn : List Int) : Prop :=
  ∃ kvs, Fv prog w α H H1 st ik se nd fs (fs.map (·.k)) (fs.map fun f => .ref f.mw) (fun j => decide (j ∈ sn)) sn.length kvs ∧ Fp keys rk su fs sn kvs
section
variable {keys : List Int} {rk : Int → Nat} {su : Int → List Int} {fs : List Fr1} {sn : List Int} {kvs : List (Int × Value)} {k : Int} {mw it : Addr} {f : Fr1}
theorem Fp.push {v : Value} (p : Fp keys rk su fs sn kvs) (hk : k ∈ keys) (hn : k ∉ sn) (hr : ∀ j ∈ fs.map (·.k), rk j < rk k) (hit : ∀ g ∈ fs, it ≠ g.it) : Fp keys rk su (fs ++ [⟨k, 0, mw, it⟩]) (k :: sn) (stored kvs k v) := by
  have hnk : valueAt kvs k = none := by
    cases e : valueAt kvs k with
    | none => rfl
    | some v' =>
      have := hr k ((p.on k).mp (by rw [e]; rfl))
      exact absurd this (Nat.lt_irrefl _)
  have hst := stored_absent hnk v
  refine ⟨fun j => ?_, ?_, ?_, ?_, ?_, ?_⟩
  · rw [hst, valueAt_isSome_eq_any, List.any_append, List.map_append, List.mem_append, Bool.or_eq_true, ← valueAt_isSome_eq_any, p.on j]
    simp [eq_comm]
  · rw [hst]; have := p.kvl; simp; exact om275 this
  · rw [List.map_append, List.nodup_append]
    refine ⟨p.itn, by simp, fun a ha b hb => ?_⟩
    obtain ⟨g, hg, rfl⟩ := List.mem_map.mp ha
    simp only [List.map_cons, List.map_nil, List.mem_singleton] at hb
    subst hb; exact fun e => hit g hg e.symm
  · intro g hg
    rcases List.mem_append.mp hg with hg | hg
    · exact p.sub g hg
    · rw [List.mem_singleton] at hg; subst hg; exact ⟨hk, Nat.zero_le _⟩
  · have h1 := unsn_lt (su := fun _ => []) hk hn
    have h2 := p.cnt
    simp only [List.length_nil, List.length_cons] at *
    exact om408 h2 h1
  · rw [List.map_append, List.pairwise_append]
    refine ⟨p.rkp, by simp, fun a ha b hb => ?_⟩
    simp only [List.map_cons, List.map_nil, List.mem_singleton] at hb
    subst hb; exact hr a ha
theorem Fp.pop (p : Fp keys rk su (fs ++ [f]) sn kvs) : Fp keys rk su fs sn (without kvs f.k) := by
  have hp := p.rkp
  rw [List.map_append, List.pairwise_append] at hp
  have hlt : ∀ j ∈ fs.map (·.k), rk j < rk f.k := fun j hj => hp.2.2 j hj _ (by simp)
  refine ⟨fun j => ?_, ?_, ?_, fun g hg => p.sub g (by simp [hg]), p.cnt, hp.1⟩
  · have hj := p.on j
    rw [valueAt_isSome_eq_any] at hj ⊢
    unfold without
    rw [List.any_filter]
    constructor
    · intro h
      rw [List.any_eq_true] at h
      obtain ⟨kv, h1, h2⟩ := h
      simp only [ne_eq, decide_not, Bool.and_eq_true, Bool.not_eq_eq_eq_not, Bool.not_true, decide_eq_false_iff_not, decide_eq_true_eq] at h2
      have : j ∈ (fs ++ [f]).map (·.k) := hj.mp (by rw [List.any_eq_true]; exact ⟨kv, h1, by simp [h2.2]⟩)
      rw [List.map_append, List.mem_append] at this
      rcases this with h | h
      · exact h
      · simp only [List.map_cons, List.map_nil, List.mem_singleton] at h
        exact absurd (h2.2.trans h) h2.1
    · intro h
      have h1 := hj.mpr (by rw [List.map_append, List.mem_append]; exact .inl h)
      rw [List.any_eq_true] at h1 ⊢
      obtain ⟨kv, h2, h3⟩ := h1
      refine ⟨kv, h2, ?_⟩
      simp only [decide_eq_true_eq] at h3
      have hne : j ≠ f.k := by rintro rfl; exact absurd (hlt _ h) (Nat.lt_irrefl _)
      simp [h3, hne]
  · have := p.kvl; have := length_without_le kvs f.k; exact om364 this (by assumption)
  · have := p.itn
    rw [List.map_append, List.nodup_append] at this
    exact this.1
theorem Fp.turn (p : Fp keys rk su (fs ++ [f]) sn kvs) (hlt : f.i < (su f.k).length) : Fp keys rk su (fs ++ [{ f with i := f.i + 1 }]) sn kvs := by
  have e1 : (fs ++ [{ f with i := f.i + 1 }]).map (fun x : Fr1 => x.k) = (fs ++ [f]).map (·.k) := by simp
  have e2 : (fs ++ [{ f with i := f.i + 1 }]).map (fun x : Fr1 => x.it) = (fs ++ [f]).map (·.it) := by simp
  refine ⟨fun j => by rw [e1]; exact p.on j, p.kvl, by rw [e2]; exact p.itn, fun g hg => ?_, p.cnt, by rw [e1]; exact p.rkp⟩
  rcases List.mem_append.mp hg with hg | hg
  · exact p.sub g (by simp [hg])
  · rw [List.mem_singleton] at hg; subst hg
    exact ⟨(p.sub f (by simp)).1, hlt⟩
theorem remn_snoc : remn su (fs ++ [f]) = remn su fs + ((su f.k).length - f.i) := by simp [remn]
end
section
variable {M : Model} {A : Around} {E : Value → Shared → Prop} {s : Shared} {env : Env} {Q : Value → Shared → Prop}
theorem ev_call_any {func : Expr} {args : List Expr} {pos : Pos} (h : wpAny M A (eval func env) (fun f s₁ => wpAny M A (callWith pos f [] (backTo pos (starEach args env)) []) Q E s₁) E s)
    (he : eval (.Call func args [] pos) env = (do callWith pos (← eval func env) [] (backTo pos (starEach args env)) []) := by with_unfolding_all rfl) : wpAny M A (eval (.Call func args [] pos) env) Q E s := by
  rw [he]; exact wpAny_bind h
/-- behind getMethod: a builtin's method with one or no argument -/
theorem cw_b1 {pos : Pos} {id : String} {first : List Value} {e : Expr} (h : wpAny M A (eval e env) (fun v s₁ => wpAny M A (call (.builtin id) (first ++ [v])) Q E s₁) E s)
    (hb : backTo pos (starEach [e] env) = [(false, eval e env)] := by with_unfolding_all rfl) : wpAny M A (callWith pos (.builtin id) first (backTo pos (starEach [e] env)) []) Q E s := by
  rw [hb]
  exact Calls.callWith_builtin rfl (Calls.evalArgs_plain (Calls.spliced_cons (wpAny_mono h (fun _ _ h₁ => Calls.spliced_nil h₁) fun _ _ e => e)))
theorem gm_set {prog : Program} {w : World} {b : Shared} {ps : List Prot} {L d : Addr} {H : HP} {l : List (Str × Value)} {S : Int → Bool} {n : Nat} {name : Str} {id : String} {pl : Sem Bool} {Q : Value × List Value → Shared → Prop} (hslot : Slot "set" name id) (hty : typeOf (.builtin id) = pure (.type "method_descriptor")) (a : At b ps L H l s) (h : StAt prog w H d S n)
    (q : Q (.builtin id, [.ref d]) s) : wpAny (model prog w) A (getMethod (.ref d) name pl) Q E s := by
  obtain ⟨o, e, r⟩ := _root_.id h
  have hx := r.1
  exact getMethod_builtin ⟨o, a.get e, hx.1⟩ PySem.F.plainAttrs_set hslot hty (fun y hy => by cases hy; exact ⟨o, a.get e, hx.2.1⟩) q
end
end

section
set_option maxRecDepth 100000
theorem ints_unsnoc {k : Int} : ∀ {ks : List Int} {vs : List Value}, IntsAre vs (ks ++ [k]) → ∃ ws u, vs = ws ++ [.int k u] ∧ IntsAre ws ks := by
  intro ks
  induction ks with
  | nil =>
    intro vs h
    cases h with
    | cons _ u h => cases h; exact ⟨[], u, rfl, .nil⟩
  | cons j r ih =>
    intro vs h
    cases h with
    | cons _ u h =>
      obtain ⟨ws, u', rfl, h'⟩ := ih h
      exact ⟨.int j u :: ws, u', rfl, .cons _ _ h'⟩
theorem len_of_on {rk : Int → Nat} {kvs : List (Int × Value)} : ∀ {ks : List Int}, (∀ j, (valueAt kvs j).isSome = true ↔ j ∈ ks) → ks.Pairwise (fun a b => rk a < rk b) → ks.length ≤ kvs.length := by
  intro ks h hp
  have key : ∀ (ks : List Int) (kvs : List (Int × Value)), (∀ j ∈ ks, (valueAt kvs j).isSome = true) → ks.Pairwise (fun a b => rk a < rk b) → ks.length ≤ kvs.length := by
    intro ks
    induction ks with
    | nil => intros; exact Nat.zero_le _
    | cons k r ih =>
      intro kvs h hp
      rw [List.pairwise_cons] at hp
      have hk := h k (.head _)
      have h1 := ih (without kvs k) (fun j hj => ?_) hp.2
      · have : (without kvs k).length < kvs.length := by
          unfold without
          rw [valueAt_isSome_eq_any, List.any_eq_true] at hk
          obtain ⟨kv, h1, h2⟩ := hk
          exact List.length_filter_lt_length_iff_exists.mpr ⟨kv, h1, by simpa using h2⟩
        simp only [List.length_cons]; exact om362 h1 this
      · have hj' := h j (.tail _ hj)
        have hne : j ≠ k := by rintro rfl; exact absurd (hp.1 _ hj) (Nat.lt_irrefl _)
        rw [valueAt_isSome_eq_any, List.any_eq_true] at hj' ⊢
        obtain ⟨kv, h1, h2⟩ := hj'
        simp only [decide_eq_true_eq] at h2
        exact ⟨kv, by unfold without; rw [List.mem_filter]; exact ⟨h1, by simp [h2, hne]⟩, by simp [h2]⟩
  exact key ks kvs (fun j hj => (h j).mpr hj) hp
section
variable {prog : Program} {w : World} {A : Around} {E : Value → Shared → Prop} {mg mb : Str → Option Value}
  {b s : Shared} {ps : List Prot} {H H' : HP} {L x dx y dy sa z d rl : Addr} {l : List (Str × Value)} {Q : Value → Shared → Prop} {r p f v : Value} {o : Obj} {k pn fn : Int} {keys : List Int} {α : Ga} {np : Int → Int} {su : Int → List Int} {ns rdy : List Int} {vs : List Value} {outer : List Env}
theorem findcycle_spec (C : Ctx (hd.heap_1 w.params) b mg mb) (hp : Hp b ps H s) (rm : Rm 3 A) (hfr : A.frames = some outer) (fo : FrOk ps outer) (hs : SAt w.params H x dx (.ref d) r p f) (g : GrAt prog w H d keys α np su)
    (hsuk : ∀ k ∈ keys, ∀ j ∈ su k, j ∈ keys) (rk : Int → Nat) (hrk : ∀ k ∈ keys, ∀ j ∈ su k, rk k < rk j) (hlen : keys.length < 900) (hsl : ∀ k, (su k).length < 900)
    (q : ∀ s', Hp b ps H s' → Q .none s') :
    wpAny (model prog w) A (call (.ref 162) [.ref x]) Q E s := by
  refine call_def [("self", .ref x)] C hp (by with_unfolding_all rfl) rfl rfl rfl (by kernel_rfl!) rm.room (BindsTo.of_eq rfl) (by decide) (locs rfl) ?_
  intro L s env he a
  dsimp only at he
  have rm1 : Rm 2 (A.deeper env) := rm.deeper
  have hfr1 : (A.deeper env).frames = some (env :: outer) := by show A.frames.map (env :: ·) = _; rw [hfr]; rfl
  generalize A.deeper env = A1 at *
  walk_at "st"
  refine ga_n2i C (by assumption) hs rfl ?_
  intro s a
  walk_at "go"
  walk_at "st"
  refine new_list a (by simp) ?_
  intro s st hst a
  walk_at "go"
  walk_at "st"
  refine new_list a (by simp) ?_
  intro s ik hik a
  walk_at "go"
  walk_at "st"
  refine wpAny_Call_NameR (ev_builtin C a he (g_set w) boot_set (callWith_type0 ?_))
  refine st_new a ?_
  intro s se ose hse hso a
  walk_at "go"
  walk_at "st"
  refine new_dict a ?_
  intro s nd hnd a
  walk_at "go"
  have v0 : Fv prog w α H (upd (upd (upd (upd H st (lsO [] 0)) ik (lsO [] 0)) se ose) nd (W.dictOf [] 0)) st ik se nd [] [] [] (fun _ => false) 0 [] := by
    have n1 : ik ≠ st := by rintro rfl; rw [upd_self] at hik; cases hik
    have n2 : se ≠ ik := by rintro rfl; rw [upd_self] at hse; cases hse
    have n3 : se ≠ st := by rintro rfl; rw [upd_ne n1.symm, upd_self] at hse; cases hse
    have n4 : nd ≠ se := by rintro rfl; rw [upd_self] at hnd; cases hnd
    have n5 : nd ≠ ik := by rintro rfl; rw [upd_ne n2.symm, upd_self] at hnd; cases hnd
    have n6 : nd ≠ st := by rintro rfl; rw [upd_ne n3.symm, upd_ne n1.symm, upd_self] at hnd; cases hnd
    have hik' : H ik = none := by rw [upd_ne n1] at hik; exact hik
    have hse' : H se = none := by rw [upd_ne n2, upd_ne n3] at hse; exact hse
    have hnd' : H nd = none := by rw [upd_ne n4, upd_ne n5, upd_ne n6] at hnd; exact hnd
    refine ⟨⟨fun z oz e => ?_, fun f hf => by cases hf⟩, ⟨[], ⟨0, ?_⟩, .nil⟩, ⟨0, ?_⟩, ⟨ose, ?_, hso⟩, DcAt.new upd_self, ⟨hst, hik', hse', hnd'⟩, n1.symm, n3.symm, n6.symm, n2.symm, n5.symm, n4.symm⟩
    · exact upd_of (upd_of (upd_of (upd_of e hst) hik) hse) hnd
    · rw [upd_ne n6.symm, upd_ne n3.symm, upd_ne n1.symm, upd_self]
    · rw [upd_ne n5.symm, upd_ne n2.symm, upd_self]
    · rw [upd_ne n4.symm, upd_self]
  have f0 : FInv prog w keys α rk su H (upd (upd (upd (upd H st (lsO [] 0)) ik (lsO [] 0)) se ose) nd (W.dictOf [] 0)) st ik se nd [] [] := by
    refine ⟨[], ?_, ⟨fun j => by simp [valueAt], Nat.le_refl _, by simp, fun f hf => (by cases hf), ?_, by simp⟩⟩
    · have := v0
      simpa using this
    · rw [unsn_nil]; simp
  clear v0
  generalize (upd (upd (upd (upd H st (lsO [] 0)) ik (lsO [] 0)) se ose) nd (W.dictOf [] 0)) = H0 at *
  have hgs : ∀ {H1 : HP} {fs sn}, FInv prog w keys α rk su H H1 st ik se nd fs sn → GrAt prog w H1 d keys α np su := fun h => by
    obtain ⟨kvs, v, _⟩ := h
    exact g.mono fun a _ o e => v.cor.1 a o e
  obtain ⟨od, hod, hodd⟩ := id g.dict
  walk_at "cons"
  refine wpAny_For ?_ (fun _ => rfl)
  walk_at "go"
  refine for_keys (kvs := keys.map fun k => (k, .ref (α.xa k))) (fun m H1 l => (∃ sn, FInv prog w keys α rk su H H1 st ik se nd [] sn) ∧ Names l [("n2i", .ref d), ("stack", .ref st), ("itstack", .ref ik), ("seen", .ref se), ("node2stacki", .ref nd)]) rm1.hand a ?_ (od := od) ?_ hodd ?_ ?_ ?_ ?_
  · exact ⟨⟨[], f0⟩, by walk_at "names"⟩
  · obtain ⟨kvs, v, _⟩ := f0; exact v.cor.1 _ _ hod
  · rintro i H1 l ⟨⟨sn, kvs, v, _⟩, _⟩; exact v.cor.1 _ _ hod
  · intro i k x' t s ps' H1 l hik' hI9 a hfo
    walk_at "gp"
    obtain ⟨⟨sn, hF⟩, hnm⟩ := hI9
    have fo1 := hfo outer fo
    have hk : k ∈ keys := by
      have := List.mem_of_getElem? hik'
      rw [List.mem_map] at this
      obtain ⟨k', h1, h2⟩ := this
      cases h2; exact h1
    have a := a.to (l' := [("n2i", .ref d), ("stack", .ref st), ("itstack", .ref ik), ("seen", .ref se), ("node2stacki", .ref nd)]) hnm
    walk_at "go"
    walk_at "st"
    obtain ⟨kvs, v, p⟩ := id hF
    have hcnt := p.cnt
    refine st_in a v.seen (by show _ < 4096; exact om331 hcnt hlen) ?_
    intro s a
    walk_at "go"
    refine ite_dec (fun hin => ?_) (fun hin => ?_)
    · walk_at "all"
      exact ⟨_, _, a, ⟨sn, hF⟩, by walk_at "names"⟩
    · walk_at "go"
      walk_at "cons"
      refine ex_whileP (fun n s => ∃ H1 l fs sn k t, At b ps' L H1 l s ∧ FInv prog w keys α rk su H H1 st ik se nd fs sn ∧ Names l [("node", .int k t), ("n2i", .ref d), ("stack", .ref st), ("itstack", .ref ik), ("seen", .ref se), ("node2stacki", .ref nd)] ∧ k ∈ keys ∧ (∀ j ∈ fs.map (·.k), rk j < rk k) ∧ n = unsn su sn keys + remn su fs)
        (fun s => ∃ H1 l sn, At b ps' L H1 l s ∧ FInv prog w keys α rk su H H1 st ik se nd [] sn ∧ Names l [("n2i", .ref d), ("stack", .ref st), ("itstack", .ref ik), ("seen", .ref se), ("node2stacki", .ref nd)]) ?_ _ ⟨_, _, [], sn, k, t, a, hF, by walk_at "names", hk, by simp, rfl⟩ ?_
      · clear hF v p hcnt hin a hk hnm
        intro n s hI9
        walk_at "gp"
        obtain ⟨H1, l, fs, sn, k, t, a, hF, hnm, hk, hrk1, rfl⟩ := hI9
        have a := a.to (l' := [("node", .int k t), ("n2i", .ref d), ("stack", .ref st), ("itstack", .ref ik), ("seen", .ref se), ("node2stacki", .ref nd)]) hnm
        refine wpAny_isTrue_value ?_ (by with_unfolding_all rfl)
        refine wpAny_Constant_bool ?_
        refine tr_bool ?_
        refine Pq.go hKP ?_
        refine ite_true' ?_
        walk_at "gp"
        refine ex_cut (fun s => ∃ H1 l fs' sn', At b ps' L H1 l s ∧ FInv prog w keys α rk su H H1 st ik se nd fs' sn' ∧ Names l [("n2i", .ref d), ("stack", .ref st), ("itstack", .ref ik), ("seen", .ref se), ("node2stacki", .ref nd)] ∧ unsn su sn' keys + remn su fs' ≤ unsn su sn keys + remn su fs) ?_ ?_
        · walk_at "go"
          obtain ⟨kvs, v, p⟩ := id hF
          have hcnt := p.cnt
          refine st_in a v.seen (by show _ < 4096; exact om331 hcnt hlen) ?_
          intro s a
          walk_at "go"
          refine ite_dec (fun hin => ?_) (fun hin => ?_)
          · walk_at "st"
            refine dc_in a v.n2s ?_
            intro s a
            walk_at "go"
            have hno : (valueAt kvs k).isSome = false := by
              cases e : (valueAt kvs k).isSome with
              | false => rfl
              | true => exact absurd (hrk1 k ((p.on k).mp e)) (Nat.lt_irrefl _)
            rw [hno]
            refine ite_false' ?_
            walk_at "all"
            exact ⟨rfl, _, _, fs, sn, a, hF, by walk_at "names", Nat.le_refl _⟩
          · have hsl1 := hsl k
            have hln : fs.length ≤ sn.length := by
              have := p.kvl
              have h2 := len_of_on p.on p.rkp
              rw [List.length_map] at h2
              exact om364 h2 this
            walk_at "st"
            refine MethodCall_ ?_ (by with_unfolding_all rfl)
            walk_at "go"
            refine gm_set PySem.F.slot_set_add PySem.F.type_set_add (by assumption) v.seen ?_
            refine cw_b1 ?_
            walk_at "go"
            refine st_add a v.seen (by show _ < 4096; exact om330 hcnt hlen) ?_
            intro s o1 ho1 a
            have v1 := v.setSeen ho1
            have e1 : (if (fun j => decide (j ∈ sn)) k = true then sn.length else sn.length + 1) = (k :: sn).length := by simp [hin]
            have e2 : (fun k' => decide (k' ∈ sn) || decide (k' = k)) = fun j => decide (j ∈ k :: sn) := by funext j; rw [← Bool.decide_or]; simp [or_comm]
            rw [e1, e2] at v1
            clear e1 e2 ho1
            walk_at "go"
            walk_at "st"
            refine ev_append ?_ (by with_unfolding_all rfl) (by with_unfolding_all rfl) (by with_unfolding_all rfl)
            walk_at "go"
            refine ⟨_, _, _, _, _, _, _, rfl, by assumption, v1.itl, ?_⟩
            walk_at "go"
            refine ev_call_b C (by assumption) he (g_iter w) boot_iter ?_
            walk_at "go"
            have g1 := g.mono (H' := upd H1 se o1) fun a _ o e => v1.cor.1 a o e
            refine dc_sub (by assumption) g1.dict (by rw [valueAt_keys, if_pos hk]) ?_
            intro s a
            walk_at "go"
            refine ga_succ C (by assumption) (g1.node k hk) ?_
            intro s a
            walk_at "go"
            obtain ⟨ws, hws, hwi⟩ := g1.list k hk
            refine do_iter a hws ?_
            intro s it hit a
            walk_at "go"
            have v2 := v1.new (o := liO (α.sa k) 0) hit
            refine do_nextattr a upd_self ?_
            intro s mw hmw a
            have v3 := v2.new (o := mwO it) hmw
            have hitm : it ≠ mw := by rintro rfl; rw [upd_self] at hmw; cases hmw
            have hitf : ∀ g ∈ fs, it ≠ g.it := by
              rintro g hg rfl
              rw [(v1.cor.2 g hg).2.1] at hit; cases hit
            have v4 : Fv _ _ _ _ _ _ _ _ _ (fs ++ [⟨k, 0, mw, it⟩]) _ _ _ _ _ := v3.snoc (f := ⟨k, 0, mw, it⟩) upd_self (by show upd _ mw _ it = _; rw [upd_ne hitm, upd_self]) (v2.cor.none hmw) (v1.cor.none hit)
            walk_at "go"
            refine do_append a v4.itl (by simp; exact om418 hln hcnt hlen) ?_
            intro s n1 a
            have v5 := v4.setIk (iv' := (fs.map fun f => .ref f.mw) ++ [.ref mw]) (m := n1)
            walk_at "go"
            walk_at "st"
            refine ev_call_b C (by assumption) he (g_len w) boot_len ?_
            walk_at "go"
            obtain ⟨sv, hsv, hsi⟩ := id v5.stk
            have hsvl := hsi.length
            rw [List.length_map] at hsvl
            refine do_len a hsv (by exact om442 hsvl hln hcnt hlen) ?_
            intro t1 s a
            walk_at "go"
            have hkl := p.kvl
            refine dc_set a v5.n2s (by exact om418 hkl hcnt hlen) ?_
            intro s o2 ho2 a
            have v6 := v5.setNd ho2
            walk_at "go"
            walk_at "st"
            refine ev_append ?_ (by with_unfolding_all rfl) (by with_unfolding_all rfl) (by with_unfolding_all rfl)
            walk_at "go"
            obtain ⟨sv2, hsv2, hsi2⟩ := id v6.stk
            have hsvl2 := hsi2.length
            rw [List.length_map] at hsvl2
            refine ⟨_, _, _, _, _, _, _, rfl, by assumption, hsv2, ?_⟩
            walk_at "go"
            refine do_append a hsv2 (by exact om442 hsvl2 hln hcnt hlen) ?_
            intro s n2 a
            have v7 := v6.setSt (vs := sv2 ++ [.int k t]) (sk' := (fs.map (·.k)) ++ [k]) (m := n2) (IntsAre.snoc' hsi2)
            walk_at "all"
            have hun := unsn_lt (su := su) hk (by simpa using hin)
            refine ⟨rfl, _, _, fs ++ [⟨k, 0, mw, it⟩], k :: sn, a, ⟨stored kvs k (.int (sv.length : Nat) t1), ?_, p.push hk (by simpa using hin) hrk1 hitf⟩, by walk_at "names", ?_⟩
            · have v8 := v7
              simp only [List.map_append, List.map_cons, List.map_nil]
              exact v8
            · rw [remn_snoc]; show unsn su (k :: sn) keys + (remn su fs + ((su k).length - 0)) ≤ _; exact om407 hun
        · rintro s ⟨H1, l, fs', sn', a, hF, hnm, hle⟩
          generalize unsn su sn keys + remn su fs = n at *
          walk_at "cons"
          refine ex_while (fun n2 s => ∃ H1 l fs sn, At b ps' L H1 l s ∧ FInv prog w keys α rk su H H1 st ik se nd fs sn ∧ Names l [("n2i", .ref d), ("stack", .ref st), ("itstack", .ref ik), ("seen", .ref se), ("node2stacki", .ref nd)] ∧ n2 = fs.length ∧ unsn su sn keys + remn su fs ≤ n) ?_ _ ⟨H1, l, fs', sn', a, hF, hnm, rfl, hle⟩
          clear hnm hle hF a fs' sn' l H1 s
          intro n2 s hI9
          walk_at "gp"
          obtain ⟨H1, l, fs, sn, a, hF, hnm, rfl, hle⟩ := hI9
          have a := a.to (l' := [("n2i", .ref d), ("stack", .ref st), ("itstack", .ref ik), ("seen", .ref se), ("node2stacki", .ref nd)]) hnm
          obtain ⟨kvs, v, p⟩ := id hF
          have hcnt := p.cnt
          have hkvl := p.kvl
          have hln := len_of_on p.on p.rkp
          rw [List.length_map] at hln
          obtain ⟨sv, hsv, hsi⟩ := id v.stk
          have hsvl := hsi.length
          rw [List.length_map] at hsvl
          refine wpAny_isTrue_value ?_ (by with_unfolding_all rfl)
          walk_at "go"
          refine tr_list a hsv (by exact om448 hsvl hln hkvl hcnt hlen) ?_
          intro s a
          rcases List.eq_nil_or_concat fs with rfl | ⟨fs0, f, rfl⟩
          · have : sv = [] := List.eq_nil_of_length_eq_zero (by simpa using hsvl)
            subst this
            refine Pq.go hKP ?_
            refine ite_false' ?_
            walk_at "all"
            exact ⟨H1, _, sn, a, hF, by walk_at "names"⟩
          · rw [List.concat_eq_append] at *
            have hsne : (!sv.isEmpty) = true := by cases sv with | nil => simp at hsvl | cons _ _ => rfl
            rw [hsne]
            refine Pq.go hKP ?_
            refine ite_true' ?_
            walk_at "gp"
            obtain ⟨f1, f2, f3, f4⟩ := v.cor.2 f (by simp)
            obtain ⟨p1, p2⟩ := p.sub f (by simp)
            have hLs : IlAt H1 (α.sa f.k) (su f.k) := (g.list f.k p1).mono fun o e => v.cor.1 _ o e
            obtain ⟨ws, hws, hwi⟩ := hLs
            have hwl := hwi.length
            walk_at "cons"
            refine try_stop (b := b) he (by kernel_rfl!) hfr1 fo1 ?_ ?_
            · intro A2 H2 l2 s2 a2
              exact ev_builtin C a2 he (g_StopIteration w) (by kernel_rfl!) ⟨rfl, rfl⟩
            · walk_at "st"
              refine ev_call_any ?_
              walk_at "go"
              refine sub_last a v.itl (v := .ref f.mw) (by simp) ?_
              refine callWith_mw a f1 ?_
              by_cases hlt : f.i < (su f.k).length
              · obtain ⟨u, hu⟩ := hwi.get f.i (su f.k)[f.i] (by simp [hlt])
                refine next_item a f1 f2 hws hu ?_
                intro s a
                walk_at "all"
                have v2 := (v.setIt (o := liO (α.sa f.k) (f.i + 1)) p.itn).snoc (f := { f with i := f.i + 1 }) (by show upd _ f.it _ f.mw = _; rw [upd_ne]; exact f1; rintro e; rw [e, f2] at f1; exact absurd (show Value.type "list_iterator" = Value.type "method-wrapper" from congrArg Obj.cls (Option.some.inj f1)) (by decide)) upd_self f3 f4
                refine ⟨_, ?_, _, _, fs0 ++ [{ f with i := f.i + 1 }], sn, (su f.k)[f.i], u, a, ⟨kvs, ?_, p.turn hlt⟩, by walk_at "names", hsuk _ p1 _ (List.getElem_mem hlt), ?_, rfl⟩
                · rw [remn_snoc] at hle ⊢
                  show unsn su sn keys + (remn su fs0 + ((su f.k).length - (f.i + 1))) < n
                  exact om440 hle hlt
                · simpa using v2
                · intro j hj
                  have h1 := hrk f.k p1 _ (List.getElem_mem hlt)
                  have h2 := p.rkp
                  rw [List.map_append, List.pairwise_append] at h2
                  rw [List.map_append, List.mem_append] at hj
                  rcases hj with hj | hj
                  · exact Nat.lt_trans (h2.2.2 j hj _ (by simp)) h1
                  · simp only [List.map_cons, List.map_nil, List.mem_singleton] at hj
                    subst hj; exact h1
              · refine next_end a f1 f2 hws (by rw [List.getElem?_eq_none_iff]; exact om356 hwl hlt) rm1.hand ?_
                intro s e a hfe hx
                refine ⟨e, _, _, rfl, a, hfe, hx, ?_⟩
                intro s a
                have v2 := v.setIt (o := liX f.i) p.itn
                obtain ⟨sw, hsw, hswi⟩ := id v2.stk
                rw [List.map_append] at hswi
                obtain ⟨sw0, u0, rfl, hsw0⟩ := ints_unsnoc hswi
                have hswl := hsw0.length
                rw [List.length_map] at hswl
                rw [List.length_append] at hln
                walk_at "cons"
                refine wpAny_Delete ?_
                refine wpAny_deleteEach_cons ?_
                refine wpAny_delete_Subscript ?_
                walk_at "go"
                refine ev_pop ?_ (by with_unfolding_all rfl) (by with_unfolding_all rfl)
                walk_at "go"
                refine ⟨_, _, _, _, _, _, _, rfl, by assumption, hsw, ?_⟩
                refine do_pop a hsw (by exact om451 hswl hln hkvl hcnt hlen) ?_
                intro s n3 a
                have v3 := v2.setSt (m := n3) hsw0
                refine dc_del a v3.n2s (by exact om418 hkvl hcnt hlen) ((p.on f.k).mpr (by simp)) ?_
                intro s o4 ho4 a
                have v4 := v3.setNd ho4
                refine wpAny_deleteEach_nil ?_
                walk_at "cons"
                refine wpAny_Expr_any ?_ (by simp [interactive, he.kind]) (by with_unfolding_all rfl)
                refine ev_pop ?_ (by with_unfolding_all rfl) (by with_unfolding_all rfl)
                walk_at "go"
                have hiv := v4.itl
                rw [List.map_append] at hiv
                refine ⟨_, _, _, _, _, _, _, rfl, by assumption, hiv, ?_⟩
                refine do_pop a hiv (by rw [List.length_map]; exact om447 hln hkvl hcnt hlen) ?_
                intro s n4 a
                have v5 := v4.setIk (iv' := fs0.map fun f => .ref f.mw) (m := n4)
                walk_at "all"
                refine ⟨fs0.length, by simp, _, _, fs0, sn, a, ⟨_, v5, p.pop⟩, by walk_at "names", rfl, ?_⟩
                rw [remn_snoc] at hle
                exact om441 hle
      · rintro s ⟨H1, l, sn, a, hF, hnm⟩
        walk_at "all"
        exact ⟨_, _, a, ⟨sn, hF⟩, hnm⟩
  · rintro s H1 l ⟨⟨sn, kvs, v, p⟩, hnm⟩ a
    walk_at "all"
    exact q _ (a.weak v.cor.1).hp
  · exact fun _ _ _ _ q => wpAny_pure q
end
end

section
set_option maxRecDepth 100000
/-- the names of a comprehension inside a function with the names ns -/
noncomputable def relab (ns names : List (Str × NameKind)) : List (Str × NameKind) := names.map fun (n, k) => if (k == .free && ns.lookup n == some .cell) then (n, .cell) else (n, k)
section
variable {prog : Program} {w : World} {A : Around} {E : Value → Shared → Prop} {Q : Value → Shared → Prop}
  {b s : Shared} {ps : List Prot} {H : HP} {L x d : Addr} {l : List (Str × Value)} {env : Env} {ns ns' : List (Str × NameKind)} {cs cl : List (Str × Addr)}
theorem relab_eq {scope : Scope} (he : EnvIs env L ns cs) : (relabel scope env).names = relab ns scope.names := by
  unfold relabel relab
  simp only [he.kof, he.kind]
  apply List.map_congr_left
  intro x _
  obtain ⟨n, k⟩ := x
  simp
theorem env_comp {scope : Scope} {C : Addr} (he : EnvIs env L ns cs) (hkind : scope.kind = .function) (hns : relab ns scope.names = ns') (h0 : ns'.lookup (".0" : Str) = some .local) : EnvIs (compEnvC scope cl C env) C ns' cl :=
  ⟨rfl, hkind, he.glob, he.blt, fun y => by show (relabel scope env).names.lookup y = _; rw [relab_eq he, hns], fun h => (by rw [h0] at h; cases h), rfl⟩
/-- what a comprehension's loop needs of its iterator -/
structure CompPk (prog : Program) (w : World) (A : Around) (E : Value → Shared → Prop) (env : Env) (L : Addr) (ns' : List (Str × NameKind)) (cl : List (Str × Addr)) (x : Str) (ifs : List Expr) (elt : Expr) (Q : Value → Shared → Prop)
    (I : Addr) (fp : List Addr) (n : Nat) (P : Nat → Value → Prop) (St : Nat → Heap → Prop) (b : Shared) (ps : List Prot) (H : HP) (l : List (Str × Value)) (G : HP) (J : Addr → Nat → HP → List Value → Prop) (s₂ : Shared) : Prop where
  W : Walks prog w A I fp [I] n P St
  hI : ∀ i h, St i h → ∃ o, h.get? I = some o
  at_ : ∃ o₀, At b (.ob I o₀ :: ps) L H l s₂
  hps : ∀ p ∈ ps, p.at ≠ I
  st : St 0 s₂.heap
  hfp : ∀ D i H' acc, J D i H' acc → ∀ y ∈ fp, y ≠ I → ∃ o, G y = some o ∧ H' y = some o
  small : n < 10000
  init : ∀ D, H D = none → J D 0 (upd H D (lsO [] 0)) []
  turn : ∀ D C env' i v s ps' H' acc, EnvIs env' C ns' cl → i < n → P i v → H D = none → J D i H' acc → LsAt H' D acc → At b ps' C H' [(x, v)] s →
    wpAny (model prog w) A (forIn ifs true fun c r => if r = true then do let ok ← isTrue c env' (eval c env'); pure (ForInStep.yield ok) else pure (ForInStep.yield r)) (fun ok s₃ =>
      if ok = true then wpAny (model prog w) A (eval elt env') (fun y s₄ => ∃ H'' l', At b ps' C H'' l' s₄ ∧ LsAt H'' D acc ∧ ∀ m, J D (i + 1) (upd H'' D (lsO (acc ++ [y]) m)) (acc ++ [y])) NoE s₃
      else ∃ H'' l', At b ps' C H'' l' s₃ ∧ LsAt H'' D acc ∧ J D (i + 1) H'' acc) NoE s
  len : ∀ D i H' acc, J D i H' acc → acc.length ≤ i
  done : ∀ D s H' acc, H D = none → J D n H' acc → LsAt H' D acc → At b ps L H' l s → Q (.ref D) s
theorem ev_comp {elt iter : Expr} {x : Str} {px : Pos} {ifs : List Expr} {scope : Scope} {pos : Pos}
    (he : EnvIs env L ns cs) (hclos : closureFor scope env = pure cl) (hcell : ∀ y ∈ scope.names, y.2 ≠ .cell) (hkind : scope.kind = .function)
    (hnames : ∀ y ∈ scope.names, y.2 = .local → scope.names.lookup y.1 = some .local) (hx : ns'.lookup x = some .local) (hns : relab ns scope.names = ns') (h0 : ns'.lookup (".0" : Str) = some .local)
    (h : wpAny (model prog w) A (eval iter env) (fun xv s₁ => wpAny (model prog w) A (pyIter xv) (fun it s₂ => ∃ I fp n P St b ps H l G J, it = .ref I ∧ CompPk prog w A E env L ns' cl x ifs elt Q I fp n P St b ps H l G J s₂) E s₁) E s)
    (hs : ∀ x, foldedSetIterable iter env x = pure x := by intro _; rfl) :
    wpAny (model prog w) A (eval (.ListComp elt [⟨.Name x px, iter, ifs, 0⟩] scope pos) env) Q E s := by
  rw [eval_ListComp]
  refine wpAny_comprehension_free (use := none) rfl hs hclos hkind hnames (wpAny_mono h (fun xv s₁ h₁ => wpAny_mono h₁ (fun it s₂ h₂ => ?_) fun _ _ e => e) fun _ _ e => e)
  clear h
  obtain ⟨I, fp, n, P, St, b, ps, H, l, G, J, rfl, k⟩ := h₂
  obtain ⟨o₀, a⟩ := k.at_
  refine wpAny_newObj_type ?_
  have hD : H s₂.heap.objs.size = none := a.fresh (get_size _)
  have a1 := a.push (lsO [] 0) rfl s₂.toks
  have hDI : s₂.heap.objs.size ≠ I := fun e => by
    have := Heap.lt_size a.aside_get
    rw [← e] at this; exact Nat.lt_irrefl _ this
  generalize hDD : s₂.heap.objs.size = D at *
  have hst1 : St 0 ({ s₂ with heap := s₂.heap.push (lsO [] 0) } : Shared).heap := k.W.frame _ _ _ k.st fun y _ o e => Heap.get?_push_of_some _ e
  show wpAny _ _ _ _ _ ({ s₂ with heap := s₂.heap.push (lsO [] 0) } : Shared)
  generalize hs3 : ({ s₂ with heap := s₂.heap.push (lsO [] 0) } : Shared) = s₃ at *
  refine wpAny_newFunctionEnv hcell (by intro y hy; simp at hy) (fun h₁ hns₁ hsb₁ => ?_) hkind
  try dsimp only at hns₁ hsb₁ ⊢
  have hn3 := get_size s₃.heap
  obtain ⟨mC, hnsC⟩ : ∃ m, h₁.Ns s₃.heap.objs.size m := ⟨_, hns₁⟩
  clear hns₁
  have hkeep : ∀ y o, s₃.heap.get? y = some o → h₁.get? y = some o := fun y o e => hsb₁.extBut y o (Nat.ne_of_lt (Heap.lt_size e)) (Heap.get?_push_of_some _ e)
  have hCf : ∀ y o, s₃.heap.get? y = some o → y ≠ s₃.heap.objs.size := fun y o e => Nat.ne_of_lt (Heap.lt_size e)
  generalize hCC : s₃.heap.objs.size = C at *
  obtain ⟨m, hp1, hne1, hm1⟩ := a1
  have hpr := hp1.prot_ne hn3
  have at1 : ∀ tk, At b (.ob I o₀ :: .fr L m :: ps) C (upd H D (lsO [] 0)) [] { s₃ with heap := h₁, toks := tk } := by
    intro tk
    have hq := hp1.all hkeep tk
    refine ⟨mC, ⟨hq.keep, hq.sub, fun p hpp => ?_, hq.gens, hq.os⟩, fun p hpp => ?_, fun y v e => (by cases e)⟩
    · rcases List.mem_cons.mp hpp with rfl | hpp
      · exact ⟨hnsC, hp1.base_fresh hn3, hp1.fresh hn3⟩
      · rcases List.mem_cons.mp hpp with rfl | hpp
        · exact hq.prot _ (.tail _ (.head _))
        · rcases List.mem_cons.mp hpp with rfl | hpp
          · exact hq.prot _ (.head _)
          · exact hq.prot _ (.tail _ (.tail _ hpp))
    · rcases List.mem_cons.mp hpp with rfl | hpp
      · exact hpr _ (.tail _ (.head _))
      · rcases List.mem_cons.mp hpp with rfl | hpp
        · exact hpr _ (.head _)
        · exact hpr _ (.tail _ (.tail _ hpp))
  have hps' : ∀ p ∈ (Prot.fr L m :: ps), p.at ≠ I := by
    intro p hpp
    rcases List.mem_cons.mp hpp with rfl | hpp
    · exact fun e => hne1 _ (.head _) e.symm
    · exact k.hps p hpp
  have hst2 : St 0 h₁ := k.W.frame _ _ _ hst1 fun y _ o e => hkeep y o e
  have heC : EnvIs (compEnvC scope cl C env) C ns' cl := env_comp he hkind hns h0
  have loop : ∀ s₄ : Shared, St 0 s₄.heap → At b (.ob I o₀ :: .fr L m :: ps) C (upd H D (lsO [] 0)) [] s₄ →
      codeAny (model prog w) A (.compLoop (.ListComp elt [⟨.Name x px, iter, ifs, 0⟩] scope pos) 0 (.ref I) (.ref D) (compEnvC scope cl C env)) (compPost (model prog w) A E none Q (.ref D) C) s₄ := by
    intro s₄ hst a4
    refine codeAny_compLoop_tests (fun q s => ∃ i H' acc o l', q = n + 1 - i ∧ i ≤ n ∧ St i s.heap ∧ At b (.ob I o :: .fr L m :: ps) C H' l' s ∧ LsAt H' D acc ∧ J D i H' acc) ?_ (n + 1) ⟨0, _, [], o₀, [], rfl, Nat.zero_le _, hst, a4, LsAt.self, k.init D hD⟩
    rintro q s ⟨i, H', acc, o, l', rfl, hi, hst, a, hls, hJ⟩
    by_cases hlt : i < n
    · refine k.W.item i s _ _ hlt hst fun v h' tk hP hst' hk' => ?_
      obtain ⟨o', ho'⟩ := k.hI _ _ hst'
      have a' : At b (.ob I o' :: .fr L m :: ps) C H' l' { s with heap := h', toks := tk } := a.aside_set hps' ho' (fun y oy hy e => hk' y oy (by simpa using hy) e) rfl rfl
      refine wpAny_assign_Name ?_
      refine st_local a' heC ?_ hx
      intro s2 a2
      have a2 := a2.names (l' := [(x, v)]) (fun y u e => by
        rw [List.lookup_cons] at e ⊢
        split at e
        · exact e
        · cases e)
      have fin : ∀ s5, (∃ H'' l'' acc', At b (.ob I o' :: .fr L m :: ps) C H'' l'' s5 ∧ LsAt H'' D acc' ∧ J D (i + 1) H'' acc') → ∃ q, q < n + 1 - i ∧ ∃ i H' acc o l', q = n + 1 - i ∧ i ≤ n ∧ St i s5.heap ∧ At b (.ob I o :: .fr L m :: ps) C H' l' s5 ∧ LsAt H' D acc ∧ J D i H' acc := by
        rintro s5 ⟨H'', l'', acc', a5, hls5, hJ5⟩
        refine ⟨n + 1 - (i + 1), by exact om287 hlt, i + 1, H'', acc', o', l'', rfl, hlt, k.W.frame _ _ _ hst' fun y hy oy e => ?_, a5, hls5, hJ5⟩
        by_cases hyI : y = I
        · subst hyI
          rw [show h'.get? y = some oy from e] at ho'; cases ho'
          exact a5.aside_get
        · obtain ⟨og, hg, hH⟩ := k.hfp D i H' acc hJ y hy hyI
          obtain ⟨og', hg', hH'⟩ := k.hfp D (i + 1) H'' acc' hJ5 y hy hyI
          have e1 : h'.get? y = some og := a'.get hH
          rw [show h'.get? y = some oy from e] at e1; cases e1
          rw [hg] at hg'; cases hg'
          exact a5.get hH'
      refine noE (wpAny_mono (k.turn D C _ i v s2 _ H' acc heC hlt hP hD hJ hls a2) (fun ok s6 h6 => ?_) fun _ _ e => e)
      split
      · rename_i hok
        rw [if_pos hok] at h6
        refine noE (wpAny_mono h6 (fun y s7 h7 => ?_) fun _ _ e => e)
        obtain ⟨H'', l'', a7, hls7, hJ7⟩ := h7
        have hlen := k.len D i H' acc hJ
        have hsm := k.small
        exact do_append a7 hls7 (by exact om359 hlen hlt hsm) fun s8 m8 a8 => fin _ ⟨_, _, _, a8, LsAt.self, hJ7 m8⟩
      · rename_i hok
        rw [if_neg hok] at h6
        obtain ⟨H'', l'', a7, hls7, hJ7⟩ := h6
        exact fin _ ⟨H'', l'', acc, a7, hls7, hJ7⟩
    · have hin : i = n := by exact om278 hi hlt
      subst hin
      refine k.W.done s _ _ hst fun h' tk hk' => ?_
      obtain ⟨m', hp', hne', hm'⟩ := a
      have hI' := hp'.prot _ (.tail _ (.head _))
      have hC' := hp'.prot _ (.head _)
      have hIC : I ≠ C := fun e => hne' _ (.head _) e
      refine ⟨m', hC'.1.at' fun oo e => hk' _ _ (by simpa using fun e => hIC e.symm) e, fun h'' hs'' => k.done D _ H' acc hD hJ hls ?_⟩
      have hLC : L ≠ C := hne' _ (.tail _ (.head _))
      have hq : Hp b (.fr L m :: ps) H' s := ⟨hp'.keep, hp'.sub, fun p hpp => hp'.prot p (.tail _ (.tail _ hpp)), hp'.gens, hp'.os⟩
      refine ⟨m, ?_, fun p hpp => hne1 p (.tail _ hpp), hm1⟩
      refine hq.step (fun y => y = I ∨ y = C) ?_ (fun y oy hy e => ?_) (fun y oy e => .inl ⟨?_, e⟩) rfl rfl
      · rintro y (rfl | rfl)
        · exact ⟨hI'.2.1, hps'⟩
        · exact ⟨hC'.2.1, fun p hpp => hne' p (.tail _ hpp)⟩
      · exact (hs''.2 y fun e => hy (.inr e)).trans (hk' y oy (by simpa using fun e => hy (.inl e)) e)
      · rintro (rfl | rfl)
        · rw [show H' y = none from hI'.2.2] at e; cases e
        · rw [show H' y = none from hC'.2.2] at e; cases e
  exact codeAny_compStart_list (loop _ hst2 (at1 _)) (k.W.self 0 _ _ _ hst2 (loop _ hst2 (at1 _)))
end
end

section
set_option maxRecDepth 100000
noncomputable abbrev rgO (a b c : Int) (t u v : Tok) : Obj := { cls := .type "range", data := .fields #[.int a t, .int b u, .int c v] }
theorem pf_snoc {p : Nat → Bool} {G : Nat → Int → Prop} {i : Nat} {zs : List Int} {z : Int} (h : Paired G ((List.range i).filter p) zs) (hp : p i = true) (hg : G i z) : Paired G ((List.range (i + 1)).filter p) (zs ++ [z]) := by
  rw [List.range_succ, List.filter_append]
  simp only [List.filter_cons, hp, if_true, List.filter_nil]
  exact h.snoc hg
theorem pf_skip {p : Nat → Bool} {G : Nat → Int → Prop} {i : Nat} {zs : List Int} (h : Paired G ((List.range i).filter p) zs) (hp : p i = false) : Paired G ((List.range (i + 1)).filter p) zs := by
  rw [List.range_succ, List.filter_append]
  simpa [List.filter_cons, hp] using h
section
variable {prog : Program} {w : World} {A : Around} {E : Value → Shared → Prop} {Q : Value → Shared → Prop}
  {b s : Shared} {ps : List Prot} {H : HP} {L x d : Addr} {l : List (Str × Value)} {env : Env} {ns ns' : List (Str × NameKind)} {cs cl : List (Str × Addr)} {vs : List Value}
/-- a comprehension whose values are ints and which leaves the known heap alone -/
structure IntsTurn (prog : Program) (w : World) (A : Around) (L : Addr) (ns' : List (Str × NameKind)) (cl : List (Str × Addr)) (y : Str) (ifs : List Expr) (elt : Expr) (Q : Value → Shared → Prop)
    (n : Nat) (P : Nat → Value → Prop) (b : Shared) (ps : List Prot) (H : HP) (l : List (Str × Value)) (p : Nat → Bool) (G : Nat → Int → Prop) : Prop where
  small : n < 10000
  turn : ∀ C env' i v s ps' H', EnvIs env' C ns' cl → i < n → P i v → (∀ a o, H a = some o → H' a = some o) → At b ps' C H' [(y, v)] s →
    wpAny (model prog w) A (forIn ifs true fun c r => if r = true then do let ok ← isTrue c env' (eval c env'); pure (ForInStep.yield ok) else pure (ForInStep.yield r)) (fun ok s₃ => ok = p i ∧
      if ok = true then wpAny (model prog w) A (eval elt env') (fun r s₄ => ∃ z t l', r = .int z t ∧ G i z ∧ At b ps' C H' l' s₄) NoE s₃
      else ∃ l', At b ps' C H' l' s₃) NoE s
  done : ∀ D s vs zs m, H D = none → IntsAre vs zs → Paired G ((List.range n).filter p) zs → At b ps L (upd H D (lsO vs m)) l s → Q (.ref D) s
theorem IntsTurn.pk {y : Str} {ifs : List Expr} {elt : Expr} {I : Addr} {fp : List Addr} {n : Nat} {P : Nat → Value → Prop} {St : Nat → Heap → Prop} {p : Nat → Bool} {G : Nat → Int → Prop} {o₀ : Obj}
    (k : IntsTurn prog w A L ns' cl y ifs elt Q n P b ps H l p G) (W : Walks prog w A I fp [I] n P St) (hI : ∀ i h, St i h → ∃ o, h.get? I = some o) (a : At b (.ob I o₀ :: ps) L H l s) (hps : ∀ p ∈ ps, p.at ≠ I) (st : St 0 s.heap)
    (hfp : ∀ y ∈ fp, y ≠ I → ∃ o, H y = some o) :
    CompPk prog w A E env L ns' cl y ifs elt Q I fp n P St b ps H l H (fun D i H' acc => H D = none ∧ ∃ m zs, H' = upd H D (lsO acc m) ∧ IntsAre acc zs ∧ Paired G ((List.range i).filter p) zs) s where
  W := W
  hI := hI
  at_ := ⟨o₀, a⟩
  hps := hps
  st := st
  hfp := by
    rintro D i H' acc ⟨hD, m, zs, rfl, _⟩ y hy hyI
    obtain ⟨o, e⟩ := hfp y hy hyI
    exact ⟨o, e, upd_of e hD⟩
  small := k.small
  init := fun D hD => ⟨hD, 0, [], rfl, .nil, .nil⟩
  turn := by
    rintro D C env' i v s ps' H' acc he hi hP hD ⟨_, m, zs, rfl, hz, hpz⟩ hls a
    refine wpAny_mono (k.turn C env' i v s ps' _ he hi hP (fun z oz e => upd_of e hD) a) (fun ok s₃ h₃ => ?_) fun _ _ e => e
    obtain ⟨hok, h₃⟩ := h₃
    split
    · rename_i h1
      rw [if_pos h1] at h₃
      refine wpAny_mono h₃ (fun r s₄ h₄ => ?_) fun _ _ e => e
      obtain ⟨z, t, l', rfl, hg, a4⟩ := h₄
      exact ⟨_, _, a4, hls, fun m' => ⟨hD, m', zs ++ [z], by rw [upd_upd], IntsAre.snoc' hz, pf_snoc hpz (hok ▸ h1) hg⟩⟩
    · rename_i h1
      rw [if_neg h1] at h₃
      obtain ⟨l', a4⟩ := h₃
      exact ⟨_, _, a4, hls, hD, m, zs, rfl, hz, pf_skip hpz (by rw [← hok]; simpa using h1)⟩
  len := by
    rintro D i H' acc ⟨_, m, zs, _, hz, hp⟩
    have h1 := hz.length
    have h2 := hp.length
    have h3 := List.length_filter_le p (List.range i)
    rw [List.length_range] at h3
    exact om417 h1 h2 h3
  done := by
    rintro D s H' acc hD ⟨_, m, zs, rfl, hz, hp⟩ hls a
    exact k.done D s acc zs m hD hz hp a
/-- over a list -/
theorem ints_list {y : Str} {ifs : List Expr} {elt : Expr} {p : Nat → Bool} {G : Nat → Int → Prop} (hh : A.handled = none) (a : At b ps L H l s) (hl : LsAt H x vs)
    (k : IntsTurn prog w A L ns' cl y ifs elt Q vs.length (fun i v => vs[i]? = some v) b ps H l p G) :
    wpAny (model prog w) A (pyIter (.ref x)) (fun it s₂ => ∃ I fp n P St b ps H l G J, it = .ref I ∧ CompPk prog w A E env L ns' cl y ifs elt Q I fp n P St b ps H l G J s₂) E s := by
  have hx := hl.isList a
  obtain ⟨nn, hxx⟩ := hl
  have hxI : x ≠ s.heap.objs.size := Nat.ne_of_lt (Heap.lt_size (a.get hxx))
  refine wpAny_pyIter_list hx ?_
  have W := Walks.list (prog := prog) (w := w) hh s.heap.objs.size x hxI vs.toArray
  have hn := get_size s.heap
  have a' := a.aside_new (s' := { s with heap := s.heap.push { cls := .type "list_iterator", data := .fields #[.ref x, .int 0 0] } }) hn (Heap.get?_push_size _ rfl) (fun y oy _ e => Heap.get?_push_of_some _ e) rfl rfl
  rw [List.size_toArray] at W
  simp only [List.getElem?_toArray] at W
  refine ⟨_, _, _, _, _, _, _, _, _, _, _, rfl, k.pk W (fun i h st => ?_) a' (a.ps_ne hn) ⟨⟨_, Heap.get?_push_size _ rfl, rfl, rfl⟩, hx.push _⟩ fun y hy hyI => ?_⟩
  · obtain ⟨o, ho, _⟩ := st.1; exact ⟨o, ho⟩
  · have : y = x := by simpa [hyI] using hy
    subst this; exact ⟨_, hxx⟩
/-- over a range -/
theorem ints_range {y : Str} {ifs : List Expr} {elt : Expr} {p : Nat → Bool} {G : Nat → Int → Prop} {a0 b0 c0 : Int} {t u v : Tok} {n : Nat} (hh : A.handled = none) (a : At b ps L H l s) (hr : H x = some (rgO a0 b0 c0 t u v)) (hsm : Builtin.Range.small a0 b0 c0 = true) (hsz : Builtin.Range.rangeSize a0 b0 c0 = n)
    (k : IntsTurn prog w A L ns' cl y ifs elt Q n (fun i v => ∃ t, v = .int (a0 + i * c0) t) b ps H l p G) :
    wpAny (model prog w) A (pyIter (.ref x)) (fun it s₂ => ∃ I fp n P St b ps H l G J, it = .ref I ∧ CompPk prog w A E env L ns' cl y ifs elt Q I fp n P St b ps H l G J s₂) E s := by
  refine wpAny_pyIter_range (a.get hr) hsm ?_
  rw [hsz]
  have W := Walks.range (prog := prog) (w := w) hh s.heap.objs.size a0 c0 n
  have hn := get_size s.heap
  have a' := a.aside_new (s' := { s with heap := s.heap.push { cls := .type "range_iterator", data := .fields #[rawInt a0, rawInt n, rawInt c0] } }) hn (Heap.get?_push_size _ rfl) (fun y oy _ e => Heap.get?_push_of_some _ e) rfl rfl
  refine ⟨_, _, _, _, _, _, _, _, _, _, _, rfl, k.pk W (fun i h st => ⟨_, st⟩) a' (a.ps_ne hn) ?_ fun y hy hyI => ?_⟩
  · show IsRangeIter _ _ _ _ _
    simp only [Int.natCast_zero, Int.zero_mul, Int.add_zero, Int.sub_zero]
    exact Heap.get?_push_size _ rfl
  · simp only [List.mem_singleton] at hy; exact absurd hy hyI
/-- over a dict's values -/
theorem ints_values {y : Str} {ifs : List Expr} {elt : Expr} {p : Nat → Bool} {G : Nat → Int → Prop} {kvs : List (Int × Value)} (hh : A.handled = none) (a : At b ps L H l s) (hv : H x = some { cls := .type "dict_values", data := .fields #[.ref d] }) (hd : DcAt prog w H d kvs)
    (k : IntsTurn prog w A L ns' cl y ifs elt Q kvs.length (fun i v => ∃ k, kvs[i]? = some (k, v)) b ps H l p G) :
    wpAny (model prog w) A (pyIter (.ref x)) (fun it s₂ => ∃ I fp n P St b ps H l G J, it = .ref I ∧ CompPk prog w A E env L ns' cl y ifs elt Q I fp n P St b ps H l G J s₂) E s := by
  obtain ⟨ep, hA⟩ := (hd.dictOf a).dictAt
  obtain ⟨od, hod, _⟩ := id hd
  have hxI : d ≠ s.heap.objs.size := Nat.ne_of_lt (Heap.lt_size (a.get hod))
  refine wpAny_pyIter_values ⟨_, a.get hv, rfl, rfl⟩ hA ?_
  have W := Walks.dictValues (prog := prog) (w := w) (knd := PySem.intKind prog w) hh s.heap.objs.size d hxI kvs ep
  have hn := get_size s.heap
  have a' := a.aside_new (s' := { s with heap := s.heap.push { cls := .type "dict_valueiterator", data := .fields #[.ref d, .int 0 0, .int kvs.length 0, .int ep 0] } }) hn (Heap.get?_push_size _ rfl) (fun y oy _ e => Heap.get?_push_of_some _ e) rfl rfl
  refine ⟨_, _, _, _, _, _, _, _, _, _, _, rfl, k.pk W (fun i h st => ?_) a' (a.ps_ne hn) ⟨⟨_, Heap.get?_push_size _ rfl, rfl, rfl⟩, hA.push _⟩ fun y hy hyI => ?_⟩
  · obtain ⟨o, ho, _⟩ := st.1; exact ⟨o, ho⟩
  · have : y = d := by simpa [hyI] using hy
    subst this; exact ⟨_, hod⟩
/-! range -/
theorem do_range1 {n : Int} {t : Tok} (a : At b ps L H l s) (h : ∀ s' r t' u' v', H r = none → At b ps L (upd H r (rgO 0 n 1 t' u' v')) l s' → Q (.ref r) s') : wpAny (model prog w) A (call (.type "range") [.int n t]) Q E s :=
  call_range_1 (h _ _ _ _ _ (a.fresh (get_size _)) (a.push (rgO 0 n 1 s.toks t (s.toks + 1)) rfl (s.toks + 1 + 1)))
theorem do_range3 {i j : Int} {t u v : Tok} (a : At b ps L H l s) (hi : 0 ≤ i ∧ i < 1000) (hj : 0 ≤ j ∧ j < 1000) (h : ∀ s' r t' u' v', H r = none → At b ps L (upd H r (rgO i j (-1) t' u' v')) l s' → Q (.ref r) s') : wpAny (model prog w) A (call (.type "range") [.int i t, .int j u, .int (-1) v]) Q E s :=
  call_range_3 (by decide) (h _ _ _ _ _ (a.fresh (get_size _)) (a.push (rgO i j (-1) t u v) rfl s.toks)) (Or.inl (PyProof.noPylong_small (by exact om1)))
theorem range_up {n : Int} (h0 : 0 ≤ n) (h1 : n < 1000) : Builtin.Range.small 0 n 1 = true ∧ Builtin.Range.rangeSize 0 n 1 = (n.toNat : Int) := by
  refine ⟨small_one (by exact om24) (by exact om7) (by exact om523 h0) (by exact om533 h1), ?_⟩
  rw [rangeSize_one]; split <;> (first | exact om509 (by assumption) | exact om539 (by assumption))
theorem range_down {i j : Int} (h0 : 0 ≤ j) (h1 : j ≤ i) (h2 : i < 1000) : Builtin.Range.small i j (-1) = true ∧ Builtin.Range.rangeSize i j (-1) = ((i - j).toNat : Int) := by
  have e : Builtin.Range.rangeSize i j (-1) = ((i - j).toNat : Int) := by
    unfold Builtin.Range.rangeSize
    simp
    omega
  refine ⟨?_, e⟩
  unfold Builtin.Range.small
  rw [e]
  simp only [Builtin.Range.rangeFitsLong]
  simp
  exact om547 h0 h2 h1
/-- for over a range -/
theorem for_range {Q : Flow → Shared → Prop} {target : Expr} {body orelse : List Stmt} {a0 b0 c0 : Int} {t u v : Tok} {n : Nat} (J : Nat → HP → List (Str × Value) → Prop) (hh : A.handled = none) (a : At b ps L H l s) (h0 : J 0 H l) (hr : H x = some (rgO a0 b0 c0 t u v)) (hsm : Builtin.Range.small a0 b0 c0 = true ∧ Builtin.Range.rangeSize a0 b0 c0 = n)
    (turn : ∀ i t s ps' H l, i < n → J i H l → At b ps' L H l s → (∀ {H l s}, At b ps' L H l s → At b ps L H l s) → wpAny (model prog w) A (assign target env (.int (a0 + i * c0) t)) (fun _ s₂ => wpAny (model prog w) A (execs body env) (ForPost b ps' L (J (i + 1)) Q) NoE s₂) NoE s)
    (done : ∀ s H l, J n H l → At b ps L H l s → wpAny (model prog w) A (execs orelse env) Q NoE s)
    (hgo : ∀ I v (s : Shared) (Q' : Unit → Shared → Prop), Q' () s → wpAny (model prog w) A (letOwnedTupleGo target (.ref I) v) Q' NoE s) :
    wpAny (model prog w) A (pyIter (.ref x)) (fun it s₂ => codeAny (model prog w) A (.forLoop target it body orelse env) (fun r s' => match r with | .ok f => Q f s' | .error e => cameBackBy (model prog w) A env E e s') s₂) E s := by
  refine wpAny_pyIter_range (a.get hr) hsm.1 ?_
  rw [hsm.2]
  have W := Walks.range (prog := prog) (w := w) hh s.heap.objs.size a0 c0 n
  have hn := get_size s.heap
  have a' := a.aside_new (s' := { s with heap := s.heap.push { cls := .type "range_iterator", data := .fields #[rawInt a0, rawInt n, rawInt c0] } }) hn (Heap.get?_push_size _ rfl) (fun y oy _ e => Heap.get?_push_of_some _ e) rfl rfl
  refine loop_walk W (fun i h st => ⟨_, st⟩) H J (fun i H l hj y hy hyI => ?_) (fun i v s Q' st q => hgo _ v s Q' q) a' (a.ps_ne hn) h0 ?_ ?_ done
  · simp only [List.mem_singleton] at hy; exact absurd hy hyI
  · show IsRangeIter _ _ _ _ _
    simp only [Int.natCast_zero, Int.zero_mul, Int.add_zero, Int.sub_zero]
    exact Heap.get?_push_size _ rfl
  · rintro i v s₁ o H₁ l₁ hi ⟨t, rfl⟩ hJ₁ a₁
    exact turn i t s₁ _ H₁ l₁ hi hJ₁ a₁ (fun a => a.drop)
end
end

section
set_option maxRecDepth 100000
theorem At.callF {b : Shared} {ps : List Prot} {L : Addr} {H : HP} {l : List (Str × Value)} {s : Shared} (a : At b ps L H l s) : ∃ m, Hp b (.fr L m :: ps) H s ∧ ∀ H' s', Hp b (.fr L m :: ps) H' s' → At b ps L H' l s' := by
  obtain ⟨m, hp, hne, hm⟩ := a
  exact ⟨m, hp, fun H' s' hp' => ⟨m, hp', hne, hm⟩⟩
theorem FrOk.fr {ps : List Prot} {outer : List Env} {L : Addr} {m : Str → Option Value} {env : Env} (h : FrOk ps outer) (hk : env.scope.kind ≠ .module) (hf : env.frame = some L) (hne : ∀ p ∈ ps, p.at ≠ L) : FrOk (.fr L m :: ps) (env :: outer) := by
  refine ⟨fun e he => ?_, fun x o hx e he hfe => ?_⟩
  · rcases List.mem_cons.mp he with rfl | he
    · exact ⟨hk, L, m, hf, .head _⟩
    · obtain ⟨h1, L', m', h2, h3⟩ := h.1 e he
      exact ⟨h1, L', m', h2, .tail _ h3⟩
  · rcases List.mem_cons.mp hx with hx | hx
    · cases hx
    · rcases List.mem_cons.mp he with rfl | he
      · rw [hf] at hfe; cases hfe; exact hne _ hx rfl
      · exact h.2 x o hx e he hfe
theorem At.ne_ps {b : Shared} {ps : List Prot} {L : Addr} {H : HP} {l : List (Str × Value)} {s : Shared} (a : At b ps L H l s) : ∀ p ∈ ps, p.at ≠ L := let ⟨_, _, h, _⟩ := a; h
theorem paired_fm {ks : List Int} : ∀ {is : List Nat} {zs : List Int}, Paired (fun i z => ks[i]? = some z) is zs → zs = is.filterMap (ks[·]?)
  | _, _, .nil => rfl
  | _, _, .cons h t => by rw [List.filterMap_cons, h, paired_fm t]
theorem fm_take {ks : List Int} {c : Int → Bool} : ∀ i, i ≤ ks.length → ((List.range i).filter fun i => (ks[i]?.map c).getD false).filterMap (ks[·]?) = (ks.take i).filter c := by
  intro i
  induction i with
  | zero => intro _; rfl
  | succ i ih =>
    intro h
    have hi : i < ks.length := h
    rw [List.range_succ, List.filter_append, List.filterMap_append, ih (by exact om210 h), List.take_add_one, List.filter_append]
    congr 1
    simp only [List.filter_cons, List.filter_nil, hi, List.getElem?_eq_getElem, Option.map_some, Option.getD_some, Option.toList_some]
    split <;> simp [hi]
theorem paired_filter {ks : List Int} {c : Int → Bool} {zs : List Int} (h : Paired (fun i z => ks[i]? = some z) ((List.range ks.length).filter fun i => (ks[i]?.map c).getD false) zs) : zs = ks.filter c := by
  rw [paired_fm h, fm_take _ (Nat.le_refl _), List.take_length]
section
variable {prog : Program} {w : World} {A : Around} {E : Value → Shared → Prop} {mg mb : Str → Option Value}
  {b s : Shared} {ps : List Prot} {H H' : HP} {L x dx y dy sa z d rl : Addr} {l : List (Str × Value)} {Q : Value → Shared → Prop} {r p f v : Value} {o : Obj} {k pn fn : Int} {keys : List Int} {α : Ga} {np : Int → Int} {su : Int → List Int} {ns rdy : List Int} {vs : List Value} {outer : List Env}
theorem prepare_spec (C : Ctx (hd.heap_1 w.params) b mg mb) (hp : Hp b ps H s) (rm : Rm 5 A) (hfr : A.frames = some outer) (fo : FrOk ps outer) (hs : SAt w.params H x dx (.ref d) .none p f) (g : GrAt prog w H d keys α np su) (hdx : ¬ Gfoot d keys α dx)
    (hsuk : ∀ k ∈ keys, ∀ j ∈ su k, j ∈ keys) (rk : Int → Nat) (hrk : ∀ k ∈ keys, ∀ j ∈ su k, rk k < rk j) (hlen : keys.length < 900) (hsl : ∀ k, (su k).length < 900)
    (q : ∀ H' rl s', SAt w.params H' x dx (.ref d) (.ref rl) p f → GrAt prog w H' d keys α np su → H rl = none → IlAt H' rl (keys.filter fun k => np k == 0) → (∀ a o, a ≠ dx → H a = some o → H' a = some o) → Hp b ps H' s' → Q .none s') :
    wpAny (model prog w) A (call (.ref 127) [.ref x]) Q E s := by
  refine call_def [("self", .ref x)] C hp (by with_unfolding_all rfl) rfl rfl rfl (by kernel_rfl!) rm.room (BindsTo.of_eq rfl) (by decide) (locs rfl) ?_
  intro L s env he a
  dsimp only at he
  have rm1 : Rm 4 (A.deeper env) := rm.deeper
  have hfr1 : (A.deeper env).frames = some (env :: outer) := by show A.frames.map (env :: ·) = _; rw [hfr]; rfl
  generalize A.deeper env = A1 at *
  walk_at "st"
  refine ga_ready C (by assumption) hs rfl ?_
  intro s a
  walk_at "go"
  refine ite_false' ?_
  walk_at "go"
  walk_at "st"
  refine ev_comp (ns' := [(".0", .local), ("i", .local)]) (cl := []) he (by with_unfolding_all rfl) (by decide) rfl (by decide) (by kernel_rfl!) (by kernel_rfl!) (by kernel_rfl!) ?_ (by intro _; with_unfolding_all rfl)
  refine MethodCall_ ?_ (by with_unfolding_all rfl)
  walk_at "go"
  refine ga_n2i C (by assumption) hs rfl ?_
  intro s a
  refine gm_dict PySem.F.slot_dict_values PySem.F.type_dict_values a g.dict ?_
  refine callWith_method0 ?_
  refine call_meetsIn PySem.F.slot_dict_values (g.dict.dictOf a).typeIs PySem.F.entry_dict_values (PySem.F.args_dict_values_1 _) (meets_dict_values (PySem.intKind prog w) d (g.dict.notMods a)) ⟨⟨_, g.dict.dictOf a⟩, ?_⟩
  have hv := a.fresh (get_size s.heap)
  have a := a.push { cls := .type "dict_values", data := .fields #[.ref d] } rfl s.toks
  generalize s.heap.objs.size = vw at *
  have g0 := g.fresh (o := { cls := .type "dict_values", data := .fields #[.ref d] }) hv
  have hs0 := hs.fresh (o := { cls := .type "dict_values", data := .fields #[.ref d] }) hv
  refine ints_values (p := fun i => (keys[i]?.map fun k => np k == 0).getD false) (G := fun i z => keys[i]? = some z) rm1.hand a upd_self g0.dict ⟨by simp; exact om124 hlen, ?_, ?_⟩
  · rintro C1 env' i v s ps' H' he' hi ⟨k, hik⟩ hsub a
    rw [List.length_map] at hi
    have hki : keys[i]? = some keys[i] := by simp [hi]
    have g1 := g0.mono (H' := H') fun a _ o e => hsub a o e
    have hk : keys[i] ∈ keys := List.getElem_mem hi
    rw [List.getElem?_map, hki] at hik
    cases hik
    generalize keys[i] = k at *
    refine wpAny_tests_one ?_
    walk_at "go"
    refine ga_npred C (by assumption) (g1.node k hk) ?_
    intro tn s a
    walk_at "go"
    refine ⟨by rw [hki]; rfl, ite_dec (fun h0 => ?_) fun h0 => ⟨_, a⟩⟩
    walk_at "go"
    refine ga_node C (by assumption) (g1.node k hk) ?_
    intro tn s a
    exact ⟨k, tn, _, rfl, hki, a⟩
  · intro D s vs zs m hD hvs hzs a
    have hz := paired_filter (c := fun k => np k == 0) (zs := zs) (by rw [List.length_map] at hzs; exact hzs)
    subst hz
    walk_at "go"
    have hs1 := hs0.fresh (o := lsO vs m) hD
    have g1 := g0.fresh (o := lsO vs m) hD
    refine sa_ready C (by assumption) hs1 ?_
    intro s o2 hs2 a
    walk_at "go"
    have g2 := g1.off (o := o2) hdx
    have hDdx : D ≠ dx := by
      rintro rfl
      obtain ⟨_, _, _, _, _, e⟩ := hs0
      rw [hD] at e; cases e
    have hDv : D ≠ vw := by rintro rfl; rw [upd_self] at hD; cases hD
    have hDH : H D = none := by rw [upd_ne hDv] at hD; exact hD
    walk_at "st"
    refine MethodCall_ ?_ (by with_unfolding_all rfl)
    walk_at "go"
    obtain ⟨t1, t2, t3, t4, hin⟩ := id hs2
    refine gm_own C a hin (k_getS w _) (k_m7 w) (k_mt7 w) (by with_unfolding_all rfl) ?_
    refine cw_meth0 C a (by with_unfolding_all rfl) rfl ?_
    obtain ⟨m0, hp0, back⟩ := a.callF
    refine findcycle_spec C hp0 (rm1.mono (by decide)) hfr1 (fo.fr (by rw [he.kind]; simp) (he.frame (by kernel_rfl!)) a.ne_ps) hs2 g2 hsuk rk hrk hlen hsl ?_
    intro s hp1
    have a := back _ _ hp1
    walk_at "go"
    walk_at "st"
    refine wpAny_isTrue_value ?_ (by with_unfolding_all rfl)
    walk_at "go"
    refine truthy_none ?_
    refine ite_false' ?_
    walk_at "all"
    refine q _ D _ hs2 g2 hDH ⟨vs, ⟨m, ?_⟩, hvs⟩ (fun z oz hz e => ?_) a.hp
    · rw [upd_ne hDdx, upd_self]
    · rw [upd_ne hz]; exact upd_of (upd_of e hv) hD
end
end

section
set_option maxRecDepth 100000
abbrev R3 := Int × Int × Int
noncomputable def T3At (H : HP) (a : Addr) (r : R3) : Prop := ∃ n t1 t2 t3, H a = some (tpO [.int r.1 t1, .int r.2.1 t2, .int r.2.2 t3] n)
/-- the rules: a list of triples -/
noncomputable def RlAt (H : HP) (x : Addr) (rt : List (Addr × R3)) : Prop := LsAt H x (rt.map fun p => .ref p.1) ∧ ∀ p ∈ rt, T3At H p.1 p.2
noncomputable def WfR (rs : List R3) : Prop := ∀ (k : Nat) (r : R3), rs[k]? = some r → 0 ≤ r.1 ∧ r.1 < 3 ∧ (3 ≤ k → (k : Int) - 3 ≤ r.2.1 ∧ r.2.1 < k ∧ 0 ≤ r.2.2 ∧ r.2.2 < k) ∧ (k < 3 → r = (0, 0, 0))
section
variable {prog : Program} {w : World} {A : Around} {E : Value → Shared → Prop} {mg mb : Str → Option Value}
  {b s : Shared} {ps : List Prot} {H H' : HP} {L x y z : Addr} {l : List (Str × Value)} {Q : Value → Shared → Prop} {v : Value} {o : Obj} {k : Int} {ds : List Int} {vs : List Value} {rt : List (Addr × R3)} {r : R3}
theorem op_fdiv {x y : Int} {t u : Tok} (a : At b ps L H l s) (hy : 0 < y) (hy2 : y < 1000) (h : ∀ t s', At b ps L H l s' → Q (.int (x / y) t) s') : wpAny (model prog w) A (binaryOp .FloorDiv (.int x t) (.int y u)) Q E s := by
  refine AutoIntOps.floordiv_1 (by simp; exact om512 hy) (by rw [PyProof.noPylong_small (by exact om510 hy hy2)]; simp) ?_
  have := h s.toks _ (a.toks (s.toks + 1))
  rw [← Int.fdiv_eq_ediv_of_nonneg _ (by exact om507 hy)] at this
  exact this
theorem T3At.upd (h : T3At H x r) (hn : x ≠ z) : T3At (upd H z o) x r := let ⟨n, t1, t2, t3, e⟩ := h; ⟨n, t1, t2, t3, by rw [upd_ne hn]; exact e⟩
theorem T3At.fresh (h : T3At H x r) (hn : H z = none) : T3At (Mine.upd H z o) x r := let ⟨n, t1, t2, t3, e⟩ := h; ⟨n, t1, t2, t3, upd_of e hn⟩
theorem T3At.mono (h : T3At H x r) (m : ∀ a o, H a = some o → H' a = some o) : T3At H' x r := let ⟨n, t1, t2, t3, e⟩ := h; ⟨n, t1, t2, t3, m _ _ e⟩
theorem T3At.ne (h : T3At H x r) (h' : LsAt H z vs) : x ≠ z := let ⟨n, t1, t2, t3, e⟩ := h; tp_ne_ls ⟨n, e⟩ h'
theorem RlAt.fresh (h : RlAt H x rt) (hn : H z = none) : RlAt (Mine.upd H z o) x rt := ⟨h.1.fresh hn, fun p hp => (h.2 p hp).fresh hn⟩
theorem RlAt.upd (h : RlAt H x rt) (hn : x ≠ z) (hz : LsAt H z vs) : RlAt (Mine.upd H z o) x rt := ⟨h.1.upd hn, fun p hp => (h.2 p hp).upd ((h.2 p hp).ne hz)⟩
theorem RlAt.mono (h : RlAt H x rt) (m : ∀ a o, H a = some o → H' a = some o) : RlAt H' x rt := ⟨let ⟨n, e⟩ := h.1; ⟨n, m _ _ e⟩, fun p hp => (h.2 p hp).mono m⟩
theorem RlAt.snoc {n : Nat} (h : RlAt H x rt) (ht : T3At H y r) : RlAt (Mine.upd H x (lsO ((rt.map fun p => .ref p.1) ++ [.ref y]) n)) x (rt ++ [(y, r)]) := by
  refine ⟨⟨n, ?_⟩, fun p hp => ?_⟩
  · rw [upd_self]; simp
  · rcases List.mem_append.mp hp with hp | hp
    · exact (h.2 p hp).upd ((h.2 p hp).ne h.1)
    · rw [List.mem_singleton] at hp; subst hp; exact ht.upd (ht.ne h.1)
theorem WfR.snoc {rs : List R3} (h : WfR rs) (h3 : 3 ≤ rs.length) (d : Int) : WfR (rs ++ [(d % 3, (rs.length : Int) - 1 - d / 3 % 3, d / 9 % (rs.length : Int))]) := by
  intro k r hk
  by_cases hlt : k < rs.length
  · rw [List.getElem?_append_left hlt] at hk; exact h k r hk
  · have : k = rs.length := by
      have := (List.getElem?_eq_some_iff.mp hk).1
      simp at this; exact om226 this hlt
    subst this
    rw [List.getElem?_append_right (Nat.le_refl _)] at hk
    simp at hk; subst hk
    have h1 := Int.emod_nonneg (d / 9) (show (rs.length : Int) ≠ 0 by exact om81 h3)
    have h2 := Int.emod_lt_of_pos (d / 9) (show (0 : Int) < rs.length by exact om79 h3)
    refine ⟨?_, ?_, fun _ => ⟨?_, ?_, h1, h2⟩, fun h => ?_⟩
    all_goals ((try dsimp only); (first | exact om517 | exact om531 | exact om40 | exact om39 | exact om456 h3 h))
theorem new_t3 {M : Model} {i j k : Int} {t1 t2 t3 : Tok} (a : At b ps L H l s) (h : ∀ s' y o, H y = none → T3At (Mine.upd H y o) y (i, j, k) → At b ps L (Mine.upd H y o) l s' → Q (.ref y) s') : wpAny M A (newTuple [.int i t1, .int j t2, .int k t3]) Q E s :=
  new_tuple a (by simp) fun s' y hy a' => h s' y _ hy ⟨0, t1, t2, t3, upd_self⟩ a'
theorem rules_spec (C : Ctx (hd.heap_1 w.params) b mg mb) (hp : Hp b ps H s) (rm : Rm 3 A) (hl : LsAt H x vs) (hi : IntsAre vs ds) (hn : vs.length < 900)
    (q : ∀ H' y rt s', (∀ a o, H a = some o → H' a = some o) → H y = none → RlAt H' y rt → rt.length = 3 + ds.length → WfR (rt.map (·.2)) → Hp b ps H' s' → Q (.ref y) s') :
    wpAny (model prog w) A (call (.ref 195) [.ref x]) Q E s := by
  have hvl := hi.length
  refine call_def [("draws", .ref x)] C hp (by with_unfolding_all rfl) rfl rfl rfl (by kernel_rfl!) rm.room (BindsTo.of_eq rfl) (by decide) (locs rfl) ?_
  intro L s env he a
  dsimp only at he
  have rm1 : Rm 2 (A.deeper env) := rm.deeper
  walk_at "st"
  refine new_t3 a ?_
  intro s y1 o1 hy1 w1 a
  walk_at "go"
  refine new_t3 a ?_
  intro s y2 o2 hy2 w2 a
  walk_at "go"
  refine new_t3 a ?_
  intro s y3 o3 hy3 w3 a
  walk_at "go"
  refine new_list a (by simp) ?_
  intro s y hy a
  walk_at "go"
  have r0 : RlAt (upd (upd (upd (upd H y1 o1) y2 o2) y3 o3) y (lsO [.ref y1, .ref y2, .ref y3] 0)) y [(y1, (0, 0, 0)), (y2, (0, 0, 0)), (y3, (0, 0, 0))] := by
    refine ⟨⟨0, upd_self⟩, fun p hp => ?_⟩
    simp only [List.mem_cons, List.not_mem_nil, or_false] at hp
    rcases hp with rfl | rfl | rfl
    · exact ((w1.fresh hy2).fresh hy3).fresh hy
    · exact (w2.fresh hy3).fresh hy
    · exact w3.fresh hy
  have hsub : ∀ a o, H a = some o → upd (upd (upd (upd H y1 o1) y2 o2) y3 o3) y (lsO [.ref y1, .ref y2, .ref y3] 0) a = some o := fun z oz e => upd_of (upd_of (upd_of (upd_of e hy1) hy2) hy3) hy
  have hyH : H y = none := by
    cases e : H y with
    | none => rfl
    | some o => rw [upd_of (upd_of (upd_of e hy1) hy2) hy3] at hy; cases hy
  generalize upd (upd (upd (upd H y1 o1) y2 o2) y3 o3) y (lsO [.ref y1, .ref y2, .ref y3] 0) = H1 at *
  obtain ⟨nx, hx⟩ := id hl
  walk_at "cons"
  refine wpAny_For ?_ (fun _ => rfl)
  walk_at "go"
  refine for_list (fun i H' l => ∃ rt, (∀ a o, H a = some o → H' a = some o) ∧ RlAt H' y rt ∧ rt.length = 3 + i ∧ WfR (rt.map (·.2)) ∧ Names l [("rules", .ref y)]) rm1.hand a ?_ (hsub _ _ hx) ⟨nx, rfl⟩ (fun i H' l h => by obtain ⟨rt, h, _⟩ := h; exact h _ _ hx) ?_ ?_ ?_
  · refine ⟨_, hsub, r0, rfl, ?_, by walk_at "names"⟩
    intro k r hk
    have : k < 3 := by
      have := (List.getElem?_eq_some_iff.mp hk).1
      simpa using this
    have hr : r = (0, 0, 0) := by
      have := List.mem_of_getElem? hk
      simpa using this
    subst hr
    exact ⟨by decide, by decide, fun h => by exact om43 h this, fun _ => rfl⟩
  · intro i v s ps' H' l hv hI9 a up
    walk_at "gp"
    obtain ⟨rt, hsub', hr, hlen, hwf, hnm⟩ := hI9
    have hil : i < ds.length := by rw [← hvl]; exact (List.getElem?_eq_some_iff.mp hv).1
    obtain ⟨t, ht⟩ := hi.get i ds[i] (by simp [hil])
    rw [ht] at hv; cases hv
    have a := a.to (l' := [("rules", .ref y)]) hnm
    generalize ds[i] = d at *
    walk_at "go"
    walk_at "st"
    refine ev_call_b C a he (g_len w) boot_len ?_
    walk_at "go"
    refine do_lenN a hr.1 (n := 3 + i) (by rw [List.length_map]; exact hlen) (by exact om341 hil hn hvl) ?_
    intro t' s a
    walk_at "go"
    walk_at "st"
    refine ev_append ?_ (by with_unfolding_all rfl) (by with_unfolding_all rfl) (by with_unfolding_all rfl)
    walk_at "go"
    refine ⟨_, _, _, _, _, _, _, rfl, by assumption, hr.1, ?_⟩
    walk_at "go"
    refine op_fdiv a (by decide) (by decide) ?_
    intro t1 s a
    walk_at "go"
    refine op_fdiv a (by decide) (by decide) ?_
    intro t1 s a
    walk_at "go"
    refine op_mod a (by exact om47) ?_
    intro t1 s a
    walk_at "go"
    refine new_t3 a ?_
    intro s z oz hz wz a
    walk_at "go"
    have hr1 := hr.fresh (o := oz) hz
    refine do_append a hr1.1 (by rw [List.length_map]; exact om415 hlen hil hn hvl) ?_
    intro s n a
    walk_at "all"
    have e3 : ((3 + i : Nat) : Int) = ((rt.map (·.2)).length : Nat) := by rw [List.length_map]; exact om293 hlen
    have hyz : y ≠ z := by rintro rfl; obtain ⟨m, e⟩ := hr.1; rw [hz] at e; cases e
    refine ⟨_, _, a, _, fun b' ob e => ?_, hr1.snoc wz, by simp; exact om246 hlen, ?_, by walk_at "names"⟩
    · rw [upd_ne (by rintro rfl; rw [hyH] at e; cases e)]; exact upd_of (hsub' _ _ e) hz
    · rw [List.map_append, e3]
      exact hwf.snoc (by rw [List.length_map]; exact om245 hlen) d
  · rintro s H' l ⟨rt, hsub', hr, hlen, hwf, hnm⟩ a
    have a := a.to (l' := [("rules", .ref y)]) hnm
    walk_at "all"
    exact q H' y rt _ hsub' hyH hr (by rw [hlen, hvl]) hwf a.hp
  · exact fun _ _ _ _ _ _ q => wpAny_pure q
end
end

section
set_option maxRecDepth 100000
section
variable {prog : Program} {w : World} {A : Around} {E : Value → Shared → Prop} {mg mb : Str → Option Value} {env : Env} {nms : List (Str × NameKind)} {cs : List (Str × Addr)}
  {b s : Shared} {ps : List Prot} {H H' : HP} {L x y z : Addr} {l : List (Str × Value)} {Q : Value → Shared → Prop} {v : Value} {o : Obj} {k : Int} {ds : List Int} {vs : List Value} {rt : List (Addr × R3)} {r : R3}
theorem as_t3 {x1 x2 x3 : Str} {p1 p2 p3 pos : Pos} {kk : Nat} {Q : Unit → Shared → Prop} (hh : A.handled = none) (a : At b ps L H l s) (he : EnvIs env L nms cs) (ht : T3At H y r)
    (h : ∀ t1 t2 t3 s', At b ps L H ((x3, .int r.2.2 t3) :: (x2, .int r.2.1 t2) :: (x1, .int r.1 t1) :: l) s' → Q () s')
    (h1 : nms.lookup x1 = some .local := by kernel_rfl!) (h2 : nms.lookup x2 = some .local := by kernel_rfl!) (h3 : nms.lookup x3 = some .local := by kernel_rfl!) :
    wpAny (model prog w) A (assign (.Tuple [.Name x1 p1, .Name x2 p2, .Name x3 p3] kk pos) env (.ref y)) Q E s := by
  obtain ⟨n, t1, t2, t3, e⟩ := ht
  have hT : TpAt H y [.int r.1 t1, .int r.2.1 t2, .int r.2.2 t3] := ⟨n, e⟩
  refine wpAny_assign_Tuple hh (hT.isTuple a) rfl rfl fun h' hx => ?_
  have a := a.ext (get_size _) hx s.toks
  show wpAny _ _ (assignInOrder [assign (.Name x1 p1) env, assign (.Name x2 p2) env, assign (.Name x3 p3) env] [.int r.1 t1, .int r.2.1 t2, .int r.2.2 t3]) _ _ _
  simp only [assignInOrder]
  refine wpAny_bind (wpAny_holding (wpAny_assign_Name (st_local a he ?_ h1)))
  intro s a
  refine wpAny_bind (wpAny_holding (wpAny_assign_Name (st_local a he ?_ h2)))
  intro s a
  refine wpAny_bind (wpAny_holding (wpAny_assign_Name (st_local a he ?_ h3)))
  intro s a
  exact wpAny_pure (h t1 t2 t3 s a)
noncomputable def gat (l : List Int) (i : Int) : Int := l.getD i.toNat 0
theorem il_sub {value slice : Expr} {xs : List Int} {i : Int} {t : Tok} (a : At b ps L H l s) (hl : IlAt H x xs) (h0 : 0 ≤ i) (h1 : i < xs.length) (hb : xs.length < 1000) (h : ∀ t', Q (.int (gat xs i) t') s)
    (hs : subscripted slice false (.ref x) (.int i t) = operate [.ref x, .int i t] (getItem (.ref x) (.int i t)) := by rfl) :
    wpAny (model prog w) A (subscriptTail value slice (.ref x) (.int i t)) Q E s := by
  obtain ⟨vs, hv, hi⟩ := hl
  have hlt : i.toNat < xs.length := by exact om464 h0 h1
  obtain ⟨t', ht'⟩ := hi.get i.toNat (gat xs i) (by unfold gat; simp [List.getD, hlt])
  exact sub_list a hv h0 (by exact om476 hb h1) ht' (h t') hs
theorem bits_small {x : Int} (h0 : 0 ≤ x) (h1 : x < 1009) : Builtin.Int.intBits x ≤ 64 := intBits_le_64 (by exact om524 h0) (by exact om535 h1)
noncomputable def Rng (l : List Int) : Prop := ∀ x ∈ l, 0 ≤ x ∧ x < 1009
theorem Rng.gat {l : List Int} (h : Rng l) (i : Int) : 0 ≤ gat l i ∧ Mine.gat l i < 1009 := by
  unfold Mine.gat
  by_cases hi : i.toNat < l.length
  · simp only [List.getD_eq_getElem?_getD, hi, List.getElem?_eq_getElem, Option.getD_some]
    exact h _ (List.getElem_mem hi)
  · simp only [List.getD_eq_getElem?_getD, List.getElem?_eq_none (Nat.le_of_not_lt hi), Option.getD_none]
    decide
theorem Rng.snoc {l : List Int} {x : Int} (h : Rng l) (hx : 0 ≤ x ∧ x < 1009) : Rng (l ++ [x]) := by
  intro y hy
  rcases List.mem_append.mp hy with hy | hy
  · exact h y hy
  · rw [List.mem_singleton] at hy; subst hy; exact hx
theorem made_rng (kind x y : Int) : 0 ≤ made kind x y ∧ made kind x y < 1009 := by
  unfold made
  split
  · exact om543
  · split <;> (first | exact om544 | exact om516)
noncomputable def gstep (vals : List Int) (thing : Int) (acc : List Int) (r : R3) : Int :=
  if (acc.length : Int) = thing then 1 else if (acc.length : Int) < 3 then 0 else if r.1 = 2 then (gat acc r.2.1 * gat vals r.2.2 + gat vals r.2.1 * gat acc r.2.2) % 1009 else made r.1 (gat acc r.2.1) (gat acc r.2.2)
noncomputable def grownL (rs : List R3) (vals : List Int) (thing : Int) : List Int := rs.foldl (fun acc r => acc ++ [gstep vals thing acc r]) []
theorem gstep_rng {vals : List Int} {thing : Int} {acc : List Int} {r : R3} : 0 ≤ gstep vals thing acc r ∧ gstep vals thing acc r < 1009 := by
  unfold gstep
  split
  · decide
  · split
    · decide
    · split
      · exact om543
      · exact made_rng _ _ _
theorem grownL_len {vals : List Int} {thing : Int} : ∀ (rs : List R3) (acc : List Int), (rs.foldl (fun acc r => acc ++ [gstep vals thing acc r]) acc).length = acc.length + rs.length := by
  intro rs
  induction rs with
  | nil => intro acc; rfl
  | cons r q ih => intro acc; rw [List.foldl_cons, ih]; simp; exact om208
theorem grownL_rng {vals : List Int} {thing : Int} : ∀ (rs : List R3) (acc : List Int), Rng acc → Rng (rs.foldl (fun acc r => acc ++ [gstep vals thing acc r]) acc) := by
  intro rs
  induction rs with
  | nil => intro acc h; exact h
  | cons r q ih => intro acc h; exact ih _ (h.snoc gstep_rng)
theorem grown_spec {xv : Addr} {vals : List Int} {thing : Int} {tt : Tok} (C : Ctx (hd.heap_1 w.params) b mg mb) (hp : Hp b ps H s) (rm : Rm 4 A) (hr : RlAt H x rt) (hwf : WfR (rt.map (·.2))) (hn : 4 ≤ rt.length ∧ rt.length < 900) (hv : IlAt H xv vals) (hvl : vals.length = rt.length) (hvr : Rng vals)
    (q : ∀ t s', Hp b ps H s' → Q (.int ((grownL (rt.map (·.2)) vals thing).getLast?.getD 0) t) s') :
    wpAny (model prog w) A (call (.ref 202) [.ref x, .ref xv, .int thing tt]) Q E s := by
  refine call_def [("thing", .int thing tt), ("values", .ref xv), ("rules", .ref x)] C hp (by with_unfolding_all rfl) rfl rfl rfl (by kernel_rfl!) rm.room (BindsTo.of_eq rfl) (by decide) (locs rfl) ?_
  intro L s env he a
  dsimp only at he
  have rm1 : Rm 3 (A.deeper env) := rm.deeper
  walk_at "st"
  refine new_list a (by simp) ?_
  intro s gr hgr a
  walk_at "go"
  walk_at "cons"
  refine wpAny_For ?_ (fun _ => rfl)
  refine ev_call_t C (by assumption) he (g_range w) boot_range ?_
  walk_at "go"
  refine ev_call_b C (by assumption) he (g_len w) boot_len ?_
  walk_at "go"
  refine do_lenN a (hr.fresh hgr).1 (n := rt.length) (by rw [List.length_map]) (by exact om84 hn) ?_
  intro t1 s a
  walk_at "go"
  refine do_range1 a ?_
  intro s rg u1 u2 u3 hrg a
  have hd := range_up (n := (rt.length : Int)) (by exact om49) (by exact om83 hn)
  rw [Int.toNat_natCast] at hd
  refine for_range (fun i H' l => (∃ m, ∃ vs, H' = upd (upd H gr (lsO vs m)) rg (rgO 0 rt.length 1 u1 u2 u3) ∧ IntsAre vs (grownL ((rt.map (·.2)).take i) vals thing)) ∧ Names l [("grown", .ref gr), ("thing", .int thing tt), ("values", .ref xv), ("rules", .ref x)]) rm1.hand a ?_ upd_self hd ?_ ?_ ?_
  · exact ⟨⟨0, [], rfl, .nil⟩, by walk_at "names"⟩
  · intro i ti s ps' H' l hi hI9 a up
    walk_at "gp"
    obtain ⟨⟨m, vs, rfl, hvs⟩, hnm⟩ := hI9
    have hgrg : gr ≠ rg := by rintro rfl; rw [upd_self] at hrg; cases hrg
    have hrgH : H rg = none := by rw [upd_ne hgrg.symm] at hrg; exact hrg
    have a := a.to (l' := [("grown", .ref gr), ("thing", .int thing tt), ("values", .ref xv), ("rules", .ref x)]) hnm
    have hrg' : upd H gr (lsO vs m) rg = none := by rw [upd_ne hgrg.symm]; exact hrgH
    have hr1 := (hr.fresh (o := lsO vs m) hgr).fresh (o := rgO 0 rt.length 1 u1 u2 u3) hrg'
    have hv1 := (hv.fresh (o := lsO vs m) hgr).fresh (o := rgO 0 rt.length 1 u1 u2 u3) hrg'
    have hls : LsAt (upd (upd H gr (lsO vs m)) rg (rgO 0 rt.length 1 u1 u2 u3)) gr vs := ⟨m, by rw [upd_ne hgrg, upd_self]⟩
    have hg1 : IlAt (upd (upd H gr (lsO vs m)) rg (rgO 0 rt.length 1 u1 u2 u3)) gr (grownL ((rt.map (·.2)).take i) vals thing) := ⟨vs, hls, hvs⟩
    have hgl : (grownL ((rt.map (·.2)).take i) vals thing).length = i := by unfold grownL; rw [grownL_len]; simp; exact om232 hi
    have hvsl := hvs.length
    rw [hgl] at hvsl
    have hgr' : Rng (grownL ((rt.map (·.2)).take i) vals thing) := grownL_rng _ _ (fun _ h => by cases h)
    have hnext : grownL ((rt.map (·.2)).take (i + 1)) vals thing = grownL ((rt.map (·.2)).take i) vals thing ++ [gstep vals thing (grownL ((rt.map (·.2)).take i) vals thing) rt[i].2] := by
      unfold grownL
      rw [List.take_add_one, List.foldl_append]
      simp [hi]
    have hw := hwf i rt[i].2 (by simp [hi])
    have hnx : ∀ {s l} {t : Tok} {m'} {z : Int}, z = gstep vals thing (grownL ((rt.map (·.2)).take i) vals thing) rt[i].2 → At b ps' L (upd (upd (upd H gr (lsO vs m)) rg (rgO 0 rt.length 1 u1 u2 u3)) gr (lsO (vs ++ [.int z t]) m')) l s → Names l [("grown", .ref gr), ("thing", .int thing tt), ("values", .ref xv), ("rules", .ref x)] →
        ∃ H' l, At b ps' L H' l s ∧ (∃ m, ∃ vs, H' = upd (upd H gr (lsO vs m)) rg (rgO 0 rt.length 1 u1 u2 u3) ∧ IntsAre vs (grownL ((rt.map (·.2)).take (i + 1)) vals thing)) ∧ Names l [("grown", .ref gr), ("thing", .int thing tt), ("values", .ref xv), ("rules", .ref x)] := by
      intro s l t m' z hz a hn
      subst hz
      rw [upd_comm hgrg.symm, upd_upd] at a
      exact ⟨_, _, a, ⟨_, _, rfl, by rw [hnext]; exact IntsAre.snoc' hvs⟩, hn⟩
    generalize hG : grownL ((rt.map (·.2)).take i) vals thing = G at *
    have hk : (0 : Int) + (i : Int) * 1 = i := by exact om46
    rw [hk]
    walk_at "go"
    walk_at "cons"
    refine Assign_Tuple ?_ (by with_unfolding_all rfl)
    walk_at "go"
    refine sub_list a hr1.1 (v := .ref rt[i].1) (by exact om49) (by exact om181 hn hi) (by simp [hi]) ?_
    have ht3 := hr1.2 rt[i] (List.getElem_mem hi)
    refine as_t3 rm1.hand a he ht3 ?_
    intro q1 q2 q3 s a
    generalize hR : rt[i].2 = R at *
    obtain ⟨hw1, hw2, hw3, hw4⟩ := hw
    walk_at "st"
    refine ite_dec (fun hc => ?_) (fun hc => ?_)
    · walk_at "st"
      refine ev_append ?_ (by with_unfolding_all rfl) (by with_unfolding_all rfl) (by with_unfolding_all rfl)
      walk_at "go"
      refine ⟨_, _, _, _, _, _, _, rfl, by assumption, hls, ?_⟩
      walk_at "go"
      refine do_append a hls (by exact om310 hn hvsl hi) ?_
      intro s n a
      walk_at "all"
      exact hnx (by unfold gstep; rw [hgl, if_pos hc]) a (by walk_at "names")
    · walk_at "st"
      refine ite_dec (fun hc2 => ?_) (fun hc2 => ?_)
      · walk_at "st"
        refine ev_append ?_ (by with_unfolding_all rfl) (by with_unfolding_all rfl) (by with_unfolding_all rfl)
        walk_at "go"
        refine ⟨_, _, _, _, _, _, _, rfl, by assumption, hls, ?_⟩
        walk_at "go"
        refine do_append a hls (by exact om200 hc2 hvsl) ?_
        intro s n a
        walk_at "all"
        exact hnx (by unfold gstep; rw [hgl, if_neg hc, if_pos hc2]) a (by walk_at "names")
      · obtain ⟨ha0, ha1, hb0, hb1⟩ := hw3 (by exact om147 hc2)
        walk_at "st"
        refine ite_dec (fun hc3 => ?_) (fun hc3 => ?_)
        · walk_at "st"
          refine ev_append ?_ (by with_unfolding_all rfl) (by with_unfolding_all rfl) (by with_unfolding_all rfl)
          walk_at "go"
          refine ⟨_, _, _, _, _, _, _, rfl, by assumption, hls, ?_⟩
          walk_at "go"
          refine il_sub a hg1 (by exact om474 ha0 hc2) (by exact om490 hgl ha1) (by exact om309 hn hgl hi) ?_
          intro z1
          walk_at "go"
          refine il_sub a hv1 (by exact om521 hb0) (by exact om497 hvl hi hb1) (by exact om182 hn hvl) ?_
          intro z2
          refine op_mulL a (bits_small (hgr'.gat _).1 (hgr'.gat _).2) ?_
          intro z3 s a
          walk_at "go"
          refine il_sub a hv1 (by exact om474 ha0 hc2) (by exact om497 hvl hi ha1) (by exact om182 hn hvl) ?_
          intro z4
          walk_at "go"
          refine il_sub a hg1 (by exact om521 hb0) (by exact om490 hgl hb1) (by exact om309 hn hgl hi) ?_
          intro z5
          refine op_mulL a (bits_small (hvr.gat _).1 (hvr.gat _).2) ?_
          intro z6 s a
          walk_at "go"
          refine do_append a hls (by exact om310 hn hvsl hi) ?_
          intro s n a
          walk_at "all"
          exact hnx (by unfold gstep; rw [hgl, if_neg hc, if_neg hc2, if_pos hc3]) a (by walk_at "names")
        · walk_at "st"
          refine ev_append ?_ (by with_unfolding_all rfl) (by with_unfolding_all rfl) (by with_unfolding_all rfl)
          walk_at "go"
          refine ⟨_, _, _, _, _, _, _, rfl, by assumption, hls, ?_⟩
          refine ev_call_fn C (by assumption) he (g_made w) (by with_unfolding_all rfl) rfl ?_
          walk_at "go"
          refine il_sub (by assumption) hg1 (by exact om474 ha0 hc2) (by exact om490 hgl ha1) (by exact om309 hn hgl hi) ?_
          intro z1
          walk_at "go"
          refine il_sub (by assumption) hg1 (by exact om521 hb0) (by exact om490 hgl hb1) (by exact om309 hn hgl hi) ?_
          intro z2
          walk_at "go"
          refine ⟨a.kept, ?_⟩
          obtain ⟨pp, hpp, back⟩ := a.call
          refine made_spec C hpp rm1.room (IntMulOk.of_left (bits_small (hgr'.gat _).1 (hgr'.gat _).2)) ?_
          intro z3 s hpp
          have a := back _ _ hpp
          refine do_append a hls (by exact om310 hn hvsl hi) ?_
          intro s n a
          walk_at "all"
          exact hnx (by unfold gstep; rw [hgl, if_neg hc, if_neg hc2, if_neg hc3]) a (by walk_at "names")
  · rintro s H' l ⟨⟨m, vs, rfl, hvs⟩, hnm⟩ a
    have hgrg : gr ≠ rg := by rintro rfl; rw [upd_self] at hrg; cases hrg
    have hrgH : H rg = none := by rw [upd_ne hgrg.symm] at hrg; exact hrg
    have a := a.to (l' := [("grown", .ref gr), ("thing", .int thing tt), ("values", .ref xv), ("rules", .ref x)]) hnm
    rw [List.take_of_length_le (by simp)] at hvs
    have hgl : (grownL (rt.map (·.2)) vals thing).length = rt.length := by unfold grownL; rw [grownL_len]; simp
    walk_at "go"
    walk_at "st"
    have hlast : ∃ t, vs.getLast? = some (.int ((grownL (rt.map (·.2)) vals thing).getLast?.getD 0) t) := by
      generalize grownL (rt.map (·.2)) vals thing = G at *
      rcases List.eq_nil_or_concat G with rfl | ⟨G0, g, rfl⟩
      · simp at hgl; exact om455 hgl hn
      · rw [List.concat_eq_append] at *
        obtain ⟨ws, u, rfl, _⟩ := ints_unsnoc hvs
        exact ⟨u, by simp⟩
    obtain ⟨tl, hlast⟩ := hlast
    refine sub_last a (vs := vs) ⟨m, by rw [upd_ne hgrg, upd_self]⟩ hlast ?_
    walk_at "go"
    refine q tl _ (a.weak (H' := H) ?_).hp
    intro z oz e
    exact upd_of (upd_of e hgr) (by rw [upd_ne hgrg.symm]; exact hrgH)
  · exact fun _ _ _ _ q => wpAny_pure q
end
end

section
set_option maxRecDepth 100000
/-! cells -/
noncomputable def CeAt (H : HP) (c : Addr) (v : Option Value) : Prop := ∃ o, H c = some o ∧ o.data = .cell v
section
variable {prog : Program} {w : World} {M : Model} {A : Around} {E : Value → Shared → Prop} {K : Frag} {mg mb : Str → Option Value}
  {b s : Shared} {ps : List Prot} {H H' : HP} {L c z : Addr} {l : List (Str × Value)} {env : Env} {ns : List (Str × NameKind)} {cs : List (Str × Addr)} {Q : Value → Shared → Prop} {v : Option Value} {o : Obj}
theorem CeAt.upd (h : CeAt H c v) (hn : c ≠ z) : CeAt (upd H z o) c v := let ⟨q, e, r⟩ := h; ⟨q, by rw [upd_ne hn]; exact e, r⟩
theorem CeAt.fresh (h : CeAt H c v) (hn : H z = none) : CeAt (Mine.upd H z o) c v := let ⟨q, e, r⟩ := h; ⟨q, upd_of e hn, r⟩
theorem CeAt.mono (h : CeAt H c v) (m : ∀ a o, H a = some o → H' a = some o) : CeAt H' c v := let ⟨q, e, r⟩ := h; ⟨q, m _ _ e, r⟩
theorem CeAt.ne_ls {vs : List Value} (h : CeAt H c v) (h' : LsAt H z vs) : c ≠ z := by
  rintro rfl
  obtain ⟨o, e, hd⟩ := h; obtain ⟨m, e'⟩ := h'
  rw [e] at e'; cases e'; cases hd
theorem ev_cell {x : Str} {pos : Pos} {v : Value} (a : At b ps L H l s) (he : EnvIs env L ns cs) (hc : cs.lookup x = some c) (hv : CeAt H c (some v)) (h : Q v s)
    (hl : ns.lookup x = some .cell := by kernel_rfl!) (hd : (x == ("__debug__" : Str)) = false := by kernel_rfl!) : wpAny M A (eval (.Name x pos) env) Q E s := by
  obtain ⟨o, e, hd'⟩ := hv
  exact wpAny_Name (wpAny_loadName_cell he.kind ((he.kof x).trans hl) (by rw [he.cells]; exact hc) ⟨o, a.get e, hd'⟩ h) hd
theorem st_cell {x : Str} {v : Value} {v₀ : Option Value} {Q : Unit → Shared → Prop} (a : At b ps L H l s) (he : EnvIs env L ns cs) (hc : cs.lookup x = some c) (hv : CeAt H c v₀)
    (h : ∀ s' o, o.data = .cell (some v) → At b ps L (upd H c o) l s' → Q () s') (hl : ns.lookup x = some .cell := by kernel_rfl!) : wpAny M A (storeName env x v) Q E s := by
  obtain ⟨o, e, hd'⟩ := hv
  refine wpAny_storeName_cell he.kind ((he.kof x).trans hl) (by rw [he.cells]; exact hc) ⟨o, a.get e, hd'⟩ fun h' hce hs => ?_
  obtain ⟨o', ho', hd2⟩ := hce
  exact h _ o' hd2 (a.set e hs ho' s.toks)
theorem call_codeC {f : Addr} {o : Obj} {fd : FuncData} {body : List Stmt} {args : List Value} {R : Result → Shared → Prop} (binds l : List (Str × Value)) (C : Ctx K b mg mb) (hp : Hp b ps H s)
    (ho : K.lookup f = some o) (hd : o.data = .func fd) (hbody : fd.body = .stmts body) (hns : fd.scope.names = ns) (hcd : codeIn K fd.code fd.qualname = true) (hroom : A.depth < recursionLimit)
    (hbind : bindArgs fd ⟨args, []⟩ = pure binds) (hkd : ∀ x ∈ binds, ns.lookup x.1 = some .local ∨ ns.lookup x.1 = some .cell)
    (hl : ∀ x v, l.lookup x = some v → bindL (fun x => ns.lookup x) binds (fun _ => none) x = some v)
    (h : ∀ L s₁ env cs H', EnvIs env L ns cs → cs = cellsFrom (L + 1) ns [] → (∀ a o, H a = some o → H' a = some o) →
      (∀ x c, cs.lookup x = some c → H c = none ∧ CeAt H' c (bindC (fun x => ns.lookup x) binds (fun _ => none) x)) → (cs.Pairwise fun x y => x.2 ≠ y.2) → At b ps L H' l s₁ →
      wpAny (model prog w) (A.deeper env) (execs body env) (fun fl s' => R (.ok (.ret (match fl with | .ret v => v | _ => .none))) s') NoE s₁)
    (hco : fd.scope.isCoroutine = false := by rfl) (hgen : fd.scope.isGenerator = false := by rfl) (hk : fd.scope.kind = .function := by rfl)
    (hg : fd.globals = mainGlobals := by rfl) (hbt : fd.builtins = builtinsNs := by rfl) (hcl : fd.closure = [] := by rfl) :
    codeAny (model prog w) A (.call (.ref f) ⟨args, []⟩) R s := by
  have hX := C.K.keeps hp.keep
  subst hns
  refine codeAny_call_cells (fd := fd) (body := body) (binds := binds) hroom (hX _ _ ho) hd (C.lim.keeps hp.keep) (codeRec_of hX hcd) hbody hbind hcl (fun x hx => ?_) (fun s₁ ic => ?_) hco hgen hk
  · rcases hkd x hx with h1 | h1
    · exact .inl h1
    · exact .inr ⟨h1, cellsFrom_some _ _ _ (.inl h1)⟩
  obtain ⟨⟨hsame, hns, hkeep, hfr⟩, hcell, hap, hab⟩ := ic
  have hab' : ∀ n c, (n, c) ∈ cellsFrom (s.heap.objs.size + 1) fd.scope.names [] → s.heap.objs.size < c := hab
  have hnone : ∀ c, s.heap.objs.size ≤ c → s.heap.get? c = none := fun c hc => Heap.get?_none_of_le hc
  have hs1 : s₁.gens = s.gens ∧ s₁.os = s.os := by obtain ⟨_, _, e⟩ := hsame; rw [e]; exact ⟨rfl, rfl⟩
  let cs := cellsFrom (s.heap.objs.size + 1) fd.scope.names []
  let H' : HP := fun a => if cs.any (fun x => x.2 == a) then s₁.heap.get? a else H a
  have hin : ∀ a, cs.any (fun x => x.2 == a) = true → s.heap.objs.size < a := by
    intro a h
    rw [List.any_eq_true] at h
    obtain ⟨x, h1, h2⟩ := h
    have : x.2 = a := by simpa using h2
    exact this ▸ hab' x.1 x.2 h1
  have hsub : ∀ a o, H a = some o → H' a = some o := by
    intro a o e
    show (if cs.any (fun x => x.2 == a) then s₁.heap.get? a else H a) = some o
    rw [if_neg]; exact e
    intro h
    exact Nat.lt_asymm (hin a h) (hp.lt e)
  have hat : At b ps s.heap.objs.size H' l s₁ := by
    refine ⟨_, ⟨fun a o e => hkeep a o (hp.keep a o e), fun a o e => ?_, fun p hpp => ?_, ⟨hs1.1.trans hp.gens.1, hp.gens.2⟩, hs1.2.trans hp.os⟩, hp.prot_ne (get_size _), fun x v e => hl x v e⟩
    · by_cases hc : cs.any (fun x => x.2 == a) = true
      · have e' : s₁.heap.get? a = some o := by
          have : H' a = s₁.heap.get? a := if_pos hc
          rw [← this]; exact e
        have hlt := hin a hc
        have hlow := hp.low
        exact ⟨e', hp.base_fresh (hnone a (Nat.le_of_lt hlt)), Nat.lt_trans hlow hlt⟩
      · have e' : H a = some o := by
          have : H' a = H a := if_neg hc
          rw [← this]; exact e
        exact ⟨hkeep a o (hp.sub a o e').1, (hp.sub a o e').2⟩
    · have nc : ∀ a, a ≤ s.heap.objs.size → H' a = H a := fun a ha => if_neg fun h => Nat.lt_irrefl _ (Nat.lt_of_lt_of_le (hin a h) ha)
      rcases List.mem_cons.mp hpp with rfl | hpp
      · refine ⟨hns, hp.base_fresh (get_size _), ?_⟩
        exact (nc _ (Nat.le_refl _)).trans (hp.fresh (get_size _))
      · have r := hp.prot p hpp
        obtain ⟨op, hop⟩ := r.1.get
        exact ⟨r.1.to fun o e => hkeep _ o e, r.2.1, (nc _ (Nat.le_of_lt (Heap.lt_size hop))).trans r.2.2⟩
  refine wpAny_mono (h s.heap.objs.size s₁ _ cs H' ⟨rfl, hk, hg, hbt, fun _ => rfl, fun _ => rfl, rfl⟩ rfl hsub (fun x c hc => ?_) hap hat) (fun fl s' hq => hq) fun _ _ x => x.elim
  have hm : (x, c) ∈ cs := mem_of_lookup hc
  have hlt := hab' x c hm
  obtain ⟨oc, hoc, hdc⟩ := hcell x c hc
  refine ⟨hp.fresh (hnone c (Nat.le_of_lt hlt)), oc, ?_, hdc⟩
  show (if cs.any (fun x => x.2 == c) then s₁.heap.get? c else H c) = some oc
  rw [if_pos]; exact hoc
  rw [List.any_eq_true]; exact ⟨(x, c), hm, by simp⟩
end
end

section
set_option maxRecDepth 100000
section
variable {prog : Program} {w : World} {M : Model} {A : Around} {E : Value → Shared → Prop}
  {b s : Shared} {ps : List Prot} {H H' : HP} {L x z : Addr} {l : List (Str × Value)} {env : Env} {Q : Value → Shared → Prop} {vs : List Value} {ms : List Int}
/-- x[lo:hi] and x[lo:hi:st] of a list -/
theorem get_slice {vl vu vt : Value} {lo hi st : Option Int} {o : Obj} (a : At b ps L H l s) (hl : LsAt H x vs) (ho : H z = some o) (hc : o.cls = .type "slice") (hd : o.data = .fields #[vl, vu, vt]) (pl : IsPart vl lo) (pu : IsPart vu hi) (pt : IsPart vt st) (h0 : st ≠ some 0) (hb : vs.length < 100000)
    (h : ∀ s' y, H y = none → At b ps L (upd H y (lsO (slicePick vs.toArray lo hi st).toList 0)) l s' → Q (.ref y) s') : wpAny (model prog w) A (getItem (.ref x) (.ref z)) Q E s :=
  wpAny_getItem_list_slice (hl.isList a) ⟨o, a.get ho, hc, hd⟩ pl pu pt h0 (h _ _ (a.fresh (get_size _)) (a.push (lsO (slicePick vs.toArray lo hi st).toList 0) rfl s.toks)) (by simp only [List.size_toArray]; show vs.length ≤ 2 ^ 24; exact om114 hb)
theorem new_slice {vl vu vt : Value} (a : At b ps L H l s) (h : ∀ y, H y = none → At b ps L (upd H y { cls := .type "slice", data := .fields #[vl, vu, vt] }) l { s with heap := s.heap.push { cls := .type "slice", data := .fields #[vl, vu, vt] } } → Q (.ref y) { s with heap := s.heap.push { cls := .type "slice", data := .fields #[vl, vu, vt] } }) :
    Q (.ref s.heap.objs.size) { s with heap := s.heap.push { cls := .type "slice", data := .fields #[vl, vu, vt] } } :=
  h _ (a.fresh (get_size _)) (a.push { cls := .type "slice", data := .fields #[vl, vu, vt] } rfl s.toks)
theorem do_sum (hh : A.handled = none) (a : At b ps L H l s) (hl : LsAt H x vs) (hi : IntsAre vs ms) (h : ∀ t s', At b ps L H l s' → Q (.int ms.sum t) s') : wpAny (model prog w) A (call (.builtin "sum") [.ref x]) Q E s := by
  obtain ⟨xs, hxs⟩ := hi.allInts.items
  have hL := hl.isList a
  rw [hxs] at hL
  refine sum_intListG hh hL fun h' tk t' hk => ?_
  have := h t' _ (a.all hk tk)
  rw [preSum_eq, List.take_of_length_le (by simp)]
  rw [← nums_intItems, ← hxs, show vs.toArray.toList = vs from rfl, hi.numsOf]
  exact this
end
/-! the cells that a comprehension takes -/
noncomputable def closL (cs : List (Str × Addr)) : List (Str × NameKind) → List (Str × Addr) → List (Str × Addr)
  | [], acc => acc
  | (n, k) :: r, acc => if k == .free then closL cs r ((n, (cs.lookup n).getD 0) :: acc) else closL cs r acc
theorem clos_loop {env : Env} {cs : List (Str × Addr)} (hc : env.cells = cs) : ∀ (names : List (Str × NameKind)) (acc : List (Str × Addr)), (∀ x ∈ names, x.2 = .free → (cs.lookup x.1).isSome = true) →
    (forIn (m := Sem) names acc fun x r => match x with | (name, kind) => if (kind == NameKind.free) = true then do let c ← cellOf env name; pure (ForInStep.yield ((name, c) :: r)) else pure (ForInStep.yield r)) = pure (closL cs names acc)
  | [], acc, _ => rfl
  | (n, k) :: r, acc, h => by
    rw [List.forIn_cons]
    by_cases hk : (k == NameKind.free) = true
    · have hn := h (n, k) (.head _) (by simpa using hk)
      obtain ⟨c, hc'⟩ := Option.isSome_iff_exists.mp hn
      have e : cellOf env n = pure c := by unfold cellOf; rw [hc, hc']
      simp only [hk, if_true, e, pure_bind, closL, hc', Option.getD_some]
      exact clos_loop hc r _ fun x hx => h x (.tail _ hx)
    · simp only [hk, if_false, pure_bind, closL, Bool.false_eq_true]
      exact clos_loop hc r _ fun x hx => h x (.tail _ hx)
noncomputable def closOk (cs : List (Str × Addr)) (names : List (Str × NameKind)) : Bool := names.all fun x => !(x.2 == .free) || (cs.lookup x.1).isSome
theorem clos_of {env : Env} {L : Addr} {ns : List (Str × NameKind)} {cs : List (Str × Addr)} {scope : Scope} (he : EnvIs env L ns cs) (h' : closOk cs scope.names = true) : closureFor scope env = pure (closL cs scope.names []) := by
  have h : ∀ x ∈ scope.names, x.2 = .free → (cs.lookup x.1).isSome = true := by
    intro x hx hf
    have := List.all_eq_true.mp h' x hx
    simpa [hf] using this
  have := clos_loop he.cells scope.names [] h
  unfold closureFor
  first
    | exact (by rw [this]; rfl)
    | (simp only [bind_pure_comp] at this ⊢; rw [this]; rfl)
end

section
set_option maxRecDepth 100000
theorem paired_len {G : Nat → Int → Prop} {n : Nat} {zs : List Int} (h : Paired G ((List.range n).filter fun _ => true) zs) : zs.length = n := by
  have := h.length
  rw [List.filter_eq_self.mpr (fun _ _ => rfl), List.length_range] at this
  exact this.symm
section
variable {prog : Program} {w : World} {A : Around} {E : Value → Shared → Prop} {mg mb : Str → Option Value} {env : Env}
  {b s : Shared} {ps : List Prot} {H H' : HP} {L x y z xb xn : Addr} {l : List (Str × Value)} {Q : Value → Shared → Prop} {v : Value} {o : Obj} {bs ms : List Int}
theorem dealt_spec (C : Ctx (hd.heap_1 w.params) b mg mb) (hp : Hp b ps H s) (rm : Rm 4 A) (hb : IlAt H xb bs) (hn : IlAt H xn ms) (hbl : 0 < bs.length ∧ bs.length < 900) (hnl : ms.length < 900)
    (q : ∀ H' y zs s', (∀ a o, H a = some o → H' a = some o) → H y = none → IlAt H' y zs → zs.length = bs.length → Hp b ps H' s' → Q (.ref y) s') :
    wpAny (model prog w) A (call (.ref 181) [.ref xb, .ref xn]) Q E s := by
  refine wpAny_call ?_
  refine call_codeC [("base", .ref xb), ("numbers", .ref xn)] [] C hp (by with_unfolding_all rfl) rfl rfl rfl (by kernel_rfl!) rm.room (by with_unfolding_all rfl) ?_ (fun _ _ e => by cases e) ?_
  · intro x hx
    rcases List.mem_cons.mp hx with rfl | hx
    · exact .inr (by kernel_rfl!)
    · rw [List.mem_singleton] at hx; subst hx; exact .inr (by kernel_rfl!)
  intro L s env cs H1 he hcs hsub hcell hap a
  dsimp only at he hcs hcell
  have rm1 : Rm 3 (A.deeper env) := rm.deeper
  have hcs' : cs = [(("numbers" : Str), L + 1 + 1), (("base" : Str), L + 1)] := by rw [hcs]; rfl
  subst hcs'
  have cB := hcell "base" (L + 1) (by kernel_rfl!)
  have cN := hcell "numbers" (L + 1 + 1) (by kernel_rfl!)
  have cB2 : CeAt H1 (L + 1) (some (.ref xb)) := cB.2
  have cN2 : CeAt H1 (L + 1 + 1) (some (.ref xn)) := cN.2
  have hb1 : IlAt H1 xb bs := hb.mono fun o e => hsub _ _ e
  have hn1 : IlAt H1 xn ms := hn.mono fun o e => hsub _ _ e
  walk_at "st"
  refine ev_comp (ns' := [(".0", .local), ("k", .local), ("sum", .globalImplicit), ("len", .globalImplicit), ("base", .cell), ("numbers", .cell)]) (cl := [(("numbers" : Str), L + 1 + 1), (("base" : Str), L + 1)]) he ((clos_of he (by kernel_rfl!)).trans (by rfl)) (by decide) rfl (by decide) (by kernel_rfl!) (by kernel_rfl!) (by kernel_rfl!) ?_ (by intro _; with_unfolding_all rfl)
  refine ev_call_t C (by assumption) he (g_range w) boot_range ?_
  walk_at "go"
  refine ev_call_b C (by assumption) he (g_len w) boot_len ?_
  walk_at "go"
  refine ev_cell a he (by kernel_rfl!) cB2 ?_
  obtain ⟨bv, hbv, hbi⟩ := id hb1
  have hbvl := hbi.length
  walk_at "go"
  refine do_lenN a hbv (n := bs.length) hbvl (by exact om62 hbl) ?_
  intro t1 s a
  walk_at "go"
  refine do_range1 a ?_
  intro s rg u1 u2 u3 hrg a
  have hd := range_up (n := (bs.length : Int)) (by exact om49) (by exact om58 hbl)
  rw [Int.toNat_natCast] at hd
  refine ints_range (p := fun _ => true) (G := fun _ _ => True) rm1.hand a upd_self hd.1 hd.2 ⟨by exact om61 hbl, ?_, ?_⟩
  · rintro C1 env' i v s ps' H' he' hi ⟨tv, rfl⟩ hs' a
    have hH1 : ∀ a o, H1 a = some o → H' a = some o := fun z oz e => hs' _ _ (upd_of e hrg)
    have hi0 : (0 : Int) + (i : Int) * 1 = i := by exact om46
    rw [hi0] at a
    refine wpAny_tests_nil ⟨rfl, ?_⟩
    rw [if_pos rfl]
    walk_at "go"
    refine ev_cell a he' (by kernel_rfl!) (cB2.mono hH1) ?_
    walk_at "go"
    refine il_sub a (hb1.mono fun o e => hH1 _ _ e) (by exact om49) (by exact om231 hi) (by exact om60 hbl) ?_
    intro t2
    walk_at "go"
    refine ev_call_b C (by assumption) he' (g_sum w) boot_sum ?_
    walk_at "go"
    refine ev_cell (by assumption) he' (by kernel_rfl!) (cN2.mono hH1) ?_
    refine wpAny_Slice ?_
    rw [evalPart_some]
    walk_at "go"
    rw [evalPart_none]
    refine wpAny_pure ?_
    rw [evalPart_some]
    refine ev_call_b C (by assumption) he' (g_len w) boot_len ?_
    walk_at "go"
    refine ev_cell (by assumption) he' (by kernel_rfl!) (cB2.mono hH1) ?_
    walk_at "go"
    have hbv' : LsAt H' xb bv := let ⟨m, e⟩ := hbv; ⟨m, hH1 _ _ e⟩
    obtain ⟨nv, hnv, hni⟩ := hn1.mono (H' := H') fun o e => hH1 _ _ e
    have hnvl := hni.length
    refine do_lenN a hbv' (n := bs.length) hbvl (by exact om62 hbl) ?_
    intro t3 s a
    walk_at "go"
    have hsl := a.fresh (get_size s.heap)
    have a := a.push { cls := .type "slice", data := .fields #[.int (i : Int) tv, .none, .int (bs.length : Nat) t3] } rfl s.toks
    generalize s.heap.objs.size = sl at *
    refine tail_any ((hnv.fresh hsl).isList a).typeIs slot_list_getitem.lookup (get_slice a (hnv.fresh hsl) upd_self rfl rfl (.int _ _) .none (.int _ _) (by intro h; have := Option.some.inj h; exact om59 hbl this) (by exact om259 hnvl hnl) ?_) (by with_unfolding_all rfl)
    intro s y2 hy2 a
    walk_at "go"
    refine do_sum rm1.hand a LsAt.self (hni.pick _ _ _) ?_
    intro t4 s a
    walk_at "go"
    exact ⟨_, _, _, rfl, trivial, a.weak fun z oz e => upd_of (upd_of e hsl) hy2⟩
  · intro D s vs zs m hD hvs hzs a
    walk_at "all"
    refine q _ D zs _ (fun z oz e => upd_of (upd_of (hsub _ _ e) hrg) hD) ?_ ⟨vs, LsAt.self, hvs⟩ (paired_len hzs) a.hp
    cases e : H D with
    | none => rfl
    | some o => rw [upd_of (hsub _ _ e) hrg] at hD; cases hD
end
end

section
set_option maxRecDepth 100000
section
variable {prog : Program} {w : World} {M : Model} {A : Around} {E : Value → Shared → Prop} {K : Frag} {mg mb : Str → Option Value}
  {b s : Shared} {ps : List Prot} {H H' : HP} {L x y z : Addr} {l : List (Str × Value)} {env : Env} {Q : Value → Shared → Prop} {vs ws : List Value} {ms ns : List Int} {k : Int} {t : Tok}
theorem At.ledN (a : At b ps L H l s) : ∃ m news, Fr noHeap L s.heap m ∧ News noHeap L s.heap news ∧ (∀ y o, y ≠ L → s.heap.get? y = some o → (y, o) ∈ news) ∧
    (∀ h' D o t, Fr noHeap L h' m → News noHeap L h' ((D, o) :: news) → (∀ p ∈ news, p.1 < D) → H D = none ∧ At b ps L (upd H D o) l { s with heap := h', toks := t }) ∧
    (∀ h' t, Fr noHeap L h' m → News noHeap L h' news → At b ps L H l { s with heap := h', toks := t }) := by
  obtain ⟨m, hp, hne, hm⟩ := a
  have hL := hp.prot _ (.head _)
  have mem : ∀ y o, y ≠ L → s.heap.get? y = some o → (y, o) ∈ allBut s.heap L L := fun y o h e => mem_allBut e h h
  have keep : ∀ h' t, Fr noHeap L h' m → News noHeap L h' (allBut s.heap L L) → At b ps L H l { s with heap := h', toks := t } := by
    intro h' t F' N'
    have hk : ∀ y oy, y ≠ L → s.heap.get? y = some oy → h'.get? y = some oy := fun y oy hyL e => (N' (y, oy) (mem y oy hyL e)).1
    refine ⟨m, ⟨fun y oy e => ?_, fun y oy e => ?_, fun p hpp => ?_, hp.gens, hp.os⟩, hne, hm⟩
    · refine hk y oy ?_ (hp.keep y oy e)
      rintro rfl; rw [show b.heap.get? y = none from hL.2.1] at e; cases e
    · refine ⟨hk y oy ?_ (hp.sub y oy e).1, (hp.sub y oy e).2⟩
      rintro rfl; rw [show H y = none from hL.2.2] at e; cases e
    · rcases List.mem_cons.mp hpp with rfl | hpp'
      · exact ⟨F'.ns, hL.2.1, hL.2.2⟩
      · have q := hp.prot p hpp
        exact ⟨q.1.to fun o e => hk _ o (hne p hpp') e, q.2.1, q.2.2⟩
  refine ⟨m, allBut s.heap L L, ⟨hL.1, fun c o e => absurd e (by rw [noHeap_get]; exact fun h => by cases h), Nat.zero_le _⟩, fun p hpp => ⟨(of_allBut hpp).1, (of_allBut hpp).2.2, noHeap_get _⟩, mem, ?_, keep⟩
  intro h' D o t F' N' hlt
  have a' := keep h' t F' (fun p hpp => N' p (.tail _ hpp))
  have hDL : D ≠ L := (N' (D, o) (.head _)).2.1
  have hnone : s.heap.get? D = none := by
    cases e : s.heap.get? D with
    | none => rfl
    | some o' => exact absurd (hlt _ (mem D o' hDL e)) (Nat.lt_irrefl _)
  have hHD : H D = none := hp.fresh hnone
  refine ⟨hHD, ?_⟩
  obtain ⟨m', hp', hne', hm'⟩ := a'
  refine ⟨m', ⟨hp'.keep, fun y oy e => ?_, fun p hpp => ⟨(hp'.prot p hpp).1, (hp'.prot p hpp).2.1, ?_⟩, hp'.gens, hp'.os⟩, hne', hm'⟩
  · by_cases hy : y = D
    · subst hy; rw [upd_self] at e; cases e
      exact ⟨(N' (y, o) (.head _)).1, hp.base_fresh hnone, by
        rcases Nat.lt_or_ge 3 y with h | h
        · exact h
        · have h3 : ∃ o, s.heap.get? 3 = some o := let ⟨o3, e3⟩ := hp.gens.2; ⟨o3, hp.keep _ _ e3⟩
          obtain ⟨o3, e3⟩ := h3
          by_cases h3L : (3 : Addr) = L
          · have := hL.2.1
            obtain ⟨o4, e4⟩ := hp.gens.2
            rw [h3L, show b.heap.get? L = none from this] at e4; cases e4
          · have := hlt _ (mem 3 o3 h3L e3)
            exact this⟩
    · rw [upd_ne hy] at e; exact hp'.sub y oy e
  · have : p.at ≠ D := by
      rcases List.mem_cons.mp hpp with rfl | hpp
      · exact fun e => hDL e.symm
      · exact hp.prot_ne hnone p (.tail _ hpp)
    rw [upd_ne this]; exact (hp'.prot p hpp).2.2
theorem At.neL {o : Obj} (a : At b ps L H l s) (h : H x = some o) : x ≠ L := by
  obtain ⟨m, hp, _, _⟩ := a
  rintro rfl
  rw [show H x = none from (hp.prot _ (.head _)).2.2] at h; cases h
/-- lists -/
theorem do_index (a : At b ps L H l s) (hl : IlAt H x ns) (hlen : ns.length < 1000) (hk : k ∈ ns) (h : ∀ t s', At b ps L H l s' → Q (.int (ns.idxOf k : Nat) t) s') :
    wpAny (model prog w) A (call (.builtin "list.index") [.ref x, .int k t]) Q E s := by
  obtain ⟨vs, ⟨n, hv⟩, hi⟩ := hl
  have hvl := hi.length
  have hj : ns.idxOf k < ns.length := List.idxOf_lt_length_iff.mpr hk
  refine call_meets PySem.F.slot_list_index ⟨_, a.get hv, rfl⟩ PySem.F.entry_list_index (PySem.F.args_list_index_2 _ _)
    (MeetsSeq.list_index x vs.toArray n (.int k t) (isInt k) (fun y hy => eq_isInt k t hi y (by simpa using hy)) (ns.idxOf k) (by simpa [hvl] using hj) (by exact om240 hj hlen) ?_ ?_) ⟨a.get hv, h _ _ (a.toks _)⟩
  · show isInt k vs[ns.idxOf k] = true
    rw [isInt_at k hi _ (by exact om348 hj hvl) hj]
    simpa using List.getElem_idxOf hj
  · intro j hjs hlt
    show isInt k vs[j] = false
    rw [isInt_at k hi j (by simpa using hjs) (by exact om350 hlt hj)]
    exact ne_of_lt_idxOf hlt _
theorem cmp_in (a : At b ps L H l s) (hl : IlAt H x ns) (h : Q (.bool (decide (k ∈ ns))) s) : wpAny (model prog w) A (compareOp .In (.int k t) (.ref x)) Q E s := by
  obtain ⟨vs, hv, hi⟩ := hl
  refine in_list_ints (hv.isList a) hi ?_
  have : ns.any (· == k) = decide (k ∈ ns) := by rw [Bool.eq_iff_iff]; simp
  rw [this]; exact h
theorem cmp_notin (a : At b ps L H l s) (hl : IlAt H x ns) (h : Q (.bool (!decide (k ∈ ns))) s) : wpAny (model prog w) A (compareOp .NotIn (.int k t) (.ref x)) Q E s := by
  obtain ⟨vs, hv, hi⟩ := hl
  refine notin_list_ints (hv.isList a) hi ?_
  have : ns.any (· == k) = decide (k ∈ ns) := by rw [Bool.eq_iff_iff]; simp
  rw [this]; exact h
theorem op_addLs (a : At b ps L H l s) (hx : LsAt H x vs) (hy : LsAt H y ws) (hb : vs.length + ws.length < 100000) (h : ∀ s' D, H D = none → At b ps L (upd H D (lsO (vs ++ ws) 0)) l s' → Q (.ref D) s') :
    wpAny (model prog w) A (binaryOp .Add (.ref x) (.ref y)) Q E s := by
  obtain ⟨m, news, F, N, mem, back, _⟩ := a.ledN
  refine add_lists F N (hx.isList a) (hy.isList a) (fun h' F' N' => ?_) (by show _ ≤ 2 ^ 24; exact om216 hb)
  obtain ⟨h1, h2⟩ := back h' _ _ s.toks F' N' (fun p hp => Heap.lt_size (N p hp).1)
  exact h _ _ h1 h2
theorem op_mulLs {n : Nat} (a : At b ps L H l s) (hx : LsAt H x vs) (hb : vs.length * n ≤ 256) (hn : n < 100000) (h : ∀ s' D, H D = none → At b ps L (upd H D (lsO (List.replicate n vs).flatten 0)) l s' → Q (.ref D) s') :
    wpAny (model prog w) A (binaryOp .Mult (.ref x) (.int n t)) Q E s := by
  obtain ⟨m, news, F, N, mem, back, _⟩ := a.ledN
  refine KMa.mul F N (hx.isList a) (by exact om102) (by exact om112 hn) (by simpa using hb) rfl (fun D h' F' N' hlt => ?_)
  obtain ⟨h1, h2⟩ := back h' _ _ s.toks F' N' hlt
  exact h _ _ h1 h2
theorem cmp_eqI (a : At b ps L H l s) (hu : A.units + 64 < cLine) (hx : IlAt H x ns) (hy : IlAt H y ms) (h : Q (.bool (decide (ns = ms))) s) : wpAny (model prog w) A (compareOp .Eq (.ref x) (.ref y)) Q E s := by
  obtain ⟨vs, hv, hi⟩ := hx
  obtain ⟨ws, hw, hj⟩ := hy
  exact ke_eq_ints (hv.isList a) (hw.isList a) hi hj hu h
theorem cmp_neI (a : At b ps L H l s) (hu : A.units + 64 < cLine) (hx : IlAt H x ns) (hy : IlAt H y ms) (h : Q (.bool (!decide (ns = ms))) s) : wpAny (model prog w) A (compareOp .NotEq (.ref x) (.ref y)) Q E s := by
  obtain ⟨vs, hv, hi⟩ := hx
  obtain ⟨ws, hw, hj⟩ := hy
  exact ke_ne_ints (hv.isList a) (hw.isList a) hi hj hu h
theorem Rm.u64 {n : Nat} (h : Rm n A) (hn : 4 ≤ n) : A.units + 64 < cLine := by have := h.2.1; show A.units + 64 < 9900; exact om180 hn this
theorem do_max {i j : Int} {u : Tok} (hh : A.handled = none) (a : At b ps L H l s) (h : ∀ t s', At b ps L H l s' → Q (.int (max i j) t) s') : wpAny (model prog w) A (call (.builtin "max") [.int i t, .int j u]) Q E s := by
  obtain ⟨m, news, F, N, mem, _, back⟩ := a.ledN
  refine max_two_N hh F N fun h' tk F' N' => ?_
  have := h (if j > i then u else t) _ (back h' tk F' N')
  rw [show max i j = if j > i then j else i from by rw [Int.max_def]; split <;> split <;> (first | exact om537 | exact om566 (by assumption) (by assumption) | exact om563 (by assumption) (by assumption))] at this
  exact this
theorem do_extendT (a : At b ps L H l s) (hx : LsAt H x vs) (hy : TpAt H y ws) (hne : ws.length ≠ 0) (hb : vs.length + ws.length < 100000) (h : ∀ s' n, At b ps L (upd H x (lsO (vs ++ ws) n)) l s' → Q .none s') :
    wpAny (model prog w) A (call (.builtin "list.extend") [.ref x, .ref y]) Q E s := by
  obtain ⟨n, e⟩ := hx
  obtain ⟨n2, e2⟩ := hy
  have hz : vs.toArray.size + ws.toArray.size ≤ sizeLine := by simp only [List.size_toArray]; show _ ≤ 2 ^ 24; exact om216 hb
  refine call_meets PySem.F.slot_list_extend ⟨_, a.get e, rfl⟩ PySem.F.entry_list_extend (PySem.F.args_list_extend_2 _ _) (PySem.AutoSeq1.list_extend_list_tuple_0 x vs.toArray n y ws.toArray n2 (extend_door hz) (by exact om333 hz) (by exact om329 hz)) ⟨a.get e, a.get e2, h _ (n + 1) (a.set e (Heap.SameBut.update ..) ?_ s.toks)⟩
  have q := PySem.IsL.update (h := s.heap) (l := x) (items := vs.toArray) (n := n) (a.get e) (fun xs => xs ++ ws.toArray)
  rw [if_neg (by simp; exact fun h => hne (by simp [h]))] at q
  rw [show vs.toArray ++ ws.toArray = (vs ++ ws).toArray from by simp] at q
  exact q
end
end

section
/-! the sorter's rounds, in plain Lean -/
theorem dec_np (js : List Int) : ∀ (st : Ds) (j : Int), (js.foldl decOne st).1 j = st.1 j - js.count j := by
  induction js with
  | nil => intro st j; simp
  | cons a r ih =>
    intro st j
    rw [List.foldl_cons, ih]
    unfold decOne
    dsimp only
    by_cases h : j = a
    · subst h; simp; exact om478
    · have h' : ¬ a = j := fun e => h e.symm
      simp [h, List.count_cons, h']
theorem dec_rd (js : List Int) : ∀ (st : Ds), (∀ j, j ∈ js → (js.count j : Int) ≤ st.1 j) → ∀ j, j ∈ (js.foldl decOne st).2 ↔ j ∈ st.2 ∨ (j ∈ js ∧ (js.count j : Int) = st.1 j) := by
  induction js with
  | nil => intro st _ j; simp
  | cons a r ih =>
    intro st hle j
    have hst1 : ∀ i, (decOne st a).1 i = if i = a then st.1 a - 1 else st.1 i := fun i => rfl
    rw [List.foldl_cons, ih]
    · by_cases hz : st.1 a - 1 = 0
      · have h2 : (decOne st a).2 = st.2 ++ [a] := by unfold decOne; simp [hz]
        have hca := hle a (.head _)
        have har : a ∉ r := by
          intro h
          have := List.count_pos_iff.mpr h
          rw [List.count_cons_self] at hca
          exact om33 this hca hz
        rw [h2, List.mem_append, List.mem_singleton]
        by_cases h : j = a
        · subst h
          have h0 : r.count j = 0 := List.count_eq_zero.mpr har
          simp only [or_true, true_or, true_iff, List.mem_cons, true_and, List.count_cons_self]
          right; exact om42 h0 hz
        · have h' : ¬ a = j := fun e => h e.symm
          simp only [h, or_false, List.mem_cons, false_or, hst1, if_false, List.count_cons, h', beq_iff_eq, Nat.add_zero]
      · have h2 : (decOne st a).2 = st.2 := by unfold decOne; simp [hz]
        rw [h2]
        by_cases h : j = a
        · subst h
          simp only [hst1, if_true, List.mem_cons, true_or, true_and, List.count_cons_self]
          constructor
          · rintro (h1 | ⟨h1, h3⟩)
            · exact .inl h1
            · right; exact om41 h3
          · rintro (h1 | h1)
            · exact .inl h1
            · right
              have hc : 0 < r.count j := by
                have := hle j (.head _)
                rw [List.count_cons_self] at this
                exact om37 h1 hz
              exact ⟨List.count_pos_iff.mp hc, by exact om36 h1⟩
        · have h' : ¬ a = j := fun e => h e.symm
          simp only [h, List.mem_cons, false_or, hst1, if_false, List.count_cons, h', beq_iff_eq, Nat.add_zero]
    · intro i hi
      have := hle i (.tail _ hi)
      rw [hst1]
      by_cases h : i = a
      · subst h; rw [List.count_cons_self] at this; simp only [if_true]; exact om38 this
      · have h' : ¬ a = i := fun e => h e.symm
        simp only [h, if_false]
        simpa [List.count_cons, h'] using this
theorem dec_nodup (js : List Int) : ∀ (st : Ds), (∀ j, j ∈ js → (js.count j : Int) ≤ st.1 j) → st.2.Nodup → (∀ j ∈ js, j ∉ st.2) → (js.foldl decOne st).2.Nodup := by
  induction js with
  | nil => intro st _ h _; exact h
  | cons a r ih =>
    intro st hle hn hd
    rw [List.foldl_cons]
    have hst1 : ∀ i, (decOne st a).1 i = if i = a then st.1 a - 1 else st.1 i := fun i => rfl
    have hle' : ∀ i, i ∈ r → (r.count i : Int) ≤ (decOne st a).1 i := by
      intro i hi
      have := hle i (.tail _ hi)
      rw [hst1]
      by_cases h : i = a
      · subst h; rw [List.count_cons_self] at this; simp only [if_true]; exact om38 this
      · have h' : ¬ a = i := fun e => h e.symm
        simp only [h, if_false]
        simpa [List.count_cons, h'] using this
    by_cases hz : st.1 a - 1 = 0
    · have h2 : (decOne st a).2 = st.2 ++ [a] := by unfold decOne; simp [hz]
      have har : a ∉ r := by
        intro h
        have := List.count_pos_iff.mpr h
        have hca := hle a (.head _)
        rw [List.count_cons_self] at hca
        exact om33 this hca hz
      refine ih _ hle' ?_ ?_
      · rw [h2, List.nodup_append]
        exact ⟨hn, by simp, fun x hx y hy => by rw [List.mem_singleton] at hy; subst hy; rintro rfl; exact hd x (.head _) hx⟩
      · intro j hj
        rw [h2, List.mem_append, List.mem_singleton]
        rintro (h | rfl)
        · exact hd j (.tail _ hj) h
        · exact har hj
    · have h2 : (decOne st a).2 = st.2 := by unfold decOne; simp [hz]
      exact ih _ hle' (by rw [h2]; exact hn) (fun j hj => by rw [h2]; exact hd j (.tail _ hj))
/-- the number of edges from ks into j -/
noncomputable def ind (su : Int → List Int) (ks : List Int) (j : Int) : Nat := (ks.map fun k => (su k).count j).sum
theorem ind_cons {su : Int → List Int} {k : Int} {r : List Int} {j : Int} : ind su (k :: r) j = (su k).count j + ind su r j := by simp [ind]
theorem ind_pos {su : Int → List Int} {ks : List Int} {j : Int} : 0 < ind su ks j ↔ ∃ k ∈ ks, j ∈ su k := by
  induction ks with
  | nil => simp [ind]
  | cons k r ih =>
    rw [ind_cons]
    constructor
    · intro h
      by_cases hc : j ∈ su k
      · exact ⟨k, .head _, hc⟩
      · rw [List.count_eq_zero.mpr hc, Nat.zero_add] at h
        obtain ⟨k', h1, h2⟩ := ih.mp h
        exact ⟨k', .tail _ h1, h2⟩
    · rintro ⟨k', h1, h2⟩
      rcases List.mem_cons.mp h1 with rfl | h1
      · have := List.count_pos_iff.mpr h2; exact om163 this
      · have := ih.mpr ⟨k', h1, h2⟩; exact om166 this
theorem ind_perm {su : Int → List Int} {ks ls : List Int} {j : Int} (h : ks.Perm ls) : ind su ks j = ind su ls j := (h.map _).sum_nat
theorem ind_split {su : Int → List Int} {p : Int → Bool} {j : Int} : ∀ ks : List Int, ind su ks j = ind su (ks.filter p) j + ind su (ks.filter fun k => !p k) j := by
  intro ks
  induction ks with
  | nil => rfl
  | cons k r ih =>
    rw [ind_cons, ih, List.filter_cons, List.filter_cons]
    cases hp : p k <;> simp [ind_cons] <;> (first | exact om323 | exact om322)
/-- all of a group is done -/
theorem done_all {su : Int → List Int} : ∀ (G : List Int) (st : Ds), (∀ k ∈ G, ∀ j ∈ su k, j ∉ G) →
    (∀ j, j ∉ G → (doneAll su st G).1 j = st.1 j - ind su G j) ∧ (∀ j ∈ G, (doneAll su st G).1 j = -2) ∧
    ((∀ j, j ∉ G → 0 < ind su G j → (ind su G j : Int) ≤ st.1 j ∧ j ∉ st.2) → st.2.Nodup → (doneAll su st G).2.Nodup ∧ ∀ j, j ∈ (doneAll su st G).2 ↔ j ∈ st.2 ∨ (j ∉ G ∧ 0 < ind su G j ∧ (ind su G j : Int) = st.1 j)) := by
  intro G
  induction G with
  | nil => intro st _; exact ⟨fun j _ => by simp [doneAll, ind], fun j h => by (cases h), fun _ hn => ⟨hn, fun j => by simp [doneAll, ind]⟩⟩
  | cons k r ih =>
    intro st hG
    have hr : ∀ k' ∈ r, ∀ j ∈ su k', j ∉ r := fun k' hk j hj h => hG k' (.tail _ hk) j hj (.tail _ h)
    have hkk : ∀ k' ∈ k :: r, k ∉ su k' := fun k' hk' h => hG k' hk' k h (.head _)
    have hkj : ∀ j ∈ su k, j ∉ r ∧ j ≠ k := fun j hj => ⟨fun h => hG k (.head _) j hj (.tail _ h), fun h => hG k (.head _) j hj (h ▸ .head _)⟩
    obtain ⟨i1, i2, i3⟩ := ih (doneOne su st k) hr
    have hnp : ∀ j, (doneOne su st k).1 j = (if j = k then -2 else st.1 j) - (su k).count j := fun j => dec_np (su k) _ j
    have hik : ind su r k = 0 := by
      rcases Nat.eq_zero_or_pos (ind su r k) with h | h
      · exact h
      · obtain ⟨k', h1, h2⟩ := ind_pos.mp h
        exact absurd h2 (hkk k' (.tail _ h1))
    have hck : (su k).count k = 0 := List.count_eq_zero.mpr (hkk k (.head _))
    refine ⟨fun j hj => ?_, fun j hj => ?_, fun hc hn => ?_⟩
    · rw [List.mem_cons, not_or] at hj
      show (doneAll su (doneOne su st k) r).1 j = _
      rw [i1 j hj.2, hnp, if_neg hj.1, ind_cons]; exact om494
    · show (doneAll su (doneOne su st k) r).1 j = _
      by_cases hjr : j ∈ r
      · exact i2 j hjr
      · have : j = k := by
          rcases List.mem_cons.mp hj with h | h
          · exact h
          · exact absurd h hjr
        subst this
        rw [i1 j hjr, hnp, if_pos rfl, hik, hck]; rfl
    · have hc1 : ∀ j, j ∈ su k → ((su k).count j : Int) ≤ (if j = k then -2 else st.1 j) := by
        intro j hj
        have hjk := hkj j hj
        have hp : 0 < ind su (k :: r) j := ind_pos.mpr ⟨k, .head _, hj⟩
        have := (hc j (by rw [List.mem_cons, not_or]; exact ⟨hjk.2, hjk.1⟩) hp).1
        rw [if_neg hjk.2]
        rw [ind_cons] at this
        exact om28 this
      have hd1 : ∀ j ∈ su k, j ∉ st.2 := fun j hj => (hc j (by rw [List.mem_cons, not_or]; exact ⟨(hkj j hj).2, (hkj j hj).1⟩) (ind_pos.mpr ⟨k, .head _, hj⟩)).2
      have hrd : ∀ j, j ∈ (doneOne su st k).2 ↔ j ∈ st.2 ∨ (j ∈ su k ∧ ((su k).count j : Int) = (if j = k then -2 else st.1 j)) := dec_rd (su k) _ hc1
      have hnd : (doneOne su st k).2.Nodup := dec_nodup (su k) _ hc1 hn hd1
      have := i3 (fun j hj hp => ?_) hnd
      · refine ⟨this.1, fun j => ?_⟩
        show j ∈ (doneAll su (doneOne su st k) r).2 ↔ _
        rw [this.2, hrd, hnp, List.mem_cons, not_or, ind_cons]
        by_cases hjk : j = k
        · subst hjk
          simp only [if_true, not_true, false_and, or_false, hik, Nat.lt_irrefl, and_false]
          constructor
          · rintro (h | ⟨h, _⟩)
            · exact h
            · exact absurd h (hkk j (.head _))
          · exact .inl
        · simp only [hjk, if_false, not_false_eq_true, true_and]
          constructor
          · rintro ((h | ⟨h1, h2⟩) | ⟨h1, h2, h3⟩)
            · exact .inl h
            · right
              have hj1 := (hkj j h1).1
              have hp : 0 < (su k).count j := List.count_pos_iff.mpr h1
              have := (hc j (by rw [List.mem_cons, not_or]; exact ⟨hjk, hj1⟩) (ind_pos.mpr ⟨k, .head _, h1⟩)).1
              rw [ind_cons] at this
              exact ⟨hj1, by exact om163 hp, by exact om157 this h2⟩
            · right; exact ⟨h1, by exact om166 h2, by exact om158 h3⟩
          · rintro (h | ⟨h1, h2, h3⟩)
            · exact .inl (.inl h)
            · by_cases h0 : 0 < ind su r j
              · right; exact ⟨h1, h0, by exact om29 h3⟩
              · left; right
                have hp : 0 < (su k).count j := by exact om162 h2 h0
                exact ⟨List.count_pos_iff.mp hp, by exact om27 h3 h0⟩
      · have hjk : j ≠ k := by rintro rfl; exact om55 hp hik
        have hin : j ∉ k :: r := by rw [List.mem_cons, not_or]; exact ⟨hjk, hj⟩
        have hp' : 0 < ind su (k :: r) j := by rw [ind_cons]; exact om166 hp
        obtain ⟨q1, q2⟩ := hc j hin hp'
        rw [ind_cons] at q1
        refine ⟨by rw [hnp, if_neg hjk]; exact om30 q1, ?_⟩
        rw [hrd, if_neg hjk]
        rintro (h | ⟨h1, h2⟩)
        · exact q2 h
        · exact om156 hp q1 h2
end

section
structure RankOk (keys : List Int) (su : Int → List Int) (rk : Int → Nat) : Prop where
  nodup : keys.Nodup
  sub : ∀ k ∈ keys, ∀ j ∈ su k, j ∈ keys
  up : ∀ k ∈ keys, ∀ j ∈ su k, rk k < rk j
  pre : ∀ j ∈ keys, ∀ t, rk j = t + 1 → ∃ k ∈ keys, j ∈ su k ∧ rk k = t
structure RInv (keys : List Int) (su : Int → List Int) (rk : Int → Nat) (t : Nat) (np : Int → Int) (rd : List Int) : Prop where
  np : ∀ j ∈ keys, np j = if rk j < t then -2 else (ind su (keys.filter fun k => decide (t ≤ rk k)) j : Int)
  nodup : rd.Nodup
  rd : ∀ j, j ∈ rd ↔ j ∈ keys ∧ rk j = t
section
variable {keys : List Int} {su : Int → List Int} {rk : Int → Nat} {t : Nat} {np : Int → Int} {rd : List Int}
theorem RInv.perm (o : RankOk keys su rk) (v : RInv keys su rk t np rd) : rd.Perm (keys.filter fun k => decide (rk k = t)) := by
  rw [List.perm_ext_iff_of_nodup v.nodup (o.nodup.filter _)]
  intro j
  rw [v.rd, List.mem_filter]; simp
theorem RInv.noin (o : RankOk keys su rk) (v : RInv keys su rk t np rd) : ∀ k ∈ rd, ∀ j ∈ su k, j ∉ rd := by
  intro k hk j hj hjr
  have h1 := (v.rd k).mp hk
  have h2 := (v.rd j).mp hjr
  have := o.up k h1.1 j hj
  exact om458 h1 this h2
theorem RInv.next (o : RankOk keys su rk) (v : RInv keys su rk t np rd) :
    RInv keys su rk (t + 1) (doneAll su (fun j => if j ∈ rd then -1 else np j, []) rd).1 (doneAll su (fun j => if j ∈ rd then -1 else np j, []) rd).2 := by
  obtain ⟨d1, d2, d3⟩ := done_all rd (fun j => if j ∈ rd then -1 else np j, []) (v.noin o)
  have hG : ∀ j, ind su rd j = ind su (keys.filter fun k => decide (rk k = t)) j := fun j => ind_perm (v.perm o)
  have hsp : ∀ j, ind su (keys.filter fun k => decide (t ≤ rk k)) j = ind su rd j + ind su (keys.filter fun k => decide (t + 1 ≤ rk k)) j := by
    intro j
    rw [hG, ind_split (p := fun k => decide (rk k = t)) (keys.filter fun k => decide (t ≤ rk k)), List.filter_filter, List.filter_filter]
    congr 2
    · apply List.filter_congr
      intro k _
      by_cases h : rk k = t
      · simp [h]
      · simp [h]
    · apply List.filter_congr
      intro k _
      rw [Bool.eq_iff_iff]; simp; exact om295
  have hposk : ∀ j, 0 < ind su rd j → j ∈ keys ∧ t + 1 ≤ rk j := by
    intro j h
    obtain ⟨k, h1, h2⟩ := ind_pos.mp h
    have h3 := (v.rd k).mp h1
    have := o.up k h3.1 j h2
    exact ⟨o.sub k h3.1 j h2, by exact om297 this h3⟩
  have hc : ∀ j, j ∉ rd → 0 < ind su rd j → (ind su rd j : Int) ≤ (if j ∈ rd then -1 else np j) ∧ j ∉ ([] : List Int) := by
    intro j hj hp
    obtain ⟨h1, h2⟩ := hposk j hp
    rw [if_neg hj, v.np j h1, if_neg (by exact om282 h2), hsp]
    exact ⟨by exact om199, by simp⟩
  obtain ⟨d4, d5⟩ := d3 hc List.nodup_nil
  refine ⟨fun j hj => ?_, d4, fun j => ?_⟩
  · by_cases hjr : j ∈ rd
    · rw [d2 j hjr, if_pos (by have := ((v.rd j).mp hjr).2; exact om252 this)]
    · rw [d1 j hjr]
      simp only [hjr, if_false]
      have hne : rk j ≠ t := fun h => hjr ((v.rd j).mpr ⟨hj, h⟩)
      rw [v.np j hj]
      by_cases hlt : rk j < t
      · rw [if_pos hlt, if_pos (by exact om236 hlt)]
        have : ind su rd j = 0 := by
          rcases Nat.eq_zero_or_pos (ind su rd j) with h | h
          · exact h
          · have := (hposk j h).2; exact om365 this hlt
        exact om128 this
      · rw [if_neg hlt, if_neg (by exact om266 hne hlt), hsp]; exact om195
  · rw [d5]
    simp only [List.not_mem_nil, false_or]
    constructor
    · rintro ⟨h1, h2, h3⟩
      rw [if_neg h1] at h3
      obtain ⟨h4, h5⟩ := hposk j h2
      refine ⟨h4, ?_⟩
      rw [v.np j h4, if_neg (by exact om282 h5), hsp] at h3
      have h0 : ind su (keys.filter fun k => decide (t + 1 ≤ rk k)) j = 0 := by exact om202 h3
      by_cases he : rk j = t + 1
      · exact he
      · obtain ⟨k, k1, k2, k3⟩ := o.pre j h4 (rk j - 1) (by exact om281 h5)
        have : 0 < ind su (keys.filter fun k => decide (t + 1 ≤ rk k)) j := ind_pos.mpr ⟨k, by rw [List.mem_filter]; exact ⟨k1, by simp; exact om319 h5 k3 he⟩, k2⟩
        exact om396 this h3
    · rintro ⟨h1, h2⟩
      have hjr : j ∉ rd := fun h => by have := ((v.rd j).mp h).2; exact om248 h2 this
      obtain ⟨k, k1, k2, k3⟩ := o.pre j h1 t h2
      have hp : 0 < ind su rd j := ind_pos.mpr ⟨k, (v.rd k).mpr ⟨k1, k3⟩, k2⟩
      refine ⟨hjr, hp, ?_⟩
      rw [if_neg hjr, v.np j h1, if_neg (by exact om249 h2), hsp]
      have h0 : ind su (keys.filter fun k => decide (t + 1 ≤ rk k)) j = 0 := by
        rcases Nat.eq_zero_or_pos (ind su (keys.filter fun k => decide (t + 1 ≤ rk k)) j) with h | h
        · exact h
        · obtain ⟨k', k1', k2'⟩ := ind_pos.mp h
          rw [List.mem_filter] at k1'
          have := o.up k' k1'.1 j k2'
          have := k1'.2
          simp at this
          exact om421 this (by assumption) h2
      exact om291 h0
theorem RInv.out (o : RankOk keys su rk) (v : RInv keys su rk t np rd) : ∀ i (h : i < rd.length), (doneAll su (fun j => if j ∈ rd then -1 else np j, []) (rd.take i)).1 rd[i] = -1 := by
  intro i h
  have hsub : ∀ k ∈ rd.take i, k ∈ rd := fun k hk => List.mem_of_mem_take hk
  obtain ⟨d1, _, _⟩ := done_all (rd.take i) (fun j => if j ∈ rd then -1 else np j, []) (fun k hk j hj hjr => v.noin o k (hsub k hk) j hj (hsub j hjr))
  have hni : rd[i] ∉ rd.take i := by
    intro hm
    obtain ⟨m, hm1, hm2⟩ := List.getElem_of_mem hm
    rw [List.length_take] at hm1
    rw [List.getElem_take] at hm2
    have := (List.getElem_inj v.nodup).mp hm2
    exact om335 hm1 this
  rw [d1 _ hni]
  simp only [List.getElem_mem, if_true]
  have : ind su (rd.take i) rd[i] = 0 := by
    rcases Nat.eq_zero_or_pos (ind su (rd.take i) rd[i]) with h0 | h0
    · exact h0
    · obtain ⟨k, h1, h2⟩ := ind_pos.mp h0
      exact absurd (List.getElem_mem h) (v.noin o k (hsub k h1) _ h2)
  exact om127 this
end
end

section
/-! the heap, in plain Lean -/
noncomputable def ile (i j : It) : Prop := ¬ ilt j i
theorem ile_trans {i j k : It} (h1 : ile i j) (h2 : ile j k) : ile i k := by unfold ile ilt plt at *; exact om586 h2 h1
theorem ile_of_lt {i j : It} (h : ilt i j) : ile i j := by unfold ile ilt plt at *; exact om582 h
theorem ile_refl (i : It) : ile i i := by unfold ile ilt plt; exact om567
theorem ile_of_nlt {i j : It} (h : ¬ ilt i j) : ile j i := h
theorem ile_total (i j : It) : ile i j ∨ ile j i := by unfold ile ilt plt; exact om583
noncomputable def gt (xs : List It) (i : Nat) (d : It) : It := xs.getD i d
theorem getD_set {xs : List It} {i j : Nat} {v d : It} : (xs.set i v).getD j d = if i = j then (if i < xs.length then v else d) else xs.getD j d := by
  simp only [List.getD_eq_getElem?_getD, List.getElem?_set]
  by_cases h : i = j
  · simp only [h, if_true]
    split <;> simp
  · simp [h]
/-- in order, but for the place pos -/
noncomputable def HpBut (d : It) (xs : List It) (pos : Nat) : Prop := ∀ i, 0 < i → i < xs.length → i ≠ pos → (i - 1) / 2 ≠ pos → ile (xs.getD ((i - 1) / 2) d) (xs.getD i d)
noncomputable def HpOk (d : It) (xs : List It) : Prop := ∀ i, 0 < i → i < xs.length → ile (xs.getD ((i - 1) / 2) d) (xs.getD i d)
noncomputable def Bridge (d : It) (xs : List It) (pos : Nat) : Prop := 0 < pos → ∀ i, 0 < i → i < xs.length → (i - 1) / 2 = pos → ile (xs.getD ((pos - 1) / 2) d) (xs.getD i d)
theorem swap_perm {xs : List It} {i j : Nat} {v d : It} (hi : i < xs.length) (hj : j < xs.length) (hij : i ≠ j) : ((xs.set i (xs.getD j d)).set j v).Perm (xs.set i v) := by
  have h := List.set_set_perm (as := xs.set i v) (i := i) (j := j) (by simpa using hi) (by simpa using hj)
  have e1 : (xs.set i v)[j]'(by simpa using hj) = xs.getD j d := by
    rw [List.getElem_set_ne hij, List.getD_eq_getElem?_getD, List.getElem?_eq_getElem hj]; rfl
  have e2 : (xs.set i v)[i]'(by simpa using hi) = v := by simp
  rw [e1, e2, List.set_set] at h
  exact h
theorem sdn_ok (d new : It) : ∀ (pos : Nat) (xs : List It), pos < xs.length → HpBut d xs pos → Bridge d xs pos → (∀ i, 0 < i → i < xs.length → (i - 1) / 2 = pos → ile new (xs.getD i d)) →
    HpOk d (sdn new xs pos) ∧ (sdn new xs pos).Perm (xs.set pos new) := by
  intro pos
  induction pos using Nat.strongRecOn with
  | ind pos ih =>
    intro xs hp hA hC hB
    unfold sdn
    by_cases h0 : pos = 0
    · subst h0
      rw [if_pos rfl]
      refine ⟨fun i h1 h2 => ?_, List.Perm.refl _⟩
      rw [List.length_set] at h2
      rw [getD_set, getD_set, if_neg (by exact om57 h1 : ¬ 0 = i)]
      by_cases hq : 0 = (i - 1) / 2
      · rw [if_pos hq, if_pos (by exact om53 hp)]; exact hB i h1 h2 hq.symm
      · rw [if_neg hq]; exact hA i h1 h2 (by exact om56 h1) (by exact om141 hq)
    · rw [if_neg h0]
      have hpar : xs.getD ((pos - 1) / 2) new = xs.getD ((pos - 1) / 2) d := by
        rw [List.getD_eq_getElem?_getD, List.getD_eq_getElem?_getD, List.getElem?_eq_getElem (by exact om230 hp : (pos - 1) / 2 < xs.length)]; rfl
      rw [hpar]
      by_cases hlt : ilt new (xs.getD ((pos - 1) / 2) d)
      · rw [if_pos hlt]
        have hR := ih ((pos - 1) / 2) (by exact om151 h0) (xs.set pos (xs.getD ((pos - 1) / 2) d)) (by simp; exact om230 hp) ?_ ?_ ?_
        · obtain ⟨r1, r2⟩ := hR
          exact ⟨r1, r2.trans (swap_perm hp (by exact om230 hp) (by exact om152 h0))⟩
        · intro i h1 h2 h3 h4
          rw [List.length_set] at h2
          have hip : i ≠ pos := fun e => h4 (by rw [e])
          rw [getD_set, getD_set, if_neg (show ¬ pos = i from fun e => hip e.symm)]
          by_cases hq : pos = (i - 1) / 2
          · rw [if_pos hq, if_pos (by exact om235 hp)]; exact hC (by exact om194 h4 hq) i h1 h2 hq.symm
          · rw [if_neg hq]; exact hA i h1 h2 hip (fun e => hq e.symm)
        · intro hpos i h1 h2 h3
          rw [List.length_set] at h2
          have hup : ile (xs.getD (((pos - 1) / 2 - 1) / 2) d) (xs.getD ((pos - 1) / 2) d) := hA _ hpos (by exact om317 h3 h2) (by exact om51 hpos) (by exact om50 hpos)
          rw [getD_set, getD_set, if_neg (by exact om52 hpos : ¬ pos = ((pos - 1) / 2 - 1) / 2)]
          by_cases hq : pos = i
          · rw [if_pos hq, if_pos hp]; exact hup
          · rw [if_neg hq]
            have := hA i h1 h2 (fun e => hq e.symm) (by exact om161 hpos h3)
            rw [h3] at this
            exact ile_trans hup this
        · intro i h1 h2 h3
          rw [List.length_set] at h2
          rw [getD_set]
          by_cases hq : pos = i
          · rw [if_pos hq, if_pos hp]; exact ile_of_lt hlt
          · rw [if_neg hq]
            have := hA i h1 h2 (fun e => hq e.symm) (by exact om193 h3 h0)
            rw [h3] at this
            exact ile_trans (ile_of_lt hlt) this
      · rw [if_neg hlt]
        refine ⟨fun i h1 h2 => ?_, List.Perm.refl _⟩
        rw [List.length_set] at h2
        rw [getD_set, getD_set]
        by_cases hq : pos = (i - 1) / 2
        · rw [if_pos hq, if_pos hp, if_neg (by exact om167 h1 hq)]; exact hB i h1 h2 hq.symm
        · rw [if_neg hq]
          by_cases hq2 : pos = i
          · rw [if_pos hq2, if_pos hp, ← hq2]; exact ile_of_nlt hlt
          · rw [if_neg hq2]; exact hA i h1 h2 (fun e => hq2 e.symm) (fun e => hq e.symm)
theorem chd_cases (d : It) (xs : List It) (pos : Nat) : (chd d xs pos = 2 * pos + 1 ∨ chd d xs pos = 2 * pos + 1 + 1) := by unfold chd; split <;> (first | exact om72 | exact om73)
theorem chd_least {d : It} {xs : List It} {pos i : Nat} (hi : i < xs.length) (h1 : 0 < i) (h2 : (i - 1) / 2 = pos) : ile (xs.getD (chd d xs pos) d) (xs.getD i d) := by
  have hcase : i = 2 * pos + 1 ∨ i = 2 * pos + 1 + 1 := by exact om164 h1 h2
  unfold chd
  by_cases hc : 2 * pos + 1 + 1 < xs.length ∧ ¬ ilt (xs.getD (2 * pos + 1) d) (xs.getD (2 * pos + 1 + 1) d)
  · rw [if_pos hc]
    rcases hcase with rfl | rfl
    · exact hc.2
    · exact ile_refl _
  · rw [if_neg hc]
    rcases hcase with rfl | rfl
    · exact ile_refl _
    · have : ilt (xs.getD (2 * pos + 1) d) (xs.getD (2 * pos + 1 + 1) d) := by
        rcases Classical.em (ilt (xs.getD (2 * pos + 1) d) (xs.getD (2 * pos + 1 + 1) d)) with h | h
        · exact h
        · exact absurd ⟨hi, h⟩ hc
      exact ile_of_lt this
theorem sup_ok (d : It) : ∀ (n : Nat) (xs : List It) (pos : Nat), xs.length - pos = n → pos < xs.length → HpBut d xs pos → Bridge d xs pos →
    (sup d xs pos).2 < (sup d xs pos).1.length ∧ (sup d xs pos).1.length = xs.length ∧ HpBut d (sup d xs pos).1 (sup d xs pos).2 ∧ Bridge d (sup d xs pos).1 (sup d xs pos).2 ∧
    (∀ i, 0 < i → i < xs.length → (i - 1) / 2 ≠ (sup d xs pos).2) ∧ ∀ v, ((sup d xs pos).1.set (sup d xs pos).2 v).Perm (xs.set pos v) := by
  intro n
  induction n using Nat.strongRecOn with
  | ind n ih =>
    intro xs pos hn hp hA hC
    unfold sup
    by_cases hc : 2 * pos + 1 < xs.length
    · rw [if_pos hc]
      have hcl := chd_lt (d := d) hc
      have hcc := chd_cases d xs pos
      have hlst := fun (i : Nat) (hi : i < xs.length) (h1 : 0 < i) (h2 : (i - 1) / 2 = pos) => chd_least (d := d) hi h1 h2
      generalize chd d xs pos = c at *
      have hcp : (c - 1) / 2 = pos := by exact om244 hcc
      have hR := ih (xs.length - c) (by exact om409 hn hcl hcc) (xs.set pos (xs.getD c d)) c (by simp) (by simpa using hcl) ?_ ?_
      · obtain ⟨r1, r2, r3, r4, r5, r6⟩ := hR
        rw [List.length_set] at r2 r5
        exact ⟨r1, r2, r3, r4, r5, fun v => (r6 v).trans (swap_perm hp hcl (by exact om292 hcc))⟩
      · intro i h1 h2 h3 h4
        rw [List.length_set] at h2
        rw [getD_set, getD_set]
        by_cases hq2 : pos = i
        · rw [if_pos hq2, if_pos hp, if_neg (by exact om169 h1 hq2 : ¬ pos = (i - 1) / 2), ← hq2]
          exact hC (by exact om168 h1 hq2) c (by exact om316 hcp h4 hq2) hcl hcp
        · rw [if_neg hq2]
          by_cases hq : pos = (i - 1) / 2
          · rw [if_pos hq, if_pos hp]; exact hlst i h2 h1 hq.symm
          · rw [if_neg hq]; exact hA i h1 h2 (fun e => hq2 e.symm) (fun e => hq e.symm)
      · intro _ i h1 h2 h3
        rw [List.length_set] at h2
        rw [getD_set, getD_set, hcp, if_pos rfl, if_pos hp, if_neg (by exact om304 h1 h3 hcp : ¬ pos = i)]
        have := hA i h1 h2 (by exact om303 h1 h3 hcp) (by exact om305 (by assumption) h3 hcp)
        rw [h3] at this
        exact this
    · rw [if_neg hc]
      exact ⟨hp, rfl, hA, hC, fun i h1 h2 h3 => by dsimp only at h3; exact om302 h1 h3 h2 hc, fun v => List.Perm.refl _⟩
theorem sftup_ok {d new : It} {its : List It} (h0 : 0 < its.length) (hA : HpBut d its 0) (hd : d = new) : HpOk d (sftup its new) ∧ (sftup its new).Perm (its.set 0 new) := by
  subst hd
  obtain ⟨r1, r2, r3, r4, r5, r6⟩ := sup_ok d _ its 0 rfl h0 hA (fun h => absurd h (Nat.lt_irrefl _))
  unfold sftup
  generalize hS : sup d its 0 = S at *
  have hlen : (S.1.set S.2 d).length = its.length := by rw [List.length_set]; exact r2
  have hR := sdn_ok d d S.2 (S.1.set S.2 d) (by rw [hlen, ← r2]; exact r1) ?_ ?_ ?_
  · obtain ⟨q1, q2⟩ := hR
    refine ⟨q1, q2.trans ?_⟩
    rw [List.set_set]
    exact r6 d
  · intro i h1 h2 h3 h4
    rw [hlen] at h2
    rw [getD_set, getD_set, if_neg (show ¬ S.2 = i from fun e => h3 e.symm), if_neg (show ¬ S.2 = (i - 1) / 2 from fun e => h4 e.symm)]
    exact r3 i h1 (by exact om348 h2 r2) h3 h4
  · intro hpos i h1 h2 h3
    rw [hlen] at h2
    exact absurd h3 (r5 i h1 h2)
  · intro i h1 h2 h3
    rw [hlen] at h2
    exact absurd h3 (r5 i h1 h2)
/-- a default plays no part -/
theorem HpOk.dflt {d d' : It} {xs : List It} (h : HpOk d xs) : HpOk d' xs := by
  intro i h1 h2
  have := h i h1 h2
  simp only [List.getD_eq_getElem?_getD, List.getElem?_eq_getElem h2, List.getElem?_eq_getElem (show (i - 1) / 2 < xs.length by exact om230 h2), Option.getD_some] at this ⊢
  exact this
/-- the first is the least -/
theorem HpOk.least {d : It} {xs : List It} (h : HpOk d xs) : ∀ i, i < xs.length → ile (xs.getD 0 d) (xs.getD i d) := by
  intro i
  induction i using Nat.strongRecOn with
  | ind i ih =>
    intro hi
    by_cases h0 : i = 0
    · subst h0; exact ile_refl _
    · exact ile_trans (ih ((i - 1) / 2) (by exact om151 h0) (by exact om230 hi)) (h i (by exact om150 h0) hi)
theorem HpOk.first {d : It} {xs : List It} {x : It} (h : HpOk d xs) (hx : xs[0]? = some x) : ∀ y ∈ xs, ile x y := by
  intro y hy
  obtain ⟨i, hi, rfl⟩ := List.getElem_of_mem hy
  have := h.least i hi
  simp only [List.getD_eq_getElem?_getD, hx, List.getElem?_eq_getElem hi, Option.getD_some] at this
  exact this
/-- heappush -/
theorem push_ok {d new : It} {its : List It} (h : HpOk d its) : HpOk d (sdn new (its ++ [new]) its.length) ∧ (sdn new (its ++ [new]) its.length).Perm (new :: its) := by
  have hR := sdn_ok d new its.length (its ++ [new]) (by simp) ?_ ?_ ?_
  · obtain ⟨q1, q2⟩ := hR
    refine ⟨q1, q2.trans ?_⟩
    have e : (its ++ [new]).set its.length new = its ++ [new] := by rw [List.set_append]; simp
    rw [e]
    exact List.perm_append_comm
  · intro i h1 h2 h3 h4
    simp at h2
    have hi : i < its.length := by exact om225 h2 h3
    have := h i h1 hi
    simp only [List.getD_eq_getElem?_getD, List.getElem?_append_left hi, List.getElem?_append_left (show (i - 1) / 2 < its.length by exact om230 hi)] at this ⊢
    exact this
  · intro _ i h1 h2 h3
    simp at h2; exact om457 h1 h3 h2
  · intro i h1 h2 h3
    simp at h2; exact om457 h1 h3 h2
/-- heapreplace -/
theorem replace_ok {d new old : It} {its : List It} (h : HpOk d its) (ho : its[0]? = some old) : HpOk d (sftup (its.set 0 new) new) ∧ (old :: sftup (its.set 0 new) new).Perm (new :: its) := by
  cases its with
  | nil => cases ho
  | cons o r =>
    cases ho
    have hR := sftup_ok (d := new) (new := new) (its := (old :: r).set 0 new) (by simp) ?_ rfl
    · obtain ⟨q1, q2⟩ := hR
      refine ⟨q1.dflt, ?_⟩
      rw [List.set_set] at q2
      refine (q2.cons old).trans ?_
      simp
      exact List.Perm.swap _ _ _
    · intro i h1 h2 h3 h4
      simp at h2
      rw [getD_set, getD_set, if_neg (show ¬ 0 = i from fun e => h3 e.symm), if_neg (show ¬ 0 = (i - 1) / 2 from fun e => h4 e.symm)]
      exact h.dflt i h1 (by simp; exact om224 h2)
/-- heappop -/
theorem pop_ok {d old last : It} {its : List It} (h : HpOk d (its ++ [last])) (ho : its[0]? = some old) : HpOk d (sftup (its.set 0 last) last) ∧ (old :: sftup (its.set 0 last) last).Perm (its ++ [last]) := by
  have h' : HpOk d its := by
    intro i h1 h2
    have := h i h1 (by simp; exact om236 h2)
    simp only [List.getD_eq_getElem?_getD, List.getElem?_append_left h2, List.getElem?_append_left (show (i - 1) / 2 < its.length by exact om230 h2)] at this ⊢
    exact this
  obtain ⟨q1, q2⟩ := replace_ok (new := last) h' ho
  exact ⟨q1, q2.trans (List.perm_append_comm (l₁ := [last]) (l₂ := its))⟩
end

section
/-! the way back, in plain Lean -/
noncomputable def nm (k : Nat) : Int := (7 * (k : Int) + 3) % 11
theorem nm_inj {i j : Nat} (hi : i < 11) (hj : j < 11) (h : nm i = nm j) : i = j := by unfold nm at h; exact om160 h hi hj
noncomputable def key (rank : Nat → Nat) (k : Nat) : Int × Int := (-(rank k : Int), nm k)
structure Sheet (n : Nat) (A B : Nat → Nat) (P Q : Nat → Int) (rank : Nat → Nat) (G : Nat → Nat → Int) : Prop where
  ab : ∀ k, 3 ≤ k → k < n → A k < k ∧ B k < k
  rk : ∀ k, 3 ≤ k → k < n → rank (A k) < rank k ∧ rank (B k) < rank k
  len : 4 ≤ n ∧ n ≤ 11
  g1 : ∀ i, i < n → G i i = 1
  g0 : ∀ i k, k < 3 → k ≠ i → G i k = 0
  gs : ∀ i k, 3 ≤ k → k < n → k ≠ i → ∃ q, G i k = P k * G i (A k) + Q k * G i (B k) + 1009 * q
  gr : ∀ i k, 0 ≤ G i k ∧ G i k < 1009
/-- what the last thing hangs on -/
inductive Reach (n : Nat) (A B : Nat → Nat) : Nat → Prop where
  | last : Reach n A B (n - 1)
  | left {k : Nat} : Reach n A B k → 3 ≤ k → Reach n A B (A k)
  | right {k : Nat} : Reach n A B k → 3 ≤ k → Reach n A B (B k)
noncomputable def sm : Nat → (Nat → Int) → Int
  | 0, _ => 0
  | n + 1, f => sm n f + f n
theorem sm_congr {f g : Nat → Int} : ∀ {n : Nat}, (∀ k, k < n → f k = g k) → sm n f = sm n g
  | 0, _ => rfl
  | n + 1, h => by
    show sm n f + f n = sm n g + g n
    rw [sm_congr (n := n) fun k hk => h k (by exact om236 hk), h n (by exact om126)]
theorem sm_add {f : Nat → Int} {a : Nat} {c : Int} : ∀ {n : Nat}, a < n → sm n (fun k => f k + if k = a then c else 0) = sm n f + c
  | 0, h => by exact om568 h
  | n + 1, h => by
    show sm n _ + (f n + if n = a then c else 0) = sm n f + f n + c
    by_cases e : n = a
    · have : sm n (fun k => f k + if k = a then c else 0) = sm n f := sm_congr fun k hk => by rw [if_neg (by exact om352 hk e)]; exact om532
      rw [this, if_pos e]; exact om571
    · rw [sm_add (n := n) (by exact om228 h e), if_neg e]; exact om574
theorem sm_zero {f : Nat → Int} : ∀ {n : Nat}, (∀ k, k < n → f k = 0) → sm n f = 0
  | 0, _ => rfl
  | n + 1, h => by
    show sm n f + f n = 0
    rw [sm_zero (n := n) fun k hk => h k (by exact om236 hk), h n (by exact om126)]; rfl
theorem nodup_len : ∀ {n : Nat} {l : List Nat}, l.Nodup → (∀ x ∈ l, x < n) → l.length ≤ n
  | 0, [], _, _ => by simp
  | 0, x :: _, _, h => absurd (h x (.head _)) (by exact om148)
  | n + 1, l, hn, h => by
    have := nodup_len (n := n) (l := l.erase n) (hn.erase n) (fun x hx => by
      have h1 := (hn.mem_erase_iff).mp hx
      have := h x h1.2
      exact om155 this h1)
    rw [List.length_erase] at this
    split at this <;> (first | exact om218 this | exact om276 this)
section
variable {n : Nat} {A B : Nat → Nat} {P Q : Nat → Int} {rank : Nat → Nat} {G : Nat → Nat → Int}
theorem Sheet.low (s : Sheet n A B P Q rank G) (i : Nat) : ∀ k, k < n → k < i → G i k = 0 := by
  intro k
  induction k using Nat.strongRecOn with
  | ind k ih =>
    intro hn hk
    by_cases h3 : k < 3
    · exact s.g0 i k h3 (by exact om237 hk)
    · obtain ⟨q, hq⟩ := s.gs i k (by exact om149 h3) hn (by exact om237 hk)
      have hab := s.ab k (by exact om149 h3) hn
      rw [ih (A k) hab.1 (by exact om413 hab hn) (by exact om413 hab hk), ih (B k) hab.2 (by exact om425 hn hab) (by exact om425 hk hab)] at hq
      have := s.gr i k
      simp only [Int.mul_zero, Int.zero_add] at hq
      exact om545 this hq
/-- the sum that stays -/
noncomputable def Sums (n : Nat) (G : Nat → Nat → Int) (S : Nat → Int) (D : List Nat) : Prop :=
  ∀ i, i < n → ∃ q, sm n (fun k => if k ∈ D then 0 else S k * G i k) + (if i ∈ D then S i else 0) = G i (n - 1) + 1009 * q
noncomputable def S1 (A : Nat → Nat) (P : Nat → Int) (S : Nat → Int) (k : Nat) : Nat → Int := fun j => if j = A k then (S j + P k * S k) % 1009 else S j
noncomputable def S2 (A B : Nat → Nat) (P Q : Nat → Int) (S : Nat → Int) (k : Nat) : Nat → Int := fun j => if j = B k then (S1 A P S k j + Q k * S1 A P S k k) % 1009 else S1 A P S k j
theorem sums_next3 (s : Sheet n A B P Q rank G) {S : Nat → Int} {D : List Nat} {k : Nat} (h : Sums n G S D) (h3 : 3 ≤ k) (hk : k < n) (hD : k ∉ D) (hA : A k ∉ D) (hB : B k ∉ D) : Sums n G (S2 A B P Q S k) (D ++ [k]) := by
  intro i hi
  obtain ⟨q, hq⟩ := h i hi
  have hab := s.ab k h3 hk
  -- the two shares
  have d1 : ∃ q1, (S (A k) + P k * S k) % 1009 = S (A k) + (P k * S k - 1009 * q1) := ⟨(S (A k) + P k * S k) / 1009, by exact om548⟩
  obtain ⟨q1, d1⟩ := d1
  have e1 : ∀ j, S1 A P S k j = S j + if j = A k then P k * S k - 1009 * q1 else 0 := by
    intro j
    unfold S1
    by_cases e : j = A k
    · subst e; rw [if_pos rfl, if_pos rfl, d1]
    · rw [if_neg e, if_neg e]; exact om538
  have ek : S1 A P S k k = S k := by rw [e1, if_neg (by exact om369 hab)]; exact om532
  have d2 : ∃ q2, (S1 A P S k (B k) + Q k * S1 A P S k k) % 1009 = S1 A P S k (B k) + (Q k * S k - 1009 * q2) := ⟨(S1 A P S k (B k) + Q k * S1 A P S k k) / 1009, by rw [ek]; exact om548⟩
  obtain ⟨q2, d2⟩ := d2
  have e2 : ∀ j, S2 A B P Q S k j = S j + (if j = A k then P k * S k - 1009 * q1 else 0) + if j = B k then Q k * S k - 1009 * q2 else 0 := by
    intro j
    unfold S2
    by_cases e : j = B k
    · subst e; rw [if_pos rfl, if_pos rfl, d2, e1]
    · rw [if_neg e, if_neg e, e1]; exact om551
  have hsm : sm n (fun j => if j ∈ D ++ [k] then 0 else S2 A B P Q S k j * G i j) =
      sm n (fun j => if j ∈ D then 0 else S j * G i j) + (P k * S k - 1009 * q1) * G i (A k) + (Q k * S k - 1009 * q2) * G i (B k) + -(S k * G i k) := by
    rw [← sm_add (a := A k) (by exact om413 hab hk), ← sm_add (a := B k) (by exact om425 hk hab), ← sm_add (a := k) (by exact om235 hk)]
    apply sm_congr
    intro j hj
    rw [e2]
    simp only [List.mem_append, List.mem_singleton]
    by_cases hjD : j ∈ D
    · rw [if_pos (.inl hjD), if_pos hjD, if_neg (show ¬ j = A k from fun e => hA (e ▸ hjD)), if_neg (show ¬ j = B k from fun e => hB (e ▸ hjD)), if_neg (show ¬ j = k from fun e => hD (e ▸ hjD))]; rfl
    · rw [if_neg hjD]
      by_cases hjk : j = k
      · subst hjk
        rw [if_pos (.inr rfl), if_neg (by exact om369 hab), if_neg (by exact om383 hab), if_pos rfl]; exact om514
      · rw [if_neg (by rintro (h | h) <;> contradiction), if_neg hjk]
        by_cases ha : j = A k
        · by_cases hb : j = B k
          · rw [if_pos ha, if_pos hb, if_pos ha, if_pos hb, ← ha, ← hb]; grind
          · rw [if_pos ha, if_neg hb, if_pos ha, if_neg hb, ← ha]; grind
        · by_cases hb : j = B k
          · rw [if_neg ha, if_pos hb, if_neg ha, if_pos hb, ← hb]; grind
          · rw [if_neg ha, if_neg hb, if_neg ha, if_neg hb]; grind
  rw [hsm]
  by_cases hik : i = k
  · subst hik
    rw [s.g1 i hi, s.low i (A i) (by exact om413 hab hi) hab.1, s.low i (B i) (by exact om425 hi hab) hab.2, if_pos (by simp), e2, if_neg (by exact om369 hab), if_neg (by exact om383 hab)]
    rw [if_neg hD] at hq
    exact ⟨q, by rw [← hq]; exact om584⟩
  · obtain ⟨q3, hg⟩ := s.gs i k h3 hk (fun e => hik e.symm)
    have hmem : (i ∈ D ++ [k]) ↔ i ∈ D := by simp [hik]
    by_cases hiD : i ∈ D
    · rw [if_pos (hmem.mpr hiD), e2, if_neg (show ¬ i = A k from fun e => hA (e ▸ hiD)), if_neg (show ¬ i = B k from fun e => hB (e ▸ hiD))]
      rw [if_pos hiD] at hq
      refine ⟨q - (q1 * G i (A k) + q2 * G i (B k) + S k * q3), ?_⟩
      grind
    · rw [if_neg (fun e => hiD (hmem.mp e))]
      rw [if_neg hiD] at hq
      refine ⟨q - (q1 * G i (A k) + q2 * G i (B k) + S k * q3), ?_⟩
      grind
theorem sums_next0 (s : Sheet n A B P Q rank G) {S : Nat → Int} {D : List Nat} {k : Nat} (h : Sums n G S D) (h3 : k < 3) (hk : k < n) (hD : k ∉ D) : Sums n G S (D ++ [k]) := by
  intro i hi
  obtain ⟨q, hq⟩ := h i hi
  have hsm : sm n (fun j => if j ∈ D ++ [k] then 0 else S j * G i j) = sm n (fun j => if j ∈ D then 0 else S j * G i j) + -(S k * G i k) := by
    rw [← sm_add (a := k) hk]
    apply sm_congr
    intro j hj
    simp only [List.mem_append, List.mem_singleton]
    by_cases hjD : j ∈ D
    · rw [if_pos (.inl hjD), if_pos hjD, if_neg (show ¬ j = k from fun e => hD (e ▸ hjD))]; rfl
    · rw [if_neg hjD]
      by_cases hjk : j = k
      · subst hjk; rw [if_pos (.inr rfl), if_pos rfl]; exact om515
      · rw [if_neg (by rintro (h | h) <;> contradiction), if_neg hjk]; exact om538
  rw [hsm]
  by_cases hik : i = k
  · subst hik
    rw [s.g1 i hi, if_pos (by simp)]
    rw [if_neg hD] at hq
    exact ⟨q, by rw [← hq]; exact om550⟩
  · have hmem : (i ∈ D ++ [k]) ↔ i ∈ D := by simp [hik]
    rw [s.g0 i k h3 (fun e => hik e.symm)]
    refine ⟨q, ?_⟩
    rw [← hq]
    by_cases hiD : i ∈ D
    · rw [if_pos (hmem.mpr hiD), if_pos hiD]; exact om572
    · rw [if_neg (fun e => hiD (hmem.mp e)), if_neg hiD]; exact om549
abbrev klt (rank : Nat → Nat) (i j : Nat) : Prop := plt (key rank i) (key rank j)
theorem klt_trans {i j k : Nat} (h1 : klt rank i j) (h2 : klt rank j k) : klt rank i k := by unfold klt plt at *; exact om585 h1 h2
theorem klt_rank {i j : Nat} (h : rank j < rank i) : klt rank i j := by left; show -(rank i : Int) < -(rank j : Int); exact om286 h
theorem klt_le {i j : Nat} (h : klt rank i j) : rank j ≤ rank i := by
  rcases h with h | h
  · have : -(rank i : Int) < -(rank j : Int) := h
    exact om203 this
  · have : -(rank i : Int) = -(rank j : Int) := h.1
    exact om204 this
theorem klt_irrefl {i : Nat} : ¬ klt rank i i := by unfold klt plt; exact om567
structure BInv (n : Nat) (A B : Nat → Nat) (rank : Nat → Nat) (G : Nat → Nat → Int) (S : Nat → Int) (D W : List Nat) : Prop where
  nodup : (D ++ W).Nodup
  lt : ∀ k ∈ D ++ W, k < n
  sorted : D.Pairwise (klt rank)
  below : ∀ d ∈ D, ∀ p ∈ W, klt rank d p
  last : n - 1 ∈ D ++ W
  closed : ∀ d ∈ D, 3 ≤ d → A d ∈ D ++ W ∧ B d ∈ D ++ W
  reach : ∀ k ∈ D ++ W, Reach n A B k
  zero : ∀ k, k ∉ D ++ W → S k = 0
  rng : ∀ k, 0 ≤ S k ∧ S k < 1009
  sums : Sums n G S D
/-- what comes fresh into the heap -/
noncomputable def fresh (A B : Nat → Nat) (M : List Nat) (k : Nat) : List Nat := if 3 ≤ k then (if A k ∈ M then [] else [A k]) ++ (if B k ∈ M ∨ B k = A k then [] else [B k]) else []
noncomputable def Snext (A B : Nat → Nat) (P Q : Nat → Int) (S : Nat → Int) (k : Nat) : Nat → Int := if 3 ≤ k then S2 A B P Q S k else S
theorem mem_fresh {M : List Nat} {k x : Nat} (hM : x ∈ fresh A B M k) : 3 ≤ k ∧ x ∉ M ∧ (x = A k ∨ x = B k) := by
  unfold fresh at hM
  by_cases h3 : 3 ≤ k
  · rw [if_pos h3] at hM
    rcases List.mem_append.mp hM with h | h
    · split at h
      · cases h
      · rename_i hn
        rw [List.mem_singleton] at h; subst h; exact ⟨h3, hn, .inl rfl⟩
    · split at h
      · cases h
      · rename_i hn
        rw [List.mem_singleton] at h; subst h; exact ⟨h3, fun e => hn (.inl e), .inr rfl⟩
  · rw [if_neg h3] at hM; cases hM
theorem fresh_nodup {M : List Nat} {k : Nat} : (fresh A B M k).Nodup := by
  unfold fresh
  split
  · split <;> split <;> simp_all
    rename_i h
    exact fun e => h.2 e.symm
  · exact List.nodup_nil
theorem fresh_in {M : List Nat} {k : Nat} (h3 : 3 ≤ k) : (A k ∈ M ∨ A k ∈ fresh A B M k) ∧ (B k ∈ M ∨ B k ∈ fresh A B M k) := by
  unfold fresh
  rw [if_pos h3]
  constructor
  · by_cases h : A k ∈ M
    · exact .inl h
    · right; simp [h]
  · by_cases h : B k ∈ M
    · exact .inl h
    · by_cases e : B k = A k
      · right
        have : A k ∉ M := e ▸ h
        simp [this, e]
      · right; simp [h, e]
theorem BInv.next (s : Sheet n A B P Q rank G) {S : Nat → Int} {D W M W' : List Nat} {k : Nat} (v : BInv n A B rank G S D W) (hk : k ∈ W) (hmin : ∀ p ∈ W, p ≠ k → klt rank k p)
    (hM : ∀ x, x ∈ M ↔ x ∈ D ++ W) (hW' : (k :: W').Perm (fresh A B M k ++ W)) : BInv n A B rank G (Snext A B P Q S k) (D ++ [k]) W' := by
  have hkn : k < n := v.lt k (List.mem_append_right _ hk)
  have hkD : k ∉ D := by
    intro h
    have := List.nodup_append.mp v.nodup
    exact this.2.2 k h k hk rfl
  have fr : ∀ x ∈ fresh A B M k, x ∉ D ++ W ∧ 3 ≤ k ∧ x < n ∧ klt rank k x ∧ Reach n A B x := by
    intro x hx
    obtain ⟨h3, h1, h2⟩ := mem_fresh hx
    have hab := s.ab k h3 hkn
    have hrk := s.rk k h3 hkn
    refine ⟨fun h => h1 ((hM x).mpr h), h3, ?_, ?_, ?_⟩
    · rcases h2 with rfl | rfl <;> (first | exact om413 hab hkn | exact om425 hkn hab)
    · rcases h2 with rfl | rfl
      · exact klt_rank hrk.1
      · exact klt_rank hrk.2
    · have := v.reach k (List.mem_append_right _ hk)
      rcases h2 with rfl | rfl
      · exact .left this h3
      · exact .right this h3
  have hall : ∀ x, x ∈ (D ++ [k]) ++ W' ↔ x ∈ D ++ W ∨ x ∈ fresh A B M k := by
    intro x
    have : x ∈ k :: W' ↔ x ∈ fresh A B M k ++ W := hW'.mem_iff
    simp only [List.mem_append, List.mem_cons, List.not_mem_nil, or_false] at this ⊢
    constructor
    · rintro ((h | h) | h)
      · exact .inl (.inl h)
      · rcases this.mp (.inl h) with h | h
        · exact .inr h
        · exact .inl (.inr h)
      · rcases this.mp (.inr h) with h | h
        · exact .inr h
        · exact .inl (.inr h)
    · rintro ((h | h) | h)
      · exact .inl (.inl h)
      · rcases this.mpr (.inr h) with h | h
        · exact .inl (.inr h)
        · exact .inr h
      · rcases this.mpr (.inl h) with h | h
        · exact .inl (.inr h)
        · exact .inr h
  have hAD : 3 ≤ k → A k ∉ D ∧ B k ∉ D := by
    intro h3
    have hrk := s.rk k h3 hkn
    refine ⟨fun h => ?_, fun h => ?_⟩
    · have := klt_le (v.below _ h k hk); exact om342 hrk this
    · have := klt_le (v.below _ h k hk); exact om343 hrk this
  have hnd : ((D ++ [k]) ++ W').Nodup := by
    have e : ((D ++ [k]) ++ W').Perm (fresh A B M k ++ (D ++ W)) := by
      rw [List.append_assoc]
      refine (List.Perm.append_left D (show ([k] ++ W').Perm (fresh A B M k ++ W) from hW')).trans ?_
      rw [← List.append_assoc, ← List.append_assoc]
      exact List.Perm.append_right W List.perm_append_comm
    rw [e.nodup_iff, List.nodup_append]
    exact ⟨fresh_nodup, v.nodup, fun x hx y hy e => (fr x hx).1 (e ▸ hy)⟩
  have hW'm : ∀ x ∈ W', x ≠ k ∧ (x ∈ fresh A B M k ∨ x ∈ W) := by
    intro x hx
    refine ⟨?_, ?_⟩
    · rintro rfl
      have := (List.nodup_append.mp hnd).2.2 x (by simp) x hx
      exact this rfl
    · have := (hW'.mem_iff (a := x)).mp (.tail _ hx)
      exact List.mem_append.mp this
  refine ⟨hnd, fun x hx => ?_, ?_, fun d hd p hp => ?_, (hall _).mpr (.inl v.last), fun d hd h3 => ?_, fun x hx => ?_, fun x hx => ?_, fun x => ?_, ?_⟩
  · rcases (hall x).mp hx with h | h
    · exact v.lt x h
    · exact (fr x h).2.2.1
  · rw [List.pairwise_append]
    refine ⟨v.sorted, by simp, fun d hd x hx => ?_⟩
    rw [List.mem_singleton] at hx; subst hx
    exact v.below d hd x hk
  · obtain ⟨h1, h2⟩ := hW'm p hp
    have hkp : klt rank k p := by
      rcases h2 with h | h
      · exact (fr p h).2.2.2.1
      · exact hmin p h h1
    rcases List.mem_append.mp hd with h | h
    · exact klt_trans (v.below d h k hk) hkp
    · rw [List.mem_singleton] at h; subst h; exact hkp
  · rcases List.mem_append.mp hd with h | h
    · have := v.closed d h h3
      exact ⟨(hall _).mpr (.inl this.1), (hall _).mpr (.inl this.2)⟩
    · rw [List.mem_singleton] at h; subst h
      have := fresh_in (A := A) (B := B) (M := M) h3
      exact ⟨(hall _).mpr (this.1.imp (hM _).mp id), (hall _).mpr (this.2.imp (hM _).mp id)⟩
  · rcases (hall x).mp hx with h | h
    · exact v.reach x h
    · exact (fr x h).2.2.2.2
  · have hx1 : x ∉ D ++ W := fun h => hx ((hall x).mpr (.inl h))
    unfold Snext
    by_cases h3 : 3 ≤ k
    · rw [if_pos h3]
      have := fresh_in (A := A) (B := B) (M := M) h3
      have ha : x ≠ A k := by rintro rfl; exact hx ((hall _).mpr (this.1.imp (hM _).mp id))
      have hb : x ≠ B k := by rintro rfl; exact hx ((hall _).mpr (this.2.imp (hM _).mp id))
      unfold S2 S1
      rw [if_neg hb, if_neg ha]; exact v.zero x hx1
    · rw [if_neg h3]; exact v.zero x hx1
  · unfold Snext
    split
    · unfold S2 S1
      have := v.rng x
      split
      · exact om543
      · split
        · exact om543
        · exact this
    · exact v.rng x
  · unfold Snext
    by_cases h3 : 3 ≤ k
    · rw [if_pos h3]; exact sums_next3 s v.sums h3 hkn hkD (hAD h3).1 (hAD h3).2
    · rw [if_neg h3]; exact sums_next0 s v.sums (by exact om144 h3) hkn hkD
theorem BInv.start (s : Sheet n A B P Q rank G) : BInv n A B rank G (fun k => if k = n - 1 then 1 else 0) [] [n - 1] := by
  have hl := s.len
  refine ⟨by simp, fun k hk => ?_, .nil, fun d hd => by (cases hd), by simp, fun d hd => by (cases hd), fun k hk => ?_, fun k hk => ?_, fun k => ?_, fun i hi => ⟨0, ?_⟩⟩
  · simp at hk; exact om186 hl hk
  · simp at hk; subst hk; exact .last
  · simp at hk; simp [hk]
  · split <;> (first | exact om10 | exact om9)
  · have : sm n (fun k => if k ∈ ([] : List Nat) then 0 else (if k = n - 1 then 1 else 0) * G i k) = sm n (fun k => (fun _ => (0 : Int)) k + if k = n - 1 then G i (n - 1) else 0) := by
      apply sm_congr
      intro k hk
      by_cases e : k = n - 1
      · subst e; simp
      · simp [e]
    rw [this, sm_add (by exact om96 hl), sm_zero (fun _ _ => rfl)]
    simp
theorem BInv.fin (s : Sheet n A B P Q rank G) {S : Nat → Int} {D : List Nat} (v : BInv n A B rank G S D []) : (∀ i, i < n → S i = G i (n - 1)) ∧ ∀ k, k ∈ D ↔ Reach n A B k := by
  have h0 : D ++ [] = D := List.append_nil D
  refine ⟨fun i hi => ?_, fun k => ⟨fun h => v.reach k (by rw [h0]; exact h), fun h => ?_⟩⟩
  · obtain ⟨q, hq⟩ := v.sums i hi
    rw [sm_zero (fun k hk => by
      split
      · rfl
      · rename_i h
        rw [v.zero k (by rw [h0]; exact h)]; simp)] at hq
    have h1 := v.rng i
    have h2 := s.gr i (n - 1)
    by_cases hD : i ∈ D
    · rw [if_pos hD] at hq; exact om570 hq h1 h2
    · rw [if_neg hD] at hq
      have := v.zero i (by rw [h0]; exact hD)
      exact om569 hq h2 this
  · induction h with
    | last => have := v.last; rw [h0] at this; exact this
    | left _ h3 ih => have := (v.closed _ ih h3).1; rw [h0] at this; exact this
    | right _ h3 ih => have := (v.closed _ ih h3).2; rw [h0] at this; exact this
/-- there is room while the heap is not empty -/
theorem BInv.room (s : Sheet n A B P Q rank G) {S : Nat → Int} {D W : List Nat} (v : BInv n A B rank G S D W) : D.length + W.length ≤ n := by
  have := nodup_len v.nodup v.lt
  rw [List.length_append] at this; exact this
end
theorem perm_map_exists {α β : Type} {f : α → β} : ∀ {m : List α} {l : List β}, l.Perm (m.map f) → ∃ m' : List α, l = m'.map f ∧ m'.Perm m := by
  intro m l h
  generalize hx : m.map f = x at h
  induction h generalizing m with
  | nil => exact ⟨[], rfl, by cases m with | nil => exact .nil | cons _ _ => cases hx⟩
  | cons a _ ih =>
    cases m with
    | nil => cases hx
    | cons b r =>
      simp only [List.map_cons, List.cons.injEq] at hx
      obtain ⟨m', h1, h2⟩ := ih hx.2
      exact ⟨b :: m', by rw [List.map_cons, h1, hx.1], h2.cons b⟩
  | swap a b l =>
    match m, hx with
    | c :: e :: r, hx =>
      simp only [List.map_cons, List.cons.injEq] at hx
      exact ⟨e :: c :: r, by simp [hx], List.Perm.swap _ _ _⟩
  | trans _ _ ih1 ih2 =>
    obtain ⟨m', h1, h2⟩ := ih2 hx
    obtain ⟨m'', h3, h4⟩ := ih1 h1.symm
    exact ⟨m'', h3, h4.trans h2⟩
end

section
set_option maxRecDepth 100000
/-- a list of pairs -/
noncomputable def PlAt (H : HP) (x : Addr) (its : List It) : Prop := LsAt H x (its.map irf) ∧ ∀ i ∈ its, PrAt H i.1 i.2
noncomputable def pdP (p : Int × Int) : PyData := .tuple [.int p.1, .int p.2]
theorem pd_can : ∀ ps : List (Int × Int), PyData.canLayAll0 (ps.map pdP) = true
  | [] => rfl
  | _ :: r => by simp [PyData.canLayAll0, pdP, PyData.canLay0, pd_can r]
theorem pd_depth : ∀ ps : List (Int × Int), PyData.depthAll (ps.map pdP) ≤ 2
  | [] => by simp [PyData.depthAll]
  | _ :: r => by
    have := pd_depth r
    simp only [List.map_cons, PyData.depthAll, pdP, PyData.depth]
    exact om135 this
theorem pd_shaped (ps : List (Int × Int)) : SeqAt.shaped (.list (ps.map pdP)) = true := by
  have h1 := pd_depth ps
  have h2 : PyData.depth (.list (ps.map pdP)) ≤ 64 := by simp only [PyData.depth]; exact om136 h1
  show (PyData.canLay0 (.list (ps.map pdP)) && decide (PyData.depth (.list (ps.map pdP)) ≤ 64)) = true
  rw [Bool.and_eq_true]
  exact ⟨by simp only [PyData.canLay0]; exact pd_can ps, decide_eq_true h2⟩
theorem pd_eqv : ∀ ps qs : List (Int × Int), PyData.eqvAll (ps.map pdP) (qs.map pdP) = decide (ps = qs)
  | [], [] => by simp [PyData.eqvAll]
  | [], _ :: _ => by simp [PyData.eqvAll]
  | _ :: _, [] => by simp [PyData.eqvAll]
  | p :: r, q :: t => by
    simp only [List.map_cons, PyData.eqvAll, pdP, PyData.eqv, pd_eqv r t]
    obtain ⟨p1, p2⟩ := p
    obtain ⟨q1, q2⟩ := q
    rw [Bool.eq_iff_iff]
    simp
section
variable {prog : Program} {w : World} {M : Model} {A : Around} {E : Value → Shared → Prop} {K : Frag} {mg mb : Str → Option Value}
  {b s : Shared} {ps : List Prot} {H H' : HP} {L x y z : Addr} {l : List (Str × Value)} {env : Env} {Q : Value → Shared → Prop} {vs ws : List Value} {ms ns : List Int} {k : Int} {t : Tok} {its jts : List It}
theorem pl_readsAll (a : At b ps L H l s) : ∀ its : List It, (∀ i ∈ its, PrAt H i.1 i.2) → ReadsAll s.heap (its.map irf) (its.map fun i => pdP i.2) []
  | [], _ => .nil
  | i :: r, h => by
    obtain ⟨t, u, n, e⟩ := h i (.head _)
    exact .cons (reads_tuple_at (a.get e) rfl rfl (.cons (.int _ _) (.cons (.int _ _) .nil))) (pl_readsAll a r fun j hj => h j (.tail _ hj))
theorem PlAt.reads (a : At b ps L H l s) (h : PlAt H x its) : Reads s.heap (.ref x) (.list ((its.map (·.2)).map pdP)) [x] := by
  obtain ⟨⟨n, e⟩, hp⟩ := h
  have := pl_readsAll a its hp
  rw [show (its.map fun i => pdP i.2) = (its.map (·.2)).map pdP from by simp] at this
  exact reads_list_at (a.get e) rfl rfl this
theorem cmp_eqP (a : At b ps L H l s) (hu : A.units + 64 < cLine) (hx : PlAt H x its) (hy : PlAt H y jts) (h : Q (.bool (decide (its.map (·.2) = jts.map (·.2)))) s) : wpAny (model prog w) A (compareOp .Eq (.ref x) (.ref y)) Q E s :=
  eq_dataH (hx.reads a) (hy.reads a) (pd_shaped _) (pd_shaped _) hu (by rw [show PyData.eqv (.list ((its.map (·.2)).map pdP)) (.list ((jts.map (·.2)).map pdP)) = _ from by simp only [PyData.eqv]; exact pd_eqv _ _]; exact h)
theorem cmp_neP (a : At b ps L H l s) (hu : A.units + 64 < cLine) (hx : PlAt H x its) (hy : PlAt H y jts) (h : Q (.bool (!decide (its.map (·.2) = jts.map (·.2)))) s) : wpAny (model prog w) A (compareOp .NotEq (.ref x) (.ref y)) Q E s :=
  ne_dataH (hx.reads a) (hy.reads a) (pd_shaped _) (pd_shaped _) hu (by rw [show PyData.eqv (.list ((its.map (·.2)).map pdP)) (.list ((jts.map (·.2)).map pdP)) = _ from by simp only [PyData.eqv]; exact pd_eqv _ _]; exact h)
theorem PrAt.ne_ls {p : Int × Int} (h : PrAt H x p) (h' : LsAt H z vs) : x ≠ z := let ⟨_, _, e⟩ := h; tp_ne_ls e h'
theorem PrAt.mono {p : Int × Int} (h : PrAt H x p) (m : ∀ o, H x = some o → H' x = some o) : PrAt H' x p := let ⟨t, u, n, e⟩ := h; ⟨t, u, n, m _ e⟩
theorem PlAt.fresh {o : Obj} (h : PlAt H x its) (hn : H z = none) : PlAt (upd H z o) x its := ⟨h.1.fresh hn, fun i hi => (h.2 i hi).fresh hn⟩
theorem PlAt.upd {o : Obj} (h : PlAt H x its) (hn : x ≠ z) (hz : LsAt H z vs) : PlAt (Mine.upd H z o) x its := ⟨h.1.upd hn, fun i hi => (h.2 i hi).upd ((h.2 i hi).ne_ls hz)⟩
theorem PlAt.mono (h : PlAt H x its) (m : ∀ a o, H a = some o → H' a = some o) : PlAt H' x its := ⟨let ⟨n, e⟩ := h.1; ⟨n, m _ _ e⟩, fun i hi => (h.2 i hi).mono fun o e => m _ o e⟩
theorem PlAt.set {n : Nat} (h : PlAt H x its) (hj : ∀ i ∈ jts, PrAt H i.1 i.2) : PlAt (Mine.upd H x (lsO (jts.map irf) n)) x jts :=
  ⟨LsAt.self, fun i hi => (hj i hi).upd ((hj i hi).ne_ls h.1)⟩
/-- x[1:] of a tuple -/
theorem slice_tuple1 {value slice : Expr} {vs : List Value} {u : Tok} (a : At b ps L H l s) (ht : TpAt H x vs) (hlen : 1 ≤ vs.length ∧ vs.length < 1000)
    (h : ∀ s' D, H D = none → At b ps L (Mine.upd H D (tpO (vs.drop 1) 0)) l s' → Q (.ref D) s')
    (hs : ∀ z, ∃ ops, subscripted slice false (.ref x) (.ref z) = operate ops (getItem (.ref x) (.ref z)) := by intro _; exact ⟨_, by with_unfolding_all rfl⟩) :
    wpAny (model prog w) A (subscriptTail value slice (.ref x) (.ref s.heap.objs.size)) Q E { s with heap := s.heap.push { cls := .type "slice", data := .fields #[.int 1 u, .none, .none] } } := by
  have hsl := a.fresh (get_size s.heap)
  have a1 := a.push { cls := .type "slice", data := .fields #[.int 1 u, .none, .none] } rfl s.toks
  obtain ⟨ops, hs'⟩ := hs s.heap.objs.size
  have ht1 := (ht.fresh (o := { cls := .type "slice", data := .fields #[.int 1 u, .none, .none] }) hsl).isTup a1
  refine tail_any (s := { s with heap := s.heap.push { cls := .type "slice", data := .fields #[.int 1 u, .none, .none] } }) ht1.typeIs slot_tuple_getitem.lookup ?_ hs'
  refine getItem_tuple_from (a := 1) ht1 (Heap.IsSliceOf.new ..) (Nat.le_refl _) (by simp; exact om69 hlen) ?_ (by simp only [List.size_toArray]; show vs.length ≤ 2 ^ 24; exact om70 hlen)
  have hy := a1.fresh (get_size _)
  have a2 := a1.push (tpO (vs.drop 1) 0) rfl s.toks
  have hyn : H (s.heap.push { cls := .type "slice", data := .fields #[.int 1 u, .none, .none] }).objs.size = none := by
    cases e : H (s.heap.push { cls := .type "slice", data := .fields #[.int 1 u, .none, .none] }).objs.size with
    | none => rfl
    | some o => rw [upd_of e hsl] at hy; cases hy
  refine h _ _ hyn (a2.weak fun c o e => ?_)
  by_cases hc : c = (s.heap.push { cls := .type "slice", data := .fields #[.int 1 u, .none, .none] }).objs.size
  · subst hc; rw [upd_self] at e ⊢; exact e
  · rw [upd_ne hc] at e ⊢; exact upd_of e hsl
/-- x.name(*e) for a method of x's class -/
theorem ev_star_meth {C f : Addr} {name : Str} {o e : Expr} {apos pos p : Pos} (Cx : Ctx K b mg mb) (hg : plainGet K C name = true) (hh : hasDictIn K C = true) (ha : findIn K (.ref C) name = some (some (.ref f))) (hf : isFn K (.ref f) = true)
    (hgf : specialIn K (.ref f) "__get__" = some (some (.builtin "function.__get__"))) (ht : takesIn K (.ref f) = some false) (hc : copiedNames.contains name = false) (hfn : fnIn K f = true)
    (h : wpAny (model prog w) A (eval o env) (fun ov s₁ => ∃ ps L H l x dx sl es n, ov = .ref x ∧ InsAt H x C dx sl es n ∧ getL name es = some none ∧ At b ps L H l s₁ ∧ ∀ q s₂, H q = none → At b ps L (Mine.upd H q (methodObj (.ref f) (.ref x))) l s₂ →
      wpAny (model prog w) A (eval e env) (fun v s₃ => ∃ y vs, v = .ref y ∧ TpAt (Mine.upd H q (methodObj (.ref f) (.ref x))) y vs ∧ vs.length < 10000 ∧ At b ps L (Mine.upd H q (methodObj (.ref f) (.ref x))) l s₃ ∧
        ∀ s₄, At b ps L (Mine.upd H q (methodObj (.ref f) (.ref x))) l s₄ → codeAny (model prog w) A (.call (.ref f) ⟨.ref x :: vs, []⟩) (fun r s' => match r with | .ok (.ret v) => Q v s' | .ok _ => False | .error e => E e s') s₄) E s₂) E s)
    (he : eval (.Call (.Attribute o name apos) [.Starred e p] [] pos) env = (do
      let ov ← eval o env
      standAt apos.atName
      let (f, first) ← holding [ov] (do pure (← getAttr ov name true, []))
      callWith pos f first (backTo pos (starEach [.Starred e p] env)) []) := by rfl)
    (hst : starEach [.Starred e p] env = [(true, eval e env)] := by rfl) :
    wpAny (model prog w) A (eval (.Call (.Attribute o name apos) [.Starred e p] [] pos) env) Q E s := by
  rw [he]
  refine wpAny_bind (wpAny_mono h (fun ov s₁ h₁ => wpAny_bind (wpAny_standAt (wpAny_bind (wpAny_holding ?_)))) fun _ _ x => x)
  obtain ⟨ps, L, H, l, x, dx, sl, es, n, rfl, hI, hl, a, h₁⟩ := h₁
  obtain ⟨m, news, F, N, mem, back, _⟩ := a.ledN
  have X := Cx.K.keeps a.hp.keep
  refine wpAny_bind (get_bind X (hI.inst a) (plainGet_of hg).1 (findObj_fn hh ha hgf ht hc (by show lookIn name (W.dictOf es n) = _; rw [lookIn_dict, hl])) (plainGet_of hg).2
    (wpAny_call (fn_get (s := { s₁ with toks := s₁.toks + 1 }) X (beq_iff_eq.mp hf) (handed_on rfl ?_))))
  refine wpAny_pure ?_
  dsimp only
  have a2 := (a.toks (s₁.toks + 1)).push (methodObj (.ref f) (.ref x)) rfl (s₁.toks + 1)
  have hq := a.fresh (get_size s₁.heap)
  have := h₁ _ _ hq a2
  rw [hst]
  refine ks_call (P := MethP K s₁.heap.objs.size f (.ref x)) rfl (keeps_M hfn) (ks_lone ?_)
  refine wpAny_mono this (fun v s₃ h₃ => ?_) fun _ _ x => x
  obtain ⟨y, vs, rfl, ⟨nn, hy⟩, hlen, a3, h₃⟩ := h₃
  obtain ⟨m', news', F', N', mem', _, back'⟩ := a3.ledN
  refine star_seq F' N' (mem' _ _ (a3.neL hy) (a3.get hy)) rfl rfl (.inr rfl) rfl (by simp only [List.size_toArray]; show vs.length ≤ 2 ^ 24; exact om111 hlen) fun h' F'' N'' => ?_
  have a4 := back' h' s₃.toks F'' N''
  refine ⟨⟨a4.get upd_self, Cx.K.keeps a4.hp.keep⟩, ?_⟩
  refine wpAny_call (method_call (a4.get upd_self) ?_)
  have := h₃ _ a4
  simp only [List.nil_append]
  exact this
end
end

section
set_option maxRecDepth 100000
/-! zip over two tuples -/
section
variable {prog : Program} {w : World} {A : Around} {E : Value → Shared → Prop} {s : Shared}
theorem zt_next {it t : Addr} {i : Nat} {items : Array Value} {x : Value} {Q : Value → Shared → Prop} (hit : s.heap.IsTupleIter it t i) (ht : s.heap.IsTuple t items) (hx : items[i]? = some x)
    (hQ : ∀ h', h'.IsTupleIter it t (i + 1) → Heap.SameBut it s.heap h' → Q x { s with heap := h' }) : wpAny (model prog w) A (Builtin.SmallTypes.nextOf (.ref it)) Q E s := by
  obtain ⟨o, ho, hc, hd⟩ := id hit
  obtain ⟨ol, hol, _, nl, hdl⟩ := ht
  unfold Builtin.SmallTypes.nextOf
  refine wpAny_bind (wpAny_callSpecial?_slot (name := Str.ofString "__next__") hit.typeIs PySem.F.slot_tuple_iterator_next
    (wpAny_call_entry PySem.F.slot_tuple_iterator_next hit.typeIs PySem.F.entry_tuple_iterator_next ?_ (PySem.F.args_tuple_iterator_next_1 _)))
  show wpAny _ _ (field (.ref it) 0 >>= _) _ _ s
  refine wpAny_bind (wpAny_field ho hd (x := .ref t) rfl ?_)
  show wpAny _ _ (if (Value.ref t == Value.none) = true then _ else _) _ _ s
  rw [if_neg (show ¬ ((Value.ref t == Value.none) = true) from Bool.false_ne_true)]
  show wpAny _ _ (field (.ref it) 1 >>= _) _ _ s
  refine wpAny_bind (wpAny_field ho hd (x := .int i 0) rfl ?_)
  show wpAny _ _ (seqItems? (.ref t) >>= _) _ _ s
  refine wpAny_bind (wpAny_seqItems hol hdl ?_)
  simp only [Int.toNat_natCast, hx]
  refine wpAny_bind (wpAny_setField ho hd (by simp) (wpAny_pure ⟨x, rfl, wpAny_pure (hQ _ ?_ (Heap.SameBut.update ..))⟩))
  exact ⟨_, Heap.get?_update_self _ ho (Obj.isFreed_of_fields (Obj.data_mapFields hd _)), (Obj.cls_mapFields ..).trans hc, by rw [Obj.data_mapFields hd]; simp [rawInt]⟩
theorem zt_end {it t : Addr} {i : Nat} {items : Array Value} {Q : Value → Shared → Prop} (hh : A.handled = none) (hit : s.heap.IsTupleIter it t i) (ht : s.heap.IsTuple t items) (hx : items[i]? = none)
    (hE : ∀ h' e, Heap.ExtBut it s.heap h' → (∃ o, h'.get? e = some o ∧ o.cls = .type "StopIteration") → E (.ref e) { s with heap := h' }) : wpAny (model prog w) A (Builtin.SmallTypes.nextOf (.ref it)) Q E s := by
  obtain ⟨o, ho, hc, hd⟩ := id hit
  obtain ⟨ol, hol, _, nl, hdl⟩ := ht
  unfold Builtin.SmallTypes.nextOf
  refine wpAny_bind (wpAny_callSpecial?_slot (name := Str.ofString "__next__") hit.typeIs PySem.F.slot_tuple_iterator_next
    (wpAny_call_entry PySem.F.slot_tuple_iterator_next hit.typeIs PySem.F.entry_tuple_iterator_next ?_ (PySem.F.args_tuple_iterator_next_1 _)))
  show wpAny _ _ (field (.ref it) 0 >>= _) _ _ s
  refine wpAny_bind (wpAny_field ho hd (x := .ref t) rfl ?_)
  show wpAny _ _ (if (Value.ref t == Value.none) = true then _ else _) _ _ s
  rw [if_neg (show ¬ ((Value.ref t == Value.none) = true) from Bool.false_ne_true)]
  show wpAny _ _ (field (.ref it) 1 >>= _) _ _ s
  refine wpAny_bind (wpAny_field ho hd (x := .int i 0) rfl ?_)
  show wpAny _ _ (seqItems? (.ref t) >>= _) _ _ s
  refine wpAny_bind (wpAny_seqItems hol hdl ?_)
  simp only [Int.toNat_natCast, hx]
  refine wpAny_bind (wpAny_rule (wpAny_bind (wpAny_setField ho hd (by simp) ?_)))
  show wpAny _ _ (newExc (.type "StopIteration") [] >>= _) _ _ _
  refine wpAny_bind ?_
  simp only [newExc, newTuple]
  refine wpAny_bind (wpAny_newObj_type ?_ (by size_fits))
  refine wpAny_bind (m := firstArgMember _ _) (wpAny_of_eq (a := Value.none) (by first | rfl | (simp only [firstArgMember]; rfl)) ?_)
  refine wpAny_newObj_type ?_ (by size_fits)
  simp only [raiseNew]
  refine wpAny_bind (wpAny_handled ?_)
  first | rw [show A.in1.handled = none from hh] | rw [hh]
  refine wpAny_bind (wpAny_pure (wpAny_throw ?_))
  exact hE _ _ (((Heap.SameBut.update ..).extBut.push _).push _) ⟨_, Heap.get?_push_size _ rfl, rfl⟩
/-- the zip's five objects -/
structure ZIs (h : Heap) (z x y : Addr) (k : Nat) (xs ys : Array Value) : Prop where
  zip : IsZip h (z + 4) (z + 2) (z + 3) .none
  ti : IsPair h (z + 2) (.ref z) (.ref (z + 1))
  to : ∃ a b, IsPair h (z + 3) a b
  i1 : h.IsTupleIter z x k
  i2 : h.IsTupleIter (z + 1) y k
  hx : h.IsTuple x xs
  hy : h.IsTuple y ys
  lt : x < z ∧ y < z
theorem zi_next {z x y : Addr} {k : Nat} {xs ys : Array Value} {u v : Value} {Q : Option Value → Shared → Prop} (Z : ZIs s.heap z x y k xs ys) (hu : xs[k]? = some u) (hv : ys[k]? = some v)
    (hQ : ∀ h', IsZip h' (z + 4) (z + 2) (z + 3) (rawInt s.heap.objs.size) → IsPair h' (z + 3) u v → h'.IsTupleIter z x (k + 1) → h'.IsTupleIter (z + 1) y (k + 1) → IsPair h' s.heap.objs.size u v → h'.objs.size = s.heap.objs.size + 1 →
      (∀ c o, c ≠ z + 4 → c ≠ z + 3 → c ≠ z → c ≠ z + 1 → s.heap.get? c = some o → h'.get? c = some o) → Q (some (.ref s.heap.objs.size)) { s with heap := h' }) : wpAny (model prog w) A (pyNext (.ref (z + 4))) Q E s := by
  obtain ⟨hz, hTI, ⟨a, b, hTO⟩, h1, h2, hl1, hl2, hx, hy⟩ := Z
  have hT : s.TypeIs (.ref (z + 4)) "zip" := ⟨_, hz, rfl⟩
  unfold pyNext
  refine wpAny_bind (wpAny_attempt (wpAny_callSpecial?_slot (name := Str.ofString "__next__") hT PySem.F.slot_zip_next (wpAny_call_entry PySem.F.slot_zip_next hT PySem.F.entry_zip_next ?_ (PySem.F.args_zip_next_1 _))))
  have n (i j : Nat) (h : i ≠ j) : z + i ≠ z + j := fun e => h (Nat.add_left_cancel e)
  show wpAny _ _ (field (.ref (z + 4)) 2 >>= _) _ _ _
  refine wpAny_bind (wpAny_field hz rfl (x := .bool false) rfl ?_)
  show wpAny _ _ (field (.ref (z + 4)) 3 >>= _) _ _ _
  refine wpAny_bind (wpAny_field hz rfl (x := .ref (z + 2)) rfl ?_)
  refine wpAny_bind (wpAny_seqItems hTI rfl ?_)
  show wpAny _ _ (Builtin.SmallTypes.ownedTupleIsFree (.ref (z + 4)) >>= _) _ _ _
  refine wpAny_bind ?_
  unfold Builtin.SmallTypes.ownedTupleIsFree
  refine wpAny_bind (wpAny_field hz rfl (x := .none) rfl (wpAny_pure ?_))
  simp only [if_true]
  refine wpAny_bind (wpAny_rule ?_)
  refine wpAny_bind (wpAny_field hz rfl (x := .ref (z + 3)) rfl ?_)
  refine wpAny_bind (wpAny_setField_rec hz (by simp) fun h₁ hz₁ hs₁ => ?_)
  replace hz₁ : IsZip h₁ (z + 4) (z + 2) (z + 3) .ellipsis := hz₁
  refine wpAny_bind ?_
  simp only [List.zipIdx_cons, List.zipIdx_nil, List.forIn_cons, List.forIn_nil]
  refine wpAny_bind (wpAny_bind (wpAny_onRaise ?_))
  show wpAny _ _ (Builtin.SmallTypes.nextOf (.ref z) >>= _) _ _ _
  refine wpAny_bind (zt_next (h1.extBut hs₁.extBut (n 0 4 (by decide))) (hl1.extBut hs₁.extBut (Nat.ne_of_lt (Nat.lt_add_right 4 hx))) hu fun h₂ h1₂ hs₂ => wpAny_pure ?_)
  have hTO₂ : IsPair h₂ (z + 3) a b := hs₂.extBut _ _ (n 3 0 (by decide)) (hs₁.extBut _ _ (n 3 4 (by decide)) hTO)
  refine wpAny_bind (wpAny_seqItems hTO₂ rfl ?_)
  refine wpAny_bind (wpAny_updateSeq_pair hTO₂ fun h₃ hTO₃ hs₃ => ?_)
  replace hTO₃ : IsPair h₃ (z + 3) u b := hTO₃
  refine wpAny_bind (wpAny_letGo (wpAny_pure ?_))
  refine wpAny_bind (wpAny_bind (wpAny_onRaise ?_))
  show wpAny _ _ (Builtin.SmallTypes.nextOf (.ref (z + 1)) >>= _) _ _ _
  refine wpAny_bind (zt_next (((h2.extBut hs₁.extBut (n 1 4 (by decide))).extBut hs₂.extBut (n 1 0 (by decide))).extBut hs₃.extBut (n 1 3 (by decide)))
    (((hl2.extBut hs₁.extBut (Nat.ne_of_lt (Nat.lt_add_right 4 hy))).extBut hs₂.extBut (Nat.ne_of_lt hy)).extBut hs₃.extBut (Nat.ne_of_lt (Nat.lt_add_right 3 hy))) hv fun h₄ h2₄ hs₄ => wpAny_pure ?_)
  have hTO₄ : IsPair h₄ (z + 3) u b := hs₄.extBut _ _ (n 3 1 (by decide)) hTO₃
  refine wpAny_bind (wpAny_seqItems hTO₄ rfl ?_)
  refine wpAny_bind (wpAny_updateSeq_pair hTO₄ fun h₅ hTO₅ hs₅ => ?_)
  replace hTO₅ : IsPair h₅ (z + 3) u v := hTO₅
  refine wpAny_bind (wpAny_letGo (wpAny_pure (wpAny_pure ?_)))
  refine wpAny_bind (wpAny_seqItems hTO₅ rfl ?_)
  refine wpAny_bind (wpAny_newTuple ?_)
  have hsz : h₅.objs.size = s.heap.objs.size := by rw [hs₅.1, hs₄.1, hs₃.1, hs₂.1, hs₁.1]
  have hz₅ : IsZip h₅ (z + 4) (z + 2) (z + 3) .ellipsis := hs₅.extBut _ _ (n 4 3 (by decide)) (hs₄.extBut _ _ (n 4 1 (by decide)) (hs₃.extBut _ _ (n 4 3 (by decide)) (hs₂.extBut _ _ (n 4 0 (by decide)) hz₁)))
  have hk₅ : ∀ c o, c ≠ z + 4 → c ≠ z + 3 → c ≠ z → c ≠ z + 1 → s.heap.get? c = some o → h₅.get? c = some o := fun c o c1 c2 c3 c4 e =>
    hs₅.extBut _ _ c2 (hs₄.extBut _ _ c4 (hs₃.extBut _ _ c2 (hs₂.extBut _ _ c3 (hs₁.extBut _ _ c1 e))))
  have h1₅ : h₅.IsTupleIter z x (k + 1) := ((h1₂.extBut hs₃.extBut (n 0 3 (by decide))).extBut hs₄.extBut (n 0 1 (by decide))).extBut hs₅.extBut (n 0 3 (by decide))
  have h2₅ : h₅.IsTupleIter (z + 1) y (k + 1) := h2₄.extBut hs₅.extBut (n 1 3 (by decide))
  have hzlt : z + 4 < h₅.objs.size := Heap.lt_size hz₅
  show wpAny _ _ (Builtin.SmallTypes.ownedTupleHandOut (.ref (z + 4)) (.ref h₅.objs.size) >>= _) _ _ _
  refine wpAny_bind ?_
  unfold Builtin.SmallTypes.ownedTupleHandOut
  have hz₆ : IsZip (h₅.push { cls := .type "tuple", data := .seq #[u, v] }) (z + 4) (z + 2) (z + 3) .ellipsis := Heap.get?_push_of_some _ hz₅
  refine wpAny_bind (wpAny_setField_rec hz₆ (by simp) fun h₇ hz₇ hs₇ => ?_)
  replace hz₇ : IsZip h₇ (z + 4) (z + 2) (z + 3) (rawInt h₅.objs.size) := hz₇
  refine wpAny_setField_rec hz₇ (by simp) fun h₈ hz₈ hs₈ => ?_
  replace hz₈ : IsZip h₈ (z + 4) (z + 2) (z + 3) (rawInt h₅.objs.size) := hz₈
  have up : ∀ c o, c ≠ z + 4 → h₅.get? c = some o → h₈.get? c = some o := fun c o c1 e => hs₈.extBut _ _ c1 (hs₇.extBut _ _ c1 (Heap.get?_push_of_some _ e))
  have hT₈ : IsPair h₈ h₅.objs.size u v := hs₈.extBut _ _ (Nat.ne_of_gt hzlt) (hs₇.extBut _ _ (Nat.ne_of_gt hzlt) (Heap.get?_push_size _ rfl))
  have hz8 : h₈.objs.size = h₅.objs.size + 1 := by rw [hs₈.1, hs₇.1, Heap.size_push]
  rw [hsz] at hz₈ hT₈ hz8
  refine wpAny_pure ⟨_, rfl, wpAny_pure ?_⟩
  rw [hsz]
  exact hQ h₈ hz₈ (up _ _ (n 3 4 (by decide)) hTO₅) (h1₅.at fun o e => up _ o (n 0 4 (by decide)) e) (h2₅.at fun o e => up _ o (n 1 4 (by decide)) e) hT₈ hz8 fun c o c1 c2 c3 c4 e => up c o c1 (hk₅ c o c1 c2 c3 c4 e)
theorem zi_end {z x y : Addr} {k : Nat} {xs ys : Array Value} {Q : Option Value → Shared → Prop} (hh : A.handled = none) (Z : ZIs s.heap z x y k xs ys) (hu : xs[k]? = none)
    (hQ : ∀ h', (∀ c o, c ≠ z + 4 → c ≠ z + 3 → c ≠ z → c ≠ z + 1 → s.heap.get? c = some o → h'.get? c = some o) → Q none { s with heap := h' }) : wpAny (model prog w) A (pyNext (.ref (z + 4))) Q E s := by
  obtain ⟨hz, hTI, ⟨a, b, hTO⟩, h1, h2, hl1, hl2, hx, hy⟩ := Z
  have hT : s.TypeIs (.ref (z + 4)) "zip" := ⟨_, hz, rfl⟩
  have n (i j : Nat) (h : i ≠ j) : z + i ≠ z + j := fun e => h (Nat.add_left_cancel e)
  unfold pyNext
  refine wpAny_bind (wpAny_attempt (wpAny_callSpecial?_slot (name := Str.ofString "__next__") hT PySem.F.slot_zip_next (wpAny_call_entry PySem.F.slot_zip_next hT PySem.F.entry_zip_next ?_ (PySem.F.args_zip_next_1 _))))
  show wpAny _ _ (field (.ref (z + 4)) 2 >>= _) _ _ _
  refine wpAny_bind (wpAny_field hz rfl (x := .bool false) rfl ?_)
  show wpAny _ _ (field (.ref (z + 4)) 3 >>= _) _ _ _
  refine wpAny_bind (wpAny_field hz rfl (x := .ref (z + 2)) rfl ?_)
  refine wpAny_bind (wpAny_seqItems hTI rfl ?_)
  show wpAny _ _ (Builtin.SmallTypes.ownedTupleIsFree (.ref (z + 4)) >>= _) _ _ _
  refine wpAny_bind ?_
  unfold Builtin.SmallTypes.ownedTupleIsFree
  refine wpAny_bind (wpAny_field hz rfl (x := .none) rfl (wpAny_pure ?_))
  simp only [if_true]
  refine wpAny_bind (wpAny_rule ?_)
  refine wpAny_bind (wpAny_field hz rfl (x := .ref (z + 3)) rfl ?_)
  refine wpAny_bind (wpAny_setField_rec hz (by simp) fun h₁ hz₁ hs₁ => ?_)
  replace hz₁ : IsZip h₁ (z + 4) (z + 2) (z + 3) .ellipsis := hz₁
  refine wpAny_bind ?_
  simp only [List.zipIdx_cons, List.zipIdx_nil, List.forIn_cons, List.forIn_nil]
  refine wpAny_bind (wpAny_bind (wpAny_onRaise ?_))
  show wpAny _ _ (Builtin.SmallTypes.nextOf (.ref z) >>= _) _ _ _
  refine wpAny_bind (zt_end hh (h1.extBut hs₁.extBut (n 0 4 (by decide))) (hl1.extBut hs₁.extBut (Nat.ne_of_lt (Nat.lt_add_right 4 hx))) hu fun h₂ e hs₂ he => ?_)
  obtain ⟨oe, hoe, hce⟩ := he
  have hz₂ : IsZip h₂ (z + 4) (z + 2) (z + 3) .ellipsis := hs₂ _ _ (n 4 0 (by decide)) hz₁
  have hez : e ≠ z + 4 := fun x => by subst x; rw [hz₂] at hoe; cases hoe; simp at hce
  refine wpAny_setField_rec hz₂ (by simp) fun h₃ _ hs₃ => ?_
  refine wpAny_bind (wpAny_isInstance (T := "StopIteration") (b := true) ⟨oe, hs₃.extBut _ _ hez hoe, hce⟩ isSubtype_stop ?_)
  exact wpAny_pure (hQ _ fun c o c1 _ c3 _ x => hs₃.extBut _ _ c1 (hs₂ _ _ c3 (hs₁.extBut _ _ c1 x)))
abbrev ziH1 (h : Heap) (l1 : Addr) : Heap := h.push { cls := .type "tuple_iterator", data := .fields #[.ref l1, .int 0 0] }
abbrev ziH2 (h : Heap) (l1 l2 : Addr) : Heap := (ziH1 h l1).push { cls := .type "tuple_iterator", data := .fields #[.ref l2, .int 0 0] }
abbrev ziH3 (h : Heap) (l1 l2 : Addr) : Heap := (ziH2 h l1 l2).push { cls := .type "tuple", data := .seq #[.ref h.objs.size, .ref (ziH1 h l1).objs.size] }
abbrev ziH4 (h : Heap) (l1 l2 : Addr) : Heap := (ziH3 h l1 l2).push { cls := .type "tuple", data := .seq #[.none, .none] }
abbrev ziH5 (h : Heap) (l1 l2 : Addr) : Heap := (ziH4 h l1 l2).push { cls := .type "zip", data := .fields #[.none, .bool false, .bool false, .ref (ziH2 h l1 l2).objs.size, .ref (ziH3 h l1 l2).objs.size] }
theorem zi_new (l1 l2 : Addr) (xs ys : Array Value) :
    Meets (Builtin.«zip.__new__» ⟨[.type "zip", .ref l1, .ref l2], []⟩) (fun _ R s => s.heap.IsTuple l1 xs ∧ s.heap.IsTuple l2 ys ∧ R (.ok (.ret (.ref (ziH4 s.heap l1 l2).objs.size))) { s with heap := ziH5 s.heap l1 l2 }) :=
  .of_wp fun prog w A R s h => by
    obtain ⟨hp, g, d, tk, os⟩ := s; obtain ⟨hl1, hl2, h⟩ := h
    have hsub := sub_zip
    have hL1 : Heap.IsTuple (Shared.heap ⟨hp, g, d, tk, os⟩) l1 xs := hl1
    have hL2 : Heap.IsTuple (Shared.heap ⟨hp.push { cls := .type "tuple_iterator", data := .fields #[.ref l1, .int 0 0] }, g, d, tk, os⟩) l2 ys := Heap.IsTuple.at hl2 fun o e => Heap.get?_push_of_some _ e
    wp_walk using wpAny_pyIter_tuple hL1, wpAny_pyIter_tuple hL2
    exact ⟨_, rfl, h⟩
theorem zi_call {l1 l2 : Addr} {xs ys : Array Value} {Q : Value → Shared → Prop} (hl1 : s.heap.IsTuple l1 xs) (hl2 : s.heap.IsTuple l2 ys)
    (h : ∀ h', ZIs h' s.heap.objs.size l1 l2 0 xs ys → h'.objs.size = s.heap.objs.size + 5 → (∀ c o, s.heap.get? c = some o → h'.get? c = some o) → Q (.ref (s.heap.objs.size + 4)) { s with heap := h' }) :
    wpAny (model prog w) A (call (.type "zip") [.ref l1, .ref l2]) Q E s := by
  have lt1 : l1 < s.heap.objs.size := let ⟨_, e, _⟩ := hl1; Heap.lt_size e
  have lt2 : l2 < s.heap.objs.size := let ⟨_, e, _⟩ := hl2; Heap.lt_size e
  refine callType_new PySem.F.called_zip (by decide) (PySem.F.typeCall_zip_2 _ _) (PySem.F.newCall_zip_2 _ _) (fun obj => PySem.F.args_object_init_3 obj _ _) PySem.F.entry_zip_new (zi_new l1 l2 xs ys) ⟨hl1, hl2, ?_⟩
  have z1 : (ziH1 s.heap l1).objs.size = s.heap.objs.size + 1 := Heap.size_push ..
  have z2 : (ziH2 s.heap l1 l2).objs.size = s.heap.objs.size + 2 := by rw [Heap.size_push, z1]
  have z3 : (ziH3 s.heap l1 l2).objs.size = s.heap.objs.size + 3 := by rw [Heap.size_push, z2]
  have z4 : (ziH4 s.heap l1 l2).objs.size = s.heap.objs.size + 4 := by rw [Heap.size_push, z3]
  have z5 : (ziH5 s.heap l1 l2).objs.size = s.heap.objs.size + 5 := by rw [Heap.size_push, z4]
  have g5 : (ziH5 s.heap l1 l2).get? (ziH4 s.heap l1 l2).objs.size = some _ := Heap.get?_push_size _ rfl
  have g4 : (ziH5 s.heap l1 l2).get? (ziH3 s.heap l1 l2).objs.size = some _ := Heap.get?_push_of_some _ (Heap.get?_push_size _ rfl)
  have g3 : (ziH5 s.heap l1 l2).get? (ziH2 s.heap l1 l2).objs.size = some _ := Heap.get?_push_of_some _ (Heap.get?_push_of_some _ (Heap.get?_push_size _ rfl))
  have g2 : (ziH5 s.heap l1 l2).get? (ziH1 s.heap l1).objs.size = some _ := Heap.get?_push_of_some _ (Heap.get?_push_of_some _ (Heap.get?_push_of_some _ (Heap.get?_push_size _ rfl)))
  have g1 : (ziH5 s.heap l1 l2).get? s.heap.objs.size = some _ := Heap.get?_push_of_some _ (Heap.get?_push_of_some _ (Heap.get?_push_of_some _ (Heap.get?_push_of_some _ (Heap.get?_push_size _ rfl))))
  have kp : ∀ c o, s.heap.get? c = some o → (ziH5 s.heap l1 l2).get? c = some o := fun c o x => Heap.get?_push_of_some _ (Heap.get?_push_of_some _ (Heap.get?_push_of_some _ (Heap.get?_push_of_some _ (Heap.get?_push_of_some _ x))))
  show _ ∧ _
  rw [z2, z3, z4] at g5
  rw [z1, z2] at g3
  rw [z3] at g4
  rw [z1] at g2
  rw [z4]
  exact ⟨⟨_, g5, rfl⟩, h _ ⟨g5, g3, ⟨_, _, g4⟩, ⟨_, g1, rfl, rfl⟩, ⟨_, g2, rfl, rfl⟩, hl1.at fun o e => kp _ o e, hl2.at fun o e => kp _ o e, lt1, lt2⟩ z5 kp⟩
end
end

section
set_option maxRecDepth 100000
noncomputable def pr (obs : List (Addr × Obj)) : List Prot := obs.map fun p => Prot.ob p.1 p.2
section
variable {prog : Program} {w : World} {A : Around} {E : Value → Shared → Prop} {b s s' : Shared} {ps : List Prot} {H : HP} {L x y : Addr} {l : List (Str × Value)} {env : Env} {obs obs' : List (Addr × Obj)}
theorem mem_pr {p : Prot} : p ∈ pr obs ↔ ∃ q ∈ obs, p = .ob q.1 q.2 := by
  unfold pr
  rw [List.mem_map]
  exact ⟨fun ⟨q, h, e⟩ => ⟨q, h, e.symm⟩, fun ⟨q, h, e⟩ => ⟨q, h, e.symm⟩⟩
theorem At.asides_keep (a : At b (pr obs ++ ps) L H l s) (hps : ∀ p ∈ ps, p.at ∉ obs.map (·.1)) (hk : ∀ c oc, c ∉ obs.map (·.1) → s.heap.get? c = some oc → s'.heap.get? c = some oc) (hg : s'.gens = s.gens) (hos : s'.os = s.os) : At b ps L H l s' := by
  obtain ⟨m, hp, hne, hm⟩ := a
  have hin : ∀ c, c ∈ obs.map (·.1) → b.heap.get? c = none ∧ H c = none ∧ c ≠ L := by
    intro c hc
    obtain ⟨q, hq, rfl⟩ := List.mem_map.mp hc
    have h1 : Prot.ob q.1 q.2 ∈ pr obs ++ ps := List.mem_append_left _ (mem_pr.mpr ⟨q, hq, rfl⟩)
    have h2 := hp.prot _ (.tail _ h1)
    exact ⟨h2.2.1, h2.2.2, hne _ h1⟩
  have hL := hp.prot _ (.head _)
  refine ⟨m, ⟨fun c oc e => ?_, fun c oc e => ?_, fun p hpp => ?_, ⟨hg.trans hp.gens.1, hp.gens.2⟩, hos.trans hp.os⟩, fun p hpp => hne p (List.mem_append_right _ hpp), hm⟩
  · exact hk c oc (fun h => by rw [(hin c h).1] at e; cases e) (hp.keep c oc e)
  · exact ⟨hk c oc (fun h => by rw [(hin c h).2.1] at e; cases e) (hp.sub c oc e).1, (hp.sub c oc e).2⟩
  · rcases List.mem_cons.mp hpp with rfl | hpp
    · exact ⟨hL.1.to fun o e => hk _ o (fun h => (hin _ h).2.2 rfl) e, hL.2⟩
    · have := hp.prot p (.tail _ (List.mem_append_right _ hpp))
      exact ⟨this.1.to fun o e => hk _ o (hps p hpp) e, this.2⟩
theorem At.asides_add (a : At b ps L H l s) (h : ∀ q ∈ obs, s.heap.get? q.1 = some q.2 ∧ b.heap.get? q.1 = none ∧ H q.1 = none ∧ q.1 ≠ L) : At b (pr obs ++ ps) L H l s := by
  obtain ⟨m, hp, hne, hm⟩ := a
  refine ⟨m, ⟨hp.keep, hp.sub, fun p hpp => ?_, hp.gens, hp.os⟩, fun p hpp => ?_, hm⟩
  · rcases List.mem_cons.mp hpp with rfl | hpp
    · exact hp.prot _ (.head _)
    · rcases List.mem_append.mp hpp with hpp | hpp
      · obtain ⟨q, hq, rfl⟩ := mem_pr.mp hpp
        exact ⟨(h q hq).1, (h q hq).2.1, (h q hq).2.2.1⟩
      · exact hp.prot _ (.tail _ hpp)
  · rcases List.mem_append.mp hpp with hpp | hpp
    · obtain ⟨q, hq, rfl⟩ := mem_pr.mp hpp
      exact (h q hq).2.2.2
    · exact hne p hpp
theorem At.asides_of (a : At b (pr obs ++ ps) L H l s) : ∀ q ∈ obs, s.heap.get? q.1 = some q.2 ∧ b.heap.get? q.1 = none ∧ H q.1 = none ∧ q.1 ≠ L := by
  obtain ⟨m, hp, hne, hm⟩ := a
  intro q hq
  have h1 : Prot.ob q.1 q.2 ∈ pr obs ++ ps := List.mem_append_left _ (mem_pr.mpr ⟨q, hq, rfl⟩)
  have h2 := hp.prot _ (.tail _ h1)
  exact ⟨h2.1, h2.2.1, h2.2.2, hne _ h1⟩
theorem At.asides_set (a : At b (pr obs ++ ps) L H l s) (hps : ∀ p ∈ ps, p.at ∉ obs.map (·.1)) (hadr : obs'.map (·.1) = obs.map (·.1)) (ho : ∀ q ∈ obs', s'.heap.get? q.1 = some q.2)
    (hk : ∀ c oc, c ∉ obs.map (·.1) → s.heap.get? c = some oc → s'.heap.get? c = some oc) (hg : s'.gens = s.gens) (hos : s'.os = s.os) : At b (pr obs' ++ ps) L H l s' := by
  refine (a.asides_keep hps hk hg hos).asides_add fun q hq => ?_
  have : q.1 ∈ obs.map (·.1) := hadr ▸ List.mem_map.mpr ⟨q, hq, rfl⟩
  obtain ⟨r, hr, e⟩ := List.mem_map.mp this
  have := a.asides_of r hr
  rw [e] at this
  exact ⟨ho q hq, this.2⟩
/-- a new object of the heap is known -/
theorem At.learn {o : Obj} (a : At b ps L H l s) (hle : s.heap.objs.size ≤ x) (hx : s'.heap.get? x = some o) (hk : ∀ c oc, s.heap.get? c = some oc → s'.heap.get? c = some oc) (hg : s'.gens = s.gens) (hos : s'.os = s.os) : At b ps L (upd H x o) l s' := by
  have hx3 : 3 < x := Nat.lt_of_lt_of_le a.hp.low hle
  have hn : s.heap.get? x = none := Heap.get?_none_of_le hle
  obtain ⟨m, hp, hne, hm⟩ := a
  have hpn := hp.prot_ne hn
  refine ⟨m, ⟨fun c oc e => hk c oc (hp.keep c oc e), fun c oc e => ?_, fun p hpp => ⟨(hp.prot p hpp).1.to fun o e => hk _ o e, (hp.prot p hpp).2.1, by rw [upd_ne (hpn p hpp)]; exact (hp.prot p hpp).2.2⟩, ⟨hg.trans hp.gens.1, hp.gens.2⟩, hos.trans hp.os⟩, hne, hm⟩
  by_cases hc : c = x
  · subst hc; rw [upd_self] at e; cases e
    exact ⟨hx, hp.base_fresh hn, hx3⟩
  · rw [upd_ne hc] at e
    exact ⟨hk c oc (hp.sub c oc e).1, (hp.sub c oc e).2⟩
/-- the five objects of a zip -/
theorem ZIs.five {h : Heap} {z x y : Addr} {k : Nat} {xs ys : Array Value} (Z : ZIs h z x y k xs ys) : ∃ obs : List (Addr × Obj), obs.map (·.1) = [z + 4, z + 2, z + 3, z, z + 1] ∧ ∀ q ∈ obs, h.get? q.1 = some q.2 := by
  obtain ⟨hz, hTI, ⟨a, b, hTO⟩, ⟨o1, e1, _⟩, ⟨o2, e2, _⟩, _, _, _⟩ := Z
  obtain ⟨p1, e3⟩ : ∃ o, h.get? (z + 4) = some o := ⟨_, hz⟩
  obtain ⟨p2, e4⟩ : ∃ o, h.get? (z + 2) = some o := ⟨_, hTI⟩
  obtain ⟨p3, e5⟩ : ∃ o, h.get? (z + 3) = some o := ⟨_, hTO⟩
  refine ⟨[(z + 4, p1), (z + 2, p2), (z + 3, p3), (z, o1), (z + 1, o2)], rfl, ?_⟩
  intro q hq
  simp only [List.mem_cons, List.not_mem_nil, or_false] at hq
  rcases hq with rfl | rfl | rfl | rfl | rfl
  · exact e3
  · exact e4
  · exact e5
  · exact e1
  · exact e2
theorem for_zip {Q : Flow → Shared → Prop} {elts : List Expr} {x1 : Nat} {tpos : Pos} {body orelse : List Stmt} {us vs : List Value} (J : Nat → HP → List (Str × Value) → Prop) (hh : A.handled = none) (hlen : us.length = vs.length) (a : At b ps L H l s) (h0 : J 0 H l)
    {ox oy : Obj} (hx : H x = some ox) (hy : H y = some oy) (hox : ∃ n, ox = tpO us n) (hoy : ∃ n, oy = tpO vs n) (hJ : ∀ i H l, J i H l → H x = some ox ∧ H y = some oy)
    (turn : ∀ i u v T s ps' H l, us[i]? = some u → vs[i]? = some v → J i H l → H T = none → At b ps' L (upd H T (tpO [u, v] 0)) l s → (∀ {H l s}, At b ps' L H l s → At b ps L H l s) →
      wpAny (model prog w) A (assign (.Tuple elts x1 tpos) env (.ref T)) (fun _ s₂ => wpAny (model prog w) A (execs body env) (ForPost b ps' L (J (i + 1)) Q) NoE s₂) NoE s)
    (done : ∀ s H l, J us.length H l → At b ps L H l s → wpAny (model prog w) A (execs orelse env) Q NoE s) :
    wpAny (model prog w) A (call (.type "zip") [.ref x, .ref y]) (fun xv s₁ => wpAny (model prog w) A (pyIter xv) (fun it s₂ => codeAny (model prog w) A (.forLoop (.Tuple elts x1 tpos) it body orelse env) (fun r s' => match r with | .ok f => Q f s' | .error e => cameBackBy (model prog w) A env E e s') s₂) E s₁) E s := by
  obtain ⟨nx, rfl⟩ := hox
  obtain ⟨ny, rfl⟩ := hoy
  have hTx : TpAt H x us := ⟨nx, hx⟩
  have hTy : TpAt H y vs := ⟨ny, hy⟩
  refine zi_call (hTx.isTuple a) (hTy.isTuple a) fun h' Z hsz hk => ?_
  refine wpAny_pyIter_zip Z.zip ?_
  have hfr : ∀ c, s.heap.objs.size ≤ c → s.heap.get? c = none := fun c hc => Heap.get?_none_of_le hc
  generalize hzz : s.heap.objs.size = z at *
  have a1 : At b ps L H l { s with heap := h' } := a.all hk s.toks
  have hps : ∀ p ∈ ps, p.at ∉ [z + 4, z + 2, z + 3, z, z + 1] := by
    intro p hp hm
    have := a.hp.prot_ne (hfr p.at (by simp only [List.mem_cons, List.not_mem_nil, or_false] at hm; rcases hm with h | h | h | h | h <;> rw [h] <;> first | exact Nat.le_add_right _ _ | exact Nat.le_refl _)) p hp
    exact this rfl
  obtain ⟨obs, ho1, ho2⟩ := Z.five
  have a2 : At b (pr obs ++ ps) L H l { s with heap := h' } := by
    refine a1.asides_add fun q hq => ?_
    have hm : q.1 ∈ [z + 4, z + 2, z + 3, z, z + 1] := ho1 ▸ List.mem_map.mpr ⟨q, hq, rfl⟩
    have hle : z ≤ q.1 := by simp only [List.mem_cons, List.not_mem_nil, or_false] at hm; rcases hm with h | h | h | h | h <;> rw [h] <;> first | exact Nat.le_add_right _ _ | exact Nat.le_refl _
    have hn := hfr _ hle
    obtain ⟨m, hp, _, _⟩ := a
    exact ⟨ho2 q hq, hp.base_fresh hn, hp.fresh hn, fun e => hp.prot_ne hn _ (.head _) e.symm⟩
  refine codeAny_forLoop_any (fun k s => ∃ i H l obs, k = us.length + 1 - i ∧ i ≤ us.length ∧ ZIs s.heap z x y i us.toArray vs.toArray ∧ obs.map (·.1) = [z + 4, z + 2, z + 3, z, z + 1] ∧ At b (pr obs ++ ps) L H l s ∧ J i H l) ?_ (us.length + 1) ⟨0, H, l, obs, rfl, Nat.zero_le _, Z, ho1, a2, h0⟩
  rintro k s ⟨i, H, l, obs, rfl, hi, Z, ho1, a, hj⟩
  have hps' : ∀ p ∈ ps, p.at ∉ obs.map (·.1) := fun p hp => by rw [ho1]; exact hps p hp
  by_cases hlt : i < us.length
  · obtain ⟨u, hu⟩ : ∃ u, us[i]? = some u := ⟨_, List.getElem?_eq_getElem hlt⟩
    obtain ⟨v, hv⟩ : ∃ v, vs[i]? = some v := ⟨_, List.getElem?_eq_getElem (hlen ▸ hlt)⟩
    refine zi_next Z (by simpa using hu) (by simpa using hv) fun h₁ q1 q2 q3 q4 q5 q6 q7 => ?_
    refine wpAny_letOwnedTupleGo_zip q1 fun h₂ r1 r2 => ?_
    have zlt : z + 4 < s.heap.objs.size := Heap.lt_size Z.zip
    have nT : ∀ j, j ≤ 4 → z + j ≠ s.heap.objs.size := fun j hj => Nat.ne_of_lt (Nat.lt_of_le_of_lt (Nat.add_le_add_left hj z) zlt)
    have nz : ∀ j k : Nat, j ≠ k → z + j ≠ z + k := fun j k h e => h (Nat.add_left_cancel e)
    have kx : x ≠ z + 4 ∧ x ≠ z + 3 ∧ x ≠ z ∧ x ≠ z + 1 := ⟨Nat.ne_of_lt (Nat.lt_add_right 4 Z.lt.1), Nat.ne_of_lt (Nat.lt_add_right 3 Z.lt.1), Nat.ne_of_lt Z.lt.1, Nat.ne_of_lt (Nat.lt_add_right 1 Z.lt.1)⟩
    have ky : y ≠ z + 4 ∧ y ≠ z + 3 ∧ y ≠ z ∧ y ≠ z + 1 := ⟨Nat.ne_of_lt (Nat.lt_add_right 4 Z.lt.2), Nat.ne_of_lt (Nat.lt_add_right 3 Z.lt.2), Nat.ne_of_lt Z.lt.2, Nat.ne_of_lt (Nat.lt_add_right 1 Z.lt.2)⟩
    have hz4 : ∀ c oc, c ≠ z + 4 → h₁.get? c = some oc → h₂.get? c = some oc := fun c oc h e => (r2.2 c h).trans e
    have Z2 : ZIs h₂ z x y (i + 1) us.toArray vs.toArray :=
      ⟨r1, hz4 _ _ (nz 2 4 (by decide)) (q7 _ _ (nz 2 4 (by decide)) (nz 2 3 (by decide)) (nz 2 0 (by decide)) (nz 2 1 (by decide)) Z.ti), ⟨_, _, hz4 _ _ (nz 3 4 (by decide)) q2⟩,
        q3.at fun o e => hz4 _ o (nz 0 4 (by decide)) e, q4.at fun o e => hz4 _ o (nz 1 4 (by decide)) e,
        Z.hx.at fun o e => hz4 _ o kx.1 (q7 _ o kx.1 kx.2.1 kx.2.2.1 kx.2.2.2 e), Z.hy.at fun o e => hz4 _ o ky.1 (q7 _ o ky.1 ky.2.1 ky.2.2.1 ky.2.2.2 e), Z.lt⟩
    obtain ⟨obs2, hb1, hb2⟩ := Z2.five
    have hT2 : h₂.get? s.heap.objs.size = some (tpO [u, v] 0) := hz4 _ _ (nT 4 (by decide)).symm q5
    have keep2 : ∀ c oc, c ∉ obs.map (·.1) → s.heap.get? c = some oc → h₂.get? c = some oc := by
      intro c oc hc e
      rw [ho1] at hc
      simp only [List.mem_cons, List.not_mem_nil, or_false, not_or] at hc
      exact hz4 c oc hc.1 (q7 c oc hc.1 hc.2.2.1 hc.2.2.2.1 hc.2.2.2.2 e)
    have aA : At b ps L H l s := a.asides_keep hps' (fun c oc _ e => e) rfl rfl
    have hTn : H s.heap.objs.size = none := a.fresh (get_size _)
    -- the state between: all but the pair
    have a3 : At b (pr obs2 ++ ps) L H l { s with heap := h₂ } := a.asides_set hps' (by rw [hb1, ho1]) hb2 keep2 rfl rfl
    have a4 : At b (pr obs2 ++ ps) L (upd H s.heap.objs.size (tpO [u, v] 0)) l { s with heap := h₂ } := by
      have hbase : b.heap.get? s.heap.objs.size = none := a.hp.base_fresh (get_size _)
      have hprt := a.hp.prot_ne (get_size s.heap)
      have hLn : L ≠ s.heap.objs.size := by
        obtain ⟨m, hp, _, _⟩ := a
        exact hp.prot_ne (get_size _) _ (.head _)
      have h3 := a.hp.low
      obtain ⟨m, hp, hne, hm⟩ := a3
      refine ⟨m, ⟨hp.keep, fun c oc e => ?_, fun p hpp => ⟨(hp.prot p hpp).1, (hp.prot p hpp).2.1, ?_⟩, hp.gens, hp.os⟩, hne, hm⟩
      · by_cases hc : c = s.heap.objs.size
        · subst hc; rw [upd_self] at e; cases e; exact ⟨hT2, hbase, h3⟩
        · rw [upd_ne hc] at e; exact hp.sub c oc e
      · have : p.at ≠ s.heap.objs.size := by
          rcases List.mem_cons.mp hpp with rfl | hpp
          · exact hLn
          · rcases List.mem_append.mp hpp with hpp | hpp
            · obtain ⟨q, hq, rfl⟩ := mem_pr.mp hpp
              have hm : q.1 ∈ [z + 4, z + 2, z + 3, z, z + 1] := hb1 ▸ List.mem_map.mpr ⟨q, hq, rfl⟩
              simp only [List.mem_cons, List.not_mem_nil, or_false] at hm
              show q.1 ≠ _
              rcases hm with h | h | h | h | h <;> rw [h]
              · exact nT 4 (by decide)
              · exact nT 2 (by decide)
              · exact nT 3 (by decide)
              · exact nT 0 (by decide)
              · exact nT 1 (by decide)
            · exact hprt p (List.mem_append_right _ hpp)
        rw [upd_ne this]; exact (hp.prot p hpp).2.2
    have hps2 : ∀ p ∈ ps, p.at ∉ obs2.map (·.1) := fun p hp => by rw [hb1]; exact hps p hp
    refine noE (wpAny_mono (turn i u v _ _ _ H l hu hv hj hTn a4 (fun a => a.asides_keep hps2 (fun c oc _ e => e) rfl rfl)) (fun _ s₂ h₂' => ?_) fun _ _ x => x)
    refine noE (wpAny_mono h₂' (fun f s₃ h₃ => ?_) fun _ _ x => x)
    have fin : (∃ H l, At b (pr obs2 ++ ps) L H l s₃ ∧ J (i + 1) H l) → ∃ m, m < us.length + 1 - i ∧ ∃ i H l obs, m = us.length + 1 - i ∧ i ≤ us.length ∧ ZIs s₃.heap z x y i us.toArray vs.toArray ∧ obs.map (·.1) = [z + 4, z + 2, z + 3, z, z + 1] ∧ At b (pr obs ++ ps) L H l s₃ ∧ J i H l := by
      rintro ⟨H', l', a₃, hJ'⟩
      refine ⟨us.length + 1 - (i + 1), by exact om287 hlt, i + 1, H', l', obs2, rfl, hlt, ?_, hb1, a₃, hJ'⟩
      have same : ∀ c ∈ [z + 4, z + 2, z + 3, z, z + 1], ∀ oc, h₂.get? c = some oc → s₃.heap.get? c = some oc := by
        intro c hc oc e
        rw [← hb1] at hc
        obtain ⟨q, hq, rfl⟩ := List.mem_map.mp hc
        have := hb2 q hq
        rw [e] at this; cases this
        exact (a₃.asides_of q hq).1
      obtain ⟨g1, g2, ⟨ta, tb, g3⟩, g4, g5, g6, g7, g8⟩ := Z2
      exact ⟨same _ (by simp) _ g1, same _ (by simp) _ g2, ⟨ta, tb, same _ (by simp) _ g3⟩, g4.at fun o e => same _ (by simp) o e, g5.at fun o e => same _ (by simp) o e,
        TpAt.isTuple a₃ ⟨nx, (hJ _ _ _ hJ').1⟩, TpAt.isTuple a₃ ⟨ny, (hJ _ _ _ hJ').2⟩, g8⟩
    cases f with
    | next => exact fin h₃
    | cont => exact fin h₃
    | brk => exact h₃
    | ret v => exact h₃
  · have hin : i = us.length := by exact om278 hi hlt
    subst hin
    refine zi_end hh Z (by simp) fun h₁ q7 => ?_
    refine noE (wpAny_mono (done _ H l hj (a.asides_keep hps' (fun c oc hc e => ?_) rfl rfl)) (fun f s₃ h₃ => h₃) fun _ _ x => x)
    rw [ho1] at hc
    simp only [List.mem_cons, List.not_mem_nil, or_false, not_or] at hc
    exact q7 c oc hc.1 hc.2.2.1 hc.2.2.2.1 hc.2.2.2.2 e
end
end

section
set_option maxRecDepth 100000
theorem pick_from' (vs : List Value) (k : Nat) : (slicePick vs.toArray (some (k : Int)) none none).toList = vs.drop k := by
  rw [kms_pick_eq]
  show kms_pick vs (some (k : Int)) none = _
  unfold kms_pick kms_lo kms_hi
  simp only [if_neg (show ¬ ((k : Int) < 0) by exact om146), Int.toNat_natCast]
  rw [kmk_drop_min]
  apply List.take_of_length_le
  simp; exact om270
theorem pick_upto' (vs : List Value) (k : Nat) : (slicePick vs.toArray none (some (k : Int)) none).toList = vs.take k := by
  rw [kms_pick_eq]
  show kms_pick vs none (some (k : Int)) = _
  unfold kms_pick kms_lo kms_hi
  simp only [if_neg (show ¬ ((k : Int) < 0) by exact om146), Int.toNat_natCast, List.drop_zero, Nat.sub_zero]
  rw [kmk_take_min]
section
variable {prog : Program} {w : World} {A : Around} {E : Value → Shared → Prop} {b s : Shared} {ps : List Prot} {H : HP} {L x : Addr} {l : List (Str × Value)} {Q : Value → Shared → Prop} {vs : List Value}
theorem sl_tail {value slice : Expr} {vl vu : Value} {lo hi : Option Int} (a : At b ps L H l s) (hl : LsAt H x vs) (pl : IsPart vl lo) (pu : IsPart vu hi) (hb : vs.length < 100000)
    (h : ∀ s' y, H y = none → At b ps L (upd H y (lsO (slicePick vs.toArray lo hi none).toList 0)) l s' → Q (.ref y) s')
    (hs : ∀ z, ∃ ops, subscripted slice false (.ref x) (.ref z) = operate ops (getItem (.ref x) (.ref z)) := by intro _; exact ⟨_, by with_unfolding_all rfl⟩) :
    wpAny (model prog w) A (subscriptTail value slice (.ref x) (.ref s.heap.objs.size)) Q E { s with heap := s.heap.push { cls := .type "slice", data := .fields #[vl, vu, .none] } } := by
  have hsl := a.fresh (get_size s.heap)
  have a1 := a.push { cls := .type "slice", data := .fields #[vl, vu, .none] } rfl s.toks
  obtain ⟨ops, hs'⟩ := hs s.heap.objs.size
  refine tail_any ((hl.fresh hsl).isList a1).typeIs slot_list_getitem.lookup (get_slice a1 (hl.fresh hsl) upd_self rfl rfl pl pu .none (by simp) hb ?_) hs'
  intro s' y hy a2
  have hyn : H y = none := by
    cases e : H y with
    | none => rfl
    | some o => rw [upd_of e hsl] at hy; cases hy
  refine h s' y hyn (a2.weak fun c o e => ?_)
  by_cases hc : c = y
  · subst hc; rw [upd_self] at e ⊢; exact e
  · rw [upd_ne hc] at e ⊢; exact upd_of e hsl
end
end

section
set_option maxRecDepth 100000
noncomputable def r0 : R3 := (0, 0, 0)
noncomputable def rA (rs : List R3) (k : Nat) : Nat := (rs.getD k r0).2.1.toNat
noncomputable def rB (rs : List R3) (k : Nat) : Nat := (rs.getD k r0).2.2.toNat
noncomputable def slP (rs : List R3) (vals : List Int) (k : Nat) : Int := if (rs.getD k r0).1 = 2 then gat vals (rs.getD k r0).2.2 else 1
noncomputable def slQ (rs : List R3) (vals : List Int) (k : Nat) : Int := if (rs.getD k r0).1 = 0 then 1 else if (rs.getD k r0).1 = 1 then -1 else gat vals (rs.getD k r0).2.1
noncomputable def nms (n : Nat) : List Int := (List.range n).map nm
theorem nms_len {n : Nat} : (nms n).length = n := by simp [nms]
theorem nms_get {n k : Nat} (h : k < n) : (nms n)[k]? = some (nm k) := by simp [nms, h]
theorem nms_gat {n k : Nat} (h : k < n) : gat (nms n) (k : Int) = nm k := by unfold gat; simp [nms, h]
theorem nms_idx {n k : Nat} (hn : n ≤ 11) (h : k < n) : (nms n).idxOf (nm k) = k := by
  have h1 : (nms n).idxOf (nm k) < (nms n).length := List.idxOf_lt_length_iff.mpr (List.mem_of_getElem? (nms_get h))
  have h2 := List.getElem_idxOf h1
  rw [nms_len] at h1
  have h3 : (nms n)[(nms n).idxOf (nm k)]? = some (nm ((nms n).idxOf (nm k))) := nms_get h1
  rw [List.getElem?_eq_getElem (by rw [nms_len]; exact h1)] at h3
  have h4 : nm ((nms n).idxOf (nm k)) = nm k := by rw [← Option.some.inj h3]; exact h2
  exact nm_inj (by exact om242 h1 hn) (by exact om242 h hn) h4
/-- the four lists of the way back -/
structure BwAt (H H' : HP) (sh hp mt go : Addr) (its gts : List It) (mets shs : List Int) : Prop where
  sub : ∀ a o, H a = some o → H' a = some o
  shs : IlAt H' sh shs
  hps : PlAt H' hp its
  mts : IlAt H' mt mets
  gos : PlAt H' go gts
structure Ap4 (H : HP) (sh hp mt go : Addr) : Prop where
  nsh : H sh = none
  nhp : H hp = none
  nmt : H mt = none
  ngo : H go = none
  shp : sh ≠ hp
  smt : sh ≠ mt
  sgo : sh ≠ go
  hmt : hp ≠ mt
  hgo : hp ≠ go
  mgo : mt ≠ go
section
variable {H H' : HP} {sh hp mt go x z : Addr} {its gts jts : List It} {mets shs ns : List Int} {o : Obj} {vs : List Value} {n : Nat}
theorem IlAt.ls (h : IlAt H x ns) : ∃ vs, LsAt H x vs := let ⟨vs, e, _⟩ := h; ⟨vs, e⟩
theorem BwAt.fresh (h : BwAt H H' sh hp mt go its gts mets shs) (hz : H' z = none) : BwAt H (upd H' z o) sh hp mt go its gts mets shs :=
  ⟨fun a o e => upd_of (h.sub a o e) hz, h.shs.fresh hz, h.hps.fresh hz, h.mts.fresh hz, h.gos.fresh hz⟩
theorem BwAt.mono {H'' : HP} (h : BwAt H H' sh hp mt go its gts mets shs) (m : ∀ a o, H' a = some o → H'' a = some o) : BwAt H H'' sh hp mt go its gts mets shs :=
  ⟨fun a o e => m _ _ (h.sub a o e), h.shs.mono fun o e => m _ o e, h.hps.mono m, h.mts.mono fun o e => m _ o e, h.gos.mono m⟩
theorem sub_upd (hs : ∀ a o, H a = some o → H' a = some o) (hx : H x = none) : ∀ a o', H a = some o' → upd H' x o a = some o' := fun a o' e => by
  rw [upd_ne (by rintro rfl; rw [hx] at e; cases e)]; exact hs a o' e
theorem BwAt.other (h : BwAt H H' sh hp mt go its gts mets shs) (hz : LsAt H' z vs) (nz : H z = none) (z1 : z ≠ sh) (z2 : z ≠ hp) (z3 : z ≠ mt) (z4 : z ≠ go) : BwAt H (upd H' z o) sh hp mt go its gts mets shs :=
  ⟨sub_upd h.sub nz, h.shs.upd z1.symm, h.hps.upd z2.symm hz, h.mts.upd z3.symm, h.gos.upd z4.symm hz⟩
theorem BwAt.setS (h : BwAt H H' sh hp mt go its gts mets shs) (A : Ap4 H sh hp mt go) (hi : IntsAre vs ns) : BwAt H (upd H' sh (lsO vs n)) sh hp mt go its gts mets ns :=
  let ⟨_, e⟩ := h.shs.ls; ⟨sub_upd h.sub A.nsh, ⟨vs, LsAt.self, hi⟩, h.hps.upd A.shp.symm e, h.mts.upd A.smt.symm, h.gos.upd A.sgo.symm e⟩
theorem BwAt.setM (h : BwAt H H' sh hp mt go its gts mets shs) (A : Ap4 H sh hp mt go) (hi : IntsAre vs ns) : BwAt H (upd H' mt (lsO vs n)) sh hp mt go its gts ns shs :=
  let ⟨_, e⟩ := h.mts.ls; ⟨sub_upd h.sub A.nmt, h.shs.upd A.smt, h.hps.upd A.hmt e, ⟨vs, LsAt.self, hi⟩, h.gos.upd A.mgo.symm e⟩
theorem BwAt.setH (h : BwAt H H' sh hp mt go its gts mets shs) (A : Ap4 H sh hp mt go) (hj : ∀ i ∈ jts, PrAt H' i.1 i.2) : BwAt H (upd H' hp (lsO (jts.map irf) n)) sh hp mt go jts gts mets shs :=
  ⟨sub_upd h.sub A.nhp, h.shs.upd A.shp, h.hps.set hj, h.mts.upd A.hmt.symm, h.gos.upd A.hgo.symm h.hps.1⟩
theorem BwAt.setG (h : BwAt H H' sh hp mt go its gts mets shs) (A : Ap4 H sh hp mt go) (hj : ∀ i ∈ jts, PrAt H' i.1 i.2) : BwAt H (upd H' go (lsO (jts.map irf) n)) sh hp mt go its jts mets shs :=
  ⟨sub_upd h.sub A.ngo, h.shs.upd A.sgo, h.hps.upd A.hgo h.gos.1, h.mts.upd A.mgo, h.gos.set hj⟩
end
section
variable {prog : Program} {w : World} {A : Around} {E : Value → Shared → Prop} {env : Env} {nm' : List (Str × NameKind)} {cs : List (Str × Addr)}
  {b s : Shared} {ps : List Prot} {H : HP} {L y : Addr} {l : List (Str × Value)} {u v : Value}
theorem as_t2 {x1 x2 : Str} {p1 p2 pos : Pos} {kk : Nat} {Q : Unit → Shared → Prop} (hh : A.handled = none) (a : At b ps L H l s) (he : EnvIs env L nm' cs) (ht : TpAt H y [u, v])
    (h : ∀ s', At b ps L H ((x2, v) :: (x1, u) :: l) s' → Q () s')
    (h1 : nm'.lookup x1 = some .local := by kernel_rfl!) (h2 : nm'.lookup x2 = some .local := by kernel_rfl!) :
    wpAny (model prog w) A (assign (.Tuple [.Name x1 p1, .Name x2 p2] kk pos) env (.ref y)) Q E s := by
  refine wpAny_assign_Tuple hh (ht.isTuple a) rfl rfl fun h' hx => ?_
  have a := a.ext (get_size _) hx s.toks
  show wpAny _ _ (assignInOrder [assign (.Name x1 p1) env, assign (.Name x2 p2) env] [u, v]) _ _ _
  simp only [assignInOrder]
  refine wpAny_bind (wpAny_holding (wpAny_assign_Name (st_local a he ?_ h1)))
  intro s a
  refine wpAny_bind (wpAny_holding (wpAny_assign_Name (st_local a he ?_ h2)))
  intro s a
  exact wpAny_pure (h s a)
theorem ev_index {o e : Expr} {apos pos : Pos} {Q : Value → Shared → Prop}
    (h : wpAny (model prog w) A (eval o env) (fun ov s₁ => ∃ b ps L H l x ns, ov = .ref x ∧ At b ps L H l s₁ ∧ IlAt H x ns ∧ ns.length < 1000 ∧ wpAny (model prog w) A (eval e env) (fun kv s₂ => ∃ k t, kv = .int k t ∧ k ∈ ns ∧ At b ps L H l s₂ ∧ ∀ t s', At b ps L H l s' → Q (.int (ns.idxOf k : Nat) t) s') E s₁) E s)
    (h0 : eval (.Call (.Attribute o (Str.ofString "index") apos) [e] [] pos) env = (do
      let ov ← eval o env
      standAt apos.atName
      let (f, first) ← holding [ov] (getMethod ov (Str.ofString "index") (do return (← importBound o env).getD true))
      callWith pos f first (backTo pos (starEach [e] env)) []) := by with_unfolding_all rfl)
    (h4 : backTo pos (starEach [e] env) = [(false, eval e env)] := by with_unfolding_all rfl) (h5 : starEach [e] env = [(false, eval e env)] := by with_unfolding_all rfl) :
    wpAny (model prog w) A (eval (.Call (.Attribute o (Str.ofString "index") apos) [e] [] pos) env) Q E s := by
  refine MethodCall_ (wpAny_mono h (fun ov s₁ h₁ => ?_) fun _ _ x => x) h0
  obtain ⟨b, ps, L, H, l, x, ns, rfl, a, hl, hlen, h₁⟩ := h₁
  obtain ⟨vs, hv, _⟩ := id hl
  refine gm_list PySem.F.slot_list_index PySem.F.type_list_index a hv ?_
  refine callWith_method1 ?_ h5 rfl
  rw [h4]
  have : wpAny (model prog w) A (spliced [(false, eval e env)]) (fun vs s₁ => wpAny (model prog w) A (call (.builtin "list.index") ([.ref x] ++ vs)) Q E s₁) E s₁ := by
    rw [spliced]
    refine wpAny_bind (wpAny_mono h₁ (fun kv s₂ h₂ => ?_) fun _ _ x => x)
    obtain ⟨k, t, rfl, hk, a2, h₂⟩ := h₂
    simp only [Bool.false_eq_true, if_false]
    refine wpAny_bind (wpAny_pure ?_)
    rw [spliced]
    refine wpAny_bind (wpAny_holding (wpAny_pure (wpAny_pure ?_)))
    exact do_index a2 hl hlen hk h₂
  exact this
variable {Q : Value → Shared → Prop} {M : Model}
theorem new_il {vs : List Value} {ns : List Int} (a : At b ps L H l s) (hi : IntsAre vs ns) (hb : ns.length < 1000) (h : ∀ s' x o, H x = none → IlAt (upd H x o) x ns → At b ps L (upd H x o) l s' → Q (.ref x) s') : wpAny M A (newList vs) Q E s :=
  new_list a (by rw [hi.length]; exact om110 hb) fun s' x hx a' => h s' x _ hx ⟨vs, LsAt.self, hi⟩ a'
theorem new_pr {i j : Int} {t u : Tok} (a : At b ps L H l s) (h : ∀ s' y o, H y = none → PrAt (upd H y o) y (i, j) → At b ps L (upd H y o) l s' → Q (.ref y) s') : wpAny M A (newTuple [.int i t, .int j u]) Q E s :=
  new_tuple a (by simp) fun s' y hy a' => h s' y _ hy ⟨t, u, 0, upd_self⟩ a'
theorem new_pl {its : List It} (a : At b ps L H l s) (hi : ∀ i ∈ its, PrAt H i.1 i.2) (hb : its.length < 1000) (h : ∀ s' x o, H x = none → PlAt (upd H x o) x its → At b ps L (upd H x o) l s' → Q (.ref x) s') : wpAny M A (newList (its.map irf)) Q E s :=
  new_list a (by rw [List.length_map]; exact om110 hb) fun s' x hx a' => h s' x _ hx ⟨LsAt.self, fun i hi' => (hi i hi').fresh hx⟩ a'
theorem mul_il {x : Addr} {z : Int} {n : Nat} {t : Tok} (a : At b ps L H l s) (hx : IlAt H x [z]) (hn : n ≤ 200) (h : ∀ s' D o, H D = none → IlAt (upd H D o) D (List.replicate n z) → At b ps L (upd H D o) l s' → Q (.ref D) s') :
    wpAny (model prog w) A (binaryOp .Mult (.ref x) (.int n t)) Q E s := by
  obtain ⟨vs, hv, hi⟩ := hx
  cases hi with
  | cons _ t0 r =>
    cases r
    refine op_mulLs a hv (by simp; exact om139 hn) (by exact om138 hn) fun s' D hD a' => h s' D _ hD ⟨_, LsAt.self, ?_⟩ a'
    clear h a' hD hv
    induction n with
    | zero => exact .nil
    | succ n ih => rw [List.replicate_succ, List.flatten_cons, List.replicate_succ]; exact .cons z t0 (ih (by exact om106 hn))
theorem ints_set {vs : List Value} {ns : List Int} (h : IntsAre vs ns) : ∀ (k : Nat) (z : Int) (t : Tok), IntsAre (vs.set k (.int z t)) (ns.set k z) := by
  induction h with
  | nil => intro k z t; exact .nil
  | cons n t r ih =>
    intro k z u
    cases k with
    | zero => exact .cons z u r
    | succ k => exact .cons n t (ih k z u)
theorem set_il {x : Addr} {k z : Int} {t u : Tok} {ns : List Int} {Q : Unit → Shared → Prop} (a : At b ps L H l s) (hl : IlAt H x ns) (h0 : 0 ≤ k) (hk : k < ns.length) (hb : ns.length < 1000)
    (h : ∀ s' vs n, IntsAre vs (ns.set k.toNat z) → At b ps L (upd H x (lsO vs n)) l s' → Q () s') : wpAny (model prog w) A (setItem (.ref x) (.int k t) (.int z u)) Q E s := by
  obtain ⟨vs, hv, hi⟩ := hl
  have := hi.length
  exact set_list a hv h0 (by exact om476 hb hk) (by exact om486 h0 this hk) fun s' n a' => h s' _ n (ints_set hi _ _ _) a'
theorem set_il_last {x : Addr} {z : Int} {t u : Tok} {ns : List Int} {Q : Unit → Shared → Prop} (a : At b ps L H l s) (hl : IlAt H x ns) (hk : 0 < ns.length) (hb : ns.length < 1000)
    (h : ∀ s' vs n, IntsAre vs (ns.set (ns.length - 1) z) → At b ps L (upd H x (lsO vs n)) l s' → Q () s') : wpAny (model prog w) A (setItem (.ref x) (.int (-1) t) (.int z u)) Q E s := by
  obtain ⟨vs, hv, hi⟩ := hl
  have hvl := hi.length
  refine set_last a hv (by exact om255 hvl hb) (by exact om168 hk hvl) fun s' n a' => h s' _ n ?_ a'
  rw [hvl]; exact ints_set hi _ _ _
theorem app_il {x : Addr} {z : Int} {t : Tok} {ns : List Int} (a : At b ps L H l s) (hl : IlAt H x ns) (hb : ns.length < 1000)
    (h : ∀ s' vs n, IntsAre vs (ns ++ [z]) → At b ps L (upd H x (lsO vs n)) l s' → Q .none s') : wpAny (model prog w) A (call (.builtin "list.append") [.ref x, .int z t]) Q E s := by
  obtain ⟨vs, hv, hi⟩ := hl
  have hvl := hi.length
  exact do_append a hv (by exact om255 hvl hb) fun s' n a' => h s' _ n (IntsAre.snoc' hi) a'
theorem il_last {value slice : Expr} {x : Addr} {xs : List Int} {z : Int} {t : Tok} (a : At b ps L H l s) (hl : IlAt H x xs) (hz : xs.getLast? = some z) (h : ∀ t', Q (.int z t') s)
    (hs : subscripted slice false (.ref x) (.int (-1) t) = operate [.ref x, .int (-1) t] (getItem (.ref x) (.int (-1) t)) := by rfl) :
    wpAny (model prog w) A (subscriptTail value slice (.ref x) (.int (-1) t)) Q E s := by
  obtain ⟨vs, hv, hi⟩ := hl
  have hvl := hi.length
  rw [List.getLast?_eq_getElem?] at hz
  obtain ⟨t', ht'⟩ := hi.get (xs.length - 1) z hz
  exact sub_last a hv (by rw [List.getLast?_eq_getElem?, hvl]; exact ht') (h t') hs
theorem il_len {x : Addr} {ns : List Int} {n : Nat} (a : At b ps L H l s) (hl : IlAt H x ns) (hn : ns.length = n) (hb : n < 1000) (h : ∀ t s', At b ps L H l s' → Q (.int n t) s') : wpAny (model prog w) A (call (.builtin "len") [.ref x]) Q E s := by
  obtain ⟨vs, hv, hi⟩ := hl
  exact do_lenN a hv (by rw [hi.length]; exact hn) (by exact om110 hb) h
end
theorem gat_rep {z : Int} {n k : Nat} (h : k < n) : gat (List.replicate n z) (k : Int) = z := by unfold gat; simp [h]
theorem gat_set {l : List Int} {i k : Nat} {z : Int} (hk : k < l.length) : gat (l.set i z) (k : Int) = if i = k then z else gat l k := by
  unfold gat
  simp only [List.getD_eq_getElem?_getD, Int.toNat_natCast, List.getElem?_set]
  by_cases h : i = k
  · subst h; simp [hk]
  · simp [h]
theorem gat_last {l : List Int} {n : Nat} (h : l.length = n) (hn : 0 < n) : l.getLast? = some (gat l ((n - 1 : Nat) : Int)) := by
  rw [List.getLast?_eq_getElem?, h]
  unfold gat
  simp only [List.getD_eq_getElem?_getD, Int.toNat_natCast, List.getElem?_eq_getElem (show n - 1 < l.length by exact om165 hn h), Option.getD_some]
theorem none_of {H H' : HP} {z : Addr} (h : ∀ c o, H c = some o → H' c = some o) (hz : H' z = none) : H z = none := by
  cases e : H z with
  | none => rfl
  | some o => rw [h _ _ e] at hz; cases hz
theorem IlAt.ne_none {H : HP} {x z : Addr} {ns : List Int} (h : IlAt H x ns) (hz : H z = none) : x ≠ z := by
  rintro rfl
  obtain ⟨_, _, e⟩ := h.ls
  rw [e] at hz; cases hz
theorem PlAt.ne_none {H : HP} {x z : Addr} {its : List It} (h : PlAt H x its) (hz : H z = none) : x ≠ z := by
  rintro rfl
  obtain ⟨_, e⟩ := h.1
  rw [e] at hz; cases hz
end

section
set_option maxRecDepth 100000
noncomputable def addF (M F : List Nat) (p : Nat) : List Nat := if p ∈ M ++ F then F else F ++ [p]
noncomputable def stF (A B : Nat → Nat) (M : List Nat) (k : Nat) : Nat → List Nat
  | 0 => []
  | 1 => addF M [] (A k)
  | _ => addF M (addF M [] (A k)) (B k)
noncomputable def stS (A B : Nat → Nat) (P Q : Nat → Int) (S : Nat → Int) (k : Nat) : Nat → Nat → Int
  | 0 => S
  | 1 => S1 A P S k
  | _ => S2 A B P Q S k
theorem stF_fin {A B : Nat → Nat} {M : List Nat} {k : Nat} (h3 : 3 ≤ k) : stF A B M k 2 = fresh A B M k := by
  show addF M (addF M [] (A k)) (B k) = _
  unfold fresh addF
  rw [if_pos h3]
  by_cases hA : A k ∈ M
  · simp only [List.append_nil, hA, if_true]
    by_cases hB : B k ∈ M
    · simp [hB]
    · have : ¬ (B k = A k) := fun e => hB (e ▸ hA)
      simp [hB, this]
  · simp only [List.append_nil, hA, if_false, List.nil_append]
    by_cases hB : B k ∈ M
    · simp [hB]
    · by_cases e : B k = A k
      · simp [e]
      · simp [hB, e]
theorem addF_len {M F : List Nat} {p : Nat} : (addF M F p).length ≤ F.length + 1 := by unfold addF; split <;> simp
theorem stF_len {A B : Nat → Nat} {M : List Nat} {k : Nat} (i : Nat) : (stF A B M k i).length ≤ 2 := by
  match i with
  | 0 => simp [stF]
  | 1 => have := addF_len (M := M) (F := []) (p := A k); simp [stF] at this ⊢; exact om132 this
  | i + 2 =>
    have h1 := addF_len (M := M) (F := []) (p := A k)
    have h2 := addF_len (M := M) (F := addF M [] (A k)) (p := B k)
    simp [stF] at h1 h2 ⊢; exact om273 h2 h1
theorem fresh_app {A B : Nat → Nat} {M : List Nat} {k : Nat} (h : M.Nodup) : (M ++ fresh A B M k).Nodup := by
  rw [List.nodup_append]
  exact ⟨h, fresh_nodup, fun x hx y hy e => (mem_fresh hy).2.1 (e ▸ hx)⟩
theorem key_inj {rank : Nat → Nat} {i j : Nat} (hi : i < 11) (hj : j < 11) (h : key rank i = key rank j) : i = j := nm_inj hi hj (congrArg Prod.snd h)
theorem next_W {rank : Nat → Nat} {k : Nat} {F W : List Nat} {qs : List (Int × Int)} (hlt : ∀ x ∈ F ++ W, x < 11) (hk : k < 11) (hp : (key rank k :: qs).Perm ((F ++ W).map (key rank))) : ∃ W' : List Nat, qs = W'.map (key rank) ∧ (k :: W').Perm (F ++ W) := by
  obtain ⟨m, h1, h2⟩ := perm_map_exists hp
  cases m with
  | nil => cases h1
  | cons c r =>
    simp only [List.map_cons, List.cons.injEq] at h1
    have hc : c < 11 := hlt c (h2.mem_iff.mp (.head _))
    have := key_inj hk hc h1.1
    subst this
    exact ⟨r, h1.2, h2⟩
theorem min_W {rank : Nat → Nat} {k : Nat} {W : List Nat} {it0 : It} {its : List It} {d : It} (hlt : ∀ x ∈ W, x < 11) (hk : k < 11) (hH : HpOk d its) (h0 : its[0]? = some it0) (hk0 : it0.2 = key rank k) (e : its.map (·.2) = W.map (key rank)) :
    ∀ p ∈ W, p ≠ k → klt rank k p := by
  intro p hp hne
  have : key rank p ∈ its.map (·.2) := by rw [e]; exact List.mem_map.mpr ⟨p, hp, rfl⟩
  obtain ⟨i, hi, hip⟩ := List.mem_map.mp this
  have h1 := hH.first h0 i hi
  unfold ile ilt at h1
  rw [hip, hk0] at h1
  have h2 : nm p ≠ nm k := fun h => hne (nm_inj (hlt p hp) hk h)
  unfold klt
  unfold plt key at *
  dsimp only at *
  exact om159 h2 h1
section
variable {prog : Program} {w : World} {A : Around} {E : Value → Shared → Prop} {mg mb : Str → Option Value}
  {b s : Shared} {ps : List Prot} {H : HP} {Q : Value → Shared → Prop} {x : Addr} {its : List It} {new it0 d : It}
theorem heappush_perm (C : Ctx (hd.heap_1 w.params) b mg mb) (hp : Hp b ps H s) (rm : Rm 3 A) (hl : PlAt H x its) (hnew : PrAt H new.1 new.2) (hlen : its.length < 900) (hH : HpOk d its)
    (k : ∀ jts s' n, HpOk d jts → jts.Perm (new :: its) → Hp b ps (upd H x (lsO (jts.map irf) n)) s' → Q .none s') : wpAny (model prog w) A (call (.ref 28) [.ref x, irf new]) Q E s :=
  heappush_spec C hp rm hl.1 hl.2 hnew hlen fun s' n hp' => k _ s' n (push_ok hH).1 (push_ok hH).2 hp'
theorem heapreplace_perm (C : Ctx (hd.heap_1 w.params) b mg mb) (hp : Hp b ps H s) (rm : Rm 4 A) (hl : PlAt H x its) (hnew : PrAt H new.1 new.2) (hlen : its.length < 900) (hH : HpOk d its) (h0 : its[0]? = some it0)
    (k : ∀ jts s' n, HpOk d jts → (it0 :: jts).Perm (new :: its) → Hp b ps (upd H x (lsO (jts.map irf) n)) s' → Q (irf it0) s') : wpAny (model prog w) A (call (.ref 42) [.ref x, irf new]) Q E s :=
  heapreplace_spec C hp rm hl.1 hl.2 hnew h0 hlen fun s' n hp' => k _ s' n (replace_ok hH h0).1 (replace_ok hH h0).2 hp'
theorem heappop_perm (C : Ctx (hd.heap_1 w.params) b mg mb) (hp : Hp b ps H s) (rm : Rm 4 A) (hl : PlAt H x its) (hlen : its.length < 900) (hH : HpOk d its) (h0 : its[0]? = some it0)
    (k : ∀ jts s' n, HpOk d jts → (it0 :: jts).Perm its → Hp b ps (upd H x (lsO (jts.map irf) n)) s' → Q (irf it0) s') : wpAny (model prog w) A (call (.ref 35) [.ref x]) Q E s := by
  rcases List.eq_nil_or_concat its with rfl | ⟨its', last, rfl⟩
  · cases h0
  rw [List.concat_eq_append] at *
  refine heappop_spec C hp rm hl.1 hl.2 (by simp at hlen; exact om105 hlen) (fun he s' n hp' => ?_) (fun old ho s' n hp' => ?_)
  · subst he
    simp at h0
    subst h0
    exact k [] s' n (fun i h1 h2 => by simp at h2) (by simp) hp'
  · have : old = it0 := by
      rw [List.getElem?_append_left (List.getElem?_eq_some_iff.mp ho).1, ho] at h0
      exact Option.some.inj h0
    subst this
    exact k _ s' n (pop_ok hH ho).1 (pop_ok hH ho).2 hp'
end
end

section
set_option maxRecDepth 100000
section
variable {prog : Program} {w : World} {A : Around} {E : Value → Shared → Prop} {mg mb : Str → Option Value}
  {b s : Shared} {ps : List Prot} {H : HP} {L x xv xr xn : Addr} {l : List (Str × Value)} {Q : Value → Shared → Prop} {rt : List (Addr × R3)} {vals rnds : List Int} {n : Nat} {rank : Nat → Nat} {G : Nat → Nat → Int}
/-- the invariant of the great loop -/
noncomputable def BwI (n : Nat) (rs : List R3) (rank : Nat → Nat) (G : Nat → Nat → Int) (H H' : HP) (sh hp mt go : Addr) (S : Nat → Int) (D W : List Nat) : Prop :=
  ∃ (its gts : List It) (M : List Nat) (shs : List Int), BwAt H H' sh hp mt go its gts (M.map fun k : Nat => (k : Int)) shs ∧ BInv n (rA rs) (rB rs) rank G S D W ∧ its.map (·.2) = W.map (key rank) ∧ gts.map (·.2) = D.map (key rank) ∧
    (∀ x : Nat, x ∈ M ↔ x ∈ D ++ W) ∧ shs.length = n ∧ (∀ i : Nat, i < n → gat shs i = S i) ∧ HpOk (0, (0, 0)) its ∧ M.Nodup
set_option maxHeartbeats 4000000 in
theorem backward_spec (C : Ctx (hd.heap_1 w.params) b mg mb) (hp0 : Hp b ps H s) (rm : Rm 8 A) (hr : RlAt H x rt) (hwf : WfR (rt.map (·.2))) (hn : rt.length = n) (hv : IlAt H xv vals) (hvl : vals.length = n) (hvr : Rng vals)
    (hrd : IlAt H xr rnds) (hrl : rnds.length = n) (hrk : ∀ k : Nat, k < n → gat rnds k = rank k) (hnm : IlAt H xn (nms n))
    (hS : Sheet n (rA (rt.map (·.2))) (rB (rt.map (·.2))) (slP (rt.map (·.2)) vals) (slQ (rt.map (·.2)) vals) rank G)
    (q : ∀ H' T sh go gts shs S D s', (∀ a o, H a = some o → H' a = some o) → TpAt H' T [.ref sh, .ref go] → IlAt H' sh shs → PlAt H' go gts → shs.length = n → (∀ i : Nat, i < n → gat shs i = S i) →
      BInv n (rA (rt.map (·.2))) (rB (rt.map (·.2))) rank G S D [] → gts.map (·.2) = D.map (key rank) → Hp b ps H' s' → Q (.ref T) s') :
    wpAny (model prog w) A (call (.ref 216) [.ref x, .ref xv, .ref xr, .ref xn]) Q E s := by
  have hn4 := hS.len
  refine call_def [("names", .ref xn), ("rounds", .ref xr), ("values", .ref xv), ("rules", .ref x)] C hp0 (by with_unfolding_all rfl) rfl rfl rfl (by kernel_rfl!) rm.room (BindsTo.of_eq rfl) (by decide) (locs rfl) ?_
  intro L s env he a
  dsimp only at he
  have rm1 : Rm 7 (A.deeper env) := rm.deeper
  generalize A.deeper env = A1 at *
  -- shares = [0] * len(rules)
  walk_at "st"
  refine new_il a (.cons _ _ .nil) (by simp) ?_
  intro s z0 o0 hz0 iz0 a
  walk_at "go"
  refine ev_call_b C a he (g_len w) boot_len ?_
  walk_at "go"
  refine do_lenN a (hr.fresh hz0).1 (n := n) (by rw [List.length_map]; exact hn) (by exact om99 hn4) ?_
  intro t1 s a
  walk_at "go"
  refine mul_il a iz0 (by exact om100 hn4) ?_
  intro s sh o1 hsh i1 a
  walk_at "go"
  have sub1 : ∀ c o, H c = some o → upd (upd H z0 o0) sh o1 c = some o := fun c o e => upd_of (upd_of e hz0) hsh
  have nsh : H sh = none := none_of (fun c o e => upd_of e hz0) hsh
  generalize upd (upd H z0 o0) sh o1 = H1 at *
  -- shares[-1] = 1
  walk_at "st"
  refine set_il_last a i1 (by simp; exact om86 hn4) (by simp; exact om98 hn4) ?_
  intro s vs1 m1 iv1 a
  walk_at "go"
  rw [List.length_replicate] at iv1
  have sub2 : ∀ c o, H c = some o → upd H1 sh (lsO vs1 m1) c = some o := sub_upd sub1 nsh
  have i2 : IlAt (upd H1 sh (lsO vs1 m1)) sh ((List.replicate n 0).set (n - 1) 1) := ⟨_, LsAt.self, iv1⟩
  generalize upd H1 sh (lsO vs1 m1) = H2 at *
  -- heap = [(-rounds[-1], names[-1])]
  walk_at "st"
  refine il_last a (hrd.mono fun o e => sub2 _ o e) (gat_last hrl (by exact om86 hn4)) ?_
  intro t2
  walk_at "go"
  refine il_last a (hnm.mono fun o e => sub2 _ o e) (gat_last nms_len (by exact om86 hn4)) ?_
  intro t3
  walk_at "go"
  rw [hrk (n - 1) (by exact om96 hn4), nms_gat (by exact om96 hn4)]
  refine new_pr a ?_
  intro s T0 oT hT0 pT0 a
  walk_at "go"
  refine new_pl (its := [(T0, key rank (n - 1))]) a (fun i hi => by rw [List.mem_singleton] at hi; subst hi; exact pT0) (by simp) ?_
  intro s hp oh hhp p3 a
  walk_at "go"
  have sub3 : ∀ c o, H c = some o → upd (upd H2 T0 oT) hp oh c = some o := fun c o e => upd_of (upd_of (sub2 c o e) hT0) hhp
  have nhp : H hp = none := none_of (fun c o e => upd_of (sub2 c o e) hT0) hhp
  have shp : sh ≠ hp := (i2.fresh hT0).ne_none hhp
  have i3 := (i2.fresh (o := oT) hT0).fresh (o := oh) hhp
  generalize upd (upd H2 T0 oT) hp oh = H3 at *
  -- met = [len(rules) - 1]
  walk_at "st"
  refine ev_call_b C a he (g_len w) boot_len ?_
  walk_at "go"
  refine do_lenN a (hr.mono sub3).1 (n := n) (by rw [List.length_map]; exact hn) (by exact om99 hn4) ?_
  intro t4 s a
  walk_at "go"
  rw [show (n : Int) - 1 = ((n - 1 : Nat) : Int) from by exact om93 hn4]
  refine new_il a (.cons _ _ .nil) (by simp) ?_
  intro s mt om hmt i4 a
  walk_at "go"
  -- gone = []
  walk_at "st"
  refine new_pl (its := []) a (fun i hi => by cases hi) (by simp) ?_
  intro s go og hgo p5 a
  walk_at "go"
  have AP : Ap4 H sh hp mt go := ⟨nsh, nhp, none_of sub3 hmt, none_of (fun c o e => upd_of (sub3 c o e) hmt) hgo, shp, i3.ne_none hmt, (i3.fresh hmt).ne_none hgo, p3.ne_none hmt, (p3.fresh hmt).ne_none hgo, i4.ne_none hgo⟩
  have BW : BwAt H (upd (upd H3 mt om) go og) sh hp mt go [(T0, key rank (n - 1))] [] ([n - 1].map fun k : Nat => (k : Int)) ((List.replicate n 0).set (n - 1) 1) :=
    ⟨fun c o e => upd_of (upd_of (sub3 c o e) hmt) hgo, (i3.fresh hmt).fresh hgo, (p3.fresh hmt).fresh hgo, i4.fresh hgo, p5⟩
  generalize upd (upd H3 mt om) go og = H4 at *
  -- the loop
  walk_at "cons"
  refine ex_whileP (fun m s => ∃ H' S D W, m = n - D.length ∧ At b ps L H' [("gone", .ref go), ("met", .ref mt), ("heap", .ref hp), ("shares", .ref sh), ("names", .ref xn), ("rounds", .ref xr), ("values", .ref xv), ("rules", .ref x)] s ∧ BwI n (rt.map (·.2)) rank G H H' sh hp mt go S D W)
    (fun s => ∃ H' S D, At b ps L H' [("gone", .ref go), ("met", .ref mt), ("heap", .ref hp), ("shares", .ref sh), ("names", .ref xn), ("rounds", .ref xr), ("values", .ref xv), ("rules", .ref x)] s ∧ BwI n (rt.map (·.2)) rank G H H' sh hp mt go S D []) ?_ n ?_ ?_
  · intro m s hI9
    walk_at "gp"
    obtain ⟨H', S, D, W, rfl, a, its, gts, M, shs, hB, hV, e1, e2, hM, hl, hg, hH, hMn⟩ := hI9
    have hroom := BInv.room hS hV
    have hMl : M.length ≤ n := nodup_len hMn fun y hy => hV.lt y ((hM y).mp hy)
    have hgl : gts.length = D.length := by have := congrArg List.length e2; simpa using this
    -- heap != [] and len(gone) < len(rules)
    walk_at "go"
    refine new_pl (its := []) a (fun i hi => by cases hi) (by simp) ?_
    intro s z oz hz pz a
    walk_at "go"
    refine cmp_neP a (rm1.u64 (by decide)) (hB.hps.fresh hz) pz ?_
    walk_at "go"
    have a := a.weak (H' := H') fun c o e => upd_of e hz
    clear pz
    cases its with
    | nil =>
      refine ite_false' ?_
      refine Pq.go hKP ?_
      refine ite_false' ?_
      have hW : W = [] := by cases W with | nil => rfl | cons _ _ => cases e1
      subst hW
      exact ⟨H', S, D, a, [], gts, M, shs, hB, hV, e1, e2, hM, hl, hg, hH, hMn⟩
    | cons it0 rest =>
      obtain ⟨k, W0, rfl⟩ : ∃ k W0, W = k :: W0 := by cases W with | nil => cases e1 | cons k W0 => exact ⟨k, W0, rfl⟩
      have hk0 : it0.2 = key rank k := by simp only [List.map_cons, List.cons.injEq] at e1; exact e1.1
      have hkn : k < n := hV.lt k (by simp)
      simp only [List.length_cons] at hroom
      refine ite_true' ?_
      walk_at "go"
      refine ev_call_b C a he (g_len w) boot_len ?_
      walk_at "go"
      refine do_lenN a hB.gos.1 (n := D.length) (by rw [List.length_map]; exact hgl) (by exact om313 hn4 hroom) ?_
      intro t1 s a
      walk_at "go"
      refine ev_call_b C a he (g_len w) boot_len ?_
      walk_at "go"
      refine do_lenN a (hr.mono hB.sub).1 (n := n) (by rw [List.length_map]; exact hn) (by exact om99 hn4) ?_
      intro t2 s a
      walk_at "go"
      refine ite_dec (fun _ => ?_) (fun h => absurd (show (D.length : Int) < n by exact om327 hroom) h)
      walk_at "go"
      refine ite_true' ?_
      walk_at "gp"
      -- k = names.index(heap[0][1])
      walk_at "st"
      refine ev_index ?_
      walk_at "go"
      refine ⟨_, _, _, _, _, xn, nms n, rfl, a, hnm.mono fun o e => hB.sub _ o e, by rw [nms_len]; exact om98 hn4, ?_⟩
      walk_at "go"
      refine sub_list a hB.hps.1 (v := irf it0) (by exact om8) (by exact om6) rfl ?_
      walk_at "go"
      obtain ⟨ta, tb, hT0⟩ := hB.hps.2 it0 (.head _)
      refine sub_tuple a hT0 (by exact om2) (j := 1) rfl rfl ?_
      have hnk : it0.2.2 = nm k := by rw [hk0]; rfl
      refine ⟨_, _, rfl, by rw [hnk]; exact List.mem_of_getElem? (nms_get hkn), a, ?_⟩
      intro t3 s a
      rw [hnk, nms_idx hn4.2 hkn]
      walk_at "go"
      -- kind, a, b = rules[k]
      walk_at "cons"
      refine Assign_Tuple ?_ (by with_unfolding_all rfl)
      walk_at "go"
      have hkr : k < rt.length := by exact om348 hkn hn
      refine sub_list a (hr.mono hB.sub).1 (v := .ref rt[k].1) (by exact om49) (by exact om184 hn4 hkn) (by simp [hkr]) ?_
      have ht3 := (hr.mono hB.sub).2 rt[k] (List.getElem_mem hkr)
      refine as_t3 rm1.hand a he ht3 ?_
      intro q1 q2 q3 s a
      have hw := hwf k rt[k].2 (by simp [hkr])
      have hgetD : (rt.map (·.2)).getD k r0 = rt[k].2 := by simp [hkr]
      have hA0 : rA (rt.map (·.2)) k = rt[k].2.2.1.toNat := by unfold rA; rw [hgetD]
      have hB0 : rB (rt.map (·.2)) k = rt[k].2.2.2.toNat := by unfold rB; rw [hgetD]
      have hP0 : slP (rt.map (·.2)) vals k = if rt[k].2.1 = 2 then gat vals rt[k].2.2.2 else 1 := by unfold slP; rw [hgetD]
      have hQ0 : slQ (rt.map (·.2)) vals k = if rt[k].2.1 = 0 then 1 else if rt[k].2.1 = 1 then -1 else gat vals rt[k].2.2.1 := by unfold slQ; rw [hgetD]
      clear hgetD ht3
      generalize rt[k].2 = R at *
      generalize hrs : rt.map (·.2) = rs at *
      obtain ⟨hw1, hw2, hw3, -⟩ := hw
      -- fresh = []
      walk_at "st"
      refine new_pl (its := []) a (fun i hi => by cases hi) (by simp) ?_
      intro s fr ofr hfr pfr a
      walk_at "go"
      have hB1 := hB.fresh (o := ofr) hfr
      have nfr : H fr = none := none_of hB.sub hfr
      have fsh : fr ≠ sh := (hB.shs.ne_none hfr).symm
      have fhp : fr ≠ hp := (hB.hps.ne_none hfr).symm
      have fmt : fr ≠ mt := (hB.mts.ne_none hfr).symm
      have fgo : fr ≠ go := (hB.gos.ne_none hfr).symm
      generalize upd H' fr ofr = H1' at *
      refine ex_cut (fun s => ∃ H'' fts shs', At b ps L H'' [("fresh", .ref fr), ("gone", .ref go), ("met", .ref mt), ("heap", .ref hp), ("shares", .ref sh), ("names", .ref xn), ("rounds", .ref xr), ("values", .ref xv), ("rules", .ref x)] s ∧
        BwAt H H'' sh hp mt go (it0 :: rest) gts ((M ++ fresh (rA rs) (rB rs) M k).map fun k : Nat => (k : Int)) shs' ∧ PlAt H'' fr fts ∧ fts.map (·.2) = (fresh (rA rs) (rB rs) M k).map (key rank) ∧ shs'.length = n ∧ ∀ i : Nat, i < n → gat shs' i = Snext (rA rs) (rB rs) (slP rs vals) (slQ rs vals) S k i) ?_ ?_
      · walk_at "go"
        refine ite_dec (fun h3 => ?_) (fun h3 => ?_)
        · have h3' : 3 ≤ k := by exact om71 h3
          obtain ⟨ha0, ha1, hb0, hb1⟩ := hw3 h3'
          -- slopes
          walk_at "st"
          refine new_pr a ?_
          intro s T1 o1 hT1 pT1 a
          walk_at "go"
          refine new_pr a ?_
          intro s T2 o2 hT2 pT2 a
          walk_at "go"
          have hv1 : ∀ c o, H c = some o → upd (upd H1' T1 o1) T2 o2 c = some o := fun c o e => upd_of (upd_of (hB1.sub c o e) hT1) hT2
          refine il_sub a (hv.mono fun o e => hv1 _ o e) (by exact om521 hb0) (by exact om497 hvl hkn hb1) (by exact om188 hn4 hvl) ?_
          intro z1
          walk_at "go"
          refine il_sub a (hv.mono fun o e => hv1 _ o e) (by exact om468 h3 ha0) (by exact om497 hvl hkn ha1) (by exact om188 hn4 hvl) ?_
          intro z2
          walk_at "go"
          refine new_pr a ?_
          intro s T3 o3 hT3 pT3 a
          walk_at "go"
          refine new_list a (by simp) ?_
          intro s TL hTL a
          walk_at "go"
          have hB2 := (((hB1.fresh (o := o1) hT1).fresh (o := o2) hT2).fresh (o := o3) hT3).fresh (o := lsO [.ref T1, .ref T2, .ref T3] 0) hTL
          have pf2 := (((pfr.fresh (o := o1) hT1).fresh (o := o2) hT2).fresh (o := o3) hT3).fresh (o := lsO [.ref T1, .ref T2, .ref T3] 0) hTL
          obtain ⟨Ts, hTs1, pTs⟩ : ∃ Ts, [Value.ref T1, .ref T2, .ref T3][R.1.toNat]? = some (.ref Ts) ∧ PrAt (upd (upd (upd (upd H1' T1 o1) T2 o2) T3 o3) TL (lsO [.ref T1, .ref T2, .ref T3] 0)) Ts (slP rs vals k, slQ rs vals k) := by
            have hc : R.1 = 0 ∨ R.1 = 1 ∨ R.1 = 2 := by exact om525 hw1 hw2
            rw [hP0, hQ0]
            rcases hc with e | e | e
            · exact ⟨T1, by rw [e]; rfl, by rw [e]; exact ((pT1.fresh hT2).fresh hT3).fresh hTL⟩
            · exact ⟨T2, by rw [e]; rfl, by rw [e]; exact (pT2.fresh hT3).fresh hTL⟩
            · exact ⟨T3, by rw [e]; rfl, by rw [e]; exact pT3.fresh hTL⟩
          refine sub_list a LsAt.self (v := .ref Ts) (by exact om521 hw1) (by exact om536 hw2) hTs1 ?_
          walk_at "go"
          generalize upd (upd (upd (upd H1' T1 o1) T2 o2) T3 o3) TL (lsO [.ref T1, .ref T2, .ref T3] 0) = H2' at *
          -- for part, slope in zip((a, b), slopes)
          walk_at "cons"
          refine wpAny_For ?_ (fun _ => rfl)
          refine ev_call_t C (by assumption) he (g_zip w) boot_zip ?_
          walk_at "go"
          refine new_tuple a (by simp) ?_
          intro s Tp hTp a
          walk_at "go"
          obtain ⟨tP, tQ, nS, eTs⟩ := pTs
          refine for_zip (us := [.int R.2.1 q2, .int R.2.2 q3]) (vs := [.int (slP rs vals k) tP, .int (slQ rs vals k) tQ]) (fun i H2 l => ∃ fts shs', BwAt H H2 sh hp mt go (it0 :: rest) gts ((M ++ stF (rA rs) (rB rs) M k i).map fun k : Nat => (k : Int)) shs' ∧ PlAt H2 fr fts ∧ fts.map (·.2) = (stF (rA rs) (rB rs) M k i).map (key rank) ∧ shs'.length = n ∧
              (∀ j : Nat, j < n → gat shs' j = stS (rA rs) (rB rs) (slP rs vals) (slQ rs vals) S k i j) ∧ H2 Tp = some (tpO [.int R.2.1 q2, .int R.2.2 q3] 0) ∧ H2 Ts = some (tpO [.int (slP rs vals k) tP, .int (slQ rs vals k) tQ] nS) ∧
              Names l [("k", .int k t3), ("fresh", .ref fr), ("gone", .ref go), ("met", .ref mt), ("heap", .ref hp), ("shares", .ref sh), ("names", .ref xn), ("rounds", .ref xr), ("values", .ref xv), ("rules", .ref x)]) rm1.hand rfl a ?_ upd_self (upd_of eTs hTp) ⟨0, rfl⟩ ⟨nS, rfl⟩ (fun i H2 l h => by obtain ⟨_, _, _, _, _, _, _, h1, h2, _⟩ := h; exact ⟨h1, h2⟩) ?_ ?_
          · exact ⟨[], shs, by simpa [stF] using hB2.fresh hTp, pf2.fresh hTp, rfl, hl, hg, upd_self, upd_of eTs hTp, by walk_at "names"⟩
          · intro i u v T s ps' H2 l hu hv' hI9 hT a up
            walk_at "gp"
            obtain ⟨fts, shs', hB3, pf3, ef3, hl3, hg3, eTp, eTs', hnm3⟩ := hI9
            have hi2 : i < 2 := (List.getElem?_eq_some_iff.mp hu).1
            obtain ⟨part, slope, tp, ts, rfl, rfl, hpn, hsl, hF, hSt⟩ : ∃ (part : Nat) (slope : Int) (tp ts : Tok), u = .int (part : Int) tp ∧ v = .int slope ts ∧ part < n ∧ (-1009 < slope ∧ slope < 1009) ∧ stF (rA rs) (rB rs) M k (i + 1) = addF M (stF (rA rs) (rB rs) M k i) part ∧
                ∀ j, stS (rA rs) (rB rs) (slP rs vals) (slQ rs vals) S k (i + 1) j = if j = part then (stS (rA rs) (rB rs) (slP rs vals) (slQ rs vals) S k i j + slope * stS (rA rs) (rB rs) (slP rs vals) (slQ rs vals) S k i k) % 1009 else stS (rA rs) (rB rs) (slP rs vals) (slQ rs vals) S k i j := by
              have r1 := hvr.gat R.2.2
              have r2 := hvr.gat R.2.1
              have hc : i = 0 ∨ i = 1 := by exact om116 hi2
              rcases hc with rfl | rfl
              · refine ⟨rA rs k, slP rs vals k, q2, tP, ?_, ?_, ?_, ?_, rfl, fun j => rfl⟩
                · simp at hu; rw [← hu, hA0]; congr 1; exact om470 h3 ha0
                · simp at hv'; rw [← hv']
                · rw [hA0]; exact om492 hkn ha1
                · rw [hP0]; split <;> (first | exact om527 r1 | exact om5)
              · refine ⟨rB rs k, slQ rs vals k, q3, tQ, ?_, ?_, ?_, ?_, rfl, fun j => rfl⟩
                · simp at hu; rw [← hu, hB0]; congr 1; exact om526 hb0
                · simp at hv'; rw [← hv']
                · rw [hB0]; exact om492 hkn hb1
                · rw [hQ0]; split
                  · exact om5
                  · split <;> (first | exact om4 | exact om527 r2)
            have hFl : (stF (rA rs) (rB rs) M k i).length ≤ 2 := stF_len i
            rw [hF] at hKP
            generalize stF (rA rs) (rB rs) M k i = F at *
            generalize stS (rA rs) (rB rs) (slP rs vals) (slQ rs vals) S k (i + 1) = Sx' at *
            generalize stS (rA rs) (rB rs) (slP rs vals) (slQ rs vals) S k i = Sx at *
            have a := a.to hnm3
            refine as_t2 rm1.hand a he ⟨0, upd_self⟩ ?_
            intro s a
            have hB4 := hB3.fresh (o := tpO [.int (part : Int) tp, .int slope ts] 0) hT
            have pf4 := pf3.fresh (o := tpO [.int (part : Int) tp, .int slope ts] 0) hT
            have eTp4 := upd_of (o := tpO [.int (part : Int) tp, .int slope ts] 0) eTp hT
            have eTs4 := upd_of (o := tpO [.int (part : Int) tp, .int slope ts] 0) eTs' hT
            generalize upd H2 T (tpO [.int (part : Int) tp, .int slope ts] 0) = H3' at *
            refine Pq.go hKP ?_
            walk_at "gp"
            refine ex_cut (fun s => ∃ H4' fts', At b ps' L H4' [("slope", .int slope ts), ("part", .int part tp), ("k", .int k t3), ("fresh", .ref fr), ("gone", .ref go), ("met", .ref mt), ("heap", .ref hp), ("shares", .ref sh), ("names", .ref xn), ("rounds", .ref xr), ("values", .ref xv), ("rules", .ref x)] s ∧
              BwAt H H4' sh hp mt go (it0 :: rest) gts ((M ++ addF M F part).map fun k : Nat => (k : Int)) shs' ∧ PlAt H4' fr fts' ∧ fts'.map (·.2) = (addF M F part).map (key rank) ∧ H4' Tp = some (tpO [.int R.2.1 q2, .int R.2.2 q3] 0) ∧ H4' Ts = some (tpO [.int (slP rs vals k) tP, .int (slQ rs vals k) tQ] nS)) ?_ ?_
            · walk_at "go"
              refine cmp_notin a hB4.mts ?_
              walk_at "go"
              have hmem : ((part : Int) ∈ (M ++ F).map fun k : Nat => (k : Int)) ↔ part ∈ M ++ F := by
                rw [List.mem_map]
                constructor
                · rintro ⟨y, hy, e⟩
                  have : y = part := by exact om198 e
                  subst this; exact hy
                · exact fun h => ⟨part, h, rfl⟩
              refine ite_not (fun hin => ?_) (fun hin => ?_)
              · have hin' : part ∉ M ++ F := fun h => hin (hmem.mpr h)
                have hML : ((M ++ F).map fun k : Nat => (k : Int)).length < 1000 := by simp; exact om315 hn4 hMl hFl
                walk_at "st"
                refine ev_append ?_ (by with_unfolding_all rfl) (by with_unfolding_all rfl) (by with_unfolding_all rfl)
                walk_at "go"
                obtain ⟨vm, hvm⟩ := hB4.mts.ls
                refine ⟨_, _, _, _, _, _, _, rfl, by assumption, hvm, ?_⟩
                walk_at "go"
                refine app_il a hB4.mts hML ?_
                intro s vs' n' iv' a
                have hB5 := hB4.setM AP (n := n') iv'
                have pf5 := pf4.upd (o := lsO vs' n') fmt hvm
                have eTp5 := (upd_ne (o := lsO vs' n') (tp_ne_ls ⟨_, eTp4⟩ hvm)).trans eTp4
                have eTs5 := (upd_ne (o := lsO vs' n') (tp_ne_ls ⟨_, eTs4⟩ hvm)).trans eTs4
                generalize upd H3' mt (lsO vs' n') = H5' at *
                walk_at "st"
                refine ev_append ?_ (by with_unfolding_all rfl) (by with_unfolding_all rfl) (by with_unfolding_all rfl)
                walk_at "go"
                refine ⟨_, _, _, _, _, _, _, rfl, by assumption, pf5.1, ?_⟩
                walk_at "go"
                refine il_sub a (hrd.mono fun o e => hB5.sub _ o e) (by exact om49) (by exact om346 hpn hrl) (by exact om188 hn4 hrl) ?_
                intro z1
                walk_at "go"
                refine il_sub a (hnm.mono fun o e => hB5.sub _ o e) (by exact om49) (by rw [nms_len]; exact om231 hpn) (by rw [nms_len]; exact om98 hn4) ?_
                intro z2
                walk_at "go"
                rw [hrk part hpn, nms_gat hpn]
                refine new_pr a ?_
                intro s Tn on hTn pTn a
                walk_at "go"
                have hfl : fts.length < 1000 := by have := congrArg List.length ef3; simp at this; exact om261 this hFl
                refine do_append a (pf5.fresh hTn).1 (by rw [List.length_map]; exact om110 hfl) ?_
                intro s n2 a
                rw [show fts.map irf ++ [Value.ref Tn] = (fts ++ [(Tn, key rank part)]).map irf from by simp] at a
                walk_at "all"
                have hB6 := hB5.fresh (o := on) hTn
                have pf6 := pf5.fresh (o := on) hTn
                refine ⟨rfl, _, fts ++ [(Tn, key rank part)], a.to (by walk_at "names"), ?_, ?_, ?_, ?_, ?_⟩
                · have hadd : addF M F part = F ++ [part] := if_neg hin'
                  rw [hadd, ← List.append_assoc, show ((M ++ F ++ [part]).map fun k : Nat => (k : Int)) = ((M ++ F).map fun k : Nat => (k : Int)) ++ [(part : Int)] from by rw [List.map_append]; rfl]
                  exact hB6.other pf6.1 nfr fsh fhp fmt fgo
                · exact pf6.set (fun i hi => by
                    rcases List.mem_append.mp hi with h | h
                    · exact pf6.2 i h
                    · rw [List.mem_singleton] at h; subst h; exact pTn)
                · have hadd : addF M F part = F ++ [part] := if_neg hin'
                  rw [hadd, List.map_append, List.map_append, ef3]; rfl
                · rw [upd_ne (tp_ne_ls ⟨_, upd_of eTp5 hTn⟩ pf6.1)]; exact upd_of eTp5 hTn
                · rw [upd_ne (tp_ne_ls ⟨_, upd_of eTs5 hTn⟩ pf6.1)]; exact upd_of eTs5 hTn
              · have hin' : part ∈ M ++ F := hmem.mp hin
                have hadd : addF M F part = F := if_pos hin'
                walk_at "go"
                rw [hadd]
                exact ⟨rfl, _, fts, a.to (by walk_at "names"), hB4, pf4, ef3, eTp4, eTs4⟩
            · rintro s ⟨H4', fts', a, hB5, pf5, ef5, eTp5, eTs5⟩
              walk_at "st"
              refine il_sub a hB5.shs (by exact om49) (by exact om346 hpn hl3) (by exact om188 hn4 hl3) ?_
              intro z1
              walk_at "go"
              refine il_sub a hB5.shs (by exact om49) (by exact om346 hkn hl3) (by exact om188 hn4 hl3) ?_
              intro z2
              refine op_mulL a (intBits_le_64 (by exact om503 hsl) (by exact om504 hsl)) ?_
              intro z3 s a
              walk_at "go"
              refine set_il a hB5.shs (by exact om49) (by exact om346 hpn hl3) (by exact om188 hn4 hl3) ?_
              intro s vs' n' iv' a
              walk_at "all"
              obtain ⟨vsh, hvsh⟩ := hB5.shs.ls
              refine ⟨_, _, a, fts', _, hB5.setS AP iv', pf5.upd fsh hvsh, ef5, by simp [hl3], fun j hj => ?_, (upd_ne (tp_ne_ls ⟨_, eTp5⟩ hvsh)).trans eTp5, (upd_ne (tp_ne_ls ⟨_, eTs5⟩ hvsh)).trans eTs5, by walk_at "names"⟩
              rw [Int.toNat_natCast, gat_set (by exact om348 hj hl3), hSt j, hg3 part hpn, hg3 k hkn]
              by_cases e : part = j
              · subst e; rw [if_pos rfl, if_pos rfl]
              · rw [if_neg e, if_neg (fun h => e h.symm), hg3 j hj]
          · rintro s H2 l ⟨fts, shs', hB3, pf3, ef3, hl3, hg3, eTp, eTs', hnm3⟩ a
            have a := a.to hnm3
            walk_at "go"
            walk_at "go"
            refine ⟨rfl, H2, fts, shs', a.to (by walk_at "names"), ?_, pf3, ?_, hl3, ?_⟩
            · rw [← stF_fin h3']; exact hB3
            · rw [← stF_fin h3']; exact ef3
            · intro i hi
              unfold Snext
              rw [if_pos h3']; exact hg3 i hi
        · have h3' : ¬ 3 ≤ k := by exact om142 h3
          walk_at "go"
          have hf0 : fresh (rA rs) (rB rs) M k = [] := if_neg h3'
          refine ⟨rfl, H1', [], shs, a.to (by walk_at "names"), ?_, pfr, ?_, hl, ?_⟩
          · rw [hf0, List.append_nil]; exact hB1
          · rw [hf0]; rfl
          · intro i hi
            unfold Snext
            rw [if_neg h3']; exact hg i hi
      · rintro s ⟨H2', fts, shs', a, hB2, pf2, ef2, hl2, hg2⟩
        have hmin := min_W (W := k :: W0) (fun y hy => by have := hV.lt y (List.mem_append_right _ hy); exact om185 hn4 this) (show k < 11 by exact om185 hn4 hkn) hH rfl hk0 e1
        have hfl : fts.length = (fresh (rA rs) (rB rs) M k).length := by have := congrArg List.length ef2; simpa using this
        have hrl' : rest.length = W0.length := by have := congrArg List.length e1; simpa using this
        have hf2 : (fresh (rA rs) (rB rs) M k).length ≤ 2 := by
          by_cases h3 : 3 ≤ k
          · rw [← stF_fin h3]; exact stF_len 2
          · rw [show fresh (rA rs) (rB rs) M k = [] from if_neg h3]; simp
        have hMn' := fresh_app (A := rA rs) (B := rB rs) (k := k) hMn
        -- what holds when all is done
        have fin : ∀ {s} {H3 : HP} {jts : List It}, At b ps L H3 [("fresh", .ref fr), ("gone", .ref go), ("met", .ref mt), ("heap", .ref hp), ("shares", .ref sh), ("names", .ref xn), ("rounds", .ref xr), ("values", .ref xv), ("rules", .ref x)] s →
            BwAt H H3 sh hp mt go jts (gts ++ [it0]) ((M ++ fresh (rA rs) (rB rs) M k).map fun k : Nat => (k : Int)) shs' → HpOk (0, (0, 0)) jts → (it0 :: jts).Perm (fts ++ (it0 :: rest)) →
            ∃ m, m < n - D.length ∧ ∃ H' S D W, m = n - D.length ∧ At b ps L H' [("gone", .ref go), ("met", .ref mt), ("heap", .ref hp), ("shares", .ref sh), ("names", .ref xn), ("rounds", .ref xr), ("values", .ref xv), ("rules", .ref x)] s ∧ BwI n rs rank G H H' sh hp mt go S D W := by
          intro s H3 jts a hB3 hO hP
          have hp1 : (key rank k :: jts.map (·.2)).Perm ((fresh (rA rs) (rB rs) M k ++ (k :: W0)).map (key rank)) := by
            have := hP.map (·.2)
            rw [List.map_append, ef2, e1, List.map_cons, hk0] at this
            rw [List.map_append]; exact this
          obtain ⟨W', ew, hw'⟩ := next_W (fun y hy => by
            rcases List.mem_append.mp hy with h | h
            · have h1 := mem_fresh h
              have h2 := hS.ab k h1.1 hkn
              rcases h1.2.2 with e | e <;> (first | exact om438 hn4 e h2 hkn | exact om439 hn4 e hkn h2)
            · have := hV.lt y (List.mem_append_right _ h); exact om185 hn4 this) (show k < 11 by exact om185 hn4 hkn) hp1
          refine ⟨n - (D ++ [k]).length, by simp; exact om201 (by assumption), H3, _, D ++ [k], W', rfl, a.to (by walk_at "names"), jts, gts ++ [it0], M ++ fresh (rA rs) (rB rs) M k, shs', hB3, BInv.next hS hV (by simp) hmin hM hw', ew, ?_, ?_, hl2, hg2, hO, hMn'⟩
          · rw [List.map_append, List.map_append, e2]; simp [hk0]
          · intro y
            have h1 : y ∈ k :: W' ↔ y ∈ fresh (rA rs) (rB rs) M k ++ (k :: W0) := hw'.mem_iff
            have h2 := hM y
            simp only [List.mem_append, List.mem_cons, List.not_mem_nil, or_false] at h1 h2 ⊢
            constructor
            · rintro (h | h)
              · rcases h2.mp h with h | h
                · exact .inl (.inl h)
                · rcases h1.mpr (.inr h) with h | h
                  · exact .inl (.inr h)
                  · exact .inr h
              · rcases h1.mpr (.inl h) with h | h
                · exact .inl (.inr h)
                · exact .inr h
            · rintro ((h | h) | h)
              · exact .inl (h2.mpr (.inl h))
              · exact .inl (h2.mpr (.inr (.inl h)))
              · rcases h1.mp (.inr h) with h | h
                · exact .inr h
                · exact .inl (h2.mpr (.inr h))
        -- if fresh == []
        walk_at "st"
        refine new_pl (its := []) a (fun i hi => by cases hi) (by simp) ?_
        intro s z oz hz pz a
        walk_at "go"
        refine cmp_eqP a (rm1.u64 (by decide)) (pf2.fresh hz) pz ?_
        walk_at "go"
        have a := a.weak (H' := H2') fun c o e => upd_of e hz
        clear pz
        cases fts with
        | nil =>
          refine ite_true' ?_
          walk_at "st"
          refine ev_append ?_ (by with_unfolding_all rfl) (by with_unfolding_all rfl) (by with_unfolding_all rfl)
          walk_at "go"
          refine ⟨_, _, _, _, _, _, _, rfl, a, hB2.gos.1, ?_⟩
          refine ev_call_fn C a he (g_heappop w) (by with_unfolding_all rfl) rfl ?_
          walk_at "go"
          refine ⟨a.kept, ?_⟩
          obtain ⟨pp, hpc, back⟩ := a.call
          refine heappop_perm C hpc (rm1.mono (by decide)) hB2.hps (by simp; exact om403 hn4 hrl' hroom) hH rfl ?_
          intro jts s' m' hO hP hp'
          have a := back _ _ hp'
          have hjt : ∀ i ∈ jts, PrAt H2' i.1 i.2 := fun i hi => hB2.hps.2 i (hP.mem_iff.mp (.tail _ hi))
          have hB3 := hB2.setH AP (n := m') hjt
          have hp0' : PrAt (upd H2' hp (lsO (jts.map irf) m')) it0.1 it0.2 := (hB2.hps.2 it0 (.head _)).upd ((hB2.hps.2 it0 (.head _)).ne_ls hB2.hps.1)
          generalize upd H2' hp (lsO (jts.map irf) m') = H3' at *
          refine do_append a hB3.gos.1 (by rw [List.length_map]; exact om312 hn4 (by assumption) hgl) ?_
          intro s m2 a
          rw [show gts.map irf ++ [irf it0] = (gts ++ [it0]).map irf from by simp] at a
          walk_at "all"
          exact fin (a.to (by walk_at "names")) (hB3.setG AP (fun i hi => by
            rcases List.mem_append.mp hi with h | h
            · exact hB3.gos.2 i h
            · rw [List.mem_singleton] at h; subst h; exact hp0')) hO hP
        | cons ft0 ftr =>
          refine ite_false' ?_
          walk_at "st"
          refine ev_append ?_ (by with_unfolding_all rfl) (by with_unfolding_all rfl) (by with_unfolding_all rfl)
          walk_at "go"
          refine ⟨_, _, _, _, _, _, _, rfl, a, hB2.gos.1, ?_⟩
          refine ev_call_fn C a he (g_heapreplace w) (by with_unfolding_all rfl) rfl ?_
          walk_at "go"
          refine sub_list a pf2.1 (v := irf ft0) (by exact om8) (by exact om6) rfl ?_
          walk_at "go"
          refine ⟨a.kept, ?_⟩
          obtain ⟨pp, hpc, back⟩ := a.call
          refine heapreplace_perm (new := ft0) C hpc (rm1.mono (by decide)) hB2.hps (pf2.2 ft0 (.head _)) (by simp; exact om403 hn4 hrl' hroom) hH rfl ?_
          intro jts s' m' hO hP hp'
          have a := back _ _ hp'
          have hjt : ∀ i ∈ jts, PrAt H2' i.1 i.2 := fun i hi => by
            rcases List.mem_cons.mp (hP.mem_iff.mp (.tail _ hi)) with rfl | h
            · exact pf2.2 _ (.head _)
            · exact hB2.hps.2 i h
          have hB3 := hB2.setH AP (n := m') hjt
          have hp0' : PrAt (upd H2' hp (lsO (jts.map irf) m')) it0.1 it0.2 := (hB2.hps.2 it0 (.head _)).upd ((hB2.hps.2 it0 (.head _)).ne_ls hB2.hps.1)
          have pf3 := pf2.upd (o := lsO (jts.map irf) m') fhp hB2.hps.1
          generalize upd H2' hp (lsO (jts.map irf) m') = H3' at *
          refine do_append a hB3.gos.1 (by rw [List.length_map]; exact om312 hn4 (by assumption) hgl) ?_
          intro s m2 a
          rw [show gts.map irf ++ [irf it0] = (gts ++ [it0]).map irf from by simp] at a
          have hB4 := hB3.setG AP (n := m2) (jts := gts ++ [it0]) (fun i hi => by
            rcases List.mem_append.mp hi with h | h
            · exact hB3.gos.2 i h
            · rw [List.mem_singleton] at h; subst h; exact hp0')
          have pf4 := pf3.upd (o := lsO ((gts ++ [it0]).map irf) m2) fgo hB3.gos.1
          generalize upd H3' go (lsO ((gts ++ [it0]).map irf) m2) = H4' at *
          walk_at "go"
          -- for item in fresh[1:]
          walk_at "cons"
          refine wpAny_For ?_ (fun _ => rfl)
          walk_at "go"
          refine wpAny_Slice ?_
          rw [evalPart_some]
          walk_at "go"
          rw [evalPart_none]
          refine wpAny_pure ?_
          refine wpAny_pure ?_
          have hpk : (slicePick ((ft0 :: ftr).map irf).toArray (some 1) none none).toList = ftr.map irf := pick_from' _ 1
          refine sl_tail a pf4.1 (.int _ _) .none (by simp at hfl ⊢; exact om209 hfl hf2) ?_
          intro s y2 hy2 a
          rw [hpk] at a
          have hyhp : y2 ≠ hp := (hB4.hps.ne_none hy2).symm
          refine for_list (fun i H5 l => ∃ kts, BwAt H H5 sh hp mt go kts (gts ++ [it0]) ((M ++ fresh (rA rs) (rB rs) M k).map fun k : Nat => (k : Int)) shs' ∧ HpOk (0, (0, 0)) kts ∧ (it0 :: kts).Perm (ftr.take i ++ ft0 :: it0 :: rest) ∧ H5 y2 = some (lsO (ftr.map irf) 0) ∧ (∀ i ∈ ftr, PrAt H5 i.1 i.2) ∧
            Names l [("fresh", .ref fr), ("gone", .ref go), ("met", .ref mt), ("heap", .ref hp), ("shares", .ref sh), ("names", .ref xn), ("rounds", .ref xr), ("values", .ref xv), ("rules", .ref x)]) rm1.hand a ?_ upd_self ⟨0, rfl⟩ (fun i H5 l h => by obtain ⟨_, _, _, _, h, _⟩ := h; exact h) ?_ ?_ (fun _ _ _ _ _ _ q => wpAny_pure q)
          · exact ⟨jts, hB4.fresh hy2, hO, by simpa using hP, upd_self, fun i hi => (pf4.2 i (.tail _ hi)).fresh hy2, by walk_at "names"⟩
          · intro i v s ps' H5 l hv5 hI9 a up
            walk_at "gp"
            obtain ⟨kts, hB5, hO5, hP5, ey5, pr5, hnm5⟩ := hI9
            have hil : i < ftr.length := by have := (List.getElem?_eq_some_iff.mp hv5).1; simpa using this
            have hvi : v = irf ftr[i] := by rw [List.getElem?_map, List.getElem?_eq_getElem hil] at hv5; exact (Option.some.inj hv5).symm
            subst hvi
            have a := a.to hnm5
            have hkl : kts.length < 900 := by
              have := hP5.length_eq
              have h1 : (ftr.take i).length ≤ ftr.length := (List.take_sublist i ftr).length_le
              simp at this hfl h1
              exact om452 hn4 hroom hrl' hf2 hfl this
            walk_at "go"
            walk_at "st"
            refine ev_call_fn C (by assumption) he (g_heappush w) (by with_unfolding_all rfl) rfl ?_
            walk_at "go"
            refine ⟨a.kept, ?_⟩
            obtain ⟨pp, hpc, back⟩ := a.call
            have hpn := pr5 ftr[i] (List.getElem_mem hil)
            refine heappush_perm (new := ftr[i]) C hpc (rm1.mono (by decide)) hB5.hps hpn hkl hO5 ?_
            intro lts s' m5 hO6 hP6 hp'
            have a := back _ _ hp'
            have hlt : ∀ i ∈ lts, PrAt H5 i.1 i.2 := fun j hj => by
              rcases List.mem_cons.mp (hP6.mem_iff.mp hj) with rfl | h
              · exact hpn
              · exact hB5.hps.2 j h
            walk_at "all"
            refine ⟨_, _, a, lts, hB5.setH AP hlt, hO6, ?_, (upd_ne hyhp).trans ey5, fun j hj => (pr5 j hj).upd ((pr5 j hj).ne_ls hB5.hps.1), by walk_at "names"⟩
            rw [List.take_add_one, List.getElem?_eq_getElem hil, Option.toList_some, List.append_assoc]
            refine (hP6.cons it0).trans ((List.Perm.swap _ _ _).trans ?_)
            refine (hP5.cons ftr[i]).trans ?_
            show (ftr[i] :: (ftr.take i ++ _)).Perm (ftr.take i ++ ftr[i] :: _)
            exact List.perm_middle.symm
          · rintro s H5 l ⟨kts, hB5, hO5, hP5, ey5, pr5, hnm5⟩ a
            have a := a.to hnm5
            walk_at "go"
            walk_at "go"
            rw [List.take_of_length_le (by simp)] at hP5
            walk_at "go"
            exact fin a hB5 hO5 (hP5.trans List.perm_middle)
  · rename_i a
    refine ⟨H4, _, [], [n - 1], by simp, a.to (by walk_at "names"), _, _, [n - 1], _, BW, BInv.start hS, rfl, rfl, by simp, by simp, fun i hi => ?_, ?_, ?_⟩
    · rw [gat_set (by simpa using hi), gat_rep hi]
      by_cases e : i = n - 1
      · subst e; simp
      · rw [if_neg (fun h => e h.symm), if_neg e]
    · intro i h1 h2
      simp at h2; exact om454 h1 h2
    · simp
  · rintro s ⟨H', S, D, a, its, gts, M, shs, hB, hV, e1, e2, hM, hl, hg, hH, hMn⟩
    walk_at "all"
    refine new_tuple a (by simp) ?_
    intro s T hT a
    walk_at "all"
    exact q _ T sh go gts shs S D _ (fun c o e => upd_of (hB.sub c o e) hT) ⟨0, upd_self⟩ (hB.shs.fresh hT) (hB.gos.fresh hT) hl hg hV e2 a.hp
end
end

section
/-! the graph that the sorter is told -/
noncomputable def ix (j : Int) : Nat := ((j - 3) * 8 % 11).toNat
theorem ix_nm {k : Nat} (h : k < 11) : ix (nm k) = k := by unfold ix nm; exact om115 h
theorem nm_range (k : Nat) : 0 ≤ nm k ∧ nm k < 11 := by unfold nm; exact om48
/-- what has been told: each of is behind its two -/
structure GI (A B : Nat → Nat) (is : List Nat) (keys : List Int) (np : Int → Int) (su : Int → List Int) : Prop where
  nodup : keys.Nodup
  mem : ∀ j, j ∈ keys ↔ ∃ i ∈ is, j = nm i ∨ j = nm (A i) ∨ j = nm (B i)
  np : ∀ j, np j = if j ∈ is.map nm then 2 else 0
  su : ∀ j, su j = is.flatMap fun i => List.replicate ([nm (A i), nm (B i)].count j) (nm i)
  len : keys.length ≤ 3 * is.length
theorem addK_nodup {keys : List Int} {k : Int} (h : keys.Nodup) : (addK keys k).Nodup := by
  unfold addK
  split
  · exact h
  · rename_i hn
    rw [List.nodup_append]
    exact ⟨h, by simp, fun x hx y hy e => by rw [List.mem_singleton] at hy; subst hy; subst e; exact hn hx⟩
theorem mem_addK' {keys : List Int} {k j : Int} : j ∈ addK keys k ↔ j ∈ keys ∨ j = k := by
  unfold addK
  split
  · rename_i h
    exact ⟨.inl, fun q => q.elim id fun e => e ▸ h⟩
  · simp
theorem addK_len' {keys : List Int} {k : Int} : (addK keys k).length ≤ keys.length + 1 := by unfold addK; split <;> simp
section
variable {A B : Nat → Nat} {is : List Nat} {keys : List Int} {np : Int → Int} {su : Int → List Int}
theorem GI.nil : GI A B [] [] (fun _ => 0) (fun _ => []) := ⟨List.nodup_nil, fun j => by simp, fun j => by simp, fun j => rfl, by simp⟩
theorem GI.su_len (g : GI A B is keys np su) (j : Int) : (su j).length ≤ 2 * is.length := by
  rw [g.su]
  generalize is = l
  induction l with
  | nil => simp
  | cons i r ih =>
    rw [List.flatMap_cons, List.length_append, List.length_replicate, List.length_cons]
    have : ([nm (A i), nm (B i)].count j) ≤ 2 := List.count_le_length
    exact om357 this ih
theorem GI.add (g : GI A B is keys np su) {k : Nat} (hk : nm k ∉ is.map nm) :
    GI A B (is ++ [k]) ([nm (A k), nm (B k)].foldl addK (addK keys (nm k))) (fun j => if j = nm k then np (nm k) + ([nm (A k), nm (B k)].length : Nat) else np j) (suAdd su [nm (A k), nm (B k)] (nm k)) := by
  refine ⟨addK_nodup (addK_nodup (addK_nodup g.nodup)), fun j => ?_, fun j => ?_, fun j => ?_, ?_⟩
  · show j ∈ addK (addK (addK keys (nm k)) (nm (A k))) (nm (B k)) ↔ _
    rw [mem_addK', mem_addK', mem_addK', g.mem]
    constructor
    · rintro (((⟨i, hi, h⟩ | h) | h) | h)
      · exact ⟨i, List.mem_append_left _ hi, h⟩
      · exact ⟨k, by simp, .inl h⟩
      · exact ⟨k, by simp, .inr (.inl h)⟩
      · exact ⟨k, by simp, .inr (.inr h)⟩
    · rintro ⟨i, hi, h⟩
      rcases List.mem_append.mp hi with hi | hi
      · exact .inl (.inl (.inl ⟨i, hi, h⟩))
      · rw [List.mem_singleton] at hi; subst hi
        rcases h with h | h | h
        · exact .inl (.inl (.inr h))
        · exact .inl (.inr h)
        · exact .inr h
  · show (if j = nm k then np (nm k) + 2 else np j) = _
    rw [List.map_append, g.np, g.np]
    simp only [List.map_cons, List.map_nil, List.mem_append, List.mem_singleton]
    by_cases e : j = nm k
    · subst e
      rw [if_pos rfl, if_neg hk, if_pos (.inr rfl)]; rfl
    · rw [if_neg e]
      by_cases h : j ∈ is.map nm
      · rw [if_pos h, if_pos (.inl h)]
      · rw [if_neg h, if_neg (by rintro (q | q) <;> contradiction)]
  · unfold suAdd
    rw [List.flatMap_append, g.su]
    simp
  · show (addK (addK (addK keys (nm k)) (nm (A k))) (nm (B k))).length ≤ _
    have h1 := addK_len' (keys := keys) (k := nm k)
    have h2 := addK_len' (keys := addK keys (nm k)) (k := nm (A k))
    have h3 := addK_len' (keys := addK (addK keys (nm k)) (nm (A k))) (k := nm (B k))
    have h4 := g.len
    simp
    exact om443 h3 h2 h1 h4
end
/-- the graph, all told -/
structure GF (n : Nat) (A B : Nat → Nat) (keys : List Int) (np : Int → Int) (su : Int → List Int) : Prop where
  nodup : keys.Nodup
  mem : ∀ j, j ∈ keys ↔ ∃ i, i < n ∧ j = nm i
  np : ∀ i, i < n → np (nm i) = if 3 ≤ i then 2 else 0
  suc : ∀ i, i < n → ∀ j, (su j).count (nm i) = if 3 ≤ i then [nm (A i), nm (B i)].count j else 0
  sum : ∀ j x, x ∈ su j → ∃ i, 3 ≤ i ∧ i < n ∧ x = nm i ∧ (j = nm (A i) ∨ j = nm (B i))
  slen : ∀ j, (su j).length ≤ 16
section
variable {n : Nat} {A B : Nat → Nat} {keys : List Int} {np : Int → Int} {su : Int → List Int} {rank : Nat → Nat}
theorem count_flat {f : Nat → Nat} (hn : n ≤ 11) {i : Nat} (hi : i < n) : ∀ is : List Nat, is.Nodup → (∀ x ∈ is, x < n) → (is.flatMap fun i => List.replicate (f i) (nm i)).count (nm i) = if i ∈ is then f i else 0 := by
  intro is
  induction is with
  | nil => intro _ _; simp
  | cons a r ih =>
    intro hnd hlt
    rw [List.flatMap_cons, List.count_append, ih hnd.tail (fun x hx => hlt x (.tail _ hx))]
    have ha := hlt a (.head _)
    have har : a ∉ r := by
      have := List.nodup_cons.mp hnd
      exact this.1
    by_cases e : i = a
    · subst e
      rw [List.count_replicate_self, if_neg har, if_pos (.head _)]; rfl
    · have : ¬ nm a = nm i := fun h => e (nm_inj (by exact om242 ha hn) (by exact om242 hi hn) h).symm
      rw [List.count_replicate]
      simp only [List.mem_cons, e, false_or, beq_iff_eq, this, if_false, Nat.zero_add]
theorem GI.fin {is : List Nat} (hn : 4 ≤ n ∧ n ≤ 11) (hab : ∀ k, 3 ≤ k → k < n → A k < k ∧ B k < k) (g : GI A B is keys np su) (his : ∀ i, i ∈ is ↔ 3 ≤ i ∧ i < n) (hnd : is.Nodup) :
    GF n A B (addK (addK (addK keys (nm 0)) (nm 1)) (nm 2)) np su := by
  have hlt : ∀ x ∈ is, x < n := fun x hx => ((his x).mp hx).2
  have hlen : is.length ≤ 8 := by
    have h1 : ((is.map fun x => x - 3)).length ≤ 8 := nodup_len (n := 8) (by
      rw [List.Nodup, List.pairwise_map]
      refine List.Pairwise.imp_of_mem ?_ hnd
      intro x y hx hy hxy
      have := (his x).mp hx
      have := (his y).mp hy
      exact om307 (by assumption) this hxy) (by
      intro x hx
      obtain ⟨y, hy, rfl⟩ := List.mem_map.mp hx
      have := (his y).mp hy
      exact om176 this hn)
    simpa using h1
  refine ⟨addK_nodup (addK_nodup (addK_nodup g.nodup)), fun j => ?_, fun i hi => ?_, fun i hi j => ?_, fun j x hx => ?_, fun j => ?_⟩
  · rw [mem_addK', mem_addK', mem_addK', g.mem]
    constructor
    · rintro (((⟨i, hi, h⟩ | h) | h) | h)
      · have hi' := (his i).mp hi
        have := hab i hi'.1 hi'.2
        rcases h with h | h | h
        · exact ⟨i, hi'.2, h⟩
        · exact ⟨A i, by exact om398 hi' this, h⟩
        · exact ⟨B i, by exact om399 hi' this, h⟩
      · exact ⟨0, by exact om86 hn, h⟩
      · exact ⟨1, by exact om87 hn, h⟩
      · exact ⟨2, by exact om89 hn, h⟩
    · rintro ⟨i, hi, h⟩
      have hc : i = 0 ∨ i = 1 ∨ i = 2 ∨ 3 ≤ i := by exact om129
      rcases hc with rfl | rfl | rfl | h3
      · exact .inl (.inl (.inr h))
      · exact .inl (.inr h)
      · exact .inr h
      · exact .inl (.inl (.inl ⟨i, (his i).mpr ⟨h3, hi⟩, .inl h⟩))
  · rw [g.np]
    have : (nm i ∈ is.map nm) ↔ 3 ≤ i := by
      rw [List.mem_map]
      constructor
      · rintro ⟨y, hy, e⟩
        have hy' := (his y).mp hy
        have := nm_inj (by exact om177 hy' hn) (by exact om185 hn hi) e
        exact om308 hy' this
      · exact fun h => ⟨i, (his i).mpr ⟨h, hi⟩, rfl⟩
    by_cases h : 3 ≤ i
    · rw [if_pos (this.mpr h), if_pos h]
    · rw [if_neg (fun q => h (this.mp q)), if_neg h]
  · rw [g.su, count_flat hn.2 hi is hnd hlt]
    by_cases h : 3 ≤ i
    · rw [if_pos ((his i).mpr ⟨h, hi⟩), if_pos h]
    · rw [if_neg (fun q => h ((his i).mp q).1), if_neg h]
  · rw [g.su, List.mem_flatMap] at hx
    obtain ⟨i, hi, hx⟩ := hx
    have hi' := (his i).mp hi
    rw [List.mem_replicate] at hx
    refine ⟨i, hi'.1, hi'.2, hx.2, ?_⟩
    have : 0 < [nm (A i), nm (B i)].count j := Nat.pos_of_ne_zero hx.1
    have := List.count_pos_iff.mp this
    simpa using this
  · have := g.su_len j
    exact om269 this hlen
structure RankD (n : Nat) (A B : Nat → Nat) (rank : Nat → Nat) : Prop where
  len : 4 ≤ n ∧ n ≤ 11
  ab : ∀ k, 3 ≤ k → k < n → A k < k ∧ B k < k
  lo : ∀ k, k < 3 → rank k = 0
  hi : ∀ k, 3 ≤ k → k < n → rank k = 1 + max (rank (A k)) (rank (B k))
theorem RankD.le (d : RankD n A B rank) : ∀ k, k < n → rank k ≤ k := by
  intro k
  induction k using Nat.strongRecOn with
  | ind k ih =>
    intro hk
    by_cases h3 : k < 3
    · rw [d.lo k h3]; exact om63
    · have hab := d.ab k (by exact om149 h3) hk
      have h1 := ih (A k) hab.1 (by exact om413 hab hk)
      have h2 := ih (B k) hab.2 (by exact om425 hk hab)
      rw [d.hi k (by exact om149 h3) hk]; exact om445 h1 h2 hab
theorem GF.ok (g : GF n A B keys np su) (d : RankD n A B rank) : RankOk keys su (fun j => rank (ix j)) := by
  have hn := d.len
  refine ⟨g.nodup, fun k hk j hj => ?_, fun k hk j hj => ?_, fun j hj t ht => ?_⟩
  · obtain ⟨i, h3, hi, rfl, _⟩ := g.sum k j hj
    exact (g.mem _).mpr ⟨i, hi, rfl⟩
  · obtain ⟨i, h3, hi, rfl, hab⟩ := g.sum k j hj
    have hl := d.ab i h3 hi
    have hr := d.hi i h3 hi
    show rank (ix k) < rank (ix (nm i))
    rw [ix_nm (by exact om185 hn hi)]
    rcases hab with rfl | rfl
    · rw [ix_nm (by exact om402 hn hl hi)]; exact om372 hr
    · rw [ix_nm (by exact om405 hn hi hl)]; exact om374 hr
  · obtain ⟨i, hi, rfl⟩ := (g.mem j).mp hj
    have ht' : rank i = t + 1 := by rw [← ht, ix_nm (by exact om185 hn hi)]
    have h3 : 3 ≤ i := by
      rcases Nat.lt_or_ge i 3 with h | h
      · rw [d.lo i h] at ht'; exact om170 ht'
      · exact h
    have hl := d.ab i h3 hi
    have hr := d.hi i h3 hi
    have hc := g.suc i hi
    by_cases hm : rank (A i) = t
    · refine ⟨nm (A i), (g.mem _).mpr ⟨A i, by exact om413 hl hi, rfl⟩, ?_, by show rank (ix (nm (A i))) = t; rw [ix_nm (by exact om402 hn hl hi)]; exact hm⟩
      have := hc (nm (A i))
      rw [if_pos h3] at this
      have hp : 0 < [nm (A i), nm (B i)].count (nm (A i)) := List.count_pos_iff.mpr (by simp)
      exact List.count_pos_iff.mp (by exact om168 hp this)
    · have hm' : rank (B i) = t := by exact om427 hr ht' hm
      refine ⟨nm (B i), (g.mem _).mpr ⟨B i, by exact om425 hi hl, rfl⟩, ?_, by show rank (ix (nm (B i))) = t; rw [ix_nm (by exact om405 hn hi hl)]; exact hm'⟩
      have := hc (nm (B i))
      rw [if_pos h3] at this
      have hp : 0 < [nm (A i), nm (B i)].count (nm (B i)) := List.count_pos_iff.mpr (by simp)
      exact List.count_pos_iff.mp (by exact om168 hp this)
theorem sum_zero' : ∀ {l : List Nat}, (∀ x ∈ l, x = 0) → l.sum = 0
  | [], _ => rfl
  | c :: r, h => by rw [List.sum_cons, h c (.head _), sum_zero' fun x hx => h x (.tail _ hx)]
theorem sum_one {a : Int} : ∀ {l : List Int}, l.Nodup → a ∈ l → (l.map fun k => if k = a then 1 else 0).sum = 1
  | [], _, h => by cases h
  | c :: r, hn, h => by
    have hc := List.nodup_cons.mp hn
    rw [List.map_cons, List.sum_cons]
    by_cases e : c = a
    · subst e
      have : (r.map fun k => if k = c then 1 else 0).sum = 0 := by
        apply sum_zero'
        intro x hx
        obtain ⟨y, hy, rfl⟩ := List.mem_map.mp hx
        rw [if_neg (by rintro rfl; exact hc.1 hy)]
      rw [this, if_pos rfl]
    · rw [if_neg e, sum_one hc.2 (by
        rcases List.mem_cons.mp h with h | h
        · exact absurd h.symm e
        · exact h)]
theorem sum_add {f g : Int → Nat} : ∀ l : List Int, (l.map fun k => f k + g k).sum = (l.map f).sum + (l.map g).sum
  | [] => rfl
  | c :: r => by simp only [List.map_cons, List.sum_cons, sum_add r]; exact om406
theorem GF.ind (g : GF n A B keys np su) (d : RankD n A B rank) {i : Nat} (hi : i < n) : (Mine.ind su keys (nm i) : Int) = np (nm i) := by
  have hn := d.len
  rw [g.np i hi]
  unfold Mine.ind
  by_cases h3 : 3 ≤ i
  · have hl := d.ab i h3 hi
    have e : (keys.map fun k => (su k).count (nm i)) = keys.map fun k => (if k = nm (A i) then 1 else 0) + (if k = nm (B i) then 1 else 0) := by
      apply List.map_congr_left
      intro k _
      rw [g.suc i hi k, if_pos h3]
      simp only [List.count_cons, List.count_nil, beq_iff_eq, Nat.zero_add]
      split <;> split <;> split <;> split <;> omega
    rw [e, sum_add, sum_one g.nodup ((g.mem _).mpr ⟨A i, by exact om413 hl hi, rfl⟩), sum_one g.nodup ((g.mem _).mpr ⟨B i, by exact om425 hi hl, rfl⟩), if_pos h3]; rfl
  · have : (keys.map fun k => (su k).count (nm i)).sum = 0 := by
      apply sum_zero'
      intro x hx
      obtain ⟨y, hy, rfl⟩ := List.mem_map.mp hx
      rw [g.suc i hi y, if_neg h3]
    rw [this, if_neg h3]; rfl
theorem GF.start (g : GF n A B keys np su) (d : RankD n A B rank) : RInv keys su (fun j => rank (ix j)) 0 np (keys.filter fun k => np k == 0) := by
  have hn := d.len
  refine ⟨fun j hj => ?_, g.nodup.filter _, fun j => ?_⟩
  · obtain ⟨i, hi, rfl⟩ := (g.mem j).mp hj
    rw [if_neg (by exact om148), List.filter_eq_self.mpr (fun _ _ => by simp), g.ind d hi]
  · rw [List.mem_filter]
    constructor
    · rintro ⟨hj, h0⟩
      refine ⟨hj, ?_⟩
      obtain ⟨i, hi, rfl⟩ := (g.mem j).mp hj
      rw [beq_iff_eq, g.np i hi] at h0
      have h3 : ¬ 3 ≤ i := fun h => by rw [if_pos h] at h0; exact om21 h0
      show rank (ix (nm i)) = 0
      rw [ix_nm (by exact om143 h3)]; exact d.lo i (by exact om144 h3)
    · rintro ⟨hj, h0⟩
      refine ⟨hj, ?_⟩
      obtain ⟨i, hi, rfl⟩ := (g.mem j).mp hj
      have h0' : rank i = 0 := by rw [← ix_nm (k := i) (by exact om185 hn hi)]; exact h0
      have h3 : ¬ 3 ≤ i := fun h => by rw [d.hi i h hi] at h0'; exact om171 h0'
      rw [beq_iff_eq, g.np i hi, if_neg h3]
theorem GF.len (g : GF n A B keys np su) (hn : n ≤ 11) {l : List Int} (hl : l.Nodup) (hs : ∀ j ∈ l, j ∈ keys) : l.length ≤ n := by
  have := nodup_len (n := n) (l := l.map ix) (by
    rw [List.Nodup, List.pairwise_map]
    refine List.Pairwise.imp_of_mem ?_ hl
    intro x y hx hy hxy
    obtain ⟨i, hi, rfl⟩ := (g.mem x).mp (hs x hx)
    obtain ⟨j, hj, rfl⟩ := (g.mem y).mp (hs y hy)
    rw [ix_nm (by exact om242 hi hn), ix_nm (by exact om242 hj hn)]
    exact fun e => hxy (by rw [e])) (by
    intro x hx
    obtain ⟨y, hy, rfl⟩ := List.mem_map.mp hx
    obtain ⟨i, hi, rfl⟩ := (g.mem y).mp (hs y hy)
    rw [ix_nm (by exact om242 hi hn)]; exact hi)
  simpa using this
end
end

section
set_option maxRecDepth 100000
section
variable (w : World)
theorem k_dn1 : isFn (hd.heap_1 w.params) (.ref 155) = true := by kernel_rfl!
theorem k_dn2 : specialIn (hd.heap_1 w.params) (.ref 155) "__get__" = some (some (.builtin "function.__get__")) := by kernel_rfl!
theorem k_dn3 : takesIn (hd.heap_1 w.params) (.ref 155) = some false := by kernel_rfl!
theorem k_dn4 : fnIn (hd.heap_1 w.params) 155 = true := by kernel_rfl!
end
theorem isL_snoc (n i : Nat) : (List.range (i + 1)).map (fun j => n - 1 - j) = (List.range i).map (fun j => n - 1 - j) ++ [n - 1 - i] := by
  rw [List.range_succ, List.map_append]; rfl
/-- the sorter while it is told -/
structure TdAt (prog : Program) (w : World) (H H' : HP) (sx dx d : Addr) (keys : List Int) (np : Int → Int) (su : Int → List Int) : Prop where
  sub : ∀ a o, H a = some o → H' a = some o
  own : ∃ α t u, SAt w.params H' sx dx (.ref d) .none (.int 0 t) (.int 0 u) ∧ GrAt prog w H' d keys α np su ∧ ¬ Gfoot d keys α dx ∧ ∀ a, Gfoot d keys α a → H a = none
theorem TdAt.fresh {prog : Program} {w : World} {H H' : HP} {sx dx d z : Addr} {keys : List Int} {np : Int → Int} {su : Int → List Int} {o : Obj} (h : TdAt prog w H H' sx dx d keys np su) (hz : H' z = none) : TdAt prog w H (upd H' z o) sx dx d keys np su :=
  let ⟨α, t, u, h1, h2, h3, h4⟩ := h.own; ⟨fun a o e => upd_of (h.sub a o e) hz, α, t, u, h1.fresh hz, h2.fresh hz, h3, h4⟩
theorem TdAt.fresh2 {prog : Program} {w : World} {H H' : HP} {sx dx d z : Addr} {keys : List Int} {np : Int → Int} {su : Int → List Int} {o : Obj} (h : TdAt prog w H H' sx dx d keys np su) (hz : H' z = none) : TdAt prog w (upd H z o) (upd H' z o) sx dx d keys np su := by
  obtain ⟨hs, α, t, u, h1, h2, h3, h4⟩ := h
  refine ⟨fun a oa e => ?_, α, t, u, h1.fresh hz, h2.fresh hz, h3, fun a ha => ?_⟩
  · by_cases e' : a = z
    · subst e'; rw [upd_self] at e ⊢; exact e
    · rw [upd_ne e'] at e ⊢; exact hs a oa e
  · obtain ⟨oa, ea⟩ := h2.foot_some ha
    rw [upd_ne (by rintro rfl; rw [hz] at ea; cases ea)]; exact h4 a ha
theorem TdAt.back {prog : Program} {w : World} {H H' : HP} {sx dx d z : Addr} {keys : List Int} {np : Int → Int} {su : Int → List Int} {o : Obj} (h : TdAt prog w (upd H z o) H' sx dx d keys np su) (hz : H z = none) : TdAt prog w H H' sx dx d keys np su := by
  obtain ⟨hs, α, t, u, h1, h2, h3, h4⟩ := h
  exact ⟨fun a oa e => hs a oa (upd_of e hz), α, t, u, h1, h2, h3, fun a ha => none_of (fun c oc e => upd_of e hz) (h4 a ha)⟩
section
variable {prog : Program} {w : World} {A : Around} {E : Value → Shared → Prop} {mg mb : Str → Option Value} {outer : List Env}
  {b s : Shared} {ps : List Prot} {H : HP} {L x xg xn : Addr} {l : List (Str × Value)} {Q : Value → Shared → Prop} {rt : List (Addr × R3)} {gv : List Int} {n : Nat} {rank : Nat → Nat} {pl : Nat → Int}
set_option maxHeartbeats 4000000 in
theorem forward_spec (C : Ctx (hd.heap_1 w.params) b mg mb) (hp0 : Hp b ps H s) (rm : Rm 12 A) (hfr : A.frames = some outer) (fo : FrOk ps outer) (hr : RlAt H x rt) (hwf : WfR (rt.map (·.2))) (hn : rt.length = n)
    (hg : IlAt H xg gv) (hgl : gv.length = 3) (hgv : ∀ k : Nat, k < 3 → gat gv k = pl k) (hnm : IlAt H xn (nms n)) (hD : RankD n (rA (rt.map (·.2))) (rB (rt.map (·.2))) rank) (hpr : ∀ k, 0 ≤ pl k ∧ pl k < 1009)
    (hpl : ∀ k, 3 ≤ k → k < n → pl k = made ((rt.map (·.2)).getD k r0).1 (pl (rA (rt.map (·.2)) k)) (pl (rB (rt.map (·.2)) k)))
    (q : ∀ H' T va ro vs rs' s', (∀ a o, H a = some o → H' a = some o) → TpAt H' T [.ref va, .ref ro, .bool false] → IlAt H' va vs → IlAt H' ro rs' → vs.length = n → rs'.length = n → (∀ k : Nat, k < n → gat vs k = pl k) → (∀ k : Nat, k < n → gat rs' k = rank k) → Hp b ps H' s' → Q (.ref T) s') :
    wpAny (model prog w) A (call (.ref 209) [.ref x, .ref xg, .ref xn]) Q E s := by
  have hn4 := hD.len
  refine call_def [("names", .ref xn), ("given", .ref xg), ("rules", .ref x)] C hp0 (by with_unfolding_all rfl) rfl rfl rfl (by kernel_rfl!) rm.room (BindsTo.of_eq rfl) (by decide) (locs rfl) ?_
  intro L s env he a
  dsimp only at he
  have rm1 : Rm 11 (A.deeper env) := rm.deeper
  have hfr1 : (A.deeper env).frames = some (env :: outer) := by show A.frames.map (env :: ·) = _; rw [hfr]; rfl
  generalize A.deeper env = A1 at *
  -- sorter = TopologicalSorter()
  walk_at "st"
  refine ev_call_cls0 C a he (g_Sorter w) (k_keepS w) ?_
  obtain ⟨pp, hpc, back⟩ := a.call
  refine mksorter_spec C hpc (rm1.mono (by decide)) ?_
  intro H1 sx dx d s' ext nx ndx nd hs hd0 hddx hp'
  have a := back _ _ hp'
  walk_at "go"
  obtain ⟨ts1, ts2, hs⟩ := hs
  have T0 : TdAt prog w H H1 sx dx d [] (fun _ => 0) (fun _ => []) := by
    refine ⟨ext, ⟨fun _ => 0, fun _ => 0, fun _ => 0⟩, ts1, ts2, hs, ⟨DcAt.new hd0, List.nodup_nil, fun k hk => (by cases hk), fun k hk => (by cases hk), fun k hk => (by cases hk), fun k hk => (by cases hk), fun k _ => ⟨rfl, rfl⟩⟩, ?_, ?_⟩
    · rintro (h | ⟨k, hk, _⟩)
      · exact hddx h.symm
      · cases hk
    · rintro a (h | ⟨k, hk, _⟩)
      · subst h; exact nd
      · cases hk
  clear hs hd0
  -- for k in range(len(rules) - 1, 2, -1)
  walk_at "cons"
  refine wpAny_For ?_ (fun _ => rfl)
  refine ev_call_t C (by assumption) he (g_range w) boot_range ?_
  walk_at "go"
  refine ev_call_b C (by assumption) he (g_len w) boot_len ?_
  walk_at "go"
  refine do_lenN a (hr.mono T0.sub).1 (n := n) (by rw [List.length_map]; exact hn) (by exact om99 hn4) ?_
  intro t1 s a
  walk_at "go"
  refine do_range3 a (by exact om85 hn4) (by exact om12) ?_
  intro s rg u1 u2 u3 hrg a
  have hdr := range_down (i := (n : Int) - 1) (j := 2) (by exact om11) (by exact om88 hn4) (by exact om92 hn4)
  rw [show ((n : Int) - 1 - 2).toNat = n - 3 from by exact om45] at hdr
  refine for_range (fun i H' l => ∃ keys np su, TdAt prog w H H' sx dx d keys np su ∧ GI (rA (rt.map (·.2))) (rB (rt.map (·.2))) ((List.range i).map fun j => n - 1 - j) keys np su ∧ Names l [("sorter", .ref sx), ("names", .ref xn), ("given", .ref xg), ("rules", .ref x)]) rm1.hand a ?_ upd_self hdr ?_ ?_ (fun _ _ _ _ q => wpAny_pure q)
  · exact ⟨[], _, _, T0.fresh hrg, GI.nil, by walk_at "names"⟩
  · intro i ti s ps' H' l hi hI9 a up
    walk_at "gp"
    obtain ⟨keys, np, su, hT, hG, hnm'⟩ := hI9
    obtain ⟨hsub, α, t1', u1', hs', g', hdx', hft'⟩ := hT
    have hk : (n : Int) - 1 + (i : Int) * -1 = ((n - 1 - i : Nat) : Int) := by exact om285 hi
    rw [hk]
    have hkn : n - 1 - i < n := by exact om196 hk
    have hk3 : 3 ≤ n - 1 - i := by exact om283 hi
    have hnk : nm (n - 1 - i) ∉ ((List.range i).map fun j => n - 1 - j).map nm := by
      intro h
      obtain ⟨y, hy, e⟩ := List.mem_map.mp h
      obtain ⟨j, hj, rfl⟩ := List.mem_map.mp hy
      rw [List.mem_range] at hj
      have := nm_inj (by exact om179 hn4) (by exact om179 hn4) e
      exact om306 hk3 this hj
    have hnext := hG.add hnk
    rw [isL_snoc] at hKP
    have hlen := hG.len
    have hsul := hG.su_len
    rw [List.length_map, List.length_range] at hlen hsul
    generalize n - 1 - i = k at *
    have a := a.to hnm'
    walk_at "go"
    walk_at "st"
    refine MethodCall_ ?_ (by with_unfolding_all rfl)
    walk_at "go"
    obtain ⟨e1, e2, e3, e4, i0⟩ := id hs'
    refine gm_own C a i0 (k_getS w _) (k_m2 w) (k_mt2 w) (by with_unfolding_all rfl) ?_
    refine cw_meth C (by with_unfolding_all rfl) rfl ?_
    walk_at "go"
    refine il_sub a (hnm.mono fun o e => hsub _ o e) (by exact om49) (by rw [nms_len]; exact om231 hkn) (by rw [nms_len]; exact om98 hn4) ?_
    intro z1
    walk_at "go"
    have hkr : k < rt.length := by exact om348 hkn hn
    have hw := hwf k rt[k].2 (by simp [hkr])
    obtain ⟨hw1, hw2, hw3, -⟩ := hw
    obtain ⟨ha0, ha1, hb0, hb1⟩ := hw3 hk3
    have hgetD : (rt.map (·.2)).getD k r0 = rt[k].2 := by simp [hkr]
    have hA0 : ((rA (rt.map (·.2)) k : Nat) : Int) = rt[k].2.2.1 := by unfold rA; rw [hgetD]; exact om471 hk3 ha0
    have hB0 : ((rB (rt.map (·.2)) k : Nat) : Int) = rt[k].2.2.2 := by unfold rB; rw [hgetD]; exact om522 hb0
    have hr' := hr.mono hsub
    obtain ⟨n3, q1, q2, q3, eT⟩ := hr'.2 rt[k] (List.getElem_mem hkr)
    refine sub_list a hr'.1 (v := .ref rt[k].1) (by exact om49) (by exact om311 hn4 hk) (by simp [hkr]) ?_
    walk_at "go"
    refine sub_tuple a ⟨n3, eT⟩ (by exact om2) (j := 1) rfl rfl ?_
    walk_at "go"
    refine il_sub a (hnm.mono fun o e => hsub _ o e) (by exact om475 hA0) (by rw [nms_len]; exact om495 hk ha1) (by rw [nms_len]; exact om98 hn4) ?_
    intro z2
    walk_at "go"
    refine sub_list a hr'.1 (v := .ref rt[k].1) (by exact om49) (by exact om311 hn4 hk) (by simp [hkr]) ?_
    walk_at "go"
    refine sub_tuple a ⟨n3, eT⟩ (by exact om3) (j := 2) rfl rfl ?_
    walk_at "go"
    refine il_sub a (hnm.mono fun o e => hsub _ o e) (by exact om475 hB0) (by rw [nms_len]; exact om495 hk hb1) (by rw [nms_len]; exact om98 hn4) ?_
    intro z3
    walk_at "go"
    refine ⟨a.kept, ?_⟩
    have hrn : rA (rt.map (·.2)) k < n ∧ rB (rt.map (·.2)) k < n := by exact om437 hk hA0 hB0 ha1 hb1
    rw [← hA0, ← hB0, nms_gat hkn, nms_gat hrn.1, nms_gat hrn.2]
    obtain ⟨pp, hpc, back⟩ := a.call
    refine add_spec C hpc (rm1.mono (by decide)) hs' g' hdx' (by exact om401 hn4 hk hlen) (fun j => by have := hsul j; exact om400 hn4 hk this) (.inr ⟨_, _, rfl, rfl⟩) ?_
    intro H2 α2 s2 hs2 g2 hdx2 st2 hp2
    have a := back _ _ hp2
    walk_at "all"
    refine ⟨_, _, a, _, _, _, ⟨fun c o e => st2.1 c o (hsub c o e) (fun h => by rw [hft' c h] at e; cases e), α2, _, _, hs2, g2, hdx2, fun c h => ?_⟩, hnext, by walk_at "names"⟩
    rcases st2.2 c h with h | h
    · exact hft' c h
    · exact none_of hsub h
  · rintro s H' l ⟨keys, np, su, hT, hG, hnm'⟩ a
    have a := a.to hnm'
    walk_at "go"
    have hisL : ∀ i, i ∈ (List.range (n - 3)).map (fun j => n - 1 - j) ↔ 3 ≤ i ∧ i < n := by
      intro i
      rw [List.mem_map]
      constructor
      · rintro ⟨j, hj, rfl⟩
        rw [List.mem_range] at hj
        exact om284 hj
      · rintro ⟨h1, h2⟩
        exact ⟨n - 1 - i, List.mem_range.mpr (by exact om178 h1 h2), by exact om288 h2⟩
    have hisN : ((List.range (n - 3)).map fun j => n - 1 - j).Nodup := by
      rw [List.Nodup, List.pairwise_map]
      refine List.Pairwise.imp_of_mem ?_ (List.nodup_range (n := n - 3))
      intro x y hx hy hxy
      rw [List.mem_range] at hx hy
      exact om381 hxy hy
    have hGF := hG.fin hn4 hD.ab hisL hisN
    have hlen := hG.len
    have hsul := hG.su_len
    rw [List.length_map, List.length_range] at hlen hsul
    clear hG
    -- for name in names[:3]
    walk_at "cons"
    refine wpAny_For ?_ (fun _ => rfl)
    walk_at "go"
    refine wpAny_Slice ?_
    rw [evalPart_none]
    refine wpAny_pure ?_
    rw [evalPart_some]
    walk_at "go"
    refine wpAny_pure ?_
    obtain ⟨vn, hvn, ivn⟩ := hnm.mono (H' := H') fun o e => hT.sub _ o e
    have hvnl := ivn.length
    rw [nms_len] at hvnl
    refine sl_tail a hvn .none (.int _ _) (by exact om189 hn4 hvnl) ?_
    rw [show (slicePick vn.toArray none (some 3) none).toList = vn.take 3 from pick_upto' vn 3]
    intro s y3 hy3 a
    have hv3 : ∀ i, i < 3 → ∃ t, (vn.take 3)[i]? = some (.int (nm i) t) := by
      intro i hi
      rw [List.getElem?_take_of_lt hi]
      exact ivn.get i (nm i) (nms_get (by exact om183 hn4 hi))
    have ny : H y3 = none := none_of hT.sub hy3
    refine for_list (fun i H' l => TdAt prog w (upd H y3 (lsO (vn.take 3) 0)) H' sx dx d (((List.range i).map nm).foldl addK keys) np su ∧ Names l [("sorter", .ref sx), ("names", .ref xn), ("given", .ref xg), ("rules", .ref x)]) rm1.hand a ?_ upd_self ⟨0, rfl⟩ (fun i H' l h => h.1.sub _ _ upd_self) ?_ ?_ (fun _ _ _ _ _ _ q => wpAny_pure q)
    · exact ⟨hT.fresh2 hy3, by walk_at "names"⟩
    · intro i v s ps' H2 l hv2 hI9 a up
      walk_at "gp"
      obtain ⟨hT2, hnm2⟩ := hI9
      have hi3 : i < 3 := by have := (List.getElem?_eq_some_iff.mp hv2).1; simp at this; exact om223 this
      obtain ⟨tv, htv⟩ := hv3 i hi3
      rw [htv] at hv2
      cases hv2
      obtain ⟨hsub2, α2, t2, u2, hs2, g2, hdx2, hft2⟩ := hT2
      have a := a.to hnm2
      walk_at "go"
      walk_at "st"
      refine MethodCall_ ?_ (by with_unfolding_all rfl)
      walk_at "go"
      obtain ⟨e1, e2, e3, e4, i0⟩ := id hs2
      refine gm_own C a i0 (k_getS w _) (k_m2 w) (k_mt2 w) (by with_unfolding_all rfl) ?_
      refine cw_meth C (by with_unfolding_all rfl) rfl ?_
      walk_at "go"
      refine ⟨a.kept, ?_⟩
      obtain ⟨pp, hpc, back⟩ := a.call
      have hkl : (((List.range i).map nm).foldl addK keys).length ≤ keys.length + i := by
        have := foldK_len (pl := (List.range i).map nm) (keys := keys)
        simp at this; exact om358 this
      refine add_spec (u1 := 0) (u2 := 0) C hpc (rm1.mono (by decide)) hs2 g2 hdx2 (by exact om404 hn4 hkl hlen hi3) (fun j => by have := hsul j; exact om190 hn4 this) (.inl ⟨rfl, rfl⟩) ?_
      intro H3 α3 s3 hs3 g3 hdx3 st3 hp3
      have a := back _ _ hp3
      walk_at "all"
      have enp : (fun j => if j = nm i then np (nm i) + (([] : List Int).length : Nat) else np j) = np := by
        funext j
        split
        · rename_i h; rw [h]; simp
        · rfl
      rw [enp, suAdd_nil] at g3
      refine ⟨_, _, a, ⟨fun c o e => st3.1 c o (hsub2 c o e) (fun h => by rw [hft2 c h] at e; cases e), α3, _, _, hs3, ?_, ?_, fun c h => ?_⟩, by walk_at "names"⟩
      · rw [List.range_succ, List.map_append, List.foldl_append]; exact g3
      · rw [List.range_succ, List.map_append, List.foldl_append]; exact hdx3
      · rw [List.range_succ, List.map_append, List.foldl_append] at h
        rcases st3.2 c h with h | h
        · exact hft2 c h
        · exact none_of hsub2 h
    · rintro s H2 l ⟨hT2, hnm2⟩ a
      have a := a.to hnm2
      rw [show (vn.take 3).length = 3 from by simp; exact om187 hn4 hvnl] at hT2
      clear hT
      have hT : TdAt prog w H H2 sx dx d (addK (addK (addK keys (nm 0)) (nm 1)) (nm 2)) np su := hT2.back ny
      clear hT2
      generalize addK (addK (addK keys (nm 0)) (nm 1)) (nm 2) = keys' at *
      obtain ⟨hsub2, α, t2, u2, hs2, g2, hdx2, hft2⟩ := hT
      walk_at "go"
      have hRO := hGF.ok hD
      have hkl : keys'.length ≤ n := hGF.len hn4.2 hGF.nodup (fun _ h => h)
      have hsl : ∀ k, (su k).length ≤ 16 := hGF.slen
      -- sorter.prepare()
      walk_at "st"
      refine MethodCall_ ?_ (by with_unfolding_all rfl)
      walk_at "go"
      obtain ⟨e1, e2, e3, e4, i0⟩ := id hs2
      refine gm_own C a i0 (k_getS w _) (k_m3 w) (k_mt3 w) (by with_unfolding_all rfl) ?_
      refine cw_meth0 C a (by with_unfolding_all rfl) rfl ?_
      obtain ⟨m0, hpc, back⟩ := a.callF
      refine prepare_spec C hpc (rm1.mono (by decide)) hfr1 (fo.fr (by rw [he.kind]; simp) (he.frame (by kernel_rfl!)) a.ne_ps) hs2 g2 hdx2 hRO.sub (fun j => rank (ix j)) hRO.up (by exact om192 hn4 hkl) (fun k => by have := hsl k; exact om133 this) ?_
      intro H3 rl s3 hs3 g3 nrl hrl3 kp3 hp3
      have a := back _ _ hp3
      walk_at "go"
      have hdxH : H dx = none := ndx
      have hsub3 : ∀ c o, H c = some o → H3 c = some o := fun c o e => kp3 c o (by rintro rfl; rw [ndx] at e; cases e) (hsub2 c o e)
      have hrlH : H rl = none := none_of hsub2 nrl
      have hrlf : ¬ Gfoot d keys' α rl := fun h => by
        obtain ⟨o, e⟩ := g2.foot_some h
        rw [nrl] at e; cases e
      -- values = given + [0] * (len(rules) - 3)
      walk_at "st"
      refine new_il a (.cons _ _ .nil) (by simp) ?_
      intro s z1 o1 hz1 iz1 a
      walk_at "go"
      refine ev_call_b C a he (g_len w) boot_len ?_
      walk_at "go"
      refine do_lenN a ((hr.mono hsub3).fresh hz1).1 (n := n) (by rw [List.length_map]; exact hn) (by exact om99 hn4) ?_
      intro t4 s a
      walk_at "go"
      rw [show (n : Int) - 3 = ((n - 3 : Nat) : Int) from by exact om94 hn4]
      refine mul_il a iz1 (by exact om97 hn4) ?_
      intro s z2 o2 hz2 iz2 a
      walk_at "go"
      obtain ⟨vg, hvg, ivg⟩ := ((hg.mono fun o e => hsub3 _ o e).fresh (o := o1) hz1).fresh (o := o2) hz2
      obtain ⟨vz, hvz, ivz⟩ := id iz2
      refine op_addLs a hvg hvz (by rw [ivg.length, ivz.length, hgl, List.length_replicate]; exact om90 hn4) ?_
      intro s va hva a
      walk_at "go"
      have iva : IlAt (upd (upd (upd H3 z1 o1) z2 o2) va (lsO (vg ++ vz) 0)) va (gv ++ List.replicate (n - 3) 0) := ⟨_, LsAt.self, ivg.append ivz⟩
      generalize lsO (vg ++ vz) 0 = ova at *
      have kp4 : ∀ c o, H3 c = some o → upd (upd (upd H3 z1 o1) z2 o2) va ova c = some o := fun c o e => upd_of (upd_of (upd_of e hz1) hz2) hva
      have nva3 : H3 va = none := none_of (fun c o e => upd_of (upd_of e hz1) hz2) hva
      generalize upd (upd (upd H3 z1 o1) z2 o2) va ova = H4 at *
      clear hvg hvz iz2
      -- rounds = [-1] * len(rules)
      walk_at "st"
      refine new_il a (.cons _ _ .nil) (by simp) ?_
      intro s z3 o3 hz3 iz3 a
      walk_at "go"
      refine ev_call_b C a he (g_len w) boot_len ?_
      walk_at "go"
      refine do_lenN a (((hr.mono hsub3).mono kp4).fresh hz3).1 (n := n) (by rw [List.length_map]; exact hn) (by exact om99 hn4) ?_
      intro t5 s a
      walk_at "go"
      refine mul_il a iz3 (by exact om100 hn4) ?_
      intro s ro o4 hro iro a
      walk_at "go"
      have kp5 : ∀ c o, H3 c = some o → upd (upd H4 z3 o3) ro o4 c = some o := fun c o e => upd_of (upd_of (kp4 c o e) hz3) hro
      have nro3 : H3 ro = none := none_of (fun c o e => upd_of (kp4 c o e) hz3) hro
      have iva5 := (iva.fresh (o := o3) hz3).fresh (o := o4) hro
      have hvr : va ≠ ro := (iva.fresh hz3).ne_none hro
      generalize upd (upd H4 z3 o3) ro o4 = H5 at *
      have g5 := g3.mono fun c _ o e => kp5 c o e
      have hs5 : SAt w.params H5 sx dx (.ref d) (.ref rl) (.int 0 t2) (.int 0 u2) := by
        obtain ⟨t1, t2, t3, t4, e1, e2⟩ := hs3
        exact ⟨t1, t2, t3, t4, kp5 _ _ e1, kp5 _ _ e2⟩
      have hrl5 := hrl3.mono (H' := H5) fun o e => kp5 _ o e
      have nSft : ∀ c, H3 c = none → ¬ Sft dx rl d keys' α c := by
        rintro c hc (h | h | h)
        · obtain ⟨_, _, _, _, _, e⟩ := hs3
          rw [← h, hc] at e; cases e
        · obtain ⟨_, _, e⟩ := hrl3.ls
          rw [← h, hc] at e; cases e
        · obtain ⟨o, e⟩ := g3.foot_some h
          rw [hc] at e; cases e
      have hsub5 : ∀ c o, H c = some o → H5 c = some o := fun c o e => kp5 c o (hsub3 c o e)
      have nSftH : ∀ c o, H c = some o → ¬ Sft dx rl d keys' α c := by
        rintro c o e (h | h | h)
        · rw [h, ndx] at e; cases e
        · rw [h, hrlH] at e; cases e
        · rw [hft2 c h] at e; cases e
      have nvaH : H va = none := none_of hsub3 nva3
      have nroH : H ro = none := none_of hsub3 nro3
      -- for turn in range(len(rules))
      walk_at "cons"
      refine wpAny_For ?_ (fun _ => rfl)
      refine ev_call_t C (by assumption) he (g_range w) boot_range ?_
      walk_at "go"
      refine ev_call_b C (by assumption) he (g_len w) boot_len ?_
      walk_at "go"
      refine do_lenN a (hr.mono hsub5).1 (n := n) (by rw [List.length_map]; exact hn) (by exact om99 hn4) ?_
      intro t6 s a
      walk_at "go"
      refine do_range1 a ?_
      intro s rg2 u4 u5 u6 hrg2 a
      have hdu := range_up (n := (n : Int)) (by exact om49) (by exact om95 hn4)
      rw [Int.toNat_natCast] at hdu
      refine for_range (fun t H' l => ∃ np rd vs rs' c tp tf, (∀ a o, H a = some o → H' a = some o) ∧ SAt w.params H' sx dx (.ref d) (.ref rl) (.int c tp) (.int c tf) ∧ GrAt prog w H' d keys' α np su ∧ IlAt H' rl rd ∧ RInv keys' su (fun j => rank (ix j)) t np rd ∧ IlAt H' va vs ∧ IlAt H' ro rs' ∧ vs.length = n ∧ rs'.length = n ∧
        (∀ k : Nat, k < n → gat vs k = if k < 3 ∨ rank k < t then pl k else 0) ∧ (∀ k : Nat, k < n → gat rs' k = if rank k < t then (rank k : Int) else -1) ∧ Names l [("rounds", .ref ro), ("values", .ref va), ("sorter", .ref sx), ("names", .ref xn), ("rules", .ref x)]) rm1.hand a ?_ upd_self hdu ?_ ?_ (fun _ _ _ _ q => wpAny_pure q)
      · refine ⟨np, _, _, _, 0, t2, u2, fun c o e => upd_of (hsub5 c o e) hrg2, hs5.fresh hrg2, g5.fresh hrg2, hrl5.fresh hrg2, hGF.start hD, iva5.fresh hrg2, iro.fresh hrg2, by simp [hgl]; exact om91 hn4, by simp, fun k hk => ?_, fun k hk => ?_, by walk_at "names"⟩
        · by_cases h3 : k < 3
          · rw [if_pos (.inl h3), ← hgv k h3]
            unfold gat
            simp only [Int.toNat_natCast, List.getD_eq_getElem?_getD]
            rw [List.getElem?_append_left (by exact om222 h3 hgl)]
          · rw [if_neg (by rintro (h | h) <;> (first | exact om119 h h3 | exact om109 h))]
            unfold gat
            simp only [Int.toNat_natCast, List.getD_eq_getElem?_getD]
            rw [List.getElem?_append_right (by exact om247 hgl h3), List.getElem?_replicate]
            split <;> rfl
        · rw [if_neg (by exact om148), gat_rep hk]
      · intro t tt s ps' H' l ht hI9 a up
        walk_at "gp"
        obtain ⟨np1, rd, vs, rs', c, tp, tf, hsub', hs', g', hrl', hRI, iva', iro', hvl, hrl2, hvf, hrf, hnm'⟩ := hI9
        have hkk : (0 : Int) + (t : Int) * 1 = t := by exact om46
        rw [hkk]
        have a := a.to hnm'
        have hrdk : ∀ k ∈ rd, k ∈ keys' := fun k hk => ((hRI.rd k).mp hk).1
        have hrdl : rd.length ≤ n := hGF.len hn4.2 hRI.nodup hrdk
        have hout := hRI.out hRO
        have hnext := hRI.next hRO
        walk_at "go"
        -- group = sorter.get_ready()
        walk_at "st"
        refine MethodCall_ ?_ (by with_unfolding_all rfl)
        walk_at "go"
        obtain ⟨e1, e2, e3, e4, i0⟩ := id hs'
        refine gm_own C a i0 (k_getS w _) (k_m4 w) (k_mt4 w) (by with_unfolding_all rfl) ?_
        refine cw_meth0 C a (by with_unfolding_all rfl) rfl ?_
        obtain ⟨pp, hpc, back⟩ := a.call
        refine getready_spec C hpc (rm1.mono (by decide)) hs' g' hdx2 hrl' hrlf hrdk (by exact om192 hn4 hrdl) ?_
        intro H6 y t6 s6 hs6 g6 irl6 ny iy st6 hp6
        have a := back _ _ hp6
        walk_at "go"
        have hsub6 : ∀ c o, H c = some o → H6 c = some o := fun c o e => st6.1 c o (hsub' c o e) (nSftH c o e)
        have iva6 := iva'.mono (H' := H6) fun o e => st6.1 _ o e (nSft va nva3)
        have iro6 := iro'.mono (H' := H6) fun o e => st6.1 _ o e (nSft ro nro3)
        obtain ⟨vy, ⟨ny0, hvy⟩, ivy⟩ := iy
        have hvyl := ivy.length
        have nyva : y ≠ va := (iva'.ne_none ny).symm
        have nyro : y ≠ ro := (iro'.ne_none ny).symm
        have hin : ∀ k, k < n → (rank k = t ↔ nm k ∈ rd) := by
          intro k hk
          rw [hRI.rd]
          constructor
          · intro h
            exact ⟨(hGF.mem _).mpr ⟨k, hk, rfl⟩, by show rank (ix (nm k)) = t; rw [ix_nm (by exact om185 hn4 hk)]; exact h⟩
          · rintro ⟨_, h⟩
            have h : rank (ix (nm k)) = t := h
            rw [ix_nm (by exact om185 hn4 hk)] at h; exact h
        -- for name in group
        walk_at "cons"
        refine wpAny_For ?_ (fun _ => rfl)
        walk_at "go"
        refine for_tuple (fun i H'' l => ∃ vs2 rs2, (∀ a o, a ≠ va → a ≠ ro → H6 a = some o → H'' a = some o) ∧ IlAt H'' va vs2 ∧ IlAt H'' ro rs2 ∧ vs2.length = n ∧ rs2.length = n ∧
          (∀ k : Nat, k < n → gat vs2 k = if k < 3 ∨ rank k < t ∨ nm k ∈ rd.take i then pl k else 0) ∧ (∀ k : Nat, k < n → gat rs2 k = if rank k < t ∨ nm k ∈ rd.take i then (rank k : Int) else -1) ∧ Names l [("group", .ref y), ("turn", .int t tt), ("rounds", .ref ro), ("values", .ref va), ("sorter", .ref sx), ("names", .ref xn), ("rules", .ref x)]) rm1.hand a ?_ hvy ⟨ny0, rfl⟩ (fun i H'' l h => by obtain ⟨_, _, h, _⟩ := h; exact h _ _ nyva nyro hvy) ?_ ?_ (fun _ _ _ _ _ _ q => wpAny_pure q)
        · refine ⟨vs, rs', fun _ _ _ _ e => e, iva6, iro6, hvl, hrl2, fun k hk => ?_, fun k hk => ?_, by walk_at "names"⟩
          · rw [hvf k hk]; simp
          · rw [hrf k hk]; simp
        · intro i v s ps2 H7 l hv7 hI9 a up7
          walk_at "gp"
          obtain ⟨vs2, rs2, kp7, iva7, iro7, hvl7, hrl7, hvf7, hrf7, hnm7⟩ := hI9
          have hil : i < rd.length := by rw [← hvyl]; exact (List.getElem?_eq_some_iff.mp hv7).1
          obtain ⟨tn, htn⟩ := ivy.get i rd[i] (List.getElem?_eq_getElem hil)
          rw [htn] at hv7
          cases hv7
          have hrdi : rd[i] ∈ rd := List.getElem_mem hil
          obtain ⟨k, hkn, hnk⟩ := (hGF.mem _).mp (hrdk _ hrdi)
          have hrkt : rank k = t := (hin k hkn).mpr (hnk ▸ hrdi)
          have htk : ∀ j : Nat, j < n → (nm j ∈ rd.take (i + 1) ↔ nm j ∈ rd.take i ∨ j = k) := by
            intro j hj
            rw [List.take_add_one, List.getElem?_eq_getElem hil, Option.toList_some, List.mem_append, List.mem_singleton, hnk]
            constructor
            · rintro (h | h)
              · exact .inl h
              · exact .inr (nm_inj (by exact om185 hn4 hj) (by exact om185 hn4 hkn) h)
            · rintro (h | h)
              · exact .inl h
              · exact .inr (by rw [h])
          rw [hnk]
          have hsub7 : ∀ c o, H c = some o → H7 c = some o := fun c o e => kp7 c o (by rintro rfl; rw [nvaH] at e; cases e) (by rintro rfl; rw [nroH] at e; cases e) (hsub6 c o e)
          have a := a.to hnm7
          walk_at "go"
          -- k = names.index(name)
          walk_at "st"
          refine ev_index ?_
          walk_at "go"
          refine ⟨_, _, _, _, _, xn, nms n, rfl, a, hnm.mono fun o e => hsub7 _ o e, by rw [nms_len]; exact om98 hn4, ?_⟩
          walk_at "go"
          refine ⟨_, _, rfl, List.mem_of_getElem? (nms_get hkn), a, ?_⟩
          intro tk s a
          rw [nms_idx hn4.2 hkn]
          walk_at "go"
          -- rounds[k] = turn
          walk_at "st"
          refine set_il a iro7 (by exact om49) (by exact om346 hkn hrl7) (by exact om188 hn4 hrl7) ?_
          intro s vs8 m8 iv8 a
          rw [Int.toNat_natCast] at iv8
          walk_at "go"
          have iva8 := iva7.upd (o := lsO vs8 m8) hvr
          have iro8 : IlAt (upd H7 ro (lsO vs8 m8)) ro (rs2.set k (t : Int)) := ⟨vs8, LsAt.self, iv8⟩
          have kp8 : ∀ a o, a ≠ va → a ≠ ro → H6 a = some o → upd H7 ro (lsO vs8 m8) a = some o := fun a o h1 h2 e => (upd_ne h2).trans (kp7 a o h1 h2 e)
          have hsub8 : ∀ c o, H c = some o → upd H7 ro (lsO vs8 m8) c = some o := sub_upd hsub7 nroH
          have hrf8 : ∀ j : Nat, j < n → gat (rs2.set k (t : Int)) j = if rank j < t ∨ nm j ∈ rd.take (i + 1) then (rank j : Int) else -1 := by
            intro j hj
            rw [gat_set (by exact om348 hj hrl7), hrf7 j hj]
            by_cases e : k = j
            · subst e
              rw [if_pos rfl, if_pos (.inr ((htk k hj).mpr (.inr rfl))), hrkt]
            · rw [if_neg e]
              by_cases h : rank j < t ∨ nm j ∈ rd.take i
              · rw [if_pos h, if_pos (h.imp id fun h => (htk j hj).mpr (.inl h))]
              · rw [if_neg h, if_neg (by
                  rintro (h' | h')
                  · exact h (.inl h')
                  · rcases (htk j hj).mp h' with h' | h'
                    · exact h (.inr h')
                    · exact e h'.symm)]
          generalize upd H7 ro (lsO vs8 m8) = H8 at *
          -- if k > 2
          refine ex_cut (fun s => ∃ H9 vs9, At b ps2 L H9 [("group", .ref y), ("turn", .int t tt), ("rounds", .ref ro), ("values", .ref va), ("sorter", .ref sx), ("names", .ref xn), ("rules", .ref x)] s ∧ (∀ a o, a ≠ va → a ≠ ro → H6 a = some o → H9 a = some o) ∧ IlAt H9 va vs9 ∧ IlAt H9 ro (rs2.set k (t : Int)) ∧ vs9.length = n ∧
            ∀ j : Nat, j < n → gat vs9 j = if j < 3 ∨ rank j < t ∨ nm j ∈ rd.take (i + 1) then pl j else 0) ?_ ?_
          · walk_at "go"
            refine ite_dec (fun h3 => ?_) (fun h3 => ?_)
            · have hk3 : 3 ≤ k := by exact om71 h3
              have hkr : k < rt.length := by exact om348 hkn hn
              have hw := hwf k rt[k].2 (by simp [hkr])
              obtain ⟨hw1, hw2, hw3, -⟩ := hw
              obtain ⟨ha0, ha1, hb0, hb1⟩ := hw3 hk3
              have hgetD : (rt.map (·.2)).getD k r0 = rt[k].2 := by simp [hkr]
              have hA0 : ((rA (rt.map (·.2)) k : Nat) : Int) = rt[k].2.2.1 := by unfold rA; rw [hgetD]; exact om469 h3 ha0
              have hB0 : ((rB (rt.map (·.2)) k : Nat) : Int) = rt[k].2.2.2 := by unfold rB; rw [hgetD]; exact om522 hb0
              have hplk := hpl k hk3 hkn
              rw [hgetD] at hplk
              have hrhi := hD.hi k hk3 hkn
              have hr8 := hr.mono hsub8
              -- kind, a, b = rules[k]
              walk_at "cons"
              refine Assign_Tuple ?_ (by with_unfolding_all rfl)
              walk_at "go"
              refine sub_list a hr8.1 (v := .ref rt[k].1) (by exact om49) (by exact om184 hn4 hkn) (by simp [hkr]) ?_
              refine as_t3 rm1.hand a he (hr8.2 rt[k] (List.getElem_mem hkr)) ?_
              intro q1 q2 q3 s a
              -- values[k] = _law_made(kind, values[a], values[b])
              walk_at "st"
              refine ev_call_fn C (by assumption) he (g_made w) (by with_unfolding_all rfl) rfl ?_
              walk_at "go"
              refine il_sub a iva8 (by exact om475 hA0) (by exact om497 hvl7 hkn ha1) (by exact om188 hn4 hvl7) ?_
              intro z1
              walk_at "go"
              refine il_sub a iva8 (by exact om475 hB0) (by exact om497 hvl7 hkn hb1) (by exact om188 hn4 hvl7) ?_
              intro z2
              walk_at "go"
              refine ⟨a.kept, ?_⟩
              have hga : gat vs2 rt[k].2.2.1 = pl (rA (rt.map (·.2)) k) := by
                rw [← hA0, hvf7 _ (by exact om301 hkn hA0 ha1)]
                split
                · rfl
                · rename_i h; exact absurd (.inr (.inl (by exact om426 hrhi hrkt))) h
              have hgb : gat vs2 rt[k].2.2.2 = pl (rB (rt.map (·.2)) k) := by
                rw [← hB0, hvf7 _ (by exact om301 hkn hB0 hb1)]
                split
                · rfl
                · rename_i h; exact absurd (.inr (.inl (by exact om428 hrhi hrkt))) h
              rw [hga, hgb]
              obtain ⟨pp, hpp, back⟩ := a.call
              refine made_spec C hpp rm1.room (IntMulOk.of_left (bits_small (hpr _).1 (hpr _).2)) ?_
              intro z3 s hpp
              have a := back _ _ hpp
              walk_at "go"
              rw [← hplk]
              refine set_il a iva8 (by exact om49) (by exact om346 hkn hvl7) (by exact om188 hn4 hvl7) ?_
              intro s vs9 m9 iv9 a
              rw [Int.toNat_natCast] at iv9
              walk_at "all"
              refine ⟨rfl, _, vs2.set k (pl k), a.to (by walk_at "names"), fun a o h1 h2 e => (upd_ne h1).trans (kp8 a o h1 h2 e), ⟨vs9, LsAt.self, iv9⟩, iro8.upd hvr.symm, by simp [hvl7], fun j hj => ?_⟩
              rw [gat_set (by exact om348 hj hvl7), hvf7 j hj]
              by_cases e : k = j
              · subst e
                rw [if_pos rfl, if_pos (.inr (.inr ((htk k hj).mpr (.inr rfl))))]
              · rw [if_neg e]
                by_cases h : j < 3 ∨ rank j < t ∨ nm j ∈ rd.take i
                · rw [if_pos h, if_pos (h.imp id fun h => h.imp id fun h => (htk j hj).mpr (.inl h))]
                · rw [if_neg h, if_neg (by
                    rintro (h' | h' | h')
                    · exact h (.inl h')
                    · exact h (.inr (.inl h'))
                    · rcases (htk j hj).mp h' with h' | h'
                      · exact h (.inr (.inr h'))
                      · exact e h'.symm)]
            · walk_at "go"
              refine ⟨rfl, _, vs2, a.to (by walk_at "names"), kp8, iva8, iro8, hvl7, fun j hj => ?_⟩
              rw [hvf7 j hj]
              by_cases h : j < 3 ∨ rank j < t ∨ nm j ∈ rd.take i
              · rw [if_pos h, if_pos (h.imp id fun h => h.imp id fun h => (htk j hj).mpr (.inl h))]
              · rw [if_neg h, if_neg (by
                  rintro (h' | h' | h')
                  · exact h (.inl h')
                  · exact h (.inr (.inl h'))
                  · rcases (htk j hj).mp h' with h' | h'
                    · exact h (.inr (.inr h'))
                    · exact h (.inl (by exact om263 h' h3)))]
          · rintro s ⟨H9, vs9, a, kp9, iva9, iro9, hvl9, hvf9⟩
            walk_at "go"
            exact ⟨_, _, a, vs9, _, kp9, iva9, iro9, hvl9, by simp [hrl7], hvf9, hrf8, by walk_at "names"⟩
        · rintro s H7 l ⟨vs2, rs2, kp7, iva7, iro7, hvl7, hrl7, hvf7, hrf7, hnm7⟩ a
          rw [hvyl, List.take_length] at hvf7 hrf7
          have a := a.to hnm7
          walk_at "go"
          have nva : ∀ c, Sft dx rl d keys' α c → c ≠ va ∧ c ≠ ro := fun c h => ⟨by rintro rfl; exact nSft c nva3 h, by rintro rfl; exact nSft c nro3 h⟩
          have kpS : ∀ c o, Sft dx rl d keys' α c → H6 c = some o → H7 c = some o := fun c o h e => kp7 c o (nva c h).1 (nva c h).2 e
          have hsub7 : ∀ c o, H c = some o → H7 c = some o := fun c o e => kp7 c o (by rintro rfl; rw [nvaH] at e; cases e) (by rintro rfl; rw [nroH] at e; cases e) (hsub6 c o e)
          have hs7 : SAt w.params H7 sx dx (.ref d) (.ref rl) (.int (c + rd.length) t6) (.int c tf) := by
            obtain ⟨t1, t2, t3, t4, e1, e2⟩ := hs6
            refine ⟨t1, t2, t3, t4, kp7 _ _ ?_ ?_ e1, kpS _ _ (.inl rfl) e2⟩
            · rintro rfl
              obtain ⟨_, ⟨_, e⟩⟩ := iva6.ls
              rw [e] at e1; cases e1
            · rintro rfl
              obtain ⟨_, ⟨_, e⟩⟩ := iro6.ls
              rw [e] at e1; cases e1
          have g7 := g6.mono (H' := H7) fun c hc o e => kpS c o (.inr (.inr hc)) e
          have irl7 := irl6.mono (H' := H7) fun o e => kpS _ o (.inr (.inl rfl)) e
          have hvy7 : H7 y = some (tpO vy ny0) := kp7 _ _ nyva nyro hvy
          -- sorter.done(*group)
          walk_at "st"
          obtain ⟨e1, e2, e3, e4, i0⟩ := id hs7
          refine ev_star_meth C (k_getS w _) (k_dictS w) (k_m6 w) (k_dn1 w) (k_dn2 w) (k_dn3 w) (by decide) (k_dn4 w) ?_ (by with_unfolding_all rfl) (by with_unfolding_all rfl)
          walk_at "go"
          refine ⟨_, _, _, _, _, _, _, _, _, rfl, i0, by with_unfolding_all rfl, a, ?_⟩
          intro qm s hqm a
          walk_at "go"
          refine ⟨y, vy, rfl, ⟨ny0, upd_of hvy7 hqm⟩, by exact om314 hn4 hvyl hrdl, a, ?_⟩
          intro s a
          obtain ⟨pp, hpp, back⟩ := a.call
          refine done_code C hpp (rm1.mono (by decide)) (hs7.fresh hqm) (g7.fresh hqm) hdx2 (irl7.fresh hqm) hrlf ivy hrdk (fun k hk => hRO.sub k (hrdk k hk)) (by simp) (by exact om191 hn4 hrdl) (fun k => by have := hsl k; exact om134 this) hout ?_
          intro H8 t8 s8 hs8 g8 irl8 st8 hp8
          have a := back _ _ hp8
          have iva8 := (iva7.fresh (o := methodObj (.ref 155) (.ref sx)) hqm).mono (H' := H8) fun o e => st8.1 _ o e (nSft va nva3)
          have iro8 := (iro7.fresh (o := methodObj (.ref 155) (.ref sx)) hqm).mono (H' := H8) fun o e => st8.1 _ o e (nSft ro nro3)
          walk_at "all"
          refine ⟨_, _, a, _, _, vs2, rs2, c + rd.length, t6, t8, fun c o e => st8.1 c o (upd_of (hsub7 c o e) hqm) (nSftH c o e), hs8, g8, irl8, hnext, iva8, iro8, hvl7, hrl7, fun k hk => ?_, fun k hk => ?_, by walk_at "names"⟩
          · rw [hvf7 k hk]
            have := hin k hk
            by_cases h : k < 3 ∨ rank k < t ∨ nm k ∈ rd
            · rw [if_pos h, if_pos (by
                rcases h with h | h | h
                · exact .inl h
                · exact .inr (by exact om236 h)
                · exact .inr (by have := this.mpr h; exact om252 this))]
            · rw [if_neg h, if_neg (by
                rintro (h' | h')
                · exact h (.inl h')
                · by_cases e : rank k = t
                  · exact h (.inr (.inr (this.mp e)))
                  · exact h (.inr (.inl (by exact om227 h' e))))]
          · rw [hrf7 k hk]
            have := hin k hk
            by_cases h : rank k < t ∨ nm k ∈ rd
            · rw [if_pos h, if_pos (by
                rcases h with h | h
                · exact om236 h
                · have := this.mpr h; exact om252 this)]
            · rw [if_neg h, if_neg (by
                intro h'
                by_cases e : rank k = t
                · exact h (.inr (this.mp e))
                · exact h (.inl (by exact om227 h' e)))]
      · rintro s H' l ⟨np1, rd, vs, rs', c, tp, tf, hsub', hs', g', hrl', hRI, iva', iro', hvl, hrl2, hvf, hrf, hnm'⟩ a
        have a := a.to hnm'
        have hrd0 : rd = [] := by
          cases rd with
          | nil => rfl
          | cons j r =>
            have := (hRI.rd j).mp (.head _)
            obtain ⟨i, hi, rfl⟩ := (hGF.mem j).mp this.1
            have h2 : rank (ix (nm i)) = n := this.2
            rw [ix_nm (by exact om185 hn4 hi)] at h2
            have := hD.le i hi
            exact om459 hi h2 this
        subst hrd0
        walk_at "go"
        walk_at "st"
        refine MethodCall_ ?_ (by with_unfolding_all rfl)
        walk_at "go"
        obtain ⟨e1, e2, e3, e4, i0⟩ := id hs'
        refine gm_own C a i0 (k_getS w _) (k_m5 w) (k_mt5 w) (by with_unfolding_all rfl) ?_
        refine cw_meth0 C a (by with_unfolding_all rfl) rfl ?_
        obtain ⟨pp, hpc, back⟩ := a.call
        obtain ⟨vr, hvr', ivr⟩ := id hrl'
        cases ivr
        refine isactive_spec C hpc (rm1.mono (by decide)) hs' hvr' (Int.le_refl _) ?_
        intro s7 hp7
        have a := back _ _ hp7
        walk_at "go"
        refine new_tuple a (by simp) ?_
        intro s T hT a
        walk_at "all"
        refine q _ T va ro vs rs' _ (fun c o e => upd_of (hsub' c o e) hT) ⟨0, upd_self⟩ (iva'.fresh hT) (iro'.fresh hT) hvl hrl2 (fun k hk => ?_) (fun k hk => ?_) a.hp
        · have := hD.le k hk
          rw [hvf k hk, if_pos (.inr (by exact om363 this hk))]
        · have := hD.le k hk
          rw [hrf k hk, if_pos (by exact om363 this hk)]
end
end

section
set_option maxRecDepth 100000
/-! sorted(): the order of asking, for keys that all differ -/
section
variable {n : Nat} {e : Nat → Int} {c : Nat → Nat → (Bool → Shared → Prop) → Shared → Prop} {s : Shared}
abbrev gd (p : Array Nat) (i : Nat) : Nat := p.getD i 0
structure Pv (n : Nat) (p : Array Nat) : Prop where
  perm : p.toList.Perm (List.range n)
theorem Pv.size {p : Array Nat} (h : Pv n p) : p.size = n := by have := h.perm.length_eq; simpa using this
theorem gd_get {p : Array Nat} {i : Nat} (hi : i < p.size) : p.toList[i]? = some (gd p i) := by simp [gd, Array.getD, hi]
theorem Pv.lt {p : Array Nat} (h : Pv n p) {i : Nat} (hi : i < n) : gd p i < n := by
  have h1 := gd_get (p := p) (i := i) (by rw [h.size]; exact hi)
  exact List.mem_range.mp (h.perm.mem_iff.mp (List.mem_of_getElem? h1))
theorem Pv.inj {p : Array Nat} (h : Pv n p) {i j : Nat} (hi : i < n) (hj : j < n) (e : gd p i = gd p j) : i = j := by
  have hnd : p.toList.Nodup := h.perm.nodup_iff.mpr List.nodup_range
  have h1 := gd_get (p := p) (i := i) (by rw [h.size]; exact hi)
  have h2 := gd_get (p := p) (i := j) (by rw [h.size]; exact hj)
  rw [← e, ← h1] at h2
  have hl : p.toList.length = n := by rw [Array.length_toList, h.size]
  rw [List.getElem?_eq_getElem (by exact om348 hj hl), List.getElem?_eq_getElem (by exact om348 hi hl)] at h2
  exact ((List.getElem_inj hnd).mp (Option.some.inj h2)).symm
theorem Pv.of {p p' : Array Nat} (h : Pv n p) (hp : p'.Perm p) : Pv n p' := ⟨(Array.perm_iff_toList_perm.mp hp).trans h.perm⟩
abbrev Ee (e : Nat → Int) (p : Array Nat) (i : Nat) : Int := e (gd p i)
noncomputable def Up (e : Nat → Int) (p : Array Nat) (m : Nat) : Prop := ∀ i j, i < j → j < m → Ee e p i < Ee e p j
noncomputable def Dn (e : Nat → Int) (p : Array Nat) (m : Nat) : Prop := ∀ i j, i < j → j < m → Ee e p j < Ee e p i
/-- all about the order -/
structure Ask (n : Nat) (e : Nat → Int) (c : Nat → Nat → (Bool → Shared → Prop) → Shared → Prop) (s : Shared) : Prop where
  inj : ∀ i j, i < n → j < n → e i = e j → i = j
  ask : ∀ i j (Q : Bool → Shared → Prop), i < n → j < n → Q (decide (e i < e j)) s → c i j Q s
theorem Ask.ne (K : Ask n e c s) {p : Array Nat} (h : Pv n p) {i j : Nat} (hi : i < n) (hj : j < n) (hij : i ≠ j) : Ee e p i ≠ Ee e p j :=
  fun q => hij (h.inj hi hj (K.inj _ _ (h.lt hi) (h.lt hj) q))
theorem asc_ok (K : Ask n e c s) {p : Array Nat} (hv : Pv n p) {G : Nat → Shared → Prop} : ∀ (f m : Nat), 1 ≤ m → m + f = n → Up e p m → (∀ r, m ≤ r → r ≤ n → Up e p r → (r < n → Ee e p r < Ee e p (r - 1)) → G r s) → (kas_asc p f m).kasWp c G s
  | 0, m, h1, hf, hu, h => h m (Nat.le_refl _) (by exact om206 hf) hu (fun q => absurd q (by exact om207 hf))
  | f + 1, m, h1, hf, hu, h => by
    refine K.ask _ _ _ (hv.lt (by exact om325 hf)) (hv.lt (by exact om324 hf)) ?_
    by_cases hc : Ee e p m < Ee e p (m - 1)
    · rw [show decide (e (p.getD m 0) < e (p.getD (m - 1) 0)) = true from decide_eq_true hc]
      exact h m (Nat.le_refl _) (by exact om326 hf) hu (fun _ => hc)
    · rw [show decide (e (p.getD m 0) < e (p.getD (m - 1) 0)) = false from decide_eq_false hc]
      have hne := K.ne hv (i := m) (j := m - 1) (by exact om325 hf) (by exact om324 hf) (by exact om67 h1)
      refine asc_ok K hv f (m + 1) (by exact om64) (by exact om321 hf) ?_ fun r hr1 hr2 => h r (by exact om210 hr1) hr2
      intro i j hij hj
      by_cases hjm : j = m
      · subst hjm
        by_cases him : i = j - 1
        · subst him; exact om564 hne hc
        · have := hu i (j - 1) (by exact om243 hij him) (by exact om66 h1); exact om577 this hc
      · exact hu i j hij (by exact om227 hj hjm)
theorem desc_ok (K : Ask n e c s) {p : Array Nat} (hv : Pv n p) {G : Array Nat × Nat × Nat → Shared → Prop} : ∀ (f m : Nat), 1 ≤ m → m + f = n → Dn e p m → (∀ r, m ≤ r → r ≤ n → Dn e p r → G (p, r, 0) s) → (kas_desc f p m 0).kasWp c G s
  | 0, m, h1, hf, hu, h => h m (Nat.le_refl _) (by exact om206 hf) hu
  | f + 1, m, h1, hf, hu, h => by
    refine K.ask _ _ _ (hv.lt (by exact om325 hf)) (hv.lt (by exact om324 hf)) ?_
    by_cases hc : Ee e p m < Ee e p (m - 1)
    · rw [show decide (e (p.getD m 0) < e (p.getD (m - 1) 0)) = true from decide_eq_true hc]
      refine desc_ok K hv f (m + 1) (by exact om64) (by exact om321 hf) ?_ fun r hr1 hr2 => h r (by exact om210 hr1) hr2
      intro i j hij hj
      by_cases hjm : j = m
      · subst hjm
        by_cases him : i = j - 1
        · subst him; exact om552 hc
        · have := hu i (j - 1) (by exact om243 hij him) (by exact om66 h1); exact om576 hc this
      · exact hu i j hij (by exact om227 hj hjm)
    · rw [show decide (e (p.getD m 0) < e (p.getD (m - 1) 0)) = false from decide_eq_false hc]
      have hne := K.ne hv (i := m) (j := m - 1) (by exact om325 hf) (by exact om324 hf) (by exact om67 h1)
      refine K.ask _ _ _ (hv.lt (by exact om324 hf)) (hv.lt (by exact om325 hf)) ?_
      rw [show decide (e (p.getD (m - 1) 0) < e (p.getD m 0)) = true from decide_eq_true (by show Ee e p (m - 1) < Ee e p m; exact om564 hne hc)]
      exact h m (Nat.le_refl _) (by exact om326 hf) hu
theorem gd_eq {p q : Array Nat} {i j : Nat} (h : p[i]? = q[j]?) : gd p i = gd q j := by
  simp only [gd, Array.getD_eq_getD_getElem?, h]
theorem rev_gd {p : Array Nat} {m k : Nat} (hm : m ≤ p.size) : gd (kas_rev p 0 m) k = if k < m then gd p (m - 1 - k) else gd p k := by
  have h := getElem?_mirror_all (xs := p) (i := 0) (j := m) hm k
  by_cases hk : k < m
  · rw [if_pos ⟨Nat.zero_le _, hk⟩] at h
    rw [if_pos hk]
    refine gd_eq ?_
    rw [show m - 1 - k = 0 + m - 1 - k from by exact om217]; exact h
  · rw [if_neg (fun q => hk q.2)] at h
    rw [if_neg hk]
    exact gd_eq h
theorem place_ok (K : Ask n e c s) {p : Array Nat} (hv : Pv n p) {k : Nat} (hk : k < n) (hu : Up e p k) {G : Nat → Shared → Prop} : ∀ (f l r : Nat), r - l ≤ f → l ≤ r → r ≤ k → (∀ i, i < l → Ee e p i < Ee e p k) → (∀ i, r ≤ i → i < k → Ee e p k < Ee e p i) →
    (∀ x, x ≤ k → (∀ i, i < x → Ee e p i < Ee e p k) → (∀ i, x ≤ i → i < k → Ee e p k < Ee e p i) → G x s) → (kas_place p k f l r).kasWp c G s
  | 0, l, r, hf, hlr, hrk, h1, h2, h => h l (by exact om364 hlr hrk) h1 (fun i hi => h2 i (by exact om334 hf hi))
  | f + 1, l, r, hf, hlr, hrk, h1, h2, h => by
    unfold kas_place
    by_cases hge : l ≥ r
    · rw [if_pos hge]; exact h l (by exact om364 hlr hrk) h1 (fun i hi => h2 i (by exact om385 hi hge))
    · rw [if_neg hge]
      refine K.ask _ _ _ (hv.lt (by exact om235 hk)) (hv.lt (by exact om424 hrk hk hge)) ?_
      have hmid : l ≤ (l + r) / 2 ∧ (l + r) / 2 < r := by exact om296 hge
      generalize (l + r) / 2 = mid at *
      by_cases hc : Ee e p k < Ee e p mid
      · rw [show decide (e (p.getD k 0) < e (p.getD mid 0)) = true from decide_eq_true hc]
        refine place_ok K hv hk hu f l mid (by exact om423 hmid hf) (by exact om360 hmid) (by exact om431 hmid hrk) h1 (fun i hi1 hi2 => ?_) h
        by_cases e1 : i = mid
        · subst e1; exact hc
        · have := hu mid i (by exact om280 hi1 e1) hi2; exact om576 hc this
      · rw [show decide (e (p.getD k 0) < e (p.getD mid 0)) = false from decide_eq_false hc]
        have hne := K.ne hv (i := k) (j := mid) (by exact om235 hk) (by exact om446 hk hmid hrk) (by exact om429 hrk hmid)
        refine place_ok K hv hk hu f (mid + 1) r (by exact om410 hf hmid) (by exact om384 hmid) (by exact om275 hrk) (fun i hi => ?_) h2 h
        by_cases e1 : i = mid
        · subst e1; exact om564 hne hc
        · have := hu i mid (by exact om227 hi e1) (by exact om430 hmid hrk); exact om577 this hc
theorem bub_gd {p : Array Nat} {k d i : Nat} (hk : k < p.size) (hd : d ≤ k) : gd (bubble p k d) i = if i = k - d then gd p k else if k - d < i ∧ i ≤ k then gd p (i - 1) else gd p i := by
  have h := getElem?_bubble hk d hd i
  by_cases h1 : i = k - d
  · rw [if_pos h1] at h ⊢; exact gd_eq h
  · rw [if_neg h1] at h ⊢
    by_cases h2 : k - d < i ∧ i ≤ k
    · rw [if_pos h2] at h ⊢; exact gd_eq h
    · rw [if_neg h2] at h ⊢; exact gd_eq h
theorem bin_ok (K : Ask n e c s) {Q : Array Nat → Shared → Prop} (h : ∀ p, Pv n p → Up e p n → Q p s) : ∀ (f : Nat) (p : Array Nat) (k : Nat), k + f = n → Pv n p → Up e p k → (kas_bin f p k).kasWp c Q s
  | 0, p, k, hf, hv, hu => h p hv (by have : k = n := by exact om205 hf
                                      subst this; exact hu)
  | f + 1, p, k, hf, hv, hu => by
    unfold kas_bin
    rw [KasT.kasWp_bind]
    refine place_ok K hv (by exact om325 hf) hu k 0 k (by exact om107) (by exact om63) (by exact om140) (fun i hi => absurd hi (by exact om148)) (fun i h1 h2 => absurd h1 (by exact om290 h2)) fun x hx h1 h2 => ?_
    refine bin_ok K h f _ (k + 1) (by exact om321 hf) (hv.of (bubble_perm p k (k - x))) ?_
    have hks : k < p.size := by rw [hv.size]; exact om325 hf
    have hb : ∀ i, gd (bubble p k (k - x)) i = if i = x then gd p k else if x < i ∧ i ≤ k then gd p (i - 1) else gd p i := by
      intro i
      have := bub_gd (i := i) hks (show k - x ≤ k by exact om221)
      rw [show k - (k - x) = x from by exact om294 hx] at this
      exact this
    intro i j hij hj
    show e (gd (bubble p k (k - x)) i) < e (gd (bubble p k (k - x)) j)
    rw [hb i, hb j]
    by_cases i1 : i = x
    · subst i1
      rw [if_pos rfl, if_neg (by exact om289 hij), if_pos (by exact om339 hij hj)]
      exact h2 (j - 1) (by exact om238 hij) (by exact om336 hj hij)
    · rw [if_neg i1]
      by_cases j1 : j = x
      · subst j1
        rw [if_pos rfl, if_neg (by exact om368 hij)]
        exact h1 i hij
      · rw [if_neg j1]
        by_cases i2 : x < i ∧ i ≤ k
        · rw [if_pos i2, if_pos (by exact om414 i2 hj hij)]
          exact hu (i - 1) (j - 1) (by exact om412 hij i2) (by exact om336 hj hij)
        · rw [if_neg i2]
          by_cases j2 : x < j ∧ j ≤ k
          · rw [if_pos j2]
            by_cases hj1 : i = j - 1
            · exact om542 j2 hj1 i2 i1
            · exact hu i (j - 1) (by exact om243 hij hj1) (by exact om336 hj hij)
          · rw [if_neg j2]
            exact hu i j hij (by exact om337 hj hx j2 j1)
theorem Up.one {p : Array Nat} : Up e p 1 := fun i j hij hj => by exact om541 hj hij
theorem count_ok (K : Ask n e c s) {p : Array Nat} (hn : 2 ≤ n) (hv : Pv n p) {G : Nat × Array Nat → Shared → Prop} (h : ∀ m p', 1 ≤ m → m ≤ n → Pv n p' → Up e p' m → G (m, p') s) : (kas_count n p).kasWp c G s := by
  unfold kas_count
  rw [KasT.kasWp_bind]
  refine asc_ok K hv (n - 1) 1 (Nat.le_refl _) (by exact om75 hn) Up.one fun r hr1 hr2 hu hst => ?_
  by_cases e1 : (r == n) = true
  · rw [if_pos e1]; exact h r p hr1 hr2 hv hu
  · rw [if_neg e1]
    have hrn : r < n := by
      have : r ≠ n := fun q => e1 (by rw [q]; exact beq_self_eq_true _)
      exact om264 this hr2
    by_cases e2 : r > 1
    · rw [if_pos e2]
      refine K.ask _ _ _ (hv.lt (by exact om74 hn)) (hv.lt (by exact om234 hrn)) ?_
      rw [show decide (e (p.getD 0 0) < e (p.getD (r - 1) 0)) = true from decide_eq_true (hu 0 (r - 1) (by exact om130 e2) (by exact om131 e2))]
      exact h r p hr1 hr2 hv hu
    · rw [if_neg e2]
      have : r = 1 := by exact om68 hr1 e2
      subst this
      unfold kas_descPart
      rw [KasT.kasWp_bind]
      refine desc_ok K hv (n - 2) 2 (by exact om20) (by exact om77 hn) ?_ fun m hm1 hm2 hd => ?_
      · intro i j hij hj
        have : i = 0 ∧ j = 1 := by exact om241 hij hj
        rw [this.1, this.2]; exact hst hrn
      · show (if (0 : Nat) > 0 then _ else kas_tail3 m n p).kasWp c G s
        rw [if_neg (Nat.lt_irrefl _)]
        unfold kas_tail3
        rw [KasT.kasWp_bind]
        have hv' : Pv n (kas_rev p 0 m) := hv.of (mirror_perm _ _ _ _)
        refine asc_ok K hv' (n - m) m (by exact om76 hm1) (by exact om274 hm2) ?_ fun r' hr1' hr2' hu' _ => h r' _ (by exact om174 hm1 hr1') hr2' hv' hu'
        intro i j hij hj
        show e (gd (kas_rev p 0 m) i) < e (gd (kas_rev p 0 m) j)
        rw [rev_gd (by rw [hv.size]; exact hm2), rev_gd (by rw [hv.size]; exact hm2), if_pos (by exact om350 hij hj), if_pos hj]
        exact hd (m - 1 - j) (m - 1 - i) (by exact om367 hj hij) (by exact om382 hj)
/-- what is asked sorts -/
theorem sort_ok (K : Ask n e c s) (hn : 2 ≤ n) {Q : Array Nat → Shared → Prop} (h : ∀ p, Pv n p → Up e p n → Q p s) : (kas_sort n).kasWp c Q s := by
  unfold kas_sort
  rw [KasT.kasWp_bind]
  refine count_ok K hn ⟨by simp⟩ fun m p' hm1 hm2 hv hu => ?_
  dsimp only
  by_cases hlt : m < n
  · rw [if_pos hlt, show max m 1 = m from by exact om65 hm1]
    exact bin_ok K h _ _ _ (by exact om233 hlt) hv hu
  · rw [if_neg hlt]
    have : m = n := by exact om278 hm2 hlt
    subst this
    exact h p' hv hu
end
end

section
set_option maxRecDepth 100000
noncomputable def enc (p : Int × Int) : Int := 11 * p.1 + p.2
theorem enc_lt {p q : Int × Int} (hp : 0 ≤ p.2 ∧ p.2 < 11) (hq : 0 ≤ q.2 ∧ q.2 < 11) : plt p q ↔ enc p < enc q := by unfold plt enc; exact om581 hp hq
theorem enc_inj {p q : Int × Int} (hp : 0 ≤ p.2 ∧ p.2 < 11) (hq : 0 ≤ q.2 ∧ q.2 < 11) (h : enc p = enc q) : p = q := by
  unfold enc at h
  exact Prod.ext (by exact om580 hp hq h) (by exact om579 hp hq h)
section
variable {prog : Program} {w : World} {A : Around} {E : Value → Shared → Prop} {b s : Shared} {ps : List Prot} {H : HP} {L x : Addr} {l : List (Str × Value)} {Q : Value → Shared → Prop} {its : List It}
theorem tups_of {h : Heap} : ∀ (its : List It), (∀ i ∈ its, ∃ t u n, h.get? i.1 = some (tpO [.int i.2.1 t, .int i.2.2 u] n)) → ∃ fs, KatTups h (its.map irf) fs ∧ fs.length = its.length ∧ ∀ v ∈ fs, ∃ a t, v = .int a t
  | [], _ => ⟨[], .nil, rfl, fun v hv => by cases hv⟩
  | i :: r, hi => by
    obtain ⟨fs, h1, h2, h3⟩ := tups_of r fun j hj => hi j (.tail _ hj)
    obtain ⟨t, u, n, e⟩ := hi i (.head _)
    refine ⟨.int i.2.1 t :: fs, .cons e rfl rfl rfl h1, by simp [h2], fun v hv => ?_⟩
    rcases List.mem_cons.mp hv with rfl | hv
    · exact ⟨_, _, rfl⟩
    · exact h3 v hv
theorem lt_one {i j : Int} {t u : Tok} {b' : Bool} {Q : Bool → Shared → Prop} (h : Q (decide (i < j)) s) : wpAny (model prog w) A (oneLt' b' (.int i t) (.int j u)) Q E s := by
  cases b' with
  | true => exact oneLt_int h
  | false => exact kat_one _ _ (lt_int h)
/-- sorted(x) for a list of pairs that all differ -/
theorem do_sortedP (a : At b ps L H l s) (hl : PlAt H x its) (h2 : 2 ≤ its.length) (h64 : its.length < 64) (hr : ∀ i ∈ its, 0 ≤ i.2.2 ∧ i.2.2 < 11) (hnd : (its.map (·.2)).Nodup)
    (h : ∀ s' D jts o, H D = none → jts.Perm its → (jts.map (·.2)).Pairwise plt → PlAt (upd H D o) D jts → At b ps L (upd H D o) l s' → Q (.ref D) s') :
    wpAny (model prog w) A (call (.builtin "sorted") [.ref x]) Q E s := by
  obtain ⟨m, news, F, N, mem, back, back0⟩ := a.ledN
  refine kat_sorted F N (hl.1.isList a) (by simpa using h2) (by simpa using h64) fun D e1 h' F' N' hlt => ?_
  have hget : ∀ i ∈ its, ∃ t u n, h'.get? i.1 = some (tpO [.int i.2.1 t, .int i.2.2 u] n) := by
    intro i hi
    obtain ⟨t, u, n, e⟩ := hl.2 i hi
    exact ⟨t, u, n, (N' _ (.tail _ (mem _ _ (a.neL e) (a.get e)))).1⟩
  obtain ⟨fs, hT, hfl, hfi⟩ := tups_of its hget
  refine kat_kind (T := .type "int") hT (by rw [hfl]; exact om74 h2) (fun v hv => ?_) (by decide) ?_
  · obtain ⟨i, t, rfl⟩ := hfi v hv
    exact .now
  have hgetD : ∀ i, i < its.length → (its.map irf).getD i Value.none = irf (its.getD i (0, (0, 0))) := by
    intro i hi
    simp [hi]
  have hmem : ∀ i, i < its.length → its.getD i (0, (0, 0)) ∈ its := by
    intro i hi
    rw [List.getD_eq_getElem?_getD, List.getElem?_eq_getElem hi]; exact List.getElem_mem hi
  rw [List.length_map]
  refine sort_ok (e := fun i => enc (its.getD i (0, (0, 0))).2) ⟨fun i j hi hj e => ?_, fun i j Q' hi hj hq => ?_⟩ h2 fun p hv hu => ?_
  · have h1 := enc_inj (hr _ (hmem i hi)) (hr _ (hmem j hj)) e
    have hi' : i < (its.map (·.2)).length := by simpa using hi
    have hj' : j < (its.map (·.2)).length := by simpa using hj
    refine (List.getElem_inj hnd (h₀ := hi') (h₁ := hj')).mp ?_
    simpa [hi, hj] using h1
  · unfold kas_ask
    rw [hgetD i hi, hgetD j hj]
    obtain ⟨t1, u1, n1, g1⟩ := hget _ (hmem i hi)
    obtain ⟨t2, u2, n2, g2⟩ := hget _ (hmem j hj)
    have hri := hr _ (hmem i hi)
    have hrj := hr _ (hmem j hj)
    have hq' : Q' (decide (plt (its.getD i (0, (0, 0))).2 (its.getD j (0, (0, 0))).2)) { s with heap := h' } := by
      rw [decide_eq_decide.mpr (enc_lt hri hrj)]; exact hq
    clear hq
    generalize its.getD i (0, (0, 0)) = I at *
    generalize its.getD j (0, (0, 0)) = J at *
    refine kat_lt g1 rfl g2 rfl ?_
    refine kat_cons (wpAny_eqBool_int ?_)
    by_cases e1 : I.2.1 = J.2.1
    · rw [show (I.2.1 == J.2.1) = true from by simp [e1]]
      refine kat_yes (kat_cons (wpAny_eqBool_int ?_))
      by_cases e2 : I.2.2 = J.2.2
      · rw [show (I.2.2 == J.2.2) = true from by simp [e2]]
        refine kat_yes (kat_nil ?_)
        rw [show decide (plt I.2 J.2) = false from by simp [plt, e1, e2]] at hq'
        exact hq'
      · rw [show (I.2.2 == J.2.2) = false from by simp [e2]]
        refine kat_no (lt_one ?_)
        rw [show decide (plt I.2 J.2) = decide (I.2.2 < J.2.2) from by simp [plt, e1]] at hq'
        exact hq'
    · rw [show (I.2.1 == J.2.1) = false from by simp [e1]]
      refine kat_no (lt_one ?_)
      rw [show decide (plt I.2 J.2) = decide (I.2.1 < J.2.1) from by simp [plt, e1]] at hq'
      exact hq'
  · refine KasFin.intro F' N' (.head fun p hp => Nat.ne_of_lt (hlt p hp)) fun h'' c F'' N'' => ?_
    have hsz := hv.size
    have hout : (p.toList.map fun i => (its.map irf).getD i Value.none) = (p.toList.map fun i => its.getD i (0, (0, 0))).map irf := by
      rw [List.map_map]
      apply List.map_congr_left
      intro i hi
      exact hgetD i (List.mem_range.mp (hv.perm.mem_iff.mp hi))
    rw [hout] at N''
    obtain ⟨hD, a'⟩ := back h'' D _ s.toks F'' N'' hlt
    have hperm : (p.toList.map fun i => its.getD i (0, (0, 0))).Perm its := by
      have h1 := hv.perm.map fun i => its.getD i (0, (0, 0))
      have h2 : ((List.range its.length).map fun i => its.getD i (0, (0, 0))) = its := by
        apply List.ext_getElem?
        intro i
        by_cases hi : i < its.length
        · simp [hi]
        · simp [hi]
      rw [h2] at h1; exact h1
    refine h _ D _ _ hD hperm ?_ ⟨LsAt.self, fun i hi => (hl.2 i (hperm.mem_iff.mp hi)).fresh hD⟩ a'
    rw [List.map_map, List.pairwise_map, List.pairwise_iff_getElem]
    intro i j hi hj hij
    rw [Array.length_toList, hsz] at hi hj
    have := hu i j hij hj
    have e1 : p.toList[i]'(by rw [Array.length_toList, hsz]; exact hi) = gd p i := by
      have := gd_get (p := p) (i := i) (by rw [hsz]; exact hi)
      rw [List.getElem?_eq_getElem (by rw [Array.length_toList, hsz]; exact hi)] at this
      exact Option.some.inj this
    have e2 : p.toList[j]'(by rw [Array.length_toList, hsz]; exact hj) = gd p j := by
      have := gd_get (p := p) (i := j) (by rw [hsz]; exact hj)
      rw [List.getElem?_eq_getElem (by rw [Array.length_toList, hsz]; exact hj)] at this
      exact Option.some.inj this
    rw [e1, e2]
    exact (enc_lt (hr _ (hmem _ (hv.lt hi))) (hr _ (hmem _ (hv.lt hj)))).mpr this
end
end

section
/-! the law, in plain Lean -/
noncomputable def foldA (f : List Int → R3 → Int) (acc : List Int) (l : List R3) : List Int := l.foldl (fun acc r => acc ++ [f acc r]) acc
section
variable {f : List Int → R3 → Int}
theorem foldA_snoc {acc : List Int} {l : List R3} {r : R3} : foldA f acc (l ++ [r]) = foldA f acc l ++ [f (foldA f acc l) r] := by unfold foldA; rw [List.foldl_append]; rfl
theorem foldA_len : ∀ (l : List R3) (acc : List Int), (foldA f acc l).length = acc.length + l.length
  | [], _ => rfl
  | r :: q, acc => by
    show (foldA f (acc ++ [f acc r]) q).length = _
    rw [foldA_len q]; simp; exact om208
theorem foldA_pre : ∀ (l : List R3) (acc : List Int) (k : Nat), k < acc.length → (foldA f acc l)[k]? = acc[k]?
  | [], _, _, _ => rfl
  | r :: q, acc, k, h => by
    show (foldA f (acc ++ [f acc r]) q)[k]? = _
    rw [foldA_pre q _ k (by simp; exact om236 h), List.getElem?_append_left h]
theorem gat_get {l : List Int} {k : Nat} {z : Int} (h : l[k]? = some z) : gat l (k : Int) = z := by unfold gat; simp [List.getD_eq_getElem?_getD, h]
/-- the element at its place, told by the whole list -/
theorem foldA_at (acc : List Int) (l : List R3) (k : Nat) (hk : k < l.length) : gat (foldA f acc l) ((acc.length + k : Nat) : Int) = f (foldA f acc (l.take k)) l[k] := by
  apply gat_get
  have h1 : l = l.take (k + 1) ++ l.drop (k + 1) := (List.take_append_drop (k + 1) l).symm
  have h2 : l.take (k + 1) = l.take k ++ [l[k]] := by rw [List.take_add_one, List.getElem?_eq_getElem hk]; rfl
  have h3 : foldA f acc l = foldA f (foldA f acc (l.take (k + 1))) (l.drop (k + 1)) := by
    conv => lhs; rw [h1]
    unfold foldA; rw [List.foldl_append]
  rw [h3, foldA_pre _ _ _ (by rw [foldA_len, List.length_take]; exact om371 hk), h2, foldA_snoc, List.getElem?_append_right (by rw [foldA_len, List.length_take]; exact om328)]
  rw [foldA_len, List.length_take, show acc.length + k - (acc.length + min k l.length) = 0 from by exact om370 hk]; rfl
theorem foldA_take (acc : List Int) (l : List R3) (k j : Nat) (hk : k ≤ l.length) (hj : j < acc.length + k) : gat (foldA f acc (l.take k)) (j : Int) = gat (foldA f acc l) (j : Int) := by
  have h3 : foldA f acc l = foldA f (foldA f acc (l.take k)) (l.drop k) := by
    conv => lhs; rw [← List.take_append_drop k l]
    unfold foldA; rw [List.foldl_append]
  unfold gat
  simp only [List.getD_eq_getElem?_getD, Int.toNat_natCast]
  rw [h3, foldA_pre (l.drop k) (foldA f acc (l.take k)) j (by rw [foldA_len, List.length_take]; exact om411 hj hk)]
end
noncomputable def stepP (acc : List Int) (r : R3) : Int := made r.1 (gat acc r.2.1) (gat acc r.2.2)
noncomputable def stepR (acc : List Int) (r : R3) : Int := 1 + max (gat acc r.2.1) (gat acc r.2.2)
noncomputable def plainL (gv : List Int) (rs : List R3) : List Int := foldA stepP gv (rs.drop 3)
noncomputable def ranksL (rs : List R3) : List Int := foldA stepR [0, 0, 0] (rs.drop 3)
theorem foldP_rng {gv : List Int} (h : Rng gv) : ∀ l : List R3, Rng (foldA stepP gv l) := by
  intro l
  induction l generalizing gv with
  | nil => exact h
  | cons r q ih => exact ih (h.snoc (made_rng _ _ _))
theorem grownL_eq (rs : List R3) (vals : List Int) (t : Int) : grownL rs vals t = foldA (gstep vals t) [] rs := rfl
section
variable {rs : List R3} {gv : List Int} {n : Nat}
theorem wf_at (hwf : WfR rs) (hn : rs.length = n) {k : Nat} (hk : k < n) (h3 : 3 ≤ k) : ∃ r, rs[k]? = some r ∧ rs.getD k r0 = r ∧ 0 ≤ r.1 ∧ r.1 < 3 ∧ r.2.1 = (rA rs k : Int) ∧ r.2.2 = (rB rs k : Int) ∧ rA rs k < k ∧ rB rs k < k := by
  have hk' : k < rs.length := by exact om348 hk hn
  have hw := hwf k rs[k] (List.getElem?_eq_getElem hk')
  have hgetD : rs.getD k r0 = rs[k] := by rw [List.getD_eq_getElem?_getD, List.getElem?_eq_getElem hk']; rfl
  obtain ⟨h1, h2, h3', -⟩ := hw
  obtain ⟨a0, a1, b0, b1⟩ := h3' h3
  refine ⟨rs[k], List.getElem?_eq_getElem hk', hgetD, h1, h2, ?_, ?_, ?_, ?_⟩
  · unfold rA; rw [hgetD]; exact om472 h3 a0
  · unfold rB; rw [hgetD]; exact om526 b0
  · unfold rA; rw [hgetD]; exact om463 b0 a1 b1
  · unfold rB; rw [hgetD]; exact om464 b0 b1
theorem drop_at {k : Nat} {r : R3} (h : rs[k]? = some r) (h3 : 3 ≤ k) : ∃ hk : k - 3 < (rs.drop 3).length, (rs.drop 3)[k - 3] = r := by
  have hk : k < rs.length := (List.getElem?_eq_some_iff.mp h).1
  refine ⟨by simp; exact om175 h3 hk, ?_⟩
  rw [List.getElem_drop]
  have := (List.getElem?_eq_some_iff.mp h).2
  simpa [show 3 + (k - 3) = k from by exact om80 h3] using this
theorem foldA_k {f : List Int → R3 → Int} (hwf : WfR rs) (hn : rs.length = n) (hg : gv.length = 3) {k : Nat} (hk : k < n) (h3 : 3 ≤ k) : ∃ acc, gat (foldA f gv (rs.drop 3)) (k : Int) = f acc (rs.getD k r0) ∧ gat acc (rA rs k : Int) = gat (foldA f gv (rs.drop 3)) (rA rs k : Int) ∧ gat acc (rB rs k : Int) = gat (foldA f gv (rs.drop 3)) (rB rs k : Int) := by
  obtain ⟨r, e1, e2, _, _, _, _, ha, hb⟩ := wf_at hwf hn hk h3
  obtain ⟨hk', er⟩ := drop_at e1 h3
  refine ⟨foldA f gv ((rs.drop 3).take (k - 3)), ?_, foldA_take _ _ _ _ (by exact om219 hk') (by exact om345 ha hg), foldA_take _ _ _ _ (by exact om219 hk') (by exact om345 hb hg)⟩
  have := foldA_at (f := f) gv (rs.drop 3) (k - 3) hk'
  rw [hg, show 3 + (k - 3) = k from by exact om80 h3, er] at this
  rw [this, e2]
theorem plain_at (hwf : WfR rs) (hn : rs.length = n) (hg : gv.length = 3) {k : Nat} (hk : k < n) (h3 : 3 ≤ k) :
    gat (plainL gv rs) (k : Int) = made (rs.getD k r0).1 (gat (plainL gv rs) (rA rs k : Int)) (gat (plainL gv rs) (rB rs k : Int)) := by
  obtain ⟨acc, h1, h2, h4⟩ := foldA_k (f := stepP) hwf hn hg hk h3
  obtain ⟨r, e1, e2, _, _, ea, eb, _, _⟩ := wf_at hwf hn hk h3
  unfold plainL
  rw [h1, ← h2, ← h4, e2]
  unfold stepP
  rw [ea, eb]
theorem ranks_at (hwf : WfR rs) (hn : rs.length = n) {k : Nat} (hk : k < n) (h3 : 3 ≤ k) :
    gat (ranksL rs) (k : Int) = 1 + max (gat (ranksL rs) (rA rs k : Int)) (gat (ranksL rs) (rB rs k : Int)) := by
  obtain ⟨acc, h1, h2, h4⟩ := foldA_k (f := stepR) (gv := [0, 0, 0]) hwf hn rfl hk h3
  obtain ⟨r, e1, e2, _, _, ea, eb, _, _⟩ := wf_at hwf hn hk h3
  unfold ranksL
  rw [h1, ← h2, ← h4, e2]
  unfold stepR
  rw [ea, eb]
theorem foldA_lo {f : List Int → R3 → Int} {l : List R3} {k : Nat} (hk : k < gv.length) : gat (foldA f gv l) (k : Int) = gat gv (k : Int) := by
  unfold gat
  simp only [List.getD_eq_getElem?_getD, Int.toNat_natCast]
  rw [foldA_pre _ _ _ hk]
noncomputable def rankN (rs : List R3) (k : Nat) : Nat := (gat (ranksL rs) (k : Int)).toNat
theorem ranks_nn (hwf : WfR rs) (hn : rs.length = n) : ∀ k, k < n → 0 ≤ gat (ranksL rs) (k : Int) := by
  intro k
  induction k using Nat.strongRecOn with
  | ind k ih =>
    intro hk
    by_cases h3 : k < 3
    · unfold ranksL
      rw [foldA_lo (by simpa using h3)]
      have hc : k = 0 ∨ k = 1 ∨ k = 2 := by exact om118 h3
      rcases hc with rfl | rfl | rfl <;> decide
    · obtain ⟨r, e1, e2, _, _, ea, eb, ha, hb⟩ := wf_at hwf hn hk (by exact om149 h3)
      rw [ranks_at hwf hn hk (by exact om149 h3)]
      have := ih _ ha (by exact om350 ha hk)
      have := ih _ hb (by exact om350 hb hk)
      exact om546 this
theorem rankN_eq (hwf : WfR rs) (hn : rs.length = n) {k : Nat} (hk : k < n) : gat (ranksL rs) (k : Int) = (rankN rs k : Int) := by
  have := ranks_nn hwf hn k hk
  unfold rankN; exact om526 this
theorem rankD (hwf : WfR rs) (hn : rs.length = n) (hl : 4 ≤ n ∧ n ≤ 11) : RankD n (rA rs) (rB rs) (rankN rs) := by
  refine ⟨hl, fun k h3 hk => ?_, fun k h3 => ?_, fun k h3 hk => ?_⟩
  · obtain ⟨r, _, _, _, _, _, _, ha, hb⟩ := wf_at hwf hn hk h3
    exact ⟨ha, hb⟩
  · unfold rankN ranksL
    rw [foldA_lo (by simpa using h3)]
    have hc : k = 0 ∨ k = 1 ∨ k = 2 := by exact om118 h3
    rcases hc with rfl | rfl | rfl <;> decide
  · obtain ⟨r, _, _, _, _, _, _, ha, hb⟩ := wf_at hwf hn hk h3
    have h1 := ranks_at hwf hn hk h3
    rw [rankN_eq hwf hn hk, rankN_eq hwf hn (k := rA rs k) (by exact om350 ha hk), rankN_eq hwf hn (k := rB rs k) (by exact om350 hb hk)] at h1
    exact om318 h1
theorem mod_ex (x : Int) : ∃ q, x % 1009 = x + 1009 * q := ⟨-(x / 1009), by exact om530⟩
theorem sheet (hwf : WfR rs) (hn : rs.length = n) (hl : 4 ≤ n ∧ n ≤ 11) {vals : List Int} (hv : Rng vals) :
    Sheet n (rA rs) (rB rs) (slP rs vals) (slQ rs vals) (rankN rs) (fun i k => gat (grownL rs vals i) (k : Int)) := by
  have hD := rankD hwf hn hl
  have at_ : ∀ i k : Nat, k < n → ∃ acc, acc.length = k ∧ gat (grownL rs vals i) (k : Int) = gstep vals i acc (rs.getD k r0) ∧ ∀ j : Nat, j < k → gat acc (j : Int) = gat (grownL rs vals i) (j : Int) := by
    intro i k hk
    have hk' : k < rs.length := by exact om348 hk hn
    refine ⟨foldA (gstep vals i) [] (rs.take k), by rw [foldA_len, List.length_take]; simp; exact om347 hk hn, ?_, fun j hj => foldA_take _ _ _ _ (by exact om349 hk hn) (by simpa using hj)⟩
    have := foldA_at (f := gstep vals i) [] rs k hk'
    rw [List.length_nil, Nat.zero_add] at this
    rw [grownL_eq, this, List.getD_eq_getElem?_getD, List.getElem?_eq_getElem hk']; rfl
  have hgr : ∀ i k : Nat, 0 ≤ gat (grownL rs vals i) (k : Int) ∧ gat (grownL rs vals i) (k : Int) < 1009 := fun i k => (grownL_rng rs [] (fun _ h => by cases h)).gat _
  refine ⟨hD.ab, fun k h3 hk => ?_, hl, fun i hi => ?_, fun i k h3 hne => ?_, fun i k h3 hk hne => ?_, hgr⟩
  · have := hD.hi k h3 hk; exact om373 this
  · obtain ⟨acc, h1, h2, _⟩ := at_ i i hi
    show gat (grownL rs vals i) (i : Int) = 1
    rw [h2]; unfold gstep; rw [h1, if_pos rfl]
  · obtain ⟨acc, h1, h2, _⟩ := at_ i k (by exact om183 hl h3)
    show gat (grownL rs vals i) (k : Int) = 0
    rw [h2]; unfold gstep; rw [h1, if_neg (by exact om265 hne), if_pos (by exact om117 h3)]
  · obtain ⟨acc, h1, h2, h4⟩ := at_ i k hk
    obtain ⟨r, e1, e2, k0, k1, ea, eb, ha, hb⟩ := wf_at hwf hn hk h3
    show ∃ q, gat (grownL rs vals i) (k : Int) = slP rs vals k * gat (grownL rs vals i) (rA rs k : Int) + slQ rs vals k * gat (grownL rs vals i) (rB rs k : Int) + 1009 * q
    rw [h2]
    unfold gstep slP slQ
    rw [h1, if_neg (by exact om265 hne), if_neg (by exact om82 h3), e2, ea, eb, h4 _ ha, h4 _ hb]
    generalize gat (grownL rs vals i) (rA rs k : Int) = ga
    generalize gat (grownL rs vals i) (rB rs k : Int) = gb
    have hc : r.1 = 0 ∨ r.1 = 1 ∨ r.1 = 2 := by exact om525 k0 k1
    rcases hc with hc | hc | hc
    · rw [hc]
      obtain ⟨q, hq⟩ := mod_ex (ga + gb)
      refine ⟨q, ?_⟩
      simp only [made, show ¬ ((0 : Int) = 2) from by decide, if_false, if_true]
      rw [hq]; exact om573
    · rw [hc]
      obtain ⟨q, hq⟩ := mod_ex (ga - gb)
      refine ⟨q, ?_⟩
      simp only [made, show ¬ ((1 : Int) = 2) from by decide, show ¬ ((1 : Int) = 0) from by decide, if_false, if_true]
      rw [hq]; exact om575
    · rw [hc]
      generalize gat vals (rA rs k : Int) = va
      generalize gat vals (rB rs k : Int) = vb
      obtain ⟨q, hq⟩ := mod_ex (ga * vb + va * gb)
      refine ⟨q, ?_⟩
      simp only [show ¬ ((2 : Int) = 0) from by decide, show ¬ ((2 : Int) = 1) from by decide, if_false, if_true]
      rw [hq]; grind
theorem grown_last (hn : rs.length = n) (h0 : 0 < n) {vals : List Int} {t : Int} : (grownL rs vals t).getLast?.getD 0 = gat (grownL rs vals t) ((n - 1 : Nat) : Int) := by
  have hlen : (grownL rs vals t).length = n := by rw [grownL_eq, foldA_len]; simpa using hn
  rw [List.getLast?_eq_getElem?, hlen]
  unfold gat
  simp [List.getD_eq_getElem?_getD]
end
/-- two lists in order with the same members are one -/
theorem plt_trans {p q r : Int × Int} (h1 : plt p q) (h2 : plt q r) : plt p r := by unfold plt at *; exact om585 h1 h2
theorem plt_irr {p : Int × Int} : ¬ plt p p := by unfold plt; exact om567
theorem sorted_ext : ∀ {l m : List (Int × Int)}, l.Pairwise plt → m.Pairwise plt → (∀ x, x ∈ l ↔ x ∈ m) → l = m
  | [], [], _, _, _ => rfl
  | [], b :: _, _, _, h => by have := (h b).mpr (.head _); cases this
  | a :: _, [], _, _, h => by have := (h a).mp (.head _); cases this
  | a :: l, b :: m, hl, hm, h => by
    rw [List.pairwise_cons] at hl hm
    have hab : a = b := by
      rcases List.mem_cons.mp ((h a).mp (.head _)) with e | e
      · exact e
      · rcases List.mem_cons.mp ((h b).mpr (.head _)) with e' | e'
        · exact e'.symm
        · exact absurd (plt_trans (hm.1 a e) (hl.1 b e')) plt_irr
    subst hab
    congr 1
    refine sorted_ext hl.2 hm.2 fun x => ?_
    constructor
    · intro hx
      rcases List.mem_cons.mp ((h x).mp (.tail _ hx)) with e | e
      · subst e; exact absurd (hl.1 x hx) plt_irr
      · exact e
    · intro hx
      rcases List.mem_cons.mp ((h x).mpr (.tail _ hx)) with e | e
      · subst e; exact absurd (hm.1 x hx) plt_irr
      · exact e
theorem list_ext_gat {l m : List Int} {n : Nat} (hl : l.length = n) (hm : m.length = n) (h : ∀ k : Nat, k < n → gat l k = gat m k) : l = m := by
  apply List.ext_getElem?
  intro i
  by_cases hi : i < n
  · have := h i hi
    unfold gat at this
    simp only [List.getD_eq_getElem?_getD, Int.toNat_natCast, List.getElem?_eq_getElem (show i < l.length by exact om348 hi hl), List.getElem?_eq_getElem (show i < m.length by exact om348 hi hm), Option.getD_some] at this
    rw [List.getElem?_eq_getElem (show i < l.length by exact om348 hi hl), List.getElem?_eq_getElem (show i < m.length by exact om348 hi hm), this]
  · rw [List.getElem?_eq_none (by exact om356 hl hi), List.getElem?_eq_none (by exact om356 hm hi)]
/-- leaned: what the list holds when k down to m have been looked at -/
structure LInv (n : Nat) (A B : Nat → Nat) (m : Nat) (M : List Nat) : Prop where
  last : n - 1 ∈ M
  sound : ∀ x ∈ M, Reach n A B x
  closed : ∀ x ∈ M, m ≤ x → 3 ≤ x → A x ∈ M ∧ B x ∈ M
theorem LInv.fin {n : Nat} {A B : Nat → Nat} {M : List Nat} (h : LInv n A B 3 M) (x : Nat) : x ∈ M ↔ Reach n A B x := by
  refine ⟨h.sound x, fun r => ?_⟩
  induction r with
  | last => exact h.last
  | left _ h3 ih => exact (h.closed _ ih h3 h3).1
  | right _ h3 ih => exact (h.closed _ ih h3 h3).2
theorem LInv.start {n : Nat} {A B : Nat → Nat} : LInv n A B n [n - 1] := by
  refine ⟨by simp, fun x hx => ?_, fun x hx hm => ?_⟩
  · rw [List.mem_singleton] at hx; subst hx; exact .last
  · rw [List.mem_singleton] at hx; subst hx
    intro h3; exact om460 h3 hm
theorem LInv.skip {n : Nat} {A B : Nat → Nat} {m : Nat} {M : List Nat} (h : LInv n A B (m + 1) M) (hm : m ∉ M) : LInv n A B m M := by
  refine ⟨h.last, h.sound, fun x hx hmx h3 => h.closed x hx ?_ h3⟩
  have : x ≠ m := fun e => hm (e ▸ hx)
  exact om277 hmx this
theorem LInv.take {n : Nat} {A B : Nat → Nat} {m : Nat} {M : List Nat} (h : LInv n A B (m + 1) M) (hm : m ∈ M) (h3 : 3 ≤ m) (hab : A m < m ∧ B m < m) : LInv n A B m (M ++ [A m, B m]) := by
  refine ⟨List.mem_append_left _ h.last, fun x hx => ?_, fun x hx hmx h3' => ?_⟩
  · rcases List.mem_append.mp hx with hx | hx
    · exact h.sound x hx
    · simp only [List.mem_cons, List.not_mem_nil, or_false] at hx
      rcases hx with rfl | rfl
      · exact .left (h.sound m hm) h3
      · exact .right (h.sound m hm) h3
  · rcases List.mem_append.mp hx with hx | hx
    · by_cases e : x = m
      · subst e; exact ⟨by simp, by simp⟩
      · have := h.closed x hx (by exact om279 hmx e) h3'
        exact ⟨List.mem_append_left _ this.1, List.mem_append_left _ this.2⟩
    · simp only [List.mem_cons, List.not_mem_nil, or_false] at hx
      rcases hx with rfl | rfl <;> (first | exact om461 hab hmx | exact om462 hab hmx)
end

section
set_option maxRecDepth 100000
theorem paired_map {f : Nat → Int} : ∀ {l : List Nat} {zs : List Int}, Paired (fun i z => z = f i) l zs → zs = l.map f
  | _, _, .nil => rfl
  | _, _, .cons h t => by rw [List.map_cons, ← h, paired_map t]
theorem paired_range {f : Nat → Int} {n : Nat} {zs : List Int} (h : Paired (fun i z => z = f i) ((List.range n).filter fun _ => true) zs) : zs = (List.range n).map f := by
  rw [List.filter_eq_self.mpr (fun _ _ => rfl)] at h
  exact paired_map h
theorem paired_rng {l : List Nat} : ∀ {zs : List Int}, Paired (fun _ z => 0 ≤ z ∧ z < 1009) l zs → Rng zs
  | _, .nil => fun _ h => by cases h
  | _, .cons h t => fun y hy => by
    rcases List.mem_cons.mp hy with rfl | hy
    · exact h
    · exact paired_rng t y hy
section
variable {prog : Program} {w : World} {A : Around} {E : Value → Shared → Prop} {b s : Shared} {ps : List Prot} {H : HP} {L x : Addr} {l : List (Str × Value)} {Q : Value → Shared → Prop} {vs : List Value}
/-- x[:hi] of a list that stood before -/
theorem sl_base {value slice : Expr} {vl vu : Value} {lo hi : Option Int} (a : At b ps L H l s) (hl : b.heap.IsList x vs.toArray) (pl : IsPart vl lo) (pu : IsPart vu hi) (hb : vs.length < 100000)
    (h : ∀ s' y, H y = none → At b ps L (upd H y (lsO (slicePick vs.toArray lo hi none).toList 0)) l s' → Q (.ref y) s')
    (hs : ∀ z, ∃ ops, subscripted slice false (.ref x) (.ref z) = operate ops (getItem (.ref x) (.ref z)) := by intro _; exact ⟨_, by with_unfolding_all rfl⟩) :
    wpAny (model prog w) A (subscriptTail value slice (.ref x) (.ref s.heap.objs.size)) Q E { s with heap := s.heap.push { cls := .type "slice", data := .fields #[vl, vu, .none] } } := by
  have hsl := a.fresh (get_size s.heap)
  have a1 := a.push { cls := .type "slice", data := .fields #[vl, vu, .none] } rfl s.toks
  obtain ⟨ops, hs'⟩ := hs s.heap.objs.size
  have hl1 : (s.heap.push { cls := .type "slice", data := .fields #[vl, vu, .none] }).IsList x vs.toArray := hl.at fun o e => a1.hp.keep _ o e
  refine tail_any (s := { s with heap := s.heap.push { cls := .type "slice", data := .fields #[vl, vu, .none] } }) hl1.typeIs slot_list_getitem.lookup ?_ hs'
  refine wpAny_getItem_list_slice hl1 ⟨_, a1.get upd_self, rfl, rfl⟩ pl pu .none (by simp) ?_ (by simp only [List.size_toArray]; show vs.length ≤ 2 ^ 24; exact om114 hb)
  have hy := a1.fresh (get_size _)
  have a2 := a1.push (lsO (slicePick vs.toArray lo hi none).toList 0) rfl s.toks
  have hyn : H (s.heap.push { cls := .type "slice", data := .fields #[vl, vu, .none] }).objs.size = none := none_of (fun c o e => upd_of e hsl) hy
  refine h _ _ hyn (a2.weak fun c o e => ?_)
  by_cases hc : c = (s.heap.push { cls := .type "slice", data := .fields #[vl, vu, .none] }).objs.size
  · subst hc; rw [upd_self] at e ⊢; exact e
  · rw [upd_ne hc] at e ⊢; exact upd_of e hsl
end
theorem swap_cell {env : Env} {L : Addr} {ns : List (Str × NameKind)} {cs : List (Str × Addr)} {x : Str} {px : Pos} {elt : Expr} {gs : List Comprehension} {sc : Scope} {pos : Pos} {ln : Nat} (he : EnvIs env L ns cs) (h : ns.lookup x = some .cell) :
    swapsWith (.ListComp elt gs sc pos) (some (.Name x px)) ln env = pure false := by
  unfold swapsWith
  have : (env.kindOf x == some NameKind.local) = false := by rw [he.kof, h]; rfl
  simp only [this, Bool.and_false, Bool.false_and]
/-- what the law holds once the rules stand -/
structure Ws (H : HP) (cR cN cP cK xr xn xp xk : Addr) (rt : List (Addr × R3)) (n : Nat) (pls rks : List Int) : Prop where
  ceR : CeAt H cR (some (.ref xr))
  ceN : CeAt H cN (some (.ref xn))
  ceP : CeAt H cP (some (.ref xp))
  ceK : CeAt H cK (some (.ref xk))
  rl : RlAt H xr rt
  nm : IlAt H xn (nms n)
  pp : IlAt H xp pls
  kk : IlAt H xk rks
structure Wd (xr xn xp xk : Addr) : Prop where
  pk : xp ≠ xk
  pr : xp ≠ xr
  pn : xp ≠ xn
  kr : xk ≠ xr
  kn : xk ≠ xn
section
variable {H H' : HP} {cR cN cP cK xr xn xp xk z : Addr} {rt : List (Addr × R3)} {n m : Nat} {pls rks ns : List Int} {vs : List Value} {o : Obj}
theorem Ws.mono (h : Ws H cR cN cP cK xr xn xp xk rt n pls rks) (m : ∀ a o, H a = some o → H' a = some o) : Ws H' cR cN cP cK xr xn xp xk rt n pls rks :=
  ⟨h.ceR.mono m, h.ceN.mono m, h.ceP.mono m, h.ceK.mono m, h.rl.mono m, h.nm.mono fun o e => m _ o e, h.pp.mono fun o e => m _ o e, h.kk.mono fun o e => m _ o e⟩
theorem Ws.fresh (h : Ws H cR cN cP cK xr xn xp xk rt n pls rks) (hz : H z = none) : Ws (upd H z o) cR cN cP cK xr xn xp xk rt n pls rks := h.mono fun _ _ e => upd_of e hz
theorem Ws.setP (h : Ws H cR cN cP cK xr xn xp xk rt n pls rks) (d : Wd xr xn xp xk) (hi : IntsAre vs ns) : Ws (upd H xp (lsO vs m)) cR cN cP cK xr xn xp xk rt n ns rks := by
  obtain ⟨_, e⟩ := h.pp.ls
  exact ⟨h.ceR.upd (h.ceR.ne_ls e), h.ceN.upd (h.ceN.ne_ls e), h.ceP.upd (h.ceP.ne_ls e), h.ceK.upd (h.ceK.ne_ls e), h.rl.upd d.pr.symm e, h.nm.upd d.pn.symm, ⟨vs, LsAt.self, hi⟩, h.kk.upd d.pk.symm⟩
theorem Ws.setK (h : Ws H cR cN cP cK xr xn xp xk rt n pls rks) (d : Wd xr xn xp xk) (hi : IntsAre vs ns) : Ws (upd H xk (lsO vs m)) cR cN cP cK xr xn xp xk rt n pls ns := by
  obtain ⟨_, e⟩ := h.kk.ls
  exact ⟨h.ceR.upd (h.ceR.ne_ls e), h.ceN.upd (h.ceN.ne_ls e), h.ceP.upd (h.ceP.ne_ls e), h.ceK.upd (h.ceK.ne_ls e), h.rl.upd d.kr.symm e, h.nm.upd d.kn.symm, h.pp.upd d.pk, ⟨vs, LsAt.self, hi⟩⟩
theorem Ws.list (h : Ws H cR cN cP cK xr xn xp xk rt n pls rks) (hz : LsAt H z vs) (h1 : z ≠ xr) (h2 : z ≠ xn) (h3 : z ≠ xp) (h4 : z ≠ xk) : Ws (upd H z o) cR cN cP cK xr xn xp xk rt n pls rks :=
  ⟨h.ceR.upd (h.ceR.ne_ls hz), h.ceN.upd (h.ceN.ne_ls hz), h.ceP.upd (h.ceP.ne_ls hz), h.ceK.upd (h.ceK.ne_ls hz), h.rl.upd h1.symm hz, h.nm.upd h2.symm, h.pp.upd h3.symm, h.kk.upd h4.symm⟩
/-- a change at a cell or at another list -/
theorem Ws.other (h : Ws H cR cN cP cK xr xn xp xk rt n pls rks) (hz : ∀ a o', H a = some o' → a = z → False) : Ws (upd H z o) cR cN cP cK xr xn xp xk rt n pls rks :=
  h.mono fun a o' e => (upd_ne fun q => hz a o' e q).trans e
theorem IlAt.ne_ce {x c : Addr} {v : Option Value} (h : IlAt H x ns) (hc : CeAt H c v) : x ≠ c := let ⟨_, e⟩ := h.ls; (hc.ne_ls e).symm
theorem T3At.ne_ce {x c : Addr} {r : R3} {v : Option Value} (h : T3At H x r) (hc : CeAt H c v) : x ≠ c := by
  rintro rfl
  obtain ⟨_, _, _, _, e⟩ := h
  obtain ⟨o, e', hd⟩ := hc
  rw [e] at e'; cases e'; cases hd
theorem RlAt.updC {x c : Addr} {v : Option Value} (h : RlAt H x rt) (hc : CeAt H c v) : RlAt (Mine.upd H c o) x rt :=
  ⟨h.1.upd (hc.ne_ls h.1).symm, fun p hp => (h.2 p hp).upd ((h.2 p hp).ne_ce hc)⟩
theorem PlAt.updC {x c : Addr} {v : Option Value} {its : List It} (h : PlAt H x its) (hc : CeAt H c v) : PlAt (Mine.upd H c o) x its :=
  ⟨h.1.upd (hc.ne_ls h.1).symm, fun i hi => (h.2 i hi).upd (by
    rintro e
    obtain ⟨_, _, _, e1⟩ := h.2 i hi
    obtain ⟨o', e2, hd⟩ := hc
    rw [e, e2] at e1; cases e1; cases hd)⟩
theorem Ws.setC {c : Addr} {v : Option Value} (h : Ws H cR cN cP cK xr xn xp xk rt n pls rks) (hc : CeAt H c v) (h1 : cR ≠ c) (h2 : cN ≠ c) (h3 : cP ≠ c) (h4 : cK ≠ c) : Ws (upd H c o) cR cN cP cK xr xn xp xk rt n pls rks :=
  ⟨h.ceR.upd h1, h.ceN.upd h2, h.ceP.upd h3, h.ceK.upd h4, h.rl.updC hc, h.nm.upd (h.nm.ne_ce hc), h.pp.upd (h.pp.ne_ce hc), h.kk.upd (h.kk.ne_ce hc)⟩
end
section
variable {prog : Program} {w : World} {A : Around} {E : Value → Shared → Prop} {env : Env} {nm' : List (Str × NameKind)} {cs : List (Str × Addr)}
  {b s : Shared} {ps : List Prot} {H : HP} {L y : Addr} {l : List (Str × Value)} {u v r : Value}
theorem as_v3 {x1 x2 x3 : Str} {p1 p2 p3 pos : Pos} {kk : Nat} {Q : Unit → Shared → Prop} (hh : A.handled = none) (a : At b ps L H l s) (he : EnvIs env L nm' cs) (ht : TpAt H y [u, v, r])
    (h : ∀ s', At b ps L H ((x3, r) :: (x2, v) :: (x1, u) :: l) s' → Q () s')
    (h1 : nm'.lookup x1 = some .local := by kernel_rfl!) (h2 : nm'.lookup x2 = some .local := by kernel_rfl!) (h3 : nm'.lookup x3 = some .local := by kernel_rfl!) :
    wpAny (model prog w) A (assign (.Tuple [.Name x1 p1, .Name x2 p2, .Name x3 p3] kk pos) env (.ref y)) Q E s := by
  refine wpAny_assign_Tuple hh (ht.isTuple a) rfl rfl fun h' hx => ?_
  have a := a.ext (get_size _) hx s.toks
  show wpAny _ _ (assignInOrder [assign (.Name x1 p1) env, assign (.Name x2 p2) env, assign (.Name x3 p3) env] [u, v, r]) _ _ _
  simp only [assignInOrder]
  refine wpAny_bind (wpAny_holding (wpAny_assign_Name (st_local a he ?_ h1)))
  intro s a
  refine wpAny_bind (wpAny_holding (wpAny_assign_Name (st_local a he ?_ h2)))
  intro s a
  refine wpAny_bind (wpAny_holding (wpAny_assign_Name (st_local a he ?_ h3)))
  intro s a
  exact wpAny_pure (h s a)
end
end

section
set_option maxRecDepth 100000
section
variable {prog : Program} {w : World} {A : Around} {E : Value → Shared → Prop} {Q : Value → Shared → Prop}
  {b s : Shared} {ps : List Prot} {H : HP} {L x d : Addr} {l : List (Str × Value)} {env : Env} {ns ns' : List (Str × NameKind)} {cs cl : List (Str × Addr)} {vs : List Value}
/-- a comprehension over a range whose values are new pairs -/
structure PairsTurn (prog : Program) (w : World) (A : Around) (L : Addr) (ns' : List (Str × NameKind)) (cl : List (Str × Addr)) (y : Str) (ifs : List Expr) (elt : Expr) (Q : Value → Shared → Prop)
    (n : Nat) (P : Nat → Value → Prop) (b : Shared) (ps : List Prot) (H : HP) (l : List (Str × Value)) (p : Nat → Bool) (K : Nat → Int × Int) : Prop where
  small : n < 10000
  turn : ∀ C env' i v s ps' H', EnvIs env' C ns' cl → i < n → P i v → (∀ a o, H a = some o → H' a = some o) → At b ps' C H' [(y, v)] s →
    wpAny (model prog w) A (forIn ifs true fun c r => if r = true then do let ok ← isTrue c env' (eval c env'); pure (ForInStep.yield ok) else pure (ForInStep.yield r)) (fun ok s₃ => ok = p i ∧
      if ok = true then wpAny (model prog w) A (eval elt env') (fun r s₄ => ∃ T o l', r = .ref T ∧ H' T = none ∧ PrAt (upd H' T o) T (K i) ∧ At b ps' C (upd H' T o) l' s₄) NoE s₃
      else ∃ l', At b ps' C H' l' s₃) NoE s
  done : ∀ D s H' cts, (∀ a o, H a = some o → H' a = some o) → PlAt H' D cts → cts.map (·.2) = ((List.range n).filter p).map K → At b ps L H' l s → Q (.ref D) s
theorem PairsTurn.pk {y : Str} {ifs : List Expr} {elt : Expr} {I : Addr} {n : Nat} {P : Nat → Value → Prop} {St : Nat → Heap → Prop} {p : Nat → Bool} {K : Nat → Int × Int} {o₀ : Obj}
    (k : PairsTurn prog w A L ns' cl y ifs elt Q n P b ps H l p K) (W : Walks prog w A I [I] [I] n P St) (hI : ∀ i h, St i h → ∃ o, h.get? I = some o) (a : At b (.ob I o₀ :: ps) L H l s) (hps : ∀ p ∈ ps, p.at ≠ I) (st : St 0 s.heap) :
    CompPk prog w A E env L ns' cl y ifs elt Q I [I] n P St b ps H l H (fun D i H' acc => H D = none ∧ (∀ a o, H a = some o → H' a = some o) ∧ ∃ cts : List It, acc = cts.map irf ∧ (∀ t ∈ cts, PrAt H' t.1 t.2) ∧ cts.map (·.2) = ((List.range i).filter p).map K) s where
  W := W
  hI := hI
  at_ := ⟨o₀, a⟩
  hps := hps
  st := st
  hfp := by
    rintro D i H' acc _ y hy hyI
    simp only [List.mem_singleton] at hy; exact absurd hy hyI
  small := k.small
  init := fun D hD => ⟨hD, fun a o e => upd_of e hD, [], rfl, fun t ht => (by cases ht), rfl⟩
  turn := by
    rintro D C env' i v s ps' H' acc he hi hP hD ⟨_, hsub, cts, rfl, hpr, hck⟩ hls a
    refine wpAny_mono (k.turn C env' i v s ps' _ he hi hP hsub a) (fun ok s₃ h₃ => ?_) fun _ _ e => e
    obtain ⟨hok, h₃⟩ := h₃
    split
    · rename_i h1
      rw [if_pos h1] at h₃
      refine wpAny_mono h₃ (fun r s₄ h₄ => ?_) fun _ _ e => e
      obtain ⟨T, o, l', rfl, hT, hp, a4⟩ := h₄
      have hls' := hls.fresh (o := o) hT
      refine ⟨_, _, a4, hls', fun m' => ⟨hD, fun c oc e => ?_, cts ++ [(T, K i)], by simp, fun t ht => ?_, ?_⟩⟩
      · rw [upd_ne (by rintro rfl; rw [hD] at e; cases e)]; exact upd_of (hsub c oc e) hT
      · rcases List.mem_append.mp ht with ht | ht
        · exact ((hpr t ht).fresh hT).upd (((hpr t ht).fresh hT).ne_ls hls')
        · rw [List.mem_singleton] at ht; subst ht
          exact hp.upd (hp.ne_ls hls')
      · rw [List.map_append, hck, List.range_succ, List.filter_append, List.map_append]
        congr 1
        simp [← hok, h1]
    · rename_i h1
      rw [if_neg h1] at h₃
      obtain ⟨l', a4⟩ := h₃
      refine ⟨_, _, a4, hls, hD, hsub, cts, rfl, hpr, ?_⟩
      rw [hck, List.range_succ, List.filter_append, List.map_append]
      have : p i = false := by rw [← hok]; simpa using h1
      simp [this]
  len := by
    rintro D i H' acc ⟨_, _, cts, rfl, _, hck⟩
    have h1 := congrArg List.length hck
    have h2 := List.length_filter_le p (List.range i)
    rw [List.length_range] at h2
    simp only [List.length_map] at h1 ⊢
    exact om355 h1 h2
  done := by
    rintro D s H' acc hD ⟨_, hsub, cts, rfl, hpr, hck⟩ hls a
    exact k.done D s H' cts hsub ⟨hls, hpr⟩ hck a
theorem pairs_range {y : Str} {ifs : List Expr} {elt : Expr} {p : Nat → Bool} {K : Nat → Int × Int} {a0 b0 c0 : Int} {t u v : Tok} {n : Nat} (hh : A.handled = none) (a : At b ps L H l s) (hr : H x = some (rgO a0 b0 c0 t u v)) (hsm : Builtin.Range.small a0 b0 c0 = true) (hsz : Builtin.Range.rangeSize a0 b0 c0 = n)
    (k : PairsTurn prog w A L ns' cl y ifs elt Q n (fun i v => ∃ t, v = .int (a0 + i * c0) t) b ps H l p K) :
    wpAny (model prog w) A (pyIter (.ref x)) (fun it s₂ => ∃ I fp n P St b ps H l G J, it = .ref I ∧ CompPk prog w A E env L ns' cl y ifs elt Q I fp n P St b ps H l G J s₂) E s := by
  refine wpAny_pyIter_range (a.get hr) hsm ?_
  rw [hsz]
  have W := Walks.range (prog := prog) (w := w) hh s.heap.objs.size a0 c0 n
  have hn := get_size s.heap
  have a' := a.aside_new (s' := { s with heap := s.heap.push { cls := .type "range_iterator", data := .fields #[rawInt a0, rawInt n, rawInt c0] } }) hn (Heap.get?_push_size _ rfl) (fun y oy _ e => Heap.get?_push_of_some _ e) rfl rfl
  refine ⟨_, _, _, _, _, _, _, _, _, _, _, rfl, k.pk W (fun i h st => ⟨_, st⟩) a' (a.ps_ne hn) ?_⟩
  show IsRangeIter _ _ _ _ _
  simp only [Int.natCast_zero, Int.zero_mul, Int.add_zero, Int.sub_zero]
  exact Heap.get?_push_size _ rfl
end
end

section
set_option maxRecDepth 100000
theorem two_in {l : List Nat} {x y : Nat} (hx : x ∈ l) (hy : y ∈ l) (h : x ≠ y) : 2 ≤ l.length := by
  match l, hx, hy with
  | [z], hx, hy =>
    rw [List.mem_singleton] at hx hy
    exact absurd (hx.trans hy.symm) h
  | _ :: _ :: _, _, _ => simp
section
variable {prog : Program} {w : World} {A : Around} {E : Value → Shared → Prop} {mg mb : Str → Option Value} {outer : List Env}
  {b s : Shared} {ps : List Prot} {H : HP} {L x : Addr} {l : List (Str × Value)} {Q : Value → Shared → Prop} {vs : List Value} {ms : List Int}
set_option maxHeartbeats 4000000 in
theorem law_spec (C : Ctx (hd.heap_1 w.params) b mg mb) (hp0 : Hp b ps H s) (rm : Rm 20 A) (hfr : A.frames = some outer) (fo : FrOk ps outer) (hx : b.heap.IsList x vs.toArray) (hi : IntsAre vs ms) (hl : ms.length ≤ 63)
    (q : ∀ H' s', Hp b ps H' s' → Q (.bool true) s') : wpAny (model prog w) A (call (.ref 221) [.ref x]) Q E s := by
  have hvl := hi.length
  refine wpAny_call ?_
  refine call_codeC [("script", .ref x)] [("script", .ref x)] C hp0 (by with_unfolding_all rfl) rfl rfl rfl (by kernel_rfl!) rm.room (by with_unfolding_all rfl) ?_ (fun y v e => ?_) ?_
  · intro y hy
    rw [List.mem_singleton] at hy; subst hy; exact .inl (by kernel_rfl!)
  · rw [List.lookup_cons] at e
    by_cases hy : (y == Str.ofString "script") = true
    · rw [hy] at e; cases e
      rw [eq_of_beq hy]; rfl
    · rw [Bool.not_eq_true] at hy; rw [hy] at e; cases e
  intro L s env cs H0 he hcs hsub0 hcell hap a
  dsimp only at he hcs hcell
  have rm1 : Rm 19 (A.deeper env) := rm.deeper
  have hfr1 : (A.deeper env).frames = some (env :: outer) := by show A.frames.map (env :: ·) = _; rw [hfr]; rfl
  generalize A.deeper env = A1 at *
  have hcs' : cs = [(("leaned" : Str), L + 1 + 1 + 1 + 1 + 1), (("ranks" : Str), L + 1 + 1 + 1 + 1), (("plain" : Str), L + 1 + 1 + 1), (("names" : Str), L + 1 + 1), (("rules" : Str), L + 1)] := by rw [hcs]; rfl
  have c1 : CeAt H0 (L + 1) none := (hcell "rules" (L + 1) (by rw [hcs']; kernel_rfl!)).2
  have c2 : CeAt H0 (L + 1 + 1) none := (hcell "names" (L + 1 + 1) (by rw [hcs']; kernel_rfl!)).2
  have c3 : CeAt H0 (L + 1 + 1 + 1) none := (hcell "plain" (L + 1 + 1 + 1) (by rw [hcs']; kernel_rfl!)).2
  have c4 : CeAt H0 (L + 1 + 1 + 1 + 1) none := (hcell "ranks" (L + 1 + 1 + 1 + 1) (by rw [hcs']; kernel_rfl!)).2
  have c5 : CeAt H0 (L + 1 + 1 + 1 + 1 + 1) none := (hcell "leaned" (L + 1 + 1 + 1 + 1 + 1) (by rw [hcs']; kernel_rfl!)).2
  subst hcs'
  clear hcell hap hcs
  have nq : ∀ i j : Nat, i ≠ j → L + i ≠ L + j := fun i j h e => h (Nat.add_left_cancel e)
  have d12 : L + 1 ≠ L + 1 + 1 := nq 1 2 (by decide)
  have d13 : L + 1 ≠ L + 1 + 1 + 1 := nq 1 3 (by decide)
  have d14 : L + 1 ≠ L + 1 + 1 + 1 + 1 := nq 1 4 (by decide)
  have d15 : L + 1 ≠ L + 1 + 1 + 1 + 1 + 1 := nq 1 5 (by decide)
  have d23 : L + 1 + 1 ≠ L + 1 + 1 + 1 := nq 2 3 (by decide)
  have d24 : L + 1 + 1 ≠ L + 1 + 1 + 1 + 1 := nq 2 4 (by decide)
  have d25 : L + 1 + 1 ≠ L + 1 + 1 + 1 + 1 + 1 := nq 2 5 (by decide)
  have d34 : L + 1 + 1 + 1 ≠ L + 1 + 1 + 1 + 1 := nq 3 4 (by decide)
  have d35 : L + 1 + 1 + 1 ≠ L + 1 + 1 + 1 + 1 + 1 := nq 3 5 (by decide)
  have d45 : L + 1 + 1 + 1 + 1 ≠ L + 1 + 1 + 1 + 1 + 1 := nq 4 5 (by decide)
  generalize L + 1 + 1 + 1 + 1 + 1 = cL at *
  generalize L + 1 + 1 + 1 + 1 = cK at *
  generalize L + 1 + 1 + 1 = cP at *
  generalize L + 1 + 1 = cN at *
  generalize L + 1 = cR at *
  clear nq
  -- numbers = script[:24]
  walk_at "st"
  refine wpAny_Slice ?_
  rw [evalPart_none]
  refine wpAny_pure ?_
  rw [evalPart_some]
  walk_at "go"
  refine wpAny_pure ?_
  refine sl_base a hx .none (.int _ _) (by exact om262 hvl hl) ?_
  rw [show (slicePick vs.toArray none (some 24) none).toList = vs.take 24 from pick_upto' vs 24]
  intro s xm hxm a
  have im : IlAt (upd H0 xm (lsO (vs.take 24) 0)) xm (ms.take 24) := ⟨_, LsAt.self, by
    have := kmk_upto (y := 24) hi (by decide)
    rw [show (slicePick vs.toArray none (some 24) none).toList = vs.take 24 from pick_upto' vs 24] at this
    exact this⟩
  have hml : (ms.take 24).length < 900 := by simp; exact om103
  generalize ms.take 24 = nums at *
  walk_at "go"
  generalize lsO (vs.take 24) 0 = om at *
  -- count = 4 + sum(numbers) % 5
  walk_at "st"
  refine ev_call_b C a he (g_sum w) boot_sum ?_
  walk_at "go"
  obtain ⟨vm, hvm, ivm⟩ := id im
  refine do_sum rm1.hand a hvm ivm ?_
  intro t1 s a
  walk_at "go"
  obtain ⟨cnt, hcnt, hcc⟩ : ∃ cnt : Nat, 4 + nums.sum % 5 = (cnt : Int) ∧ 4 ≤ cnt ∧ cnt ≤ 8 := ⟨(4 + nums.sum % 5).toNat, by exact om528, by exact om529, by exact om499⟩
  rw [hcnt] at a
  -- rules = _law_rules(_law_dealt([..][:count], numbers))
  walk_at "st"
  refine ev_call_fn C (by assumption) he (g_rules w) (by with_unfolding_all rfl) rfl ?_
  walk_at "go"
  refine ev_call_fn C (by assumption) he (g_dealt w) (by with_unfolding_all rfl) rfl ?_
  walk_at "go"
  refine new_il a (.cons _ _ (.cons _ _ (.cons _ _ (.cons _ _ (.cons _ _ (.cons _ _ (.cons _ _ (.cons _ _ .nil)))))))) (by decide) ?_
  intro s z1 o1 hz1 iz1 a
  walk_at "go"
  refine wpAny_Slice ?_
  rw [evalPart_none]
  refine wpAny_pure ?_
  rw [evalPart_some]
  walk_at "go"
  refine wpAny_pure ?_
  obtain ⟨vb, hvb, ivb⟩ := id iz1
  have hvbl := ivb.length
  refine sl_tail a hvb .none (.int _ _) (by rw [hvbl]; decide) ?_
  intro s z2 hz2 a
  have iz2 : IlAt (upd (upd (upd H0 xm om) z1 o1) z2 (lsO (slicePick vb.toArray none (some (cnt : Int)) none).toList 0)) z2 ([17, 4, 29, 18, 7, 40, 56, 71].take cnt) := ⟨_, LsAt.self, kmk_upto (y := (cnt : Int)) ivb (by exact om49)⟩
  generalize lsO (slicePick vb.toArray none (some (cnt : Int)) none).toList 0 = o2 at *
  walk_at "go"
  refine ⟨a.kept, ?_⟩
  obtain ⟨pp, hpp, back⟩ := a.call
  have im2 := (im.fresh (o := o1) hz1).fresh (o := o2) hz2
  refine dealt_spec C hpp (rm1.mono (by decide)) iz2 im2 (by simp; exact om34 hcnt) hml ?_
  intro H1 yd zs s1 sub1 nyd iyd hzl hp1
  have a := back _ _ hp1
  walk_at "go"
  refine ⟨a.kept, ?_⟩
  obtain ⟨pp, hpp, back⟩ := a.call
  obtain ⟨vd, hvd, ivd⟩ := iyd
  have hvdl := ivd.length
  have hzl' : zs.length = cnt := by rw [hzl]; simp; exact om35 hcnt
  refine rules_spec C hpp (rm1.mono (by decide)) hvd ivd (by exact om300 hvdl hzl' hcnt) ?_
  intro H2 xr rt s2 sub2 nxr rl2 hrt hwf hp2
  have a := back _ _ hp2
  have hn : rt.length = 3 + cnt := by rw [hrt, hzl']
  obtain ⟨n, hnn⟩ : ∃ n, n = 3 + cnt := ⟨_, rfl⟩
  rw [← hnn] at hn
  have hn4 : 7 ≤ n ∧ n ≤ 11 := by exact om390 hrt hn hzl' hcnt
  have im3 : IlAt H2 xm nums := (im2.mono fun o e => sub1 _ o e).mono fun o e => sub2 _ o e
  have k02 : ∀ c o, H0 c = some o → H2 c = some o := fun c o e => sub2 _ _ (sub1 _ _ (upd_of (upd_of (upd_of e hxm) hz1) hz2))
  have c1 := c1.mono k02
  have c2 := c2.mono k02
  have c3 := c3.mono k02
  have c4 := c4.mono k02
  have c5 := c5.mono k02
  walk_at "go"
  refine st_cell a he (by kernel_rfl!) c1 ?_
  intro s oR hoR a
  have ceR : CeAt (upd H2 cR oR) cR (some (.ref xr)) := ⟨oR, upd_self, hoR⟩
  have rl3 := rl2.updC (o := oR) c1
  have im4 := im3.upd (o := oR) (im3.ne_ce c1)
  have c2 := c2.upd (o := oR) d12.symm
  have c3 := c3.upd (o := oR) d13.symm
  have c4 := c4.upd (o := oR) d14.symm
  have c5 := c5.upd (o := oR) d15.symm
  generalize upd H2 cR oR = H3 at *
  clear rl2 im3 im2 im c1
  -- names = [(7 * k + 3) % 11 for k in range(len(rules))]
  walk_at "cons"
  refine wpAny_Assign_Name ?_ (swap_cell he (by kernel_rfl!))
  refine ev_comp (ns' := [(".0", .local), ("k", .local)]) (cl := []) he ((clos_of he (by kernel_rfl!)).trans (by rfl)) (by decide) rfl (by decide) (by kernel_rfl!) (by kernel_rfl!) (by kernel_rfl!) ?_ (by intro _; with_unfolding_all rfl)
  refine ev_call_t C (by assumption) he (g_range w) boot_range ?_
  walk_at "go"
  refine ev_call_b C (by assumption) he (g_len w) boot_len ?_
  walk_at "go"
  refine ev_cell a he (by kernel_rfl!) ceR ?_
  walk_at "go"
  refine do_lenN a rl3.1 (n := n) (by rw [List.length_map]; exact hn) (by exact om395 hrt hn hzl' hcnt) ?_
  intro t2 s a
  walk_at "go"
  refine do_range1 a ?_
  intro s rg u1 u2 u3 hrg a
  have hdu := range_up (n := (n : Int)) (by exact om49) (by exact om392 hrt hn hzl' hcnt)
  rw [Int.toNat_natCast] at hdu
  refine ints_range (p := fun _ => true) (G := fun i z => z = nm i) rm1.hand a upd_self hdu.1 hdu.2 ⟨by exact om394 hrt hn hzl' hcnt, ?_, ?_⟩
  · rintro C1 env' i v s ps' H' he' hi' ⟨tv, rfl⟩ hs' a
    have hi0 : (0 : Int) + (i : Int) * 1 = i := by exact om46
    rw [hi0] at a
    refine wpAny_tests_nil ⟨rfl, ?_⟩
    rw [if_pos rfl]
    walk_at "go"
    exact ⟨_, _, _, rfl, rfl, a⟩
  intro xn s vn zn mn hxn ivn hpn a
  have hzn : zn = nms n := paired_range hpn
  subst hzn
  have inm : IlAt (upd (upd H3 rg (rgO 0 n 1 u1 u2 u3)) xn (lsO vn mn)) xn (nms n) := ⟨vn, LsAt.self, ivn⟩
  generalize lsO vn mn = on at *
  have k34 : ∀ c o, H3 c = some o → upd (upd H3 rg (rgO 0 n 1 u1 u2 u3)) xn on c = some o := fun c o e => upd_of (upd_of e hrg) hxn
  have nxn : H3 xn = none := none_of (fun c o e => upd_of e hrg) hxn
  generalize upd (upd H3 rg (rgO 0 n 1 u1 u2 u3)) xn on = H4 at *
  have c2 := c2.mono k34
  have c3 := c3.mono k34
  have c4 := c4.mono k34
  have c5 := c5.mono k34
  have ceR := ceR.mono k34
  have rl4 := rl3.mono k34
  have im5 := im4.mono fun o e => k34 _ o e
  walk_at "go"
  refine st_cell a he (by kernel_rfl!) c2 ?_
  intro s oN hoN a
  have ceN : CeAt (upd H4 cN oN) cN (some (.ref xn)) := ⟨oN, upd_self, hoN⟩
  have ceR := ceR.upd (o := oN) d12
  have rl5 := rl4.updC (o := oN) c2
  have inm := inm.upd (o := oN) (inm.ne_ce c2)
  have im6 := im5.upd (o := oN) (im5.ne_ce c2)
  have c3 := c3.upd (o := oN) d23.symm
  have c4 := c4.upd (o := oN) d24.symm
  have c5 := c5.upd (o := oN) d25.symm
  generalize upd H4 cN oN = H5 at *
  clear rl4 rl3 im5 im4 c2
  -- plain = [x % 1009 for x in _law_dealt([2, 3, 5], [x // 9 for x in numbers])]
  walk_at "cons"
  refine wpAny_Assign_Name ?_ (swap_cell he (by kernel_rfl!))
  refine ev_comp (ns' := [(".0", .local), ("x", .local)]) (cl := []) he ((clos_of he (by kernel_rfl!)).trans (by rfl)) (by decide) rfl (by decide) (by kernel_rfl!) (by kernel_rfl!) (by kernel_rfl!) ?_ (by intro _; with_unfolding_all rfl)
  refine ev_call_fn C (by assumption) he (g_dealt w) (by with_unfolding_all rfl) rfl ?_
  walk_at "go"
  refine new_il a (.cons _ _ (.cons _ _ (.cons _ _ .nil))) (by decide) ?_
  intro s z3 o3 hz3 iz3 a
  walk_at "go"
  refine ev_comp (ns' := [(".0", .local), ("x", .local)]) (cl := []) he ((clos_of he (by kernel_rfl!)).trans (by rfl)) (by decide) rfl (by decide) (by kernel_rfl!) (by kernel_rfl!) (by kernel_rfl!) ?_ (by intro _; with_unfolding_all rfl)
  walk_at "go"
  obtain ⟨vm, hvm, ivm⟩ := im6.fresh (o := o3) hz3
  have hvml := ivm.length
  refine ints_list (p := fun _ => true) (G := fun _ _ => True) rm1.hand a hvm ⟨by exact om258 hvml hml, ?_, ?_⟩
  · intro C1 env' i v s ps' H' he' hi' hv' hs' a
    obtain ⟨tx, htx⟩ := ivm.get i nums[i] (List.getElem?_eq_getElem (by exact om351 hi' hvml))
    rw [htx] at hv'
    cases hv'
    refine wpAny_tests_nil ⟨rfl, ?_⟩
    rw [if_pos rfl]
    walk_at "go"
    refine op_fdiv a (by decide) (by decide) ?_
    intro tz s a
    exact ⟨_, _, _, rfl, trivial, a⟩
  intro z4 s v4 zs4 m4 hz4 iv4 hp4 a
  have hzs4 := paired_len hp4
  have iz4 : IlAt (upd (upd H5 z3 o3) z4 (lsO v4 m4)) z4 zs4 := ⟨v4, LsAt.self, iv4⟩
  generalize lsO v4 m4 = o4 at *
  walk_at "go"
  refine ⟨a.kept, ?_⟩
  obtain ⟨pp, hpp, back⟩ := a.call
  refine dealt_spec C hpp (rm1.mono (by decide)) (iz3.fresh hz4) iz4 (by simp) (by exact om353 hzs4 hvml hml) ?_
  intro H6 yg zg s6 sub6 nyg iyg hzgl hp6
  have a := back _ _ hp6
  obtain ⟨vg, hvg, ivg⟩ := iyg
  have hvgl := ivg.length
  have hzg3 : zg.length = 3 := hzgl
  refine ints_list (p := fun _ => true) (G := fun _ z => 0 ≤ z ∧ z < 1009) rm1.hand a hvg ⟨by exact om260 hvgl hzg3, ?_, ?_⟩
  · intro C1 env' i v s ps' H' he' hi' hv' hs' a
    obtain ⟨tx, htx⟩ := ivg.get i zg[i] (List.getElem?_eq_getElem (by exact om351 hi' hvgl))
    rw [htx] at hv'
    cases hv'
    refine wpAny_tests_nil ⟨rfl, ?_⟩
    rw [if_pos rfl]
    walk_at "go"
    exact ⟨_, _, _, rfl, by exact om516, a⟩
  intro xp s vp gv mp hxp ivp hpp5 a
  have hgl : gv.length = 3 := by rw [paired_len hpp5, hvgl, hzg3]
  have hgr : Rng gv := paired_rng hpp5
  have ipp : IlAt (upd H6 xp (lsO vp mp)) xp gv := ⟨vp, LsAt.self, ivp⟩
  generalize lsO vp mp = op at *
  have k57 : ∀ c o, H5 c = some o → upd H6 xp op c = some o := fun c o e => upd_of (sub6 _ _ (upd_of (upd_of e hz3) hz4)) hxp
  have nxp5 : H5 xp = none := none_of (fun c o e => sub6 _ _ (upd_of (upd_of e hz3) hz4)) hxp
  have pxr : xp ≠ xr := by rintro rfl; obtain ⟨m, e⟩ := rl5.1; rw [nxp5] at e; cases e
  have pxn : xp ≠ xn := (inm.ne_none nxp5).symm
  have ceR := ceR.mono k57
  have ceN := ceN.mono k57
  have rl6 := rl5.mono k57
  have inm := inm.mono (H' := upd H6 xp op) fun o e => k57 _ o e
  have c3 := c3.mono k57
  have c4 := c4.mono k57
  have c5 := c5.mono k57
  generalize upd H6 xp op = H7 at *
  refine st_cell a he (by kernel_rfl!) c3 ?_
  intro s oP hoP a
  have ceP : CeAt (upd H7 cP oP) cP (some (.ref xp)) := ⟨oP, upd_self, hoP⟩
  have ceR := ceR.upd (o := oP) d13
  have ceN := ceN.upd (o := oP) d23
  have rl7 := rl6.updC (o := oP) c3
  have inm := inm.upd (o := oP) (inm.ne_ce c3)
  have ipp := ipp.upd (o := oP) (ipp.ne_ce c3)
  have c4 := c4.upd (o := oP) d34.symm
  have c5 := c5.upd (o := oP) d35.symm
  generalize upd H7 cP oP = H8 at *
  clear rl6 rl5 c3
  -- ranks = [0, 0, 0]
  walk_at "st"
  refine new_il a (.cons _ _ (.cons _ _ (.cons _ _ .nil))) (by decide) ?_
  intro s xk ok hxk ikk a
  have kxr : xk ≠ xr := by rintro rfl; obtain ⟨m, e⟩ := rl7.1; rw [hxk] at e; cases e
  have kxn : xk ≠ xn := (inm.ne_none hxk).symm
  have kxp : xp ≠ xk := ipp.ne_none hxk
  have WD : Wd xr xn xp xk := ⟨kxp, pxr, pxn, kxr, kxn⟩
  have ceR := ceR.fresh (o := ok) hxk
  have ceN := ceN.fresh (o := ok) hxk
  have ceP := ceP.fresh (o := ok) hxk
  have rl8 := rl7.fresh (o := ok) hxk
  have inm := inm.fresh (o := ok) hxk
  have ipp := ipp.fresh (o := ok) hxk
  have c4 := c4.fresh (o := ok) hxk
  have c5 := c5.fresh (o := ok) hxk
  generalize upd H8 xk ok = H9 at *
  walk_at "go"
  refine st_cell a he (by kernel_rfl!) c4 ?_
  intro s oK hoK a
  have W0 : Ws (upd H9 cK oK) cR cN cP cK xr xn xp xk rt n gv [0, 0, 0] := ⟨ceR.upd d14, ceN.upd d24, ceP.upd d34, ⟨oK, upd_self, hoK⟩, rl8.updC c4, inm.upd (inm.ne_ce c4), ipp.upd (ipp.ne_ce c4), ikk.upd (ikk.ne_ce c4)⟩
  have c5 := c5.upd (o := oK) d45.symm
  clear ceR ceN ceP rl8 rl7 inm ipp ikk c4
  generalize upd H9 cK oK = H10 at *
  obtain ⟨rs, hrs⟩ : ∃ rs, rs = rt.map (·.2) := ⟨_, rfl⟩
  rw [← hrs] at hwf
  have hrsn : rs.length = n := by rw [hrs, List.length_map]; exact hn
  -- for kind, a, b in rules[3:]
  walk_at "cons"
  refine wpAny_For ?_ (fun _ => rfl)
  refine Subscript_ ?_
  refine ev_cell a he (by kernel_rfl!) W0.ceR ?_
  refine wpAny_Slice ?_
  rw [evalPart_some]
  walk_at "go"
  rw [evalPart_none]
  refine wpAny_pure ?_
  refine wpAny_pure ?_
  refine sl_tail a W0.rl.1 (.int _ _) .none (by rw [List.length_map]; exact om299 hrt hzl' hcnt) ?_
  rw [show (slicePick (rt.map fun p => Value.ref p.1).toArray (some 3) none none).toList = (rt.map fun p => Value.ref p.1).drop 3 from pick_from' _ 3]
  intro s y3 hy3 a
  have yxp : y3 ≠ xp := (W0.pp.ne_none hy3).symm
  have yxk : y3 ≠ xk := (W0.kk.ne_none hy3).symm
  have hdl : ((rt.map fun p => Value.ref p.1).drop 3).length = n - 3 := by simp; exact om251 hn
  refine for_list (fun i H' l => Ws H' cR cN cP cK xr xn xp xk rt n (foldA stepP gv ((rs.drop 3).take i)) (foldA stepR [0, 0, 0] ((rs.drop 3).take i)) ∧ CeAt H' cL none ∧ H' y3 = some (lsO ((rt.map fun p => Value.ref p.1).drop 3) 0)) rm1.hand a ?_ upd_self ⟨0, rfl⟩ (fun i H' l h => h.2.2) ?_ ?_ ?_
  · exact ⟨W0.fresh hy3, c5.fresh hy3, upd_self⟩
  · intro i v s ps' H' l hv hI9 a up
    walk_at "gp"
    obtain ⟨W1, c5', ey⟩ := hI9
    have hil : i < n - 3 := by rw [← hdl]; exact (List.getElem?_eq_some_iff.mp hv).1
    have hk : 3 + i < rt.length := by exact om344 hil hn
    have hvi : v = .ref rt[3 + i].1 := by
      rw [List.getElem?_drop, List.getElem?_map, List.getElem?_eq_getElem hk] at hv
      exact (Option.some.inj hv).symm
    subst hvi
    have hri : (rs.drop 3)[i]? = some rt[3 + i].2 := by rw [List.getElem?_drop, hrs, List.getElem?_map, List.getElem?_eq_getElem hk]; rfl
    have hrl : i < (rs.drop 3).length := (List.getElem?_eq_some_iff.mp hri).1
    have hw := hwf (3 + i) rt[3 + i].2 (by rw [hrs]; simp [hk])
    obtain ⟨hw1, hw2, hw3, -⟩ := hw
    obtain ⟨ha0, ha1, hb0, hb1⟩ := hw3 (by exact om78)
    have hnext : ∀ f acc, foldA f acc ((rs.drop 3).take (i + 1)) = foldA f acc ((rs.drop 3).take i) ++ [f (foldA f acc ((rs.drop 3).take i)) rt[3 + i].2] := by
      intro f acc
      rw [List.take_add_one, hri, Option.toList_some, foldA_snoc]
    rw [hnext, hnext] at hKP
    have hl1 : (foldA stepP gv ((rs.drop 3).take i)).length = 3 + i := by rw [foldA_len, List.length_take, hgl]; exact om229 hrl
    have hl2 : (foldA stepR [0, 0, 0] ((rs.drop 3).take i)).length = 3 + i := by rw [foldA_len, List.length_take]; simp; exact om397 hk hrsn hn
    have hR1 : Rng (foldA stepP gv ((rs.drop 3).take i)) := foldP_rng hgr _
    have ht3 := W1.rl.2 rt[3 + i] (List.getElem_mem hk)
    generalize rt[3 + i] = R at *
    generalize hF1 : foldA stepP gv ((rs.drop 3).take i) = F1 at *
    generalize hF2 : foldA stepR [0, 0, 0] ((rs.drop 3).take i) = F2 at *
    refine as_t3 rm1.hand a he ht3 ?_
    intro q1 q2 q3 s a
    refine Pq.go hKP ?_
    -- plain.append(_law_made(kind, plain[a], plain[b]))
    walk_at "st"
    refine ev_append ?_ (by with_unfolding_all rfl) (by with_unfolding_all rfl) (by with_unfolding_all rfl)
    refine ev_cell a he (by kernel_rfl!) W1.ceP ?_
    obtain ⟨vp', hvp'⟩ := W1.pp.ls
    refine ⟨_, _, _, _, _, _, _, rfl, a, hvp', ?_⟩
    refine ev_call_fn C a he (g_made w) (by with_unfolding_all rfl) rfl ?_
    walk_at "go"
    refine ev_cell a he (by kernel_rfl!) W1.ceP ?_
    walk_at "go"
    refine il_sub a W1.pp (by exact om473 ha0) (by exact om489 hl1 ha1) (by exact om433 hk hl1 hrt hzl' hcnt) ?_
    intro z1
    walk_at "go"
    refine ev_cell a he (by kernel_rfl!) W1.ceP ?_
    walk_at "go"
    refine il_sub a W1.pp (by exact om521 hb0) (by exact om489 hl1 hb1) (by exact om433 hk hl1 hrt hzl' hcnt) ?_
    intro z2
    walk_at "go"
    refine ⟨a.kept, ?_⟩
    obtain ⟨pp, hpp, back⟩ := a.call
    refine made_spec C hpp rm1.room (IntMulOk.of_left (bits_small (hR1.gat _).1 (hR1.gat _).2)) ?_
    intro z3 s hpp
    have a := back _ _ hpp
    refine app_il a W1.pp (by exact om433 hk hl1 hrt hzl' hcnt) ?_
    intro s vp2 mp2 ivp2 a
    have W2 := W1.setP WD (m := mp2) ivp2
    have c5' := c5'.upd (o := lsO vp2 mp2) (c5'.ne_ls hvp')
    have ey := (upd_ne (H := H') (o := lsO vp2 mp2) yxp).trans ey
    generalize upd H' xp (lsO vp2 mp2) = H2' at *
    walk_at "go"
    -- ranks.append(1 + max(ranks[a], ranks[b]))
    walk_at "st"
    refine ev_append ?_ (by with_unfolding_all rfl) (by with_unfolding_all rfl) (by with_unfolding_all rfl)
    refine ev_cell a he (by kernel_rfl!) W2.ceK ?_
    obtain ⟨vk', hvk'⟩ := W2.kk.ls
    refine ⟨_, _, _, _, _, _, _, rfl, a, hvk', ?_⟩
    walk_at "go"
    refine ev_call_b C a he (g_max w) boot_max ?_
    walk_at "go"
    refine ev_cell a he (by kernel_rfl!) W2.ceK ?_
    walk_at "go"
    refine il_sub a W2.kk (by exact om473 ha0) (by exact om489 hl2 ha1) (by exact om433 hk hl2 hrt hzl' hcnt) ?_
    intro z4
    walk_at "go"
    refine ev_cell a he (by kernel_rfl!) W2.ceK ?_
    walk_at "go"
    refine il_sub a W2.kk (by exact om521 hb0) (by exact om489 hl2 hb1) (by exact om433 hk hl2 hrt hzl' hcnt) ?_
    intro z5
    walk_at "go"
    refine do_max rm1.hand a ?_
    intro z6 s a
    walk_at "go"
    refine app_il a W2.kk (by exact om433 hk hl2 hrt hzl' hcnt) ?_
    intro s vk2 mk2 ivk2 a
    walk_at "all"
    exact ⟨_, _, a, W2.setK WD ivk2, c5'.upd (c5'.ne_ls hvk'), (upd_ne yxk).trans ey⟩
  · rintro s H' l ⟨W1, c5', -⟩ a
    rw [hdl, List.take_of_length_le (by simp; exact om253 hrsn)] at W1
    have W1 : Ws H' cR cN cP cK xr xn xp xk rt n (plainL gv rs) (ranksL rs) := W1
    have a := a.to (l' := []) trivial
    walk_at "go"
    subst hrs
    have hpll : (plainL gv (rt.map (·.2))).length = n := by unfold plainL; rw [foldA_len, List.length_drop, hrsn, hgl]; exact om377 hrt hn
    have hrkl : (ranksL (rt.map (·.2))).length = n := by unfold ranksL; rw [foldA_len, List.length_drop, hrsn]; simp; exact om377 hrt hn
    have hplr : Rng (plainL gv (rt.map (·.2))) := foldP_rng hgr _
    have hD := rankD hwf hrsn (show 4 ≤ n ∧ n ≤ 11 by exact om389 hrt hn hzl' hcnt)
    have hS := sheet hwf hrsn (show 4 ≤ n ∧ n ≤ 11 by exact om389 hrt hn hzl' hcnt) hplr
    have hrkq := fun (k : Nat) (hk : k < n) => rankN_eq hwf hrsn hk
    have hplq := fun (k : Nat) (h3 : 3 ≤ k) (hk : k < n) => plain_at hwf hrsn hgl hk h3
    generalize hPL : plainL gv (rt.map (·.2)) = PL at *
    generalize hRL : ranksL (rt.map (·.2)) = RL at *
    -- values, rounds, active = _law_forward(rules, plain[:3], names)
    walk_at "cons"
    refine Assign_Tuple ?_ (by with_unfolding_all rfl)
    refine ev_call_fn C a he (g_forward w) (by with_unfolding_all rfl) rfl ?_
    walk_at "go"
    refine ev_cell a he (by kernel_rfl!) W1.ceR ?_
    walk_at "go"
    refine ev_cell a he (by kernel_rfl!) W1.ceP ?_
    refine wpAny_Slice ?_
    rw [evalPart_none]
    refine wpAny_pure ?_
    rw [evalPart_some]
    walk_at "go"
    refine wpAny_pure ?_
    obtain ⟨vpp, hvpp, ivpp⟩ := id W1.pp
    refine sl_tail a hvpp .none (.int _ _) (by rw [ivpp.length]; exact om435 hpll hrt hn hzl' hcnt) ?_
    intro s xg hxg a
    have ixg : IlAt (upd H' xg (lsO (slicePick vpp.toArray none (some 3) none).toList 0)) xg (PL.take 3) := ⟨_, LsAt.self, kmk_upto (y := 3) ivpp (by decide)⟩
    generalize lsO (slicePick vpp.toArray none (some 3) none).toList 0 = og at *
    walk_at "go"
    refine ev_cell a he (by kernel_rfl!) (W1.ceN.fresh hxg) ?_
    walk_at "go"
    refine ⟨a.kept, ?_⟩
    have W2 := W1.fresh (o := og) hxg
    have c6 := c5'.fresh (o := og) hxg
    generalize upd H' xg og = H11 at *
    obtain ⟨m0, hpc, back⟩ := a.callF
    refine forward_spec (rank := rankN (rt.map (·.2))) (pl := fun k => gat PL k) C hpc (rm1.mono (by decide)) hfr1 (fo.fr (by rw [he.kind]; simp) (he.frame (by kernel_rfl!)) a.ne_ps) W2.rl hwf hn ixg (by simp; exact om416 hpll hrt hn) (fun k hk => ?_) W2.nm hD (fun k => hplr.gat _) (fun k h3 hk => hplq k h3 hk) ?_
    · unfold gat
      simp only [List.getD_eq_getElem?_getD, Int.toNat_natCast]
      rw [List.getElem?_take_of_lt hk]
    intro H12 T va ro vv vr s12 sub12 hT iva iro hvl2 hrl2 hvf hrf hp12
    have a := back _ _ hp12
    have hvv : vv = PL := list_ext_gat hvl2 hpll hvf
    have hvr : vr = RL := list_ext_gat hrl2 hrkl fun k hk => by rw [hrf k hk, hrkq k hk]
    rw [hvv] at iva
    rw [hvr] at iro
    have W3 := W2.mono sub12
    have c7 := c6.mono sub12
    refine as_v3 rm1.hand a he hT ?_
    intro s a
    -- if values != plain or rounds != ranks or active is not False
    walk_at "st"
    refine wpAny_allTrue_Or_cons ?_
    walk_at "go"
    refine ev_cell a he (by kernel_rfl!) W3.ceP ?_
    refine cmp_neI a (rm1.u64 (by decide)) iva W3.pp ?_
    walk_at "go"
    rw [decide_eq_true rfl]
    refine ite_false' ?_
    refine wpAny_allTrue_Or_cons ?_
    walk_at "go"
    refine ev_cell a he (by kernel_rfl!) W3.ceK ?_
    refine cmp_neI a (rm1.u64 (by decide)) iro W3.kk ?_
    walk_at "go"
    rw [decide_eq_true rfl]
    refine ite_false' ?_
    refine wpAny_allTrue_Or_cons ?_
    walk_at "go"
    refine wpAny_Constant_bool ?_
    refine wpAny_isNot_self rfl ?_
    walk_at "go"
    refine ite_false' ?_
    refine wpAny_allTrue_Or_nil ?_
    refine ite_false' ?_
    walk_at "go"
    -- shares, gone = _law_backward(rules, values, rounds, names)
    walk_at "cons"
    refine Assign_Tuple ?_ (by with_unfolding_all rfl)
    refine ev_call_fn C a he (g_backward w) (by with_unfolding_all rfl) rfl ?_
    walk_at "go"
    refine ev_cell a he (by kernel_rfl!) W3.ceR ?_
    walk_at "go"
    refine ev_cell a he (by kernel_rfl!) W3.ceN ?_
    walk_at "go"
    refine ⟨a.kept, ?_⟩
    obtain ⟨pp, hpp, back⟩ := a.call
    refine backward_spec C hpp (rm1.mono (by decide)) W3.rl hwf hn iva hpll hplr iro hrkl hrkq W3.nm hS ?_
    intro H13 T2 sh go gts shs S D s13 sub13 hT2 ish pgo hshl hshf hBI hgk hp13
    have a := back _ _ hp13
    have W4 := W3.mono sub13
    have c8 := c7.mono sub13
    refine as_t2 rm1.hand a he hT2 ?_
    intro s a
    have a := a.to (l' := [("gone", .ref go), ("shares", .ref sh)]) (by walk_at "names")
    obtain ⟨hfin, hDr⟩ := hBI.fin hS
    -- leaned = [len(rules) - 1]
    walk_at "st"
    refine ev_call_b C a he (g_len w) boot_len ?_
    walk_at "go"
    refine ev_cell a he (by kernel_rfl!) W4.ceR ?_
    walk_at "go"
    refine do_lenN a W4.rl.1 (n := n) (by rw [List.length_map]; exact hn) (by exact om395 hrt hn hzl' hcnt) ?_
    intro t3 s a
    walk_at "go"
    rw [show (n : Int) - 1 = ((n - 1 : Nat) : Int) from by exact om378 hrt hn]
    refine new_il a (.cons _ _ .nil) (by simp) ?_
    intro s xl ol hxl ixl a
    walk_at "go"
    have c9 := c8.fresh (o := ol) hxl
    refine st_cell a he (by kernel_rfl!) c9 ?_
    intro s oL hoL a
    have W5 := (W4.fresh (o := ol) hxl).setC (o := oL) c9 d15 d25 d35 d45
    have ceL : CeAt (upd (upd H13 xl ol) cL oL) cL (some (.ref xl)) := ⟨oL, upd_self, hoL⟩
    have ixl2 := ixl.upd (o := oL) (ixl.ne_ce c9)
    have ish2 := (ish.fresh (o := ol) hxl).upd (o := oL) ((ish.fresh (o := ol) hxl).ne_ce c9)
    have pgo2 := (pgo.fresh (o := ol) hxl).updC (o := oL) c9
    have lsh : xl ≠ sh := (ish.ne_none hxl).symm
    have lgo : xl ≠ go := (pgo.ne_none hxl).symm
    have lxr : xl ≠ xr := by rintro rfl; obtain ⟨m, e⟩ := W4.rl.1; rw [hxl] at e; cases e
    have lxn : xl ≠ xn := (W4.nm.ne_none hxl).symm
    have lxp : xl ≠ xp := (W4.pp.ne_none hxl).symm
    have lxk : xl ≠ xk := (W4.kk.ne_none hxl).symm
    generalize upd (upd H13 xl ol) cL oL = H14 at *
    -- for k in range(len(rules) - 1, 2, -1)
    walk_at "cons"
    refine wpAny_For ?_ (fun _ => rfl)
    refine ev_call_t C (by assumption) he (g_range w) boot_range ?_
    walk_at "go"
    refine ev_call_b C (by assumption) he (g_len w) boot_len ?_
    walk_at "go"
    refine ev_cell a he (by kernel_rfl!) W5.ceR ?_
    walk_at "go"
    refine do_lenN a W5.rl.1 (n := n) (by rw [List.length_map]; exact hn) (by exact om395 hrt hn hzl' hcnt) ?_
    intro t4 s a
    walk_at "go"
    refine do_range3 a (by exact om387 hrt hn hzl' hcnt) (by exact om12) ?_
    intro s rg2 u4 u5 u6 hrg2 a
    have hdr := range_down (i := (n : Int) - 1) (j := 2) (by exact om11) (by exact om376 hrt hn) (by exact om391 hrt hn hzl' hcnt)
    rw [show ((n : Int) - 1 - 2).toNat = n - 3 from by exact om45] at hdr
    refine for_range (fun i H' l => ∃ M : List Nat, Ws H' cR cN cP cK xr xn xp xk rt n PL RL ∧ CeAt H' cL (some (.ref xl)) ∧ IlAt H' xl (M.map fun k : Nat => (k : Int)) ∧ IlAt H' sh shs ∧ PlAt H' go gts ∧ LInv n (rA (rt.map (·.2))) (rB (rt.map (·.2))) (n - i) M ∧ M.length ≤ 1 + 2 * i ∧
      Names l [("gone", .ref go), ("shares", .ref sh)]) rm1.hand a ?_ upd_self hdr ?_ ?_ (fun _ _ _ _ q => wpAny_pure q)
    · exact ⟨[n - 1], W5.fresh hrg2, ceL.fresh hrg2, ixl2.fresh hrg2, ish2.fresh hrg2, pgo2.fresh hrg2, LInv.start, by simp, by walk_at "names"⟩
    · intro i ti s ps' H' l hi' hI9 a up
      walk_at "gp"
      obtain ⟨M, W6, ceL6, ixl6, ish6, pgo6, hLI, hMl, hnm6⟩ := hI9
      have hk : (n : Int) - 1 + (i : Int) * -1 = ((n - 1 - i : Nat) : Int) := by exact om285 hi'
      rw [hk]
      rw [show n - i = (n - 1 - i) + 1 from by exact om197 hk] at hLI
      rw [show n - (i + 1) = n - 1 - i from by exact om220] at hKP
      have hkn : n - 1 - i < n := by exact om196 hk
      have hk3 : 3 ≤ n - 1 - i := by exact om283 hi'
      generalize n - 1 - i = k at *
      have a := a.to hnm6
      walk_at "go"
      walk_at "st"
      refine ev_cell a he (by kernel_rfl!) ceL6 ?_
      refine cmp_in a ixl6 ?_
      walk_at "go"
      have hmem : ((k : Int) ∈ M.map fun k : Nat => (k : Int)) ↔ k ∈ M := by
        rw [List.mem_map]
        constructor
        · rintro ⟨y, hy, e⟩
          have : y = k := by exact om198 e
          subst this; exact hy
        · exact fun h => ⟨k, h, rfl⟩
      refine ite_dec (fun hin => ?_) (fun hin => ?_)
      · have hinM := hmem.mp hin
        have hkr : k < rt.length := by exact om348 hkn hn
        obtain ⟨n3, q1, q2, q3, eT⟩ := W6.rl.2 rt[k] (List.getElem_mem hkr)
        have hw := hwf k rt[k].2 (by simp [hkr])
        obtain ⟨hw1, hw2, hw3, -⟩ := hw
        obtain ⟨ha0, ha1, hb0, hb1⟩ := hw3 hk3
        have hgetD : (rt.map (·.2)).getD k r0 = rt[k].2 := by simp [hkr]
        have hA0 : ((rA (rt.map (·.2)) k : Nat) : Int) = rt[k].2.2.1 := by unfold rA; rw [hgetD]; exact om471 hk3 ha0
        have hB0 : ((rB (rt.map (·.2)) k : Nat) : Int) = rt[k].2.2.2 := by unfold rB; rw [hgetD]; exact om522 hb0
        -- leaned.extend(rules[k][1:])
        walk_at "st"
        refine MethodCall_ ?_ (by with_unfolding_all rfl)
        refine ev_cell a he (by kernel_rfl!) ceL6 ?_
        obtain ⟨vl, hvl6, ivl⟩ := id ixl6
        have hvll := ivl.length
        rw [List.length_map] at hvll
        refine gm_list PySem.F.slot_list_extend PySem.F.type_list_extend a hvl6 ?_
        refine callWith_method1 ?_
        walk_at "go"
        refine ev_cell a he (by kernel_rfl!) W6.ceR ?_
        walk_at "go"
        refine sub_list a W6.rl.1 (v := .ref rt[k].1) (by exact om49) (by exact om386 hkr hrt hzl' hcnt) (by simp [hkr]) ?_
        refine wpAny_Slice ?_
        rw [evalPart_some]
        walk_at "go"
        rw [evalPart_none]
        refine wpAny_pure ?_
        refine wpAny_pure ?_
        refine slice_tuple1 a ⟨n3, eT⟩ (by simp) ?_
        intro s Ds hDs a
        have hTD : TpAt (upd H' Ds (tpO ([Value.int rt[k].2.1 q1, .int rt[k].2.2.1 q2, .int rt[k].2.2.2 q3].drop 1) 0)) Ds [.int rt[k].2.2.1 q2, .int rt[k].2.2.2 q3] := ⟨0, upd_self⟩
        generalize tpO ([Value.int rt[k].2.1 q1, .int rt[k].2.2.1 q2, .int rt[k].2.2.2 q3].drop 1) 0 = oD at *
        have W7 := W6.fresh (o := oD) hDs
        have ceL7 := ceL6.fresh (o := oD) hDs
        have ish7 := ish6.fresh (o := oD) hDs
        have pgo7 := pgo6.fresh (o := oD) hDs
        have hvl7 := hvl6.fresh (o := oD) hDs
        generalize upd H' Ds oD = H7' at *
        walk_at "go"
        refine do_extendT a hvl7 hTD (by simp) (by simp; exact om32 hcnt hzl' hrt hn hMl hk hvll) ?_
        intro s me a
        walk_at "all"
        refine ⟨_, _, a, M ++ [rA (rt.map (·.2)) k, rB (rt.map (·.2)) k], W7.list hvl7 lxr lxn lxp lxk, ceL7.upd (ceL7.ne_ls hvl7), ⟨_, LsAt.self, ?_⟩, ish7.upd lsh.symm, pgo7.upd lgo.symm hvl7, hLI.take hinM hk3 (hS.ab k hk3 hkn), by simp; exact om267 hMl, by walk_at "names"⟩
        rw [List.map_append]
        refine ivl.append ?_
        show IntsAre [.int rt[k].2.2.1 q2, .int rt[k].2.2.2 q3] [((rA (rt.map (·.2)) k : Nat) : Int), ((rB (rt.map (·.2)) k : Nat) : Int)]
        rw [hA0, hB0]
        exact .cons _ _ (.cons _ _ .nil)
      · walk_at "all"
        exact ⟨_, _, a, M, W6, ceL6, ixl6, ish6, pgo6, hLI.skip (fun h => hin (hmem.mpr h)), by exact om268 hMl, by walk_at "names"⟩
    · rintro s H' l ⟨M, W6, ceL6, ixl6, ish6, pgo6, hLI, hMl, hnm6⟩ a
      have a := a.to hnm6
      rw [show n - (n - 3) = 3 from by exact om380 hrt hn] at hLI
      have hMr := hLI.fin
      walk_at "go"
      -- due = sorted([(-ranks[k], names[k]) for k in range(len(rules)) if k in leaned])
      walk_at "st"
      refine ev_call_b C a he (g_sorted w) boot_sorted ?_
      walk_at "go"
      refine ev_comp (ns' := [(".0", .local), ("k", .local), ("leaned", .cell), ("names", .cell), ("ranks", .cell)]) (cl := [(("ranks" : Str), cK), (("names" : Str), cN), (("leaned" : Str), cL)]) he ((clos_of he (by kernel_rfl!)).trans (by rfl)) (by decide) rfl (by decide) (by kernel_rfl!) (by kernel_rfl!) (by kernel_rfl!) ?_ (by intro _; with_unfolding_all rfl)
      refine ev_call_t C (by assumption) he (g_range w) boot_range ?_
      walk_at "go"
      refine ev_call_b C (by assumption) he (g_len w) boot_len ?_
      walk_at "go"
      refine ev_cell a he (by kernel_rfl!) W6.ceR ?_
      walk_at "go"
      refine do_lenN a W6.rl.1 (n := n) (by rw [List.length_map]; exact hn) (by exact om395 hrt hn hzl' hcnt) ?_
      intro t5 s a
      walk_at "go"
      refine do_range1 a ?_
      intro s rg3 u7 u8 u9 hrg3 a
      have hmemM : ∀ k : Nat, ((k : Int) ∈ M.map fun k : Nat => (k : Int)) ↔ k ∈ M := by
        intro k
        rw [List.mem_map]
        constructor
        · rintro ⟨y, hy, e⟩
          have : y = k := by exact om198 e
          subst this; exact hy
        · exact fun h => ⟨k, h, rfl⟩
      refine pairs_range (p := fun k => decide (k ∈ M)) (K := key (rankN (rt.map (·.2)))) rm1.hand a upd_self hdu.1 hdu.2 ⟨by exact om394 hrt hn hzl' hcnt, ?_, ?_⟩
      · rintro C1 env' k v s ps' H8 he' hk' ⟨tv, rfl⟩ hs' a
        have hk0 : (0 : Int) + (k : Int) * 1 = k := by exact om46
        rw [hk0] at a
        have W8 := W6.mono (fun c o e => hs' _ _ (upd_of e hrg3))
        have ceL8 := ceL6.mono (fun c o e => hs' _ _ (upd_of e hrg3))
        have ixl8 := ixl6.mono (H' := H8) (fun o e => hs' _ _ (upd_of e hrg3))
        refine wpAny_tests_one ?_
        walk_at "go"
        refine ev_cell a he' (by kernel_rfl!) ceL8 ?_
        refine cmp_in a ixl8 ?_
        walk_at "go"
        refine ⟨decide_eq_decide.mpr (hmemM k), ite_dec (fun h => ?_) fun h => ⟨_, a⟩⟩
        walk_at "go"
        refine ev_cell a he' (by kernel_rfl!) W8.ceK ?_
        walk_at "go"
        refine il_sub a W8.kk (by exact om49) (by exact om346 hk' hrkl) (by exact om434 hrkl hrt hn hzl' hcnt) ?_
        intro z1
        walk_at "go"
        refine ev_cell a he' (by kernel_rfl!) W8.ceN ?_
        walk_at "go"
        refine il_sub a W8.nm (by exact om49) (by rw [nms_len]; exact om231 hk') (by rw [nms_len]; exact om393 hrt hn hzl' hcnt) ?_
        intro z2
        walk_at "go"
        rw [hrkq k hk', nms_gat hk']
        refine new_pr a ?_
        intro s T o hT pT a
        exact ⟨T, o, _, rfl, hT, pT, a⟩
      intro D1 s H8 cts hsub8 pD1 hck a
      have ks8 : ∀ c o, H' c = some o → H8 c = some o := fun c o e => hsub8 _ _ (upd_of e hrg3)
      have W8 := W6.mono ks8
      have ish8 := ish6.mono (H' := H8) fun o e => ks8 _ o e
      have pgo8 := pgo6.mono ks8
      have hFm : ∀ k, k ∈ (List.range n).filter (fun k => decide (k ∈ M)) ↔ k < n ∧ k ∈ M := by intro k; simp
      have hcl : cts.length = ((List.range n).filter fun k => decide (k ∈ M)).length := by have := congrArg List.length hck; simpa using this
      have hlast := hS.ab (n - 1) (by exact om388 hrt hn hzl' hcnt) (by exact om379 hrt hn)
      have hMA : rA (rt.map (·.2)) (n - 1) ∈ M := (hMr _).mpr (.left .last (by exact om388 hrt hn hzl' hcnt))
      walk_at "go"
      refine do_sortedP a pD1 ?_ ?_ ?_ ?_ ?_
      · rw [hcl]
        exact two_in ((hFm (n - 1)).mpr ⟨by exact om379 hrt hn, hLI.last⟩) ((hFm _).mpr ⟨by exact om338 hlast, hMA⟩) (by exact om366 hlast)
      · rw [hcl]
        have := List.length_filter_le (fun k => decide (k ∈ M)) (List.range n)
        rw [List.length_range] at this
        exact om436 this hrt hn hzl' hcnt
      · intro i hi'
        have : i.2 ∈ cts.map (·.2) := List.mem_map.mpr ⟨i, hi', rfl⟩
        rw [hck] at this
        obtain ⟨k, _, e⟩ := List.mem_map.mp this
        rw [← e]; exact nm_range k
      · rw [hck, List.Nodup, List.pairwise_map]
        refine List.Pairwise.imp_of_mem ?_ (List.nodup_range.filter _)
        intro x y hx' hy' hxy e
        have := (hFm x).mp hx'
        have := (hFm y).mp hy'
        exact hxy (key_inj (by exact om432 hrt hn hzl' (by assumption) hcnt) (by exact om432 hrt hn hzl' this hcnt) e)
      intro s D2 jts oj hD2 hperm hsorted pD2 a
      have heq : gts.map (·.2) = jts.map (·.2) := by
        refine sorted_ext ?_ hsorted fun x => ?_
        · rw [hgk, List.pairwise_map]; exact hBI.sorted
        · rw [hgk, (hperm.map (·.2)).mem_iff, hck, List.mem_map, List.mem_map]
          constructor
          · rintro ⟨k, hk', e⟩
            exact ⟨k, (hFm k).mpr ⟨hBI.lt k (by simpa using hk'), (hMr k).mpr ((hDr k).mp hk')⟩, e⟩
          · rintro ⟨k, hk', e⟩
            exact ⟨k, (hDr k).mpr ((hMr k).mp ((hFm k).mp hk').2), e⟩
      have W9 := W8.fresh (o := oj) hD2
      have ish9 := ish8.fresh (o := oj) hD2
      have pgo9 := pgo8.fresh (o := oj) hD2
      generalize upd H8 D2 oj = H9' at *
      walk_at "go"
      -- return gone == due and shares == [..]
      walk_at "st"
      refine wpAny_And2 ?_
      refine wpAny_Compare1 ?_
      walk_at "go"
      refine cmp_eqP a (rm1.u64 (by decide)) pgo9 pD2 ?_
      rw [decide_eq_true heq]
      refine tr_bool ?_
      refine ite_true' ?_
      refine wpAny_Compare1 ?_
      walk_at "go"
      refine ev_comp (ns' := [(".0", .local), ("k", .local), ("_law_grown", .globalImplicit), ("plain", .cell), ("rules", .cell)]) (cl := [(("rules" : Str), cR), (("plain" : Str), cP)]) he ((clos_of he (by kernel_rfl!)).trans (by rfl)) (by decide) rfl (by decide) (by kernel_rfl!) (by kernel_rfl!) (by kernel_rfl!) ?_ (by intro _; with_unfolding_all rfl)
      refine ev_call_t C (by assumption) he (g_range w) boot_range ?_
      walk_at "go"
      refine ev_call_b C (by assumption) he (g_len w) boot_len ?_
      walk_at "go"
      refine ev_cell a he (by kernel_rfl!) W9.ceR ?_
      walk_at "go"
      refine do_lenN a W9.rl.1 (n := n) (by rw [List.length_map]; exact hn) (by exact om395 hrt hn hzl' hcnt) ?_
      intro t6 s a
      walk_at "go"
      refine do_range1 a ?_
      intro s rg4 v7 v8 v9 hrg4 a
      refine ints_range (p := fun _ => true) (G := fun i z => z = gat (grownL (rt.map (·.2)) PL i) ((n - 1 : Nat) : Int)) rm1.hand a upd_self hdu.1 hdu.2 ⟨by exact om394 hrt hn hzl' hcnt, ?_, ?_⟩
      · rintro C1 env' k v s ps' H10' he' hk' ⟨tv, rfl⟩ hs' a
        have hk0 : (0 : Int) + (k : Int) * 1 = k := by exact om46
        rw [hk0] at a
        have W10 := W9.mono (fun c o e => hs' _ _ (upd_of e hrg4))
        refine wpAny_tests_nil ⟨rfl, ?_⟩
        rw [if_pos rfl]
        refine ev_call_fn C a he' (g_grown w) (by with_unfolding_all rfl) rfl ?_
        walk_at "go"
        refine ev_cell a he' (by kernel_rfl!) W10.ceR ?_
        walk_at "go"
        refine ev_cell a he' (by kernel_rfl!) W10.ceP ?_
        walk_at "go"
        refine ⟨a.kept, ?_⟩
        obtain ⟨pp, hpp, back⟩ := a.call
        refine grown_spec C hpp (rm1.mono (by decide)) W10.rl hwf (by exact om298 hrt hzl' hcnt) W10.pp (by exact om354 hpll hn) hplr ?_
        intro tz s hpp
        have a := back _ _ hpp
        exact ⟨_, _, _, rfl, grown_last hrsn (by exact om375 hrt hn), a⟩
      intro D3 s v3 z3' m3 hD3 iv3 hp3 a
      have hz3 := paired_range (f := fun i => gat (grownL (rt.map (·.2)) PL i) ((n - 1 : Nat) : Int)) hp3
      have hshz : shs = z3' := by
        refine list_ext_gat hshl (by rw [hz3]; simp) fun k hk' => ?_
        rw [hshf k hk', hfin k hk', hz3]
        unfold gat
        simp [hk']
      refine cmp_eqI a (rm1.u64 (by decide)) ((ish9.fresh hrg4).fresh hD3) ⟨v3, LsAt.self, iv3⟩ ?_
      rw [decide_eq_true hshz]
      walk_at "all"
      exact q _ _ a.hp
  · intro I i v s Q' hit q
    cases v <;> first | exact wpAny_letOwnedTupleGo_listiter hit q | exact wpAny_pure q
end
end

end Mine
set_option maxRecDepth 100000 in
set_option maxHeartbeats 8000000 in
theorem PySem.Challenge.cw_mj0239_01_holds : PySem.Challenge.rw_mj0239_01.Holds := by
  refine Mine.hd ?_
  intro w s₀ s₁ mg mb G Y fa o pm cd doc dV kV ho hd hcd hD hmg hg args vals as hpre hlay hrd hwl hlo
  have KX := kIn_of Y
  refine Ground.open G ?_
  intro T B D TE TW
  clear hD hcd hd
  have hfa : fa = 221 := by
    have h1 := mg_of (n := Str.ofString "law") (v := .ref 221) KX T.g (by kernel_rfl!)
    rw [show mg (Str.ofString "law") = some (.ref fa) from hmg] at h1
    cases h1; rfl
  subst hfa
  wrow_args hpre hlay hrd hwl hlo
  rename_i ms _ _ _ _ _ _ _ x vs _ hL _ _ _ hI _ hlen _
  have h3 : ∃ o, s₁.heap.get? 3 = some o := ⟨_, KX 3 _ (by with_unfolding_all rfl)⟩
  have C : Mine.Ctx (Mine.hd.heap_1 w.params) s₁ mg mb := ⟨KX, T.g, T.b, T.builtins, T.nolimit⟩
  have hp : Mine.Hp s₁ [] (fun _ => none) s₁ := ⟨fun _ _ e => e, fun _ _ e => (by cases e), fun p hp => (by cases hp), ⟨hg, h3⟩, rfl⟩
  refine Mine.law_spec (outer := []) C hp ⟨by decide, by decide, rfl⟩ rfl ⟨fun e he => (by cases he), fun _ _ _ e he => (by cases he)⟩ hL hI (by exact Mine.om145 hlen) ?_
  intro H' s' hp'
  refine GoodW.toG ⟨.inl ⟨.bool true, .bool true, [], rfl, ?_, .bool true, ?_, fun _ => ⟨List.nodup_nil, fun _ h => (by cases h)⟩⟩, hp'.keep, hp'.os, hp'.gens.1⟩
  · intro cls; rfl
  · first | rfl | (with_unfolding_all rfl) | simp [OpenLaw.row]

