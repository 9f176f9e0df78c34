import PyProof.Rows.All
import Wide.All
import OpenK.AllK
import Wide.FinOn
import Flt.Lists
import PySem.Challenge.RW_pg0254_01
section PartHd
open PySem PySem.W PyProof.Rows
set_option Elab.async false
set_option maxRecDepth 100000
set_option maxHeartbeats 8000000
namespace Mine
open_top hd for PySem.Challenge.rw_pg0254_01
end Mine
end PartHd
section PartLv
open PySem PySem.W PyProof.Rows
set_option Elab.async false
set_option maxRecDepth 100000
set_option maxHeartbeats 8000000
namespace Mine
/-- what a while's test gives, and that nothing else has turned -/
def TestEnd (g : Heap) (L : Addr) (s : Shared) (m : Str → Option Value) (news : List (Addr × Obj)) (c : Bool) (b : Bool) (s' : Shared) : Prop :=
  b = c ∧ ∃ h' tk', s' = { s with heap := h', toks := tk' } ∧ Fr g L h' m ∧ News g L h' news
def BodyEnd (g : Heap) (L : Addr) (s : Shared) (m : Tok → Str → Option Value) (news : List (Addr × Obj)) (f : Flow) (s' : Shared) : Prop :=
  f = .next ∧ ∃ h' tk' t', s' = { s with heap := h', toks := tk' } ∧ Fr g L h' (m t') ∧ News g L h' news
abbrev put (m : Str → Option Value) (x : Str) (v : Value) : Str → Option Value := fun y => if y = x then some v else m y
theorem put_put (m : Str → Option Value) (x : Str) (v w : Value) : put (put m x v) x w = put m x w := by
  funext y
  by_cases h : y = x <;> simp [put, h]
theorem while_det {prog : Program} {w : World} {A : Around} {E : Value → Shared → Prop} {Q : Flow → Shared → Prop} {s : Shared} {env : Env} {g : Heap} {L : Addr}
    {test : PySem.Expr} {body : List Stmt} {pos : Pos} {m : Str → Option Value} {news : List (Addr × Obj)} (x : Str) (f : Nat → Int) (n : Nat)
    {t₀ : Tok} (F : Fr g L s.heap (put m x (.int (f 0) t₀))) (N : News g L s.heap news)
    (htest : ∀ r t h tk, r ≤ n → Fr g L h (put m x (.int (f r) t)) → News g L h news →
      wpAny (model prog w) A (isTrue test env (eval test env)) (TestEnd g L s (put m x (.int (f r) t)) news (decide (r < n))) E { s with heap := h, toks := tk })
    (hbody : ∀ r t h tk, r < n → Fr g L h (put m x (.int (f r) t)) → News g L h news →
      wpAny (model prog w) A (execs body env) (BodyEnd g L s (fun t' => put m x (.int (f (r + 1)) t')) news) E { s with heap := h, toks := tk })
    (hQ : ∀ t h tk, Fr g L h (put m x (.int (f n) t)) → News g L h news → Q .next { s with heap := h, toks := tk })
    (hE : PassesOwn (model prog w) A env E := by passes_own) :
    wpAny (model prog w) A (exec (.While test body [] pos) env) Q E s := by
  refine While_inv2 (fun k m₁ nx => ∃ r t, k = n - r ∧ r ≤ n ∧ m₁ = put m x (.int (f r) t) ∧ nx = news) F N ⟨0, t₀, rfl, Nat.zero_le _, rfl, rfl⟩ ?_ hE
  rintro k m₁ nx h tk F₁ N₁ ⟨r, t, rfl, hr, rfl, rfl⟩
  refine wpAny_mono (htest r t h tk hr F₁ N₁) (fun b s₂ p => ?_) fun _ _ x => x
  obtain ⟨rfl, h', tk', rfl, F₂, N₂⟩ := p
  by_cases hlt : r < n
  · simp only [hlt, decide_true, if_true]
    refine wpAny_mono (hbody r t h' tk' hlt F₂ N₂) (fun fl s₃ p => ?_) fun _ _ x => x
    obtain ⟨rfl, h₃, tk₃, t₃, rfl, F₃, N₃⟩ := p
    exact ⟨h₃, tk₃, _, _, n - (r + 1), rfl, F₃, N₃, by omega, r + 1, t₃, rfl, hlt, rfl, rfl⟩
  · simp only [hlt, decide_false, Bool.false_eq_true, if_false]
    obtain rfl : r = n := by omega
    exact hQ t h' tk' F₂ N₂

abbrev PP : Program := RowW.prog (OpenRow.toRowW (OpenLaw.row PySem.Challenge.rw_pg0254_01))
/-- the fifteen texts: tabs, blanks, an x -/
def tabs : Nat → Nat := fun k => [0, 0, 1, 0, 1, 2, 0, 1, 2, 3, 0, 1, 2, 3, 4].getD k 0
def signs : Nat → Nat := fun k => [0, 1, 1, 2, 2, 2, 3, 3, 3, 3, 4, 4, 4, 4, 4].getD k 0
def tx (k : Nat) : Str := ⟨(List.replicate (tabs k) 9 ++ List.replicate (signs k - tabs k) 32 ++ [120]).toArray⟩
/-- the length of what two lists begin with alike -/
def alike : List Nat → List Nat → Nat
  | a :: as, b :: bs => if a = b then alike as bs + 1 else 0
  | _, _ => 0
def cp (i j : Nat) : Nat := alike (tx i).cps.toList (tx j).cps.toList
/-- what stands in a statement or an expression -/
def noE : PySem.Expr := .Constant .none 0 ⟨0,0,0,0⟩
def noS : Stmt := .Pass ⟨0, 0, 0, 0⟩
def getV : Stmt → PySem.Expr
  | .Assign _ v _ => v
  | .If t _ _ _ => t
  | .Return (some v) _ => v
  | _ => noE
def getB : Stmt → List Stmt
  | .FunctionDef _ _ b .. => b
  | .For _ _ b _ _ => b
  | .ClassDef _ _ _ b .. => b
  | _ => []
def getFS : Stmt → Scope
  | .FunctionDef _ _ _ _ _ _ s .. => s
  | _ => default
/-- what stands in an expression: the right side of a comparison, the arguments, what is made, the left side -/
def getP : PySem.Expr → List PySem.Expr
  | .Compare _ _ es _ => es
  | .Call _ es _ _ => es
  | .ListComp e _ _ _ => [e]
  | .BinOp e _ _ _ => [e]
  | _ => []
def getL : PySem.Expr → PySem.Expr
  | .Compare e _ _ _ => e
  | e => e
def getCS : PySem.Expr → Scope
  | .ListComp _ _ s _ => s
  | _ => default
def getG : PySem.Expr → List Comprehension
  | .ListComp _ g _ _ => g
  | _ => []
def levB : List Stmt := getB (PySem.Challenge.pw_pg0254_01.main.body.getD 6 noS)
def levS : Scope := getFS (PySem.Challenge.pw_pg0254_01.main.body.getD 6 noS)
def levSt (k : Nat) : Stmt := levB.getD k (.Pass ⟨0, 0, 0, 0⟩)

theorem all1 {n : Nat} {p : Nat → Bool} (h : (List.range n).all p = true) {i : Nat} (hi : i < n) : p i = true := List.all_eq_true.mp h i (List.mem_range.mpr hi)
theorem all2 {n k : Nat} {p : Nat → Nat → Bool} (h : ((List.range n).all fun i => (List.range k).all fun j => p i j) = true) {i j : Nat} (hi : i < n) (hj : j < k) : p i j = true := all1 (all1 h hi) hj
theorem all3 {n k l : Nat} {p : Nat → Nat → Nat → Bool} (h : ((List.range n).all fun i => (List.range k).all fun j => (List.range l).all fun r => p i j r) = true) {i j r : Nat} (hi : i < n) (hj : j < k) (hr : r < l) : p i j r = true := all1 (all2 h hi hj) hr
/-- behind the first loop -/
def a1 (i j : Nat) : Str := Txt.slice (tx i) (some ((cp i j : Nat) : Int)) none
def b1 (i j : Nat) : Str := Txt.slice (tx j) (some ((cp i j : Nat) : Int)) none
/-- what the two end with alike -/
def cs (i j : Nat) : Nat := alike (a1 i j).cps.toList.reverse (b1 i j).cps.toList.reverse
def po (r : Nat) : Option Int := if r = 0 then none else some (-(r : Int))
def a2 (i j : Nat) : Str := Txt.slice (a1 i j) none (some (-((cs i j : Nat) : Int)))
def b2 (i j : Nat) : Str := Txt.slice (b1 i j) none (some (-((cs i j : Nat) : Int)))
def rep (c n : Nat) : Str := ⟨(List.replicate n c).toArray⟩
def dist (i j : Nat) : Int :=
  let p : Int := tabs i
  let q : Int := tabs j
  let a : Int := (signs i - tabs i : Nat)
  let b : Int := (signs j - tabs j : Nat)
  if (p - q) * (a - b) ≥ 0 then 2 * ((p - q).natAbs + (a - b).natAbs : Nat) else 2 * (max (p - q).natAbs (a - b).natAbs : Nat)
theorem f1 : ((List.range 15).all fun i => (List.range 15).all fun j => (List.range 6).all fun r => i == j || !(decide (r ≤ cp i j)) ||
    ((Txt.slice (tx i) (some (r : Int)) none).length != 0 && (Txt.slice (tx j) (some (r : Int)) none).length != 0 && ((Txt.item (tx i) (r : Int) == Txt.item (tx j) (r : Int)) == decide (r < cp i j)))) = true := by decide +kernel
theorem fact1 {i j r : Nat} (hi : i < 15) (hj : j < 15) (hij : i ≠ j) (h6 : r < 6) (hr : r ≤ cp i j) :
    (Txt.slice (tx i) (some (r : Int)) none).length ≠ 0 ∧ (Txt.slice (tx j) (some (r : Int)) none).length ≠ 0 ∧ (Txt.item (tx i) (r : Int) == Txt.item (tx j) (r : Int)) = decide (r < cp i j) := by
  have := all3 f1 hi hj h6
  simpa [hij, hr, and_assoc] using this
theorem f2 : ((List.range 15).all fun i => (List.range 15).all fun j => (List.range 6).all fun r => i == j || !(decide (r ≤ cs i j)) ||
    ((((Txt.slice (a1 i j) none (po r)).length == 0) || ((Txt.slice (b1 i j) none (po r)).length == 0)) && r == cs i j) || ((Txt.slice (a1 i j) none (po r)).length != 0 && (Txt.slice (b1 i j) none (po r)).length != 0 && ((Txt.item (a1 i j) (-(r : Int) - 1) == Txt.item (b1 i j) (-(r : Int) - 1)) == decide (r < cs i j)))) = true := by decide +kernel
theorem fact2 {i j r : Nat} (hi : i < 15) (hj : j < 15) (hij : i ≠ j) (h6 : r < 6) (hr : r ≤ cs i j) :
    ((Txt.slice (a1 i j) none (po r)).length = 0 → r = cs i j) ∧ ((Txt.slice (b1 i j) none (po r)).length = 0 → r = cs i j) ∧
    ((Txt.slice (a1 i j) none (po r)).length ≠ 0 → (Txt.slice (b1 i j) none (po r)).length ≠ 0 → (Txt.item (a1 i j) (-(r : Int) - 1) == Txt.item (b1 i j) (-(r : Int) - 1)) = decide (r < cs i j)) := by
  have := all3 f2 hi hj h6
  simp only [hij, hr, beq_iff_eq, decide_true, Bool.not_true, Bool.or_false, Bool.or_eq_true, Bool.and_eq_true, bne_iff_ne, ne_eq, false_or] at this
  rcases this with ⟨h | h, e⟩ | ⟨⟨h1, h2⟩, h3⟩
  · exact ⟨fun _ => e, fun _ => e, fun h' => absurd h h'⟩
  · exact ⟨fun _ => e, fun _ => e, fun _ h' => absurd h h'⟩
  · exact ⟨fun h' => absurd h' h1, fun h' => absurd h' h2, fun _ _ => h3⟩
theorem f2l : ((List.range 15).all fun i => (List.range 15).all fun j => (List.range 6).all fun r => i == j || !(decide (r ≤ cs i j)) ||
    (((Txt.slice (a1 i j) none (po r)).length + r == (a1 i j).length) && ((Txt.slice (b1 i j) none (po r)).length + r == (b1 i j).length))) = true := by decide +kernel
theorem fact2l {i j r : Nat} (hi : i < 15) (hj : j < 15) (hij : i ≠ j) (h6 : r < 6) (hr : r ≤ cs i j) :
    (Txt.slice (a1 i j) none (po r)).length + r = (a1 i j).length ∧ (Txt.slice (b1 i j) none (po r)).length + r = (b1 i j).length := by
  have := all3 f2l hi hj h6
  simpa only [hij, hr, beq_iff_eq, decide_true, Bool.not_true, Bool.or_false, Bool.or_eq_true, Bool.and_eq_true, ne_eq, false_or] using this
theorem f3 : ((List.range 15).all fun i => (List.range 15).all fun j => i == j || (decide (cp i j ≤ 4) && decide (cs i j ≤ 5) && decide (1 ≤ cs i j) && decide ((a1 i j).length ≤ 5) && decide ((b1 i j).length ≤ 5) && decide ((tx i).length ≤ 5) && decide ((tx j).length ≤ 5))) = true := by decide +kernel
/-- at the end: one of the two is empty, or they are two runs of two signs -/
def ends (i j : Nat) : Bool := ((a2 i j).length == 0 || (b2 i j).length == 0) && (2 * (((a2 i j).length : Int) + ((b2 i j).length : Int)) == dist i j) ||
  ([(9, 32), (32, 9)].any fun c => (List.range 5).any fun u => (List.range 5).any fun v => 1 ≤ u && 1 ≤ v && a2 i j == rep c.1 u && b2 i j == rep c.2 v && dist i j == 2 * ((max u v : Nat) : Int))
theorem f4 : ((List.range 15).all fun i => (List.range 15).all fun j => i == j || ends i j) = true := by decide +kernel
theorem f5 : ((List.range 15).all fun i => (List.range 15).all fun j => (tx i == tx j) == (i == j)) = true := by decide +kernel
theorem f6 : ((List.range 15).all fun i => dist i i == 0) = true := by decide +kernel
end Mine
end PartLv
section PartLw
open PySem PySem.W PyProof.Rows
set_option Elab.async false
set_option maxRecDepth 100000
set_option maxHeartbeats 1000000
namespace Mine
abbrev levE (L : Addr) : Env := envOf "_levenshtein_distance" levS L 35 (.ref 34)
local macro_rules | `(tactic| walk_at "subscriptTail Name Slice str ref") => `(tactic| ((with_reducible show wpAny _ _ (subscriptTail _ (PySem.Expr.Slice none (some _) none _) _ _) _ _ _); (with_reducible rename Fr _ _ _ _ => F'); (with_reducible rename News _ _ _ _ => N'); (refine slice_strN_nn (hsz := ?hsz) (s := ⟨_, _, _, _, _⟩) F' N' ?_); (case hsz => size_fits); intro _ _ _ _ _))
theorem fr_put2 {g h : Heap} {L : Addr} {m : Str → Option Value} {x : Str} {v v' : Value} (F : Fr g L h (fun y => if y = x then some v' else if y = x then some v else m y)) : Fr g L h (put m x v') :=
  put_put m x v v' ▸ F
section
variable {w : World} {A : Around} {E : Value → Shared → Prop} {s : Shared} {g h : Heap} {L : Addr} {news : List (Addr × Obj)}
theorem lev_test1 (i j : Nat) (hi : i < 15) (hj : j < 15) (hij : i ≠ j) {ta tb tc t : Tok} {tk : Nat} {r : Nat} (hr : r ≤ cp i j)
   (F : Fr g L h (put (fun y => List.lookup y [(Str.ofString "max_cost", Value.int 16 tc), (Str.ofString "b", Value.str (tx j) tb), (Str.ofString "a", Value.str (tx i) ta)]) "pre" (.int (r : Int) t))) (N : News g L h news)
   {test : PySem.Expr} {body orelse : List Stmt} {pos : Pos} (hw : levSt 2 = .While test body orelse pos) :
   wpAny (model PP w) A (isTrue test (levE L) (eval test (levE L))) (TestEnd g L s (put (fun y => List.lookup y [(Str.ofString "max_cost", Value.int 16 tc), (Str.ofString "b", Value.str (tx j) tb), (Str.ofString "a", Value.str (tx i) ta)]) "pre" (.int (r : Int) t)) news (decide (r < cp i j))) E { s with heap := h, toks := tk } := by
  have hw' : levSt 2 = .While _ _ _ _ := rfl
  rw [hw'] at hw
  cases hw
  clear hw'
  have f3' := all2 f3 hi hj
  simp only [hij, Bool.or_eq_true, Bool.and_eq_true, decide_eq_true_eq, beq_iff_eq, false_or] at f3'
  obtain ⟨⟨⟨⟨⟨⟨hcp, hcs⟩, hcs1⟩, hla⟩, hlb⟩, hl1⟩, hl2⟩ := f3'
  have hr5 : r ≤ 4 := by omega
  unfold put at F
  k_steps
  all_goals (refine ⟨?_, _, _, rfl, by assumption, by assumption⟩)
  all_goals (have hf := fact1 hi hj hij (by omega) hr; first | (rw [← hf.2.2]; symm; assumption) | (exfalso; exact hf.1 (by omega)) | (exfalso; exact hf.2.1 (by omega)))
theorem lev_body1 {m : Str → Option Value} {r : Nat} (hr5 : r ≤ 5) {t : Tok} {tk : Nat}
   (F : Fr g L h (put m "pre" (.int (r : Int) t))) (N : News g L h news)
   {test : PySem.Expr} {body orelse : List Stmt} {pos : Pos} (hw : levSt 2 = .While test body orelse pos) :
   wpAny (model PP w) A (execs body (levE L)) (BodyEnd g L s (fun t' => put m "pre" (.int ((r + 1 : Nat) : Int) t')) news) E { s with heap := h, toks := tk } := by
  have hw' : levSt 2 = .While _ _ _ _ := rfl
  rw [hw'] at hw
  cases hw
  clear hw'
  unfold put at F
  k_steps
  exact ⟨rfl, _, _, tk + 1, rfl, fr_put2 (v := .int (r : Int) t) (v' := .int ((r + 1 : Nat) : Int) (tk + 1)) (by assumption), by assumption⟩
theorem lev_body2 {m : Str → Option Value} {r : Nat} (hr5 : r ≤ 5) {t : Tok} {tk : Nat}
   (F : Fr g L h (put m "post" (.int (-(r : Int)) t))) (N : News g L h news)
   {test : PySem.Expr} {body orelse : List Stmt} {pos : Pos} (hw : levSt 6 = .While test body orelse pos) :
   wpAny (model PP w) A (execs body (levE L)) (BodyEnd g L s (fun t' => put m "post" (.int (-((r + 1 : Nat) : Int)) t')) news) E { s with heap := h, toks := tk } := by
  have hw' : levSt 6 = .While _ _ _ _ := rfl
  rw [hw'] at hw
  cases hw
  clear hw'
  unfold put at F
  have e : -((r + 1 : Nat) : Int) = -(r : Int) - 1 := by omega
  rw [e]
  k_steps
  exact ⟨rfl, _, _, tk + 1, rfl, fr_put2 (v := .int (-(r : Int)) t) (v' := .int (-(r : Int) - 1) (tk + 1)) (by assumption), by assumption⟩
theorem lev_test2 (i j : Nat) (hi : i < 15) (hj : j < 15) (hij : i ≠ j) {ta tb ua ub tc t u : Tok} {tk : Nat} {r : Nat} (hr : r ≤ cs i j)
   {m : Str → Option Value} (hm : m = put (put (put (put (fun y => List.lookup y [(Str.ofString "max_cost", Value.int 16 tc), (Str.ofString "b", Value.str (tx j) tb), (Str.ofString "a", Value.str (tx i) ta)]) "pre" (.int ((cp i j : Nat) : Int) u)) "a" (.str (a1 i j) ua)) "b" (.str (b1 i j) ub)) "post" (.int (-(r : Int)) t))
   (F : Fr g L h m) (N : News g L h news)
   {test : PySem.Expr} {body orelse : List Stmt} {pos : Pos} (hw : levSt 6 = .While test body orelse pos) :
   wpAny (model PP w) A (isTrue test (levE L) (eval test (levE L))) (TestEnd g L s m news (decide (r < cs i j))) E { s with heap := h, toks := tk } := by
  have hw' : levSt 6 = .While _ _ _ _ := rfl
  rw [hw'] at hw
  cases hw
  clear hw'
  have f3' := all2 f3 hi hj
  simp only [hij, Bool.or_eq_true, Bool.and_eq_true, decide_eq_true_eq, beq_iff_eq, false_or] at f3'
  obtain ⟨⟨⟨⟨⟨⟨hcp, hcs⟩, hcs1⟩, hla⟩, hlb⟩, hl1⟩, hl2⟩ := f3'
  have hr5 : r ≤ 5 := by omega
  have hf := fact2 hi hj hij (by omega) hr
  have hg := fact2l hi hj hij (by omega) hr
  have F₀ := F
  clear F
  cases r with
  | zero =>
    rw [show -((0 : Nat) : Int) = 0 from rfl] at hm
    rw [hm] at F₀
    have F := F₀
    clear F₀
    have e0 : po 0 = none := rfl
    have e1 : -((0 : Nat) : Int) = 0 := rfl
    rw [e0] at hf hg
    rw [e1] at hf
    obtain ⟨hga, hgb⟩ := hg
    have hf1 := fun _ : Unit => hf.1
    have hf2 := fun _ : Unit => hf.2.1
    have hf3 := fun _ : Unit => hf.2.2
    clear hf
    subst hm
    unfold put at F
    k_steps
    all_goals (refine ⟨?_, _, _, rfl, by assumption, by assumption⟩)
    all_goals first | (rw [← hf3 () (by omega) (by omega)]; symm; assumption) | (symm; apply decide_eq_false; have := hf1 () (by omega); omega) | (symm; apply decide_eq_false; have := hf2 () (by omega); omega)
  | succ r =>
    obtain ⟨q, hq⟩ : ∃ q : Int, q = -((r + 1 : Nat) : Int) := ⟨_, rfl⟩
    have hpo : po (r + 1) = some q := by rw [hq]; rfl
    rw [← hq] at hm hf
    rw [hm] at F₀
    have F := F₀
    clear F₀
    rw [hpo] at hf hg
    obtain ⟨hga, hgb⟩ := hg
    have hf1 := fun _ : Unit => hf.1
    have hf2 := fun _ : Unit => hf.2.1
    have hf3 := fun _ : Unit => hf.2.2
    clear hf
    have hq0 : q < 0 := by omega
    have hq5 : -5 ≤ q := by omega
    subst hm
    unfold put at F
    k_steps
    all_goals (refine ⟨?_, _, _, rfl, by assumption, by assumption⟩)
    all_goals first | (rw [← hf3 () (by omega) (by omega)]; symm; assumption) | (symm; apply decide_eq_false; have := hf1 () (by omega); omega) | (symm; apply decide_eq_false; have := hf2 () (by omega); omega)
abbrev levM0 (i j : Nat) (ta tb tc : Tok) : Str → Option Value := fun y => List.lookup y [(Str.ofString "max_cost", Value.int 16 tc), (Str.ofString "b", Value.str (tx j) tb), (Str.ofString "a", Value.str (tx i) ta)]
theorem lev_loop1 {Q : Flow → Shared → Prop} (i j : Nat) (hi : i < 15) (hj : j < 15) (hij : i ≠ j) {ta tb tc t₀ : Tok}
   (F : Fr g L s.heap (put (levM0 i j ta tb tc) "pre" (.int 0 t₀))) (N : News g L s.heap news)
   (hQ : ∀ t h tk, Fr g L h (put (levM0 i j ta tb tc) "pre" (.int ((cp i j : Nat) : Int) t)) → News g L h news → Q .next { s with heap := h, toks := tk })
   (hE : PassesOwn (model PP w) A (levE L) E) : wpAny (model PP w) A (exec (levSt 2) (levE L)) Q E s := by
  have f3' := all2 f3 hi hj
  simp only [hij, Bool.or_eq_true, Bool.and_eq_true, decide_eq_true_eq, beq_iff_eq, false_or] at f3'
  obtain ⟨⟨⟨⟨⟨⟨hcp, hcs⟩, hcs1⟩, hla⟩, hlb⟩, hl1⟩, hl2⟩ := f3'
  have hw' : levSt 2 = .While _ _ _ _ := rfl
  rw [hw']
  exact while_det "pre" (fun r => (r : Int)) (cp i j) F N (fun r t h tk hr F N => lev_test1 i j hi hj hij hr F N hw') (fun r t h tk hr F N => lev_body1 (by omega) F N hw') hQ hE
abbrev levM1 (i j : Nat) (ta tb tc u : Tok) : Str → Option Value := put (put (put (levM0 i j ta tb tc) "pre" (.int ((cp i j : Nat) : Int) u)) "a" (.str (a1 i j) ta)) "b" (.str (b1 i j) tb)
theorem lev_loop2 {Q : Flow → Shared → Prop} (i j : Nat) (hi : i < 15) (hj : j < 15) (hij : i ≠ j) {ta tb ua ub tc u t₀ : Tok}
   (F : Fr g L s.heap (put (put (put (put (levM0 i j ta tb tc) "pre" (.int ((cp i j : Nat) : Int) u)) "a" (.str (a1 i j) ua)) "b" (.str (b1 i j) ub)) "post" (.int 0 t₀))) (N : News g L s.heap news)
   (hQ : ∀ t h tk, Fr g L h (put (put (put (put (levM0 i j ta tb tc) "pre" (.int ((cp i j : Nat) : Int) u)) "a" (.str (a1 i j) ua)) "b" (.str (b1 i j) ub)) "post" (.int (-((cs i j : Nat) : Int)) t)) → News g L h news → Q .next { s with heap := h, toks := tk })
   (hE : PassesOwn (model PP w) A (levE L) E) : wpAny (model PP w) A (exec (levSt 6) (levE L)) Q E s := by
  have f3' := all2 f3 hi hj
  simp only [hij, Bool.or_eq_true, Bool.and_eq_true, decide_eq_true_eq, beq_iff_eq, false_or] at f3'
  obtain ⟨⟨⟨⟨⟨⟨hcp, hcs⟩, hcs1⟩, hla⟩, hlb⟩, hl1⟩, hl2⟩ := f3'
  have hw' : levSt 6 = .While _ _ _ _ := rfl
  rw [hw']
  exact while_det "post" (fun r => -(r : Int)) (cs i j) F N (fun r t h tk hr F N => lev_test2 i j hi hj hij hr rfl F N hw') (fun r t h tk hr F N => lev_body2 (by omega) F N hw') hQ hE
end
end Mine
end PartLw
section PartLs
open PySem PySem.W PyProof.Rows
set_option Elab.async false
set_option maxRecDepth 100000
set_option maxHeartbeats 1000000
namespace Mine
noncomputable abbrev LS : List Str := looseW hd.view_39 [(PySem.Str.ofString "Whitespace")]
abbrev Claim (w : World) (mean : ExcName → Option Value) (mg mb : Str → Option Value) (f : Addr) (news : CbLed) (A : List (Addr × List Value × List Int)) (pre : Prop) (vs : List Value) (R : Tok → Value) : Prop :=
  CbClaim PP w (hd.heap_39 w.params) hd.view_39 LS mean mg mb f news A pre vs R
def subPre (x y : Str) : Prop := (x = rep 9 1 ∧ y = rep 32 1) ∨ (x = rep 32 1 ∧ y = rep 9 1)
def sub (_ _ : Str) : Int := 2
abbrev SubC (w : World) (mean : ExcName → Option Value) (mg mb : Str → Option Value) : Prop :=
  CbC 28 0 (∀ (x : Str) (t : Tok) (y : Str) (t' : Tok) (cbNews : CbLed), CbClaim (RowW.prog (OpenRow.toRowW (OpenLaw.row PySem.Challenge.rw_pg0254_01))) w (hd.heap_39 w.params) hd.view_39 (looseW hd.view_39 [(PySem.Str.ofString "Whitespace")]) mean mg mb 28 cbNews [] (subPre x y) [.str x t, .str y t'] (fun t => .int (sub x y) t))
theorem sub_claim (w : World) (mean : ExcName → Option Value) (mg mb : Str → Option Value) : SubC w mean mg mb := by
  unfold SubC
  k_fill
  unfold CbC CbClaim
  dsimp only [CbLists, CbRet]
  intro x t y t' cbNews
  intros
  rename_i hpre _ _ hret
  have cbI : CbIn 28 := CbIn.mk
  have e1 : rep 9 1 = Str.ofString "\t" := by decide +kernel
  have e2 : rep 32 1 = Str.ofString " " := by decide +kernel
  unfold sub at hret
  rcases hpre with ⟨rfl, rfl⟩ | ⟨rfl, rfl⟩
  all_goals (
    rw [e1, e2]
    refine wpAny_call ?_
    k_dflt cell_enter
    k_steps
    all_goals cb_end hret)
end Mine
end PartLs
section PartLt
open PySem PySem.W PyProof.Rows
set_option Elab.async false
set_option maxRecDepth 100000
set_option maxHeartbeats 1000000
namespace Mine
def innerB : List Stmt := getB ((getB (levSt 15)).getD 3 noS)
abbrev levA (dp un : Nat) (gd : Option (List Code)) (cn : Str) (cs : Scope) (L₀ a : Addr) (ccd : Value) (cl : List (Str × Addr)) (outer : List Env) (L : Addr) : Around :=
  (ktrTop dp un gd cn cs L₀ a ccd cl outer).deeper (levE L)
local macro_rules | `(tactic| k_upd) => `(tactic| exact Upd.head (by assumption))
abbrev Facts (w : World) (mean : ExcName → Option Value) (mg mb : Str → Option Value) (dp un : Nat) (gd : Option (List Code)) (cn : Str) (cs : Scope) (L₀ a : Addr) (ccd : Value) (cl : List (Str × Addr)) (outer : List Env) (base g : Heap) : Prop :=
  un + 40 < cLine ∧ dp + 10 < recursionLimit ∧ Below (ktrTop dp un gd cn cs L₀ a ccd cl outer) base (envX cn cs L₀ a ccd cl :: outer) g ∧ (hd.heap_39 w.params).In g ∧ Top hd.view_39 LS mean mg mb g
abbrev resOf (d r c : Int) : Int := if d + 2 < (if c < r then c else r) + 2 then d + 2 else (if c < r then c else r) + 2
section
variable {w : World} {mean : ExcName → Option Value} {mg mb : Str → Option Value} {dp un : Nat} {gd : Option (List Code)} {cn : Str} {cs : Scope} {L₀ a : Addr} {ccd : Value} {cl : List (Str × Addr)} {outer : List Env} {base : Heap}
   {E : Value → Shared → Prop} {s : Shared} {g h : Heap} {L : Addr} {news : List (Addr × Obj)} {Q : Flow → Shared → Prop}
theorem inner_turn (hC : SubC w mean mg mb) (hX : Facts w mean mg mb dp un gd cn cs L₀ a ccd cl outer base g)
   (m₀ : Str → Option Value) (x y : Str) (tx ty t1 t2 t3 t4 : Tok) (d r mn : Int) (R : Addr) (n : Nat) (i : Nat) (ns : List Int) (vs : List Value) (hI : IntsAre vs ns) (hi : i < ns.length) (hn4 : ns.length ≤ 4) (hxl : x.length = ns.length)
   (hoff : ∀ p ∈ news, p.1 ≠ R) (hpre : subPre y (Txt.item x (i : Int)))
   (hb : 0 ≤ d ∧ d ≤ 100 ∧ 0 ≤ r ∧ r ≤ 100 ∧ 0 ≤ mn ∧ mn ≤ 9223372036854775807)
   (F : Fr g L h (put (put (put (put (put (put (put m₀ "row" (.ref R)) "a" (.str x tx)) "bchar" (.str y ty)) "distance" (.int d t1)) "result" (.int r t2)) "minimum" (.int mn t3)) "index" (.int (i : Int) t4)))
   (N : News g L h ((R, PySem.W.listOf vs.toArray n) :: news)) {tk : Nat}
   (hQ : ∀ h' tk' vs' m' u1 u2 u3, Fr g L h' m' → News g L h' ((R, PySem.W.listOf vs'.toArray n) :: news) → IntsAre vs' (ns.set i (resOf d r (ns.getD i 0))) →
      m' "row" = some (.ref R) → m' "a" = some (.str x tx) → m' "bchar" = some (.str y ty) → m' "distance" = some (.int (ns.getD i 0) u1) → m' "result" = some (.int (resOf d r (ns.getD i 0)) u2) →
      m' "minimum" = some (.int (if resOf d r (ns.getD i 0) < mn then resOf d r (ns.getD i 0) else mn) u3) → m' "b" = m₀ "b" → m' "bindex" = m₀ "bindex" → m' "max_cost" = m₀ "max_cost" → Q .next { s with heap := h', toks := tk' }) :
   wpAny (model PP w) (levA dp un gd cn cs L₀ a ccd cl outer L) (execs innerB (levE L)) Q E { s with heap := h, toks := tk } := by
  obtain ⟨hu, hdp, B, X, T⟩ := hX
  have hw : innerB = [_, _, _, _, _, _] := rfl
  rw [hw]
  clear hw
  unfold put at F
  have hfill : hd.heap_39 w.params = hd.heap_39 w.params ∧ PySem.Challenge.rw_pg0254_01 = PySem.Challenge.rw_pg0254_01 := by (k_fill; exact ⟨rfl, rfl⟩)
  clear hfill
  unfold SubC at hC
  have hQ' : Unit → _ := fun _ : Unit => hQ
  clear hQ
  k_with "call ref" => k_call_by "_substitution_cost" sub subPre
  k_steps
  · rename_i hlt _ _ _
    have hq := hQ' ()
    have e : resOf d r (ns.getD i 0) < mn := by first | exact hlt | assumption
    simp only [e, if_true] at hq
    ((with_reducible rename Fr _ _ _ _ => F9); (with_reducible rename News _ _ _ _ => N9); (with_reducible rename IntsAre _ _ => I9); exact hq _ _ _ _ _ _ _ F9 N9 I9 rfl rfl rfl rfl rfl rfl rfl rfl rfl)
  · have hq := hQ' ()
    have e : ¬ resOf d r (ns.getD i 0) < mn := by assumption
    simp only [e, if_false] at hq
    ((with_reducible rename Fr _ _ _ _ => F9); (with_reducible rename News _ _ _ _ => N9); (with_reducible rename IntsAre _ _ => I9); exact hq _ _ _ _ _ _ _ F9 N9 I9 rfl rfl rfl rfl rfl rfl rfl rfl rfl)
end
end Mine
end PartLt
section PartLu
open PySem PySem.W PyProof.Rows
set_option Elab.async false
set_option maxRecDepth 100000
set_option maxHeartbeats 1000000
namespace Mine
theorem put_self {m : Str → Option Value} {x : Str} {v : Value} (h : m x = some v) : put m x v = m := by
  funext y
  by_cases e : y = x <;> simp [put, e, h]
def rowAt (u b i : Nat) : List Int := (List.range u).map fun k => 2 * ((max (k + 1) (if k < i then b + 1 else b) : Nat) : Int)
def dAt (b i : Nat) : Int := 2 * ((max i b : Nat) : Int)
def rAt (b i : Nat) : Int := if i = 0 then 2 * (b : Int) else 2 * ((max i (b + 1) : Nat) : Int)
def mAt (b i : Nat) : Int := if i = 0 then 9223372036854775807 else 2 * ((b + 1 : Nat) : Int)
theorem st1 : ((List.range 5).all fun u => (List.range 4).all fun b => (List.range 4).all fun i => !(decide (i < u)) ||
   ((rowAt u b i).getD i 0 == dAt b (i + 1) && resOf (dAt b i) (rAt b i) (dAt b (i + 1)) == rAt b (i + 1) && (rowAt u b i).set i (rAt b (i + 1)) == rowAt u b (i + 1) &&
    (if rAt b (i + 1) < mAt b i then rAt b (i + 1) else mAt b i) == mAt b (i + 1) && decide (0 ≤ dAt b i ∧ dAt b i ≤ 100 ∧ 0 ≤ rAt b i ∧ rAt b i ≤ 100 ∧ 0 ≤ mAt b i ∧ mAt b i ≤ 9223372036854775807) && (rowAt u b i).length == u)) = true := by decide +kernel
theorem step1 {u b i : Nat} (hu : u < 5) (hb : b < 4) (hi : i < u) : (rowAt u b i).getD i 0 = dAt b (i + 1) ∧ resOf (dAt b i) (rAt b i) (dAt b (i + 1)) = rAt b (i + 1) ∧ (rowAt u b i).set i (rAt b (i + 1)) = rowAt u b (i + 1) ∧
    (if rAt b (i + 1) < mAt b i then rAt b (i + 1) else mAt b i) = mAt b (i + 1) ∧ (0 ≤ dAt b i ∧ dAt b i ≤ 100 ∧ 0 ≤ rAt b i ∧ rAt b i ≤ 100 ∧ 0 ≤ mAt b i ∧ mAt b i ≤ 9223372036854775807) ∧ (rowAt u b i).length = u := by
  have := all3 st1 hu hb (show i < 4 by omega)
  simpa only [hi, decide_true, Bool.not_true, Bool.false_or, Bool.and_eq_true, beq_iff_eq, decide_eq_true_eq, and_assoc] using this
theorem st2 : ((List.range 5).all fun u => (List.range 4).all fun b => u == 0 || (rowAt u b u == rowAt u (b + 1) 0 && rAt b u == 2 * ((max u (b + 1) : Nat) : Int) && mAt b u == 2 * ((b + 1 : Nat) : Int))) = true := by decide +kernel
theorem rep_item : ∀ c, ∀ n i : Nat, i < n → n < 5 → (c = 9 ∨ c = 32) → Txt.item (rep c n) (i : Int) = rep c 1 := by
  intro c n i hi hn hc
  have h9 : ((List.range 5).all fun n => (List.range 5).all fun i => !(decide (i < n)) || (Txt.item (rep 9 n) (i : Int) == rep 9 1 && Txt.item (rep 32 n) (i : Int) == rep 32 1)) = true := by decide +kernel
  have := all2 h9 hn (show i < 5 by omega)
  simp only [hi, decide_true, Bool.not_true, Bool.false_or, Bool.and_eq_true, beq_iff_eq] at this
  rcases hc with rfl | rfl
  · exact this.1
  · exact this.2
theorem rep_len (c n : Nat) : (rep c n).length = n := by simp [rep, Str.length]
def innerFor : Stmt := (getB (levSt 15)).getD 3 noS
structure InnJ (R : Addr) (n : Nat) (news : List (Addr × Obj)) (x y z : Str) (tx ty tz tb tm : Tok) (u b i : Nat) (m₁ : Str → Option Value) (nx : List (Addr × Obj)) : Prop where
  led : ∃ vs, IntsAre vs (rowAt u b i) ∧ nx = (R, PySem.W.listOf vs.toArray n) :: news
  row : m₁ "row" = some (.ref R)
  a : m₁ "a" = some (.str x tx)
  bchar : m₁ "bchar" = some (.str y ty)
  dist : ∃ t, m₁ "distance" = some (.int (dAt b i) t)
  res : ∃ t, m₁ "result" = some (.int (rAt b i) t)
  mini : ∃ t, m₁ "minimum" = some (.int (mAt b i) t)
  bb : m₁ "b" = some (.str z tz)
  bindex : m₁ "bindex" = some (.int (b : Int) tb)
  most : m₁ "max_cost" = some (.int 16 tm)
section
variable {w : World} {mean : ExcName → Option Value} {mg mb : Str → Option Value} {dp un : Nat} {gd : Option (List Code)} {cn : Str} {cs : Scope} {L₀ a : Addr} {ccd : Value} {cl : List (Str × Addr)} {outer : List Env} {base : Heap}
   {E : Value → Shared → Prop} {s : Shared} {g h : Heap} {L : Addr} {news : List (Addr × Obj)} {Q : Flow → Shared → Prop}
set_option hygiene false in
local macro_rules | `(tactic| walk_at "pyIter ref") => `(tactic| (exact hloop _ _ _ _ _ _ (by assumption) (by assumption) (by assumption)))
theorem inner_loop (hC : SubC w mean mg mb) (hX : Facts w mean mg mb dp un gd cn cs L₀ a ccd cl outer base g)
   {R : Addr} {n : Nat} {x y z : Str} {tx ty tz tb tm : Tok} {u b : Nat} {m : Str → Option Value} {nx : List (Addr × Obj)} (hu4 : u < 5) (hb4 : b < 4) (hxl : x.length = u)
   (hoff : ∀ p ∈ news, p.1 ≠ R) (hpre : ∀ i, i < u → subPre y (Txt.item x (i : Int)))
   (J : InnJ R n news x y z tx ty tz tb tm u b 0 m nx) (F : Fr g L s.heap m) (N : News g L s.heap nx)
   (hQ : ∀ h' tk' m' nx', InnJ R n news x y z tx ty tz tb tm u b u m' nx' → Fr g L h' m' → News g L h' nx' → Q .next { s with heap := h', toks := tk' })
   (hE : PassesOwn (model PP w) (levA dp un gd cn cs L₀ a ccd cl outer L) (levE L) E) :
   wpAny (model PP w) (levA dp un gd cn cs L₀ a ccd cl outer L) (exec innerFor (levE L)) Q E s := by
  have hfill : hd.heap_39 w.params = hd.heap_39 w.params ∧ PySem.Challenge.rw_pg0254_01 = PySem.Challenge.rw_pg0254_01 := by (k_fill; exact ⟨rfl, rfl⟩)
  clear hfill
  have hw : innerFor = .For (.Name "index" _) _ innerB [] _ := rfl
  rw [hw]
  clear hw
  have hsm : ((List.range 5).all fun u => Builtin.Range.small 0 ((u : Nat) : Int) 1 && (Builtin.Range.rangeSize 0 ((u : Nat) : Int) 1 == ((u : Nat) : Int))) = true := by decide +kernel
  have hsm' := all1 hsm hu4
  simp only [Bool.and_eq_true, beq_iff_eq] at hsm'
  have hloop : ∀ r t₀ u₀ v₀ h tk, IsRange h r 0 (x.length : Int) 1 t₀ u₀ v₀ → Fr g L h (fun y => if y = Str.ofString "a" then some (.str x tx) else m y) → News g L h nx →
      wpAny (model PP w) (levA dp un gd cn cs L₀ a ccd cl outer L) (pyIter (.ref r)) (fun it s₂ => LoopAtV PP w (levA dp un gd cn cs L₀ a ccd cl outer L) g (levE L) "index" innerB Q E it s₂) E { s with heap := h, toks := tk } := by
    intro r t₀ u₀ v₀ h tk hr F N
    have F : Fr g L h m := put_self J.a ▸ F
    rw [hxl] at hr
    refine kpr_invN (n := u) (InnJ R n news x y z tx ty tz tb tm u b) rfl hr hsm'.1 hsm'.2 F N J ?_ ?_
    · intro i k t m₁ nx₁ h tk own hk ho J₁ F₁ N₁
      have hiu : i < u := by
        have := (List.getElem?_eq_some_iff.mp hk).1
        rwa [rangeKs_length] at this
      have hki : k = (i : Int) := by
        simp [rangeKs, hiu] at hk
        omega
      subst hki
      obtain ⟨⟨vs, hI, rfl⟩, j1, j2, j3, ⟨t1, j4⟩, ⟨t2, j5⟩, ⟨t3, j6⟩, j7, j8, j9⟩ := J₁
      obtain ⟨e1, e2, e3, e4, e5, e6⟩ := step1 hu4 hb4 hiu
      obtain ⟨⟨vs0, _, hnx⟩, _⟩ := J
      have hoff' : ∀ p ∈ news ++ own, p.1 ≠ R := by
        intro p hp
        rcases List.mem_append.mp hp with hp | hp
        · exact hoff p hp
        · exact ho p hp R (by rw [hnx]; exact List.mem_cons_self)
      refine inner_turn (news := news ++ own) hC hX m₁ x y tx ty t1 t2 t3 t (dAt b i) (rAt b i) (mAt b i) R n i (rowAt u b i) vs hI (by rw [e6]; exact hiu) (by omega) (by omega) hoff' (hpre i hiu) e5 ?_ N₁ ?_
      · rw [put_self j1, put_self j2, put_self j3, put_self j4, put_self j5, put_self j6]
        exact F₁
      · intro h' tk' vs' m' u1 u2 u3 F' N' I' k1 k2 k3 k4 k5 k6 k7 k8 k9
        rw [e1, e2] at k5 k6 I'
        rw [e1] at k4
        rw [e4] at k6
        rw [e3] at I'
        refine ⟨h', tk', m', _, (R, PySem.W.listOf vs'.toArray n) :: news, rfl, F', N', ?_, ?_, ?_, ⟨⟨vs', I', rfl⟩, k1, k2, k3, ⟨_, k4⟩, ⟨_, k5⟩, ⟨_, k6⟩, k7.trans j7, k8.trans j8, k9.trans j9⟩⟩
        · intro p hp
          exact List.mem_append_left own hp
        · intro p hp
          exact List.mem_cons_of_mem _ (List.mem_append_right _ hp)
        · rw [hnx]; rfl
    · intro m₁ nx₁ h tk J₁ F₁ N₁
      rw [rangeKs_length] at J₁
      exact hQ _ _ _ _ J₁ F₁ N₁
  rw [← put_self J.a] at F
  unfold put at F
  obtain ⟨hu, hdp, B, X, T⟩ := hX
  refine For_invVF (h₀ := g) (m := fun y => if y = Str.ofString "a" then some (.str x tx) else m y) F (by rfl) (by rfl) ?_ (by intro _; rfl) hE
  k_steps
end
end Mine
end PartLu
section PartLo
open PySem PySem.W PyProof.Rows
set_option Elab.async false
set_option maxRecDepth 100000
set_option maxHeartbeats 1000000
namespace Mine
theorem step2 {u b : Nat} (hu : u < 5) (hb : b < 4) (h1 : 1 ≤ u) : rowAt u b u = rowAt u (b + 1) 0 ∧ rAt b u = 2 * ((max u (b + 1) : Nat) : Int) ∧ mAt b u = 2 * ((b + 1 : Nat) : Int) := by
  have := all2 st2 hu hb
  have h0 : (u == 0) = false := by simp; omega
  simpa only [h0, Bool.false_or, Bool.and_eq_true, beq_iff_eq, and_assoc] using this
theorem ex_int {m : Str → Option Value} {x : Str} {v v' : Int} {t : Tok} (h : m x = some (.int v t)) (e : v' = v) : ∃ t, m x = some (.int v' t) := ⟨t, e ▸ h⟩
def outerB : List Stmt := getB (levSt 15)
structure OutJ (R : Addr) (n : Nat) (news : List (Addr × Obj)) (x z : Str) (tx tz tm : Tok) (u i : Nat) (m₁ : Str → Option Value) (nx : List (Addr × Obj)) : Prop where
  led : ∃ vs, IntsAre vs (rowAt u i 0) ∧ nx = (R, PySem.W.listOf vs.toArray n) :: news
  row : m₁ "row" = some (.ref R)
  a : m₁ "a" = some (.str x tx)
  res : ∃ t, m₁ "result" = some (.int (if i = 0 then 0 else 2 * ((max u i : Nat) : Int)) t)
  bb : m₁ "b" = some (.str z tz)
  most : m₁ "max_cost" = some (.int 16 tm)
section
variable {w : World} {mean : ExcName → Option Value} {mg mb : Str → Option Value} {dp un : Nat} {gd : Option (List Code)} {cn : Str} {cs : Scope} {L₀ a : Addr} {ccd : Value} {cl : List (Str × Addr)} {outer : List Env} {base : Heap}
   {E : Value → Shared → Prop} {s : Shared} {g h : Heap} {L : Addr} {news : List (Addr × Obj)} {Q : Flow → Shared → Prop}
theorem outer_turn (hC : SubC w mean mg mb) (hX : Facts w mean mg mb dp un gd cn cs L₀ a ccd cl outer base g)
   (m₀ : Str → Option Value) (x z : Str) (tx tz tm t4 : Tok) (R : Addr) (n : Nat) (i u v : Nat) (vs : List Value) (hI : IntsAre vs (rowAt u i 0)) (hi : i < 4) (hiv : i < v) (hu4 : u < 5) (hu1 : 1 ≤ u) (hxl : x.length = u) (hzl : z.length = v) (hv : v ≤ 4)
   (hoff : ∀ p ∈ news, p.1 ≠ R) (hpre : ∀ j, j < v → ∀ i, i < u → subPre (Txt.item z (j : Int)) (Txt.item x (i : Int)))
   (F : Fr g L h (put (put (put (put (put m₀ "row" (.ref R)) "a" (.str x tx)) "b" (.str z tz)) "max_cost" (.int 16 tm)) "bindex" (.int (i : Int) t4)))
   (N : News g L h ((R, PySem.W.listOf vs.toArray n) :: news)) {tk : Nat}
   (hQ : ∀ h' tk' m' nx', OutJ R n news x z tx tz tm u (i + 1) m' nx' → Fr g L h' m' → News g L h' nx' → Q .next { s with heap := h', toks := tk' })
   (hE : PassesOwn (model PP w) (levA dp un gd cn cs L₀ a ccd cl outer L) (levE L) E) :
   wpAny (model PP w) (levA dp un gd cn cs L₀ a ccd cl outer L) (execs outerB (levE L)) Q E { s with heap := h, toks := tk } := by
  obtain ⟨hu, hdp, B, X, T⟩ := id hX
  have hw : outerB = [_, _, _, _, _] := rfl
  rw [hw]
  clear hw
  have hpre2 := hpre i hiv
  unfold put at F
  have hfill : hd.heap_39 w.params = hd.heap_39 w.params ∧ PySem.Challenge.rw_pg0254_01 = PySem.Challenge.rw_pg0254_01 := by (k_fill; exact ⟨rfl, rfl⟩)
  clear hfill
  have e1 : dAt i 0 = (i : Int) * 2 := by simp [dAt]; omega
  have e2 : rAt i 0 = (i : Int) * 2 := by simp [rAt]; omega
  iterate 22 walk1
  (with_reducible rename Fr _ _ _ _ => F9); (with_reducible rename News _ _ _ _ => N9)
  refine inner_loop (b := i) (x := x) (y := Txt.item z (i : Int)) (z := z) (R := R) (n := n) hC hX hu4 hi hxl hoff hpre2 ⟨⟨vs, hI, rfl⟩, rfl, rfl, rfl, ex_int rfl e1, ex_int rfl e2, ⟨_, rfl⟩, rfl, rfl, rfl⟩ F9 N9 ?_ hE
  clear F9 N9
  intro h' tk' m' nx' J' F' N'
  obtain ⟨⟨vs', hI', rfl⟩, j1, j2, j3, j4, ⟨t5, j5⟩, ⟨t6, j6⟩, j7, j8, j9⟩ := J'
  obtain ⟨g1, g2, g3⟩ := step2 hu4 hi hu1
  rw [g1] at hI'
  rw [g2] at j5
  rw [g3] at j6
  rw [← put_self j6, ← put_self j9] at F'
  unfold put at F'
  have hQ' : Unit → _ := fun _ : Unit => hQ
  clear hQ hE
  dsimp only
  k_steps
  refine hQ' () _ _ m' _ ⟨⟨vs', hI', rfl⟩, j1, j2, ⟨t5, by rw [if_neg (Nat.succ_ne_zero i)]; exact j5⟩, j7, j9⟩ ?_ (by assumption)
  (with_reducible rename Fr _ _ _ _ => F9)
  have e9 : put (put m' "max_cost" (.int 16 tm)) "minimum" (.int (2 * ((i + 1 : Nat) : Int)) t6) = m' := by rw [put_self j9, put_self j6]
  exact e9 ▸ F9
set_option hygiene false in
local macro_rules | `(tactic| walk_at "pyIter ref") => `(tactic| (exact hloop _ _ _ _ _ _ (by assumption) (by assumption) (by assumption)))
theorem outer_loop (hC : SubC w mean mg mb) (hX : Facts w mean mg mb dp un gd cn cs L₀ a ccd cl outer base g)
   {R : Addr} {n : Nat} {x z : Str} {tx tz tm : Tok} {u v : Nat} {m : Str → Option Value} {nx : List (Addr × Obj)} (hu4 : u < 5) (hu1 : 1 ≤ u) (hv : v ≤ 4) (hxl : x.length = u) (hzl : z.length = v)
   (hoff : ∀ p ∈ news, p.1 ≠ R) (hpre : ∀ j, j < v → ∀ i, i < u → subPre (Txt.item z (j : Int)) (Txt.item x (i : Int)))
   (J : OutJ R n news x z tx tz tm u 0 m nx) (F : Fr g L s.heap m) (N : News g L s.heap nx)
   (hQ : ∀ h' tk' m' nx', OutJ R n news x z tx tz tm u v m' nx' → Fr g L h' m' → News g L h' nx' → Q .next { s with heap := h', toks := tk' })
   (hE : PassesOwn (model PP w) (levA dp un gd cn cs L₀ a ccd cl outer L) (levE L) E) :
   wpAny (model PP w) (levA dp un gd cn cs L₀ a ccd cl outer L) (exec (levSt 15) (levE L)) Q E s := by
  have hfill : hd.heap_39 w.params = hd.heap_39 w.params ∧ PySem.Challenge.rw_pg0254_01 = PySem.Challenge.rw_pg0254_01 := by (k_fill; exact ⟨rfl, rfl⟩)
  clear hfill
  have hw : levSt 15 = .For (.Name "bindex" _) _ outerB [] _ := rfl
  rw [hw]
  clear hw
  have hsm : ((List.range 5).all fun u => Builtin.Range.small 0 ((u : Nat) : Int) 1 && (Builtin.Range.rangeSize 0 ((u : Nat) : Int) 1 == ((u : Nat) : Int))) = true := by decide +kernel
  have hsm' := all1 hsm (show v < 5 by omega)
  simp only [Bool.and_eq_true, beq_iff_eq] at hsm'
  have hloop : ∀ r t₀ u₀ v₀ h tk, IsRange h r 0 (z.length : Int) 1 t₀ u₀ v₀ → Fr g L h (fun y => if y = Str.ofString "b" then some (.str z tz) else m y) → News g L h nx →
      wpAny (model PP w) (levA dp un gd cn cs L₀ a ccd cl outer L) (pyIter (.ref r)) (fun it s₂ => LoopAtV PP w (levA dp un gd cn cs L₀ a ccd cl outer L) g (levE L) "bindex" outerB Q E it s₂) E { s with heap := h, toks := tk } := by
    intro r t₀ u₀ v₀ h tk hr F N
    have F : Fr g L h m := put_self J.bb ▸ F
    rw [hzl] at hr
    refine kpr_invN (n := v) (OutJ R n news x z tx tz tm u) rfl hr hsm'.1 hsm'.2 F N J ?_ ?_
    · intro i k t m₁ nx₁ h tk own hk ho J₁ F₁ N₁
      have hiv : i < v := by
        have := (List.getElem?_eq_some_iff.mp hk).1
        rwa [rangeKs_length] at this
      have hki : k = (i : Int) := by
        simp [rangeKs, hiv] at hk
        omega
      subst hki
      obtain ⟨⟨vs, hI, rfl⟩, j1, j2, ⟨t3, j3⟩, j4, j5⟩ := J₁
      obtain ⟨⟨vs0, _, hnx⟩, _⟩ := J
      have hoff' : ∀ p ∈ news ++ own, p.1 ≠ R := by
        intro p hp
        rcases List.mem_append.mp hp with hp | hp
        · exact hoff p hp
        · exact ho p hp R (by rw [hnx]; exact List.mem_cons_self)
      refine outer_turn (news := news ++ own) hC hX m₁ x z tx tz tm t R n i u v vs hI (by omega) hiv hu4 hu1 hxl hzl hv hoff' hpre ?_ N₁ ?_ ?_
      · rw [put_self j1, put_self j2, put_self j4, put_self j5]
        exact F₁
      · intro h' tk' m' nx' J' F' N'
        obtain ⟨⟨vs', I', rfl⟩, k1, k2, k3, k4, k5⟩ := J'
        refine ⟨h', tk', m', _, (R, PySem.W.listOf vs'.toArray n) :: news, rfl, F', N', ?_, ?_, ?_, ⟨⟨vs', I', rfl⟩, k1, k2, k3, k4, k5⟩⟩
        · intro p hp
          exact List.mem_append_left own hp
        · intro p hp
          exact List.mem_cons_of_mem _ (List.mem_append_right _ hp)
        · rw [hnx]; rfl
      · exact hE
    · intro m₁ nx₁ h tk J₁ F₁ N₁
      rw [rangeKs_length] at J₁
      exact hQ _ _ _ _ J₁ F₁ N₁
  rw [← put_self J.bb] at F
  unfold put at F
  obtain ⟨hu, hdp, B, X, T⟩ := hX
  refine For_invVF (h₀ := g) (m := fun y => if y = Str.ofString "b" then some (.str z tz) else m y) F (by rfl) (by rfl) ?_ (by intro _; rfl) hE
  k_steps
end
end Mine
end PartLo
section PartLq
open PySem PySem.W PyProof.Rows
set_option Elab.async false
set_option maxRecDepth 100000
set_option maxHeartbeats 1000000
namespace Mine
def levT (k : Nat) : List Stmt := levB.drop k
theorem ints_of : ∀ {vs : List Value} {ns : List Int}, vs.length = ns.length → (∀ (j : Nat) (v : Value), vs[j]? = some v → ∃ n t, ns[j]? = some n ∧ v = Value.int n t) → IntsAre vs ns
  | [], [], _, _ => .nil
  | v :: vs, n :: ns, hl, h => by
    obtain ⟨n', t, e, rfl⟩ := h 0 v rfl
    cases e
    exact .cons _ _ (ints_of (by simpa using hl) fun j v hv => h (j + 1) v (by simpa using hv))
  | [], _ :: _, hl, _ => by simp at hl
  | _ :: _, [], hl, _ => by simp at hl
theorem rg1 : ((List.range 5).all fun u => Builtin.Range.small 2 (2 * (((u : Nat) : Int) + 1)) 2 && Builtin.Range.rangeSize 2 (2 * (((u : Nat) : Int) + 1)) 2 == ((u : Nat) : Int) && (List.range 5).all fun j => !(decide (j < u)) || (rowAt u 0 0)[j]? == some (2 + ((j : Nat) : Int) * 2)) = true := by decide +kernel
theorem row_len (u b i : Nat) : (rowAt u b i).length = u := by simp [rowAt]
section
variable {w : World} {mean : ExcName → Option Value} {mg mb : Str → Option Value} {dp un : Nat} {gd : Option (List Code)} {cn : Str} {cs : Scope} {L₀ a : Addr} {ccd : Value} {cl : List (Str × Addr)} {outer : List Env} {base : Heap}
   {E : Value → Shared → Prop} {s : Shared} {g h : Heap} {L : Addr} {news : List (Addr × Obj)} {Q : Flow → Shared → Prop}
abbrev mT (m₀ : Str → Option Value) (x z : Str) (tx tz tm : Tok) : Str → Option Value := put (put (put m₀ "a" (.str x tx)) "b" (.str z tz)) "max_cost" (.int 16 tm)
theorem dp_if (hX : Facts w mean mg mb dp un gd cn cs L₀ a ccd cl outer base g)
   (m₀ : Str → Option Value) (x z : Str) (tx tz tm : Tok) (u v : Nat) (hu4 : u < 5) (hu1 : 1 ≤ u) (hxl : x.length = u) (hzl : z.length = v) (hv : v < 5)
   (F : Fr g L h (mT m₀ x z tx tz tm)) (N : News g L h news) {tk : Nat}
   (hQ : ∀ h' tk', Fr g L h' (mT m₀ x z tx tz tm) → News g L h' news → Q .next { s with heap := h', toks := tk' }) :
   wpAny (model PP w) (levA dp un gd cn cs L₀ a ccd cl outer L) (exec (levSt 12) (levE L)) Q E { s with heap := h, toks := tk } := by
  obtain ⟨hu, hdp, B, X, T⟩ := id hX
  have hw : levSt 12 = .If _ _ _ _ := rfl
  rw [hw]
  clear hw
  unfold mT put at F
  have hfill : hd.heap_39 w.params = hd.heap_39 w.params ∧ PySem.Challenge.rw_pg0254_01 = PySem.Challenge.rw_pg0254_01 := by (k_fill; exact ⟨rfl, rfl⟩)
  clear hfill
  have hQ' : Unit → _ := fun _ : Unit => hQ
  clear hQ
  k_steps
  all_goals exact hQ' () _ _ (by assumption) (by assumption)
theorem call_row {prog : Program} {A : Around} {m : Str → Option Value} {Q : Value → Shared → Prop} {r : Addr} {u : Nat} {t₁ u₁ v₁ : Tok} {k : Int} (hh : A.handled = none) (hk : k = (u : Int)) (hu4 : u < 5) (F : Fr g L s.heap m) (N : News g L s.heap news) (hr : IsRange s.heap r 2 (2 * (k + 1)) 2 t₁ u₁ v₁)
   (hQ : ∀ h' tk' R n vs, Fr g L h' m → News g L h' ((R, PySem.W.listOf vs.toArray n) :: news) → IntsAre vs (rowAt u 0 0) → (∀ p ∈ news, p.1 ≠ R) → Q (.ref R) { s with heap := h', toks := tk' }) :
   wpAny (model prog w) A (call (.type "list") [.ref r]) Q E s := by
  subst hk
  have hg := all1 rg1 hu4
  simp only [Bool.and_eq_true, beq_iff_eq, and_assoc] at hg
  obtain ⟨hg1, hg2, hg4⟩ := hg
  have hg3 : u ≤ 2 ^ 24 := by omega
  refine call_list_range hh hr hg1 hg2 hg3 ?_
  intro h' tk' acc' c' hk' hS' hacc'
  refine hQ h' tk' _ c' acc'.toList (F.keeps hk') ?_ ?_ ?_
  · intro p hp
    rcases List.mem_cons.mp hp with rfl | hp
    · refine ⟨by simpa using hS', ?_, ?_⟩
      · exact Nat.ne_of_gt F.ns.lt
      · exact next_is_new F
    · exact ⟨hk' _ _ (N p hp).1, (N p hp).2⟩
  · refine ints_of (by rw [row_len, Array.length_toList]; exact hacc'.1) fun j v hv => ?_
    have hv' : acc'[j]? = some v := by simpa using hv
    obtain ⟨t, rfl⟩ := hacc'.2 j v hv'
    have hj : j < u := by
      have := (Array.getElem?_eq_some_iff.mp hv').1
      rw [hacc'.1] at this; exact this
    have := all1 hg4 (show j < 5 by omega)
    simp only [hj, decide_true, Bool.not_true, Bool.false_or, beq_iff_eq] at this
    exact ⟨_, t, this, rfl⟩
  · exact fun p hp => Nat.ne_of_lt (Heap.lt_size (N p hp).1)
set_option hygiene false in
local macro_rules | `(tactic| walk_at "call type:list") => `(tactic| (refine call_row rfl (congrArg Nat.cast hxl) hu4 (by assumption) (by assumption) (by assumption) ?_; intro h' tk' R' n' vs' F' N' I' ap'))
theorem dp_row (hX : Facts w mean mg mb dp un gd cn cs L₀ a ccd cl outer base g)
   (m₀ : Str → Option Value) (x z : Str) (tx tz tm : Tok) (u : Nat) (hu4 : u < 5) (hu1 : 1 ≤ u) (hxl : x.length = u)
   (F : Fr g L h (mT m₀ x z tx tz tm)) (N : News g L h news) {tk : Nat}
   (hQ : ∀ h' tk' R n vs, Fr g L h' (put (mT m₀ x z tx tz tm) "row" (.ref R)) → News g L h' ((R, PySem.W.listOf vs.toArray n) :: news) → IntsAre vs (rowAt u 0 0) → (∀ p ∈ news, p.1 ≠ R) → Q .next { s with heap := h', toks := tk' }) :
   wpAny (model PP w) (levA dp un gd cn cs L₀ a ccd cl outer L) (exec (levSt 13) (levE L)) Q E { s with heap := h, toks := tk } := by
  obtain ⟨hu, hdp, B, X, T⟩ := id hX
  have hw : levSt 13 = .Assign _ _ _ := rfl
  rw [hw]
  clear hw
  unfold mT put at F
  have hfill : hd.heap_39 w.params = hd.heap_39 w.params ∧ PySem.Challenge.rw_pg0254_01 = PySem.Challenge.rw_pg0254_01 := by (k_fill; exact ⟨rfl, rfl⟩)
  clear hfill
  have hQ' : Unit → _ := fun _ : Unit => hQ
  clear hQ
  k_steps
  (with_reducible rename Fr _ _ _ _ => F9); (with_reducible rename News _ _ _ _ => N9)
  exact hQ' () _ _ _ _ _ F9 N9 (by assumption) (by assumption)
theorem dp_res (hX : Facts w mean mg mb dp un gd cn cs L₀ a ccd cl outer base g)
   (m₀ : Str → Option Value)
   (F : Fr g L h m₀) (N : News g L h news) {tk : Nat}
   (hQ : ∀ h' tk' t, Fr g L h' (put m₀ "result" (.int 0 t)) → News g L h' news → Q .next { s with heap := h', toks := tk' }) :
   wpAny (model PP w) (levA dp un gd cn cs L₀ a ccd cl outer L) (exec (levSt 14) (levE L)) Q E { s with heap := h, toks := tk } := by
  obtain ⟨hu, hdp, B, X, T⟩ := id hX
  have hw : levSt 14 = .Assign _ _ _ := rfl
  rw [hw]
  clear hw
  have hQ' : Unit → _ := fun _ : Unit => hQ
  clear hQ
  k_steps
  (with_reducible rename Fr _ _ _ _ => F9); (with_reducible rename News _ _ _ _ => N9)
  exact hQ' () _ _ _ F9 N9
theorem dp_ret (hX : Facts w mean mg mb dp un gd cn cs L₀ a ccd cl outer base g)
   (m₀ : Str → Option Value) {v : Value}
   (F : Fr g L h (put m₀ "result" v)) (N : News g L h news) {tk : Nat}
   (hQ : ∀ tk', Q (.ret v) { s with heap := h, toks := tk' }) :
   wpAny (model PP w) (levA dp un gd cn cs L₀ a ccd cl outer L) (exec (levSt 16) (levE L)) Q E { s with heap := h, toks := tk } := by
  obtain ⟨hu, hdp, B, X, T⟩ := id hX
  have hw : levSt 16 = .Return _ _ := rfl
  rw [hw]
  clear hw
  unfold put at F
  have hQ' : Unit → _ := fun _ : Unit => hQ
  clear hQ
  k_steps
  exact hQ' () _
theorem dp_tail (hC : SubC w mean mg mb) (hX : Facts w mean mg mb dp un gd cn cs L₀ a ccd cl outer base g)
   (m₀ : Str → Option Value) (x z : Str) (tx tz tm : Tok) (u v : Nat) (hu4 : u < 5) (hu1 : 1 ≤ u) (hv1 : 1 ≤ v) (hxl : x.length = u) (hzl : z.length = v) (hv : v ≤ 4)
   (hpre : ∀ j, j < v → ∀ i, i < u → subPre (Txt.item z (j : Int)) (Txt.item x (i : Int)))
   (F : Fr g L h (mT m₀ x z tx tz tm)) (N : News g L h news) {tk : Nat}
   (hQ : ∀ h' tk' m' t, Fr g L h' m' → News g L h' news → Q (.ret (.int (2 * ((max u v : Nat) : Int)) t)) { s with heap := h', toks := tk' })
   (hE : PassesOwn (model PP w) (levA dp un gd cn cs L₀ a ccd cl outer L) (levE L) E) :
   wpAny (model PP w) (levA dp un gd cn cs L₀ a ccd cl outer L) (execs (levT 12) (levE L)) Q E { s with heap := h, toks := tk } := by
  have hw : levT 12 = [levSt 12, levSt 13, levSt 14, levSt 15, levSt 16] := rfl
  rw [hw]
  clear hw
  refine wpAny_execs_cons (dp_if hX m₀ x z tx tz tm u v hu4 hu1 hxl hzl (by omega) F N fun h₁ tk₁ F₁ N₁ => ?_)
  dsimp only
  refine wpAny_execs_cons (dp_row hX m₀ x z tx tz tm u hu4 hu1 hxl F₁ N₁ fun h₂ tk₂ R n vs F₂ N₂ I₂ ap => ?_)
  dsimp only
  refine wpAny_execs_cons (dp_res hX _ F₂ N₂ fun h₃ tk₃ t₃ F₃ N₃ => ?_)
  dsimp only
  refine wpAny_execs_cons (outer_loop (s := { s with heap := h₃, toks := tk₃ }) hC hX hu4 hu1 hv hxl hzl ap hpre ⟨⟨vs, I₂, rfl⟩, rfl, rfl, ⟨t₃, rfl⟩, rfl, rfl⟩ F₃ N₃ (fun h₄ tk₄ m₄ nx J F₄ N₄ => ?_) hE)
  dsimp only
  obtain ⟨⟨vs', _, rfl⟩, _, _, ⟨t, j⟩, _, _⟩ := J
  rw [if_neg (by omega)] at j
  rw [← put_self j] at F₄
  refine wpAny_execs_cons (dp_ret hX m₄ F₄ N₄ fun tk₅ => ?_)
  exact hQ _ _ _ t F₄ fun p hp => N₄ p (List.mem_cons_of_mem _ hp)
end
end Mine
end PartLq
section PartLr
open PySem PySem.W PyProof.Rows
set_option Elab.async false
set_option maxRecDepth 100000
set_option maxHeartbeats 1000000
namespace Mine
section
variable {w : World} {mean : ExcName → Option Value} {mg mb : Str → Option Value} {dp un : Nat} {gd : Option (List Code)} {cn : Str} {cs : Scope} {L₀ a : Addr} {ccd : Value} {cl : List (Str × Addr)} {outer : List Env} {base : Heap}
   {E : Value → Shared → Prop} {s : Shared} {g h : Heap} {L : Addr} {news : List (Addr × Obj)} {Q : Flow → Shared → Prop}
theorem e9a (hX : Facts w mean mg mb dp un gd cn cs L₀ a ccd cl outer base g)
   (m₀ : Str → Option Value) (x z : Str) (tx tz tm : Tok) (hx5 : x.length ≤ 5) (hz5 : z.length ≤ 5) (h0 : x.length = 0 ∨ z.length = 0)
   (F : Fr g L h (mT m₀ x z tx tz tm)) (N : News g L h news) {tk : Nat}
   (hQ : ∀ h' tk' t, Fr g L h' (mT m₀ x z tx tz tm) → News g L h' news → Q (.ret (.int (2 * ((x.length : Int) + (z.length : Int))) t)) { s with heap := h', toks := tk' }) :
   wpAny (model PP w) (levA dp un gd cn cs L₀ a ccd cl outer L) (exec (levSt 9) (levE L)) Q E { s with heap := h, toks := tk } := by
  obtain ⟨hu, hdp, B, X, T⟩ := id hX
  have hw : levSt 9 = .If _ _ _ _ := rfl
  rw [hw]
  clear hw
  unfold mT put at F
  have hfill : hd.heap_39 w.params = hd.heap_39 w.params ∧ PySem.Challenge.rw_pg0254_01 = PySem.Challenge.rw_pg0254_01 := by (k_fill; exact ⟨rfl, rfl⟩)
  clear hfill
  have hQ' : Unit → _ := fun _ : Unit => hQ
  clear hQ
  rcases h0 with h0 | h0
  all_goals (
    k_steps
    all_goals first | exact hQ' () _ _ _ (by assumption) (by assumption) | (exfalso; omega) | (exfalso; simp_all))
theorem e9b (hX : Facts w mean mg mb dp un gd cn cs L₀ a ccd cl outer base g)
   (m₀ : Str → Option Value) (x z : Str) (tx tz tm : Tok) (hx5 : x.length ≤ 5) (hz5 : z.length ≤ 5) (hx1 : 1 ≤ x.length) (hz1 : 1 ≤ z.length)
   (F : Fr g L h (mT m₀ x z tx tz tm)) (N : News g L h news) {tk : Nat}
   (hQ : ∀ h' tk', Fr g L h' (mT m₀ x z tx tz tm) → News g L h' news → Q .next { s with heap := h', toks := tk' }) :
   wpAny (model PP w) (levA dp un gd cn cs L₀ a ccd cl outer L) (exec (levSt 9) (levE L)) Q E { s with heap := h, toks := tk } := by
  obtain ⟨hu, hdp, B, X, T⟩ := id hX
  have hw : levSt 9 = .If _ _ _ _ := rfl
  rw [hw]
  clear hw
  unfold mT put at F
  have hfill : hd.heap_39 w.params = hd.heap_39 w.params ∧ PySem.Challenge.rw_pg0254_01 = PySem.Challenge.rw_pg0254_01 := by (k_fill; exact ⟨rfl, rfl⟩)
  clear hfill
  have hQ' : Unit → _ := fun _ : Unit => hQ
  clear hQ
  k_steps
  all_goals first | exact hQ' () _ _ (by assumption) (by assumption) | (exfalso; omega) | (exfalso; simp_all; done)
theorem e10 (hX : Facts w mean mg mb dp un gd cn cs L₀ a ccd cl outer base g)
   (m₀ : Str → Option Value) (x z : Str) (tx tz tm : Tok) (hx5 : x.length ≤ 5) (hz5 : z.length ≤ 5)
   (F : Fr g L h (mT m₀ x z tx tz tm)) (N : News g L h news) {tk : Nat}
   (hQ : ∀ h' tk', Fr g L h' (mT m₀ x z tx tz tm) → News g L h' news → Q .next { s with heap := h', toks := tk' }) :
   wpAny (model PP w) (levA dp un gd cn cs L₀ a ccd cl outer L) (exec (levSt 10) (levE L)) Q E { s with heap := h, toks := tk } := by
  obtain ⟨hu, hdp, B, X, T⟩ := id hX
  have hw : levSt 10 = .If _ _ _ _ := rfl
  rw [hw]
  clear hw
  unfold mT put at F
  have hfill : hd.heap_39 w.params = hd.heap_39 w.params ∧ PySem.Challenge.rw_pg0254_01 = PySem.Challenge.rw_pg0254_01 := by (k_fill; exact ⟨rfl, rfl⟩)
  clear hfill
  have hQ' : Unit → _ := fun _ : Unit => hQ
  clear hQ
  k_steps
  all_goals first | exact hQ' () _ _ (by assumption) (by assumption) | (exfalso; omega) | (exfalso; simp_all; done)
theorem e11 (hX : Facts w mean mg mb dp un gd cn cs L₀ a ccd cl outer base g)
   (m₀ : Str → Option Value) (x z : Str) (tx tz tm : Tok) (hx5 : x.length ≤ 5) (hz5 : z.length ≤ 5)
   (F : Fr g L h (mT m₀ x z tx tz tm)) (N : News g L h news) {tk : Nat}
   (hQ : ∀ h' tk', Fr g L h' (mT m₀ x z tx tz tm) → News g L h' news → Q .next { s with heap := h', toks := tk' })
   (hQ2 : ∀ h' tk', Fr g L h' (put (put (mT m₀ x z tx tz tm) "b" (.str x tx)) "a" (.str z tz)) → News g L h' news → Q .next { s with heap := h', toks := tk' }) :
   wpAny (model PP w) (levA dp un gd cn cs L₀ a ccd cl outer L) (exec (levSt 11) (levE L)) Q E { s with heap := h, toks := tk } := by
  obtain ⟨hu, hdp, B, X, T⟩ := id hX
  have hw : levSt 11 = .If _ _ _ _ := rfl
  rw [hw]
  clear hw
  unfold mT put at F
  have hfill : hd.heap_39 w.params = hd.heap_39 w.params ∧ PySem.Challenge.rw_pg0254_01 = PySem.Challenge.rw_pg0254_01 := by (k_fill; exact ⟨rfl, rfl⟩)
  clear hfill
  have hQ' : Unit → _ := fun _ : Unit => hQ
  have hQ2' : Unit → _ := fun _ : Unit => hQ2
  clear hQ hQ2
  k_steps
  all_goals (
    (with_reducible rename Fr _ _ _ _ => F9); (with_reducible rename News _ _ _ _ => N9)
    first | exact hQ' () _ _ F9 N9 | exact hQ2' () _ _ F9 N9 | exact hQ2' () _ _ F9 (fun p hp => N9 p (List.mem_cons_of_mem _ hp)))
end
end Mine
end PartLr
section PartLx
open PySem PySem.W PyProof.Rows
set_option Elab.async false
set_option maxRecDepth 100000
set_option maxHeartbeats 1000000
namespace Mine
theorem fr_under {g h : Heap} {L : Addr} {m m' : Str → Option Value} {x : Str} {v : Value} (e : m = m') (F : Fr g L h (put m x v)) : Fr g L h (put m' x v) := e ▸ F
section
variable {w : World} {mean : ExcName → Option Value} {mg mb : Str → Option Value} {dp un : Nat} {gd : Option (List Code)} {cn : Str} {cs : Scope} {L₀ a : Addr} {ccd : Value} {cl : List (Str × Addr)} {outer : List Env} {base : Heap}
   {E : Value → Shared → Prop} {s : Shared} {g h : Heap} {L : Addr} {news : List (Addr × Obj)} {Q : Flow → Shared → Prop}
theorem e0 (hX : Facts w mean mg mb dp un gd cn cs L₀ a ccd cl outer base g)
   (m₀ : Str → Option Value) (x z : Str) (tx tz : Tok)
   (F : Fr g L h (put (put m₀ "b" (.str z tz)) "a" (.str x tx))) (N : News g L h news) {tk : Nat}
   (hQ : ∀ tk' t, x = z → Q (.ret (.int 0 t)) { s with heap := h, toks := tk' }) (hQ2 : ∀ tk', x ≠ z → Q .next { s with heap := h, toks := tk' }) :
   wpAny (model PP w) (levA dp un gd cn cs L₀ a ccd cl outer L) (exec (levSt 0) (levE L)) Q E { s with heap := h, toks := tk } := by
  obtain ⟨hu, hdp, B, X, T⟩ := id hX
  have hw : levSt 0 = .If _ _ _ _ := rfl
  rw [hw]
  clear hw
  unfold put at F
  have hfill : hd.heap_39 w.params = hd.heap_39 w.params ∧ PySem.Challenge.rw_pg0254_01 = PySem.Challenge.rw_pg0254_01 := by (k_fill; exact ⟨rfl, rfl⟩)
  clear hfill
  have hQ' : Unit → _ := fun _ : Unit => hQ
  have hQ2' : Unit → _ := fun _ : Unit => hQ2
  clear hQ hQ2
  k_steps
  · exact hQ' () _ _ (beq_iff_eq.mp (by assumption))
  · refine hQ2' () _ (fun e => ?_)
    have h9 : (x == z) = false := by assumption
    rw [e] at h9
    simp at h9
theorem eC (k : Nat) (x : Str) (hk : (k = 1 ∧ x = "pre") ∨ (k = 5 ∧ x = "post")) (m₀ : Str → Option Value)
   (F : Fr g L h m₀) (N : News g L h news) {tk : Nat}
   (hQ : ∀ h' tk' t, Fr g L h' (put m₀ x (.int 0 t)) → News g L h' news → Q .next { s with heap := h', toks := tk' }) :
   wpAny (model PP w) (levA dp un gd cn cs L₀ a ccd cl outer L) (exec (levSt k) (levE L)) Q E { s with heap := h, toks := tk } := by
  have hQ' : Unit → _ := fun _ : Unit => hQ
  clear hQ
  rcases hk with ⟨rfl, rfl⟩ | ⟨rfl, rfl⟩
  · have hw : levSt 1 = .Assign _ _ _ := rfl
    rw [hw]
    clear hw
    k_steps
    (with_reducible rename Fr _ _ _ _ => F9); (with_reducible rename News _ _ _ _ => N9)
    exact hQ' () _ _ _ F9 N9
  · have hw : levSt 5 = .Assign _ _ _ := rfl
    rw [hw]
    clear hw
    k_steps
    (with_reducible rename Fr _ _ _ _ => F9); (with_reducible rename News _ _ _ _ => N9)
    exact hQ' () _ _ _ F9 N9
theorem eS (k : Nat) (x : Str) (hk : (k = 3 ∧ x = "a") ∨ (k = 4 ∧ x = "b")) (m₀ : Str → Option Value) (y : Str) (ty tp : Tok) (p : Nat) (hy : y.length ≤ 5) (hp : p ≤ 5)
   (hy' : m₀ x = some (.str y ty)) (hp' : m₀ "pre" = some (.int (p : Int) tp)) (F : Fr g L h m₀) (N : News g L h news) {tk : Nat}
   (hQ : ∀ h' tk' t, Fr g L h' (put m₀ x (.str (Txt.slice y (some (p : Int)) none) t)) → News g L h' news → Q .next { s with heap := h', toks := tk' }) :
   wpAny (model PP w) (levA dp un gd cn cs L₀ a ccd cl outer L) (exec (levSt k) (levE L)) Q E { s with heap := h, toks := tk } := by
  have e := put_self hp'
  have hQ' : Unit → _ := fun _ : Unit => hQ
  clear hQ
  rw [← put_self hp'] at hy'
  rw [← put_self hp', ← put_self hy'] at F
  have e2 := put_self hy'
  rw [e] at e2
  rcases hk with ⟨rfl, rfl⟩ | ⟨rfl, rfl⟩
  · have hw : levSt 3 = .Assign _ _ _ := rfl
    rw [hw]
    clear hw
    unfold put at F
    k_steps
    (with_reducible rename Fr _ _ _ _ => F9); (with_reducible rename News _ _ _ _ => N9)
    have F8 := fr_put2 F9
    exact hQ' () _ _ _ (fr_under e F8) N9
  · have hw : levSt 4 = .Assign _ _ _ := rfl
    rw [hw]
    clear hw
    unfold put at F
    k_steps
    (with_reducible rename Fr _ _ _ _ => F9); (with_reducible rename News _ _ _ _ => N9)
    have F8 := fr_put2 F9
    exact hQ' () _ _ _ (fr_under e F8) N9
theorem eT (k : Nat) (x : Str) (hk : (k = 7 ∧ x = "a") ∨ (k = 8 ∧ x = "b")) (m₀ : Str → Option Value) (y : Str) (ty tp : Tok) (p : Int) (hy : y.length ≤ 5) (hp : p < 0) (hp5 : -5 ≤ p)
   (hy' : m₀ x = some (.str y ty)) (hp' : m₀ "post" = some (.int p tp)) (F : Fr g L h m₀) (N : News g L h news) {tk : Nat}
   (hQ : ∀ h' tk' t, Fr g L h' (put m₀ x (.str (Txt.slice y none (some p)) t)) → News g L h' news → Q .next { s with heap := h', toks := tk' }) :
   wpAny (model PP w) (levA dp un gd cn cs L₀ a ccd cl outer L) (exec (levSt k) (levE L)) Q E { s with heap := h, toks := tk } := by
  have e := put_self hp'
  have hQ' : Unit → _ := fun _ : Unit => hQ
  clear hQ
  rw [← put_self hp'] at hy'
  rw [← put_self hp', ← put_self hy'] at F
  have e2 := put_self hy'
  rw [e] at e2
  rcases hk with ⟨rfl, rfl⟩ | ⟨rfl, rfl⟩
  · have hw : levSt 7 = .Assign _ _ _ := rfl
    rw [hw]
    clear hw
    unfold put at F
    k_steps
    · (with_reducible rename Fr _ _ _ _ => F9); (with_reducible rename News _ _ _ _ => N9)
      have F8 := fr_put2 F9
      exact hQ' () _ _ _ (fr_under e F8) N9
    · exfalso; omega
  · have hw : levSt 8 = .Assign _ _ _ := rfl
    rw [hw]
    clear hw
    unfold put at F
    k_steps
    · (with_reducible rename Fr _ _ _ _ => F9); (with_reducible rename News _ _ _ _ => N9)
      have F8 := fr_put2 F9
      exact hQ' () _ _ _ (fr_under e F8) N9
    · exfalso; omega
end
end Mine
end PartLx
section PartLy
open PySem PySem.W PyProof.Rows
set_option Elab.async false
set_option maxRecDepth 100000
set_option maxHeartbeats 1000000
namespace Mine
/-- a call of one of the text's defs, whatever has been made: what comes back, and what stands on the ledger behind it -/
def MClaim (w : World) (mean : ExcName → Option Value) (mg mb : Str → Option Value) (f : Addr) (vs : List Value) (need : List (Addr × Obj)) (Out : Value → List (Addr × Obj) → Prop) : Prop :=
  ∀ (dp un : Nat) (gd : Option (List Code)) (cn : Str) (cs : Scope) (a : Addr) (ccd : Value) (cl : List (Str × Addr)) (outer : List Env) (A₀ : Around) (base h₀ : Heap) (L : Addr) (m : Str → Option Value) (news : List (Addr × Obj)) (s : Shared) (Q E : Value → Shared → Prop),
    Below A₀ base outer h₀ → Fr h₀ L s.heap m → (hd.heap_39 w.params).In h₀ → News h₀ L s.heap news → Top hd.view_39 LS mean mg mb h₀ → cs.kind = .function → (∀ p ∈ need, p ∈ news) → dp + 40 < recursionLimit → un + 200 < cLine →
    (∀ v add h' tk', Fr h₀ L h' m → News h₀ L h' (add ++ news) → (∀ p ∈ add, s.heap.get? p.1 = none) → Out v add → Q v { s with heap := h', toks := tk' }) →
    wpAny (model PP w) (ktrTop dp un gd cn cs L a ccd cl outer) (call (.ref f) vs) Q E s
section
variable {w : World} {mean : ExcName → Option Value} {mg mb : Str → Option Value} {dp un : Nat} {gd : Option (List Code)} {cn : Str} {cs : Scope} {L₀ a : Addr} {ccd : Value} {cl : List (Str × Addr)} {outer : List Env} {base : Heap}
   {E : Value → Shared → Prop} {s : Shared} {g h : Heap} {L : Addr} {news : List (Addr × Obj)} {Q : Flow → Shared → Prop}
theorem lev_end (hC : SubC w mean mg mb) (hX : Facts w mean mg mb dp un gd cn cs L₀ a ccd cl outer base g)
   (m₀ : Str → Option Value) (x z : Str) (tx tz tm : Tok) (hx5 : x.length ≤ 5) (hz5 : z.length ≤ 5) (d : Int)
   (hends : ((x.length = 0 ∨ z.length = 0) ∧ 2 * ((x.length : Int) + (z.length : Int)) = d) ∨ ∃ c c' u v, ((c = 9 ∧ c' = 32) ∨ (c = 32 ∧ c' = 9)) ∧ u < 5 ∧ v < 5 ∧ 1 ≤ u ∧ 1 ≤ v ∧ x = rep c u ∧ z = rep c' v ∧ d = 2 * ((max u v : Nat) : Int))
   (F : Fr g L h (mT m₀ x z tx tz tm)) (N : News g L h news) {tk : Nat}
   (hQ : ∀ h' tk' m' t, Fr g L h' m' → News g L h' news → Q (.ret (.int d t)) { s with heap := h', toks := tk' })
   (hE : PassesOwn (model PP w) (levA dp un gd cn cs L₀ a ccd cl outer L) (levE L) E) :
   wpAny (model PP w) (levA dp un gd cn cs L₀ a ccd cl outer L) (execs (levT 9) (levE L)) Q E { s with heap := h, toks := tk } := by
  have hw : levT 9 = levSt 9 :: levSt 10 :: levSt 11 :: levT 12 := rfl
  rw [hw]
  clear hw
  rcases hends with ⟨h0, rfl⟩ | ⟨c, c', u, v, hc, hu5, hv5, hu1, hv1, hxe, hze, rfl⟩
  · exact wpAny_execs_cons (e9a hX m₀ x z tx tz tm hx5 hz5 h0 F N fun h₁ tk₁ t F₁ N₁ => hQ _ _ _ _ F₁ N₁)
  · have hxl : x.length = u := by rw [hxe, rep_len]
    have hzl : z.length = v := by rw [hze, rep_len]
    have hp1 : ∀ j, j < v → ∀ i, i < u → subPre (Txt.item z (j : Int)) (Txt.item x (i : Int)) := by
      intro j hj i hi
      rw [hxe, hze, rep_item c u i hi hu5 (by omega), rep_item c' v j hj hv5 (by omega)]
      rcases hc with ⟨rfl, rfl⟩ | ⟨rfl, rfl⟩
      · exact .inr ⟨rfl, rfl⟩
      · exact .inl ⟨rfl, rfl⟩
    have hp2 : ∀ j, j < u → ∀ i, i < v → subPre (Txt.item x (j : Int)) (Txt.item z (i : Int)) := by
      intro j hj i hi
      rw [hxe, hze, rep_item c u j hj hu5 (by omega), rep_item c' v i hi hv5 (by omega)]
      rcases hc with ⟨rfl, rfl⟩ | ⟨rfl, rfl⟩
      · exact .inl ⟨rfl, rfl⟩
      · exact .inr ⟨rfl, rfl⟩
    refine wpAny_execs_cons (e9b hX m₀ x z tx tz tm hx5 hz5 (by omega) (by omega) F N fun h₁ tk₁ F₁ N₁ => ?_)
    dsimp only
    refine wpAny_execs_cons (e10 hX m₀ x z tx tz tm hx5 hz5 F₁ N₁ fun h₂ tk₂ F₂ N₂ => ?_)
    dsimp only
    refine wpAny_execs_cons (e11 hX m₀ x z tx tz tm hx5 hz5 F₂ N₂ (fun h₃ tk₃ F₃ N₃ => ?_) (fun h₃ tk₃ F₃ N₃ => ?_))
    · dsimp only
      exact dp_tail hC hX m₀ x z tx tz tm u v hu5 hu1 hv1 hxl hzl (by omega) hp1 F₃ N₃ hQ hE
    · dsimp only
      have e : put (put (mT m₀ x z tx tz tm) "b" (.str x tx)) "a" (.str z tz) = mT m₀ z x tz tx tm := by
        funext y
        by_cases h1 : y = "a"
        · subst h1; rfl
        · by_cases h2 : y = "b"
          · subst h2; rfl
          · simp [mT, put, h1, h2]
      rw [e] at F₃
      rw [Nat.max_comm] at hQ
      exact dp_tail hC hX m₀ z x tz tx tm v u hv5 hv1 hu1 hzl hxl (by omega) hp2 F₃ N₃ hQ hE
theorem a1_eq (i j : Nat) : Txt.slice (tx i) (some ((cp i j : Nat) : Int)) none = a1 i j := rfl
theorem b1_eq (i j : Nat) : Txt.slice (tx j) (some ((cp i j : Nat) : Int)) none = b1 i j := rfl
theorem a2_eq (i j : Nat) : Txt.slice (a1 i j) none (some (-((Mine.cs i j : Nat) : Int))) = a2 i j := rfl
theorem b2_eq (i j : Nat) : Txt.slice (b1 i j) none (some (-((Mine.cs i j : Nat) : Int))) = b2 i j := rfl
theorem lev_body (hC : SubC w mean mg mb) (hX : Facts w mean mg mb dp un gd cn cs L₀ a ccd cl outer base g)
   (i j : Nat) (hi : i < 15) (hj : j < 15) (ta tb tc : Tok)
   (F : Fr g L h (levM0 i j ta tb tc)) (N : News g L h news) {tk : Nat}
   (hQ : ∀ h' tk' m' t, Fr g L h' m' → News g L h' news → Q (.ret (.int (dist i j) t)) { s with heap := h', toks := tk' })
   (hE : PassesOwn (model PP w) (levA dp un gd cn cs L₀ a ccd cl outer L) (levE L) E) :
   wpAny (model PP w) (levA dp un gd cn cs L₀ a ccd cl outer L) (execs levB (levE L)) Q E { s with heap := h, toks := tk } := by
  have hw : levB = levSt 0 :: levSt 1 :: levSt 2 :: levSt 3 :: levSt 4 :: levSt 5 :: levSt 6 :: levSt 7 :: levSt 8 :: levT 9 := rfl
  rw [hw]
  clear hw
  have F0 : Fr g L h (put (put (levM0 i j ta tb tc) "b" (.str (tx j) tb)) "a" (.str (tx i) ta)) := by
    rw [put_self (m := levM0 i j ta tb tc) (x := "b") rfl, put_self (m := levM0 i j ta tb tc) (x := "a") rfl]
    exact F
  have h55 := all2 f5 hi hj
  have h33 := all2 f3 hi hj
  have h44 := all2 f4 hi hj
  refine wpAny_execs_cons (e0 hX (levM0 i j ta tb tc) (tx i) (tx j) ta tb F0 N (fun tk₁ t he => ?_) (fun tk₁ hne => ?_))
  · have hij : i = j := by
      simp only [beq_iff_eq] at h55
      have : (i == j) = true := by rw [← h55]; exact beq_iff_eq.mpr he
      exact beq_iff_eq.mp this
    subst hij
    have h6 := all1 f6 hi
    simp only [beq_iff_eq] at h6
    have := hQ h tk₁ _ t F N
    rw [h6] at this
    exact this
  · dsimp only
    have hij : i ≠ j := fun e => hne (by rw [e])
    clear h55 F0
    simp only [hij, Bool.or_eq_true, Bool.and_eq_true, decide_eq_true_eq, beq_iff_eq, false_or] at h33
    obtain ⟨⟨⟨⟨⟨⟨hcp, hcs⟩, hcs1⟩, hla⟩, hlb⟩, hl1⟩, hl2⟩ := h33
    refine wpAny_execs_cons (eC 1 "pre" (.inl ⟨rfl, rfl⟩) _ F N fun h₁ tk₁ t₁ F₁ N₁ => ?_)
    dsimp only
    refine wpAny_execs_cons (lev_loop1 (s := { s with heap := h₁, toks := tk₁ }) i j hi hj hij F₁ N₁ (fun t₂ h₂ tk₂ F₂ N₂ => ?_) hE)
    dsimp only
    refine wpAny_execs_cons (eS 3 "a" (.inl ⟨rfl, rfl⟩) _ (tx i) ta t₂ (cp i j) hl1 (by omega) rfl rfl F₂ N₂ fun h₃ tk₃ t₃ F₃ N₃ => ?_)
    dsimp only
    rw [a1_eq] at F₃
    refine wpAny_execs_cons (eS 4 "b" (.inr ⟨rfl, rfl⟩) _ (tx j) tb t₂ (cp i j) hl2 (by omega) rfl rfl F₃ N₃ fun h₄ tk₄ t₄ F₄ N₄ => ?_)
    dsimp only
    rw [b1_eq] at F₄
    refine wpAny_execs_cons (eC 5 "post" (.inr ⟨rfl, rfl⟩) _ F₄ N₄ fun h₅ tk₅ t₅ F₅ N₅ => ?_)
    dsimp only
    refine wpAny_execs_cons (lev_loop2 (s := { s with heap := h₅, toks := tk₅ }) i j hi hj hij F₅ N₅ (fun t₆ h₆ tk₆ F₆ N₆ => ?_) hE)
    dsimp only
    refine wpAny_execs_cons (eT 7 "a" (.inl ⟨rfl, rfl⟩) _ (a1 i j) t₃ t₆ (-((Mine.cs i j : Nat) : Int)) hla (by omega) (by omega) rfl rfl F₆ N₆ fun h₇ tk₇ t₇ F₇ N₇ => ?_)
    dsimp only
    rw [a2_eq] at F₇
    refine wpAny_execs_cons (eT 8 "b" (.inr ⟨rfl, rfl⟩) _ (b1 i j) t₄ t₆ (-((Mine.cs i j : Nat) : Int)) hlb (by omega) (by omega) rfl rfl F₇ N₇ fun h₈ tk₈ t₈ F₈ N₈ => ?_)
    dsimp only
    rw [b2_eq] at F₈
    have hm : (put (put (put (put (put (put (put (levM0 i j ta tb tc) "pre" (.int ((cp i j : Nat) : Int) t₂)) "a" (.str (a1 i j) t₃)) "b" (.str (b1 i j) t₄)) "post" (.int (-((Mine.cs i j : Nat) : Int)) t₆)) "a" (.str (a2 i j) t₇)) "b" (.str (b2 i j) t₈)) "max_cost" (.int 16 tc)) =
        (put (put (put (put (put (put (levM0 i j ta tb tc) "pre" (.int ((cp i j : Nat) : Int) t₂)) "a" (.str (a1 i j) t₃)) "b" (.str (b1 i j) t₄)) "post" (.int (-((Mine.cs i j : Nat) : Int)) t₆)) "a" (.str (a2 i j) t₇)) "b" (.str (b2 i j) t₈)) := put_self rfl
    have F₉ : Fr g L h₈ (mT (put (put (put (put (levM0 i j ta tb tc) "pre" (.int ((cp i j : Nat) : Int) t₂)) "a" (.str (a1 i j) t₃)) "b" (.str (b1 i j) t₄)) "post" (.int (-((Mine.cs i j : Nat) : Int)) t₆)) (a2 i j) (b2 i j) t₇ t₈ tc) := Eq.mpr (congrArg (Fr g L h₈) hm) F₈
    have ha5 : (a2 i j).length ≤ 5 := Nat.le_trans (Txt.slice_le _ _ _) hla
    have hb5 : (b2 i j).length ≤ 5 := Nat.le_trans (Txt.slice_le _ _ _) hlb
    refine lev_end hC hX _ (a2 i j) (b2 i j) t₇ t₈ tc ha5 hb5 (dist i j) ?_ F₉ N₈ hQ hE
    simp only [beq_eq_false_iff_ne.mpr hij, Bool.false_or] at h44
    unfold ends at h44
    simp only [Bool.or_eq_true, Bool.and_eq_true, beq_iff_eq, List.any_eq_true, List.mem_range, decide_eq_true_eq] at h44
    rcases h44 with ⟨h1, h2⟩ | ⟨c, hc, u, hu, v, hv, ⟨⟨⟨⟨h1, h2⟩, h3⟩, h4⟩, h5⟩⟩
    · exact .inl ⟨h1, h2⟩
    · refine .inr ⟨c.1, c.2, u, v, ?_, hu, hv, h1, h2, h3, h4, h5⟩
      simp only [List.mem_cons, List.not_mem_nil, or_false] at hc
      rcases hc with rfl | rfl
      · exact .inl ⟨rfl, rfl⟩
      · exact .inr ⟨rfl, rfl⟩
end
end Mine
end PartLy
section PartLz
open PySem PySem.W PyProof.Rows
set_option Elab.async false
set_option maxRecDepth 100000
set_option maxHeartbeats 1000000
namespace Mine
theorem lev_claim (w : World) (mean : ExcName → Option Value) (mg mb : Str → Option Value) (i j : Nat) (hi : i < 15) (hj : j < 15) (ta tb tc : Tok) :
    MClaim w mean mg mb 35 [.str (tx i) ta, .str (tx j) tb, .int 16 tc] [] (fun v add => add = [] ∧ ∃ t, v = .int (dist i j) t) := by
  have hC := sub_claim w mean mg mb
  unfold MClaim
  intro dp un gd cn cs a ccd cl outer A₀ base h₀ L m news s Q E hB hF hX hN hT hk hneed hd9 hu9 hret
  have hret' : ∀ (t : Tok) (h' : Heap) (tk' : Nat), Fr h₀ L h' m → News h₀ L h' news → Q (.int (dist i j) t) { s with heap := h', toks := tk' } := fun t h' tk' F' N' => hret _ [] _ _ F' N' (fun _ h => nomatch h) ⟨rfl, t, rfl⟩
  clear hret hneed
  have hfill : hd.heap_39 w.params = hd.heap_39 w.params ∧ PySem.Challenge.rw_pg0254_01 = PySem.Challenge.rw_pg0254_01 := by (k_fill; exact ⟨rfl, rfl⟩)
  clear hfill
  refine wpAny_call ?_
  k_dflt cell_enter
  (with_reducible rename Fr _ _ _ _ => F9); (with_reducible rename News _ _ _ _ => N9)
  refine lev_body hC ⟨by omega, by omega, by assumption, by assumption, by assumption⟩ i j hi hj ta tb tc F9 N9 ?_ (by with_unfolding_all passes_own)
  intro h' tk' m' t F' N'
  (try dsimp only)
  k_steps
  all_goals cb_end hret'
end Mine
end PartLz
section PartCi
open PySem PySem.W PyProof.Rows
set_option Elab.async false
set_option maxRecDepth 100000
set_option maxHeartbeats 1000000
namespace Mine
def StrPost (g : Heap) (L I : Addr) (oI : Obj) (J : (Str → Option Value) → List (Addr × Obj) → Prop) (s : Shared) (Q : Flow → Shared → Prop) (f : Flow) (s₂ : Shared) : Prop :=
  match f with
  | .ret v => Q (.ret v) s₂
  | .brk => Q .next s₂
  | _ => ∃ h' tk' m' nx', s₂ = { s with heap := h', toks := tk' } ∧ Fr g L h' m' ∧ News g L h' ((I, oI) :: nx') ∧ (∀ p ∈ nx', p.1 ≠ I) ∧ J m' nx'
theorem str_loop {prog : Program} {w : World} {A : Around} {E : Value → Shared → Prop} {Q : Flow → Shared → Prop} {s : Shared} {env : Env} {g : Heap} {v : Str} {body : List Stmt} {x : Str} {t : Tok} {m₀ : Str → Option Value} {news : List (Addr × Obj)}
    (J : Nat → (Str → Option Value) → List (Addr × Obj) → Prop) (hh : A.handled = none) (F : Fr g env.locals s.heap m₀) (N : News g env.locals s.heap news) (hj : J 0 m₀ news)
    (turn : ∀ i c u m₁ nx h tk I oI, x.cps[i]? = some c → J i m₁ nx → (∀ p ∈ nx, p.1 ≠ I) → Fr g env.locals h (fun y => if y = v then some (.str ⟨#[c]⟩ u) else m₁ y) → News g env.locals h ((I, oI) :: nx) →
      wpAny (model prog w) A (execs body env) (StrPost g env.locals I oI (J (i + 1)) s Q) E { s with heap := h, toks := tk })
    (done : ∀ m₁ nx h tk, J x.cps.size m₁ nx → Fr g env.locals h m₁ → News g env.locals h nx → Q .next { s with heap := h, toks := tk }) :
    wpAny (model prog w) A (pyIter (.str x t)) (fun it s₂ => LoopAtV prog w A g env v body Q E it s₂) E s := by
  have main : ∀ (o : Obj) (St : Nat → Heap → Prop), Walks prog w A s.heap.objs.size [s.heap.objs.size] [s.heap.objs.size] x.cps.size (SignAt x) St → (∀ i h, St i h → ∃ o, h.get? s.heap.objs.size = some o) → St 0 (s.heap.push o) →
      LoopAtV prog w A g env v body Q E (.ref s.heap.objs.size) { s with heap := s.heap.push o } := by
    intro o St W hSt hst
    refine ⟨_, _, _, _, _, St, m₀, news, J, rfl, W, ?_, ?_, ?_, hst, F.push _, (fun p hp => ⟨Heap.get?_push_of_some _ (N p hp).1, (N p hp).2⟩), hj, ?_, ?_⟩
    · intro hm
      exact absurd F.ns.lt ((List.mem_singleton.mp hm) ▸ Nat.lt_irrefl _)
    · intro b' hb
      rw [List.mem_singleton.mp hb]
      exact next_is_new F
    · intro p hp hI
      exact absurd (Heap.lt_size (N p hp).1) ((List.mem_singleton.mp hI) ▸ Nat.lt_irrefl _)
    · rintro i v' m₁ nx s₁ own ⟨h, tk, rfl⟩ hi ⟨c, u, hc, rfl⟩ hJ hoff hown hget hall hst₁ F₁ N₁
      obtain ⟨oI, hoI⟩ := hSt _ _ hst₁
      have hmem : (s.heap.objs.size, oI) ∈ own := hall _ (List.mem_singleton.mpr rfl) (next_is_new F) _ hoI
      have hoff' : ∀ p ∈ nx, p.1 ≠ s.heap.objs.size := fun p hp e => hoff p hp (List.mem_singleton.mpr e)
      have N₂ : News g env.locals h ((s.heap.objs.size, oI) :: nx) := by
        intro p hp
        rcases List.mem_cons.mp hp with rfl | hp
        · exact N₁ _ (List.mem_append_left _ hmem)
        · exact N₁ _ (List.mem_append_right _ hp)
      refine wpAny_mono (turn i c u m₁ nx h tk _ oI hc hJ hoff' F₁ N₂) (fun f s₂ p => ?_) fun _ _ e => e
      have fin : (∃ h' tk' m' nx', s₂ = { s with heap := h', toks := tk' } ∧ Fr g env.locals h' m' ∧ News g env.locals h' ((s.heap.objs.size, oI) :: nx') ∧ (∀ p ∈ nx', p.1 ≠ s.heap.objs.size) ∧ J (i + 1) m' nx') →
          LoopStepU g env.locals [s.heap.objs.size] own (J (i + 1)) { s with heap := h, toks := tk } .next s₂ := by
        rintro ⟨h', tk', m', nx', rfl, F', N', ho', hJ'⟩
        refine ⟨rfl, h', tk', m', nx', rfl, F', ?_, fun p hp q => ho' p hp (List.mem_singleton.mp q), hJ'⟩
        intro p hp
        rcases List.mem_append.mp hp with hp | hp
        · have e1 := List.mem_singleton.mp (hown p hp)
          have e2 := hget p hp
          rw [e1] at e2
          have e2' : h.get? s.heap.objs.size = some p.2 := e2
          rw [hoI] at e2'
          have : p = (s.heap.objs.size, oI) := by
            cases p
            simp only [Option.some.injEq] at e1 e2'
            rw [e1, ← e2']
          rw [this]
          exact N' _ List.mem_cons_self
        · exact N' _ (List.mem_cons_of_mem _ hp)
      cases f with
      | ret v => exact .ret p
      | brk => exact .brk p
      | next => exact .next (fin p)
      | cont => exact .cont (fin p)
    · intro h' tk m' nx F' N' _ hJ
      exact done m' nx h' tk hJ F' N'
  cases ha : x.cps.all (· < 128)
  · exact wpAny_pyIter_wide ha (main _ _ (Walks.strWide hh _ x t) (fun _ _ st => let ⟨o, ho, _⟩ := st; ⟨o, ho⟩) ⟨_, Heap.get?_push_size _ rfl, rfl, rfl⟩)
  · exact wpAny_pyIter_ascii ha (main _ _ (Walks.strAscii hh _ x t) (fun _ _ st => let ⟨o, ho, _⟩ := st; ⟨o, ho⟩) ⟨_, Heap.get?_push_size _ rfl, rfl, rfl⟩)
def initB : List Stmt := getB ((getB (PySem.Challenge.pw_pg0254_01.main.body.getD 11 noS)).getD 1 noS)
def initS : Scope := getFS ((getB (PySem.Challenge.pw_pg0254_01.main.body.getD 11 noS)).getD 1 noS)
def initFB : List Stmt := getB (initB.getD 4 noS)
abbrev initE (L : Addr) : Env := envOf "Whitespace.__init__" initS L 66 (.ref 65)
/-- the state between two turns: text of p tabs, then blanks -/
structure IniJ (X : Addr) (base : List (Addr × Obj)) (p i : Nat) (m₁ : Str → Option Value) (nx : List (Addr × Obj)) : Prop where
  led : ∃ C n vs, m₁ "count" = some (.ref C) ∧ nx = (C, PySem.W.listOf vs.toArray n) :: base ∧ (∀ q ∈ base, q.1 ≠ C) ∧ ((min i p = 0 ∧ vs = [] ) ∨ (min i p ≠ 0 ∧ ∃ t, vs = [.int ((min i p : Nat) : Int) t]))
  n : ∃ t, m₁ "n" = some (.int (i : Int) t)
  nt : ∃ t, m₁ "nt" = some (.int ((min i p : Nat) : Int) t)
  b : ∃ t, m₁ "b" = some (.int ((i - p : Nat) : Int) t)
  S : ∃ t, m₁ "S" = some (.str (Str.ofString " ") t)
  T : ∃ t, m₁ "T" = some (.str (Str.ofString "\t") t)
  self : m₁ "self" = some (.ref X)
section
variable {w : World} {A : Around} {E : Value → Shared → Prop} {s : Shared} {g h : Heap} {L : Addr} {base : List (Addr × Obj)} {Q : Flow → Shared → Prop}
theorem ini_blank {dp un : Nat} {gd : Option (List Code)} {cn : Str} {cs : Scope} {L₀ a : Addr} {ccd : Value} {cl : List (Str × Addr)} {outer : List Env} (hA : A = (ktrTop dp un gd cn cs L₀ a ccd cl outer).deeper (initE L))
   (m₀ : Str → Option Value) (X I : Addr) (oI : Obj) (p i : Nat) (hip : p ≤ i) (hi : i < 5) (u : Tok) (nx : List (Addr × Obj)) (hJ : IniJ X base p i m₀ nx) (hoff : ∀ q ∈ nx, q.1 ≠ I) 
   (F : Fr g L h (fun y => if y = Str.ofString "ch" then some (.str (Str.ofString " ") u) else m₀ y)) (N : News g L h ((I, oI) :: nx)) {tk : Nat} :
   wpAny (model PP w) A (execs initFB (initE L)) (StrPost g L I oI (IniJ X base p (i + 1)) s Q) E { s with heap := h, toks := tk } := by
  subst hA
  obtain ⟨⟨C, n, vs, j1, rfl, jb, jv⟩, ⟨t2, j2⟩, ⟨t3, j3⟩, ⟨t4, j4⟩, ⟨t5, j5⟩, ⟨t6, j6⟩, j7⟩ := hJ
  have hw : initFB = [_] := rfl
  rw [hw]
  clear hw
  have e0 : put (put (put (put (put (put m₀ "count" (.ref C)) "n" (.int (i : Int) t2)) "nt" (.int ((min i p : Nat) : Int) t3)) "b" (.int ((i - p : Nat) : Int) t4)) "S" (.str (Str.ofString " ") t5)) "T" (.str (Str.ofString "\t") t6) = m₀ := by
    rw [put_self j1, put_self j2, put_self j3, put_self j4, put_self j5, put_self j6]
  rw [← e0] at F
  unfold put at F
  k_steps
  (with_reducible rename Fr _ _ _ _ => F9); (with_reducible rename News _ _ _ _ => N9)
  have em : min (i + 1) p = min i p := by omega
  refine ⟨_, _, _, _, rfl, F9, N9, hoff, ?_⟩
  refine ⟨⟨C, n, vs, rfl, rfl, jb, by rw [em]; exact jv⟩, ?_, ?_, ?_, ⟨_, rfl⟩, ⟨_, rfl⟩, j7⟩
  · exact ⟨_, rfl⟩
  · rw [em]
    exact ⟨_, rfl⟩
  · rw [show ((i + 1 - p : Nat) : Int) = ((i - p : Nat) : Int) + 1 by omega]
    exact ⟨_, rfl⟩
theorem allLt_mem {D : Addr} : ∀ {l : List (Addr × Obj)}, AllLt D l → ∀ q ∈ l, q.1 < D
  | [], _, _, h => nomatch h
  | _ :: _, h, q, hq => by
    rcases List.mem_cons.mp hq with rfl | hq
    · exact h.1
    · exact allLt_mem h.2 q hq
set_option hygiene false in
local macro_rules | `(tactic| k_upd) => `(tactic| exact Upd.tail (Ne.symm hCI) (Upd.head jb))
theorem ini_tab {dp un : Nat} {gd : Option (List Code)} {cn : Str} {cs : Scope} {L₀ a : Addr} {ccd : Value} {cl : List (Str × Addr)} {outer : List Env} (hA : A = (ktrTop dp un gd cn cs L₀ a ccd cl outer).deeper (initE L)) {mean : ExcName → Option Value} {mg mb : Str → Option Value} (X' : (hd.heap_39 w.params).In g) (T' : Top hd.view_39 LS mean mg mb g)
   (m₀ : Str → Option Value) (X I : Addr) (oI : Obj) (p i : Nat) (hip : i < p) (hi0 : i ≠ 0) (hi : i < 5) (u : Tok) (nx : List (Addr × Obj)) (hJ : IniJ X base p i m₀ nx) (hoff : ∀ q ∈ nx, q.1 ≠ I)
   (F : Fr g L h (fun y => if y = Str.ofString "ch" then some (.str (Str.ofString "\t") u) else m₀ y)) (N : News g L h ((I, oI) :: nx)) {tk : Nat} :
   wpAny (model PP w) A (execs initFB (initE L)) (StrPost g L I oI (IniJ X base p (i + 1)) s Q) E { s with heap := h, toks := tk } := by
  subst hA
  have hfill : hd.heap_39 w.params = hd.heap_39 w.params ∧ PySem.Challenge.rw_pg0254_01 = PySem.Challenge.rw_pg0254_01 := by (k_fill; exact ⟨rfl, rfl⟩)
  clear hfill
  obtain ⟨⟨C, n, vs, j1, rfl, jb, jv⟩, ⟨t2, j2⟩, ⟨t3, j3⟩, ⟨t4, j4⟩, ⟨t5, j5⟩, ⟨t6, j6⟩, j7⟩ := hJ
  have em : min i p = i := by omega
  rw [em] at jv j3
  rcases jv with ⟨h0, _⟩ | ⟨_, t7, rfl⟩
  · exact absurd h0 hi0
  have hw : initFB = [_] := rfl
  rw [hw]
  clear hw
  have hCI : C ≠ I := hoff _ List.mem_cons_self
  have eb : ((i - p : Nat) : Int) = 0 := by omega
  rw [eb] at j4
  have e0 : put (put (put (put (put (put m₀ "count" (.ref C)) "n" (.int (i : Int) t2)) "nt" (.int (i : Int) t3)) "b" (.int 0 t4)) "S" (.str (Str.ofString " ") t5)) "T" (.str (Str.ofString "\t") t6) = m₀ := by
    rw [put_self j1, put_self j2, put_self j3, put_self j4, put_self j5, put_self j6]
  rw [← e0] at F
  unfold put at F
  k_steps
  (with_reducible rename Fr _ _ _ _ => F9); (with_reducible rename News _ _ _ _ => N9)
  have em2 : min (i + 1) p = i + 1 := by omega
  refine ⟨_, _, _, _, rfl, F9, N9, ?_, ?_⟩
  · intro q hq
    rcases List.mem_cons.mp hq with rfl | hq
    · exact hCI
    · exact hoff q (List.mem_cons_of_mem _ hq)
  · refine ⟨⟨C, n, [.int (((i + 1 : Nat) : Int)) _], rfl, rfl, jb, .inr ⟨by omega, _, by rw [em2]⟩⟩, ⟨_, rfl⟩, ?_, ?_, ⟨_, rfl⟩, ⟨_, rfl⟩, j7⟩
    · rw [em2]
      exact ⟨_, rfl⟩
    · rw [show ((i + 1 - p : Nat) : Int) = 0 by omega]
      exact ⟨_, rfl⟩
theorem first_end {h' : Heap} {D' D1 l' I C : Addr} {o o1 o2 oI oC : Obj} (N9 : News g L h' ((D', o) :: (D1, o1) :: (l', o2) :: (I, oI) :: (C, oC) :: base)) : News g L h' ((I, oI) :: (D', o) :: base) := fun q hq => by
  rcases List.mem_cons.mp hq with rfl | hq
  · exact N9 _ (.tail _ (.tail _ (.tail _ (.head _))))
  · rcases List.mem_cons.mp hq with rfl | hq
    · exact N9 _ (.head _)
    · exact N9 _ (.tail _ (.tail _ (.tail _ (.tail _ (.tail _ hq)))))
theorem ini_first {dp un : Nat} {gd : Option (List Code)} {cn : Str} {cs : Scope} {L₀ a : Addr} {ccd : Value} {cl : List (Str × Addr)} {outer : List Env} (hA : A = (ktrTop dp un gd cn cs L₀ a ccd cl outer).deeper (initE L)) {mean : ExcName → Option Value} {mg mb : Str → Option Value} (X' : (hd.heap_39 w.params).In g) (T' : Top hd.view_39 LS mean mg mb g)
   (m₀ : Str → Option Value) (X I : Addr) (oI : Obj) (p : Nat) (hip : 0 < p) (u : Tok) (nx : List (Addr × Obj)) (hJ : IniJ X base p 0 m₀ nx) (hoff : ∀ q ∈ nx, q.1 ≠ I)
   (F : Fr g L h (fun y => if y = Str.ofString "ch" then some (.str (Str.ofString "\t") u) else m₀ y)) (N : News g L h ((I, oI) :: nx)) {tk : Nat} :
   wpAny (model PP w) A (execs initFB (initE L)) (StrPost g L I oI (IniJ X base p 1) s Q) E { s with heap := h, toks := tk } := by
  subst hA
  have hfill : hd.heap_39 w.params = hd.heap_39 w.params ∧ PySem.Challenge.rw_pg0254_01 = PySem.Challenge.rw_pg0254_01 := by (k_fill; exact ⟨rfl, rfl⟩)
  clear hfill
  obtain ⟨⟨C, n, vs, j1, rfl, jb, jv⟩, ⟨t2, j2⟩, ⟨t3, j3⟩, ⟨t4, j4⟩, ⟨t5, j5⟩, ⟨t6, j6⟩, j7⟩ := hJ
  have em : min 0 p = 0 := by omega
  rw [em] at jv j3
  obtain rfl : vs = [] := by
    rcases jv with ⟨_, h⟩ | ⟨h, _⟩
    · exact h
    · exact absurd rfl h
  have hw : initFB = [_] := rfl
  rw [hw]
  clear hw
  have hCI : C ≠ I := hoff _ List.mem_cons_self
  have eb : ((0 - p : Nat) : Int) = 0 := by omega
  rw [eb] at j4
  have e0 : put (put (put (put (put (put m₀ "count" (.ref C)) "n" (.int 0 t2)) "nt" (.int 0 t3)) "b" (.int 0 t4)) "S" (.str (Str.ofString " ") t5)) "T" (.str (Str.ofString "\t") t6) = m₀ := by
    rw [put_self j1, put_self (v := .int 0 t2) j2, put_self (v := .int 0 t3) j3, put_self j4, put_self j5, put_self j6]
  rw [← e0] at F
  unfold put at F
  k_steps
  (with_reducible rename Fr _ _ _ _ => F9); (with_reducible rename News _ _ _ _ => N9)
  have em2 : min (0 + 1) p = 1 := by omega
  rename _ < _ ∧ _ < _ ∧ _ < _ ∧ _ < _ ∧ AllLt _ base => l9
  obtain ⟨l91, l92, l93, l94, l95⟩ := l9
  refine ⟨_, _, _, _, rfl, F9, first_end N9, ?_, ?_⟩
  · intro q hq
    rcases List.mem_cons.mp hq with rfl | hq
    · exact Nat.ne_of_gt l93
    · exact hoff q (List.mem_cons_of_mem _ hq)
  · refine ⟨⟨_, 0, [.int 1 _], rfl, rfl, fun q hq => Nat.ne_of_lt (allLt_mem l95 q hq), .inr ⟨by omega, _, by rw [em2]; rfl⟩⟩, ⟨_, rfl⟩, ?_, ?_, ⟨_, rfl⟩, ⟨_, rfl⟩, j7⟩
    · rw [em2]
      exact ⟨_, rfl⟩
    · rw [show ((0 + 1 - p : Nat) : Int) = 0 by omega]
      exact ⟨_, rfl⟩
theorem ini_x {J' : (Str → Option Value) → List (Addr × Obj) → Prop} {dp un : Nat} {gd : Option (List Code)} {cn : Str} {cs : Scope} {L₀ a : Addr} {ccd : Value} {cl : List (Str × Addr)} {outer : List Env} (hA : A = (ktrTop dp un gd cn cs L₀ a ccd cl outer).deeper (initE L))
   (m₀ : Str → Option Value) (X I : Addr) (oI : Obj) (p i : Nat) (u : Tok) (nx : List (Addr × Obj)) (hJ : IniJ X base p i m₀ nx)
   (F : Fr g L h (fun y => if y = Str.ofString "ch" then some (.str (Str.ofString "x") u) else m₀ y)) (N : News g L h ((I, oI) :: nx)) {tk : Nat}
   (hQ : ∀ tk' m', IniJ X base p i m' nx → Fr g L h m' → News g L h nx → Q .next { s with heap := h, toks := tk' }) :
   wpAny (model PP w) A (execs initFB (initE L)) (StrPost g L I oI J' s Q) E { s with heap := h, toks := tk } := by
  subst hA
  have hJ' := hJ
  obtain ⟨⟨C, n, vs, j1, rfl, jb, jv⟩, ⟨t2, j2⟩, ⟨t3, j3⟩, ⟨t4, j4⟩, ⟨t5, j5⟩, ⟨t6, j6⟩, j7⟩ := hJ
  have hw : initFB = [_] := rfl
  rw [hw]
  clear hw
  have e0 : put (put m₀ "S" (.str (Str.ofString " ") t5)) "T" (.str (Str.ofString "\t") t6) = m₀ := by
    rw [put_self j5, put_self j6]
  have F0 : Fr g L h (put m₀ "ch" (.str (Str.ofString "x") u)) := F
  have hQ' : Unit → ∀ tk', Q .next { s with heap := h, toks := tk' } := fun _ tk' => hQ tk' (put m₀ "ch" (.str (Str.ofString "x") u)) ⟨⟨C, n, vs, j1, rfl, jb, jv⟩, ⟨t2, j2⟩, ⟨t3, j3⟩, ⟨t4, j4⟩, ⟨t5, j5⟩, ⟨t6, j6⟩, j7⟩ F0 (fun p hp => N p (List.mem_cons_of_mem _ hp))
  clear hQ F0
  rw [← e0] at F
  unfold put at F
  k_steps
  exact hQ' () _
/-- the loop of __init__ over a text of p tabs, q blanks and an x -/
theorem ini_loop {dp un : Nat} {gd : Option (List Code)} {cn : Str} {cs : Scope} {L₀ a : Addr} {ccd : Value} {cl : List (Str × Addr)} {outer : List Env} (hA : A = (ktrTop dp un gd cn cs L₀ a ccd cl outer).deeper (initE L)) {mean : ExcName → Option Value} {mg mb : Str → Option Value} (X' : (hd.heap_39 w.params).In g) (T' : Top hd.view_39 LS mean mg mb g)
   (m₀ : Str → Option Value) (X : Addr) (p q : Nat) (hpq : p + q < 5) (t : Tok) (nx : List (Addr × Obj)) (hJ : IniJ X base p 0 m₀ nx)
   (F : Fr g L s.heap m₀) (N : News g L s.heap nx)
   (hQ : ∀ h' tk' m' nx', IniJ X base p (p + q) m' nx' → Fr g L h' m' → News g L h' nx' → Q .next { s with heap := h', toks := tk' }) :
   wpAny (model PP w) A (pyIter (.str ⟨(List.replicate p 9 ++ List.replicate q 32 ++ [120]).toArray⟩ t)) (fun it s₂ => LoopAtV PP w A g (initE L) "ch" initFB Q E it s₂) E s := by
  have e9 : (⟨#[9]⟩ : Str) = Str.ofString "\t" := by decide +kernel
  have e32 : (⟨#[32]⟩ : Str) = Str.ofString " " := by decide +kernel
  have e120 : (⟨#[120]⟩ : Str) = Str.ofString "x" := by decide +kernel
  refine str_loop (fun i m nx => i ≤ p + q ∧ IniJ X base p i m nx) (by rw [hA]; rfl) F N ⟨Nat.zero_le _, hJ⟩ ?_ ?_
  · rintro i c u m₁ nx₁ h tk I oI hc ⟨hi, hJ₁⟩ hoff F₁ N₁
    simp only [List.getElem?_toArray] at hc
    have conv : ∀ {f : Flow} {s₂ : Shared}, i + 1 ≤ p + q → StrPost g L I oI (IniJ X base p (i + 1)) s Q f s₂ → StrPost g L I oI (fun m nx => i + 1 ≤ p + q ∧ IniJ X base p (i + 1) m nx) s Q f s₂ := by
      intro f s₂ hle hp
      cases f with
      | ret v => exact hp
      | brk => exact hp
      | next => obtain ⟨a1, a2, a3, a4, a5, a6, a7, a8, a9⟩ := hp; exact ⟨a1, a2, a3, a4, a5, a6, a7, a8, hle, a9⟩
      | cont => obtain ⟨a1, a2, a3, a4, a5, a6, a7, a8, a9⟩ := hp; exact ⟨a1, a2, a3, a4, a5, a6, a7, a8, hle, a9⟩
    by_cases h1 : i < p
    · have hc9 : c = 9 := by
        rw [List.append_assoc, List.getElem?_append_left (by simpa using h1)] at hc
        simp [h1] at hc
        exact hc.symm
      subst hc9
      rw [e9] at F₁
      by_cases h0 : i = 0
      · subst h0
        exact wpAny_mono (ini_first hA X' T' m₁ X I oI p h1 u nx₁ hJ₁ hoff F₁ N₁) (fun f s₂ hp => conv (by omega) hp) fun _ _ x => x
      · exact wpAny_mono (ini_tab hA X' T' m₁ X I oI p i h1 h0 (by omega) u nx₁ hJ₁ hoff F₁ N₁) (fun f s₂ hp => conv (by omega) hp) fun _ _ x => x
    · by_cases h2 : i < p + q
      · have hc32 : c = 32 := by
          rw [List.append_assoc, List.getElem?_append_right (by simpa using Nat.le_of_not_lt h1), List.getElem?_append_left (by simp; omega)] at hc
          simp [show i - p < q by omega] at hc
          exact hc.symm
        subst hc32
        rw [e32] at F₁
        exact wpAny_mono (ini_blank hA m₁ X I oI p i (by omega) (by omega) u nx₁ hJ₁ hoff F₁ N₁) (fun f s₂ hp => conv (by omega) hp) fun _ _ x => x
      · obtain rfl : i = p + q := by omega
        have hc120 : c = 120 := by
          rw [List.getElem?_append_right (by simp)] at hc
          simp at hc
          exact hc.symm
        subst hc120
        rw [e120] at F₁
        exact ini_x hA m₁ X I oI p (p + q) u nx₁ hJ₁ F₁ N₁ (fun tk' m' J' F' N' => hQ _ _ _ _ J' F' N')
  · rintro m₁ nx₁ h tk ⟨hi, hJ₁⟩ F₁ N₁
    exfalso
    simp at hi
    omega
end
end Mine
end PartCi
section PartCj
open PySem PySem.W PyProof.Rows
set_option Elab.async false
set_option maxRecDepth 100000
set_option maxHeartbeats 1000000
namespace Mine
local macro_rules | `(tactic| k_room) => `(tactic| ((try simp only [depth_mark, depth_under_make, depth_under_kw, depth_in1, depth_deeper, depth_caller] at *); (try dsimp only [ktrTop] at *); omega))
def tbx (p q : Nat) : Str := ⟨(List.replicate p 9 ++ List.replicate q 32 ++ [120]).toArray⟩
theorem end_new {h₀ g' h h' : Heap} {L L' : Addr} {m' : Str → Option Value} {news rest : List (Addr × Obj)} {l : Addr} {o : Obj} (N : News h₀ L h news) (F' : Fr g' L' h' m') (G : GSub h g' []) (kN : News h₀ L h' ((l, o) :: rest)) : News h₀ L h' ([(l, o)] ++ news) := fun p hp => by
  rcases List.mem_append.mp hp with hp | hp
  · rw [List.mem_singleton.mp hp]
    exact kN _ (.head _)
  · exact ⟨F'.keep _ _ (G _ _ (N p hp).1 (fun h => nomatch h)), (N p hp).2⟩
theorem new_of {g' h h' : Heap} {L' : Addr} {rest : List (Addr × Obj)} {l : Addr} {o : Obj} (N' : News g' L' h' ((l, o) :: rest)) (G : GSub h g' []) : ∀ p ∈ [(l, o)], h.get? p.1 = none := fun p hp => by
  rw [List.mem_singleton.mp hp]
  cases e : h.get? l with
  | none => rfl
  | some o' =>
    have e1 := G _ _ e (fun h => nomatch h)
    have e2 := (N' _ (.head _)).2.2
    rw [e1] at e2
    cases e2
theorem cnt_claim (w : World) (mean : ExcName → Option Value) (mg mb : Str → Option Value) (p q : Nat) (hpq : p + q < 5) (ta : Tok) :
    MClaim w mean mg mb 122 [.str (tbx p q) ta] [] (fun v add => ∃ l t1 t2 t3 n, v = .ref l ∧ add = [(l, PySem.W.listOf #[.int (p : Int) t1, .int (q : Int) t2, .int (4 - ((p + q : Nat) : Int)) t3] n)]) := by
  unfold MClaim
  intro dp un gd cn cs a ccd cl outer A₀ base h₀ L m news s Q E hB hF hX hN hT hk hneed hd9 hu9 hret
  clear hneed
  have hlen : (tbx p q).length ≤ 5 := by simp [tbx, Str.length]; omega
  have hfill : hd.heap_39 w.params = hd.heap_39 w.params ∧ PySem.Challenge.rw_pg0254_01 = PySem.Challenge.rw_pg0254_01 := by (k_fill; exact ⟨rfl, rfl⟩)
  clear hfill
  refine wpAny_call ?_
  k_dflt (refine' code_defG ?k1 ?k2 ?k3 ?k4 ?k5 ?kA ?kF ?kK ?k6 ?k7 ?k8 ?k9 ?kB ?_ ?c2 ?c3 ?c4 ?c5; (case kA => exact rfl); (case kF => exact rfl); (case kK => assumption); (case k1 => k_asm); (case k2 => k_asm); (case k3 => k_asm); (case k4 => exact News.nil); (case k5 => k_asm); (case k6 => k_is); (case k7 => k_is); (case k8 => ktr_room); (case k9 => exact BindsTo.of_eq rfl); (case c5 => decide); (case kB => exact locs rfl); (case c2 => exact rfl); (case c3 => exact rfl); (case c4 => exact rfl); k_whole; intro g' L' h' FG' F' N' B' X' T' kG'; (try dsimp only); (try k_lift B'); (try k_fold))
  k_steps
  (with_reducible rename Fr _ _ _ _ => F9); (with_reducible rename News _ _ _ _ => N9)
  refine' ini_loop (base := ?base) rfl ?h1 ?h2 _ ?X p q hpq _ _ ?J F9 N9 ?_
  case h1 => assumption
  case h2 => assumption
  case J =>
    refine' ⟨⟨_, 0, [], rfl, rfl, ?_, .inl ⟨by omega, rfl⟩⟩, ⟨_, rfl⟩, ?_, ?_, ⟨_, rfl⟩, ⟨_, rfl⟩, ?self⟩
    case self => with_unfolding_all exact rfl
    · intro q hq
      simp only [List.mem_cons, List.not_mem_nil, or_false] at hq
      rcases hq with rfl | rfl | rfl <;> exact Nat.ne_of_lt (by omega)
    · rw [show min 0 p = 0 by omega]
      exact ⟨_, rfl⟩
    · rw [show 0 - p = 0 by omega]
      exact ⟨_, rfl⟩
  clear F9 N9
  intro h' tk' m' nx' J' F' N'
  obtain ⟨⟨C, n, vs, j1, rfl, jb, jv⟩, ⟨t2, j2⟩, ⟨t3, j3⟩, ⟨t4, j4⟩, ⟨t5, j5⟩, ⟨t6, j6⟩, j7⟩ := J'
  have em : min (p + q) p = p := by omega
  have eq : p + q - p = q := by omega
  rw [em] at jv j3
  rw [eq] at j4
  rw [← put_self j1, ← put_self j2, ← put_self j3, ← put_self j4, ← put_self j7] at F'
  unfold put at F'
  have hret' : Unit → _ := fun _ : Unit => hret
  clear hret
  have jb1 : @Ne Nat _ _ := jb _ (.head _)
  have jb2 : @Ne Nat _ _ := jb _ (.tail _ (.head _))
  have jb3 : @Ne Nat _ _ := jb _ (.tail _ (.tail _ (.head _)))
  clear jb
  have e1 : (q : Int) + 2 * (0 + (p : Int)) - ((q : Int) + 1 * (0 + (p : Int))) = (p : Int) := by omega
  have e2 : (q : Int) + 1 * (0 + (p : Int)) - ((p : Int)) = (q : Int) := by omega
  have e3 : (4 : Int) - ((q : Int) + 1 * (0 + (p : Int))) = 4 - ((p + q : Nat) : Int) := by omega
  rcases jv with ⟨h0, rfl⟩ | ⟨h0, t8, rfl⟩
  · k_steps
    rename News h₀ L _ _ => kN9
    rename Fr h₀ L _ _ => kF9
    rename Fr g' L' _ _ => F9
    rename News g' L' _ _ => N9
    rw [e1, e2, e3] at kN9 N9
    exact hret' () _ [(_, _)] _ _ kF9 (end_new hN F9 kG' kN9) (new_of N9 kG') ⟨_, _, _, _, 0, rfl, rfl⟩
  · k_steps
    rename News h₀ L _ _ => kN9
    rename Fr h₀ L _ _ => kF9
    rename Fr g' L' _ _ => F9
    rename News g' L' _ _ => N9
    rw [e1, e2, e3] at kN9 N9
    exact hret' () _ [(_, _)] _ _ kF9 (end_new hN F9 kG' kN9) (new_of N9 kG') ⟨_, _, _, _, 0, rfl, rfl⟩
end Mine
end PartCj
section PartCf
open PySem PySem.W PyProof.Rows
set_option Elab.async false
set_option maxRecDepth 100000
set_option maxHeartbeats 1000000
namespace Mine
open PySem.Flt in
theorem max3_f {prog : Program} {w : World} {A : Around} {E : Value → Shared → Prop} {s : Shared} {Q : Value → Shared → Prop} {a b c : UInt64} {t u x : Tok} {h₀ : Heap} {L : Addr} {m : Str → Option Value} {news : List (Addr × Obj)}
    (hh : A.handled = none) (F : Fr h₀ L s.heap m) (N : News h₀ L s.heap news)
    (h : ∀ h' tk v, Fr h₀ L h' m → News h₀ L h' news → Q (.float (maxOfBits [a, b, c]) v) { s with heap := h', toks := tk }) :
    wpAny (model prog w) A (call (.builtin "max") [.float a t, .float b u, .float c x]) Q E s := by
  have hf : FloatsAre [.float a t, .float b u, .float c x] [a, b, c] := .cons _ _ (.cons _ _ (.cons _ _ .nil))
  have hT : (s.heap.push { cls := .type "tuple", data := .seq #[.float a t, .float b u, .float c x] }).IsTuple s.heap.objs.size #[.float a t, .float b u, .float c x] := ⟨_, Heap.get?_push_size _ rfl, rfl, 0, rfl⟩
  refine call_max_three (wpAny_pyIter_tuple hT ?_)
  have hsz : (s.heap.push { cls := .type "tuple", data := .seq #[.float a t, .float b u, .float c x] }).objs.size = s.heap.objs.size + 1 := Heap.size_push ..
  refine ⟨_, [_, s.heap.objs.size], [_], _, _, _, fun i j => gtB ([a, b, c].getD i 0) ([a, b, c].getD j 0), rfl, Walks.tuple (A := A.in1) hh _ s.heap.objs.size (by rw [hsz]; exact Nat.ne_of_lt (Nat.lt_succ_self _)) #[.float a t, .float b u, .float c x],
    ⟨⟨_, Heap.get?_push_size _ rfl, rfl, rfl⟩, hT.push _⟩, fun d hd => ?_, by simp, fun i j vi vj s Q E hi hj h => ?_, fun v h' tk hP hk => ?_⟩
  · show d < ((s.heap.push _).push _).objs.size
    rw [Heap.size_push, hsz]
    rcases List.mem_cons.mp hd with rfl | hd
    · rw [hsz]; exact Nat.lt_succ_self _
    · rcases List.mem_cons.mp hd with rfl | hd
      · exact Nat.lt_succ_of_lt (Nat.lt_succ_self _)
      · cases hd
  · obtain ⟨b', t', rfl, e1⟩ := hf.at i vi (by simpa using hi)
    obtain ⟨c', u', rfl, e2⟩ := hf.at j vj (by simpa using hj)
    simp only [List.getD_eq_getElem?_getD, e1, e2, Option.getD_some] at h
    exact AutoFloatOps.gt_0 (by rw [cmp_gt]; exact h)
  · obtain ⟨b', t', rfl, e1⟩ := hf.at (argBest (fun i j => gtB ([a, b, c].getD i 0) ([a, b, c].getD j 0)) 2) v ((List.getElem?_toArray).symm.trans hP)
    have e2 := argBest_bits gtB [a, b, c] 2 (by simp)
    rw [List.take_of_length_le (by simp)] at e2
    have e3 : b' = maxOfBits [a, b, c] := by
      have e4 : ([a, b, c] : List UInt64).getD (argBest (fun i j => gtB ([a, b, c].getD i 0) ([a, b, c].getD j 0)) 2) 0 = b' := by
        rw [List.getD_eq_getElem?_getD]
        rw [e1]
        rfl
      rw [← e4, e2]
      rfl
    subst e3
    have hold : ∀ d o, s.heap.get? d = some o → h'.get? d = some o := fun d o e => by
      refine hk d o (fun hm => ?_) (Heap.get?_push_of_some _ (Heap.get?_push_of_some _ e))
      rcases List.mem_cons.mp hm with e1 | hm
      · have := Heap.lt_size e; rw [e1, hsz] at this; exact Nat.lt_irrefl _ (Nat.lt_of_succ_lt this)
      · cases hm
    exact h h' tk t' (F.keeps hold) (N.grown hold)
open PySem.Flt in
theorem min3_f {prog : Program} {w : World} {A : Around} {E : Value → Shared → Prop} {s : Shared} {Q : Value → Shared → Prop} {a b c : UInt64} {t u x : Tok} {h₀ : Heap} {L : Addr} {m : Str → Option Value} {news : List (Addr × Obj)}
    (hh : A.handled = none) (F : Fr h₀ L s.heap m) (N : News h₀ L s.heap news)
    (h : ∀ h' tk v, Fr h₀ L h' m → News h₀ L h' news → Q (.float (minOfBits [a, b, c]) v) { s with heap := h', toks := tk }) :
    wpAny (model prog w) A (call (.builtin "min") [.float a t, .float b u, .float c x]) Q E s := by
  have hf : FloatsAre [.float a t, .float b u, .float c x] [a, b, c] := .cons _ _ (.cons _ _ (.cons _ _ .nil))
  have hT : (s.heap.push { cls := .type "tuple", data := .seq #[.float a t, .float b u, .float c x] }).IsTuple s.heap.objs.size #[.float a t, .float b u, .float c x] := ⟨_, Heap.get?_push_size _ rfl, rfl, 0, rfl⟩
  refine call_min_three (wpAny_pyIter_tuple hT ?_)
  have hsz : (s.heap.push { cls := .type "tuple", data := .seq #[.float a t, .float b u, .float c x] }).objs.size = s.heap.objs.size + 1 := Heap.size_push ..
  refine ⟨_, [_, s.heap.objs.size], [_], _, _, _, fun i j => ltB ([a, b, c].getD i 0) ([a, b, c].getD j 0), rfl, Walks.tuple (A := A.in1) hh _ s.heap.objs.size (by rw [hsz]; exact Nat.ne_of_lt (Nat.lt_succ_self _)) #[.float a t, .float b u, .float c x],
    ⟨⟨_, Heap.get?_push_size _ rfl, rfl, rfl⟩, hT.push _⟩, fun d hd => ?_, by simp, fun i j vi vj s Q E hi hj h => ?_, fun v h' tk hP hk => ?_⟩
  · show d < ((s.heap.push _).push _).objs.size
    rw [Heap.size_push, hsz]
    rcases List.mem_cons.mp hd with rfl | hd
    · rw [hsz]; exact Nat.lt_succ_self _
    · rcases List.mem_cons.mp hd with rfl | hd
      · exact Nat.lt_succ_of_lt (Nat.lt_succ_self _)
      · cases hd
  · obtain ⟨b', t', rfl, e1⟩ := hf.at i vi (by simpa using hi)
    obtain ⟨c', u', rfl, e2⟩ := hf.at j vj (by simpa using hj)
    simp only [List.getD_eq_getElem?_getD, e1, e2, Option.getD_some] at h
    exact AutoFloatOps.lt_0 h
  · obtain ⟨b', t', rfl, e1⟩ := hf.at (argBest (fun i j => ltB ([a, b, c].getD i 0) ([a, b, c].getD j 0)) 2) v ((List.getElem?_toArray).symm.trans hP)
    have e2 := argBest_bits ltB [a, b, c] 2 (by simp)
    rw [List.take_of_length_le (by simp)] at e2
    have e3 : b' = minOfBits [a, b, c] := by
      have e4 : ([a, b, c] : List UInt64).getD (argBest (fun i j => ltB ([a, b, c].getD i 0) ([a, b, c].getD j 0)) 2) 0 = b' := by
        rw [List.getD_eq_getElem?_getD]
        rw [e1]
        rfl
      rw [← e4, e2]
      rfl
    subst e3
    have hold : ∀ d o, s.heap.get? d = some o → h'.get? d = some o := fun d o e => by
      refine hk d o (fun hm => ?_) (Heap.get?_push_of_some _ (Heap.get?_push_of_some _ e))
      rcases List.mem_cons.mp hm with e1 | hm
      · have := Heap.lt_size e; rw [e1, hsz] at this; exact Nat.lt_irrefl _ (Nat.lt_of_succ_lt this)
      · cases hm
    exact h h' tk t' (F.keeps hold) (N.grown hold)
/-- x quarters -/
def fq (x : Nat) : UInt64 := [0x0000000000000000, 0x3fd0000000000000, 0x3fe0000000000000, 0x3fe8000000000000, 0x3ff0000000000000].getD x 0
end Mine
end PartCf
section PartCg
open PySem PySem.W PyProof.Rows
set_option Elab.async false
set_option maxRecDepth 100000
set_option maxHeartbeats 1000000
namespace Mine
/-- a tuple of floats -/
abbrev tup3 (a b c : Value) : Obj := { cls := .type "tuple", data := .seq #[a, b, c] }
open PySem.Flt in
set_option hygiene false in
local macro_rules | `(tactic| walk_at "call builtin:max") => `(tactic| (refine max3_f rfl (by assumption) (by assumption) ?_; intro h' tk' v' F' N'; rw [hmax]))
open PySem.Flt in
set_option hygiene false in
local macro_rules | `(tactic| walk_at "call builtin:min") => `(tactic| (refine min3_f rfl (by assumption) (by assumption) ?_; intro h' tk' v' F' N'; rw [hmin]))
theorem hls_ne (w : World) (mean : ExcName → Option Value) (mg mb : Str → Option Value) (x y z M n : UInt64) (ta tb tc : Tok) (hmax : PySem.Flt.maxOfBits [x, y, z] = M) (hmin : PySem.Flt.minOfBits [x, y, z] = n)
    (hne : (Float64.cmp n M == some .eq) = false) (hr : ¬ Float64.isZero (Float64.sub M n) = true) (hs : ¬ Float64.isZero (Float64.add M n) = true) (ht : ¬ Float64.isZero (Float64.sub (Float64.sub 0x4000000000000000 M) n) = true) :
    MClaim w mean mg mb 42 [.float x ta, .float y tb, .float z tc] [] (fun v add => ∃ D p q t1 t2 t3, v = .ref D ∧ add = [(D, tup3 (.float p t1) (.float (Float64.div (Float64.add M n) 0x4000000000000000) t2) (.float q t3))]) := by
  unfold MClaim
  intro dp un gd cn cs a ccd cl outer A₀ base h₀ L m news s Q E hB hF hX hN hT hk hneed hd9 hu9 hret
  clear hneed
  have hfill : hd.heap_39 w.params = hd.heap_39 w.params ∧ PySem.Challenge.rw_pg0254_01 = PySem.Challenge.rw_pg0254_01 := by (k_fill; exact ⟨rfl, rfl⟩)
  clear hfill
  refine wpAny_call ?_
  k_dflt (refine' code_defG ?k1 ?k2 ?k3 ?k4 ?k5 ?kA ?kF ?kK ?k6 ?k7 ?k8 ?k9 ?kB ?_ ?c2 ?c3 ?c4 ?c5; (case kA => exact rfl); (case kF => exact rfl); (case kK => assumption); (case k1 => k_asm); (case k2 => k_asm); (case k3 => k_asm); (case k4 => exact News.nil); (case k5 => k_asm); (case k6 => k_is); (case k7 => k_is); (case k8 => ktr_room); (case k9 => exact BindsTo.of_eq rfl); (case c5 => decide); (case kB => exact locs rfl); (case c2 => exact rfl); (case c3 => exact rfl); (case c4 => exact rfl); k_whole; intro g' L' h' FG' F' N' B' X' T' kG'; (try dsimp only); (try k_lift B'); (try k_fold))
  k_steps
  all_goals (
    rename News h₀ L _ _ => kN9
    rename Fr h₀ L _ _ => kF9
    rename Fr g' L' _ _ => F9
    rename News g' L' _ _ => N9
    exact hret _ [(_, _)] _ _ kF9 (end_new hN F9 kG' kN9) (new_of N9 kG') ⟨_, _, _, _, _, _, rfl, rfl⟩)
theorem hls_eq (w : World) (mean : ExcName → Option Value) (mg mb : Str → Option Value) (x y z M n : UInt64) (ta tb tc : Tok) (hmax : PySem.Flt.maxOfBits [x, y, z] = M) (hmin : PySem.Flt.minOfBits [x, y, z] = n)
    (hne : (Float64.cmp n M == some .eq) = true) :
    MClaim w mean mg mb 42 [.float x ta, .float y tb, .float z tc] [] (fun v add => ∃ D p q t1 t2 t3, v = .ref D ∧ add = [(D, tup3 (.float p t1) (.float (Float64.div (Float64.add M n) 0x4000000000000000) t2) (.float q t3))]) := by
  unfold MClaim
  intro dp un gd cn cs a ccd cl outer A₀ base h₀ L m news s Q E hB hF hX hN hT hk hneed hd9 hu9 hret
  clear hneed
  have hfill : hd.heap_39 w.params = hd.heap_39 w.params ∧ PySem.Challenge.rw_pg0254_01 = PySem.Challenge.rw_pg0254_01 := by (k_fill; exact ⟨rfl, rfl⟩)
  clear hfill
  refine wpAny_call ?_
  k_dflt (refine' code_defG ?k1 ?k2 ?k3 ?k4 ?k5 ?kA ?kF ?kK ?k6 ?k7 ?k8 ?k9 ?kB ?_ ?c2 ?c3 ?c4 ?c5; (case kA => exact rfl); (case kF => exact rfl); (case kK => assumption); (case k1 => k_asm); (case k2 => k_asm); (case k3 => k_asm); (case k4 => exact News.nil); (case k5 => k_asm); (case k6 => k_is); (case k7 => k_is); (case k8 => ktr_room); (case k9 => exact BindsTo.of_eq rfl); (case c5 => decide); (case kB => exact locs rfl); (case c2 => exact rfl); (case c3 => exact rfl); (case c4 => exact rfl); k_whole; intro g' L' h' FG' F' N' B' X' T' kG'; (try dsimp only); (try k_lift B'); (try k_fold))
  k_steps
  all_goals (
    rename News h₀ L _ _ => kN9
    rename Fr h₀ L _ _ => kF9
    rename Fr g' L' _ _ => F9
    rename News g' L' _ _ => N9
    exact hret _ [(_, _)] _ _ kF9 (end_new hN F9 kG' kN9) (new_of N9 kG') ⟨_, _, _, _, _, _, rfl, rfl⟩)
end Mine
end PartCg
section PartChx
open PySem PySem.W PyProof.Rows
set_option Elab.async false
set_option maxRecDepth 100000
set_option maxHeartbeats 1000000
namespace Mine
open PySem.Flt in
set_option hygiene false in
local macro_rules | `(tactic| walk_at "call builtin:max") => `(tactic| (refine max3_f rfl (by assumption) (by assumption) ?_; intro h' tk' v' F' N'; rw [hmax]))
open PySem.Flt in
set_option hygiene false in
local macro_rules | `(tactic| walk_at "call builtin:min") => `(tactic| (refine min3_f rfl (by assumption) (by assumption) ?_; intro h' tk' v' F' N'; rw [hmin]))
theorem hsv_ne (w : World) (mean : ExcName → Option Value) (mg mb : Str → Option Value) (x y z M n : UInt64) (ta tb tc : Tok) (hmax : PySem.Flt.maxOfBits [x, y, z] = M) (hmin : PySem.Flt.minOfBits [x, y, z] = n)
    (hne : (Float64.cmp n M == some .eq) = false) (hr : ¬ Float64.isZero (Float64.sub M n) = true) (hs : ¬ Float64.isZero M = true) :
    MClaim w mean mg mb 49 [.float x ta, .float y tb, .float z tc] [] (fun v add => ∃ D p t1 t2 t3, v = .ref D ∧ add = [(D, tup3 (.float p t1) (.float (Float64.div (Float64.sub M n) M) t2) (.float M t3))]) := by
  unfold MClaim
  intro dp un gd cn cs a ccd cl outer A₀ base h₀ L m news s Q E hB hF hX hN hT hk hneed hd9 hu9 hret
  clear hneed
  have hfill : hd.heap_39 w.params = hd.heap_39 w.params ∧ PySem.Challenge.rw_pg0254_01 = PySem.Challenge.rw_pg0254_01 := by (k_fill; exact ⟨rfl, rfl⟩)
  clear hfill
  refine wpAny_call ?_
  k_dflt (refine' code_defG ?k1 ?k2 ?k3 ?k4 ?k5 ?kA ?kF ?kK ?k6 ?k7 ?k8 ?k9 ?kB ?_ ?c2 ?c3 ?c4 ?c5; (case kA => exact rfl); (case kF => exact rfl); (case kK => assumption); (case k1 => k_asm); (case k2 => k_asm); (case k3 => k_asm); (case k4 => exact News.nil); (case k5 => k_asm); (case k6 => k_is); (case k7 => k_is); (case k8 => ktr_room); (case k9 => exact BindsTo.of_eq rfl); (case c5 => decide); (case kB => exact locs rfl); (case c2 => exact rfl); (case c3 => exact rfl); (case c4 => exact rfl); k_whole; intro g' L' h' FG' F' N' B' X' T' kG'; (try dsimp only); (try k_lift B'); (try k_fold))
  k_steps
  all_goals (
    rename News h₀ L _ _ => kN9
    rename Fr h₀ L _ _ => kF9
    rename Fr g' L' _ _ => F9
    rename News g' L' _ _ => N9
    exact hret _ [(_, _)] _ _ kF9 (end_new hN F9 kG' kN9) (new_of N9 kG') ⟨_, _, _, _, _, rfl, rfl⟩)
theorem hsv_eq (w : World) (mean : ExcName → Option Value) (mg mb : Str → Option Value) (x y z M n : UInt64) (ta tb tc : Tok) (hmax : PySem.Flt.maxOfBits [x, y, z] = M) (hmin : PySem.Flt.minOfBits [x, y, z] = n)
    (hne : (Float64.cmp n M == some .eq) = true) :
    MClaim w mean mg mb 49 [.float x ta, .float y tb, .float z tc] [] (fun v add => ∃ D p t1 t2 t3, v = .ref D ∧ add = [(D, tup3 (.float p t1) (.float 0x0000000000000000 t2) (.float M t3))]) := by
  unfold MClaim
  intro dp un gd cn cs a ccd cl outer A₀ base h₀ L m news s Q E hB hF hX hN hT hk hneed hd9 hu9 hret
  clear hneed
  have hfill : hd.heap_39 w.params = hd.heap_39 w.params ∧ PySem.Challenge.rw_pg0254_01 = PySem.Challenge.rw_pg0254_01 := by (k_fill; exact ⟨rfl, rfl⟩)
  clear hfill
  refine wpAny_call ?_
  k_dflt (refine' code_defG ?k1 ?k2 ?k3 ?k4 ?k5 ?kA ?kF ?kK ?k6 ?k7 ?k8 ?k9 ?kB ?_ ?c2 ?c3 ?c4 ?c5; (case kA => exact rfl); (case kF => exact rfl); (case kK => assumption); (case k1 => k_asm); (case k2 => k_asm); (case k3 => k_asm); (case k4 => exact News.nil); (case k5 => k_asm); (case k6 => k_is); (case k7 => k_is); (case k8 => ktr_room); (case k9 => exact BindsTo.of_eq rfl); (case c5 => decide); (case kB => exact locs rfl); (case c2 => exact rfl); (case c3 => exact rfl); (case c4 => exact rfl); k_whole; intro g' L' h' FG' F' N' B' X' T' kG'; (try dsimp only); (try k_lift B'); (try k_fold))
  k_steps
  all_goals (
    rename News h₀ L _ _ => kN9
    rename Fr h₀ L _ _ => kF9
    rename Fr g' L' _ _ => F9
    rename News g' L' _ _ => N9
    exact hret _ [(_, _)] _ _ kF9 (end_new hN F9 kG' kN9) (new_of N9 kG') ⟨_, _, _, _, _, rfl, rfl⟩)
end Mine
end PartChx
section PartCm
open PySem PySem.W PyProof.Rows
set_option Elab.async false
set_option maxRecDepth 100000
set_option maxHeartbeats 1000000
namespace Mine
def qf (x : Int) : UInt64 := Float64.ofFrac (decide (x < 0) != decide ((4 : Int) < 0)) x.natAbs (Int.natAbs 4)
def qM (x y z : Int) : UInt64 := PySem.Flt.maxOfBits [qf x, qf y, qf z]
def qn (x y z : Int) : UInt64 := PySem.Flt.minOfBits [qf x, qf y, qf z]
def qe (x y z : Int) : Bool := Float64.cmp (qn x y z) (qM x y z) == some .eq
/-- light, share, level -/
def qL (x y z : Int) : UInt64 := Float64.div (Float64.add (qM x y z) (qn x y z)) 0x4000000000000000
def qS (x y z : Int) : UInt64 := if qe x y z then 0x0000000000000000 else Float64.div (Float64.sub (qM x y z) (qn x y z)) (qM x y z)
theorem fd : ((List.range 5).all fun x => (List.range 5).all fun y => (List.range 5).all fun z => qe x y z || (!Float64.isZero (Float64.sub (qM x y z) (qn x y z)) && !Float64.isZero (Float64.add (qM x y z) (qn x y z)) &&
   !Float64.isZero (Float64.sub (Float64.sub 0x4000000000000000 (qM x y z)) (qn x y z)) && !Float64.isZero (qM x y z))) = true := by decide +kernel
theorem hls_claim (w : World) (mean : ExcName → Option Value) (mg mb : Str → Option Value) (x y z : Nat) (hx : x < 5) (hy : y < 5) (hz : z < 5) (ta tb tc : Tok) :
    MClaim w mean mg mb 42 [.float (qf x) ta, .float (qf y) tb, .float (qf z) tc] [] (fun v add => ∃ D p q t1 t2 t3, v = .ref D ∧ add = [(D, tup3 (.float p t1) (.float (qL x y z) t2) (.float q t3))]) := by
  have h := all3 fd hx hy hz
  cases e : qe x y z with
  | true => exact hls_eq w mean mg mb _ _ _ (qM x y z) (qn x y z) ta tb tc rfl rfl e
  | false =>
    rw [e] at h
    simp only [Bool.false_or, Bool.and_eq_true, Bool.not_eq_true'] at h
    exact hls_ne w mean mg mb _ _ _ (qM x y z) (qn x y z) ta tb tc rfl rfl e (by simp [h.1.1.1]) (by simp [h.1.1.2]) (by simp [h.1.2])
theorem hsv_claim (w : World) (mean : ExcName → Option Value) (mg mb : Str → Option Value) (x y z : Nat) (hx : x < 5) (hy : y < 5) (hz : z < 5) (ta tb tc : Tok) :
    MClaim w mean mg mb 49 [.float (qf x) ta, .float (qf y) tb, .float (qf z) tc] [] (fun v add => ∃ D p t1 t2 t3, v = .ref D ∧ add = [(D, tup3 (.float p t1) (.float (qS x y z) t2) (.float (qM x y z) t3))]) := by
  have h := all3 fd hx hy hz
  unfold qS
  cases e : qe x y z with
  | true => exact hsv_eq w mean mg mb _ _ _ (qM x y z) (qn x y z) ta tb tc rfl rfl e
  | false =>
    rw [e] at h
    simp only [Bool.false_or, Bool.and_eq_true, Bool.not_eq_true'] at h
    exact hsv_ne w mean mg mb _ _ _ (qM x y z) (qn x y z) ta tb tc rfl rfl e (by simp [h.1.1.1]) (by simp [h.2])
def midM (x y z : Int) : Int := x + (y + (z + 0)) - Flt.toInt Float64.nearestOf (Float64.mul (Float64.ofInt 8) (qL x y z))
def midS (x y z : Int) : Int := Flt.toInt Float64.nearestOf (Float64.mul (Float64.mul (Float64.ofInt 4) (qS x y z)) (qM x y z))
theorem fe : ((List.range 5).all fun x => (List.range 5).all fun y => (List.range 5).all fun z => !Float64.isNaN (Float64.mul (Float64.ofInt 8) (qL x y z)) && !Float64.isInf (Float64.mul (Float64.ofInt 8) (qL x y z)) &&
   !Float64.isNaN (Float64.mul (Float64.mul (Float64.ofInt 4) (qS x y z)) (qM x y z)) && !Float64.isInf (Float64.mul (Float64.mul (Float64.ofInt 4) (qS x y z)) (qM x y z))) = true := by decide +kernel
/-- the middle one, the spread -/
theorem fm : ((List.range 5).all fun x => (List.range 5).all fun y => (List.range 5).all fun z => midM x y z == ((x + y + z - max x (max y z) - min x (min y z) : Nat) : Int) && midS x y z == ((max x (max y z) - min x (min y z) : Nat) : Int)) = true := by decide +kernel
theorem end_newl {h₀ g' h h' : Heap} {L L' : Addr} {m' : Str → Option Value} {news rest : List (Addr × Obj)} {l l0 : Addr} {o o0 : Obj} (N : News h₀ L h news) (h0 : (l0, o0) ∈ news) (F' : Fr g' L' h' m') (G : GSub h g' [l0]) (kN : News h₀ L h' ((l, o) :: rest)) (hr : (l0, o0) ∈ rest) : News h₀ L h' ([(l, o)] ++ news) := fun p hp => by
  rcases List.mem_append.mp hp with hp | hp
  · rw [List.mem_singleton.mp hp]
    exact kN _ (.head _)
  · refine ⟨?_, (N p hp).2⟩
    by_cases e : p.1 = l0
    · have e1 := (N p hp).1
      rw [e] at e1 ⊢
      have e2 := (N _ h0).1
      have e1' : h.get? l0 = some p.2 := e1
      have e2' : h.get? l0 = some o0 := e2
      rw [e2'] at e1'
      rw [← Option.some.inj e1']
      exact (kN _ (List.mem_cons_of_mem _ hr)).1
    · exact F'.keep _ _ (G _ _ (N p hp).1 (fun h => e (List.mem_singleton.mp h)))
theorem new_ofl {g' h h' : Heap} {L' : Addr} {rest : List (Addr × Obj)} {l l0 : Addr} {o : Obj} (N' : News g' L' h' ((l, o) :: rest)) (G : GSub h g' [l0]) (hne : l0 < l) : ∀ p ∈ [(l, o)], h.get? p.1 = none := fun p hp => by
  rw [List.mem_singleton.mp hp]
  cases e : h.get? l with
  | none => rfl
  | some o' =>
    have e1 := G _ _ e (fun h => Nat.ne_of_gt hne (List.mem_singleton.mp h))
    have e2 := (N' _ (.head _)).2.2
    rw [e1] at e2
    cases e2
theorem MClaim.use {w : World} {mean : ExcName → Option Value} {mg mb : Str → Option Value} {f : Addr} {vs : List Value} {Out : Value → List (Addr × Obj) → Prop} (c : MClaim w mean mg mb f vs [] Out)
    {dp un : Nat} {gd : Option (List Code)} {cn : Str} {cs : Scope} {a : Addr} {ccd : Value} {cl : List (Str × Addr)} {outer : List Env} {A₀ : Around} {base h₀ : Heap} {L : Addr} {m : Str → Option Value} {news : List (Addr × Obj)} {s : Shared} {Q E : Value → Shared → Prop}
    (h1 : Below A₀ base outer h₀) (h2 : Fr h₀ L s.heap m) (h3 : (hd.heap_39 w.params).In h₀) (h4 : News h₀ L s.heap news) (h5 : Top hd.view_39 LS mean mg mb h₀) (h6 : cs.kind = .function) (h8 : dp + 40 < recursionLimit) (h9 : un + 200 < cLine)
    (hq : ∀ v add h' tk', Fr h₀ L h' m → News h₀ L h' (add ++ news) → (∀ p ∈ add, s.heap.get? p.1 = none) → Out v add → Q v { s with heap := h', toks := tk' }) :
    wpAny (model PP w) (ktrTop dp un gd cn cs L a ccd cl outer) (call (.ref f) vs) Q E s := c _ _ _ _ _ _ _ _ _ _ _ _ _ _ _ _ _ _ h1 h2 h3 h4 h5 h6 (fun _ hp => nomatch hp) h8 h9 hq
set_option hygiene false in
local macro_rules | `(tactic| walk_at "call ref") => `(tactic| (k_here; k_dflt (refine (hls_claim w mean mg mb x y z hx hy hz _ _ _).use (by k_asm) (by k_asm) (by k_asm) (by k_asm) (by k_asm) rfl (by ktr_room) (by ktr_units) ?_); rintro v8 _ h8 tk8 F8 N8 A8 ⟨D8, p8, q8, ta8, tb8, tc8, rfl, rfl⟩; (simp only [List.cons_append, List.nil_append] at N8); (try dsimp only); (try k_fold)))
set_option hygiene false in
local macro_rules | `(tactic| walk_at "call ref") => `(tactic| (k_here; k_dflt (refine (hsv_claim w mean mg mb x y z hx hy hz _ _ _).use (by k_asm) (by k_asm) (by k_asm) (by k_asm) (by k_asm) rfl (by ktr_room) (by ktr_units) ?_); rintro v7 _ h7 tk7 F7 N7 A7 ⟨D7, p7, ta7, tb7, tc7, rfl, rfl⟩; (simp only [List.cons_append, List.nil_append] at N7); (try dsimp only); (try k_fold)))
def MClaim2 (w : World) (mean : ExcName → Option Value) (mg mb : Str → Option Value) (f : Addr) (vs : List Value) (need : List (Addr × Obj)) (Out : Value → List (Addr × Obj) → Prop) : Prop :=
  ∀ (dp un : Nat) (gd : Option (List Code)) (cn : Str) (cs : Scope) (a : Addr) (ccd : Value) (cl : List (Str × Addr)) (outer : List Env) (A₀ : Around) (base h₀ : Heap) (L : Addr) (m : Str → Option Value) (news : List (Addr × Obj)) (s : Shared) (Q E : Value → Shared → Prop),
    Below A₀ base outer h₀ → Fr h₀ L s.heap m → (hd.heap_39 w.params).In h₀ → News h₀ L s.heap news → Top hd.view_39 LS mean mg mb h₀ → cs.kind = .function → (∀ p ∈ need, p ∈ news) → dp + 60 < recursionLimit → un + 300 < cLine →
    (∀ v add h' tk', Fr h₀ L h' m → News h₀ L h' (add ++ news) → (∀ p ∈ add, s.heap.get? p.1 = none) → Out v add → Q v { s with heap := h', toks := tk' }) →
    wpAny (model PP w) (ktrTop dp un gd cn cs L a ccd cl outer) (call (.ref f) vs) Q E s
theorem mid_claim (w : World) (mean : ExcName → Option Value) (mg mb : Str → Option Value) (x y z : Nat) (hx : x < 5) (hy : y < 5) (hz : z < 5) (l : Addr) (k : Nat) (t1 t2 t3 : Tok) :
    MClaim2 w mean mg mb 127 [.ref l] [(l, PySem.W.listOf #[.int x t1, .int y t2, .int z t3] k)] (fun v add => ∃ D t1 t2, v = .ref D ∧ add = [(D, { cls := .type "tuple", data := .seq #[.int (midM x y z) t1, .int (midS x y z) t2] })]) := by
  unfold MClaim2
  intro dp un gd cn cs a ccd cl outer A₀ base h₀ L m news s Q E hB hF hX hN hT hk hneed hd9 hu9 hret
  have hN1 : News h₀ L s.heap [(l, PySem.W.listOf #[.int x t1, .int y t2, .int z t3] k)] := fun p hp => hN p (hneed p hp)
  have hmem := hneed _ (List.mem_singleton.mpr rfl)
  clear hneed
  have hq := all3 fe hx hy hz
  simp only [Bool.and_eq_true, Bool.not_eq_true'] at hq
  obtain ⟨⟨⟨q1, q2⟩, q3⟩, q4⟩ := hq
  have hfill : hd.heap_39 w.params = hd.heap_39 w.params ∧ PySem.Challenge.rw_pg0254_01 = PySem.Challenge.rw_pg0254_01 := by (k_fill; exact ⟨rfl, rfl⟩)
  clear hfill
  refine wpAny_call ?_
  k_dflt (refine' code_defG ?k1 ?k2 ?k3 ?k4 ?k5 ?kA ?kF ?kK ?k6 ?k7 ?k8 ?k9 ?kB ?_ ?c2 ?c3 ?c4 ?c5; (case kA => exact rfl); (case kF => exact rfl); (case kK => assumption); (case k1 => k_asm); (case k2 => k_asm); (case k3 => k_asm); (case k4 => exact hN1); (case k5 => k_asm); (case k6 => k_is); (case k7 => k_is); (case k8 => ktr_room); (case k9 => exact BindsTo.of_eq rfl); (case c5 => decide); (case kB => exact locs rfl); (case c2 => exact rfl); (case c3 => exact rfl); (case c4 => exact rfl); k_whole; intro g' L' h' FG' F' N' B' X' T' kG'; (try dsimp only); (try k_lift B'); (try k_fold))
  k_steps
  · rename News h₀ L _ _ => kN9
    rename Fr h₀ L _ _ => kF9
    rename Fr g' L' _ _ => F9
    rename News g' L' _ _ => N9
    rename _ < _ ∧ _ < _ ∧ _ < _ ∧ l < _ => l9
    exact hret _ [(_, _)] _ _ kF9 (end_newl hN hmem F9 kG' kN9 (.tail _ (.tail _ (.tail _ (.head _))))) (new_ofl N9 kG' l9.2.2.2) ⟨_, _, _, rfl, rfl⟩
end Mine
end PartCm
section PartKp
open PySem PySem.W PyProof.Rows
set_option Elab.async false
set_option maxRecDepth 100000
set_option maxHeartbeats 1000000
namespace Mine
open PyProof.Rows.LCg
abbrev Keep (X : Addr) (h h' : Heap) : Prop := ∀ b o, b ≠ X → h.get? b = some o → h'.get? b = some o
/-- lists and tuples other than D stay, and X stays -/
def Stab (D X : Addr) (h h' : Heap) : Prop := (∀ b o its n, o.data = .seq its n → b ≠ D → b ≠ X → h.get? b = some o → h'.get? b = some o) ∧ ∀ o, h.get? X = some o → h'.get? X = some o
def Cs (ownc : Addr → List (Str × Addr)) (C : Addr) (h : Heap) : Prop := (∃ m, h.Ns C m) ∧ ∀ p ∈ ownc (C + 1), ∃ v, h.IsCell p.2 v
def Own (ownc : Addr → List (Str × Addr)) (C b : Addr) : Prop := b = C ∨ ∃ p ∈ ownc (C + 1), p.2 = b
def KeepOff (ownc : Addr → List (Str × Addr)) (C X : Addr) (h h' : Heap) : Prop := ∀ b o, ¬ Own ownc C b → b ≠ X → h.get? b = some o → h'.get? b = some o
theorem Cs.own {ownc : Addr → List (Str × Addr)} {C b : Addr} {h : Heap} {o : Obj} {its : Array Value} {n : Nat} (x : Cs ownc C h) (hd : o.data = .seq its n) (e : h.get? b = some o) : ¬ Own ownc C b := by
  rintro (rfl | ⟨p, hp, rfl⟩)
  · obtain ⟨m, o', es, ep, e', hd', _⟩ := x.1
    rw [e] at e'
    cases e'
    rw [hd] at hd'
    cases hd'
  · obtain ⟨v, o', e', hd'⟩ := x.2 p hp
    rw [e] at e'
    cases e'
    rw [hd] at hd'
    cases hd'
theorem newEnv_any {M : Model} {A : Around} {E : Value → Shared → Prop} {s : Shared} {scope : Scope} {globals : Addr} {cl : List (Str × Addr)} {qual : Str} {outer : Env} {Q : Env → Shared → Prop}
    (hQ : Q { scope := scope, locals := s.heap.objs.size, globals := globals, cells := cellsFrom (s.heap.objs.size + 1) scope.names cl, qual := qual, func := none, code := outer.code, frame := outer.frame, builtins := outer.builtins }
      { s with heap := pushCells (s.heap.push { cls := .type "dict", data := .dict #[] }) scope.names }) :
    wpAny M A (newFunctionEnv scope globals cl [] qual none .none (some outer)) Q E s := by
  simp only [newFunctionEnv, Option.isSome_some, if_true]
  refine wpAny_bind (wpAny_alloc ?_)
  refine wpAny_bind (wpAny_layCells _ (fun name kind cells => by cases hkc : kind == NameKind.cell <;> simp [hkc]) _ _ _ _ ?_)
  rw [show ({ s with heap := s.heap.push { cls := .type "dict", data := .dict #[] } } : Shared).heap.objs.size = s.heap.objs.size + 1 from Heap.size_push ..]
  refine wpAny_bind ?_
  rw [List.forIn_nil]
  exact wpAny_pure (wpAny_pure hQ)
section
variable {prog : Program} {w : World} {A : Around} {E : Value → Shared → Prop} {s : Shared} {env : Env}
abbrev testsOf (ifs : List PySem.Expr) (env : Env) : Sem Bool := forIn ifs true fun c r => if r = true then do let ok ← isTrue c env (eval c env); pure (ForInStep.yield ok) else pure (ForInStep.yield r)
theorem loop_any {elt tgt iter : PySem.Expr} {ifs : List PySem.Expr} {scope : Scope} {pos : Pos} {it acc : Value} {env : Env} {R : Result → Shared → Prop} (I : Nat → Shared → Prop)
    (turn : ∀ n s, I n s → wpAny (model prog w) A (pyNext it) (fun r s₁ => match r with
      | none => R (.ok .next) s₁
      | some v => wpAny (model prog w) A (letOwnedTupleGo tgt it v) (fun _ s₁' => wpAny (model prog w) A (assign tgt env v) (fun _ s₂ =>
          wpAny (model prog w) A (testsOf ifs env) (fun ok s₃ => if ok = true then
            wpAny (model prog w) A (eval elt env) (fun x s₄ => wpAny (model prog w) A (call (.builtin "list.append") [acc, x]) (fun _ s₅ => ∃ m, m < n ∧ I m s₅) (fun _ _ => False) s₄) (fun _ _ => False) s₃
            else ∃ m, m < n ∧ I m s₃) (fun _ _ => False) s₂)
          (fun _ _ => False) s₁') (fun _ _ => False) s₁) (fun _ _ => False) s)
    (n : Nat) (h : I n s) : codeAny (model prog w) A (.compLoop (.ListComp elt [⟨tgt, iter, ifs, 0⟩] scope pos) 0 it acc env) R s := by
  refine codeAny_loop rfl I (fun n s hI => ?_) n h
  show wpAny _ A ((compTurn (.ListComp elt [⟨tgt, iter, ifs, 0⟩] scope pos) 0 it acc env).onRaise (fun x => do noteFrame x env; theTreesLotGoes x)) _ _ s
  refine wpAny_noted ?_
  rw [compTurn_list]
  refine wpAny_bind (wpAny_standAt (wpAny_bind (wpAny_mono (turn n s hI) (fun r s₁ h₁ => ?_) fun _ _ h' => h'.elim)))
  cases r with
  | none => exact wpAny_pure h₁
  | some v =>
    refine wpAny_bind (wpAny_mono h₁ (fun _ s₁' h₁' => ?_) fun _ _ h' => h'.elim)
    refine wpAny_bind (wpAny_mono h₁' (fun _ s₂ h₂ => wpAny_bind (wpAny_mono h₂ (fun ok s₃ h₃ => ?_) fun _ _ h' => h'.elim)) fun _ _ h' => h'.elim)
    cases ok with
    | false => exact wpAny_pure ⟨rfl, by simpa using h₃⟩
    | true =>
      simp only [if_true] at h₃
      exact wpAny_bind (wpAny_bind (wpAny_mono h₃ (fun x s₄ h₄ => wpAny_bind (wpAny_mono h₄ (fun _ s₅ h₅ => wpAny_pure (wpAny_pure ⟨rfl, h₅⟩)) fun _ _ h' => h'.elim)) fun _ _ h' => h'.elim))

/-- what a turn hands on -/
def TurnEnd (s : Shared) (X : Addr) (ownc : Addr → List (Str × Addr)) (J : Addr → Nat → List Value → Heap → Prop) (C D : Addr) (i : Nat) (ys : List Value) (h : Heap) (b : Bool) (y : Value) (s' : Shared) : Prop :=
  ∃ h' tk', s' = { s with heap := h', toks := tk' } ∧ KeepOff ownc C X h h' ∧ Cs ownc C h' ∧ (if b = true then J D (i + 1) (ys ++ [y]) h' else J D (i + 1) ys h')

theorem comp_block {elt tgt iter : PySem.Expr} {ifs : List PySem.Expr} {scope : Scope} {pos : Pos} {cl : List (Str × Addr)} {ownc : Addr → List (Str × Addr)} {n : Nat} {P : Nat → Value → Prop} {St : Nat → Heap → Prop} {I X : Addr} {fp : List Addr} {s₂ : Shared} {hb : Heap}
    (J : Addr → Nat → List Value → Heap → Prop) {RR : Value → Addr → Result → Shared → Prop}
    (W : Walks prog w A I fp [I] n P St) (hsz : n ≤ sizeLine) (hSI : ∀ i h, St i h → ∃ o vs, h.get? I = some o ∧ o.data = .fields vs)
    (hI : I < s₂.heap.objs.size) (hbI : hb.get? I = none) (hXI : X ≠ I) (hXlt : X < s₂.heap.objs.size) (hXfp : ∀ b ∈ fp, b ≠ X) (hfp : ∀ b ∈ fp, b < s₂.heap.objs.size) (hst : St 0 s₂.heap) (hk₂ : Keep X hb s₂.heap)
    (hlay : ∀ N, cellsFrom N scope.names [] = ownc N) (hkind : scope.kind = .function)
    (hJ0 : ∀ D h, Keep X s₂.heap h → (∀ o, s₂.heap.get? X = some o → h.get? X = some o) → J D 0 [] h) (hmono : ∀ D i ys h h', J D i ys h → Stab D X h h' → J D i ys h')
    (hgo : ∀ v (s : Shared) (Q : Unit → Shared → Prop), (∃ o vs, s.heap.get? I = some o ∧ o.data = .fields vs ∧ (o.cls = .type "list_iterator" ∨ o.cls = .type "range_iterator")) → Q () s → wpAny (model prog w) A (letOwnedTupleGo tgt (.ref I) v) Q (fun _ _ => False) s)
    (hcls : ∀ i h, St i h → ∃ o vs, h.get? I = some o ∧ o.data = .fields vs ∧ (o.cls = .type "list_iterator" ∨ o.cls = .type "range_iterator"))
    (hturn : ∀ i v C D ys h tk, i < n → P i v → Keep X hb h → D < C → h.get? D = some (lst ys) → hb.get? D = none → D ≠ X → (∀ b, Own ownc C b → hb.get? b = none ∧ b ≠ X) → Cs ownc C h → J D i ys h →
      wpAny (model prog w) A (assign tgt (compEnvC scope (cellsFrom (C + 1) scope.names cl) C env) v) (fun _ s₃ => wpAny (model prog w) A (testsOf ifs (compEnvC scope (cellsFrom (C + 1) scope.names cl) C env)) (fun ok s₄ => if ok = true then
        wpAny (model prog w) A (eval elt (compEnvC scope (cellsFrom (C + 1) scope.names cl) C env)) (TurnEnd s₂ X ownc J C D i ys h true) (fun _ _ => False) s₄ else TurnEnd s₂ X ownc J C D i ys h false .none s₄) (fun _ _ => False) s₃) (fun _ _ => False) { s₂ with heap := h, toks := tk })
    (hRR : ∀ D C h tk ys, Keep X hb h → h.get? D = some (lst ys) → hb.get? D = none → D ≠ X → D < C → (∀ b, Own ownc C b → hb.get? b = none ∧ b ≠ X) → Cs ownc C h → J D n ys h → RR (.ref D) C (.ok .next) { s₂ with heap := h, toks := tk }) :
    wpAny (model prog w) A (newList []) (fun acc s₃ => wpAny (model prog w) A (newFunctionEnv scope env.globals cl [] env.qual none .none (some env)) (fun cenv s₄ =>
      codeAny (model prog w) A (.compStart (.ListComp elt [⟨tgt, iter, ifs, 0⟩] scope pos) 0 (.ref I) acc { cenv with scope := relabel scope env }) (RR acc cenv.locals) s₄) E s₃) E s₂ := by
  refine wpAny_newObj_type (newEnv_any ?_)
  dsimp only
  generalize hH2 : s₂.heap.push { cls := .type "list", dict := none, data := .seq ([] : List Value).toArray } = H2
  have hC : H2.objs.size = s₂.heap.objs.size + 1 := by rw [← hH2, Heap.size_push]
  have hXD : X ≠ s₂.heap.objs.size := Nat.ne_of_lt hXlt
  have none₂ : ∀ a, s₂.heap.objs.size ≤ a → hb.get? a = none := fun a ha => by
    cases e : hb.get? a with
    | none => rfl
    | some o' => exact absurd (Heap.lt_size (hk₂ _ _ (fun q => absurd hXlt (Nat.not_lt.mpr (q ▸ ha))) e)) (Nat.not_lt.mpr ha)
  generalize hh₁ : pushCells (H2.push { cls := .type "dict", data := .dict #[] }) scope.names = h₁
  have k₁ : ∀ b o, s₂.heap.get? b = some o → h₁.get? b = some o := fun b o e => hh₁ ▸ pushCells_keeps _ _ b o (Heap.get?_push_of_some _ (hH2 ▸ Heap.get?_push_of_some _ e))
  have hD₁ : h₁.get? s₂.heap.objs.size = some (lst []) := hh₁ ▸ pushCells_keeps _ _ _ _ (Heap.get?_push_of_some _ (hH2 ▸ Heap.get?_push_size _ rfl))
  have hok := cellsFrom_ok scope.names (H2.push { cls := .type "dict", data := .dict #[] }) (H2.objs.size + 1) [] ⟨fun _ _ hm => (nomatch hm), List.Pairwise.nil⟩ (by rw [Heap.size_push]; exact Nat.le_refl _)
  rw [Heap.size_push, hlay, hh₁] at hok
  have hCs₁ : Cs ownc H2.objs.size h₁ := ⟨⟨_, (Heap.Ns.new H2 (.type "dict")).keeps (hh₁ ▸ pushCells_keeps _ _)⟩, fun p hp => ⟨none, (hok.empty p.1 p.2 hp).1⟩⟩
  have hownge : ∀ b, Own ownc H2.objs.size b → H2.objs.size ≤ b := by
    rintro b (rfl | ⟨p, hp, rfl⟩)
    · exact Nat.le_refl _
    · exact Nat.le_of_lt (Nat.lt_of_succ_le (hok.empty p.1 p.2 hp).2)
  have notOwn : ∀ b, b ≤ s₂.heap.objs.size → ¬ Own ownc H2.objs.size b := fun b hb' ho => by
    have := hownge b ho
    omega
  have hno : ∀ b, Own ownc H2.objs.size b → hb.get? b = none ∧ b ≠ X := fun b ho => ⟨none₂ b (by have := hownge b ho; omega), fun q => notOwn X (Nat.le_of_lt hXlt) (q ▸ ho)⟩
  have loop : ∀ s₃ : Shared, s₃ = { s₂ with heap := h₁ } →
      codeAny (model prog w) A (.compLoop (.ListComp elt [⟨tgt, iter, ifs, 0⟩] scope pos) 0 (.ref I) (.ref s₂.heap.objs.size) (compEnvC scope (cellsFrom (H2.objs.size + 1) scope.names cl) H2.objs.size env))
        (RR (.ref s₂.heap.objs.size) H2.objs.size) s₃ := by
    rintro s₃ rfl
    refine loop_any
      (fun k s' => ∃ h' tk i ys, s' = { s₂ with heap := h', toks := tk } ∧ i ≤ n ∧ k = n + 1 - i ∧ ys.length ≤ i ∧ St i h' ∧ Keep X hb h' ∧ h'.get? s₂.heap.objs.size = some (lst ys) ∧ Cs ownc H2.objs.size h' ∧ J s₂.heap.objs.size i ys h') ?_ (n + 1)
      ⟨h₁, _, 0, [], rfl, Nat.zero_le _, rfl, Nat.le_refl _, W.frame _ _ _ hst fun b _ o e => k₁ b o e, fun b o hx e => k₁ b o (hk₂ b o hx e), hD₁, hCs₁, hJ0 _ _ (fun b o _ e => k₁ b o e) fun o e => k₁ _ o e⟩
    rintro k s' ⟨h', tk, i, ys, rfl, hi, rfl, hyl, hst', hkb, hD', hCs', hJ'⟩
    have hne : s₂.heap.objs.size ≠ I := Nat.ne_of_gt hI
    have iter_stab : ∀ h'' : Heap, (∀ b o, b ∉ [I] → h'.get? b = some o → h''.get? b = some o) → Stab s₂.heap.objs.size X h' h'' := fun h'' hk => ⟨fun b o its nn hd _ _ e => hk b o (fun hm => by
      obtain ⟨o', vs, e', hd'⟩ := hSI _ _ hst'
      rw [List.mem_singleton.mp hm, e'] at e
      cases e
      rw [hd'] at hd
      cases hd) e, fun o e => hk X o (fun hm => hXI (List.mem_singleton.mp hm)) e⟩
    have iter_keep : ∀ h'' : Heap, (∀ b o, b ∉ [I] → h'.get? b = some o → h''.get? b = some o) → Keep X hb h'' := fun h'' hk b o hx e => hk b o (fun hm => by
      rw [List.mem_singleton.mp hm, hbI] at e
      cases e) (hkb b o hx e)
    have iter_D : ∀ h'' : Heap, (∀ b o, b ∉ [I] → h'.get? b = some o → h''.get? b = some o) → h''.get? s₂.heap.objs.size = some (lst ys) := fun h'' hk => hk _ _ (by simpa using hne) hD'
    have iter_Cs : ∀ h'' : Heap, (∀ b o, b ∉ [I] → h'.get? b = some o → h''.get? b = some o) → Cs ownc H2.objs.size h'' := fun h'' hk => by
      have hIn : ¬ Own ownc H2.objs.size I := notOwn I (Nat.le_of_lt hI)
      refine ⟨?_, fun p hp => ?_⟩
      · obtain ⟨m, hm⟩ := hCs'.1
        exact ⟨m, hm.at' fun o e => hk _ o (fun hm => hIn (List.mem_singleton.mp hm ▸ .inl rfl)) e⟩
      · obtain ⟨v, o, e, hd⟩ := hCs'.2 p hp
        exact ⟨v, o, hk _ o (fun hm => hIn (List.mem_singleton.mp hm ▸ .inr ⟨p, hp, rfl⟩)) e, hd⟩
    by_cases hlt : i < n
    · refine W.item i _ _ _ hlt hst' fun v h₂ tk₂ hPv hst₂ hk₂' => ?_
      refine hgo v _ _ (hcls _ _ hst₂) ?_
      refine wpAny_mono (hturn i v _ _ ys h₂ tk₂ hlt hPv (iter_keep _ hk₂') (by rw [hC]; exact Nat.lt_succ_self _) (iter_D _ hk₂') (none₂ _ (Nat.le_refl _)) (Ne.symm hXD) hno (iter_Cs _ hk₂') (hmono _ _ _ _ _ hJ' (iter_stab _ hk₂'))) (fun _ s₃ h₃ => ?_) fun _ _ x => x
      refine wpAny_mono h₃ (fun ok s₄ h₄ => ?_) fun _ _ x => x
      have fin : ∀ (b : Bool) (y : Value) (s₅ : Shared), TurnEnd s₂ X ownc J H2.objs.size s₂.heap.objs.size i ys h₂ b y s₅ →
          ∃ h₅ tk₅, s₅ = { s₂ with heap := h₅, toks := tk₅ } ∧ St (i + 1) h₅ ∧ Keep X hb h₅ ∧ h₅.get? s₂.heap.objs.size = some (lst ys) ∧ Cs ownc H2.objs.size h₅ ∧ (if b = true then J s₂.heap.objs.size (i + 1) (ys ++ [y]) h₅ else J s₂.heap.objs.size (i + 1) ys h₅) := by
        rintro b y s₅ ⟨h₅, tk₅, rfl, k₅, c₅, j₅⟩
        refine ⟨h₅, tk₅, rfl, W.frame _ _ _ hst₂ fun b hb' o e => k₅ b o (notOwn b (Nat.le_of_lt (hfp b hb'))) (hXfp b hb') e, fun b o hx e => ?_, k₅ _ _ (notOwn _ (Nat.le_refl _)) (Ne.symm hXD) (iter_D _ hk₂'), c₅, j₅⟩
        exact k₅ b o (notOwn b (Nat.le_of_lt (Heap.lt_size (hk₂ _ _ hx e)))) hx (iter_keep _ hk₂' b o hx e)
      cases ok with
      | false =>
        simp only [Bool.false_eq_true, if_false] at h₄ ⊢
        obtain ⟨h₅, tk₅, rfl, st₅, kb₅, d₅, c₅, j₅⟩ := fin _ _ _ h₄
        exact ⟨n + 1 - (i + 1), by omega, h₅, tk₅, i + 1, ys, rfl, hlt, rfl, Nat.le_succ_of_le hyl, st₅, kb₅, d₅, c₅, by simpa using j₅⟩
      | true =>
        simp only [if_true] at h₄ ⊢
        refine wpAny_mono h₄ (fun y s₅ hs₅ => ?_) fun _ _ x => x
        obtain ⟨h₅, tk₅, rfl, st₅, kb₅, d₅, c₅, j₅⟩ := fin _ _ _ hs₅
        simp only [if_true] at j₅
        refine append_at (hsz := by show ys.toArray.size ≤ sizeLine; rw [List.size_toArray]; exact Nat.le_trans (Nat.le_trans hyl hi) hsz) d₅ fun h₆ hs₆ hD₆ => ?_
        have off : ∀ b o, b ≠ s₂.heap.objs.size → h₅.get? b = some o → h₆.get? b = some o := fun b o hb' e => hs₆.extBut b o hb' e
        have hoD : ¬ Own ownc H2.objs.size s₂.heap.objs.size := notOwn _ (Nat.le_refl _)
        refine ⟨n + 1 - (i + 1), by omega, h₆, tk₅, i + 1, ys ++ [y], rfl, hlt, rfl, by rw [List.length_append, List.length_singleton]; omega, W.frame _ _ _ st₅ fun b hb' o e => off b o (Nat.ne_of_lt (hfp b hb')) e,
          fun b o hx e => off b o (fun q => by rw [q, none₂ _ (Nat.le_refl _)] at e; cases e) (kb₅ b o hx e), hD₆.trans (congrArg some (lst_snoc ys y)), ?_, hmono _ _ _ _ _ j₅ ⟨fun b o its nn _ hb' _ e => off b o hb' e, fun o e => off X o hXD e⟩⟩
        refine ⟨?_, fun p hp => ?_⟩
        · obtain ⟨m, hm⟩ := c₅.1
          exact ⟨m, hm.at' fun o e => off _ o (fun q => hoD (.inl q.symm)) e⟩
        · obtain ⟨v', o, e, hd⟩ := c₅.2 p hp
          exact ⟨v', o, off _ o (fun q => hoD (.inr ⟨p, hp, q⟩)) e, hd⟩
    · obtain rfl : i = n := Nat.le_antisymm hi (Nat.not_lt.mp hlt)
      exact W.done _ _ _ hst' fun h₂ tk₂ hk₂' => hRR _ _ h₂ tk₂ ys (iter_keep _ hk₂') (iter_D _ hk₂') (none₂ _ (Nat.le_refl _)) (Ne.symm hXD) (by rw [hC]; exact Nat.lt_succ_self _) hno (iter_Cs _ hk₂') (hmono _ _ _ _ _ hJ' (iter_stab _ hk₂'))
  exact codeAny_compStart_list (loop _ rfl) (W.self 0 _ _ _ (W.frame _ _ _ hst fun b _ o e => k₁ b o e) (loop _ rfl))
/-- what a comprehension goes over: a list, or range(n) -/
def Src (X : Addr) (h₁ : Heap) (xv : Value) (n : Nat) (P : Nat → Value → Prop) : Prop :=
  (∃ ax its, xv = .ref ax ∧ ax ≠ X ∧ h₁.IsList ax its ∧ its.size = n ∧ ∀ i v, its[i]? = some v → P i v) ∨
  (∃ r t u v, xv = .ref r ∧ IsRange h₁ r 0 (n : Int) 1 t u v ∧ Builtin.Range.small 0 (n : Int) 1 = true ∧ Builtin.Range.rangeSize 0 (n : Int) 1 = (n : Int) ∧ ∀ i t, i < n → P i (.int (i : Int) t))
theorem go_any {I : Addr} {tgt : PySem.Expr} (v : Value) (s : Shared) (Q : Unit → Shared → Prop) (h : ∃ o vs, s.heap.get? I = some o ∧ o.data = .fields vs ∧ (o.cls = .type "list_iterator" ∨ o.cls = .type "range_iterator")) (hq : Q () s) :
    wpAny (model prog w) A (letOwnedTupleGo tgt (.ref I) v) Q (fun _ _ => False) s := by
  obtain ⟨o, vs, ho, hd, hc⟩ := h
  unfold letOwnedTupleGo
  split
  · cases v with
    | ref a =>
      refine wpAny_bind (wpAny_load ho ?_)
      rcases hc with hc | hc
      · simp only [hc, hd]
        exact wpAny_pure hq
      · simp only [hc, hd]
        exact wpAny_pure hq
    | _ => exact wpAny_pure hq
  · cases v with
    | ref a =>
      refine wpAny_bind (wpAny_load ho ?_)
      rcases hc with hc | hc
      · simp only [hc, hd]
        exact wpAny_pure hq
      · simp only [hc, hd]
        exact wpAny_pure hq
    | _ => exact wpAny_pure hq
  · exact wpAny_pure hq
/-- a comprehension's block: K is what comes of it -/
theorem comp_core {elt tgt iter : PySem.Expr} {ifs : List PySem.Expr} {scope : Scope} {pos : Pos} {cl : List (Str × Addr)} {ownc : Addr → List (Str × Addr)} {n : Nat} {X : Addr} {P : Nat → Value → Prop} {RR : Value → Addr → Result → Shared → Prop}
    (J : Addr → Nat → List Value → Heap → Prop) (hh : A.handled = none) (hsz : n ≤ sizeLine) (hkind : scope.kind = .function)
    (hlay : ∀ N, cellsFrom N scope.names [] = ownc N)
    (h : wpAny (model prog w) A (eval iter env) (fun xv s₁ => ∃ h₁ tk₁, s₁ = { s with heap := h₁, toks := tk₁ } ∧ Keep X s.heap h₁ ∧ X < h₁.objs.size ∧ Src X h₁ xv n P ∧
      ∀ D h, Keep X h₁ h → (∀ o, h₁.get? X = some o → h.get? X = some o) → J D 0 [] h) E s)
    (hmono : ∀ D i ys h h', J D i ys h → Stab D X h h' → J D i ys h')
    (hturn : ∀ i v C D ys h tk, i < n → P i v → Keep X s.heap h → D < C → h.get? D = some (lst ys) → s.heap.get? D = none → D ≠ X → (∀ b, Own ownc C b → s.heap.get? b = none ∧ b ≠ X) → Cs ownc C h → J D i ys h →
      wpAny (model prog w) A (assign tgt (compEnvC scope (cellsFrom (C + 1) scope.names cl) C env) v) (fun _ s₃ => wpAny (model prog w) A (testsOf ifs (compEnvC scope (cellsFrom (C + 1) scope.names cl) C env)) (fun ok s₄ => if ok = true then
        wpAny (model prog w) A (eval elt (compEnvC scope (cellsFrom (C + 1) scope.names cl) C env)) (TurnEnd s X ownc J C D i ys h true) (fun _ _ => False) s₄ else TurnEnd s X ownc J C D i ys h false .none s₄) (fun _ _ => False) s₃) (fun _ _ => False) { s with heap := h, toks := tk })
    (hRR : ∀ D C h tk ys, Keep X s.heap h → h.get? D = some (lst ys) → s.heap.get? D = none → D ≠ X → D < C → (∀ b, Own ownc C b → s.heap.get? b = none ∧ b ≠ X) → Cs ownc C h → J D n ys h → RR (.ref D) C (.ok .next) { s with heap := h, toks := tk }) :
    wpAny (model prog w) A (eval iter env) (fun x s₁ => wpAny (model prog w) A (pyIter x) (fun it s₂ => wpAny (model prog w) A (newList []) (fun acc s₃ => wpAny (model prog w) A (newFunctionEnv scope env.globals cl [] env.qual none .none (some env)) (fun cenv s₄ =>
      codeAny (model prog w) A (.compStart (.ListComp elt [⟨tgt, iter, ifs, 0⟩] scope pos) 0 it acc { cenv with scope := relabel scope env }) (RR acc cenv.locals) s₄) E s₃) E s₂) E s₁) E s := by
  refine wpAny_mono h (fun xv s₁ h₁ => ?_) fun _ _ e => e
  obtain ⟨h₁, tk₁, rfl, k₁, hXlt, src, hJ0⟩ := h₁
  have fresh : ∀ a, h₁.objs.size ≤ a → s.heap.get? a = none := fun a ha => by
    cases e : s.heap.get? a with
    | none => rfl
    | some o' => exact absurd (Heap.lt_size (k₁ _ _ (fun q => absurd hXlt (Nat.not_lt.mpr (q ▸ ha))) e)) (Nat.not_lt.mpr ha)
  rcases src with ⟨ax, its, rfl, hxX, hl, rfl, hP⟩ | ⟨r, t, u, v, rfl, hr, hsm, hn, hP⟩
  · have hlt : ax < h₁.objs.size := by obtain ⟨_, e, _⟩ := hl; exact Heap.lt_size e
    refine wpAny_pyIter_list hl ?_
    have W := Walks.list (prog := prog) (w := w) (A := A) hh h₁.objs.size ax (Nat.ne_of_lt hlt) its
    refine comp_block (X := X) (s₂ := { s with heap := h₁.push { cls := .type "list_iterator", data := .fields #[.ref ax, .int 0 0] }, toks := tk₁ }) (P := P) (hb := s.heap) J
      { sub := W.sub, frame := W.frame, done := W.done, self := W.self, item := fun i s Q E hi st hQ => W.item i s Q E hi st fun v h' tk hPv => hQ v h' tk (hP i v hPv) }
      hsz (fun i h st => ?_) (by show _ < (h₁.push _).objs.size; rw [Heap.size_push]; exact Nat.lt_succ_self _) (fresh _ (Nat.le_refl _)) (Nat.ne_of_lt hXlt) (by show _ < (h₁.push _).objs.size; rw [Heap.size_push]; exact Nat.lt_succ_of_lt hXlt) (fun b hb => ?_) (fun b hb => ?_) ⟨⟨_, Heap.get?_push_size _ rfl, rfl, rfl⟩, hl.push _⟩ (fun b o hx e => Heap.get?_push_of_some _ (k₁ b o hx e)) hlay hkind (fun D h k hx => hJ0 D h (fun b o hb e => k b o hb (Heap.get?_push_of_some _ e)) fun o e => hx o (Heap.get?_push_of_some _ e)) hmono (fun v s Q h hq => go_any v s Q h hq) (fun i h st => ?_) hturn hRR
    · obtain ⟨o, e, _, hd⟩ := st.1
      exact ⟨o, _, e, hd⟩
    · rcases List.mem_cons.mp hb with rfl | hb
      · exact Nat.ne_of_gt hXlt
      · rw [List.mem_singleton.mp hb]; exact hxX
    · show b < (h₁.push _).objs.size
      rw [Heap.size_push]
      rcases List.mem_cons.mp hb with rfl | hb
      · exact Nat.lt_succ_self _
      · rw [List.mem_singleton.mp hb]; exact Nat.lt_succ_of_lt hlt
    · obtain ⟨o, e, hcl, hd⟩ := st.1
      exact ⟨o, _, e, hd, .inl hcl⟩
  · refine wpAny_pyIter_range hr hsm ?_
    have W := range_walks (prog := prog) (w := w) (A := A) (I := h₁.objs.size) hh 0 n
    refine comp_block (X := X) (s₂ := { s with heap := h₁.push { cls := .type "range_iterator", data := .fields #[rawInt 0, rawInt (Builtin.Range.rangeSize 0 (n : Int) 1), rawInt 1] }, toks := tk₁ }) (P := P) (hb := s.heap) J
      { sub := W.sub, frame := W.frame, done := W.done, self := W.self, item := fun i s Q E hi st hQ => W.item i s Q E hi st fun v h' tk hPv => hQ v h' tk (by obtain ⟨t, rfl⟩ := hPv; rw [Int.zero_add]; exact hP i t hi) }
      hsz (fun i h st => ⟨_, _, st, rfl⟩) (by show _ < (h₁.push _).objs.size; rw [Heap.size_push]; exact Nat.lt_succ_self _) (fresh _ (Nat.le_refl _)) (Nat.ne_of_lt hXlt) (by show _ < (h₁.push _).objs.size; rw [Heap.size_push]; exact Nat.lt_succ_of_lt hXlt) (fun b hb => ?_) (fun b hb => ?_) (by show IsRangeIter _ _ _ _ _; rw [hn]; simpa using Heap.get?_push_size _ rfl) (fun b o hx e => Heap.get?_push_of_some _ (k₁ b o hx e)) hlay hkind (fun D h k hx => hJ0 D h (fun b o hb e => k b o hb (Heap.get?_push_of_some _ e)) fun o e => hx o (Heap.get?_push_of_some _ e)) hmono (fun v s Q h hq => go_any v s Q h hq) (fun i h st => ⟨_, _, st, rfl, .inr rfl⟩) hturn hRR
    · rw [List.mem_singleton.mp hb]; exact Nat.ne_of_gt hXlt
    · show b < (h₁.push _).objs.size
      rw [Heap.size_push, List.mem_singleton.mp hb]
      exact Nat.lt_succ_self _
theorem comp_post {ownc : Addr → List (Str × Addr)} {n : Nat} {X : Addr} {Q : Value → Shared → Prop} {J : Addr → Nat → List Value → Heap → Prop}
    (hmono : ∀ D i ys h h', J D i ys h → Stab D X h h' → J D i ys h')
    (hQ : ∀ D h tk ys, Keep X s.heap h → h.get? D = some (lst ys) → s.heap.get? D = none → D ≠ X → J D n ys h → Q (.ref D) { s with heap := h, toks := tk })
    (D C : Addr) (h : Heap) (tk : Nat) (ys : List Value) (kp : Keep X s.heap h) (hD : h.get? D = some (lst ys)) (hDn : s.heap.get? D = none) (hDX : D ≠ X) (hlt : D < C) (hno : ∀ b, Own ownc C b → s.heap.get? b = none ∧ b ≠ X) (hc : Cs ownc C h) (hj : J D n ys h) :
    compPost (model prog w) A E none Q (.ref D) C (.ok .next) { s with heap := h, toks := tk } := by
  obtain ⟨m, hm⟩ := hc.1
  refine ⟨m, hm, fun h' hs' => hQ D h' tk ys (fun b o hx e => ?_) ?_ hDn hDX (hmono _ _ _ _ _ hj ⟨fun b o its nn hd _ _ e => ?_, fun o e => ?_⟩)⟩
  · exact hs'.extBut b o (fun q => by rw [q, (hno C (.inl rfl)).1] at e; cases e) (kp b o hx e)
  · exact hs'.extBut D _ (Nat.ne_of_lt hlt) hD
  · exact hs'.extBut b o (fun q => hc.own hd e (.inl q)) e
  · exact hs'.extBut X o (fun q => (hno C (.inl rfl)).2 q.symm) e
theorem comp_K {elt tgt iter : PySem.Expr} {ifs : List PySem.Expr} {scope : Scope} {pos : Pos} {cl : List (Str × Addr)} {ownc : Addr → List (Str × Addr)} {n : Nat} (X : Addr) {P : Nat → Value → Prop} {Q : Value → Shared → Prop}
    (J : Addr → Nat → List Value → Heap → Prop) (hh : A.handled = none) (hsz : n ≤ sizeLine) (hclos : closureFor scope env = pure cl) (hkind : scope.kind = .function)
    (hnames : ∀ y ∈ scope.names, y.2 = .local → scope.names.lookup y.1 = some .local) (hlay : ∀ N, cellsFrom N scope.names [] = ownc N)
    (h : wpAny (model prog w) A (eval iter env) (fun xv s₁ => ∃ h₁ tk₁, s₁ = { s with heap := h₁, toks := tk₁ } ∧ Keep X s.heap h₁ ∧ X < h₁.objs.size ∧ Src X h₁ xv n P ∧
      ∀ D h, Keep X h₁ h → (∀ o, h₁.get? X = some o → h.get? X = some o) → J D 0 [] h) E s)
    (hmono : ∀ D i ys h h', J D i ys h → Stab D X h h' → J D i ys h')
    (hturn : ∀ i v C D ys h tk, i < n → P i v → Keep X s.heap h → D < C → h.get? D = some (lst ys) → s.heap.get? D = none → D ≠ X → (∀ b, Own ownc C b → s.heap.get? b = none ∧ b ≠ X) → Cs ownc C h → J D i ys h →
      wpAny (model prog w) A (assign tgt (compEnvC scope (cellsFrom (C + 1) scope.names cl) C env) v) (fun _ s₃ => wpAny (model prog w) A (testsOf ifs (compEnvC scope (cellsFrom (C + 1) scope.names cl) C env)) (fun ok s₄ => if ok = true then
        wpAny (model prog w) A (eval elt (compEnvC scope (cellsFrom (C + 1) scope.names cl) C env)) (TurnEnd s X ownc J C D i ys h true) (fun _ _ => False) s₄ else TurnEnd s X ownc J C D i ys h false .none s₄) (fun _ _ => False) s₃) (fun _ _ => False) { s with heap := h, toks := tk })
    (hQ : ∀ D h tk ys, Keep X s.heap h → h.get? D = some (lst ys) → s.heap.get? D = none → D ≠ X → J D n ys h → Q (.ref D) { s with heap := h, toks := tk })
    (hs : ∀ x, foldedSetIterable iter env x = pure x := by intro _; rfl) :
    wpAny (model prog w) A (eval (.ListComp elt [⟨tgt, iter, ifs, 0⟩] scope pos) env) Q E s := by
  rw [eval_ListComp]
  exact wpAny_comprehension_free (use := none) rfl hs hclos hkind hnames (comp_core J hh hsz hkind hlay h hmono hturn (comp_post hmono hQ))
/-- the same where the list is handed to a name of the frame at once: y is a local of the frame X -/
theorem comp_A {elt tgt iter : PySem.Expr} {ifs : List PySem.Expr} {scope : Scope} {pos spos py : Pos} {y : Str} {cl : List (Str × Addr)} {ownc : Addr → List (Str × Addr)} {n : Nat} {P : Nat → Value → Prop} {Q : Flow → Shared → Prop}
    (J : Addr → Nat → List Value → Heap → Prop) (hh : A.handled = none) (hsz : n ≤ sizeLine) (hclos : closureFor scope env = pure cl) (hkind : scope.kind = .function)
    (hsw : swapsWith (.ListComp elt [⟨tgt, iter, ifs, 0⟩] scope pos) (some (.Name y py)) spos.line env = pure true)
    (hy : env.kindOf y = some .local) (hp : (env.scope.kind == .class || (env.scope.kind == .module && env.locals != env.globals)) = false)
    (hnames : ∀ y ∈ scope.names, y.2 = .local → scope.names.lookup y.1 = some .local) (hlay : ∀ N, cellsFrom N scope.names [] = ownc N)
    (h : wpAny (model prog w) A (eval iter env) (fun xv s₁ => ∃ h₁ tk₁, s₁ = { s with heap := h₁, toks := tk₁ } ∧ Keep env.locals s.heap h₁ ∧ env.locals < h₁.objs.size ∧ Src env.locals h₁ xv n P ∧
      ∀ D h, Keep env.locals h₁ h → (∀ o, h₁.get? env.locals = some o → h.get? env.locals = some o) → J D 0 [] h) E s)
    (hmono : ∀ D i ys h h', J D i ys h → Stab D env.locals h h' → J D i ys h')
    (hns : ∀ D i ys h, J D i ys h → ∃ m, h.Ns env.locals m)
    (hturn : ∀ i v C D ys h tk, i < n → P i v → Keep env.locals s.heap h → D < C → h.get? D = some (lst ys) → s.heap.get? D = none → D ≠ env.locals → (∀ b, Own ownc C b → s.heap.get? b = none ∧ b ≠ env.locals) → Cs ownc C h → J D i ys h →
      wpAny (model prog w) A (assign tgt (compEnvC scope (cellsFrom (C + 1) scope.names cl) C env) v) (fun _ s₃ => wpAny (model prog w) A (testsOf ifs (compEnvC scope (cellsFrom (C + 1) scope.names cl) C env)) (fun ok s₄ => if ok = true then
        wpAny (model prog w) A (eval elt (compEnvC scope (cellsFrom (C + 1) scope.names cl) C env)) (TurnEnd s env.locals ownc J C D i ys h true) (fun _ _ => False) s₄ else TurnEnd s env.locals ownc J C D i ys h false .none s₄) (fun _ _ => False) s₃) (fun _ _ => False) { s with heap := h, toks := tk })
    (hQ : ∀ D h₁ h m tk ys, Keep env.locals s.heap h → h.get? D = some (lst ys) → s.heap.get? D = none → D ≠ env.locals → J D n ys h₁ → h₁.Ns env.locals m → (∀ b o its n, o.data = .seq its n → b ≠ env.locals → h₁.get? b = some o → h.get? b = some o) → h.Ns env.locals (fun z => if z = y then some (.ref D) else m z) → Q .next { s with heap := h, toks := tk })
    (hs : ∀ x, foldedSetIterable iter env x = pure x := by intro _; rfl) :
    wpAny (model prog w) A (exec (.Assign [.Name y py] (.ListComp elt [⟨tgt, iter, ifs, 0⟩] scope pos) spos) env) Q E s := by
  rw [exec_Assign_Name_used _ _ _ _ hsw]
  refine wpAny_bind (wpAny_standAt (wpAny_bind ?_))
  show wpAny _ A (do let _ ← comprehension (.ListComp elt [⟨tgt, iter, ifs, 0⟩] scope pos) scope env _ (newList []) false (eval iter env) (some (assign (.Name y py) env))) _ _ s
  refine wpAny_bind (wpAny_mono (wpAny_comprehension_free (use := some (assign (.Name y py) env)) (Q := fun _ s' => Q .next s') rfl hs hclos hkind hnames
    (comp_core J hh hsz hkind hlay h hmono hturn ?_)) (fun _ s' hq => wpAny_pure (wpAny_pure hq)) fun _ _ e => e)
  intro D C h tk ys kp hD hDn hDX hlt hno hc hj
  obtain ⟨mC, hmC⟩ := hc.1
  obtain ⟨m, hm⟩ := hns _ _ _ _ hj
  show wpAny _ A (assign (.Name y py) env (.ref D)) _ _ _
  have hCX := (hno C (.inl rfl)).2
  refine wpAny_assign_Name (wpAny_storeName_local hy hm (fun h₂ hn₂ hs₂ => ?_) hp)
  refine ⟨mC, hmC.sameBut hs₂ hCX, fun h' hs' => ?_⟩
  have hn' : h'.Ns env.locals (fun z => if z = y then some (.ref D) else m z) := hn₂.sameBut hs' (Ne.symm hCX)
  refine hQ D h h' m _ ys (fun b o hx e => ?_) (hs'.extBut D _ (Nat.ne_of_lt hlt) (hs₂.extBut D _ hDX hD)) hDn hDX hj hm (fun b o its nn hd hx e => ?_) hn'
  · exact hs'.extBut b o (fun q => by rw [q, (hno C (.inl rfl)).1] at e; cases e) (hs₂.extBut b o hx (kp b o hx e))
  · exact hs'.extBut b o (fun q => hc.own hd e (.inl q)) (hs₂.extBut b o hx e)
end
end Mine
end PartKp
section PartKr
open PySem PySem.W PyProof.Rows
set_option Elab.async false
set_option maxRecDepth 100000
set_option maxHeartbeats 1000000
namespace Mine
open PyProof.Rows.LCg
section
variable {prog : Program} {w : World} {A : Around} {E : Value → Shared → Prop} {s : Shared} {env : Env}
theorem turn_two0 {elt t0 i0 t1 i1 : PySem.Expr} {scope : Scope} {pos : Pos} {it acc : Value} {env : Env} :
    compTurn (.ListComp elt [⟨t0, i0, [], 0⟩, ⟨t1, i1, [], 0⟩] scope pos) 0 it acc env = (do
      standAt i0.pos
      match ← pyNext it with
      | none => pure (.done .next)
      | some v =>
        letOwnedTupleGo t0 it v
        assign t0 env v
        let x ← eval i1 env
        standAt i1.pos
        let x ← foldedSetIterable i1 env x
        let _ ← runOwn (.compStart (.ListComp elt [⟨t0, i0, [], 0⟩, ⟨t1, i1, [], 0⟩] scope pos) 1 (← holding [x] (pyIter x)) acc env) env
        again (.compLoop (.ListComp elt [⟨t0, i0, [], 0⟩, ⟨t1, i1, [], 0⟩] scope pos) 0 it acc env)) := by rfl
theorem turn_two1 {elt t0 i0 t1 i1 : PySem.Expr} {scope : Scope} {pos : Pos} {it acc : Value} {env : Env} :
    compTurn (.ListComp elt [⟨t0, i0, [], 0⟩, ⟨t1, i1, [], 0⟩] scope pos) 1 it acc env = (do
      standAt i1.pos
      match ← pyNext it with
      | none => pure (.done .next)
      | some v =>
        letOwnedTupleGo t1 it v
        assign t1 env v
        (do let _ ← call (.builtin "list.append") [acc, ← eval elt env])
        again (.compLoop (.ListComp elt [⟨t0, i0, [], 0⟩, ⟨t1, i1, [], 0⟩] scope pos) 1 it acc env)) := by rfl
theorem loop_two0 {elt t0 i0 t1 i1 : PySem.Expr} {scope : Scope} {pos : Pos} {it acc : Value} {env : Env} {R : Result → Shared → Prop} (I : Nat → Shared → Prop)
    (hs : ∀ x, foldedSetIterable i1 env x = pure x)
    (turn : ∀ n s, I n s → wpAny (model prog w) A (pyNext it) (fun r s₁ => match r with
      | none => R (.ok .next) s₁
      | some v => wpAny (model prog w) A (letOwnedTupleGo t0 it v) (fun _ s₁' => wpAny (model prog w) A (assign t0 env v) (fun _ s₂ =>
          wpAny (model prog w) A (eval i1 env) (fun x s₃ => wpAny (model prog w) A (pyIter x) (fun it1 s₄ =>
            codeAny (model prog w) (A.mark none) (.compStart (.ListComp elt [⟨t0, i0, [], 0⟩, ⟨t1, i1, [], 0⟩] scope pos) 1 it1 acc env) (fun r s' => match r with | .ok _ => ∃ m, m < n ∧ I m s' | .error _ => False) s₄)
            (fun _ _ => False) s₃) (fun _ _ => False) s₂)
          (fun _ _ => False) s₁') (fun _ _ => False) s₁) (fun _ _ => False) s)
    (n : Nat) (h : I n s) : codeAny (model prog w) A (.compLoop (.ListComp elt [⟨t0, i0, [], 0⟩, ⟨t1, i1, [], 0⟩] scope pos) 0 it acc env) R s := by
  refine codeAny_loop rfl I (fun n s hI => ?_) n h
  show wpAny _ A ((compTurn (.ListComp elt [⟨t0, i0, [], 0⟩, ⟨t1, i1, [], 0⟩] scope pos) 0 it acc env).onRaise (fun x => do noteFrame x env; theTreesLotGoes x)) _ _ s
  refine wpAny_noted ?_
  rw [turn_two0]
  refine wpAny_bind (wpAny_standAt (wpAny_bind (wpAny_mono (turn n s hI) (fun r s₁ h₁ => ?_) fun _ _ h' => h'.elim)))
  cases r with
  | none => exact wpAny_pure h₁
  | some v =>
    refine wpAny_bind (wpAny_mono h₁ (fun _ s₁' h₁' => ?_) fun _ _ h' => h'.elim)
    refine wpAny_bind (wpAny_mono h₁' (fun _ s₂ h₂ => ?_) fun _ _ h' => h'.elim)
    refine wpAny_bind (wpAny_mono h₂ (fun x s₃ h₃ => ?_) fun _ _ h' => h'.elim)
    refine wpAny_bind (wpAny_standAt (wpAny_bind (wpAny_of_eq (hs x) (wpAny_bind (wpAny_holding (wpAny_mono h₃ (fun it1 s₄ h₄ => ?_) fun _ _ h' => h'.elim))))))
    refine wpAny_bind (wpAny_runOwn (codeAny_mono h₄ fun r s' hr => ?_) (by intro x; cases x))
    cases r with
    | ok f => exact wpAny_pure ⟨rfl, hr⟩
    | error e => exact hr.elim
theorem loop_two1 {elt t0 i0 t1 i1 : PySem.Expr} {scope : Scope} {pos : Pos} {it acc : Value} {env : Env} {R : Result → Shared → Prop} (I : Nat → Shared → Prop)
    (turn : ∀ n s, I n s → wpAny (model prog w) A (pyNext it) (fun r s₁ => match r with
      | none => R (.ok .next) s₁
      | some v => wpAny (model prog w) A (letOwnedTupleGo t1 it v) (fun _ s₁' => wpAny (model prog w) A (assign t1 env v) (fun _ s₃ =>
            wpAny (model prog w) A (eval elt env) (fun x s₄ => wpAny (model prog w) A (call (.builtin "list.append") [acc, x]) (fun _ s₅ => ∃ m, m < n ∧ I m s₅) (fun _ _ => False) s₄) (fun _ _ => False) s₃)
          (fun _ _ => False) s₁') (fun _ _ => False) s₁) (fun _ _ => False) s)
    (n : Nat) (h : I n s) : codeAny (model prog w) A (.compLoop (.ListComp elt [⟨t0, i0, [], 0⟩, ⟨t1, i1, [], 0⟩] scope pos) 1 it acc env) R s := by
  refine codeAny_loop rfl I (fun n s hI => ?_) n h
  show wpAny _ A ((compTurn (.ListComp elt [⟨t0, i0, [], 0⟩, ⟨t1, i1, [], 0⟩] scope pos) 1 it acc env).onRaise (fun x => do noteFrame x env; theTreesLotGoes x)) _ _ s
  refine wpAny_noted ?_
  rw [turn_two1]
  refine wpAny_bind (wpAny_standAt (wpAny_bind (wpAny_mono (turn n s hI) (fun r s₁ h₁ => ?_) fun _ _ h' => h'.elim)))
  cases r with
  | none => exact wpAny_pure h₁
  | some v =>
    refine wpAny_bind (wpAny_mono h₁ (fun _ s₁' h₁' => ?_) fun _ _ h' => h'.elim)
    refine wpAny_bind (wpAny_mono h₁' (fun _ s₃ h₃ => ?_) fun _ _ h' => h'.elim)
    exact wpAny_bind (wpAny_bind (wpAny_mono h₃ (fun x s₄ h₄ => wpAny_bind (wpAny_mono h₄ (fun _ s₅ h₅ => wpAny_pure (wpAny_pure ⟨rfl, h₅⟩)) fun _ _ h' => h'.elim)) fun _ _ h' => h'.elim))
theorem start_two1 {elt t0 i0 t1 i1 : PySem.Expr} {scope : Scope} {pos : Pos} {it acc : Value} {env : Env} {R : Result → Shared → Prop}
    (h0 : codeAny (model prog w) A (.compLoop (.ListComp elt [⟨t0, i0, [], 0⟩, ⟨t1, i1, [], 0⟩] scope pos) 1 it acc env) R s)
    (h : wpAny (model prog w) A (pyIter it) (fun it' s' => codeAny (model prog w) A (.compLoop (.ListComp elt [⟨t0, i0, [], 0⟩, ⟨t1, i1, [], 0⟩] scope pos) 1 it' acc env) R s') (fun _ _ => False) s) :
    codeAny (model prog w) A (.compStart (.ListComp elt [⟨t0, i0, [], 0⟩, ⟨t1, i1, [], 0⟩] scope pos) 1 it acc env) R s := by
  refine codeAny_of_tree ?_
  show wpAny _ _ ((compStart (.ListComp elt [⟨t0, i0, [], 0⟩, ⟨t1, i1, [], 0⟩] scope pos) 1 it acc env).onRaise (fun x => do noteFrame x env; standAt theWindowsPlace)) _ _ s
  refine wpAny_notedAt ?_
  unfold compStart
  show wpAny _ _ (ask >>= _) _ _ s
  refine wpAny_bind (wpAny_askSetting (wpAny_ite ?_))
  split
  · first
      | exact wpAny_bind (wpAny_pure (wpAny_pure (And.intro rfl h0)))
      | exact wpAny_pure (And.intro rfl h0)
  · first
      | exact wpAny_bind (wpAny_rule (wpAny_bind (wpAny_standAt (wpAny_bind (wpAny_mono h (fun it' s' h' => wpAny_pure (And.intro rfl h')) fun _ _ x => x.elim)))))
      | (refine wpAny_bind (wpAny_rule ?_); show wpAny _ _ (standAt i1.pos >>= _) _ _ s; exact wpAny_bind (wpAny_standAt (wpAny_bind (wpAny_mono h (fun it' s' h' => wpAny_pure (And.intro rfl h')) fun _ _ x => x.elim))))
/-- the state of a comprehension of two clauses: q turns of the outer range are drawn -/
structure Two (sh : Heap) (X I C D : Addr) (n : Nat) (J : Addr → Nat → Nat → List Value → Heap → Prop) (q i j : Nat) (m : Str → Option Value) (ys : List Value) (h : Heap) : Prop where
  kp : Keep X sh h
  it : IsRangeIter h I (0 + (q : Nat) * 1) ((n : Int) - (q : Nat)) 1
  ns : h.Ns C m
  lst : h.get? D = some (lst ys)
  j : J D i j ys h
structure Four (sh : Heap) (X I C D : Addr) : Prop where
  id : I < D
  dc : D < C
  xi : X < I
  ni : sh.get? I = none
  nc : sh.get? C = none
  nd : sh.get? D = none
theorem Two.grow {sh h h' : Heap} {X I C D : Addr} {n : Nat} {J : Addr → Nat → Nat → List Value → Heap → Prop} {q i j : Nat} {m : Str → Option Value} {ys : List Value} (T : Two sh X I C D n J q i j m ys h)
    (hmono : ∀ D i j ys h h', J D i j ys h → Stab D X h h' → J D i j ys h') (k : ∀ b o, h.get? b = some o → h'.get? b = some o) : Two sh X I C D n J q i j m ys h' :=
  ⟨fun b o hx e => k b o (T.kp b o hx e), k _ _ T.it, T.ns.at' fun o e => k _ o e, k _ _ T.lst, hmono _ _ _ _ _ _ T.j ⟨fun b o _ _ _ _ _ e => k b o e, fun o e => k _ o e⟩⟩
theorem Two.grow' {sh h h' : Heap} {X I C D : Addr} {n : Nat} {J : Addr → Nat → Nat → List Value → Heap → Prop} {q i j j' : Nat} {m : Str → Option Value} {ys ys' : List Value} (T : Two sh X I C D n J q i j m ys h) (H : Four sh X I C D)
    (k : Keep X h h') (hj : J D i j' ys' h') : Two sh X I C D n (fun D i _ _ h => J D i j' ys' h) q i j m ys h' :=
  ⟨fun b o hx e => k b o hx (T.kp b o hx e), k _ _ (Nat.ne_of_gt H.xi) T.it, T.ns.at' fun o e => k _ o (Nat.ne_of_gt (Nat.lt_trans H.xi (Nat.lt_trans H.id H.dc))) e, k _ _ (Nat.ne_of_gt (Nat.lt_trans H.xi H.id)) T.lst, hj⟩
theorem Two.iter {sh h h' : Heap} {X I C D : Addr} {n : Nat} {J : Addr → Nat → Nat → List Value → Heap → Prop} {q i j : Nat} {m : Str → Option Value} {ys : List Value} (T : Two sh X I C D n J q i j m ys h) (H : Four sh X I C D)
    (hmono : ∀ D i j ys h h', J D i j ys h → Stab D X h h' → J D i j ys h') (k : ∀ b o, b ∉ [I] → h.get? b = some o → h'.get? b = some o) (q' : Nat) (hit : IsRangeIter h' I (0 + (q' : Nat) * 1) ((n : Int) - (q' : Nat)) 1) : Two sh X I C D n J q' i j m ys h' := by
  have f : ∀ b o, b ≠ I → h.get? b = some o → h'.get? b = some o := fun b o hb e => k b o (fun hm => hb (List.mem_singleton.mp hm)) e
  refine ⟨fun b o hx e => f b o (fun q => by rw [q, H.ni] at e; cases e) (T.kp b o hx e), hit, T.ns.at' fun o e => f _ o (Nat.ne_of_gt (Nat.lt_trans H.id H.dc)) e, f _ _ (Nat.ne_of_gt H.id) T.lst, hmono _ _ _ _ _ _ T.j ⟨fun b o its nn hd _ _ e => f b o (fun q => ?_) e, fun o e => f _ o (Nat.ne_of_lt H.xi) e⟩⟩
  subst q
  rw [T.it] at e
  cases e
  cases hd
theorem Two.iter1 {sh h h' : Heap} {X I I1 C D : Addr} {n : Nat} {J : Addr → Nat → Nat → List Value → Heap → Prop} {q i j : Nat} {m : Str → Option Value} {ys : List Value} {a b c : Int} (T : Two sh X I C D n J q i j m ys h) (hI1 : C < I1) (H : Four sh X I C D) (h1 : IsRangeIter h I1 a b c)
    (hsh : sh.get? I1 = none)
    (hmono : ∀ D i j ys h h', J D i j ys h → Stab D X h h' → J D i j ys h') (k : ∀ b o, b ∉ [I1] → h.get? b = some o → h'.get? b = some o) : Two sh X I C D n J q i j m ys h' := by
  have f : ∀ b o, b ≠ I1 → h.get? b = some o → h'.get? b = some o := fun b o hb e => k b o (fun hm => hb (List.mem_singleton.mp hm)) e
  have l1 : D < I1 := Nat.lt_trans H.dc hI1
  have l2 : I < I1 := Nat.lt_trans H.id l1
  refine ⟨fun b o hx e => f b o (fun q => by rw [q, hsh] at e; cases e) (T.kp b o hx e), f _ _ (Nat.ne_of_lt l2) T.it, T.ns.at' fun o e => f _ o (Nat.ne_of_lt hI1) e, f _ _ (Nat.ne_of_lt l1) T.lst, hmono _ _ _ _ _ _ T.j ⟨fun b o its nn hd _ _ e => f b o (fun q => ?_) e, fun o e => f _ o (Nat.ne_of_lt (Nat.lt_trans H.xi l2)) e⟩⟩
  subst q
  rw [h1] at e
  cases e
  cases hd
theorem Two.put {sh h h' : Heap} {X I C D : Addr} {n : Nat} {J : Addr → Nat → Nat → List Value → Heap → Prop} {q i j : Nat} {m m' : Str → Option Value} {ys : List Value} (T : Two sh X I C D n J q i j m ys h) (H : Four sh X I C D)
    (hmono : ∀ D i j ys h h', J D i j ys h → Stab D X h h' → J D i j ys h') (hs : Heap.SameBut C h h') (hn : h'.Ns C m') : Two sh X I C D n J q i j m' ys h' := by
  have f : ∀ b o, b ≠ C → h.get? b = some o → h'.get? b = some o := fun b o hb e => hs.extBut b o hb e
  refine ⟨fun b o hx e => f b o (fun q => by rw [q, H.nc] at e; cases e) (T.kp b o hx e), f _ _ (Nat.ne_of_lt (Nat.lt_trans H.id H.dc)) T.it, hn, f _ _ (Nat.ne_of_lt H.dc) T.lst, hmono _ _ _ _ _ _ T.j ⟨fun b o its nn hd _ _ e => f b o (fun q => ?_) e, fun o e => f _ o (Nat.ne_of_lt (Nat.lt_trans H.xi (Nat.lt_trans H.id H.dc))) e⟩⟩
  obtain ⟨o', es, ep, e', hd', _⟩ := T.ns
  rw [q, e'] at e
  cases e
  rw [hd'] at hd
  cases hd
theorem Two.app {sh h h' : Heap} {X I C D : Addr} {n : Nat} {J : Addr → Nat → Nat → List Value → Heap → Prop} {J' : Addr → Nat → Nat → List Value → Heap → Prop} {q i j i' j' : Nat} {m : Str → Option Value} {ys : List Value} {y : Value} (T : Two sh X I C D n J' q i j m ys h) (H : Four sh X I C D)
    (hmono : ∀ D i j ys h h', J D i j ys h → Stab D X h h' → J D i j ys h') (hs : Heap.SameBut D h h') (hD : h'.get? D = some { cls := .type "list", data := .seq (ys.toArray.push y) (ys.length + 1) }) (hj : J D i' j' (ys ++ [y]) h) : Two sh X I C D n J q i' j' m (ys ++ [y]) h' := by
  have f : ∀ b o, b ≠ D → h.get? b = some o → h'.get? b = some o := fun b o hb e => hs.extBut b o hb e
  exact ⟨fun b o hx e => f b o (fun q => by rw [q, H.nd] at e; cases e) (T.kp b o hx e), f _ _ (Nat.ne_of_lt H.id) T.it, T.ns.at' fun o e => f _ o (Nat.ne_of_gt H.dc) e, hD.trans (congrArg some (lst_snoc ys y)), hmono _ _ _ _ _ _ hj ⟨fun b o its nn hd hb _ e => f b o hb e, fun o e => f _ o (Nat.ne_of_lt (Nat.lt_trans H.xi H.id)) e⟩⟩
/-- a range from 0 on, of n -/
def RangeOf (h₁ : Heap) (xv : Value) (n : Nat) : Prop := ∃ r t u v, xv = .ref r ∧ IsRange h₁ r 0 (n : Int) 1 t u v ∧ Builtin.Range.small 0 (n : Int) 1 = true ∧ Builtin.Range.rangeSize 0 (n : Int) 1 = (n : Int)
theorem comp_two {elt i0 i1 : PySem.Expr} {x0 x1 : Str} {p0 p1 : Pos} {scope : Scope} {pos : Pos} {n : Nat} (wd : Nat → Nat) (X : Addr) {Q : Value → Shared → Prop} (J : Addr → Nat → Nat → List Value → Heap → Prop)
    (hh : A.handled = none) (hh1 : (A.mark none).handled = none) (hclos : closureFor scope env = pure []) (hkind : scope.kind = .function) (hnames : ∀ y ∈ scope.names, y.2 = .local → scope.names.lookup y.1 = some .local)
    (hlay : ∀ N, cellsFrom N scope.names [] = []) (hx0 : scope.names.lookup x0 = some .local) (hx1 : scope.names.lookup x1 = some .local) (h01 : x0 ≠ x1)
    (hlen : ∀ D i j ys h, J D i j ys h → ys.length ≤ sizeLine)
    (h : wpAny (model prog w) A (eval i0 env) (fun xv s₁ => ∃ h₁ tk₁, s₁ = { s with heap := h₁, toks := tk₁ } ∧ Keep X s.heap h₁ ∧ X < h₁.objs.size ∧ RangeOf h₁ xv n ∧
      ∀ D h, Keep X h₁ h → (∀ o, h₁.get? X = some o → h.get? X = some o) → J D 0 0 [] h) E s)
    (hmono : ∀ D i j ys h h', J D i j ys h → Stab D X h h' → J D i j ys h')
    (hinner : ∀ i C D ys h tk m t, i < n → Keep X s.heap h → s.heap.get? C = none → C ≠ X → h.Ns C m → m x0 = some (.int (i : Int) t) → J D i 0 ys h →
      wpAny (model prog w) A (eval i1 (compEnvC scope [] C env)) (fun xv s' => ∃ h' tk', s' = { s with heap := h', toks := tk' } ∧ Keep X h h' ∧ RangeOf h' xv (wd i) ∧ J D i 0 ys h') (fun _ _ => False) { s with heap := h, toks := tk })
    (hturn : ∀ i j C D ys h tk m t0 t1, i < n → j < wd i → Keep X s.heap h → h.get? D = some (lst ys) → s.heap.get? D = none → D ≠ X → s.heap.get? C = none → C ≠ X → h.Ns C m → m x0 = some (.int (i : Int) t0) → m x1 = some (.int (j : Int) t1) → J D i j ys h →
      wpAny (model prog w) (A.mark none) (eval elt (compEnvC scope [] C env)) (fun y s' => ∃ h' tk', s' = { s with heap := h', toks := tk' } ∧ Keep X h h' ∧ J D i (j + 1) (ys ++ [y]) h') (fun _ _ => False) { s with heap := h, toks := tk })
    (hstep : ∀ D i ys h, J D i (wd i) ys h → J D (i + 1) 0 ys h)
    (hQ : ∀ D h tk ys, Keep X s.heap h → h.get? D = some (lst ys) → s.heap.get? D = none → D ≠ X → J D n 0 ys h → Q (.ref D) { s with heap := h, toks := tk })
    (hs : ∀ x, foldedSetIterable i0 env x = pure x := by intro _; rfl) (hs1 : ∀ C x, foldedSetIterable i1 (compEnvC scope [] C env) x = pure x := by intro _ _; rfl) :
    wpAny (model prog w) A (eval (.ListComp elt [⟨.Name x0 p0, i0, [], 0⟩, ⟨.Name x1 p1, i1, [], 0⟩] scope pos) env) Q E s := by
  rw [eval_ListComp]
  refine wpAny_comprehension_free (use := none) rfl hs hclos hkind hnames ?_
  refine wpAny_mono h (fun xv s₁ h₁ => ?_) fun _ _ e => e
  obtain ⟨h₁, tk₁, rfl, k₁, hXlt, ⟨r, t, u, v, rfl, hr, hsm, hn⟩, hJ0⟩ := h₁
  have fresh : ∀ a, h₁.objs.size ≤ a → s.heap.get? a = none := fun a ha => by
    cases e : s.heap.get? a with
    | none => rfl
    | some o' => exact absurd (Heap.lt_size (k₁ _ _ (fun q => absurd hXlt (Nat.not_lt.mpr (q ▸ ha))) e)) (Nat.not_lt.mpr ha)
  refine wpAny_pyIter_range hr hsm ?_
  have W := range_walks (prog := prog) (w := w) (A := A) (I := h₁.objs.size) hh 0 n
  refine wpAny_newObj_type (newEnv_any ?_)
  dsimp only
  rw [hlay]
  generalize hH1 : h₁.push { cls := .type "range_iterator", data := .fields #[rawInt 0, rawInt (Builtin.Range.rangeSize 0 (n : Int) 1), rawInt 1] } = H1
  have hD : H1.objs.size = h₁.objs.size + 1 := by rw [← hH1, Heap.size_push]
  generalize hH2 : H1.push { cls := .type "list", dict := none, data := .seq ([] : List Value).toArray } = H2
  have hC : H2.objs.size = h₁.objs.size + 2 := by rw [← hH2, Heap.size_push, hD]
  generalize hh₂ : pushCells (H2.push { cls := .type "dict", data := .dict #[] }) scope.names = h₂
  have k₂ : ∀ b o, h₁.get? b = some o → h₂.get? b = some o := fun b o e => hh₂ ▸ pushCells_keeps _ _ b o (Heap.get?_push_of_some _ (hH2 ▸ Heap.get?_push_of_some _ (hH1 ▸ Heap.get?_push_of_some _ e)))
  have H : Four s.heap X h₁.objs.size H2.objs.size H1.objs.size := ⟨by rw [hD]; exact Nat.lt_succ_self _, by rw [hC, hD]; exact Nat.lt_succ_self _, hXlt, fresh _ (Nat.le_refl _), fresh _ (by rw [hC]; exact Nat.le_add_right _ _), fresh _ (by rw [hD]; exact Nat.le_add_right _ _)⟩
  have hit₂ : h₂.get? h₁.objs.size = some _ := hh₂ ▸ pushCells_keeps _ _ _ _ (Heap.get?_push_of_some _ (hH2 ▸ Heap.get?_push_of_some _ (hH1 ▸ Heap.get?_push_size _ rfl)))
  have T₀ : Two s.heap X h₁.objs.size H2.objs.size H1.objs.size n J 0 0 0 _ [] h₂ :=
    ⟨fun b o hx e => k₂ b o (k₁ b o hx e), by rw [hn] at hit₂; simpa using hit₂, (Heap.Ns.new H2 (.type "dict")).keeps (hh₂ ▸ pushCells_keeps _ _),
      hh₂ ▸ pushCells_keeps _ _ _ _ (Heap.get?_push_of_some _ (hH2 ▸ Heap.get?_push_size _ rfl)), hJ0 _ _ (fun b o _ e => k₂ b o e) fun o e => k₂ _ o e⟩
  have loop : ∀ s₃ : Shared, s₃ = { s with heap := h₂, toks := tk₁ } →
      codeAny (model prog w) A (.compLoop (.ListComp elt [⟨.Name x0 p0, i0, [], 0⟩, ⟨.Name x1 p1, i1, [], 0⟩] scope pos) 0 (.ref h₁.objs.size) (.ref H1.objs.size) (compEnvC scope [] H2.objs.size env))
        (compPost (model prog w) A E none Q (.ref H1.objs.size) H2.objs.size) s₃ := by
    rintro s₃ rfl
    refine loop_two0 (fun k s' => ∃ h' tk i ys m, s' = { s with heap := h', toks := tk } ∧ i ≤ n ∧ k = n + 1 - i ∧ Two s.heap X h₁.objs.size H2.objs.size H1.objs.size n J i i 0 m ys h') (hs1 _) ?_ (n + 1) ⟨h₂, tk₁, 0, [], _, rfl, Nat.zero_le _, rfl, T₀⟩
    rintro k s' ⟨h', tk, i, ys, m, rfl, hi, rfl, T⟩
    by_cases hlt : i < n
    · refine W.item i _ _ _ hlt T.it fun v h₃ tk₃ hPv hst₃ hk₃ => ?_
      obtain ⟨t0, rfl⟩ := hPv
      rw [Int.zero_add]
      have T₃ := T.iter H hmono hk₃ (i + 1) hst₃
      refine wpAny_of_eq rfl ?_
      refine wpAny_assign_Name (wpAny_storeName_local (lookup_relabel_local hx0) T₃.ns (fun h₄ hn₄ hs₄ => ?_) (by simp [compEnvC, relabel, hkind]))
      have T₄ := T₃.put H hmono hs₄ hn₄
      refine wpAny_mono (hinner i _ _ ys h₄ _ _ t0 hlt T₄.kp H.nc (Nat.ne_of_gt (Nat.lt_trans H.xi (Nat.lt_trans H.id H.dc))) T₄.ns (by simp) T₄.j) (fun xv s₅ h₅ => ?_) fun _ _ e => e
      obtain ⟨h₅, tk₅, rfl, k₅, ⟨r₁, t₁, u₁, v₁, rfl, hr₁, hsm₁, hn₁⟩, j₅⟩ := h₅
      have T₅' := T₄.grow' H k₅ j₅
      have T₅ : Two s.heap X h₁.objs.size H2.objs.size H1.objs.size n J (i + 1) i 0 _ ys h₅ := ⟨T₅'.kp, T₅'.it, T₅'.ns, T₅'.lst, j₅⟩
      refine wpAny_pyIter_range hr₁ hsm₁ ?_
      have T₆ := T₅.grow (h' := h₅.push { cls := .type "range_iterator", data := .fields #[rawInt 0, rawInt (Builtin.Range.rangeSize 0 ((wd i : Nat) : Int) 1), rawInt 1] }) hmono fun b o e => Heap.get?_push_of_some _ e
      have hCI : H2.objs.size < h₅.objs.size := T₅.ns.lt
      have hI1n : s.heap.get? h₅.objs.size = none := by
        cases e : s.heap.get? h₅.objs.size with
        | none => rfl
        | some o' => exact absurd (Heap.lt_size (T₅.kp _ _ (Nat.ne_of_gt (Nat.lt_trans H.xi (Nat.lt_trans H.id (Nat.lt_trans H.dc hCI)))) e)) (Nat.lt_irrefl _)
      have it₆ : IsRangeIter (h₅.push { cls := .type "range_iterator", data := .fields #[rawInt 0, rawInt (Builtin.Range.rangeSize 0 ((wd i : Nat) : Int) 1), rawInt 1] }) h₅.objs.size (0 + (0 : Nat) * 1) (((wd i : Nat) : Int) - (0 : Nat)) 1 := by
        show IsRangeIter _ _ _ _ _
        rw [hn₁]; simpa using Heap.get?_push_size _ rfl
      have W1 := range_walks (prog := prog) (w := w) (A := A.mark none) (I := h₅.objs.size) hh1 0 (wd i)
      have loop1 : codeAny (model prog w) (A.mark none) (.compLoop (.ListComp elt [⟨.Name x0 p0, i0, [], 0⟩, ⟨.Name x1 p1, i1, [], 0⟩] scope pos) 1 (.ref h₅.objs.size) (.ref H1.objs.size) (compEnvC scope [] H2.objs.size env))
          (fun r s' => match r with | .ok _ => ∃ m, m < n + 1 - i ∧ ∃ h' tk i ys m', s' = { s with heap := h', toks := tk } ∧ i ≤ n ∧ m = n + 1 - i ∧ Two s.heap X h₁.objs.size H2.objs.size H1.objs.size n J i i 0 m' ys h' | .error _ => False)
          { s with heap := h₅.push { cls := .type "range_iterator", data := .fields #[rawInt 0, rawInt (Builtin.Range.rangeSize 0 ((wd i : Nat) : Int) 1), rawInt 1] }, toks := tk₅ } := by
        refine loop_two1 (fun k s' => ∃ h' tk j ys m t0, s' = { s with heap := h', toks := tk } ∧ j ≤ wd i ∧ k = wd i + 1 - j ∧ m x0 = some (.int (i : Int) t0) ∧ IsRangeIter h' h₅.objs.size (0 + (j : Nat) * 1) (((wd i : Nat) : Int) - (j : Nat)) 1 ∧ Two s.heap X h₁.objs.size H2.objs.size H1.objs.size n J (i + 1) i j m ys h') ?_ (wd i + 1)
          ⟨_, tk₅, 0, ys, _, t0, rfl, Nat.zero_le _, rfl, by simp, it₆, T₆⟩
        rintro k s' ⟨h', tk, j, ys, m, t0, rfl, hj, rfl, hm0, it', T'⟩
        by_cases hlt1 : j < wd i
        · refine W1.item j _ _ _ hlt1 it' fun v h₇ tk₇ hPv hst₇ hk₇ => ?_
          obtain ⟨t1, rfl⟩ := hPv
          rw [Int.zero_add]
          have T₇ := T'.iter1 hCI H it' hI1n hmono hk₇
          refine wpAny_of_eq rfl ?_
          refine wpAny_assign_Name (wpAny_storeName_local (lookup_relabel_local hx1) T₇.ns (fun h₈ hn₈ hs₈ => ?_) (by simp [compEnvC, relabel, hkind]))
          have T₈ := T₇.put H hmono hs₈ hn₈
          have it₈ : IsRangeIter h₈ h₅.objs.size _ _ _ := hs₈.extBut _ _ (Nat.ne_of_gt hCI) hst₇
          refine wpAny_mono (hturn i j _ _ ys h₈ _ _ t0 t1 hlt hlt1 T₈.kp T₈.lst H.nd (Nat.ne_of_gt (Nat.lt_trans H.xi H.id)) H.nc (Nat.ne_of_gt (Nat.lt_trans H.xi (Nat.lt_trans H.id H.dc))) T₈.ns (by simp [h01, hm0]) (by simp) T₈.j) (fun y s₉ h₉ => ?_) fun _ _ e => e
          obtain ⟨h₉, tk₉, rfl, k₉, j₉⟩ := h₉
          have T₉ := T₈.grow' H k₉ j₉
          refine append_at (hsz := by show ys.toArray.size ≤ sizeLine; rw [List.size_toArray]; exact hlen _ _ _ _ _ T₈.j) T₉.lst fun h₁₀ hs₁₀ hD₁₀ => ?_
          refine ⟨wd i + 1 - (j + 1), by omega, h₁₀, tk₉, j + 1, ys ++ [y], _, t0, rfl, hlt1, rfl, by simp [h01, hm0], hs₁₀.extBut _ _ (Nat.ne_of_gt (Nat.lt_trans H.dc hCI)) (k₉ _ _ (Nat.ne_of_gt (Nat.lt_trans H.xi (Nat.lt_trans H.id (Nat.lt_trans H.dc hCI)))) it₈), T₉.app H hmono hs₁₀ hD₁₀ j₉⟩
        · obtain rfl : j = wd i := Nat.le_antisymm hj (Nat.not_lt.mp hlt1)
          refine W1.done _ _ _ it' fun h₇ tk₇ hk₇ => ?_
          have T₇ := T'.iter1 hCI H it' hI1n hmono hk₇
          exact ⟨n + 1 - (i + 1), by omega, h₇, tk₇, i + 1, ys, m, rfl, hlt, rfl, ⟨T₇.kp, T₇.it, T₇.ns, T₇.lst, hstep _ _ _ _ T₇.j⟩⟩
      exact start_two1 loop1 (wpAny_pyIter_rangeiter it₆ loop1)
    · obtain rfl : i = n := Nat.le_antisymm hi (Nat.not_lt.mp hlt)
      refine W.done _ _ _ T.it fun h₃ tk₃ hk₃ => ?_
      have f : ∀ b o, b ≠ h₁.objs.size → h'.get? b = some o → h₃.get? b = some o := fun b o hb e => hk₃ b o (fun hm => hb (List.mem_singleton.mp hm)) e
      have lC : h₁.objs.size < H2.objs.size := Nat.lt_trans H.id H.dc
      refine ⟨m, T.ns.at' fun o e => f _ o (Nat.ne_of_gt lC) e, fun h₄ hs₄ => hQ _ h₄ _ ys (fun b o hx e => ?_) (hs₄.extBut _ _ (Nat.ne_of_lt H.dc) (f _ _ (Nat.ne_of_gt H.id) T.lst)) H.nd (Nat.ne_of_gt (Nat.lt_trans H.xi H.id))
        (hmono _ _ _ _ _ _ T.j ⟨fun b o its nn hd _ _ e => ?_, fun o e => hs₄.extBut _ _ (Nat.ne_of_lt (Nat.lt_trans H.xi lC)) (f _ o (Nat.ne_of_lt H.xi) e)⟩)⟩
      · exact hs₄.extBut _ _ (fun q => by rw [q, H.nc] at e; cases e) (f b o (fun q => by rw [q, H.ni] at e; cases e) (T.kp b o hx e))
      · refine hs₄.extBut _ _ (fun q => ?_) (f b o (fun q => ?_) e)
        · obtain ⟨o', es, ep, e', hd', _⟩ := T.ns
          rw [q, e'] at e
          cases e
          rw [hd'] at hd
          cases hd
        · have e' := T.it
          rw [q] at e
          rw [show h'.get? h₁.objs.size = some _ from e'] at e
          cases e
          cases hd
  exact codeAny_compStart_list (loop _ rfl) (W.self 0 _ _ _ T₀.it (loop _ rfl))
end
end Mine
end PartKr
section PartLb
open PySem PySem.W PyProof.Rows
set_option Elab.async false
set_option maxRecDepth 100000
set_option maxHeartbeats 1000000
namespace Mine
open PyProof.Rows.LCg
def lawB : List Stmt := getB (PySem.Challenge.pw_pg0254_01.main.body.getD 15 noS)
def lawS : Scope := getFS (PySem.Challenge.pw_pg0254_01.main.body.getD 15 noS)
def lawSt (k : Nat) : Stmt := lawB.getD k (.Pass ⟨0, 0, 0, 0⟩)
abbrev lawE (L fa cd : Addr) : Env := envOfC "law" lawS L fa (.ref cd)
abbrev lawA (dp un : Nat) (gd : Option (List Code)) (L fa cd : Addr) : Around := ktrTop dp un gd "law" lawS L fa (.ref cd) (cellsFrom (L + 1) lawS.names []) []
abbrev LFacts (w : World) (mean : ExcName → Option Value) (mg mb : Str → Option Value) (dp un : Nat) (h₀ : Heap) : Prop :=
  un + 340 < cLine ∧ dp + 80 < recursionLimit ∧ Below callerA h₀ [] h₀ ∧ (hd.heap_39 w.params).In h₀ ∧ Top hd.view_39 LS mean mg mb h₀
/-- all that stands beside the base and the frame -/
def allN (h₀ h : Heap) (L : Addr) : List (Addr × Obj) := (List.range h.objs.size).filterMap fun b => match h.get? b, h₀.get? b with
  | some o, none => if b = L then none else some (b, o)
  | _, _ => none
theorem mem_allN {h₀ h : Heap} {L b : Addr} {o : Obj} (e : h.get? b = some o) (e₀ : h₀.get? b = none) (hb : b ≠ L) : (b, o) ∈ allN h₀ h L := by
  unfold allN
  rw [List.mem_filterMap]
  exact ⟨b, List.mem_range.mpr (Heap.lt_size e), by simp only [e, e₀, hb, if_false]⟩
theorem allN_of {h₀ h : Heap} {L : Addr} {p : Addr × Obj} (hp : p ∈ allN h₀ h L) : h.get? p.1 = some p.2 ∧ h₀.get? p.1 = none ∧ p.1 ≠ L := by
  unfold allN at hp
  rw [List.mem_filterMap] at hp
  obtain ⟨b, _, hb⟩ := hp
  cases e : h.get? b with
  | none => simp [e] at hb
  | some o =>
    cases e₀ : h₀.get? b with
    | some o₀ => simp [e, e₀] at hb
    | none =>
      simp only [e, e₀] at hb
      split at hb
      · cases hb
      · rename_i hne
        cases hb
        exact ⟨e, e₀, hne⟩
theorem allN_news (h₀ h : Heap) (L : Addr) : News h₀ L h (allN h₀ h L) := fun p hp => by
  obtain ⟨a, b, c⟩ := allN_of hp
  exact ⟨a, c, b⟩
theorem fr_of {h₀ h h' : Heap} {L : Addr} {m : Str → Option Value} (F : Fr h₀ L h m) (k : Keep L h h') (hn : h'.Ns L m) : Fr h₀ L h' m :=
  ⟨hn, fun b o e => k b o (fun q => by rw [q, Heap.get?_none_of_le F.above] at e; cases e) (F.keep b o e), F.above⟩
theorem keep_of {h₀ h h' : Heap} {L : Addr} {m m' : Str → Option Value} {news : List (Addr × Obj)} (F : Fr h₀ L h m) (F' : Fr h₀ L h' m') (N' : News h₀ L h' news) (hs : ∀ p ∈ allN h₀ h L, p ∈ news) : Keep L h h' := fun b o hb e => by
  cases e₀ : h₀.get? b with
  | some o₀ =>
    have := F.keep _ _ e₀
    rw [e] at this
    cases this
    exact F'.keep _ _ e₀
  | none => exact (N' _ (hs _ (mem_allN e e₀ hb))).1
theorem not_base {h₀ h : Heap} {L b : Addr} {m : Str → Option Value} (F : Fr h₀ L h m) (e : h.get? b = none) : h₀.get? b = none := by
  cases e₀ : h₀.get? b with
  | none => rfl
  | some o => rw [F.keep _ _ e₀] at e; cases e
theorem Keep.trans {X : Addr} {a b c : Heap} (h : Keep X a b) (h' : Keep X b c) : Keep X a c := fun x o hx e => h' x o hx (h x o hx e)
theorem Keep.refl (X : Addr) (a : Heap) : Keep X a a := fun _ _ _ e => e
/-- a list's items, each as R says -/
def LR (R : Nat → Value → Heap → Prop) (k : Nat) (ys : List Value) (h : Heap) : Prop := ys.length = k ∧ ∀ q, q < k → ∃ y, ys[q]? = some y ∧ R q y h
theorem LR.nil {R : Nat → Value → Heap → Prop} {h : Heap} : LR R 0 [] h := ⟨rfl, fun q hq => absurd hq (Nat.not_lt_zero q)⟩
theorem LR.mono {R R' : Nat → Value → Heap → Prop} {k : Nat} {ys : List Value} {h h' : Heap} (P : LR R k ys h) (f : ∀ q y, q < k → R q y h → R' q y h') : LR R' k ys h' :=
  ⟨P.1, fun q hq => by obtain ⟨y, e, r⟩ := P.2 q hq; exact ⟨y, e, f q y hq r⟩⟩
theorem LR.snoc {R : Nat → Value → Heap → Prop} {k : Nat} {ys : List Value} {h : Heap} {y : Value} (P : LR R k ys h) (r : R k y h) : LR R (k + 1) (ys ++ [y]) h := by
  refine ⟨by rw [List.length_append, P.1]; rfl, fun q hq => ?_⟩
  by_cases hlt : q < k
  · obtain ⟨y', e, r'⟩ := P.2 q hlt
    exact ⟨y', by rw [List.getElem?_append_left (by rw [P.1]; exact hlt)]; exact e, r'⟩
  · obtain rfl : q = k := by omega
    exact ⟨y, by rw [List.getElem?_append_right (by rw [P.1]; exact Nat.le_refl _), P.1, Nat.sub_self]; rfl, r⟩
/-- an item that is an object of its own, made since the base and not D -/
def At (h₀ : Heap) (L D : Addr) (O : Nat → Obj → Prop) (q : Nat) (y : Value) (h : Heap) : Prop := ∃ a o, y = .ref a ∧ a ≠ D ∧ a ≠ L ∧ h₀.get? a = none ∧ h.get? a = some o ∧ (∃ its n, o.data = .seq its n) ∧ O q o
theorem At.stab {h₀ h h' : Heap} {L D : Addr} {O : Nat → Obj → Prop} {q : Nat} {y : Value} (P : At h₀ L D O q y h) (st : Stab D L h h') : At h₀ L D O q y h' := by
  obtain ⟨a, o, rfl, hD, hL, h0, e, ⟨its, n, hd⟩, ho⟩ := P
  exact ⟨a, o, rfl, hD, hL, h0, st.1 _ _ _ _ hd hD hL e, ⟨its, n, hd⟩, ho⟩
theorem At.keep {h₀ h h' : Heap} {L D : Addr} {O : Nat → Obj → Prop} {q : Nat} {y : Value} (P : At h₀ L D O q y h) (k : Keep L h h') : At h₀ L D O q y h' := by
  obtain ⟨a, o, rfl, hD, hL, h0, e, hd, ho⟩ := P
  exact ⟨a, o, rfl, hD, hL, h0, k _ _ hL e, hd, ho⟩
def place (q : Nat) (o : Obj) : Prop := ∃ t1 t2 t3 n, o = PySem.W.listOf #[.int (tabs q) t1, .int ((signs q - tabs q : Nat) : Int) t2, .int (4 - (signs q : Nat) : Int) t3] n
theorem place_of {q i j : Nat} {t1 t2 t3 : Tok} {n : Nat} (h1 : tabs q = j) (h2 : signs q = i) (hj : j ≤ i) : place q (PySem.W.listOf #[.int (j : Int) t1, .int ((i : Int) - (j : Int)) t2, .int (4 - (i : Int)) t3] n) :=
  ⟨t1, t2, t3, n, by rw [h1, h2, show ((i - j : Nat) : Int) = (i : Int) - (j : Int) by omega]⟩
def SrcEnd (s : Shared) (X : Addr) (S : Heap → Value → Prop) (J0 : Heap → Prop) (xv : Value) (s₁ : Shared) : Prop := ∃ h₁ tk₁, s₁ = { s with heap := h₁, toks := tk₁ } ∧ Keep X s.heap h₁ ∧ X < h₁.objs.size ∧ S h₁ xv ∧ J0 h₁
theorem src_range {h₀ h' : Heap} {s : Shared} {L r : Addr} {m m' : Str → Option Value} {news : List (Addr × Obj)} {J0 : Heap → Prop} {n tk : Nat} {k : Int} {t u v : Tok} (F : Fr h₀ L s.heap m) (F' : Fr h₀ L h' m') (N' : News h₀ L h' news) (hs : ∀ p ∈ allN h₀ s.heap L, p ∈ news)
    (hr : IsRange h' r 0 k 1 t u v) (hk : k = (n : Int)) (hsm : Builtin.Range.small 0 (n : Int) 1 = true) (hn : Builtin.Range.rangeSize 0 (n : Int) 1 = (n : Int)) (hj : J0 h') : SrcEnd s L (fun h₁ xv => RangeOf h₁ xv n) J0 (.ref r) { s with heap := h', toks := tk } := by
  subst hk
  exact ⟨h', tk, rfl, keep_of F F' N' hs, F'.ns.lt, ⟨r, t, u, v, rfl, hr, hsm, hn⟩, hj⟩
def EltEnd (s : Shared) (X : Addr) (h : Heap) (J : Value → Heap → Prop) (y : Value) (s' : Shared) : Prop := ∃ h' tk', s' = { s with heap := h', toks := tk' } ∧ Keep X h h' ∧ J y h'
theorem small5 : ((List.range 15).all fun i => Builtin.Range.small 0 ((i + 1 : Nat) : Int) 1 && (Builtin.Range.rangeSize 0 ((i + 1 : Nat) : Int) 1 == ((i + 1 : Nat) : Int))) = true := by decide
theorem tabs_of : ((List.range 5).all fun i => (List.range 5).all fun j => decide (i < j) || (tabs (i * (i + 1) / 2 + j) == j && signs (i * (i + 1) / 2 + j) == i && decide (i * (i + 1) / 2 + j < 15))) = true := by decide
section
variable {w : World} {mean : ExcName → Option Value} {mg mb : Str → Option Value} {dp un : Nat} {gd : Option (List Code)} {fa cd : Addr} {E : Value → Shared → Prop} {s : Shared} {h₀ h : Heap} {L : Addr} {m : Str → Option Value} {Q : Value → Shared → Prop}
def placesE : PySem.Expr := getV (lawSt 1)
theorem places_eval (hX : LFacts w mean mg mb dp un h₀) (F : Fr h₀ L s.heap m)
   (hQ : ∀ D h tk ys, Keep L s.heap h → Fr h₀ L h m → h.get? D = some (lst ys) → s.heap.get? D = none → LR (At h₀ L D place) 15 ys h → Q (.ref D) { s with heap := h, toks := tk }) :
   wpAny (model PP w) (lawA dp un gd L fa cd) (eval placesE (lawE L fa cd)) Q E s := by
  obtain ⟨hu9, hd9, B, X, T⟩ := id hX
  have hw : placesE = .ListComp _ [⟨.Name _ _, _, [], 0⟩, ⟨.Name _ _, _, [], 0⟩] _ _ := rfl
  rw [hw]
  clear hw
  have hfill : hd.heap_39 w.params = hd.heap_39 w.params ∧ PySem.Challenge.rw_pg0254_01 = PySem.Challenge.rw_pg0254_01 := by (k_fill; exact ⟨rfl, rfl⟩)
  clear hfill
  refine comp_two (n := 5) (fun i => i + 1) L (fun D i j ys h => h.Ns L m ∧ i * (i + 1) / 2 + j ≤ 15 ∧ LR (At h₀ L D place) (i * (i + 1) / 2 + j) ys h) rfl rfl rfl rfl (by decide) (fun N => rfl) rfl rfl (by decide) ?len ?src ?mono ?inner ?turn ?step ?fin
  case len =>
    rintro D i j ys h ⟨_, hl, e, _⟩
    rw [e]
    exact Nat.le_trans hl (Nat.le_of_ble_eq_true rfl)
  case src =>
    have N := allN_news h₀ s.heap L
    have hF : Unit → Fr h₀ L s.heap m := fun _ => F
    refine wpAny_mono (Q := SrcEnd s L (fun h₁ xv => RangeOf h₁ xv 5) (fun h₁ => ∀ D h, Keep L h₁ h → (∀ o, h₁.get? L = some o → h.get? L = some o) → h.Ns L m ∧ 0 * (0 + 1) / 2 + 0 ≤ 15 ∧ LR (At h₀ L D place) (0 * (0 + 1) / 2 + 0) [] h)) ?_ (fun _ _ x => x) fun _ _ x => x
    k_steps
    ((with_reducible rename Fr _ _ _ _ => F9); (with_reducible rename News _ _ _ _ => N9))
    refine src_range (hF ()) F9 N9 (fun p hp => hp) (by assumption) rfl (by decide) (by decide) fun D h _ hL => ⟨F9.ns.at' fun o e => hL o e, by decide, LR.nil⟩
  case mono =>
    rintro D i j ys h h' ⟨hn, hl, hp⟩ st
    exact ⟨hn.at' st.2, hl, hp.mono fun q y _ r => r.stab st⟩
  case inner =>
    intro i C D ys h tk m' t hi kp hC hCL hn hm hj
    have F9 := fr_of F kp hj.1
    obtain ⟨oC, hoC, hno⟩ := ns_obj hn
    have N9 : News h₀ L h ((C, oC) :: allN h₀ h L) := fun p hp => by
      rcases List.mem_cons.mp hp with rfl | hp
      · exact ⟨hoC, hCL, not_base F hC⟩
      · exact allN_news h₀ h L p hp
    refine wpAny_mono (Q := EltEnd s L h (fun xv h' => RangeOf h' xv (i + 1) ∧ h'.Ns L m ∧ i * (i + 1) / 2 + 0 ≤ 15 ∧ LR (At h₀ L D place) (i * (i + 1) / 2 + 0) ys h')) ?_ (fun _ _ x => x) fun _ _ x => x
    have hF : Unit → Fr h₀ L h m := fun _ => F9
    have hi' : (i : Int) < 5 := by omega
    clear F hn kp hQ
    have hj' : Unit → _ := fun _ : Unit => hj.2
    clear hj
    k_steps
    ((with_reducible rename Fr _ _ _ _ => F9); (with_reducible rename News _ _ _ _ => N9); (with_reducible rename IsRange _ _ _ _ _ _ _ _ => R9))
    have k9 := keep_of (hF ()) F9 N9 fun p hp => .tail _ hp
    have h5 := all1 small5 (show i < 15 by omega)
    simp only [Bool.and_eq_true, beq_iff_eq] at h5
    exact ⟨_, _, rfl, k9, ⟨_, _, _, _, rfl, R9, h5.1, h5.2⟩, F9.ns, (hj' ()).1, (hj' ()).2.mono fun q y _ r => r.keep k9⟩
  case turn =>
    intro i j C D ys h tk m' t0 t1 hi hj kp hD hDn hDL hC hCL hn hm0 hm1 hjj
    have F9 := fr_of F kp hjj.1
    obtain ⟨oC, hoC, hno⟩ := ns_obj hn
    have N9 : News h₀ L h ((C, oC) :: allN h₀ h L) := fun p hp => by
      rcases List.mem_cons.mp hp with rfl | hp
      · exact ⟨hoC, hCL, not_base F hC⟩
      · exact allN_news h₀ h L p hp
    refine wpAny_mono (Q := EltEnd s L h (fun y h' => h'.Ns L m ∧ i * (i + 1) / 2 + (j + 1) ≤ 15 ∧ LR (At h₀ L D place) (i * (i + 1) / 2 + (j + 1)) (ys ++ [y]) h')) ?_ (fun _ _ x => x) fun _ _ x => x
    have hF : Unit → Fr h₀ L h m := fun _ => F9
    have hD' := mem_allN hD (not_base F hDn) hDL
    clear F hn kp hQ
    have hj' : Unit → _ := fun _ : Unit => hjj.2
    clear hjj
    k_steps
    ((with_reducible rename Fr _ _ _ _ => F9); (with_reducible rename News _ _ _ _ => N9))
    rename _ < _ ∧ AllLt _ _ => l9
    have k9 := keep_of (hF ()) F9 N9 fun p hp => .tail _ (.tail _ hp)
    have h5 := all2 tabs_of hi (show j < 5 by omega)
    have hij : ¬ i < j := by omega
    simp only [hij, decide_false, Bool.false_or, Bool.and_eq_true, beq_iff_eq, decide_eq_true_eq] at h5
    have n9 := N9 _ (.head _)
    refine ⟨_, _, rfl, k9, F9.ns, h5.2, ((hj' ()).2.mono fun q y _ r => r.keep k9).snoc ⟨_, _, rfl, Nat.ne_of_gt (ktn_ltOf l9.2 _ hD'), n9.2.1, n9.2.2, n9.1, ⟨_, _, rfl⟩, place_of h5.1.1 h5.1.2 (by omega)⟩⟩
  case step =>
    rintro D i ys h ⟨hn, hp⟩
    refine ⟨hn, ?_⟩
    have e : (i + 1) * (i + 1 + 1) / 2 + 0 = i * (i + 1) / 2 + (i + 1) := by
      rw [show (i + 1) * (i + 1 + 1) = i * (i + 1) + (i + 1) * 2 by rw [Nat.mul_comm i, ← Nat.mul_add], Nat.add_mul_div_right _ _ (by decide), Nat.add_zero]
    rw [e]; exact hp
  case fin =>
    intro D h tk ys kp hD hDn hDL hj
    exact hQ D h tk ys kp (fr_of F kp hj.1) hD hDn hj.2.2
end
end Mine
end PartLb
section PartLc
open PySem PySem.W PyProof.Rows
set_option Elab.async false
set_option maxRecDepth 100000
set_option maxHeartbeats 1000000
open PySem PySem.W PyProof.Rows
namespace Mine
open PyProof.Rows.LCg
/-- lists and tuples other than D, and the frame, stay -/
abbrev Seqs (D L : Addr) (h h' : Heap) : Prop := ∀ b o its n, o.data = .seq its n → b ≠ D → b ≠ L → h.get? b = some o → h'.get? b = some o
theorem At.seqs {h₀ h h' : Heap} {L D : Addr} {O : Nat → Obj → Prop} {q : Nat} {y : Value} (P : At h₀ L D O q y h) (st : Seqs D L h h') : At h₀ L D O q y h' := by
  obtain ⟨a, o, rfl, hD, hL, h0, e, ⟨its, n, hd⟩, ho⟩ := P
  exact ⟨a, o, rfl, hD, hL, h0, st _ _ _ _ hd hD hL e, ⟨its, n, hd⟩, ho⟩
section
variable {prog : Program} {w : World} {A : Around} {E : Value → Shared → Prop} {s : Shared} {env : Env} {h₀ : Heap} {L : Addr} {m : Str → Option Value}
/-- the end of a turn that gives a value -/
def RowEnd (s : Shared) (L : Addr) (m : Str → Option Value) (ownc : Addr → List (Str × Addr)) (C : Addr) (h : Heap) (R : Value → Heap → Prop) (y : Value) (s' : Shared) : Prop :=
  ∃ h' tk', s' = { s with heap := h', toks := tk' } ∧ KeepOff ownc C L h h' ∧ Cs ownc C h' ∧ h'.Ns L m ∧ R y h'
theorem comp_R {elt tgt iter : PySem.Expr} {scope : Scope} {pos : Pos} {cl : List (Str × Addr)} {ownc : Addr → List (Str × Addr)} {n : Nat} {P : Nat → Value → Prop} {Q : Value → Shared → Prop}
    (R : Addr → Nat → Value → Heap → Prop) (hR : ∀ D q y h h', R D q y h → Seqs D L h h' → R D q y h') (F : Fr h₀ L s.heap m)
    (hh : A.handled = none) (hsz : n ≤ sizeLine) (hclos : closureFor scope env = pure cl) (hkind : scope.kind = .function)
    (hnames : ∀ y ∈ scope.names, y.2 = .local → scope.names.lookup y.1 = some .local) (hlay : ∀ N, cellsFrom N scope.names [] = ownc N)
    (h : wpAny (model prog w) A (eval iter env) (SrcEnd s L (fun h₁ xv => Src L h₁ xv n P) (fun h₁ => h₁.Ns L m)) E s)
    (hturn : ∀ i v C D ys h tk, i < n → P i v → Keep L s.heap h → Fr h₀ L h m → D < C → h.get? D = some (lst ys) → s.heap.get? D = none → D ≠ L → (∀ b, Own ownc C b → h₀.get? b = none ∧ b ≠ L) → (∀ b, Own ownc C b → s.heap.get? b = none) → Cs ownc C h →
      wpAny (model prog w) A (assign tgt (compEnvC scope (cellsFrom (C + 1) scope.names cl) C env) v) (fun _ s₄ =>
        wpAny (model prog w) A (eval elt (compEnvC scope (cellsFrom (C + 1) scope.names cl) C env)) (RowEnd s L m ownc C h (R D i)) (fun _ _ => False) s₄) (fun _ _ => False) { s with heap := h, toks := tk })
    (hQ : ∀ D h tk ys, Keep L s.heap h → Fr h₀ L h m → h.get? D = some (lst ys) → s.heap.get? D = none → D ≠ L → LR (R D) n ys h → Q (.ref D) { s with heap := h, toks := tk })
    (hs : ∀ x, foldedSetIterable iter env x = pure x := by intro _; rfl) :
    wpAny (model prog w) A (eval (.ListComp elt [⟨tgt, iter, [], 0⟩] scope pos) env) Q E s := by
  refine comp_K (n := n) (P := P) L (fun D i ys h => h.Ns L m ∧ LR (R D) i ys h) hh hsz hclos hkind hnames hlay ?_ (fun D i ys h h' hj st => ⟨hj.1.at' st.2, hj.2.mono fun q y _ r => hR _ _ _ _ _ r st.1⟩) ?_ ?_ hs
  · refine wpAny_mono h (fun xv s₁ h₁ => ?_) fun _ _ x => x
    obtain ⟨h₁, tk₁, rfl, k, hl, src, hn⟩ := h₁
    exact ⟨h₁, tk₁, rfl, k, hl, src, fun D h _ hL => ⟨hn.at' hL, LR.nil⟩⟩
  · intro i v C D ys h tk hi hP kp hlt hD hDn hDL hno hc hj
    have F' := fr_of F kp hj.1
    refine wpAny_mono (hturn i v C D ys h tk hi hP kp F' hlt hD hDn hDL (fun b hb => ⟨not_base F (hno b hb).1, (hno b hb).2⟩) (fun b hb => (hno b hb).1) hc) (fun _ s₃ h₃ => wpAny_tests_nil ?_) fun _ _ x => x
    simp only [if_true]
    refine wpAny_mono h₃ (fun y s₄ h₄ => ?_) fun _ _ x => x
    obtain ⟨h', tk', rfl, k, c, hn, r⟩ := h₄
    have st : Seqs D L h h' := fun b o its n hd _ hb e => k b o (hc.own hd e) hb e
    exact ⟨h', tk', rfl, k, c, by simp only [if_true]; exact ⟨hn, (hj.2.mono fun q y _ r => hR _ _ _ _ _ r st).snoc r⟩⟩
  · intro D h tk ys kp hD hDn hDL hj
    exact hQ D h tk ys kp (fr_of F kp hj.1) hD hDn hDL hj.2
theorem comp_RA {elt tgt iter : PySem.Expr} {scope : Scope} {pos spos py : Pos} {y : Str} {cl : List (Str × Addr)} {ownc : Addr → List (Str × Addr)} {n : Nat} {P : Nat → Value → Prop} {Q : Flow → Shared → Prop}
    (R : Addr → Nat → Value → Heap → Prop) (hR : ∀ D q y h h', R D q y h → Seqs D L h h' → R D q y h') (F : Fr h₀ L s.heap m) (hLe : env.locals = L)
    (hh : A.handled = none) (hsz : n ≤ sizeLine) (hclos : closureFor scope env = pure cl) (hkind : scope.kind = .function)
    (hsw : swapsWith (.ListComp elt [⟨tgt, iter, [], 0⟩] scope pos) (some (.Name y py)) spos.line env = pure true)
    (hy : env.kindOf y = some .local) (hp : (env.scope.kind == .class || (env.scope.kind == .module && env.locals != env.globals)) = false)
    (hnames : ∀ y ∈ scope.names, y.2 = .local → scope.names.lookup y.1 = some .local) (hlay : ∀ N, cellsFrom N scope.names [] = ownc N)
    (h : wpAny (model prog w) A (eval iter env) (SrcEnd s L (fun h₁ xv => Src L h₁ xv n P) (fun h₁ => h₁.Ns L m)) E s)
    (hturn : ∀ i v C D ys h tk, i < n → P i v → Keep L s.heap h → Fr h₀ L h m → D < C → h.get? D = some (lst ys) → s.heap.get? D = none → D ≠ L → (∀ b, Own ownc C b → h₀.get? b = none ∧ b ≠ L) → (∀ b, Own ownc C b → s.heap.get? b = none) → Cs ownc C h →
      wpAny (model prog w) A (assign tgt (compEnvC scope (cellsFrom (C + 1) scope.names cl) C env) v) (fun _ s₄ =>
        wpAny (model prog w) A (eval elt (compEnvC scope (cellsFrom (C + 1) scope.names cl) C env)) (RowEnd s L m ownc C h (R D i)) (fun _ _ => False) s₄) (fun _ _ => False) { s with heap := h, toks := tk })
    (hQ : ∀ D h tk ys, Keep L s.heap h → Fr h₀ L h (fun z => if z = y then some (.ref D) else m z) → h.get? D = some (lst ys) → s.heap.get? D = none → D ≠ L → LR (R D) n ys h → Q .next { s with heap := h, toks := tk })
    (hs : ∀ x, foldedSetIterable iter env x = pure x := by intro _; rfl) :
    wpAny (model prog w) A (exec (.Assign [.Name y py] (.ListComp elt [⟨tgt, iter, [], 0⟩] scope pos) spos) env) Q E s := by
  subst hLe
  refine comp_A (n := n) (P := P) (fun D i ys h => h.Ns env.locals m ∧ LR (R D) i ys h) hh hsz hclos hkind hsw hy hp hnames hlay ?_ (fun D i ys h h' hj st => ⟨hj.1.at' st.2, hj.2.mono fun q y _ r => hR _ _ _ _ _ r st.1⟩) (fun D i ys h hj => ⟨m, hj.1⟩) ?_ ?_ hs
  · refine wpAny_mono h (fun xv s₁ h₁ => ?_) fun _ _ x => x
    obtain ⟨h₁, tk₁, rfl, k, hl, src, hn⟩ := h₁
    exact ⟨h₁, tk₁, rfl, k, hl, src, fun D h _ hL => ⟨hn.at' hL, LR.nil⟩⟩
  · intro i v C D ys h tk hi hP kp hlt hD hDn hDL hno hc hj
    have F' := fr_of F kp hj.1
    refine wpAny_mono (hturn i v C D ys h tk hi hP kp F' hlt hD hDn hDL (fun b hb => ⟨not_base F (hno b hb).1, (hno b hb).2⟩) (fun b hb => (hno b hb).1) hc) (fun _ s₃ h₃ => wpAny_tests_nil ?_) fun _ _ x => x
    simp only [if_true]
    refine wpAny_mono h₃ (fun y s₄ h₄ => ?_) fun _ _ x => x
    obtain ⟨h', tk', rfl, k, c, hn, r⟩ := h₄
    have st : Seqs D env.locals h h' := fun b o its n hd _ hb e => k b o (hc.own hd e) hb e
    exact ⟨h', tk', rfl, k, c, by simp only [if_true]; exact ⟨hn, (hj.2.mono fun q y _ r => hR _ _ _ _ _ r st).snoc r⟩⟩
  · intro D h₁ h₂ m' tk ys kp hD hDn hDL hj hm hst hn
    have em : m' = m := by
      obtain ⟨o, es, ep, e, hd, _, f⟩ := hm
      obtain ⟨o', es', ep', e', hd', _, f'⟩ := hj.1
      rw [e] at e'
      cases e'
      rw [hd] at hd'
      cases hd'
      funext z
      rw [← f, ← f']
    rw [em] at hn
    exact hQ D h₂ tk ys kp ⟨hn, fun b o e => kp b o (fun q => by rw [q, Heap.get?_none_of_le F.above] at e; cases e) (F.keep b o e), F.above⟩ hD hDn hDL (hj.2.mono fun q y _ r => hR _ _ _ _ _ r fun b o its n hd _ hb e => hst b o its n hd hb e)
/-- all but C stays -/
abbrev OffC (C : Addr) (h h₁ : Heap) : Prop := ∀ b o, b ≠ C → h.get? b = some o → h₁.get? b = some o
/-- the turn's name is a local of the block -/
theorem turn_local {x : Str} {px : Pos} {v : Value} {scope : Scope} {cl : List (Str × Addr)} {C : Addr} {tk : Nat} {h : Heap} {G : Shared → Prop} {E : Value → Shared → Prop} {M : Model} (hx : scope.names.lookup x = some .local) (hkind : scope.kind = .function)
    (F : Fr h₀ L h m) (hC : ∃ mC, h.Ns C mC) (hC0 : h₀.get? C = none) (hCL : C ≠ L)
    (hG : ∀ h₁ oC m₂, OffC C h h₁ → Fr h₀ L h₁ m → NsObj oC m₂ → m₂ x = some v → h₁.get? C = some oC → News h₀ L h₁ ((C, oC) :: allN h₀ h₁ L) → G { s with heap := h₁, toks := tk + 1 }) :
    wpAny M A (assign (.Name x px) (compEnvC scope cl C env) v) (fun _ s => G s) E { s with heap := h, toks := tk } := by
  obtain ⟨mC, hn⟩ := hC
  refine wpAny_assign_Name (wpAny_storeName_local (lookup_relabel_local hx) hn (fun h₁ hn₁ hs₁ => ?_) (by simp [compEnvC, relabel, hkind]))
  replace hs₁ : Heap.SameBut C h h₁ := hs₁
  obtain ⟨oC, hoC, hno⟩ := ns_obj hn₁
  replace hoC : h₁.get? C = some oC := hoC
  refine hG h₁ oC _ (fun b o hb e => hs₁.extBut b o hb e) ⟨F.ns.at' fun o e => hs₁.extBut _ _ (Ne.symm hCL) e, fun b o e => hs₁.extBut b o (fun q => by rw [q, hC0] at e; cases e) (F.keep b o e), F.above⟩ hno (by simp) hoC fun p hp => ?_
  rcases List.mem_cons.mp hp with rfl | hp
  · exact ⟨hoC, hCL, hC0⟩
  · exact allN_news h₀ h₁ L p hp
theorem each_nil {env : Env} : assignEach [] env = [] := rfl
theorem each_name {x : Str} {p : Pos} {rest : List PySem.Expr} {env : Env} : assignEach (.Name x p :: rest) env = (false, assign (.Name x p) env) :: assignEach rest env := rfl
theorem unpack3 {v : Value} {f g h : Value → Sem Unit} : unpack v [(false, f), (false, g), (false, h)] = holding [v] (unpackItems v 3 none) >>= fun xs => assignInOrder [f, g, h] xs := rfl
theorem unpack2 {v : Value} {f g : Value → Sem Unit} : unpack v [(false, f), (false, g)] = holding [v] (unpackItems v 2 none) >>= fun xs => assignInOrder [f, g] xs := rfl
/-- the frame and C, once C's names are set -/
theorem turn_close {h h₁ : Heap} {C : Addr} {m₂ : Str → Option Value} (F : Fr h₀ L h m) (hC0 : h₀.get? C = none) (hCL : C ≠ L) (hn₁ : h₁.Ns C m₂) (hs₁ : OffC C h h₁) :
    ∃ oC, Fr h₀ L h₁ m ∧ NsObj oC m₂ ∧ h₁.get? C = some oC ∧ News h₀ L h₁ ((C, oC) :: allN h₀ h₁ L) := by
  obtain ⟨oC, hoC, hno⟩ := ns_obj hn₁
  refine ⟨oC, ⟨F.ns.at' fun o e => hs₁ _ _ (Ne.symm hCL) e, fun b o e => hs₁ b o (fun q => by rw [q, hC0] at e; cases e) (F.keep b o e), F.above⟩, hno, hoC, fun p hp => ?_⟩
  rcases List.mem_cons.mp hp with rfl | hp
  · exact ⟨hoC, hCL, hC0⟩
  · exact allN_news h₀ h₁ L p hp
theorem turn_list3 {x y z : Str} {px py pz pt : Pos} {k : Nat} {v1 v2 v3 : Value} {scope : Scope} {cl : List (Str × Addr)} {C a : Addr} {tk : Nat} {h : Heap} {G : Shared → Prop} {E : Value → Shared → Prop}
    (hx : scope.names.lookup x = some .local) (hy : scope.names.lookup y = some .local) (hz : scope.names.lookup z = some .local) (hxy : x ≠ y) (hxz : x ≠ z) (hyz : y ≠ z) (hkind : scope.kind = .function) (hh : A.handled = none)
    (F : Fr h₀ L h m) (hC : ∃ mC, h.Ns C mC) (hC0 : h₀.get? C = none) (hCL : C ≠ L) (hl : h.IsList a #[v1, v2, v3])
    (hG : ∀ h₁ oC m₂ tk', OffC C h h₁ → Fr h₀ L h₁ m → NsObj oC m₂ → m₂ x = some v1 → m₂ y = some v2 → m₂ z = some v3 → h₁.get? C = some oC → News h₀ L h₁ ((C, oC) :: allN h₀ h₁ L) → G { s with heap := h₁, toks := tk' }) :
    wpAny (model prog w) A (assign (.Tuple [.Name x px, .Name y py, .Name z pz] k pt) (compEnvC scope cl C env) (.ref a)) (fun _ s => G s) E { s with heap := h, toks := tk } := by
  obtain ⟨mC, hn⟩ := hC
  rw [assign_Tuple]
  refine wpAny_bind (wpAny_standAt ?_)
  rw [each_name, each_name, each_name, each_nil, unpack3]
  refine wpAny_bind (wpAny_holding (kun_itemsOf (items := #[v1, v2, v3]) hh hl fun h' he => ?_))
  have hCs : C < h.objs.size := hn.lt
  have up : ∀ b o, h.get? b = some o → h'.get? b = some o := fun b o e => he b o (Nat.ne_of_lt (Heap.lt_size e)) e
  refine wpAny_assignInOrder_more (wpAny_assign_Name (wpAny_storeName_local (lookup_relabel_local hx) (hn.keeps up) (fun h₁ hn₁ hs₁ => ?_) (by simp [compEnvC, relabel, hkind])))
  refine wpAny_assignInOrder_more (wpAny_assign_Name (wpAny_storeName_local (lookup_relabel_local hy) hn₁ (fun h₂ hn₂ hs₂ => ?_) (by simp [compEnvC, relabel, hkind])))
  refine wpAny_assignInOrder_more (wpAny_assign_Name (wpAny_storeName_local (lookup_relabel_local hz) hn₂ (fun h₃ hn₃ hs₃ => ?_) (by simp [compEnvC, relabel, hkind])))
  refine wpAny_assignInOrder_none ?_
  have off : OffC C h h₃ := fun b o hb e => hs₃.extBut b o hb (hs₂.extBut b o hb (hs₁.extBut b o hb (up b o e)))
  obtain ⟨oC, F₃, hno, hoC, N₃⟩ := turn_close F hC0 hCL hn₃ off
  exact hG h₃ oC _ _ off F₃ hno (by simp [hxy, hxz]) (by simp [hyz]) (by simp) hoC N₃
theorem turn_tup2 {x y : Str} {px py pt : Pos} {k : Nat} {v1 v2 : Value} {scope : Scope} {cl : List (Str × Addr)} {C a : Addr} {tk : Nat} {h : Heap} {G : Shared → Prop} {E : Value → Shared → Prop}
    (hx : scope.names.lookup x = some .local) (hy : scope.names.lookup y = some .local) (hxy : x ≠ y) (hkind : scope.kind = .function) (hh : A.handled = none)
    (F : Fr h₀ L h m) (hC : ∃ mC, h.Ns C mC) (hC0 : h₀.get? C = none) (hCL : C ≠ L) (hl : IsTup h a #[v1, v2])
    (hG : ∀ h₁ oC m₂ tk', OffC C h h₁ → Fr h₀ L h₁ m → NsObj oC m₂ → m₂ x = some v1 → m₂ y = some v2 → h₁.get? C = some oC → News h₀ L h₁ ((C, oC) :: allN h₀ h₁ L) → G { s with heap := h₁, toks := tk' }) :
    wpAny (model prog w) A (assign (.Tuple [.Name x px, .Name y py] k pt) (compEnvC scope cl C env) (.ref a)) (fun _ s => G s) E { s with heap := h, toks := tk } := by
  obtain ⟨mC, hn⟩ := hC
  rw [assign_Tuple]
  refine wpAny_bind (wpAny_standAt ?_)
  rw [each_name, each_name, each_nil, unpack2]
  refine wpAny_bind (wpAny_holding (unpackItems_tuple (items := #[v1, v2]) hh hl fun h' he => ?_))
  have up : ∀ b o, h.get? b = some o → h'.get? b = some o := fun b o e => he b o (Nat.ne_of_lt (Heap.lt_size e)) e
  refine wpAny_assignInOrder_more (wpAny_assign_Name (wpAny_storeName_local (lookup_relabel_local hx) (hn.keeps up) (fun h₁ hn₁ hs₁ => ?_) (by simp [compEnvC, relabel, hkind])))
  refine wpAny_assignInOrder_more (wpAny_assign_Name (wpAny_storeName_local (lookup_relabel_local hy) hn₁ (fun h₂ hn₂ hs₂ => ?_) (by simp [compEnvC, relabel, hkind])))
  refine wpAny_assignInOrder_none ?_
  have off : OffC C h h₂ := fun b o hb e => hs₂.extBut b o hb (hs₁.extBut b o hb (up b o e))
  obtain ⟨oC, F₃, hno, hoC, N₃⟩ := turn_close F hC0 hCL hn₂ off
  exact hG h₂ oC _ _ off F₃ hno (by simp [hxy]) (by simp) hoC N₃
/-- the turn's name is a cell of the block -/
theorem turn_cell {x : Str} {px : Pos} {v : Value} {scope : Scope} {cells : List (Str × Addr)} {C c : Addr} {tk : Nat} {h : Heap} {G : Shared → Prop} {E : Value → Shared → Prop} {M : Model} (hx : (compEnvC scope cells C env).kindOf x = some .cell) (hkind : scope.kind = .function)
    (hc : cells.lookup x = some c) (hcc : ∃ v, h.IsCell c v) (F : Fr h₀ L h m) (hC0 : h₀.get? c = none) (hCL : c ≠ L)
    (hG : ∀ h₁ o, OffC c h h₁ → Fr h₀ L h₁ m → o.data = .cell (some v) → h₁.get? c = some o → G { s with heap := h₁, toks := tk }) :
    wpAny M A (assign (.Name x px) (compEnvC scope cells C env) v) (fun _ s => G s) E { s with heap := h, toks := tk } := by
  obtain ⟨v₀, hv₀⟩ := hcc
  refine wpAny_assign_Name (wpAny_storeName_cell (by simpa [compEnvC, relabel] using hkind) hx hc hv₀ fun h₁ hv hs => ?_)
  obtain ⟨o, ho, hd⟩ := hv
  exact hG h₁ o (fun b o hb e => hs.extBut b o hb e) ⟨F.ns.at' fun o e => hs.extBut _ _ (Ne.symm hCL) e, fun b o e => hs.extBut b o (fun q => by rw [q, hC0] at e; cases e) (F.keep b o e), F.above⟩ hd ho
end
end Mine
end PartLc
section PartLd
open PySem PySem.W PyProof.Rows
set_option Elab.async false
set_option maxRecDepth 100000
set_option maxHeartbeats 1000000
open PySem PySem.W PyProof.Rows
namespace Mine
open PyProof.Rows.LCg
theorem news_add {h₀ h : Heap} {L a : Addr} {o : Obj} {news : List (Addr × Obj)} (N : News h₀ L h news) (e : h.get? a = some o) (h0 : h₀.get? a = none) (hL : a ≠ L) : News h₀ L h ((a, o) :: news) := fun p hp => by
  rcases List.mem_cons.mp hp with rfl | hp
  · exact ⟨e, hL, h0⟩
  · exact N p hp
theorem src_list {h₀ h' : Heap} {s : Shared} {L a : Addr} {m : Str → Option Value} {news : List (Addr × Obj)} {n tk : Nat} {P : Nat → Value → Prop} {its : Array Value} (F : Fr h₀ L s.heap m) (F' : Fr h₀ L h' m) (N' : News h₀ L h' news) (hs : ∀ p ∈ allN h₀ s.heap L, p ∈ news)
    (haL : a ≠ L) (hl : h'.IsList a its) (hn : its.size = n) (hP : ∀ i v, its[i]? = some v → P i v) : SrcEnd s L (fun h₁ xv => Src L h₁ xv n P) (fun h₁ => h₁.Ns L m) (.ref a) { s with heap := h', toks := tk } :=
  ⟨h', tk, rfl, keep_of F F' N' hs, F'.ns.lt, .inl ⟨a, its, rfl, haL, hl, hn, hP⟩, F'.ns⟩
/-- no cells of its own -/
abbrev noCells : Addr → List (Str × Addr) := fun _ => []
section
variable {w : World} {mean : ExcName → Option Value} {mg mb : Str → Option Value} {dp un : Nat} {gd : Option (List Code)} {fa cd : Addr} {E : Value → Shared → Prop} {s : Shared} {h₀ h : Heap} {L : Addr} {m : Str → Option Value} {Q : Value → Shared → Prop}
/-- the end of a turn whose block has no cells -/
theorem row_end {h h₁ h' : Heap} {C : Addr} {oC : Obj} {m₂ : Str → Option Value} {news : List (Addr × Obj)} {R : Value → Heap → Prop} {y : Value} {tk : Nat} (hs : OffC C h h₁) (F : Fr h₀ L h₁ m) (F' : Fr h₀ L h' m) (N' : News h₀ L h' news) (hsub : ∀ p ∈ allN h₀ h₁ L, p ∈ news)
    (hno : NsObj oC m₂) (hC : (C, oC) ∈ news) (r : Keep L h₁ h' → R y h') : RowEnd s L m noCells C h R y { s with heap := h', toks := tk } :=
  ⟨h', tk, rfl, fun b o hb hL e => keep_of F F' N' hsub b o hL (hs b o (fun q => hb (.inl q)) e), ⟨⟨m₂, hno.ns (N' _ hC).1⟩, fun p hp => nomatch hp⟩, F'.ns, r (keep_of F F' N' hsub)⟩
def threeE : PySem.Expr := getV (lawSt 3)
theorem three_eval (hX : LFacts w mean mg mb dp un h₀) (F : Fr h₀ L s.heap m) {an : Addr} {x1 x2 x3 : Int} {t1 t2 t3 : Tok} {n : Nat} (hm : m "numbers" = some (.ref an)) (han : s.heap.get? an = some (PySem.W.listOf #[.int x1 t1, .int x2 t2, .int x3 t3] n)) (hanL : an ≠ L) (han0 : h₀.get? an = none)
   (hQ : ∀ D h tk ys, Keep L s.heap h → Fr h₀ L h m → h.get? D = some (lst ys) → s.heap.get? D = none → D ≠ L → LR (fun q y _ => ∃ t, y = .int (([x1, x2, x3].getD q 0).fmod 15) t) 3 ys h → Q (.ref D) { s with heap := h, toks := tk }) :
   wpAny (model PP w) (lawA dp un gd L fa cd) (eval threeE (lawE L fa cd)) Q E s := by
  obtain ⟨hu9, hd9, B, X, T⟩ := id hX
  have hw : threeE = .ListComp _ [⟨.Name _ _, _, [], 0⟩] _ _ := rfl
  rw [hw]
  clear hw
  have hfill : hd.heap_39 w.params = hd.heap_39 w.params ∧ PySem.Challenge.rw_pg0254_01 = PySem.Challenge.rw_pg0254_01 := by (k_fill; exact ⟨rfl, rfl⟩)
  clear hfill
  refine comp_R (n := 3) (P := fun i v => ∃ t, v = .int ([x1, x2, x3].getD i 0) t) (ownc := noCells) (fun _ q y _ => ∃ t, y = .int (([x1, x2, x3].getD q 0).fmod 15) t) (fun _ _ _ _ _ r _ => r) F rfl (by decide) rfl rfl (by decide) (fun N => rfl) ?src ?turn ?fin
  case src =>
    refine nameX_L F hm ?_
    refine src_list F F (allN_news h₀ s.heap L) (fun p hp => hp) hanL ⟨_, han, rfl, _, rfl⟩ rfl fun i v hv => ?_
    match i, hv with
    | 0, hv => cases hv; exact ⟨_, rfl⟩
    | 1, hv => cases hv; exact ⟨_, rfl⟩
    | 2, hv => cases hv; exact ⟨_, rfl⟩
    | n + 3, hv => simp at hv
  case turn =>
    intro i v C D ys h tk hi ⟨t, hv⟩ kp F' hlt hD hDn hDL hno hns hc
    subst hv
    refine turn_local rfl rfl F' hc.1 (hno C (.inl rfl)).1 (hno C (.inl rfl)).2 fun h₁ oC m₂ hs₁ F₁ hno₁ hm₁ hC₁ N₁ => ?_
    have hF : Unit → Fr h₀ L h₁ m := fun _ => F₁
    generalize [x1, x2, x3].getD i 0 = z at hm₁ ⊢
    clear F' F
    k_steps
    ((with_reducible rename Fr _ _ _ _ => F9); (with_reducible rename News _ _ _ _ => N9))
    exact row_end hs₁ (hF ()) F9 N9 (fun p hp => .tail _ hp) hno₁ (.head _) fun k => ⟨_, rfl⟩
  case fin =>
    exact hQ
end
end Mine
end PartLd
section PartLe
open PySem PySem.W PyProof.Rows
set_option Elab.async false
set_option maxRecDepth 100000
set_option maxHeartbeats 1000000
open PySem PySem.W PyProof.Rows
namespace Mine
open PyProof.Rows.LCg
/-- a cell of the law that holds v -/
def CellAt (h₀ h : Heap) (L c : Addr) (v : Value) : Prop := c ≠ L ∧ h₀.get? c = none ∧ ∃ o, h.get? c = some o ∧ o.data = .cell (some v)
theorem CellAt.keep {h₀ h h' : Heap} {L c : Addr} {v : Value} (x : CellAt h₀ h L c v) (k : Keep L h h') : CellAt h₀ h' L c v := by
  obtain ⟨a, b, o, e, d⟩ := x
  exact ⟨a, b, o, k _ _ a e, d⟩
section
variable {w : World} {mean : ExcName → Option Value} {mg mb : Str → Option Value} {dp un : Nat} {gd : Option (List Code)} {fa cd : Addr} {E : Value → Shared → Prop} {s : Shared} {h₀ h : Heap} {L : Addr} {m : Str → Option Value} {Q : Value → Shared → Prop}
/-- a cell of the law's read in the law -/
theorem ld_cell {M : Model} {A : Around} {x : Str} {pos : Pos} {c : Addr} {v : Value} (hc : CellAt h₀ s.heap L c v) (hx : (lawE L fa cd).cells.lookup x = some c) (h : Q v s)
    (hk : (lawE L fa cd).scope.kind = .function := by rfl) (hl : (lawE L fa cd).kindOf x = some .cell := by rfl) (hd : (x == ("__debug__" : Str)) = false := by decide) : wpAny M A (eval (.Name x pos) (lawE L fa cd)) Q E s := by
  obtain ⟨_, _, o, e, d⟩ := hc
  exact wpAny_Name (wpAny_loadName_cell hk hl hx ⟨o, e, d⟩ h) hd
/-- a cell of the law's read in a block -/
theorem ld_free {M : Model} {A : Around} {env : Env} {x : Str} {pos : Pos} {c : Addr} {v : Value} (hc : CellAt h₀ s.heap L c v) (hx : env.cells.lookup x = some c) (h : Q v s)
    (hk : env.scope.kind = .function := by rfl) (hl : env.kindOf x = some .cell := by rfl) (hd : (x == ("__debug__" : Str)) = false := by decide) : wpAny M A (eval (.Name x pos) env) Q E s := by
  obtain ⟨_, _, o, e, d⟩ := hc
  exact wpAny_Name (wpAny_loadName_cell hk hl hx ⟨o, e, d⟩ h) hd
theorem tx_is : ((List.range 15).all fun i => (Txt.mul (Str.ofString "\t") ((tabs i : Nat) : Int) ++ Txt.mul (Str.ofString " ") ((signs i - tabs i : Nat) : Int) ++ Str.ofString "x" == tx i) && decide (tabs i ≤ 4) && decide (signs i - tabs i ≤ 4) && decide (tabs i ≤ signs i) && decide (signs i ≤ 4)) = true := by decide +kernel
def textsE : PySem.Expr := getV (lawSt 2)
theorem texts_eval (hX : LFacts w mean mg mb dp un h₀) (F : Fr h₀ L s.heap m) {aP : Addr} {ysP : List Value} (cP : CellAt h₀ s.heap L (L + 1) (.ref aP)) (hP : s.heap.get? aP = some (lst ysP)) (hPL : aP ≠ L) (lP : LR (At h₀ L aP place) 15 ysP s.heap)
   (hQ : ∀ D h tk ys, Keep L s.heap h → Fr h₀ L h m → h.get? D = some (lst ys) → s.heap.get? D = none → D ≠ L → LR (fun q y _ => ∃ t, y = .str (tx q) t) 15 ys h → Q (.ref D) { s with heap := h, toks := tk }) :
   wpAny (model PP w) (lawA dp un gd L fa cd) (eval textsE (lawE L fa cd)) Q E s := by
  obtain ⟨hu9, hd9, B, X, T⟩ := id hX
  have hw : textsE = .ListComp _ [⟨.Tuple [.Name _ _, .Name _ _, .Name _ _] _ _, .Name _ _, [], 0⟩] _ _ := rfl
  rw [hw]
  clear hw
  have hfill : hd.heap_39 w.params = hd.heap_39 w.params ∧ PySem.Challenge.rw_pg0254_01 = PySem.Challenge.rw_pg0254_01 := by (k_fill; exact ⟨rfl, rfl⟩)
  clear hfill
  refine comp_R (n := 15) (P := fun i v => At h₀ L aP place i v s.heap) (ownc := noCells) (fun _ q y _ => ∃ t, y = .str (tx q) t) (fun _ _ _ _ _ r _ => r) F rfl (by decide) rfl rfl (by decide) (fun N => rfl) ?src ?turn ?fin
  case src =>
    refine ld_cell cP rfl ?_
    refine src_list F F (allN_news h₀ s.heap L) (fun p hp => hp) hPL ⟨_, hP, rfl, _, rfl⟩ (by rw [List.size_toArray, lP.1]) fun i v hv => ?_
    rw [List.getElem?_toArray] at hv
    have hi : i < 15 := by
      rw [← lP.1]
      exact (List.getElem?_eq_some_iff.mp hv).1
    obtain ⟨y, e, r⟩ := lP.2 i hi
    rw [hv] at e
    cases e
    exact r
  case turn =>
    intro i v C D ys h tk hi hP kp F' hlt hD hDn hDL hno hns hc
    have hP := hP.keep kp
    obtain ⟨a, o, rfl, _, haL, ha0, hao, _, t1, t2, t3, n, rfl⟩ := hP
    refine turn_list3 rfl rfl rfl (by decide) (by decide) (by decide) rfl rfl F' hc.1 (hno C (.inl rfl)).1 (hno C (.inl rfl)).2 ⟨_, hao, rfl, _, rfl⟩ fun h₁ oC m₂ tk' hs₁ F₁ hno₁ hm₁ hm₂ hm₃ hC₁ N₁ => ?_
    have hF : Unit → Fr h₀ L h₁ m := fun _ => F₁
    clear F' F
    have hT := all1 tx_is hi
    simp only [Bool.and_eq_true, beq_iff_eq, decide_eq_true_eq] at hT
    obtain ⟨⟨⟨⟨e9, p9⟩, q9⟩, _⟩, _⟩ := hT
    generalize tabs i = p at hm₁ hm₂ p9 q9 e9
    generalize signs i - p = q at hm₂ q9 e9
    have e8 : Unit → _ := fun _ : Unit => e9
    clear e9 hm₃ hP hao lP cP hQ
    k_steps
    ((with_reducible rename Fr _ _ _ _ => F9); (with_reducible rename News _ _ _ _ => N9))
    exact row_end hs₁ (hF ()) F9 N9 (fun p hp => .tail _ hp) hno₁ (.head _) fun k => ⟨_, by rw [← e8 ()]⟩
  case fin =>
    exact hQ
end
end Mine
end PartLe
section PartLf
open PySem PySem.W PyProof.Rows
set_option Elab.async false
set_option maxRecDepth 100000
set_option maxHeartbeats 1000000
open PySem PySem.W PyProof.Rows
namespace Mine
open PyProof.Rows.LCg
theorem row_item {prog : Program} {w : World} {A : Around} {E : Value → Shared → Prop} {s : Shared} {value slice : PySem.Expr} {a : Addr} {ys : List Value} {k : Nat} {u : Tok} {x : Value} {Q : Value → Shared → Prop} (hl : s.heap.get? a = some (lst ys)) (hx : ys[k]? = some x) (hk : k < 63) (h : Q x s)
    (hs : subscripted slice false (.ref a) (.int (k : Int) u) = operate [.ref a, .int (k : Int) u] (getItem (.ref a) (.int (k : Int) u)) := by with_unfolding_all rfl) (hg : ∀ r, letTemporaryGo value (.ref a) r = pure () := by intro _; with_unfolding_all rfl) :
    wpAny (model prog w) A (subscriptTail value slice (.ref a) (.int (k : Int) u)) Q E s :=
  item_listL (l := ys) ⟨_, hl, rfl, _, rfl⟩ (by omega) (by omega) (by simpa using hx) h hs hg
/-- the three remainders, as a list of the heap -/
abbrev R3 (k1 k2 k3 : Nat) : Nat → Value → Heap → Prop := fun q y _ => ∃ t, y = .int (([k1, k2, k3].getD q 0 : Nat) : Int) t
section
variable {w : World} {mean : ExcName → Option Value} {mg mb : Str → Option Value} {dp un : Nat} {gd : Option (List Code)} {fa cd : Addr} {E : Value → Shared → Prop} {s : Shared} {h₀ h : Heap} {L : Addr} {m : Str → Option Value} {Q : Value → Shared → Prop}
theorem src_lst {h : Heap} {s : Shared} {a : Addr} {n tk : Nat} {R : Nat → Value → Heap → Prop} {ys : List Value} (F : Fr h₀ L s.heap m) (F' : Fr h₀ L h m) (k : Keep L s.heap h)
    (haL : a ≠ L) (hl : h.get? a = some (lst ys)) (lr : LR R n ys h) : SrcEnd s L (fun h₁ xv => Src L h₁ xv n (fun i v => R i v h)) (fun h₁ => h₁.Ns L m) (.ref a) { s with heap := h, toks := tk } :=
  ⟨h, tk, rfl, k, F'.ns.lt, .inl ⟨a, ys.toArray, rfl, haL, ⟨_, hl, rfl, _, rfl⟩, by rw [List.size_toArray, lr.1], fun i v hv => by
    rw [List.getElem?_toArray] at hv
    have hi : i < n := by rw [← lr.1]; exact (List.getElem?_eq_some_iff.mp hv).1
    obtain ⟨y, e, r⟩ := lr.2 i hi
    rw [hv] at e
    cases e
    exact r⟩, F'.ns⟩
def countsE : PySem.Expr := getV (lawSt 4)
theorem counts_eval (hX : LFacts w mean mg mb dp un h₀) (F : Fr h₀ L s.heap m) {aT aK : Addr} {ysT ysK : List Value} {k1 k2 k3 : Nat} (hk1 : k1 < 15) (hk2 : k2 < 15) (hk3 : k3 < 15)
   (cT : CellAt h₀ s.heap L (L + 2) (.ref aT)) (hT : s.heap.get? aT = some (lst ysT)) (hTL : aT ≠ L) (lT : LR (fun q y _ => ∃ t, y = .str (tx q) t) 15 ysT s.heap)
   (cK : CellAt h₀ s.heap L (L + 3) (.ref aK)) (hK : s.heap.get? aK = some (lst ysK)) (hKL : aK ≠ L) (lK : LR (R3 k1 k2 k3) 3 ysK s.heap)
   (hQ : ∀ D h tk ys, Keep L s.heap h → Fr h₀ L h m → h.get? D = some (lst ys) → s.heap.get? D = none → D ≠ L → LR (At h₀ L D (fun q => place ([k1, k2, k3].getD q 0))) 3 ys h → Q (.ref D) { s with heap := h, toks := tk }) :
   wpAny (model PP w) (lawA dp un gd L fa cd) (eval countsE (lawE L fa cd)) Q E s := by
  obtain ⟨hu9, hd9, B, X, T⟩ := id hX
  have hw : countsE = .ListComp _ [⟨.Name _ _, .Name _ _, [], 0⟩] _ _ := rfl
  rw [hw]
  clear hw
  have hfill : hd.heap_39 w.params = hd.heap_39 w.params ∧ PySem.Challenge.rw_pg0254_01 = PySem.Challenge.rw_pg0254_01 := by (k_fill; exact ⟨rfl, rfl⟩)
  clear hfill
  refine comp_R (n := 3) (P := fun i v => R3 k1 k2 k3 i v s.heap) (ownc := noCells) (cl := [("texts", L + 2)]) (fun D => At h₀ L D (fun q => place ([k1, k2, k3].getD q 0))) (fun _ _ _ _ _ r st => r.seqs st) F rfl (by decide) rfl rfl (by decide) (fun N => rfl) ?src ?turn ?fin
  case src =>
    refine ld_cell cK rfl ?_
    exact src_lst F F (Keep.refl _ _) hKL hK lK
  case turn =>
    intro i v C D ys h tk hi ⟨t, hv⟩ kp F' hlt hD hDn hDL hno hns hc
    subst hv
    refine turn_local rfl rfl F' hc.1 (hno C (.inl rfl)).1 (hno C (.inl rfl)).2 fun h₁ oC m₂ hs₁ F₁ hno₁ hm₁ hC₁ N₁ => ?_
    have hF : Unit → Fr h₀ L h₁ m := fun _ => F₁
    have hDC : D ≠ C := Nat.ne_of_lt hlt
    have hD₁ := hs₁ _ _ hDC hD
    have k₁ : Keep L s.heap h₁ := fun b o hb e => hs₁ b o (fun q => by
      rw [q, hns C (.inl rfl)] at e
      cases e) (kp b o hb e)
    have cT₁ := cT.keep k₁
    have hT₁ := k₁ _ _ hTL hT
    have hk : [k1, k2, k3].getD i 0 < 15 := by
      match i, hi with
      | 0, _ => exact hk1
      | 1, _ => exact hk2
      | 2, _ => exact hk3
    generalize hkk : [k1, k2, k3].getD i 0 = k at hm₁ hk
    obtain ⟨y, hx, t5, rfl⟩ := lT.2 k hk
    have hT5 := all1 tx_is hk
    simp only [Bool.and_eq_true, beq_iff_eq, decide_eq_true_eq] at hT5
    obtain ⟨⟨⟨⟨_, p9⟩, q9⟩, r9⟩, s9⟩ := hT5
    have hp : tabs k = tabs k := rfl
    have hpl : Unit → ∀ t1 t2 t3 n, place k (PySem.W.listOf #[.int ((tabs k : Nat) : Int) t1, .int ((signs k - tabs k : Nat) : Int) t2, .int (4 - ((tabs k + (signs k - tabs k) : Nat) : Int)) t3] n) := fun _ t1 t2 t3 n => ⟨t1, t2, t3, n, by rw [show tabs k + (signs k - tabs k) = signs k by omega]⟩
    have hpq : tabs k + (signs k - tabs k) < 5 := by omega
    change ysT[k]? = some (.str (tbx (tabs k) (signs k - tabs k)) t5) at hx
    generalize tabs k = p at hx hpq hpl
    generalize signs k - p = q at hx hpq hpl
    have hk63 : k < 63 := by omega
    clear F' F hQ lT lK cT cK hT hK hp p9 q9 r9 s9
    iterate 6 walk1
    refine ld_free (h₀ := h₀) (L := L) (c := L + 2) (v := .ref aT) ?x1 ?x2 ?x3 ?x4 ?x5 ?x6
    case x1 => exact cT₁
    case x6 => decide
    case x4 => rfl
    case x2 => rfl
    case x5 => rfl
    walk1
    refine row_item hT₁ hx hk63 ?_
    clear hT₁ cT₁ hx
    iterate 2 (walk1)
    refine' cnt_claim w mean mg mb p q hpq _ _ _ _ _ _ _ _ _ _ _ _ _ _ _ _ _ _ _ ?ha1 ?ha2 ?ha3 ?ha4 ?ha5 ?ha6 ?ha7 ?ha8 ?ha9 ?haR
    case ha1 => exact B
    case ha2 => exact F₁
    case ha3 => exact X
    case ha4 => exact N₁
    case ha5 => exact T
    case ha6 => exact rfl
    case ha7 => exact fun p hp => nomatch hp
    case ha8 => omega
    case ha9 => omega
    intro v8 add8 h8 tk8 F8 N8 A8 O8
    obtain ⟨D8, ta8, tb8, tc8, n8, rfl, rfl⟩ := O8
    have n9 := N8 _ (.head _)
    have a9 := A8 _ (.head _)
    refine row_end hs₁ (hF ()) F8 N8 (fun p hp => .tail _ (.tail _ hp)) hno₁ (.tail _ (.head _)) fun k9 => ⟨_, _, rfl, fun q => ?_, n9.2.1, n9.2.2, n9.1, ⟨_, _, rfl⟩, ?_⟩
    · have a9' : h₁.get? D8 = none := a9
      have q' : D8 = D := q
      rw [q', hD₁] at a9'
      cases a9'
    · show place ([k1, k2, k3].getD i 0) _
      rw [hkk]
      exact hpl () _ _ _ _
  case fin =>
    exact hQ
end
end Mine
end PartLf
section PartLg
open PySem PySem.W PyProof.Rows
set_option Elab.async false
set_option maxRecDepth 100000
set_option maxHeartbeats 1000000
open PySem PySem.W PyProof.Rows
namespace Mine
open PyProof.Rows.LCg
/-- a pair of ints -/
def pairO (M S : Nat → Int) (q : Nat) (o : Obj) : Prop := ∃ t1 t2, o = { cls := .type "tuple", data := .seq #[.int (M q) t1, .int (S q) t2] }
section
variable {w : World} {mean : ExcName → Option Value} {mg mb : Str → Option Value} {dp un : Nat} {gd : Option (List Code)} {fa cd : Addr} {E : Value → Shared → Prop} {s : Shared} {h₀ h : Heap} {L : Addr} {m : Str → Option Value} {Q : Value → Shared → Prop}
def middlesE : PySem.Expr := getV (lawSt 7)
theorem middles_eval (hX : LFacts w mean mg mb dp un h₀) (F : Fr h₀ L s.heap m) {aD : Addr} {ysD : List Value} {M S : Nat → Int} (hm : m "told" = some (.ref aD)) (hD : s.heap.get? aD = some (lst ysD)) (hDL : aD ≠ L) (lD : LR (At h₀ L aD (pairO M S)) 3 ysD s.heap)
   (hQ : ∀ D h tk ys, Keep L s.heap h → Fr h₀ L h m → h.get? D = some (lst ys) → s.heap.get? D = none → D ≠ L → LR (fun q y _ => ∃ t, y = .int (M q) t) 3 ys h → Q (.ref D) { s with heap := h, toks := tk }) :
   wpAny (model PP w) (lawA dp un gd L fa cd) (eval middlesE (lawE L fa cd)) Q E s := by
  obtain ⟨hu9, hd9, B, X, T⟩ := id hX
  have hw : middlesE = .ListComp _ [⟨.Tuple [.Name _ _, .Name _ _] _ _, .Name _ _, [], 0⟩] _ _ := rfl
  rw [hw]
  clear hw
  have hfill : hd.heap_39 w.params = hd.heap_39 w.params ∧ PySem.Challenge.rw_pg0254_01 = PySem.Challenge.rw_pg0254_01 := by (k_fill; exact ⟨rfl, rfl⟩)
  clear hfill
  refine comp_R (n := 3) (P := fun i v => At h₀ L aD (pairO M S) i v s.heap) (ownc := noCells) (fun _ q y _ => ∃ t, y = .int (M q) t) (fun _ _ _ _ _ r _ => r) F rfl (by decide) rfl rfl (by decide) (fun N => rfl) ?src ?turn ?fin
  case src =>
    refine nameX_L F hm ?_
    exact src_lst F F (Keep.refl _ _) hDL hD lD
  case turn =>
    intro i v C D ys h tk hi hP kp F' hlt hD hDn hDL hno hns hc
    have hP := hP.keep kp
    obtain ⟨a, o, rfl, _, haL, ha0, hao, _, t1, t2, rfl⟩ := hP
    refine turn_tup2 rfl rfl (by decide) rfl rfl F' hc.1 (hno C (.inl rfl)).1 (hno C (.inl rfl)).2 ⟨_, hao, rfl, _, rfl⟩ fun h₁ oC m₂ tk' hs₁ F₁ hno₁ hm₁ hm₂ hC₁ N₁ => ?_
    have hF : Unit → Fr h₀ L h₁ m := fun _ => F₁
    clear F' F hQ lD hP hao
    k_steps
    ((with_reducible rename Fr _ _ _ _ => F9); (with_reducible rename News _ _ _ _ => N9))
    exact row_end hs₁ (hF ()) F9 N9 (fun p hp => .tail _ hp) hno₁ (.head _) fun k => ⟨_, rfl⟩
  case fin =>
    exact hQ
end
end Mine
end PartLg
section PartLh
open PySem PySem.W PyProof.Rows
set_option Elab.async false
set_option maxRecDepth 100000
set_option maxHeartbeats 1000000
open PySem PySem.W PyProof.Rows
namespace Mine
open PyProof.Rows.LCg
/-- entry c of row k -/
def entry (k c : Nat) : Int := [((tabs k : Nat) : Int), ((signs k - tabs k : Nat) : Int), 4 - ((signs k : Nat) : Int)].getD c 0
theorem entry_get (a b c : Int) (t1 t2 t3 : Tok) {j : Nat} (hj : j < 3) : ∃ x t9, (#[.int a t1, .int b t2, .int c t3] : Array Value)[((j : Nat) : Int).toNat]? = some x ∧ x = .int ([a, b, c].getD j 0) t9 := by
  match j, hj with
  | 0, _ => exact ⟨_, _, rfl, rfl⟩
  | 1, _ => exact ⟨_, _, rfl, rfl⟩
  | 2, _ => exact ⟨_, _, rfl, rfl⟩
section
variable {w : World} {mean : ExcName → Option Value} {mg mb : Str → Option Value} {dp un : Nat} {gd : Option (List Code)} {fa cd : Addr} {E : Value → Shared → Prop} {s : Shared} {h₀ h : Heap} {L : Addr} {m : Str → Option Value} {Q : Value → Shared → Prop}
def toldC : PySem.Expr := getV (lawSt 6)
def toldI : PySem.Expr := (getP ((getP toldC).headD noE)).headD noE
def toldS : Scope := getCS toldC
abbrev toldE (C L fa cd : Addr) : Env := compEnvC toldS (cellsFrom (C + 1) toldS.names [("counts", L + 4)]) C (lawE L fa cd)
theorem rows_eval {A : Around} (hh : A.handled = none) (F : Fr h₀ L s.heap m) {C aC : Addr} {ysC : List Value} {k1 k2 k3 j : Nat} {tj : Tok} (hj : j < 3)
   (cC : CellAt h₀ s.heap L (L + 4) (.ref aC)) (hC : s.heap.get? aC = some (lst ysC)) (hCL : aC ≠ L) (lC : LR (At h₀ L aC (fun q => place ([k1, k2, k3].getD q 0))) 3 ysC s.heap)
   (cj : CellAt h₀ s.heap L (C + 1) (.int (j : Int) tj))
   (hQ : ∀ D h tk ys, Keep L s.heap h → Fr h₀ L h m → h.get? D = some (lst ys) → s.heap.get? D = none → D ≠ L → LR (fun q y _ => ∃ t, y = .int (entry ([k1, k2, k3].getD q 0) j) t) 3 ys h → Q (.ref D) { s with heap := h, toks := tk }) :
   wpAny (model PP w) A (eval toldI (toldE C L fa cd)) Q E s := by
  have hw : toldI = .ListComp (.Subscript (.Name _ _) (.Name _ _) _) [⟨.Name _ _, .Name _ _, [], 0⟩] _ _ := rfl
  rw [hw]
  clear hw
  refine comp_R (n := 3) (P := fun i v => At h₀ L aC (fun q => place ([k1, k2, k3].getD q 0)) i v s.heap) (ownc := noCells) (cl := [("c", C + 1)]) (fun _ q y _ => ∃ t, y = .int (entry ([k1, k2, k3].getD q 0) j) t) (fun _ _ _ _ _ r _ => r) F hh (by decide) rfl rfl (by decide) (fun N => rfl) ?src ?turn ?fin
  case src =>
    refine ld_free (h₀ := h₀) (L := L) (c := L + 4) (v := .ref aC) ?x1 ?x2 ?x3 ?x4 ?x5 ?x6
    case x1 => exact cC
    case x6 => decide
    case x4 => rfl
    case x2 => rfl
    case x5 => rfl
    exact src_lst F F (Keep.refl _ _) hCL hC lC
  case turn =>
    intro i v C' D ys h tk hi hP kp F' hlt hD hDn hDL hno hns hc
    obtain ⟨a, o, rfl, _, haL, ha0, hao, _, t1, t2, t3, n, rfl⟩ := hP
    have haC : a ≠ C' := fun q => by rw [q, hns C' (.inl rfl)] at hao; cases hao
    have hCC : C + 1 ≠ C' := fun q => by
      obtain ⟨_, _, o, e, _⟩ := cj
      rw [q, hns C' (.inl rfl)] at e
      cases e
    refine turn_local rfl rfl F' hc.1 (hno C' (.inl rfl)).1 (hno C' (.inl rfl)).2 fun h₁ oC m₂ hs₁ F₁ hno₁ hm₁ hC₁ N₁ => ?_
    have hao₁ := hs₁ _ _ haC (kp _ _ haL hao)
    have cj₁ : CellAt h₀ h₁ L (C + 1) (.int (j : Int) tj) := by
      obtain ⟨p, q, o, e, d⟩ := cj
      exact ⟨p, q, o, hs₁ _ _ hCC (kp _ _ p e), d⟩
    refine Subscript_ ?_
    refine LCgL.ld_own N₁ (.head _) hno₁ hm₁ ?_
    refine ld_free (h₀ := h₀) (L := L) (c := C + 1) (v := .int (j : Int) tj) ?y1 ?y2 ?y3 ?y4 ?y5 ?y6
    case y1 => exact cj₁
    case y6 => decide
    case y4 => rfl
    case y2 => rfl
    case y5 => rfl
    unfold entry
    generalize [k1, k2, k3].getD i 0 = k at hao₁ ⊢
    generalize ((tabs k : Nat) : Int) = p1 at hao₁ ⊢
    generalize ((signs k - tabs k : Nat) : Int) = p2 at hao₁ ⊢
    generalize 4 - ((signs k : Nat) : Int) = p3 at hao₁ ⊢
    obtain ⟨x, t9, hx, ex⟩ := entry_get p1 p2 p3 t1 t2 t3 hj
    refine item_list (items := #[.int p1 t1, .int p2 t2, .int p3 t3]) ⟨_, hao₁, rfl, _, rfl⟩ (by omega) (by omega) hx ?_
    exact row_end hs₁ F₁ F₁ N₁ (fun p hp => .tail _ hp) hno₁ (.head _) fun k => ⟨_, ex⟩
  case fin =>
    exact hQ
end
end Mine
end PartLh
section PartLk
open PySem PySem.W PyProof.Rows
set_option Elab.async false
set_option maxRecDepth 100000
set_option maxHeartbeats 1000000
open PySem PySem.W PyProof.Rows
namespace Mine
open PyProof.Rows.LCg
def entryN (k c : Nat) : Nat := [tabs k, signs k - tabs k, 4 - signs k].getD c 0
theorem ints3 {f : Nat → Int} {ys : List Value} {h : Heap} (l : LR (fun q y _ => ∃ t, y = .int (f q) t) 3 ys h) : ∃ t1 t2 t3, ys = [.int (f 0) t1, .int (f 1) t2, .int (f 2) t3] := by
  obtain ⟨hl, hq⟩ := l
  match ys, hl with
  | [a, b, c], _ =>
    obtain ⟨_, e1, t1, r1⟩ := hq 0 (by decide)
    obtain ⟨_, e2, t2, r2⟩ := hq 1 (by decide)
    obtain ⟨_, e3, t3, r3⟩ := hq 2 (by decide)
    cases e1; cases e2; cases e3
    exact ⟨t1, t2, t3, by rw [r1, r2, r3]⟩
theorem entry_n : ((List.range 15).all fun k => (List.range 3).all fun c => (entry k c == ((entryN k c : Nat) : Int)) && decide (entryN k c < 5)) = true := by decide +kernel
section
variable {w : World} {mean : ExcName → Option Value} {mg mb : Str → Option Value} {dp un : Nat} {gd : Option (List Code)} {fa cd : Addr} {E : Value → Shared → Prop} {s : Shared} {h₀ h : Heap} {L : Addr} {m : Str → Option Value}
theorem told_exec {Q : Flow → Shared → Prop} (hX : LFacts w mean mg mb dp un h₀) (F : Fr h₀ L s.heap m) {aC : Addr} {ysC : List Value} {k1 k2 k3 : Nat} (hk1 : k1 < 15) (hk2 : k2 < 15) (hk3 : k3 < 15)
   (cC : CellAt h₀ s.heap L (L + 4) (.ref aC)) (hC : s.heap.get? aC = some (lst ysC)) (hCL : aC ≠ L) (lC : LR (At h₀ L aC (fun q => place ([k1, k2, k3].getD q 0))) 3 ysC s.heap)
   (hQ : ∀ D h tk ys, Keep L s.heap h → Fr h₀ L h (fun z => if z = "told" then some (.ref D) else m z) → h.get? D = some (lst ys) → s.heap.get? D = none → D ≠ L → LR (At h₀ L D (pairO (fun c => midM (entryN k1 c) (entryN k2 c) (entryN k3 c)) (fun c => midS (entryN k1 c) (entryN k2 c) (entryN k3 c)))) 3 ys h → Q .next { s with heap := h, toks := tk }) :
   wpAny (model PP w) (lawA dp un gd L fa cd) (exec (lawSt 6) (lawE L fa cd)) Q E s := by
  obtain ⟨hu9, hd9, B, X, T⟩ := id hX
  have hw : lawSt 6 = .Assign [.Name _ _] (.ListComp (.Call (.Name _ _) [_] [] _) [⟨.Name _ _, .Call _ _ _ _, [], 0⟩] _ _) _ := rfl
  rw [hw]
  clear hw
  have hfill : hd.heap_39 w.params = hd.heap_39 w.params ∧ PySem.Challenge.rw_pg0254_01 = PySem.Challenge.rw_pg0254_01 := by (k_fill; exact ⟨rfl, rfl⟩)
  clear hfill
  refine comp_RA (n := 3) (P := fun i v => ∃ t, v = .int (i : Int) t) (ownc := fun N => [("c", N)]) (cl := [("counts", L + 4)]) (fun D => At h₀ L D (pairO (fun c => midM (entryN k1 c) (entryN k2 c) (entryN k3 c)) (fun c => midS (entryN k1 c) (entryN k2 c) (entryN k3 c)))) (fun _ _ _ _ _ r st => r.seqs st) F rfl rfl (by decide) rfl rfl (by with_unfolding_all rfl) rfl rfl (by decide) (fun N => rfl) ?src ?turn ?fin
  case src =>
    have N := allN_news h₀ s.heap L
    have hF : Unit → Fr h₀ L s.heap m := fun _ => F
    clear hQ lC
    k_steps
    ((with_reducible rename Fr _ _ _ _ => F9); (with_reducible rename News _ _ _ _ => N9); (with_reducible rename IsRange _ _ _ _ _ _ _ _ => R9))
    exact ⟨_, _, rfl, keep_of (hF ()) F9 N9 (fun p hp => hp), F9.ns.lt, .inr ⟨_, _, _, _, rfl, R9, by decide, by decide, fun i t hi => ⟨t, rfl⟩⟩, F9.ns⟩
  case turn =>
    intro i v C D ys h tk hi ⟨tj, hv⟩ kp F' hlt hD hDn hDL hno hns hc
    subst hv
    have hoc := hno (C + 1) (.inr ⟨_, .head _, rfl⟩)
    have hnc := hns (C + 1) (.inr ⟨_, .head _, rfl⟩)
    refine turn_cell (c := C + 1) rfl rfl rfl (hc.2 _ (.head _)) F' hoc.1 hoc.2 fun h₁ oc hs₁ F₁ hd₁ ho₁ => ?_
    have k₁ : Keep L s.heap h₁ := fun b o hb e => hs₁ b o (fun q => by rw [q, hnc] at e; cases e) (kp b o hb e)
    have cC₁ := cC.keep k₁
    have hC₁ := k₁ _ _ hCL hC
    have lC₁ := lC.mono fun q y _ r => r.keep k₁
    have N₁ := allN_news h₀ h₁ L
    have hDc : D ≠ C + 1 := Nat.ne_of_lt (Nat.lt_succ_of_lt hlt)
    have hD₁ := hs₁ _ _ hDc hD
    clear hQ lC cC hC F' F kp
    iterate 5 walk1
    refine rows_eval rfl F₁ hi cC₁ hC₁ hCL lC₁ ⟨hoc.2, hoc.1, oc, ho₁, hd₁⟩ fun D8 h8 tk8 ys8 k8 F8 hD8 hD8n hD8L l8 => ?_
    obtain ⟨t1, t2, t3, rfl⟩ := ints3 l8
    have hD80 : h₀.get? D8 = none := not_base F₁ hD8n
    have N8 : News h₀ L h8 ((D8, lst [.int (entry ([k1, k2, k3].getD 0 0) i) t1, .int (entry ([k1, k2, k3].getD 1 0) i) t2, .int (entry ([k1, k2, k3].getD 2 0) i) t3]) :: allN h₀ h₁ L) := news_add (fun p hp => ⟨k8 _ _ (N₁ p hp).2.1 (N₁ p hp).1, (N₁ p hp).2⟩) hD8 hD80 hD8L
    have e1 := all2 entry_n hk1 hi
    have e2 := all2 entry_n hk2 hi
    have e3 := all2 entry_n hk3 hi
    simp only [Bool.and_eq_true, beq_iff_eq, decide_eq_true_eq] at e1 e2 e3
    have g1 : [k1, k2, k3].getD 0 0 = k1 := rfl
    have g2 : [k1, k2, k3].getD 1 0 = k2 := rfl
    have g3 : [k1, k2, k3].getD 2 0 = k3 := rfl
    rw [g1, g2, g3, e1.1, e2.1, e3.1] at N8
    replace e1 := e1.2
    replace e2 := e2.2
    replace e3 := e3.2
    clear l8 hD8 lC₁ g1 g2 g3
    iterate 2 walk1
    refine' mid_claim w mean mg mb (entryN k1 i) (entryN k2 i) (entryN k3 i) e1 e2 e3 D8 3 t1 t2 t3 _ _ _ _ _ _ _ _ _ _ _ _ _ _ _ _ _ _ ?ha1 ?ha2 ?ha3 ?ha4 ?ha5 ?ha6 ?ha7 ?ha8 ?ha9 ?haR
    case ha1 => exact B
    case ha2 => exact F8
    case ha3 => exact X
    case ha4 => exact N8
    case ha5 => exact T
    case ha6 => exact rfl
    case ha7 => exact fun p hp => by rw [List.mem_singleton.mp hp]; exact .head _
    case ha8 => omega
    case ha9 => omega
    intro v9 add9 h9 tk9 F9 N9 A9 O9
    obtain ⟨D9, u1, u2, rfl, rfl⟩ := O9
    have n9 := N9 _ (.head _)
    have a9 : h8.get? D9 = none := A9 _ (.head _)
    have k9 : Keep L h₁ h9 := keep_of F₁ F9 N9 (fun p hp => .tail _ (.tail _ hp))
    obtain ⟨mC, hmC⟩ := hc.1
    refine ⟨h9, tk9, rfl, fun b o hb hL e => k9 b o hL (hs₁ b o (fun q => hb (.inr ⟨_, .head _, q.symm⟩)) e), ⟨⟨mC, hmC.at' fun o e => k9 C o (hno C (.inl rfl)).2 (hs₁ C o (Nat.ne_of_lt (Nat.lt_succ_self C)) e)⟩, fun p hp => ?_⟩, F9.ns, D9, _, rfl, fun q => ?_, n9.2.1, n9.2.2, n9.1, ⟨_, _, rfl⟩, u1, u2, rfl⟩
    · rw [List.mem_singleton.mp hp]
      exact ⟨_, oc, k9 _ _ hoc.2 ho₁, hd₁⟩
    · rw [q, k8 D _ hDL hD₁] at a9
      cases a9
  case fin =>
    exact hQ
end
end Mine
end PartLk
section PartLm
open PySem PySem.W PyProof.Rows
set_option Elab.async false
set_option maxRecDepth 100000
set_option maxHeartbeats 1000000
namespace Mine
open PyProof.Rows.LCg
section
variable {w : World} {mean : ExcName → Option Value} {mg mb : Str → Option Value} {dp un : Nat} {gd : Option (List Code)} {fa cd : Addr} {E : Value → Shared → Prop} {s : Shared} {h₀ h : Heap} {L : Addr} {m : Str → Option Value}
def againE : PySem.Expr := (getP (getV (lawSt 5))).headD noE
theorem getD3 {P : Nat → Prop} {k1 k2 k3 : Nat} (h1 : P k1) (h2 : P k2) (h3 : P k3) {i : Nat} (hi : i < 3) : P ([k1, k2, k3].getD i 0) := by
  match i, hi with
  | 0, _ => exact h1
  | 1, _ => exact h2
  | 2, _ => exact h3
theorem again_eval {A : Around} (hh : A.handled = none) {Q : Value → Shared → Prop} (F : Fr h₀ L s.heap m) {aP aK : Addr} {ysP ysK : List Value} {k1 k2 k3 : Nat} (hk1 : k1 < 15) (hk2 : k2 < 15) (hk3 : k3 < 15)
   (cP : CellAt h₀ s.heap L (L + 1) (.ref aP)) (hP : s.heap.get? aP = some (lst ysP)) (hPL : aP ≠ L) (lP : LR (At h₀ L aP place) 15 ysP s.heap)
   (cK : CellAt h₀ s.heap L (L + 3) (.ref aK)) (hK : s.heap.get? aK = some (lst ysK)) (hKL : aK ≠ L) (lK : LR (R3 k1 k2 k3) 3 ysK s.heap)
   (hQ : ∀ D h tk ys, Keep L s.heap h → Fr h₀ L h m → h.get? D = some (lst ys) → s.heap.get? D = none → D ≠ L → LR (At h₀ L D (fun q => place ([k1, k2, k3].getD q 0))) 3 ys h → Q (.ref D) { s with heap := h, toks := tk }) :
   wpAny (model PP w) A (eval againE (lawE L fa cd)) Q E s := by
  have hw : againE = .ListComp (.Subscript (.Name _ _) (.Name _ _) _) [⟨.Name _ _, .Name _ _, [], 0⟩] _ _ := rfl
  rw [hw]
  clear hw
  refine comp_R (n := 3) (P := fun i v => R3 k1 k2 k3 i v s.heap) (ownc := noCells) (cl := [("places", L + 1)]) (fun D => At h₀ L D (fun q => place ([k1, k2, k3].getD q 0))) (fun _ _ _ _ _ r st => r.seqs st) F hh (by decide) rfl rfl (by decide) (fun N => rfl) ?src ?turn ?fin
  case src =>
    refine ld_cell cK rfl ?_
    exact src_lst F F (Keep.refl _ _) hKL hK lK
  case turn =>
    intro i v C D ys h tk hi ⟨t, hv⟩ kp F' hlt hD hDn hDL hno hns hc
    subst hv
    refine turn_local rfl rfl F' hc.1 (hno C (.inl rfl)).1 (hno C (.inl rfl)).2 fun h₁ oC m₂ hs₁ F₁ hno₁ hm₁ hC₁ N₁ => ?_
    have k₁ : Keep L s.heap h₁ := fun b o hb e => hs₁ b o (fun q => by
      rw [q, hns C (.inl rfl)] at e
      cases e) (kp b o hb e)
    have cP₁ := cP.keep k₁
    have hP₁ := k₁ _ _ hPL hP
    have hk : [k1, k2, k3].getD i 0 < 15 := getD3 (P := fun k => k < 15) hk1 hk2 hk3 hi
    generalize hkk : [k1, k2, k3].getD i 0 = k at hm₁ hk
    obtain ⟨y, hx, a, o, rfl, haP, haL, ha0, hao, hd, ho⟩ := lP.2 k hk
    refine Subscript_ ?_
    refine ld_free (h₀ := h₀) (L := L) (c := L + 1) (v := .ref aP) ?y1 ?y2 ?y3 ?y4 ?y5 ?y6
    case y1 => exact cP₁
    case y6 => decide
    case y4 => rfl
    case y2 => rfl
    case y5 => rfl
    refine LCgL.ld_own N₁ (.head _) hno₁ hm₁ ?_
    refine row_item hP₁ hx (by omega) ?_
    exact row_end hs₁ F₁ F₁ N₁ (fun p hp => .tail _ hp) hno₁ (.head _) fun k9 => ⟨a, o, rfl, (fun q => by
      rw [q, hDn] at hao
      cases hao), haL, ha0, k₁ _ _ haL hao, hd, by
      show place ([k1, k2, k3].getD i 0) o
      rw [hkk]; exact ho⟩
  case fin =>
    exact hQ
/-- the data of a place -/
def placeD (k : Nat) : PyData := .list [.int ((tabs k : Nat) : Int), .int ((signs k - tabs k : Nat) : Int), .int (4 - (signs k : Nat) : Int)]
theorem place_reads {h : Heap} {a : Addr} {o : Obj} {k : Nat} (e : h.get? a = some o) (p : place k o) : ∃ as, Reads h (.ref a) (placeD k) as := by
  obtain ⟨t1, t2, t3, n, rfl⟩ := p
  exact ⟨_, reads_list_at e rfl rfl (.cons (.int _ _) (.cons (.int _ _) (.cons (.int _ _) .nil)))⟩
theorem rows_reads {h : Heap} {D : Addr} {ys : List Value} {k1 k2 k3 : Nat} (e : h.get? D = some (lst ys)) (l : LR (At h₀ L D (fun q => place ([k1, k2, k3].getD q 0))) 3 ys h) : ∃ as, Reads h (.ref D) (.list [placeD k1, placeD k2, placeD k3]) as := by
  obtain ⟨hl, hq⟩ := l
  match ys, hl with
  | [a, b, c], _ =>
    obtain ⟨_, e1, a1, o1, rfl, _, _, _, g1, _, p1⟩ := hq 0 (by decide)
    obtain ⟨_, e2, a2, o2, rfl, _, _, _, g2, _, p2⟩ := hq 1 (by decide)
    obtain ⟨_, e3, a3, o3, rfl, _, _, _, g3, _, p3⟩ := hq 2 (by decide)
    cases e1; cases e2; cases e3
    obtain ⟨_, r1⟩ := place_reads g1 p1
    obtain ⟨_, r2⟩ := place_reads g2 p2
    obtain ⟨_, r3⟩ := place_reads g3 p3
    exact ⟨_, reads_list_at e rfl rfl (.cons r1 (.cons r2 (.cons r3 .nil)))⟩
theorem rows_same (k1 k2 k3 : Nat) : PyData.eqv (.list [placeD k1, placeD k2, placeD k3]) (.list [placeD k1, placeD k2, placeD k3]) = true := by
  simp [placeD, PyData.eqv, PyData.eqvAll]
theorem rows_shaped (k1 k2 k3 : Nat) : SeqAt.shaped (.list [placeD k1, placeD k2, placeD k3]) = true := by
  simp [placeD, SeqAt.shaped, PyData.canLay0, PyData.canLayAll0, PyData.depth, PyData.depthAll]
theorem if5_exec {Q : Flow → Shared → Prop} (hX : LFacts w mean mg mb dp un h₀) (F : Fr h₀ L s.heap m) {aP aK aC : Addr} {ysP ysK ysC : List Value} {k1 k2 k3 : Nat} (hk1 : k1 < 15) (hk2 : k2 < 15) (hk3 : k3 < 15)
   (cP : CellAt h₀ s.heap L (L + 1) (.ref aP)) (hP : s.heap.get? aP = some (lst ysP)) (hPL : aP ≠ L) (lP : LR (At h₀ L aP place) 15 ysP s.heap)
   (cK : CellAt h₀ s.heap L (L + 3) (.ref aK)) (hK : s.heap.get? aK = some (lst ysK)) (hKL : aK ≠ L) (lK : LR (R3 k1 k2 k3) 3 ysK s.heap)
   (cC : CellAt h₀ s.heap L (L + 4) (.ref aC)) (hC : s.heap.get? aC = some (lst ysC)) (hCL : aC ≠ L) (lC : LR (At h₀ L aC (fun q => place ([k1, k2, k3].getD q 0))) 3 ysC s.heap)
   (hQ : ∀ h tk, Keep L s.heap h → Fr h₀ L h m → Q .next { s with heap := h, toks := tk }) :
   wpAny (model PP w) (lawA dp un gd L fa cd) (exec (lawSt 5) (lawE L fa cd)) Q E s := by
  obtain ⟨hu9, hd9, B, X, T⟩ := id hX
  have hw : lawSt 5 = .If (.Compare (.Name _ _) [.NotEq] [againE] _) [_] [] _ := rfl
  rw [hw]
  clear hw
  have hfill : hd.heap_39 w.params = hd.heap_39 w.params ∧ PySem.Challenge.rw_pg0254_01 = PySem.Challenge.rw_pg0254_01 := by (k_fill; exact ⟨rfl, rfl⟩)
  clear hfill
  have N := allN_news h₀ s.heap L
  have hF : Unit → Fr h₀ L s.heap m := fun _ => F
  walk1
  walk1
  refine ld_cell cC rfl ?_
  refine again_eval rfl F hk1 hk2 hk3 cP hP hPL lP cK hK hKL lK fun D h₁ tk₁ ys₁ k₁ F₁ hD hDn hDL l₁ => ?_
  obtain ⟨as, ra⟩ := rows_reads (k₁ _ _ hCL hC) (lC.mono fun q y _ r => r.keep k₁)
  obtain ⟨bs, rb⟩ := rows_reads hD l₁
  refine ne_dataH ra rb (rows_shaped _ _ _) (rows_shaped _ _ _) (by dsimp only [ktrTop]; omega) ?_
  rw [rows_same]
  clear lP lK lC l₁ ra rb cP cK cC
  walk1
  walk1
  walk1
  exact hQ _ _ k₁ F₁
end
end Mine
end PartLm
section PartLn
open PySem PySem.W PyProof.Rows
set_option Elab.async false
set_option maxRecDepth 100000
set_option maxHeartbeats 1000000
namespace Mine
open PyProof.Rows.LCg
/-- all but c and the frame stays -/
abbrev Off (L c : Addr) (h h' : Heap) : Prop := ∀ b o, b ≠ c → b ≠ L → h.get? b = some o → h'.get? b = some o
def CellNo (h₀ h : Heap) (L c : Addr) : Prop := c ≠ L ∧ h₀.get? c = none ∧ ∃ v, h.IsCell c v
abbrev LV (h₀ h : Heap) (L a : Addr) (R : Addr → Nat → Value → Heap → Prop) (n : Nat) : Prop := ∃ ys, h.get? a = some (lst ys) ∧ a ≠ L ∧ h₀.get? a = none ∧ LR (R a) n ys h
/-- a cell that holds a list -/
abbrev LCell (h₀ h : Heap) (L c : Addr) (R : Addr → Nat → Value → Heap → Prop) (n : Nat) : Prop := ∃ a, CellAt h₀ h L c (.ref a) ∧ LV h₀ h L a R n
abbrev RStab (L : Addr) (R : Addr → Nat → Value → Heap → Prop) : Prop := ∀ D q y h h', R D q y h → Seqs D L h h' → R D q y h'
theorem Off.seq {L c : Addr} {h h' : Heap} (k : Off L c h h') (hc : ∃ v, h.IsCell c v) {b : Addr} {o : Obj} {its : Array Value} {n : Nat} (hd : o.data = .seq its n) (hb : b ≠ L) (e : h.get? b = some o) : h'.get? b = some o :=
  k b o (fun q => by
    obtain ⟨v, o', e', hd'⟩ := hc
    rw [q, e'] at e
    cases e
    rw [hd] at hd'
    cases hd') hb e
theorem Off.of {L c : Addr} {h h' : Heap} (k : Keep L h h') : Off L c h h' := fun b o _ hb e => k b o hb e
theorem Off.trans {L c : Addr} {h h' h'' : Heap} (k : Off L c h h') (k' : Off L c h' h'') : Off L c h h'' := fun b o hb hL e => k' b o hb hL (k b o hb hL e)
theorem CellAt.off {h₀ h h' : Heap} {L c c' : Addr} {v : Value} (x : CellAt h₀ h L c' v) (hne : c' ≠ c) (k : Off L c h h') : CellAt h₀ h' L c' v := by
  obtain ⟨a, b, o, e, d⟩ := x
  exact ⟨a, b, o, k _ _ hne a e, d⟩
theorem CellNo.off {h₀ h h' : Heap} {L c c' : Addr} (x : CellNo h₀ h L c') (hne : c' ≠ c) (k : Off L c h h') : CellNo h₀ h' L c' := by
  obtain ⟨a, b, v, o, e, d⟩ := x
  exact ⟨a, b, v, o, k _ _ hne a e, d⟩
theorem LV.off {h₀ h h' : Heap} {L a c : Addr} {R : Addr → Nat → Value → Heap → Prop} {n : Nat} (hR : RStab L R) (x : LV h₀ h L a R n) (hc : ∃ v, h.IsCell c v) (k : Off L c h h') : LV h₀ h' L a R n := by
  obtain ⟨ys, e, hL, h0, l⟩ := x
  exact ⟨ys, k.seq hc rfl hL e, hL, h0, l.mono fun q y _ r => hR _ _ _ _ _ r fun b o its n hd _ hb e => k.seq hc hd hb e⟩
theorem LV.keep {h₀ h h' : Heap} {L a : Addr} {R : Addr → Nat → Value → Heap → Prop} {n : Nat} (hR : RStab L R) (x : LV h₀ h L a R n) (k : Keep L h h') : LV h₀ h' L a R n := by
  obtain ⟨ys, e, hL, h0, l⟩ := x
  exact ⟨ys, k _ _ hL e, hL, h0, l.mono fun q y _ r => hR _ _ _ _ _ r fun b o its n hd _ hb e => k _ _ hb e⟩
theorem LCell.off {h₀ h h' : Heap} {L c c' : Addr} {R : Addr → Nat → Value → Heap → Prop} {n : Nat} (hR : RStab L R) (x : LCell h₀ h L c' R n) (hne : c' ≠ c) (hc : ∃ v, h.IsCell c v) (k : Off L c h h') : LCell h₀ h' L c' R n := by
  obtain ⟨a, x, l⟩ := x
  exact ⟨a, x.off hne k, LV.off hR l hc k⟩
theorem LCell.keep {h₀ h h' : Heap} {L c' : Addr} {R : Addr → Nat → Value → Heap → Prop} {n : Nat} (hR : RStab L R) (x : LCell h₀ h L c' R n) (k : Keep L h h') : LCell h₀ h' L c' R n := by
  obtain ⟨a, x, l⟩ := x
  exact ⟨a, x.keep k, LV.keep hR l k⟩
theorem at_stab {h₀ : Heap} {L : Addr} {O : Nat → Obj → Prop} : RStab L (fun D => At h₀ L D O) := fun _ _ _ _ _ r st => r.seqs st
theorem pure_stab {L : Addr} {R : Nat → Value → Prop} : RStab L (fun _ q y _ => R q y) := fun _ _ _ _ _ r _ => r
section
variable {w : World} {mean : ExcName → Option Value} {mg mb : Str → Option Value} {dp un : Nat} {gd : Option (List Code)} {fa cd : Addr} {E : Value → Shared → Prop} {s : Shared} {h₀ h : Heap} {L : Addr} {m : Str → Option Value} {Q : Flow → Shared → Prop}
/-- a cell of the law's takes a value -/
theorem set_cell {M : Model} {A : Around} {x : Str} {px spos : Pos} {e : PySem.Expr} {c : Addr} (P : Value → Heap → Prop) (cn : CellNo h₀ s.heap L c) (hk : (lawE L fa cd).kindOf x = some .cell) (hl : (lawE L fa cd).cells.lookup x = some c) (hsw : swapsWith e (some (.Name x px)) spos.line (lawE L fa cd) = pure false)
   (h : wpAny M A (eval e (lawE L fa cd)) (fun v s' => ∃ h tk, s' = { s with heap := h, toks := tk } ∧ Keep L s.heap h ∧ Fr h₀ L h m ∧ P v h) E s)
   (hQ : ∀ v h₁ h tk, Keep L s.heap h₁ → P v h₁ → (∃ v, h₁.IsCell c v) → Off L c h₁ h → Fr h₀ L h m → CellAt h₀ h L c v → Q .next { s with heap := h, toks := tk }) :
   wpAny M A (exec (.Assign [.Name x px] e spos) (lawE L fa cd)) Q E s := by
  refine wpAny_Assign_Name (wpAny_mono h (fun v s' hv => ?_) fun _ _ x => x) hsw
  obtain ⟨h₁, tk, rfl, k, F, p⟩ := hv
  obtain ⟨hcL, hc0, v₀, hc⟩ := cn
  have hc₁ : h₁.IsCell c v₀ := by
    obtain ⟨o, e, d⟩ := hc
    exact ⟨o, k _ _ hcL e, d⟩
  refine wpAny_storeName_cell rfl hk hl hc₁ fun h' hv' hs' => ?_
  have off : ∀ b o, b ≠ c → h₁.get? b = some o → h'.get? b = some o := fun b o hb e => hs'.extBut b o hb e
  exact hQ v h₁ h' tk k p ⟨_, hc₁⟩ (fun b o hb _ e => off b o hb e) ⟨F.ns.at' fun o e => off _ _ (Ne.symm hcL) e, fun b o e => off b o (fun q => by rw [q, hc0] at e; cases e) (F.keep b o e), F.above⟩ ⟨hcL, hc0, hv'⟩
/-- a cell of the law's takes a list -/
theorem set_list {M : Model} {A : Around} {x : Str} {px spos : Pos} {e : PySem.Expr} {c : Addr} {R : Addr → Nat → Value → Heap → Prop} {n : Nat} (F₀ : Fr h₀ L s.heap m) (hR : RStab L R) (cn : CellNo h₀ s.heap L c) (hk : (lawE L fa cd).kindOf x = some .cell) (hl : (lawE L fa cd).cells.lookup x = some c) (hsw : swapsWith e (some (.Name x px)) spos.line (lawE L fa cd) = pure false)
   (h : ∀ Q' : Value → Shared → Prop, (∀ D h tk ys, Keep L s.heap h → Fr h₀ L h m → h.get? D = some (lst ys) → s.heap.get? D = none → D ≠ L → LR (R D) n ys h → Q' (.ref D) { s with heap := h, toks := tk }) → wpAny M A (eval e (lawE L fa cd)) Q' E s)
   (hQ : ∀ h tk, Off L c s.heap h → Fr h₀ L h m → LCell h₀ h L c R n → Q .next { s with heap := h, toks := tk }) :
   wpAny M A (exec (.Assign [.Name x px] e spos) (lawE L fa cd)) Q E s := by
  refine set_cell (fun v h => ∃ D, v = .ref D ∧ LV h₀ h L D R n) cn hk hl hsw (h _ fun D h tk ys kp F hD hDn hDL l => ⟨h, tk, rfl, kp, F, D, rfl, ys, hD, hDL, not_base F₀ hDn, l⟩) fun v h₁ h tk k p hc off F ca => ?_
  obtain ⟨D, rfl, l⟩ := p
  exact hQ h tk (fun b o hb hL e => off b o hb hL (k b o hL e)) F ⟨D, ca, LV.off hR l hc off⟩
end
end Mine
end PartLn
section PartMa
open PySem PySem.W PyProof.Rows
set_option Elab.async false
set_option maxRecDepth 100000
set_option maxHeartbeats 1000000
namespace Mine
open PyProof.Rows.LCg
section
variable {w : World} {mean : ExcName → Option Value} {mg mb : Str → Option Value} {dp un : Nat} {gd : Option (List Code)} {fa cd : Addr} {E : Value → Shared → Prop} {s : Shared} {h₀ h : Heap} {L : Addr} {m : Str → Option Value}
def sideE : PySem.Expr := getV (lawSt 8)
/-- the items of a list of ints -/
abbrev IntR (f : Nat → Int) : Addr → Nat → Value → Heap → Prop := fun _ q y _ => ∃ t, y = .int (f q) t
theorem side_eval {Q : Value → Shared → Prop} (hX : LFacts w mean mg mb dp un h₀) (F : Fr h₀ L s.heap m) {M : Nat → Int} (cM : LCell h₀ s.heap L (L + 5) (IntR M) 3)
   (hQ : ∀ t h tk, Keep L s.heap h → Fr h₀ L h m → Q (.int (if M 0 + M 1 + M 2 - 4 < 0 then -(M 0 + M 1 + M 2 - 4) else M 0 + M 1 + M 2 - 4) t) { s with heap := h, toks := tk }) :
   wpAny (model PP w) (lawA dp un gd L fa cd) (eval sideE (lawE L fa cd)) Q E s := by
  obtain ⟨hu9, hd9, B, X, T⟩ := id hX
  obtain ⟨aM, cM, ysM, hM, hML, hM0, lM⟩ := cM
  obtain ⟨t1, t2, t3, rfl⟩ := ints3 lM
  clear lM
  generalize M 0 = x at *
  generalize M 1 = y at *
  generalize M 2 = z at *
  have hw : sideE = .Call (.Name _ _) [.BinOp (.Call (.Name _ _) [.Name _ _] [] _) .Sub (.Constant _ _ _) _] [] _ := rfl
  rw [hw]
  clear hw
  have hfill : hd.heap_39 w.params = hd.heap_39 w.params ∧ PySem.Challenge.rw_pg0254_01 = PySem.Challenge.rw_pg0254_01 := by (k_fill; exact ⟨rfl, rfl⟩)
  clear hfill
  have N : News h₀ L s.heap ((aM, lst [.int x t1, .int y t2, .int z t3]) :: allN h₀ s.heap L) := news_add (allN_news h₀ s.heap L) hM hM0 hML
  have hF : Unit → Fr h₀ L s.heap m := fun _ => F
  iterate 9 walk1
  refine ld_cell cM rfl ?_
  clear hM cM
  k_steps
  ((with_reducible rename Fr _ _ _ _ => F9); (with_reducible rename News _ _ _ _ => N9))
  have k9 := keep_of (hF ()) F9 N9 (fun p hp => .tail _ hp)
  rw [show x + y + z = x + (y + (z + 0)) by omega] at hQ
  exact hQ _ _ _ k9 F9
end
end Mine
end PartMa
section PartMb
open PySem PySem.W PyProof.Rows
set_option Elab.async false
set_option maxRecDepth 100000
set_option maxHeartbeats 1000000
namespace Mine
open PyProof.Rows.LCg
section
variable {w : World} {mean : ExcName → Option Value} {mg mb : Str → Option Value} {dp un : Nat} {gd : Option (List Code)} {fa cd : Addr} {E : Value → Shared → Prop} {s : Shared} {h₀ h : Heap} {L : Addr} {m : Str → Option Value}
abbrev TxR : Addr → Nat → Value → Heap → Prop := fun _ q y _ => ∃ t, y = .str (tx q) t
def costC : PySem.Expr := getV (lawSt 9)
def costI : PySem.Expr := (getP ((getP costC).headD noE)).headD noE
def costS : Scope := getCS costC
abbrev costE (C L fa cd : Addr) : Env := compEnvC costS (cellsFrom (C + 1) costS.names [("three", L + 3), ("texts", L + 2)]) C (lawE L fa cd)
theorem dists_eval {Q : Value → Shared → Prop} (hX : LFacts w mean mg mb dp un h₀) (F : Fr h₀ L s.heap m) {C : Addr} {k1 k2 k3 q : Nat} {tq : Tok} (hq : q < 15) (hk1 : k1 < 15) (hk2 : k2 < 15) (hk3 : k3 < 15)
   (cT : LCell h₀ s.heap L (L + 2) TxR 15) (cK : LCell h₀ s.heap L (L + 3) (fun _ => R3 k1 k2 k3) 3)
   (ct : CellAt h₀ s.heap L (C + 1) (.str (tx q) tq))
   (hQ : ∀ D h tk ys, Keep L s.heap h → Fr h₀ L h m → h.get? D = some (lst ys) → s.heap.get? D = none → D ≠ L → LR (IntR (fun c => dist q ([k1, k2, k3].getD c 0)) D) 3 ys h → Q (.ref D) { s with heap := h, toks := tk }) :
   wpAny (model PP w) (lawA dp un gd L fa cd) (eval costI (costE C L fa cd)) Q E s := by
  obtain ⟨hu9, hd9, B, X, T⟩ := id hX
  have hw : costI = .ListComp (.Call (.Name _ _) [.Name _ _, .Subscript (.Name _ _) (.Name _ _) _, .Constant _ _ _] [] _) [⟨.Name _ _, .Name _ _, [], 0⟩] _ _ := rfl
  rw [hw]
  clear hw
  have hfill : hd.heap_39 w.params = hd.heap_39 w.params ∧ PySem.Challenge.rw_pg0254_01 = PySem.Challenge.rw_pg0254_01 := by (k_fill; exact ⟨rfl, rfl⟩)
  clear hfill
  obtain ⟨aT, cT, ysT, hT, hTL, hT0, lT⟩ := cT
  obtain ⟨aK, cK, ysK, hK, hKL, hK0, lK⟩ := cK
  refine comp_R (n := 3) (P := fun i v => R3 k1 k2 k3 i v s.heap) (ownc := noCells) (cl := [("texts", L + 2), ("text", C + 1)]) (IntR (fun c => dist q ([k1, k2, k3].getD c 0))) (fun _ _ _ _ _ r _ => r) F rfl (by decide) rfl rfl (by decide) (fun N => rfl) ?src ?turn ?fin
  case src =>
    refine ld_free (h₀ := h₀) (L := L) (c := L + 3) (v := .ref aK) ?x1 ?x2 ?x3 ?x4 ?x5 ?x6
    case x1 => exact cK
    case x6 => decide
    case x4 => rfl
    case x2 => rfl
    case x5 => rfl
    exact src_lst F F (Keep.refl _ _) hKL hK lK
  case turn =>
    intro i v C' D ys h tk hi ⟨t, hv⟩ kp F' hlt hD hDn hDL hno hns hc
    subst hv
    have hCC : C + 1 ≠ C' := fun q => by
      obtain ⟨_, _, o, e, _⟩ := ct
      rw [q, hns C' (.inl rfl)] at e
      cases e
    refine turn_local rfl rfl F' hc.1 (hno C' (.inl rfl)).1 (hno C' (.inl rfl)).2 fun h₁ oC m₂ hs₁ F₁ hno₁ hm₁ hC₁ N₁ => ?_
    have k₁ : Keep L s.heap h₁ := fun b o hb e => hs₁ b o (fun q => by
      rw [q, hns C' (.inl rfl)] at e
      cases e) (kp b o hb e)
    have cT₁ := cT.keep k₁
    have ct₁ := ct.keep k₁
    have hT₁ := k₁ _ _ hTL hT
    have hk : [k1, k2, k3].getD i 0 < 15 := getD3 (P := fun k => k < 15) hk1 hk2 hk3 hi
    generalize hkk : [k1, k2, k3].getD i 0 = k at hm₁ hk ⊢
    obtain ⟨y, hx, t5, rfl⟩ := lT.2 k hk
    have hk63 : k < 63 := by omega
    clear F' F hQ lT lK cT cK hT hK kp
    iterate 5 walk1
    refine ld_free (h₀ := h₀) (L := L) (c := C + 1) (v := .str (tx q) tq) ?y1 ?y2 ?y3 ?y4 ?y5 ?y6
    case y1 => exact ct₁
    case y6 => decide
    case y4 => rfl
    case y2 => rfl
    case y5 => rfl
    walk1
    refine Subscript_ ?_
    refine ld_free (h₀ := h₀) (L := L) (c := L + 2) (v := .ref aT) ?z1 ?z2 ?z3 ?z4 ?z5 ?z6
    case z1 => exact cT₁
    case z6 => decide
    case z4 => rfl
    case z2 => rfl
    case z5 => rfl
    refine LCgL.ld_own N₁ (.head _) hno₁ hm₁ ?_
    refine row_item hT₁ hx hk63 ?_
    clear hT₁ cT₁ hx
    iterate 4 walk1
    refine' lev_claim w mean mg mb q k hq hk _ _ _ _ _ _ _ _ _ _ _ _ _ _ _ _ _ _ _ _ _ ?ha1 ?ha2 ?ha3 ?ha4 ?ha5 ?ha6 ?ha7 ?ha8 ?ha9 ?haR
    case ha1 => exact B
    case ha2 => exact F₁
    case ha3 => exact X
    case ha4 => exact N₁
    case ha5 => exact T
    case ha6 => exact rfl
    case ha7 => exact fun p hp => nomatch hp
    case ha8 => omega
    case ha9 => omega
    intro v8 add8 h8 tk8 F8 N8 A8 O8
    obtain ⟨rfl, t8, rfl⟩ := O8
    exact row_end hs₁ F₁ F8 N8 (fun p hp => .tail _ hp) hno₁ (.head _) fun k9 => ⟨t8, by subst hkk; rfl⟩
  case fin =>
    exact hQ
/-- the end of a turn whose block has one cell -/
theorem row_endc {x : Str} {h h₁ h' : Heap} {C : Addr} {news : List (Addr × Obj)} {R : Value → Heap → Prop} {y v : Value} {tk : Nat} {oc : Obj} (hs : OffC (C + 1) h h₁) (F : Fr h₀ L h₁ m) (F' : Fr h₀ L h' m) (N' : News h₀ L h' news) (hsub : ∀ p ∈ allN h₀ h₁ L, p ∈ news)
    (hC : ∃ mC, h.Ns C mC) (hCL : C ≠ L) (hcL : C + 1 ≠ L) (ho : h₁.get? (C + 1) = some oc) (hd : oc.data = .cell (some v)) (r : Keep L h₁ h' → R y h') : RowEnd s L m (fun N => [(x, N)]) C h R y { s with heap := h', toks := tk } := by
  have k9 := keep_of F F' N' hsub
  obtain ⟨mC, hmC⟩ := hC
  refine ⟨h', tk, rfl, fun b o hb hL e => k9 b o hL (hs b o (fun q => hb (.inr ⟨_, .head _, q.symm⟩)) e), ⟨⟨mC, hmC.at' fun o e => k9 C o hCL (hs C o (Nat.ne_of_lt (Nat.lt_succ_self C)) e)⟩, fun p hp => ?_⟩, F'.ns, r k9⟩
  rw [List.mem_singleton.mp hp]
  exact ⟨_, oc, k9 _ _ hcL ho, hd⟩
def costN (k1 k2 k3 q : Nat) : Int := dist q k1 + dist q k2 + dist q k3
theorem costs_eval {Q : Value → Shared → Prop} (hX : LFacts w mean mg mb dp un h₀) (F : Fr h₀ L s.heap m) {k1 k2 k3 : Nat} (hk1 : k1 < 15) (hk2 : k2 < 15) (hk3 : k3 < 15)
   (cT : LCell h₀ s.heap L (L + 2) TxR 15) (cK : LCell h₀ s.heap L (L + 3) (fun _ => R3 k1 k2 k3) 3)
   (hQ : ∀ D h tk ys, Keep L s.heap h → Fr h₀ L h m → h.get? D = some (lst ys) → s.heap.get? D = none → D ≠ L → LR (IntR (costN k1 k2 k3) D) 15 ys h → Q (.ref D) { s with heap := h, toks := tk }) :
   wpAny (model PP w) (lawA dp un gd L fa cd) (eval costC (lawE L fa cd)) Q E s := by
  obtain ⟨hu9, hd9, B, X, T⟩ := id hX
  have hw : costC = .ListComp (.Call (.Name _ _) [_] [] _) [⟨.Name _ _, .Name _ _, [], 0⟩] _ _ := rfl
  rw [hw]
  clear hw
  have hfill : hd.heap_39 w.params = hd.heap_39 w.params ∧ PySem.Challenge.rw_pg0254_01 = PySem.Challenge.rw_pg0254_01 := by (k_fill; exact ⟨rfl, rfl⟩)
  clear hfill
  refine comp_R (n := 15) (P := fun i v => ∃ t, v = .str (tx i) t) (ownc := fun N => [("text", N)]) (cl := [("three", L + 3), ("texts", L + 2)]) (IntR (costN k1 k2 k3)) (fun _ _ _ _ _ r _ => r) F rfl (by decide) rfl rfl (by decide) (fun N => rfl) ?src ?turn ?fin
  case src =>
    obtain ⟨aT, cT, ysT, hT, hTL, hT0, lT⟩ := cT
    refine ld_cell cT rfl ?_
    exact src_lst F F (Keep.refl _ _) hTL hT lT
  case turn =>
    intro i v C D ys h tk hi ⟨tj, hv⟩ kp F' hlt hD hDn hDL hno hns hc
    subst hv
    have hoc := hno (C + 1) (.inr ⟨_, .head _, rfl⟩)
    have hnc := hns (C + 1) (.inr ⟨_, .head _, rfl⟩)
    refine turn_cell (c := C + 1) rfl rfl rfl (hc.2 _ (.head _)) F' hoc.1 hoc.2 fun h₁ oc hs₁ F₁ hd₁ ho₁ => ?_
    have k₁ : Keep L s.heap h₁ := fun b o hb e => hs₁ b o (fun q => by rw [q, hnc] at e; cases e) (kp b o hb e)
    have cT₁ := LCell.keep pure_stab cT k₁
    have cK₁ := LCell.keep (fun _ _ _ _ _ r _ => r) cK k₁
    have N₁ := allN_news h₀ h₁ L
    clear hQ cT cK F' F kp
    iterate 5 walk1
    refine dists_eval hX F₁ hi hk1 hk2 hk3 cT₁ cK₁ ⟨hoc.2, hoc.1, oc, ho₁, hd₁⟩ fun D8 h8 tk8 ys8 k8 F8 hD8 hD8n hD8L l8 => ?_
    obtain ⟨t1, t2, t3, rfl⟩ := ints3 l8
    have hD80 : h₀.get? D8 = none := not_base F₁ hD8n
    have e9 : Unit → costN k1 k2 k3 i = dist i ([k1, k2, k3].getD 0 0) + (dist i ([k1, k2, k3].getD 1 0) + (dist i ([k1, k2, k3].getD 2 0) + 0)) := fun _ => by
      show dist i k1 + dist i k2 + dist i k3 = dist i k1 + (dist i k2 + (dist i k3 + 0))
      omega
    clear l8
    generalize dist i ([k1, k2, k3].getD 0 0) = x at *
    generalize dist i ([k1, k2, k3].getD 1 0) = y at *
    generalize dist i ([k1, k2, k3].getD 2 0) = z at *
    have N8 : News h₀ L h8 ((D8, lst [.int x t1, .int y t2, .int z t3]) :: allN h₀ h₁ L) := news_add (fun p hp => ⟨k8 _ _ (N₁ p hp).2.1 (N₁ p hp).1, (N₁ p hp).2⟩) hD8 hD80 hD8L
    have hF₁ : Unit → Fr h₀ L h₁ m := fun _ => F₁
    clear N₁ cT₁ cK₁ hD8 F₁
    k_steps
    ((with_reducible rename Fr _ _ _ _ => F9); (with_reducible rename News _ _ _ _ => N9))
    exact row_endc hs₁ (hF₁ ()) F9 N9 (fun p hp => .tail _ hp) hc.1 (hno C (.inl rfl)).2 hoc.2 ho₁ hd₁ fun k9 => ⟨_, by rw [e9 ()]⟩
  case fin =>
    exact hQ
end
end Mine
end PartMb
section PartMc
open PySem PySem.W PyProof.Rows
set_option Elab.async false
set_option maxRecDepth 100000
set_option maxHeartbeats 1000000
namespace Mine
open PyProof.Rows.LCg
theorem ints_snoc {t : Tok} {n : Int} : ∀ {ys : List Value} {ns : List Int}, IntsAre ys ns → IntsAre (ys ++ [.int n t]) (ns ++ [n])
  | _, _, .nil => .cons _ _ .nil
  | _, _, .cons _ _ r => .cons _ _ (ints_snoc r)
theorem ints_ofL : ∀ (ys : List Value) (f : Nat → Int), (∀ q, q < ys.length → ∃ t, ys[q]? = some (.int (f q) t)) → IntsAre ys ((List.range ys.length).map f)
  | [], _, _ => .nil
  | y :: ys, f, h => by
    obtain ⟨t, e⟩ := h 0 (Nat.succ_pos _)
    cases e
    rw [List.length_cons, List.range_succ_eq_map, List.map_cons, List.map_map]
    exact .cons _ t (ints_ofL ys (fun q => f (q + 1)) fun q hq => h (q + 1) (Nat.succ_lt_succ hq))
theorem lr_ints {f : Nat → Int} {D : Addr} {n : Nat} {ys : List Value} {h : Heap} (l : LR (IntR f D) n ys h) : IntsAre ys ((List.range n).map f) := by
  obtain ⟨hl, hq⟩ := l
  subst hl
  exact ints_ofL ys f fun q hq' => by
    obtain ⟨y, e, t, rfl⟩ := hq q hq'
    exact ⟨t, e⟩
/-- the numbers below i that p holds for -/
def picks (p : Nat → Bool) (i : Nat) : List Int := ((List.range i).filter p).map fun q : Nat => (q : Int)
theorem picks_succ (p : Nat → Bool) (i : Nat) : picks p (i + 1) = if p i = true then picks p i ++ [(i : Int)] else picks p i := by
  unfold picks
  rw [List.range_succ, List.filter_append, List.map_append]
  by_cases h : p i = true
  · rw [if_pos h, List.filter_cons_of_pos h]; rfl
  · rw [if_neg h, List.filter_cons_of_neg h]; simp
theorem picks_step {p : Nat → Bool} {i : Nat} {t : Tok} {ys : List Value} {b : Bool} (hb : p i = b) (l : IntsAre ys (picks p i)) : if b = true then IntsAre (ys ++ [.int (i : Int) t]) (picks p (i + 1)) else IntsAre ys (picks p (i + 1)) := by
  rw [picks_succ, hb]
  cases b with
  | true => exact ints_snoc l
  | false => exact l
section
variable {w : World} {mean : ExcName → Option Value} {mg mb : Str → Option Value} {dp un : Nat} {gd : Option (List Code)} {fa cd : Addr} {E : Value → Shared → Prop} {s : Shared} {h₀ h : Heap} {L : Addr} {m : Str → Option Value}
abbrev PickJ (L : Addr) (m : Str → Option Value) (p : Nat → Bool) : Addr → Nat → List Value → Heap → Prop := fun _ i ys h => h.Ns L m ∧ IntsAre ys (picks p i)
theorem pick_end {p : Nat → Bool} {h h₁ h' : Heap} {C D : Addr} {i : Nat} {ys : List Value} {oC : Obj} {m₂ : Str → Option Value} {news : List (Addr × Obj)} {b : Bool} {t : Tok} {tk : Nat} {y : Value} (hs : OffC C h h₁) (F : Fr h₀ L h₁ m) (F' : Fr h₀ L h' m) (N' : News h₀ L h' news) (hsub : ∀ p ∈ allN h₀ h₁ L, p ∈ news)
    (hno : NsObj oC m₂) (hC : (C, oC) ∈ news) (hb : p i = b) (l : IntsAre ys (picks p i)) (hy : b = true → y = .int (i : Int) t) : TurnEnd s L noCells (PickJ L m p) C D i ys h b y { s with heap := h', toks := tk } := by
  refine ⟨h', tk, rfl, fun b o hb hL e => keep_of F F' N' hsub b o hL (hs b o (fun q => hb (.inl q)) e), ⟨⟨m₂, hno.ns (N' _ hC).1⟩, fun p hp => nomatch hp⟩, ?_⟩
  have := picks_step (t := t) hb l
  cases b with
  | true =>
    rw [hy rfl]
    exact ⟨F'.ns, this⟩
  | false => exact ⟨F'.ns, this⟩
theorem best_exec {Q : Flow → Shared → Prop} (hX : LFacts w mean mg mb dp un h₀) (F : Fr h₀ L s.heap m) {c : Nat → Int} {mn : Int} (h1 : mn ∈ (List.range 15).map c) (h2 : ∀ a, a ∈ (List.range 15).map c → mn ≤ a)
   (cC : LCell h₀ s.heap L (L + 7) (IntR c) 15)
   (hQ : ∀ D h tk ys, Keep L s.heap h → Fr h₀ L h (fun z => if z = "best" then some (.ref D) else m z) → h.get? D = some (lst ys) → s.heap.get? D = none → D ≠ L → IntsAre ys (picks (fun q => decide (c q = mn)) 15) → Q .next { s with heap := h, toks := tk }) :
   wpAny (model PP w) (lawA dp un gd L fa cd) (exec (lawSt 10) (lawE L fa cd)) Q E s := by
  obtain ⟨hu9, hd9, B, X, T⟩ := id hX
  have hw : lawSt 10 = .Assign [.Name _ _] (.ListComp (.Name _ _) [⟨.Name _ _, .Call _ _ _ _, [.Compare (.Subscript (.Name _ _) (.Name _ _) _) [.Eq] [.Call (.Name _ _) [.Name _ _] [] _] _], 0⟩] _ _) _ := rfl
  rw [hw]
  clear hw
  have hfill : hd.heap_39 w.params = hd.heap_39 w.params ∧ PySem.Challenge.rw_pg0254_01 = PySem.Challenge.rw_pg0254_01 := by (k_fill; exact ⟨rfl, rfl⟩)
  clear hfill
  refine comp_A (n := 15) (P := fun i v => ∃ t, v = .int (i : Int) t) (ownc := noCells) (cl := [("costs", L + 7)]) (PickJ L m fun q => decide (c q = mn)) rfl (by decide) rfl rfl (by with_unfolding_all rfl) rfl rfl (by decide) (fun N => rfl) ?src ?mono ?ns ?turn ?fin
  case src =>
    have N := allN_news h₀ s.heap L
    have hF : Unit → Fr h₀ L s.heap m := fun _ => F
    clear hQ cC h1 h2
    refine wpAny_mono (Q := SrcEnd s L (fun h₁ xv => Src L h₁ xv 15 (fun i v => ∃ t, v = .int (i : Int) t)) (fun h₁ => h₁.Ns L m)) ?_ (fun xv s₁ hx => by
      obtain ⟨h₁, tk₁, rfl, k, hl, src, hn⟩ := hx
      exact ⟨h₁, tk₁, rfl, k, hl, src, fun D h _ hL => ⟨hn.at' hL, .nil⟩⟩) fun _ _ x => x
    k_steps
    ((with_reducible rename Fr _ _ _ _ => F9); (with_reducible rename News _ _ _ _ => N9); (with_reducible rename IsRange _ _ _ _ _ _ _ _ => R9))
    exact ⟨_, _, rfl, keep_of (hF ()) F9 N9 (fun p hp => hp), F9.ns.lt, .inr ⟨_, _, _, _, rfl, R9, by decide, by decide, fun i t hi => ⟨t, rfl⟩⟩, F9.ns⟩
  case mono =>
    exact fun D i ys h h' hj st => ⟨hj.1.at' st.2, hj.2⟩
  case ns =>
    exact fun D i ys h hj => ⟨m, hj.1⟩
  case turn =>
    intro i v C D ys h tk hi ⟨t, hv⟩ kp hlt hD hDn hDL hno hc hj
    subst hv
    have F' := fr_of F kp hj.1
    have hC0 := not_base F (hno C (.inl rfl)).1
    refine turn_local rfl rfl F' hc.1 hC0 (hno C (.inl rfl)).2 fun h₁ oC m₂ hs₁ F₁ hno₁ hm₁ hC₁ N₁ => ?_
    have k₁ : Keep L s.heap h₁ := fun b o hb e => hs₁ b o (fun q => by
      rw [q, (hno C (.inl rfl)).1] at e
      cases e) (kp b o hb e)
    obtain ⟨aC, cC₁, ysC, hCC, hCL, hC0', lC⟩ := LCell.keep pure_stab cC k₁
    have iC := lr_ints (D := aC) lC
    obtain ⟨y, hx, t5, rfl⟩ := lC.2 i hi
    have hi63 : i < 63 := by omega
    have N₂ := news_add N₁ hCC hC0' hCL
    refine wpAny_tests_one ?_
    clear hQ cC lC F' F
    walk1
    refine Subscript_ ?_
    refine ld_free (h₀ := h₀) (L := L) (c := L + 7) (v := .ref aC) ?z1 ?z2 ?z3 ?z4 ?z5 ?z6
    case z1 => exact cC₁
    case z6 => decide
    case z4 => rfl
    case z2 => rfl
    case z5 => rfl
    refine LCgL.ld_own N₂ (.tail _ (.head _)) hno₁ hm₁ ?_
    refine row_item hCC hx hi63 ?_
    generalize hci : c i = x
    have hF₁ : Unit → Fr h₀ L h₁ m := fun _ => F₁
    iterate 4 walk1
    refine ld_free (h₀ := h₀) (L := L) (c := L + 7) (v := .ref aC) ?u1 ?u2 ?u3 ?u4 ?u5 ?u6
    case u1 => exact cC₁
    case u6 => decide
    case u4 => rfl
    case u2 => rfl
    case u5 => rfl
    iterate 1 walk1
    refine kso_min F₁ N₂ (vs := ysC) ⟨_, hCC, rfl, _, rfl⟩ iC (by simp) rfl fun h9 M t9 tk9 F9 N9 a1 b1 => ?_
    obtain rfl : M = mn := Int.le_antisymm (b1 mn h1) (h2 M a1)
    clear a1 b1 h1 h2 iC F₁ N₁ N₂ hCC cC₁
    iterate 2 walk1
    have hb : decide (c i = M) = (x == M) := by rw [hci]; rfl
    by_cases e : (x == M) = true
    · rw [if_pos e]
      refine LCgL.ld_own N9 (.tail _ (.head _)) hno₁ hm₁ ?_
      exact pick_end (p := fun q => decide (c q = M)) (b := true) hs₁ (hF₁ ()) F9 N9 (fun p hp => .tail _ (.tail _ hp)) hno₁ (.tail _ (.head _)) (hb.trans e) hj.2 fun _ => rfl
    · rw [if_neg e]
      exact pick_end (p := fun q => decide (c q = M)) (b := false) (t := t) hs₁ (hF₁ ()) F9 N9 (fun p hp => .tail _ (.tail _ hp)) hno₁ (.tail _ (.head _)) (hb.trans (by simpa using e)) hj.2 fun h => nomatch h
  case fin =>
    intro D h₁ h m' tk ys kp hD hDn hDL hj hm hst hn
    have em : m' = m := by
      replace hm : h₁.Ns L m' := hm
      obtain ⟨o, es, ep, e, hd, _, f⟩ := hm
      obtain ⟨o', es', ep', e', hd', _, f'⟩ := hj.1
      rw [e] at e'
      cases e'
      rw [hd] at hd'
      cases hd'
      funext z
      rw [← f, ← f']
    rw [em] at hn
    replace hn : h.Ns L _ := hn
    replace kp : Keep L s.heap h := kp
    exact hQ D h tk ys kp ⟨hn, fun b o e => kp b o (fun q => by rw [q, Heap.get?_none_of_le F.above] at e; cases e) (F.keep b o e), F.above⟩ hD hDn hDL hj.2
end
end Mine
end PartMc
section PartMd
open PySem PySem.W PyProof.Rows
set_option Elab.async false
set_option maxRecDepth 100000
set_option maxHeartbeats 1000000
namespace Mine
open PyProof.Rows.LCg
section
variable {w : World} {mean : ExcName → Option Value} {mg mb : Str → Option Value} {dp un : Nat} {gd : Option (List Code)} {fa cd : Addr} {E : Value → Shared → Prop} {s : Shared} {h₀ h : Heap} {L : Addr} {m : Str → Option Value}
def spreadsE : PySem.Expr := (getP ((getP ((getP (getV (lawSt 11))).headD noE)).headD noE)).headD noE
theorem spreads_eval {Q : Value → Shared → Prop} (hX : LFacts w mean mg mb dp un h₀) (F : Fr h₀ L s.heap m) {aD : Addr} {M S : Nat → Int} (hm : m "told" = some (.ref aD)) (lD : LV h₀ s.heap L aD (fun D => At h₀ L D (pairO M S)) 3)
   (hQ : ∀ D h tk ys, Keep L s.heap h → Fr h₀ L h m → h.get? D = some (lst ys) → s.heap.get? D = none → D ≠ L → LR (IntR S D) 3 ys h → Q (.ref D) { s with heap := h, toks := tk }) :
   wpAny (model PP w) (lawA dp un gd L fa cd) (eval spreadsE (lawE L fa cd)) Q E s := by
  obtain ⟨hu9, hd9, B, X, T⟩ := id hX
  obtain ⟨ysD, hD, hDL, hD0, lD⟩ := lD
  have hw : spreadsE = .ListComp _ [⟨.Tuple [.Name _ _, .Name _ _] _ _, .Name _ _, [], 0⟩] _ _ := rfl
  rw [hw]
  clear hw
  have hfill : hd.heap_39 w.params = hd.heap_39 w.params ∧ PySem.Challenge.rw_pg0254_01 = PySem.Challenge.rw_pg0254_01 := by (k_fill; exact ⟨rfl, rfl⟩)
  clear hfill
  refine comp_R (n := 3) (P := fun i v => At h₀ L aD (pairO M S) i v s.heap) (ownc := noCells) (IntR S) (fun _ _ _ _ _ r _ => r) F rfl (by decide) rfl rfl (by decide) (fun N => rfl) ?src ?turn ?fin
  case src =>
    refine nameX_L F hm ?_
    exact src_lst F F (Keep.refl _ _) hDL hD lD
  case turn =>
    intro i v C D ys h tk hi hP kp F' hlt hD hDn hDL hno hns hc
    have hP := hP.keep kp
    obtain ⟨a, o, rfl, _, haL, ha0, hao, _, t1, t2, rfl⟩ := hP
    refine turn_tup2 rfl rfl (by decide) rfl rfl F' hc.1 (hno C (.inl rfl)).1 (hno C (.inl rfl)).2 ⟨_, hao, rfl, _, rfl⟩ fun h₁ oC m₂ tk' hs₁ F₁ hno₁ hm₁ hm₂ hC₁ N₁ => ?_
    have hF : Unit → Fr h₀ L h₁ m := fun _ => F₁
    clear F' F hQ lD hP hao
    k_steps
    ((with_reducible rename Fr _ _ _ _ => F9); (with_reducible rename News _ _ _ _ => N9))
    exact row_end hs₁ (hF ()) F9 N9 (fun p hp => .tail _ hp) hno₁ (.head _) fun k => ⟨_, rfl⟩
  case fin =>
    exact hQ
theorem if11_exec {Q : Flow → Shared → Prop} (hX : LFacts w mean mg mb dp un h₀) (F : Fr h₀ L s.heap m) {c : Nat → Int} {mn sd : Int} {td : Tok} (h1 : mn ∈ (List.range 15).map c) (h2 : ∀ a, a ∈ (List.range 15).map c → mn ≤ a)
   {aD : Addr} {M S : Nat → Int} (hm : m "told" = some (.ref aD)) (lD : LV h₀ s.heap L aD (fun D => At h₀ L D (pairO M S)) 3)
   (cC : LCell h₀ s.heap L (L + 7) (IntR c) 15) (cS : CellAt h₀ s.heap L (L + 6) (.int sd td)) (he : mn = S 0 + (S 1 + (S 2 + 0)) + sd)
   (hQ : ∀ h tk, Keep L s.heap h → Fr h₀ L h m → Q .next { s with heap := h, toks := tk }) :
   wpAny (model PP w) (lawA dp un gd L fa cd) (exec (lawSt 11) (lawE L fa cd)) Q E s := by
  obtain ⟨hu9, hd9, B, X, T⟩ := id hX
  have hw : lawSt 11 = .If (.Compare (.Call (.Name _ _) [.Name _ _] [] _) [.NotEq] [.BinOp (.Call (.Name _ _) [spreadsE] [] _) .Add (.Name _ _) _] _) [_] [] _ := rfl
  rw [hw]
  clear hw
  have hfill : hd.heap_39 w.params = hd.heap_39 w.params ∧ PySem.Challenge.rw_pg0254_01 = PySem.Challenge.rw_pg0254_01 := by (k_fill; exact ⟨rfl, rfl⟩)
  clear hfill
  obtain ⟨aC, cC, ysC, hCC, hCL, hC0', lC⟩ := cC
  have iC := lr_ints (D := aC) lC
  have N := news_add (allN_news h₀ s.heap L) hCC hC0' hCL
  have hF : Unit → Fr h₀ L s.heap m := fun _ => F
  clear lC
  iterate 6 walk1
  refine ld_cell cC rfl ?_
  walk1
  refine kso_min F N (vs := ysC) ⟨_, hCC, rfl, _, rfl⟩ iC (by simp) rfl fun h9 M9 t9 tk9 F9 N9 a1 b1 => ?_
  obtain rfl : M9 = mn := Int.le_antisymm (b1 mn h1) (h2 M9 a1)
  clear a1 b1 h1 h2 iC cC hCC N F
  have k9 := keep_of (hF ()) F9 N9 (fun p hp => .tail _ hp)
  have cS9 := cS.keep k9
  have lD9 := LV.keep at_stab lD k9
  clear lD
  iterate 5 walk1
  refine spreads_eval hX F9 hm lD9 fun D8 h8 tk8 ys8 k8 F8 hD8 hD8n hD8L l8 => ?_
  obtain ⟨t1, t2, t3, rfl⟩ := ints3 l8
  clear l8
  have cS8 := cS9.keep k8
  generalize S 0 = x at *
  generalize S 1 = y at *
  generalize S 2 = z at *
  have N8 := news_add (fun p hp => ⟨k8 _ _ (N9 p hp).2.1 (N9 p hp).1, (N9 p hp).2⟩) hD8 (not_base F9 hD8n) hD8L
  have hF9 : Unit → Fr h₀ L h9 m := fun _ => F9
  clear N9 cS9 lD9 hD8 F9
  iterate 2 walk1
  ((with_reducible rename Fr _ _ _ _ => F7); (with_reducible rename News _ _ _ _ => N7))
  have k7 := keep_of (hF ()) F7 N7 (fun p hp => .tail _ (.tail _ hp))
  refine ld_cell (cS.keep k7) rfl ?_
  clear cS cS8 hm
  subst he
  iterate 3 walk1
  rw [if_neg (by simp)]
  iterate 2 walk1
  exact hQ _ _ k7 F7
end
end Mine
end PartMd
section PartMe
open PySem PySem.W PyProof.Rows
set_option Elab.async false
set_option maxRecDepth 100000
set_option maxHeartbeats 1000000
namespace Mine
open PyProof.Rows.LCg
section
variable {w : World} {mean : ExcName → Option Value} {mg mb : Str → Option Value} {dp un : Nat} {gd : Option (List Code)} {fa cd : Addr} {E : Value → Shared → Prop} {s : Shared} {h₀ h : Heap} {L : Addr} {m : Str → Option Value}
def finC : PySem.Expr := (getP (getV (lawSt 12))).headD noE
def finI : PySem.Expr := (getP (getL (((getG finC).flatMap fun g => g.ifs).headD noE))).headD noE
def finS : Scope := getCS finC
abbrev finE (C L fa cd : Addr) : Env := compEnvC finS (cellsFrom (C + 1) finS.names [("side", L + 6), ("places", L + 1), ("middles", L + 5)]) C (lawE L fa cd)
def absI (x : Int) : Int := if x < 0 then -x else x
theorem offs_eval {Q : Value → Shared → Prop} (hX : LFacts w mean mg mb dp un h₀) (F : Fr h₀ L s.heap m) {C : Addr} {k : Nat} {tq : Tok} {M : Nat → Int} (hk : k < 15)
   (cP : LCell h₀ s.heap L (L + 1) (fun D => At h₀ L D place) 15) (cM : LCell h₀ s.heap L (L + 5) (IntR M) 3)
   (ck : CellAt h₀ s.heap L (C + 1) (.int (k : Int) tq))
   (hQ : ∀ D h tk ys, Keep L s.heap h → Fr h₀ L h m → h.get? D = some (lst ys) → s.heap.get? D = none → D ≠ L → LR (IntR (fun j => absI (entry k j - M j)) D) 3 ys h → Q (.ref D) { s with heap := h, toks := tk }) :
   wpAny (model PP w) (lawA dp un gd L fa cd) (eval finI (finE C L fa cd)) Q E s := by
  obtain ⟨hu9, hd9, B, X, T⟩ := id hX
  have hw : finI = .ListComp (.Call (.Name _ _) [.BinOp (.Subscript (.Subscript (.Name _ _) (.Name _ _) _) (.Name _ _) _) .Sub (.Subscript (.Name _ _) (.Name _ _) _) _] [] _) [⟨.Name _ _, .Call _ _ _ _, [], 0⟩] _ _ := rfl
  rw [hw]
  clear hw
  have hfill : hd.heap_39 w.params = hd.heap_39 w.params ∧ PySem.Challenge.rw_pg0254_01 = PySem.Challenge.rw_pg0254_01 := by (k_fill; exact ⟨rfl, rfl⟩)
  clear hfill
  obtain ⟨aP, cP, ysP, hP, hPL, hP0, lP⟩ := cP
  obtain ⟨aM, cM, ysM, hM, hML, hM0, lM⟩ := cM
  refine comp_R (n := 3) (P := fun i v => ∃ t, v = .int (i : Int) t) (ownc := noCells) (cl := [("places", L + 1), ("middles", L + 5), ("k", C + 1)]) (IntR (fun j => absI (entry k j - M j))) (fun _ _ _ _ _ r _ => r) F rfl (by decide) rfl rfl (by decide) (fun N => rfl) ?src ?turn ?fin
  case src =>
    have N := allN_news h₀ s.heap L
    have hF : Unit → Fr h₀ L s.heap m := fun _ => F
    clear hQ lP lM hP hM cP cM ck
    k_steps
    ((with_reducible rename Fr _ _ _ _ => F9); (with_reducible rename News _ _ _ _ => N9); (with_reducible rename IsRange _ _ _ _ _ _ _ _ => R9))
    exact ⟨_, _, rfl, keep_of (hF ()) F9 N9 (fun p hp => hp), F9.ns.lt, .inr ⟨_, _, _, _, rfl, R9, by decide, by decide, fun i t hi => ⟨t, rfl⟩⟩, F9.ns⟩
  case turn =>
    intro i v C' D ys h tk hi ⟨t, hv⟩ kp F' hlt hD hDn hDL hno hns hc
    subst hv
    refine turn_local rfl rfl F' hc.1 (hno C' (.inl rfl)).1 (hno C' (.inl rfl)).2 fun h₁ oC m₂ hs₁ F₁ hno₁ hm₁ hC₁ N₁ => ?_
    have k₁ : Keep L s.heap h₁ := fun b o hb e => hs₁ b o (fun q => by
      rw [q, hns C' (.inl rfl)] at e
      cases e) (kp b o hb e)
    have cP₁ := cP.keep k₁
    have cM₁ := cM.keep k₁
    have ck₁ := ck.keep k₁
    have hP₁ := k₁ _ _ hPL hP
    have hM₁ := k₁ _ _ hML hM
    obtain ⟨y, hx, a, o, rfl, haP, haL, ha0, hao, _, t1, t2, t3, n, rfl⟩ := lP.2 k hk
    obtain ⟨_, hy, t5, rfl⟩ := lM.2 i hi
    have hk63 : k < 63 := by omega
    have hi63 : i < 63 := by omega
    have ha₁ := k₁ _ _ haL hao
    have e9 : Unit → entry k i = [((tabs k : Nat) : Int), ((signs k - tabs k : Nat) : Int), 4 - ((signs k : Nat) : Int)].getD i 0 := fun _ => rfl
    generalize ((tabs k : Nat) : Int) = p1 at *
    generalize ((signs k - tabs k : Nat) : Int) = p2 at *
    generalize 4 - ((signs k : Nat) : Int) = p3 at *
    obtain ⟨x, t9, hxx, ex⟩ := entry_get p1 p2 p3 t1 t2 t3 hi
    have hF : Unit → Fr h₀ L h₁ m := fun _ => F₁
    clear F' F hQ lP lM cP cM hP hM ck kp hao
    iterate 6 walk1
    refine Subscript_ ?_
    refine ld_free (h₀ := h₀) (L := L) (c := L + 1) (v := .ref aP) ?x1 ?x2 ?x3 ?x4 ?x5 ?x6
    case x1 => exact cP₁
    case x6 => decide
    case x4 => rfl
    case x2 => rfl
    case x5 => rfl
    refine ld_free (h₀ := h₀) (L := L) (c := C + 1) (v := .int (k : Int) tq) ?y1 ?y2 ?y3 ?y4 ?y5 ?y6
    case y1 => exact ck₁
    case y6 => decide
    case y4 => rfl
    case y2 => rfl
    case y5 => rfl
    refine row_item hP₁ hx hk63 ?_
    refine LCgL.ld_own N₁ (.head _) hno₁ hm₁ ?_
    have hla : h₁.IsList a #[.int p1 t1, .int p2 t2, .int p3 t3] := ⟨_, ha₁, rfl, _, rfl⟩
    refine tail_any (hla : Heap.IsList _ a _).typeIs slot_list_getitem.lookup (wpAny_getItem_list hla (by omega) (by omega) hxx ?_) (by with_unfolding_all rfl)
    clear hla
    subst ex
    refine Subscript_ ?_
    refine ld_free (h₀ := h₀) (L := L) (c := L + 5) (v := .ref aM) ?z1 ?z2 ?z3 ?z4 ?z5 ?z6
    case z1 => exact cM₁
    case z6 => decide
    case z4 => rfl
    case z2 => rfl
    case z5 => rfl
    refine LCgL.ld_own N₁ (.head _) hno₁ hm₁ ?_
    refine row_item hM₁ hy hi63 ?_
    clear hM₁ hy ha₁ hP₁ hx cP₁ cM₁ ck₁ hxx
    have e8 : Unit → ([p1, p2, p3].getD i 0) = entry k i := fun _ => (e9 ()).symm
    clear e9
    generalize [p1, p2, p3].getD i 0 = x1 at *
    generalize hMi : M i = x2 at *
    have hMi' : Unit → M i = x2 := fun _ => hMi
    clear hMi
    k_steps
    ((with_reducible rename Fr _ _ _ _ => F9); (with_reducible rename News _ _ _ _ => N9))
    exact row_end hs₁ (hF ()) F9 N9 (fun p hp => .tail _ hp) hno₁ (.head _) fun k9 => ⟨_, by
      show _ = Value.int (absI (entry k i - M i)) _
      rw [← e8 (), hMi' ()]
      rfl⟩
  case fin =>
    exact hQ
end
end Mine
end PartMe
section PartMf
open PySem PySem.W PyProof.Rows
set_option Elab.async false
set_option maxRecDepth 100000
set_option maxHeartbeats 1000000
namespace Mine
open PyProof.Rows.LCg
section
variable {w : World} {mean : ExcName → Option Value} {mg mb : Str → Option Value} {dp un : Nat} {gd : Option (List Code)} {fa cd : Addr} {E : Value → Shared → Prop} {s : Shared} {h₀ h : Heap} {L : Addr} {m : Str → Option Value}
/-- how far place q lies off the three middle ones -/
def offN (M : Nat → Int) (q : Nat) : Int := absI (entry q 0 - M 0) + (absI (entry q 1 - M 1) + (absI (entry q 2 - M 2) + 0))
theorem pick_endc {x : Str} {p : Nat → Bool} {h h₁ h' : Heap} {C D : Addr} {i : Nat} {ys : List Value} {news : List (Addr × Obj)} {b : Bool} {t : Tok} {tk : Nat} {y v : Value} {oc : Obj} (hs : OffC (C + 1) h h₁) (F : Fr h₀ L h₁ m) (F' : Fr h₀ L h' m) (N' : News h₀ L h' news) (hsub : ∀ p ∈ allN h₀ h₁ L, p ∈ news)
    (hC : ∃ mC, h.Ns C mC) (hCL : C ≠ L) (hcL : C + 1 ≠ L) (ho : h₁.get? (C + 1) = some oc) (hd : oc.data = .cell (some v)) (hb : p i = b) (l : IntsAre ys (picks p i)) (hy : b = true → y = .int (i : Int) t) : TurnEnd s L (fun N => [(x, N)]) (PickJ L m p) C D i ys h b y { s with heap := h', toks := tk } := by
  have k9 := keep_of F F' N' hsub
  obtain ⟨mC, hmC⟩ := hC
  refine ⟨h', tk, rfl, fun b o hb hL e => k9 b o hL (hs b o (fun q => hb (.inr ⟨_, .head _, q.symm⟩)) e), ⟨⟨mC, hmC.at' fun o e => k9 C o hCL (hs C o (Nat.ne_of_lt (Nat.lt_succ_self C)) e)⟩, fun p hp => ?_⟩, ?_⟩
  · rw [List.mem_singleton.mp hp]
    exact ⟨_, oc, k9 _ _ hcL ho, hd⟩
  · have := picks_step (t := t) hb l
    cases b with
    | true =>
      rw [hy rfl]
      exact ⟨F'.ns, this⟩
    | false => exact ⟨F'.ns, this⟩
theorem fin_eval {Q : Value → Shared → Prop} (hX : LFacts w mean mg mb dp un h₀) (F : Fr h₀ L s.heap m) {M : Nat → Int} {sd : Int} {td : Tok}
   (cP : LCell h₀ s.heap L (L + 1) (fun D => At h₀ L D place) 15) (cM : LCell h₀ s.heap L (L + 5) (IntR M) 3) (cS : CellAt h₀ s.heap L (L + 6) (.int sd td))
   (hQ : ∀ D h tk ys, Keep L s.heap h → Fr h₀ L h m → h.get? D = some (lst ys) → s.heap.get? D = none → D ≠ L → IntsAre ys (picks (fun q => decide (offN M q = sd)) 15) → Q (.ref D) { s with heap := h, toks := tk }) :
   wpAny (model PP w) (lawA dp un gd L fa cd) (eval finC (lawE L fa cd)) Q E s := by
  obtain ⟨hu9, hd9, B, X, T⟩ := id hX
  have hw : finC = .ListComp (.Name _ _) [⟨.Name _ _, .Call _ _ _ _, [.Compare (.Call (.Name _ _) [_] [] _) [.Eq] [.Name _ _] _], 0⟩] _ _ := rfl
  rw [hw]
  clear hw
  have hfill : hd.heap_39 w.params = hd.heap_39 w.params ∧ PySem.Challenge.rw_pg0254_01 = PySem.Challenge.rw_pg0254_01 := by (k_fill; exact ⟨rfl, rfl⟩)
  clear hfill
  refine comp_K (n := 15) L (P := fun i v => ∃ t, v = .int (i : Int) t) (ownc := fun N => [("k", N)]) (cl := [("side", L + 6), ("places", L + 1), ("middles", L + 5)]) (PickJ L m fun q => decide (offN M q = sd)) rfl (by decide) rfl rfl (by decide) (fun N => rfl) ?src ?mono ?turn ?fin
  case src =>
    have N := allN_news h₀ s.heap L
    have hF : Unit → Fr h₀ L s.heap m := fun _ => F
    clear hQ cP cM cS
    refine wpAny_mono (Q := SrcEnd s L (fun h₁ xv => Src L h₁ xv 15 (fun i v => ∃ t, v = .int (i : Int) t)) (fun h₁ => h₁.Ns L m)) ?_ (fun xv s₁ hx => by
      obtain ⟨h₁, tk₁, rfl, k, hl, src, hn⟩ := hx
      exact ⟨h₁, tk₁, rfl, k, hl, src, fun D h _ hL => ⟨hn.at' hL, .nil⟩⟩) fun _ _ x => x
    k_steps
    ((with_reducible rename Fr _ _ _ _ => F9); (with_reducible rename News _ _ _ _ => N9); (with_reducible rename IsRange _ _ _ _ _ _ _ _ => R9))
    exact ⟨_, _, rfl, keep_of (hF ()) F9 N9 (fun p hp => hp), F9.ns.lt, .inr ⟨_, _, _, _, rfl, R9, by decide, by decide, fun i t hi => ⟨t, rfl⟩⟩, F9.ns⟩
  case mono =>
    exact fun D i ys h h' hj st => ⟨hj.1.at' st.2, hj.2⟩
  case turn =>
    intro i v C D ys h tk hi ⟨t, hv⟩ kp hlt hD hDn hDL hno hc hj
    subst hv
    have F' := fr_of F kp hj.1
    have hoc := hno (C + 1) (.inr ⟨_, .head _, rfl⟩)
    have hoc0 := not_base F hoc.1
    refine turn_cell (c := C + 1) rfl rfl rfl (hc.2 _ (.head _)) F' hoc0 hoc.2 fun h₁ oc hs₁ F₁ hd₁ ho₁ => ?_
    have k₁ : Keep L s.heap h₁ := fun b o hb e => hs₁ b o (fun q => by rw [q, hoc.1] at e; cases e) (kp b o hb e)
    have cP₁ := LCell.keep at_stab cP k₁
    have cM₁ := LCell.keep pure_stab cM k₁
    have N₁ := allN_news h₀ h₁ L
    have hF₁ : Unit → Fr h₀ L h₁ m := fun _ => F₁
    have e9 : Unit → offN M i = absI (entry i 0 - M 0) + (absI (entry i 1 - M 1) + (absI (entry i 2 - M 2) + 0)) := fun _ => rfl
    refine wpAny_tests_one ?_
    clear hQ cP cM F' kp
    iterate 5 (walk1)
    refine offs_eval hX F₁ hi cP₁ cM₁ ⟨hoc.2, hoc0, oc, ho₁, hd₁⟩ fun D8 h8 tk8 ys8 k8 F8 hD8 hD8n hD8L l8 => ?_
    obtain ⟨t1, t2, t3, rfl⟩ := ints3 l8
    clear l8
    generalize absI (entry i 0 - M 0) = x at *
    generalize absI (entry i 1 - M 1) = y at *
    generalize absI (entry i 2 - M 2) = z at *
    have N8 := news_add (fun p hp => ⟨k8 _ _ (N₁ p hp).2.1 (N₁ p hp).1, (N₁ p hp).2⟩) hD8 (not_base F₁ hD8n) hD8L
    clear N₁ cP₁ cM₁ hD8 F₁
    iterate 2 walk1
    ((with_reducible rename Fr _ _ _ _ => F7); (with_reducible rename News _ _ _ _ => N7))
    have k7 := keep_of (hF₁ ()) F7 N7 (fun p hp => .tail _ hp)
    refine ld_free (h₀ := h₀) (L := L) (c := L + 6) (v := .int sd td) ?x1 ?x2 ?x3 ?x4 ?x5 ?x6
    case x1 => exact (cS.keep k₁).keep k7
    case x6 => decide
    case x4 => rfl
    case x2 => rfl
    case x5 => rfl
    generalize hx9 : x + (y + (z + 0)) = x9 at *
    clear hx9
    iterate 2 walk1
    have hb : decide (offN M i = sd) = (x9 == sd) := by rw [e9 ()]; rfl
    by_cases e : (x9 == sd) = true
    · rw [if_pos e]
      refine ld_free (h₀ := h₀) (L := L) (c := C + 1) (v := .int (i : Int) t) ?y1 ?y2 ?y3 ?y4 ?y5 ?y6
      case y1 => exact ⟨hoc.2, hoc0, oc, k7 _ _ hoc.2 ho₁, hd₁⟩
      case y6 => decide
      case y4 => rfl
      case y2 => rfl
      case y5 => rfl
      exact pick_endc (p := fun q => decide (offN M q = sd)) (b := true) hs₁ (hF₁ ()) F7 N7 (fun p hp => .tail _ hp) hc.1 (hno C (.inl rfl)).2 hoc.2 ho₁ hd₁ (hb.trans e) hj.2 fun _ => rfl
    · rw [if_neg e]
      exact pick_endc (p := fun q => decide (offN M q = sd)) (b := false) (t := t) hs₁ (hF₁ ()) F7 N7 (fun p hp => .tail _ hp) hc.1 (hno C (.inl rfl)).2 hoc.2 ho₁ hd₁ (hb.trans (by simpa using e)) hj.2 fun h => nomatch h
  case fin =>
    intro D h tk ys kp hD hDn hDL hj
    exact hQ D h tk ys kp (fr_of F kp hj.1) hD hDn hDL hj.2
end
end Mine
end PartMf
section PartMg
open PySem PySem.W PyProof.Rows
set_option Elab.async false
set_option maxRecDepth 100000
set_option maxHeartbeats 1000000
namespace Mine
open PyProof.Rows.LCg
section
variable {w : World} {mean : ExcName → Option Value} {mg mb : Str → Option Value} {dp un : Nat} {gd : Option (List Code)} {fa cd : Addr} {E : Value → Shared → Prop} {s : Shared} {h₀ h : Heap} {L : Addr} {m : Str → Option Value}
theorem ret12_exec {Q : Flow → Shared → Prop} (hX : LFacts w mean mg mb dp un h₀) (F : Fr h₀ L s.heap m) {M : Nat → Int} {sd : Int} {td : Tok} {aB : Addr} {ysB : List Value} {ns : List Int}
   (hm : m "best" = some (.ref aB)) (hB : s.heap.get? aB = some (lst ysB)) (hBL : aB ≠ L) (iB : IntsAre ysB ns) (he : ns = picks (fun q => decide (offN M q = sd)) 15)
   (cP : LCell h₀ s.heap L (L + 1) (fun D => At h₀ L D place) 15) (cM : LCell h₀ s.heap L (L + 5) (IntR M) 3) (cS : CellAt h₀ s.heap L (L + 6) (.int sd td))
   (hQ : ∀ h tk, Fr h₀ L h m → Q (.ret (.bool true)) { s with heap := h, toks := tk }) :
   wpAny (model PP w) (lawA dp un gd L fa cd) (exec (lawSt 12) (lawE L fa cd)) Q E s := by
  obtain ⟨hu9, hd9, B, X, T⟩ := id hX
  have hw : lawSt 12 = .Return (some (.Compare (.Name _ _) [.Eq] [finC] _)) _ := rfl
  rw [hw]
  clear hw
  have hfill : hd.heap_39 w.params = hd.heap_39 w.params ∧ PySem.Challenge.rw_pg0254_01 = PySem.Challenge.rw_pg0254_01 := by (k_fill; exact ⟨rfl, rfl⟩)
  clear hfill
  have N := allN_news h₀ s.heap L
  have hF : Unit → Fr h₀ L s.heap m := fun _ => F
  iterate 2 (walk1)
  refine nameX_L F hm ?_
  refine fin_eval hX F cP cM cS fun D h tk ys kp F' hD hDn hDL l => ?_
  refine eq_intsK (vs := ysB) (us := ys) ⟨_, kp _ _ hBL hB, rfl, _, rfl⟩ iB ⟨_, hD, rfl, _, rfl⟩ l (by dsimp only [ktrTop]; omega) ?_
  rw [decide_eq_true he]
  exact hQ _ _ F'
end
end Mine
end PartMg
section PartMi
open PySem PySem.W PyProof.Rows
set_option Elab.async false
set_option maxRecDepth 100000
set_option maxHeartbeats 1000000
namespace Mine
/-- between two numbers -/
def gap (a b : Nat) : Nat := (a - b) + (b - a)
def distN (i j : Nat) : Nat :=
  let p := tabs i
  let q := tabs j
  let a := signs i - tabs i
  let b := signs j - tabs j
  if (Nat.ble p q && Nat.ble a b) || (Nat.ble q p && Nat.ble b a) then 2 * (gap p q + gap a b) else 2 * max (gap p q) (gap a b)
def med (x y z : Nat) : Nat := x + y + z - max x (max y z) - min x (min y z)
def spr (x y z : Nat) : Nat := max x (max y z) - min x (min y z)
theorem dist_n : ((List.range 15).all fun i => (List.range 15).all fun j => dist i j == ((distN i j : Nat) : Int)) = true := by decide +kernel
def cost3 (k1 k2 k3 q : Nat) : Nat := distN q k1 + distN q k2 + distN q k3
def med3 (k1 k2 k3 c : Nat) : Nat := med (entryN k1 c) (entryN k2 c) (entryN k3 c)
def spr3 (k1 k2 k3 c : Nat) : Nat := spr (entryN k1 c) (entryN k2 c) (entryN k3 c)
def off3 (a b c q : Nat) : Nat := gap (entryN q 0) a + (gap (entryN q 1) b + gap (entryN q 2) c)
def chkB (k1 k2 k3 a b c sd mn : Nat) : Bool :=
  ((List.range 15).all fun q => Nat.ble mn (cost3 k1 k2 k3 q) && (Nat.beq (cost3 k1 k2 k3 q) mn == Nat.beq (off3 a b c q) sd)) && (List.range 15).any fun q => Nat.beq (cost3 k1 k2 k3 q) mn
def chk (k1 k2 k3 : Nat) : Bool :=
  chkB k1 k2 k3 (med3 k1 k2 k3 0) (med3 k1 k2 k3 1) (med3 k1 k2 k3 2) (gap (med3 k1 k2 k3 0 + med3 k1 k2 k3 1 + med3 k1 k2 k3 2) 4)
    (spr3 k1 k2 k3 0 + spr3 k1 k2 k3 1 + spr3 k1 k2 k3 2 + gap (med3 k1 k2 k3 0 + med3 k1 k2 k3 1 + med3 k1 k2 k3 2) 4)
theorem chk_a : ([0, 1, 2].all fun k1 => (List.range 15).all fun k2 => !Nat.ble k1 k2 || (List.range 15).all fun k3 => !Nat.ble k2 k3 || chk k1 k2 k3) = true := by decide +kernel
theorem chk_b : ([3, 4, 5, 6].all fun k1 => (List.range 15).all fun k2 => !Nat.ble k1 k2 || (List.range 15).all fun k3 => !Nat.ble k2 k3 || chk k1 k2 k3) = true := by decide +kernel
theorem chk_c : ([7, 8, 9, 10, 11, 12, 13, 14].all fun k1 => (List.range 15).all fun k2 => !Nat.ble k1 k2 || (List.range 15).all fun k3 => !Nat.ble k2 k3 || chk k1 k2 k3) = true := by decide +kernel
theorem chk_up {k1 k2 k3 : Nat} (h12 : k1 ≤ k2) (h23 : k2 ≤ k3) (h3 : k3 < 15) : chk k1 k2 k3 = true := by
  have g : ∀ l : List Nat, (l.all fun k1 => (List.range 15).all fun k2 => !Nat.ble k1 k2 || (List.range 15).all fun k3 => !Nat.ble k2 k3 || chk k1 k2 k3) = true → k1 ∈ l → chk k1 k2 k3 = true := fun l hl hm => by
    have h1 := all1 (List.all_eq_true.mp hl k1 hm) (show k2 < 15 by omega)
    rw [show Nat.ble k1 k2 = true from Nat.ble_eq.mpr h12] at h1
    have h2 := all1 (show ((List.range 15).all fun k3 => !Nat.ble k2 k3 || chk k1 k2 k3) = true by simpa using h1) h3
    rw [show Nat.ble k2 k3 = true from Nat.ble_eq.mpr h23] at h2
    simpa using h2
  by_cases h : k1 < 3
  · exact g _ chk_a (by simp only [List.mem_cons, List.not_mem_nil, or_false]; omega)
  · by_cases h' : k1 < 7
    · exact g _ chk_b (by simp only [List.mem_cons, List.not_mem_nil, or_false]; omega)
    · exact g _ chk_c (by simp only [List.mem_cons, List.not_mem_nil, or_false]; omega)
theorem max_l (x y z : Nat) : max x (max y z) = max y (max x z) := by rw [← Nat.max_assoc, Nat.max_comm x y, Nat.max_assoc]
theorem min_l (x y z : Nat) : min x (min y z) = min y (min x z) := by rw [← Nat.min_assoc, Nat.min_comm x y, Nat.min_assoc]
theorem med_l (x y z : Nat) : med x y z = med y x z := by
  unfold med
  rw [Nat.add_comm x y, max_l x y z, min_l x y z]
theorem med_r (x y z : Nat) : med x y z = med x z y := by
  unfold med
  rw [Nat.add_right_comm x y z, Nat.max_comm y z, Nat.min_comm y z]
theorem spr_l (x y z : Nat) : spr x y z = spr y x z := by
  unfold spr
  rw [max_l x y z, min_l x y z]
theorem spr_r (x y z : Nat) : spr x y z = spr x z y := by
  unfold spr
  rw [Nat.max_comm y z, Nat.min_comm y z]
theorem chk_swap12 (k1 k2 k3 : Nat) : chk k1 k2 k3 = chk k2 k1 k3 := by
  have e1 : cost3 k1 k2 k3 = cost3 k2 k1 k3 := funext fun q => by unfold cost3; rw [Nat.add_comm (distN q k1)]
  have e2 : med3 k1 k2 k3 = med3 k2 k1 k3 := funext fun c => med_l _ _ _
  have e3 : spr3 k1 k2 k3 = spr3 k2 k1 k3 := funext fun c => spr_l _ _ _
  unfold chk chkB
  rw [e1, e2, e3]
theorem chk_swap23 (k1 k2 k3 : Nat) : chk k1 k2 k3 = chk k1 k3 k2 := by
  have e1 : cost3 k1 k2 k3 = cost3 k1 k3 k2 := funext fun q => by unfold cost3; rw [Nat.add_right_comm]
  have e2 : med3 k1 k2 k3 = med3 k1 k3 k2 := funext fun c => med_r _ _ _
  have e3 : spr3 k1 k2 k3 = spr3 k1 k3 k2 := funext fun c => spr_r _ _ _
  unfold chk chkB
  rw [e1, e2, e3]
theorem chk_all {k1 k2 k3 : Nat} (h1 : k1 < 15) (h2 : k2 < 15) (h3 : k3 < 15) : chk k1 k2 k3 = true := by
  by_cases h12 : k1 ≤ k2
  · by_cases h23 : k2 ≤ k3
    · exact chk_up h12 h23 h3
    · by_cases h13 : k1 ≤ k3
      · rw [chk_swap23]; exact chk_up h13 (by omega) h2
      · rw [chk_swap23, chk_swap12]; exact chk_up (by omega) h12 h2
  · by_cases h13 : k1 ≤ k3
    · rw [chk_swap12]; exact chk_up (by omega) h13 h3
    · by_cases h23 : k2 ≤ k3
      · rw [chk_swap12, chk_swap23]; exact chk_up h23 (by omega) h1
      · rw [chk_swap12, chk_swap23, chk_swap12]; exact chk_up (by omega) (by omega) h1
theorem absI_gap (a b : Nat) : absI ((a : Int) - (b : Int)) = ((gap a b : Nat) : Int) := by
  unfold absI gap
  split <;> omega
theorem entry_lt {k c : Nat} (hk : k < 15) (hc : c < 3) : entry k c = ((entryN k c : Nat) : Int) ∧ entryN k c < 5 := by
  have e := all2 entry_n hk hc
  simpa only [Bool.and_eq_true, beq_iff_eq, decide_eq_true_eq] using e
abbrev MI (k1 k2 k3 : Nat) : Nat → Int := fun c => midM (entryN k1 c) (entryN k2 c) (entryN k3 c)
abbrev SI (k1 k2 k3 : Nat) : Nat → Int := fun c => midS (entryN k1 c) (entryN k2 c) (entryN k3 c)
theorem mid_n {k1 k2 k3 c : Nat} (h1 : k1 < 15) (h2 : k2 < 15) (h3 : k3 < 15) (hc : c < 3) : MI k1 k2 k3 c = ((med3 k1 k2 k3 c : Nat) : Int) ∧ SI k1 k2 k3 c = ((spr3 k1 k2 k3 c : Nat) : Int) := by
  have e := all3 fm (entry_lt h1 hc).2 (entry_lt h2 hc).2 (entry_lt h3 hc).2
  simp only [Bool.and_eq_true, beq_iff_eq] at e
  exact e
theorem cost_n {k1 k2 k3 q : Nat} (h1 : k1 < 15) (h2 : k2 < 15) (h3 : k3 < 15) (hq : q < 15) : costN k1 k2 k3 q = ((cost3 k1 k2 k3 q : Nat) : Int) := by
  have e1 := all2 dist_n hq h1
  have e2 := all2 dist_n hq h2
  have e3 := all2 dist_n hq h3
  simp only [beq_iff_eq] at e1 e2 e3
  unfold costN cost3
  rw [e1, e2, e3]
  omega
/-- the side of the triangle -/
def sideI (k1 k2 k3 : Nat) : Int := absI (MI k1 k2 k3 0 + MI k1 k2 k3 1 + MI k1 k2 k3 2 - 4)
def minI (k1 k2 k3 : Nat) : Int := SI k1 k2 k3 0 + (SI k1 k2 k3 1 + (SI k1 k2 k3 2 + 0)) + sideI k1 k2 k3
theorem plain {k1 k2 k3 : Nat} (h1 : k1 < 15) (h2 : k2 < 15) (h3 : k3 < 15) : minI k1 k2 k3 ∈ (List.range 15).map (costN k1 k2 k3) ∧ (∀ a, a ∈ (List.range 15).map (costN k1 k2 k3) → minI k1 k2 k3 ≤ a) ∧
    picks (fun q => decide (costN k1 k2 k3 q = minI k1 k2 k3)) 15 = picks (fun q => decide (offN (MI k1 k2 k3) q = sideI k1 k2 k3)) 15 := by
  have hc := chk_all h1 h2 h3
  have m0 := mid_n h1 h2 h3 (c := 0) (by decide)
  have m1 := mid_n h1 h2 h3 (c := 1) (by decide)
  have m2 := mid_n h1 h2 h3 (c := 2) (by decide)
  have hs : sideI k1 k2 k3 = ((gap (med3 k1 k2 k3 0 + med3 k1 k2 k3 1 + med3 k1 k2 k3 2) 4 : Nat) : Int) := by
    unfold sideI
    rw [m0.1, m1.1, m2.1, ← absI_gap]
    exact congrArg absI (by omega)
  have hm : minI k1 k2 k3 = ((spr3 k1 k2 k3 0 + spr3 k1 k2 k3 1 + spr3 k1 k2 k3 2 + gap (med3 k1 k2 k3 0 + med3 k1 k2 k3 1 + med3 k1 k2 k3 2) 4 : Nat) : Int) := by
    unfold minI
    rw [m0.2, m1.2, m2.2, hs]
    omega
  have ho : ∀ q, q < 15 → offN (MI k1 k2 k3) q = ((off3 (med3 k1 k2 k3 0) (med3 k1 k2 k3 1) (med3 k1 k2 k3 2) q : Nat) : Int) := fun q hq => by
    unfold offN off3
    rw [m0.1, m1.1, m2.1, (entry_lt hq (c := 0) (by decide)).1, (entry_lt hq (c := 1) (by decide)).1, (entry_lt hq (c := 2) (by decide)).1, absI_gap, absI_gap, absI_gap]
    omega
  unfold chk chkB at hc
  rw [hm, hs]
  generalize spr3 k1 k2 k3 0 + spr3 k1 k2 k3 1 + spr3 k1 k2 k3 2 + gap (med3 k1 k2 k3 0 + med3 k1 k2 k3 1 + med3 k1 k2 k3 2) 4 = mn at *
  generalize gap (med3 k1 k2 k3 0 + med3 k1 k2 k3 1 + med3 k1 k2 k3 2) 4 = sd at *
  rw [Bool.and_eq_true] at hc
  have ha : ∀ q, q < 15 → mn ≤ cost3 k1 k2 k3 q ∧ (cost3 k1 k2 k3 q = mn ↔ off3 (med3 k1 k2 k3 0) (med3 k1 k2 k3 1) (med3 k1 k2 k3 2) q = sd) := fun q hq => by
    have h := all1 hc.1 hq
    rw [Bool.and_eq_true] at h
    refine ⟨Nat.ble_eq.mp h.1, ?_⟩
    have h' := beq_iff_eq.mp h.2
    rw [← Nat.beq_eq, ← Nat.beq_eq, h']
  obtain ⟨q₀, hq₀, e₀⟩ := List.any_eq_true.mp hc.2
  refine ⟨List.mem_map.mpr ⟨q₀, hq₀, ?_⟩, fun a hm' => ?_, ?_⟩
  · rw [cost_n h1 h2 h3 (List.mem_range.mp hq₀), Nat.beq_eq.mp e₀]
  · obtain ⟨q, hq, rfl⟩ := List.mem_map.mp hm'
    rw [cost_n h1 h2 h3 (List.mem_range.mp hq)]
    exact Int.ofNat_le.mpr (ha q (List.mem_range.mp hq)).1
  · unfold picks
    congr 1
    refine List.filter_congr fun q hq => ?_
    have hq := List.mem_range.mp hq
    rw [cost_n h1 h2 h3 hq, ho q hq]
    refine decide_eq_decide.mpr ?_
    rw [Int.ofNat_inj, Int.ofNat_inj]
    exact (ha q hq).2
end Mine
end PartMi
section PartMh
open PySem PySem.W PyProof.Rows
set_option Elab.async false
set_option maxRecDepth 100000
set_option maxHeartbeats 1000000
namespace Mine
open PyProof.Rows.LCg
theorem cell_ne {L : Addr} {a b : Nat} (h : a ≠ b) : (L + a : Nat) ≠ L + b := fun e => h (Nat.add_left_cancel e)
abbrev PlR (h₀ : Heap) (L : Addr) : Addr → Nat → Value → Heap → Prop := fun D => At h₀ L D place
abbrev CoR (h₀ : Heap) (L : Addr) (k1 k2 k3 : Nat) : Addr → Nat → Value → Heap → Prop := fun D => At h₀ L D (fun q => place ([k1, k2, k3].getD q 0))
abbrev ToR (h₀ : Heap) (L : Addr) (k1 k2 k3 : Nat) : Addr → Nat → Value → Heap → Prop := fun D => At h₀ L D (pairO (MI k1 k2 k3) (SI k1 k2 k3))
section
variable {w : World} {mean : ExcName → Option Value} {mg mb : Str → Option Value} {dp un : Nat} {gd : Option (List Code)} {fa cd : Addr} {E : Value → Shared → Prop} {s : Shared} {h₀ h : Heap} {L : Addr} {m : Str → Option Value} {Q : Flow → Shared → Prop}
theorem rest_c (hX : LFacts w mean mg mb dp un h₀) (F : Fr h₀ L s.heap m) {k1 k2 k3 : Nat} (hk1 : k1 < 15) (hk2 : k2 < 15) (hk3 : k3 < 15) {aD : Addr}
   (cP : LCell h₀ s.heap L (L + 1) (PlR h₀ L) 15) (cT : LCell h₀ s.heap L (L + 2) TxR 15) (cK : LCell h₀ s.heap L (L + 3) (fun _ => R3 k1 k2 k3) 3)
   (cM : LCell h₀ s.heap L (L + 5) (IntR (MI k1 k2 k3)) 3) (n6 : CellNo h₀ s.heap L (L + 6)) (n7 : CellNo h₀ s.heap L (L + 7)) (hm : m "told" = some (.ref aD)) (lD : LV h₀ s.heap L aD (ToR h₀ L k1 k2 k3) 3)
   (hQ : ∀ h tk m', Fr h₀ L h m' → Q (.ret (.bool true)) { s with heap := h, toks := tk }) :
   wpAny (model PP w) (lawA dp un gd L fa cd) (execs [lawSt 8, lawSt 9, lawSt 10, lawSt 11, lawSt 12] (lawE L fa cd)) Q E s := by
  obtain ⟨p1, p2, p3⟩ := plain hk1 hk2 hk3
  refine wpAny_execs_cons ?_
  have w8 : lawSt 8 = .Assign [.Name "side" _] sideE _ := rfl
  rw [w8]
  clear w8
  refine set_cell (m := m) (c := L + 6) (fun v _ => ∃ t, v = .int (sideI k1 k2 k3) t) n6 rfl rfl rfl (side_eval hX F cM fun t h tk kp F' => ⟨h, tk, rfl, kp, F', t, rfl⟩) fun v h₁ h tk kp hv hc off F' cS => ?_
  obtain ⟨td, rfl⟩ := hv
  have cP₁ := LCell.off at_stab (LCell.keep at_stab cP kp) (cell_ne (by decide)) hc off
  have cT₁ := LCell.off pure_stab (LCell.keep pure_stab cT kp) (cell_ne (by decide)) hc off
  have cK₁ := LCell.off (fun _ _ _ _ _ r _ => r) (LCell.keep (fun _ _ _ _ _ r _ => r) cK kp) (cell_ne (by decide)) hc off
  have cM₁ := LCell.off pure_stab (LCell.keep pure_stab cM kp) (cell_ne (by decide)) hc off
  have n7₁ := n7.off (c := L + 6) (cell_ne (by decide)) (fun b o hb hL e => off b o hb hL (kp b o hL e))
  have lD₁ := LV.off at_stab (LV.keep at_stab lD kp) hc off
  clear cP cT cK cM n6 n7 lD kp hc off F h₁
  refine wpAny_execs_cons ?_
  have w9 : lawSt 9 = .Assign [.Name "costs" _] costC _ := rfl
  rw [w9]
  clear w9
  refine set_list (m := m) (c := L + 7) (R := IntR (costN k1 k2 k3)) (n := 15) F' pure_stab n7₁ rfl rfl rfl (fun Q' hq => costs_eval hX F' hk1 hk2 hk3 cT₁ cK₁ hq) fun h tk off F₂ cC => ?_
  have cP₂ := LCell.off at_stab cP₁ (cell_ne (by decide)) n7₁.2.2 off
  have cM₂ := LCell.off pure_stab cM₁ (cell_ne (by decide)) n7₁.2.2 off
  have cS₂ := cS.off (cell_ne (by decide)) off
  have lD₂ := LV.off at_stab lD₁ n7₁.2.2 off
  clear cP₁ cT₁ cK₁ cM₁ n7₁ lD₁ off F' cS
  refine wpAny_execs_cons ?_
  refine best_exec hX F₂ p1 p2 cC fun D h tk ys kp F₃ hB hBn hBL iB => ?_
  have cP₃ := LCell.keep at_stab cP₂ kp
  have cM₃ := LCell.keep pure_stab cM₂ kp
  have cC₃ := LCell.keep pure_stab cC kp
  have cS₃ := cS₂.keep kp
  have lD₃ := LV.keep at_stab lD₂ kp
  have hB0 := not_base F₂ hBn
  clear cP₂ cM₂ cC cS₂ lD₂ kp F₂ hBn
  refine wpAny_execs_cons ?_
  refine if11_exec hX F₃ p1 p2 ((if_neg (by decide)).trans hm) lD₃ cC₃ cS₃ rfl fun h tk kp F₄ => ?_
  have cP₄ := LCell.keep at_stab cP₃ kp
  have cM₄ := LCell.keep pure_stab cM₃ kp
  have cS₄ := cS₃.keep kp
  have hB₄ := kp _ _ hBL hB
  clear cP₃ cM₃ cC₃ cS₃ lD₃ kp F₃ hB
  refine wpAny_execs_cons ?_
  exact ret12_exec hX F₄ (if_pos rfl) hB₄ hBL iB p3 cP₄ cM₄ cS₄ fun h tk F₅ => hQ h tk _ F₅
end
end Mine
end PartMh
section PartMj
open PySem PySem.W PyProof.Rows
set_option Elab.async false
set_option maxRecDepth 100000
set_option maxHeartbeats 1000000
namespace Mine
open PyProof.Rows.LCg
theorem r3_stab {L : Addr} {k1 k2 k3 : Nat} : RStab L (fun _ => R3 k1 k2 k3) := fun _ _ _ _ _ r _ => r
section
variable {w : World} {mean : ExcName → Option Value} {mg mb : Str → Option Value} {dp un : Nat} {gd : Option (List Code)} {fa cd : Addr} {E : Value → Shared → Prop} {s : Shared} {h₀ h : Heap} {L : Addr} {m : Str → Option Value} {Q : Flow → Shared → Prop}
theorem rest_b (hX : LFacts w mean mg mb dp un h₀) (F : Fr h₀ L s.heap m) {k1 k2 k3 : Nat} (hk1 : k1 < 15) (hk2 : k2 < 15) (hk3 : k3 < 15)
   (cP : LCell h₀ s.heap L (L + 1) (PlR h₀ L) 15) (cT : LCell h₀ s.heap L (L + 2) TxR 15) (cK : LCell h₀ s.heap L (L + 3) (fun _ => R3 k1 k2 k3) 3) (cC : LCell h₀ s.heap L (L + 4) (CoR h₀ L k1 k2 k3) 3)
   (n5 : CellNo h₀ s.heap L (L + 5)) (n6 : CellNo h₀ s.heap L (L + 6)) (n7 : CellNo h₀ s.heap L (L + 7))
   (hQ : ∀ h tk m', Fr h₀ L h m' → Q (.ret (.bool true)) { s with heap := h, toks := tk }) :
   wpAny (model PP w) (lawA dp un gd L fa cd) (execs [lawSt 5, lawSt 6, lawSt 7, lawSt 8, lawSt 9, lawSt 10, lawSt 11, lawSt 12] (lawE L fa cd)) Q E s := by
  refine wpAny_execs_cons ?_
  obtain ⟨aP, xP, ysP, hP, hPL, hP0, lP⟩ := id cP
  obtain ⟨aK, xK, ysK, hK, hKL, hK0, lK⟩ := id cK
  obtain ⟨aC, xC, ysC, hC, hCL, hC0, lC⟩ := id cC
  refine if5_exec hX F hk1 hk2 hk3 xP hP hPL lP xK hK hKL lK xC hC hCL lC fun h tk kp F₁ => ?_
  clear xP hP lP xK hK lK xC hC lC
  have cP₁ := LCell.keep at_stab cP kp
  have cT₁ := LCell.keep pure_stab cT kp
  have cK₁ := LCell.keep r3_stab cK kp
  have cC₁ := LCell.keep at_stab cC kp
  have n5₁ := n5.off (c := L + 4) (cell_ne (by decide)) (Off.of kp)
  have n6₁ := n6.off (c := L + 4) (cell_ne (by decide)) (Off.of kp)
  have n7₁ := n7.off (c := L + 4) (cell_ne (by decide)) (Off.of kp)
  clear cP cT cK cC n5 n6 n7 kp F
  refine wpAny_execs_cons ?_
  obtain ⟨aC, xC, ysC, hC, hCL, hC0, lC⟩ := id cC₁
  refine told_exec hX F₁ hk1 hk2 hk3 xC hC hCL lC fun D h tk ys kp F₂ hD hDn hDL l => ?_
  clear xC hC lC
  have lD : LV h₀ h L D (ToR h₀ L k1 k2 k3) 3 := ⟨ys, hD, hDL, not_base F₁ hDn, l⟩
  have cP₂ := LCell.keep at_stab cP₁ kp
  have cT₂ := LCell.keep pure_stab cT₁ kp
  have cK₂ := LCell.keep r3_stab cK₁ kp
  have n5₂ := n5₁.off (c := L + 4) (cell_ne (by decide)) (Off.of kp)
  have n6₂ := n6₁.off (c := L + 4) (cell_ne (by decide)) (Off.of kp)
  have n7₂ := n7₁.off (c := L + 4) (cell_ne (by decide)) (Off.of kp)
  clear cP₁ cT₁ cK₁ cC₁ n5₁ n6₁ n7₁ kp F₁ hD hDn hDL l
  refine wpAny_execs_cons ?_
  have w7 : lawSt 7 = .Assign [.Name "middles" _] middlesE _ := rfl
  rw [w7]
  clear w7
  obtain ⟨ysD, hD, hDL, hD0, l⟩ := id lD
  refine set_list (c := L + 5) (R := IntR (MI k1 k2 k3)) (n := 3) F₂ pure_stab n5₂ rfl rfl rfl (fun Q' hq => middles_eval hX F₂ (if_pos rfl) hD hDL l hq) fun h tk off F₃ cM => ?_
  clear hD l
  exact rest_c hX F₃ hk1 hk2 hk3 (LCell.off at_stab cP₂ (cell_ne (by decide)) n5₂.2.2 off) (LCell.off pure_stab cT₂ (cell_ne (by decide)) n5₂.2.2 off) (LCell.off r3_stab cK₂ (cell_ne (by decide)) n5₂.2.2 off) cM (n6₂.off (cell_ne (by decide)) off) (n7₂.off (cell_ne (by decide)) off) (if_pos rfl) (LV.off at_stab lD n5₂.2.2 off) fun h tk m' F₉ => hQ h tk m' F₉
theorem fmod15 (x : Int) : (x.fmod 15).toNat < 15 ∧ x.fmod 15 = (((x.fmod 15).toNat : Nat) : Int) := by
  have h1 := Int.fmod_nonneg_of_pos x (show (0 : Int) < 15 by decide)
  have h2 := Int.fmod_lt_of_pos x (show (0 : Int) < 15 by decide)
  omega
theorem rest_a (hX : LFacts w mean mg mb dp un h₀) (F : Fr h₀ L s.heap m) {an : Addr} {x1 x2 x3 : Int} {t1 t2 t3 : Tok} {n : Nat} (hm : m "numbers" = some (.ref an)) (han : s.heap.get? an = some (PySem.W.listOf #[.int x1 t1, .int x2 t2, .int x3 t3] n)) (hanL : an ≠ L) (han0 : h₀.get? an = none)
   (n1 : CellNo h₀ s.heap L (L + 1)) (n2 : CellNo h₀ s.heap L (L + 2)) (n3 : CellNo h₀ s.heap L (L + 3)) (n4 : CellNo h₀ s.heap L (L + 4)) (n5 : CellNo h₀ s.heap L (L + 5)) (n6 : CellNo h₀ s.heap L (L + 6)) (n7 : CellNo h₀ s.heap L (L + 7))
   (hQ : ∀ h tk m', Fr h₀ L h m' → Q (.ret (.bool true)) { s with heap := h, toks := tk }) :
   wpAny (model PP w) (lawA dp un gd L fa cd) (execs (lawB.drop 1) (lawE L fa cd)) Q E s := by
  have hw : lawB.drop 1 = [lawSt 1, lawSt 2, lawSt 3, lawSt 4, lawSt 5, lawSt 6, lawSt 7, lawSt 8, lawSt 9, lawSt 10, lawSt 11, lawSt 12] := rfl
  rw [hw]
  clear hw
  obtain ⟨hk1, e1⟩ := fmod15 x1
  obtain ⟨hk2, e2⟩ := fmod15 x2
  obtain ⟨hk3, e3⟩ := fmod15 x3
  generalize (x1.fmod 15).toNat = k1 at *
  generalize (x2.fmod 15).toNat = k2 at *
  generalize (x3.fmod 15).toNat = k3 at *
  refine wpAny_execs_cons ?_
  have w1 : lawSt 1 = .Assign [.Name "places" _] placesE _ := rfl
  rw [w1]
  clear w1
  refine set_list (m := m) (c := L + 1) (R := PlR h₀ L) (n := 15) F at_stab n1 rfl rfl rfl (fun Q' hq => places_eval hX F fun D h tk ys kp F' hD hDn l => hq D h tk ys kp F' hD hDn (fun q => by
    obtain ⟨o, _, _, e, _⟩ := F.ns
    rw [q, e] at hDn
    cases hDn) l) fun h tk off F₁ cP => ?_
  have han₁ := off.seq n1.2.2 rfl hanL han
  replace n2 := n2.off (cell_ne (by decide)) off
  replace n3 := n3.off (cell_ne (by decide)) off
  replace n4 := n4.off (cell_ne (by decide)) off
  replace n5 := n5.off (cell_ne (by decide)) off
  replace n6 := n6.off (cell_ne (by decide)) off
  replace n7 := n7.off (cell_ne (by decide)) off
  clear n1 F han off
  refine wpAny_execs_cons ?_
  have w2 : lawSt 2 = .Assign [.Name "texts" _] textsE _ := rfl
  rw [w2]
  clear w2
  obtain ⟨aP, xP, ysP, hP, hPL, hP0, lP⟩ := id cP
  refine set_list (m := m) (c := L + 2) (R := TxR) (n := 15) F₁ pure_stab n2 rfl rfl rfl (fun Q' hq => texts_eval hX F₁ xP hP hPL lP hq) fun h tk off F₂ cT => ?_
  clear xP hP lP
  have han₂ := off.seq n2.2.2 rfl hanL han₁
  replace cP := LCell.off at_stab cP (cell_ne (by decide)) n2.2.2 off
  replace n3 := n3.off (cell_ne (by decide)) off
  replace n4 := n4.off (cell_ne (by decide)) off
  replace n5 := n5.off (cell_ne (by decide)) off
  replace n6 := n6.off (cell_ne (by decide)) off
  replace n7 := n7.off (cell_ne (by decide)) off
  clear n2 F₁ han₁ off
  refine wpAny_execs_cons ?_
  have w3 : lawSt 3 = .Assign [.Name "three" _] threeE _ := rfl
  rw [w3]
  clear w3
  refine set_list (m := m) (c := L + 3) (R := fun _ => R3 k1 k2 k3) (n := 3) F₂ r3_stab n3 rfl rfl rfl (fun Q' hq => three_eval hX F₂ hm han₂ hanL han0 fun D h tk ys kp F' hD hDn hDL l => hq D h tk ys kp F' hD hDn hDL (l.mono fun q y hq r => by
    obtain ⟨t, rfl⟩ := r
    match q, hq with
    | 0, _ => exact ⟨t, congrArg (Value.int · t) e1⟩
    | 1, _ => exact ⟨t, congrArg (Value.int · t) e2⟩
    | 2, _ => exact ⟨t, congrArg (Value.int · t) e3⟩)) fun h tk off F₃ cK => ?_
  replace cP := LCell.off at_stab cP (cell_ne (by decide)) n3.2.2 off
  replace cT := LCell.off pure_stab cT (cell_ne (by decide)) n3.2.2 off
  replace n4 := n4.off (cell_ne (by decide)) off
  replace n5 := n5.off (cell_ne (by decide)) off
  replace n6 := n6.off (cell_ne (by decide)) off
  replace n7 := n7.off (cell_ne (by decide)) off
  clear n3 F₂ han₂ off
  refine wpAny_execs_cons ?_
  have w4 : lawSt 4 = .Assign [.Name "counts" _] countsE _ := rfl
  rw [w4]
  clear w4
  obtain ⟨aT, xT, ysT, hT, hTL, hT0, lT⟩ := id cT
  obtain ⟨aK, xK, ysK, hK, hKL, hK0, lK⟩ := id cK
  refine set_list (m := m) (c := L + 4) (R := CoR h₀ L k1 k2 k3) (n := 3) F₃ at_stab n4 rfl rfl rfl (fun Q' hq => counts_eval hX F₃ hk1 hk2 hk3 xT hT hTL lT xK hK hKL lK hq) fun h tk off F₄ cC => ?_
  clear xT hT lT xK hK lK
  exact rest_b hX F₄ hk1 hk2 hk3 (LCell.off at_stab cP (cell_ne (by decide)) n4.2.2 off) (LCell.off pure_stab cT (cell_ne (by decide)) n4.2.2 off) (LCell.off r3_stab cK (cell_ne (by decide)) n4.2.2 off) cC (n5.off (cell_ne (by decide)) off) (n6.off (cell_ne (by decide)) off) (n7.off (cell_ne (by decide)) off) fun h tk m' F₉ => hQ h tk m' F₉
end
end Mine
end PartMj
section PartMl
open PySem PySem.W PyProof.Rows
set_option Elab.async false
set_option maxRecDepth 100000
set_option maxHeartbeats 1000000
namespace Mine
open PyProof.Rows.LCg
section
variable {w : World} {mean : ExcName → Option Value} {mg mb : Str → Option Value} {dp un : Nat} {gd : Option (List Code)} {fa cd : Addr} {E : Value → Shared → Prop} {s : Shared} {h₀ h : Heap} {L : Addr} {m : Str → Option Value} {Q : Flow → Shared → Prop}
theorem slice_tmp {prog : Program} {A : Around} {news : List (Addr × Obj)} {Q : Value → Shared → Prop} {value slice : PySem.Expr} {l : Addr} {items : Array Value} {vl vu : Value} {lo hi : Option Int}
    (F : Fr h₀ L s.heap m) (N : News h₀ L s.heap news) (hl : s.heap.IsList l items) (pl : IsPart vl lo) (pu : IsPart vu hi) (hsz : items.size ≤ sizeLine)
    (h : ∀ h', Fr h₀ L h' m → News h₀ L h' ((s.heap.objs.size + 1, { cls := .type "list", data := .seq (slicePick items lo hi none) }) :: news) → Q (.ref (s.heap.objs.size + 1)) { s with heap := h' })
    (hs : subscripted slice false (.ref l) (.ref s.heap.objs.size) = operate [.ref s.heap.objs.size, .ref l] (getItem (.ref l) (.ref s.heap.objs.size)) := by with_unfolding_all rfl) :
    wpAny (model prog w) A (subscriptTail value slice (.ref l) (.ref s.heap.objs.size)) Q E { s with heap := s.heap.push { cls := .type "slice", data := .fields #[vl, vu, .none] } } := by
  refine tail_any (Heap.IsList.typeIs (s := { s with heap := s.heap.push { cls := .type "slice", data := .fields #[vl, vu, .none] } }) (hl.push _)) list_getitem_lookup
    (wpAny_getItem_list_slice (hl.push _) (Heap.IsSliceOf.new ..) pl pu .none (by simp) ?_ hsz) hs
  have N1 := News.push (F.push { cls := .type "slice", data := .fields #[vl, vu, .none] }) (N.grown fun _ _ e => Heap.get?_push_of_some _ e) { cls := .type "list", data := .seq (slicePick items lo hi none) }
  rw [Heap.size_push] at N1
  show Q (.ref (s.heap.push _).objs.size) _
  rw [Heap.size_push]
  exact h _ ((F.push _).push _) N1
theorem pick_none {t1 t2 t3 : Tok} {n : Nat} (hn : 3 ≤ n) : slicePick #[.int 8 t1, .int 10 t2, .int 28 t3] (some (n : Int)) none none = #[] := by
  have h := kmk_from (x := (n : Int)) (IntsAre.cons 8 t1 (.cons 10 t2 (.cons 28 t3 .nil))) (by omega)
  rw [Int.toNat_natCast, List.drop_eq_nil_of_le (by simpa using hn)] at h
  generalize slicePick _ _ _ _ = z at h
  cases z with
  | mk l =>
    cases l with
    | nil => rfl
    | cons a b => cases h
theorem ints_take {vs : List Value} {ns : List Int} (h : IntsAre vs (ns.take 3)) (h3 : 3 ≤ ns.length) : ∃ x1 x2 x3 t1 t2 t3, vs = [.int x1 t1, .int x2 t2, .int x3 t3] := by
  match ns, h3 with
  | a :: b :: c :: r, _ =>
    cases h with
    | cons _ t1 h =>
      cases h with
      | cons _ t2 h =>
        cases h with
        | cons _ t3 h =>
          cases h
          exact ⟨_, _, _, _, _, _, rfl⟩
def NumQ (h₀ : Heap) (L : Addr) (m : Str → Option Value) (s : Shared) (f : Flow) (s' : Shared) : Prop := ∃ h tk an x1 x2 x3 t1 t2 t3 n m', f = .next ∧ s' = { s with heap := h, toks := tk } ∧ Keep L s.heap h ∧ Fr h₀ L h m' ∧ m' "numbers" = some (.ref an) ∧ h.get? an = some (PySem.W.listOf #[.int x1 t1, .int x2 t2, .int x3 t3] n) ∧ an ≠ L ∧ h₀.get? an = none
theorem num_exec0 (hX : LFacts w mean mg mb dp un h₀) (F : Fr h₀ L s.heap m) {aS : Addr} {vs : List Value} {ns : List Int} (hm : m "script" = some (.ref aS)) (hS : h₀.IsList aS vs.toArray) (hI : IntsAre vs ns) (hlen : ns.length ≤ 63) :
   wpAny (model PP w) (lawA dp un gd L fa cd) (exec (lawSt 0) (lawE L fa cd)) (NumQ h₀ L m s) E s := by
  obtain ⟨hu9, hd9, B, X, T⟩ := id hX
  have hw : lawSt 0 = .Assign [.Name _ _] (.BinOp (.Subscript (.Name _ _) (.Slice _ _ _ _) _) .Add (.Subscript (.List [.Constant _ _ _, .Constant _ _ _, .Constant _ _ _] _) (.Slice (some (.Call (.Name _ _) [.Name _ _] [] _)) _ _ _) _) _) _ := rfl
  rw [hw]
  clear hw
  have hfill : hd.heap_39 w.params = hd.heap_39 w.params ∧ PySem.Challenge.rw_pg0254_01 = PySem.Challenge.rw_pg0254_01 := by (k_fill; exact ⟨rfl, rfl⟩)
  clear hfill
  have N := allN_news h₀ s.heap L
  have hF : Unit → Fr h₀ L s.heap m := fun _ => F
  by_cases h3 : 3 ≤ ns.length
  · iterate 3 walk1
    refine nameX_L F hm ?_
    k_steps
    ((with_reducible rename Fr _ _ _ _ => F8))
    ((with_reducible rename News _ _ _ _ => N8); (with_reducible rename IntsAre _ (List.take _ _) => I8))
    obtain ⟨x1, x2, x3, t1, t2, t3, rfl⟩ := ints_take I8 h3
    refine nameX_L F8 hm ?_
    iterate 4 walk1
    have n8 := N8 _ (.head _)
    refine slice_tmp F8 N8 ⟨_, n8.1, rfl, _, rfl⟩ (.int _ _) .none (by show 3 ≤ sizeLine; decide) fun h' F7 N7 => ?_
    rw [pick_none h3] at N7
    clear n8 N8 F8 I8 hS hm
    k_steps
    ((with_reducible rename Fr _ _ _ _ => F9); (with_reducible rename News _ _ _ _ => N9))
    have n9 := N9 _ (.head _)
    exact ⟨_, _, _, _, _, _, _, _, _, _, _, rfl, rfl, keep_of (hF ()) F9 N9 (fun p hp => .tail _ (.tail _ (.tail _ (.tail _ hp)))), F9, if_pos rfl, n9.1, n9.2.1, n9.2.2⟩
  have h3' : Unit → ¬ 3 ≤ ns.length := fun _ => h3
  clear h3
  cases hI with
  | nil =>
    clear h3'
    k_steps
    refine nameX_L F hm ?_
    k_steps
    ((with_reducible rename Fr _ _ _ _ => F8))
    refine nameX_L F8 hm ?_
    k_steps
    ((with_reducible rename Fr _ _ _ _ => F9); (with_reducible rename News _ _ _ _ => N9))
    have n9 := N9 _ (.head _)
    exact ⟨_, _, _, _, _, _, _, _, _, _, _, rfl, rfl, keep_of (hF ()) F9 N9 (fun p hp => .tail _ (.tail _ (.tail _ (.tail _ hp)))), F9, if_pos rfl, n9.1, n9.2.1, n9.2.2⟩
  | cons a ta hI =>
  cases hI with
  | nil =>
    clear h3'
    k_steps
    refine nameX_L F hm ?_
    k_steps
    ((with_reducible rename Fr _ _ _ _ => F8))
    refine nameX_L F8 hm ?_
    k_steps
    ((with_reducible rename Fr _ _ _ _ => F9); (with_reducible rename News _ _ _ _ => N9))
    have n9 := N9 _ (.head _)
    exact ⟨_, _, _, _, _, _, _, _, _, _, _, rfl, rfl, keep_of (hF ()) F9 N9 (fun p hp => .tail _ (.tail _ (.tail _ (.tail _ hp)))), F9, if_pos rfl, n9.1, n9.2.1, n9.2.2⟩
  | cons b tb hI =>
  cases hI with
  | nil =>
    clear h3'
    k_steps
    refine nameX_L F hm ?_
    k_steps
    ((with_reducible rename Fr _ _ _ _ => F8))
    refine nameX_L F8 hm ?_
    k_steps
    ((with_reducible rename Fr _ _ _ _ => F9); (with_reducible rename News _ _ _ _ => N9))
    have n9 := N9 _ (.head _)
    exact ⟨_, _, _, _, _, _, _, _, _, _, _, rfl, rfl, keep_of (hF ()) F9 N9 (fun p hp => .tail _ (.tail _ (.tail _ (.tail _ hp)))), F9, if_pos rfl, n9.1, n9.2.1, n9.2.2⟩
  | cons c tc hI => exact absurd (Nat.le_add_left 3 _) (h3' ())
theorem law_exec (hX : LFacts w mean mg mb dp un h₀) (F : Fr h₀ L s.heap m) {aS : Addr} {vs : List Value} {ns : List Int} (hm : m "script" = some (.ref aS)) (hS : h₀.IsList aS vs.toArray) (hI : IntsAre vs ns) (hlen : ns.length ≤ 63)
   (n1 : CellNo h₀ s.heap L (L + 1)) (n2 : CellNo h₀ s.heap L (L + 2)) (n3 : CellNo h₀ s.heap L (L + 3)) (n4 : CellNo h₀ s.heap L (L + 4)) (n5 : CellNo h₀ s.heap L (L + 5)) (n6 : CellNo h₀ s.heap L (L + 6)) (n7 : CellNo h₀ s.heap L (L + 7))
   (hQ : ∀ h tk m', Fr h₀ L h m' → Q (.ret (.bool true)) { s with heap := h, toks := tk }) :
   wpAny (model PP w) (lawA dp un gd L fa cd) (execs lawB (lawE L fa cd)) Q E s := by
  have hw : lawB = lawSt 0 :: lawB.drop 1 := rfl
  rw [hw]
  clear hw
  refine wpAny_execs_cons (wpAny_mono (num_exec0 hX F hm hS hI hlen) (fun f s' hn => ?_) fun _ _ x => x)
  obtain ⟨h, tk, an, x1, x2, x3, t1, t2, t3, n, m', rfl, rfl, k, F', hm', han, hanL, han0⟩ := hn
  have cn : ∀ c, CellNo h₀ s.heap L c → CellNo h₀ h L c := fun c ⟨a, b, v, o, e, d⟩ => ⟨a, b, v, o, k _ _ a e, d⟩
  exact rest_a hX F' hm' han hanL han0 (cn _ n1) (cn _ n2) (cn _ n3) (cn _ n4) (cn _ n5) (cn _ n6) (cn _ n7) fun h tk m' F₉ => hQ h tk m' F₉
end
end Mine
end PartMl
section PartMk
open PySem PySem.W PyProof.Rows
set_option Elab.async false
set_option maxRecDepth 100000
set_option maxHeartbeats 2000000
namespace Mine
theorem cell_no {h₀ h : Heap} {L a c : Addr} {o : Obj} {v : Option Value} {news : List (Addr × Obj)} (N : News h₀ L h news) (hm : (a, o) ∈ news) (hd : o.data = .cell v) (e : a = c) : CellNo h₀ h L c := by
  subst e
  exact ⟨(N _ hm).2.1, (N _ hm).2.2, v, o, (N _ hm).1, hd⟩
end Mine
end PartMk
open PySem PySem.W PyProof.Rows Mine
set_option Elab.async false
set_option maxRecDepth 100000 in
set_option maxHeartbeats 2000000 in
theorem PySem.Challenge.cw_pg0254_01_holds : PySem.Challenge.rw_pg0254_01.Holds := by
  refine Mine.hd ?_
  w_strict (
    k_go0
    all_goals try k_fold
    (with_reducible rename Fr _ _ _ _ => F9)
    (with_reducible rename News _ _ _ _ => N9)
    (with_reducible rename Below _ _ _ _ => K9)
    (with_reducible rename Top _ _ _ _ _ _ => T9)
    (with_reducible rename IntsAre _ _ => I9)
    (with_reducible rename ¬ (_ < _) => L9)
    refine law_exec ⟨?u, ?d, K9, by assumption, T9⟩ F9 rfl (by assumption) I9 ?len ?n1 ?n2 ?n3 ?n4 ?n5 ?n6 ?n7 ?q
    case u => decide
    case d => decide
    case len => omega
    case n1 => exact cell_no N9 (.tail _ (.tail _ (.tail _ (.tail _ (.tail _ (.tail _ (.head _))))))) (by assumption) rfl
    case n2 => exact cell_no N9 (.tail _ (.tail _ (.tail _ (.tail _ (.tail _ (.head _)))))) (by assumption) rfl
    case n3 => exact cell_no N9 (.tail _ (.tail _ (.tail _ (.tail _ (.head _))))) (by assumption) rfl
    case n4 => exact cell_no N9 (.tail _ (.tail _ (.tail _ (.head _)))) (by assumption) rfl
    case n5 => exact cell_no N9 (.tail _ (.tail _ (.head _))) (by assumption) rfl
    case n6 => exact cell_no N9 (.tail _ (.head _)) (by assumption) rfl
    case n7 => exact cell_no N9 (.head _) (by assumption) rfl
    intro h9 tk9 m9 F9

    k_steps

    done)
