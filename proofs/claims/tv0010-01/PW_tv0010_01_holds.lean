import PyProof.Rows.All
import Wide.All
import OpenK.AllK
import Wide.FinOn
import PySem.Challenge.RW_tv0010_01
set_option Elab.async false
set_option maxRecDepth 100000
set_option maxHeartbeats 8000000
set_option rowWalk.seconds 0
set_option linter.all false
set_option linter.unusedVariables false

section
open PySem PySem.W PyProof.Rows
namespace Tv
open_top tvhd for PySem.Challenge.rw_tv0010_01
end Tv
end

section
open PySem PySem.W PyProof.Rows
namespace Tv
noncomputable def Hold (P : Prop) : Prop := P
theorem Hold.mk {P : Prop} (h : P) : Hold P := h
theorem Hold.out {P : Prop} (h : Hold P) : P := h
structure Mark (n : Nat) : Prop where
theorem name_ints {ys : List Value} {ns : List Int} (h : IntsAre ys ns) : ∃ rs, IntsAre ys rs ∧ rs = ns := ⟨ns, h, rfl⟩
noncomputable def cmp3 (x y : Int) : Int := if y < x then 1 else if x < y then -1 else 0
noncomputable def innerP (r : List Int) (y : Int) (xs : List Int) (p : Int) : Int := xs.foldl (fun p x => p * cmp3 (r.getD y.toNat 0) (r.getD x.toNat 0)) p
noncomputable def outerP (r : List Int) (ys : List Int) (p : Int) : Int := ys.foldl (fun p y => innerP r y (rangeKs 0 y.toNat) p) p
end Tv
namespace Tv
noncomputable def natSum (xs : List Int) : Nat := (xs.map Int.natAbs).sum
noncomputable def CellsB (script : List Int) (p : Nat) (cells : List Int) : Prop := ∀ c ∈ cells, c.natAbs ≤ 82 + natSum (script.take p)
theorem cellsB_start (script : List Int) : CellsB script 0 [5, 5, 82] := by
  intro c hc
  simp only [List.mem_cons, List.not_mem_nil, or_false] at hc
  rcases hc with rfl | rfl | rfl <;> simp <;> omega
theorem natSum_take {script : List Int} {p : Nat} (hp : p < script.length) : natSum (script.take (p + 1)) = natSum (script.take p) + (script.getD p 0).natAbs := by
  unfold natSum
  rw [List.take_add_one, List.map_append, List.sum_append]
  simp [List.getElem?_eq_getElem hp]
theorem getD_natAbs {cells : List Int} {b : Nat} (h : ∀ c ∈ cells, c.natAbs ≤ b) (j : Nat) : (cells.getD j 0).natAbs ≤ b := by
  by_cases hj : j < cells.length
  · have : cells.getD j 0 = cells[j] := by simp [hj]
    rw [this]; exact h _ (List.getElem_mem hj)
  · have : cells.getD j 0 = 0 := by simp [Nat.le_of_not_lt hj]
    rw [this]; simp
theorem cellsB_step {script cells : List Int} {p j : Nat} {k : Int} (hk : k = 0 + (p : Int)) (hp : p < script.length) (h : CellsB script p cells) :
    CellsB script (p + 1) (cells.set j (cells.getD j 0 + script.getD k.toNat 0)) := by
  have e : k.toNat = p := by omega
  rw [e]
  intro c hc
  rw [natSum_take hp]
  rcases List.mem_or_eq_of_mem_set hc with hc | rfl
  · have := h c hc; omega
  · have := getD_natAbs h j; omega
end Tv
namespace Tv
theorem rangeKs_len0 {n : Int} (h : 0 ≤ n) : ((rangeKs 0 (n - 0).toNat).length : Int) = n := by rw [rangeKs_length]; omega
theorem rs_len {n : Int} {f : Int → Int} {rs : List Int} (h : 0 ≤ n) (e : rs = List.map f (rangeKs 0 (n - 0).toNat)) : (rs.length : Int) = n := by
  subst e; rw [List.length_map, rangeKs_length]; omega
theorem cmp3_lift (a b l : Int) : cmp3 (a + l) (b + l) = cmp3 a b := by
  unfold cmp3
  have h1 : (b + l < a + l) ↔ b < a := by omega
  have h2 : (a + l < b + l) ↔ a < b := by omega
  simp only [h1, h2]
theorem cmp3_bound (a b : Int) : -1 ≤ cmp3 a b ∧ cmp3 a b ≤ 1 := by
  unfold cmp3; split <;> (try split) <;> omega
theorem mul_bound {p c : Int} (h1 : -1 ≤ p) (h2 : p ≤ 1) (h3 : -1 ≤ c) (h4 : c ≤ 1) : -1 ≤ p * c ∧ p * c ≤ 1 := by
  have : p = -1 ∨ p = 0 ∨ p = 1 := by omega
  rcases this with rfl | rfl | rfl <;> constructor <;> omega
theorem inner_step {r : List Int} {y l p p0 k : Int} {pre : List Int} (e : p = innerP r y pre p0) (h1 : -1 ≤ p) (h2 : p ≤ 1) :
    p * cmp3 (r.getD y.toNat 0 + l) (r.getD k.toNat 0 + l) = innerP r y (pre ++ [k]) p0 ∧ -1 ≤ p * cmp3 (r.getD y.toNat 0 + l) (r.getD k.toNat 0 + l) ∧ p * cmp3 (r.getD y.toNat 0 + l) (r.getD k.toNat 0 + l) ≤ 1 := by
  rw [cmp3_lift]
  refine ⟨?_, mul_bound h1 h2 (cmp3_bound _ _).1 (cmp3_bound _ _).2⟩
  rw [e]; unfold innerP; rw [List.foldl_append]; rfl
theorem outer_step {r : List Int} {p p' k : Int} {pre : List Int} (e : p = outerP r pre 1) (e' : p' = innerP r k (rangeKs 0 (k - 0).toNat) p) (h1 : -1 ≤ p') (h2 : p' ≤ 1) :
    p' = outerP r (pre ++ [k]) 1 ∧ -1 ≤ p' ∧ p' ≤ 1 := by
  refine ⟨?_, h1, h2⟩
  rw [e', e]; unfold outerP; rw [List.foldl_append]
  simp
end Tv
namespace Tv
theorem fr_norm {h₀ h : Heap} {L : Addr} {m : Str → Option Value} (ps : List (Str × Value)) (hk : ∀ p ∈ ps, m p.1 = some p.2) (F : Fr h₀ L h m) : Fr h₀ L h (kstB m ps) := by
  have e : kstB m ps = m := by
    funext y
    exact kstB_eq hk fun _ => rfl
  rw [e]; exact F
theorem news_sub {h₀ h : Heap} {L : Addr} {l l' : List (Addr × Obj)} (N : News h₀ L h l) (hs : ∀ p ∈ l', p ∈ l) : News h₀ L h l' := fun p hp => N p (hs p hp)
end Tv
namespace Tv
structure Nums (script : List Int) (c1 c2 n step place share lift : Int) (rs : List Int) : Prop where
  odd : n % 2 = 1
  estep : step = c1 % n
  eplace : place = c2 % 25
  eshare : share = c2 / 25
  elift : lift = c2 - 85
  ers : rs = (rangeKs 0 n.toNat).map (fun k => (step * k) % n)
  bnd : c2.natAbs ≤ 82 + natSum script
theorem nums_of {script cells : List Int} {p : Nat} {c0 c1 c2 r8 n half step place share lift : Int} {rs : List Int} (hp : p = script.length) (hcb : CellsB script p cells)
    (hc2 : cells.getD (Int.toNat 2) 0 = c2) (hr8 : c0.fmod 8 = r8) (hn : 3 + 2 * r8 = n)
    (hhalf : n.fdiv 2 = half) (hstep : c1.fmod n = step) (hplace : c2.fmod 25 = place) (hshare : c2.fdiv 25 = share) (hlift : c2 - 85 = lift)
    (hrs : rs = (rangeKs 0 (n - 0).toNat).map (fun k' => (step * k').fmod n)) :
    3 ≤ n ∧ n ≤ 17 ∧ 2 * half + 1 = n ∧ 0 ≤ step ∧ step < n ∧ 0 ≤ place ∧ place ≤ 24 ∧ (rs.length : Int) = n ∧ Nums script c1 c2 n step place share lift rs := by
  have h8 : c0.fmod 8 = c0 % 8 := Int.fmod_eq_emod_of_nonneg _ (by omega)
  have h0 : 0 ≤ r8 := by rw [← hr8, h8]; omega
  have h7 : r8 ≤ 7 := by rw [← hr8, h8]; omega
  have hn3 : 3 ≤ n := by omega
  have e2 : n.fdiv 2 = n / 2 := Int.fdiv_eq_ediv_of_nonneg _ (by omega)
  have e3 : c1.fmod n = c1 % n := Int.fmod_eq_emod_of_nonneg _ (by omega)
  have e4 : c2.fmod 25 = c2 % 25 := Int.fmod_eq_emod_of_nonneg _ (by omega)
  have e5 : c2.fdiv 25 = c2 / 25 := Int.fdiv_eq_ediv_of_nonneg _ (by omega)
  have hs0 := Int.emod_nonneg c1 (b := n) (by omega)
  have hs1 := Int.emod_lt_of_pos c1 (b := n) (by omega)
  rw [e2] at hhalf; rw [e3] at hstep; rw [e4] at hplace; rw [e5] at hshare
  refine ⟨hn3, by omega, by omega, by omega, by omega, by omega, by omega, rs_len (by omega) hrs, ⟨by omega, hstep.symm, hplace.symm, hshare.symm, hlift.symm, ?_, ?_⟩⟩
  · rw [hrs, Int.sub_zero]
    refine List.map_congr_left fun k _ => ?_
    exact Int.fmod_eq_emod_of_nonneg _ (by omega)
  · have := getD_natAbs hcb (Int.toNat 2)
    rw [hc2, hp, List.take_length] at this
    exact this
end Tv
namespace Tv
theorem fr_turn2 {h₀ h : Heap} {L : Addr} {m₁ : Str → Option Value} {x a b : Str} {vx va vb : Value} (F : Fr h₀ L h (fun y => if y = x then some vx else m₁ y)) (ha : m₁ a = some va) (hb : m₁ b = some vb) :
    Fr h₀ L h (fun y => if y = x then some vx else if y = a then some va else if y = b then some vb else m₁ y) := by
  have e : (fun y => if y = x then some vx else if y = a then some va else if y = b then some vb else m₁ y) = fun y => if y = x then some vx else m₁ y := by
    funext y
    by_cases h1 : y = x
    · simp [h1]
    · rw [if_neg h1, if_neg h1]
      by_cases h2 : y = a
      · rw [if_pos h2, h2, ha]
      · rw [if_neg h2]
        by_cases h3 : y = b
        · rw [if_pos h3, h3, hb]
        · rw [if_neg h3]
  rw [e]; exact F
theorem fr_out2 {h₀ h : Heap} {L : Addr} {m₁ : Str → Option Value} {a b : Str} {va vb : Value} (F : Fr h₀ L h m₁) (ha : m₁ a = some va) (hb : m₁ b = some vb) :
    Fr h₀ L h (fun y => if y = a then some va else if y = b then some vb else m₁ y) := by
  have e : (fun y => if y = a then some va else if y = b then some vb else m₁ y) = m₁ := by
    funext y
    by_cases h2 : y = a
    · rw [if_pos h2, h2, ha]
    · rw [if_neg h2]
      by_cases h3 : y = b
      · rw [if_pos h3, h3, hb]
      · rw [if_neg h3]
  rw [e]; exact F
end Tv
end

section
open PySem PySem.W PyProof.Rows Tv
namespace Tv
noncomputable def rawFn : Option (List Stmt × Scope) := match PySem.Challenge.pw_tv0010_01.main.body.reverse with
  | .FunctionDef _ _ b _ _ _ s _ _ _ :: _ => some (b, s)
  | _ => none
noncomputable def rawBody : List Stmt := match rawFn with | some (b, _) => b | none => []
noncomputable def rawScope : Scope := match rawFn with | some (_, s) => s | none => { kind := .function, names := [], isGenerator := false, isCoroutine := false, more := [] }
noncomputable def lawScopeP : { s : Scope // rawScope = s } := ⟨_, by
  conv => lhs; whnf; dsimp only⟩
noncomputable def lawScope : Scope := lawScopeP.1
noncomputable def lawBodyP : { s : List Stmt // rawBody = s } := ⟨_, by
  conv => lhs; whnf; dsimp only⟩
noncomputable def lawBody : List Stmt := lawBodyP.1
noncomputable abbrev prog := PySem.Challenge.rw_tv0010_01.row.prog
noncomputable abbrev lawEnv (L fa : Addr) (cdv : Value) : Env := envOfC (Str.ofString "law") lawScope L fa cdv
end Tv
end

section
open PySem PySem.W PyProof.Rows
namespace Tv
noncomputable def Jf : Nat → Int → Int → Int → Int
  | 0, _, _, sign => sign
  | f + 1, over, under, sign =>
    if over = 0 then (if under ≠ 1 then 0 else sign)
    else if over % 2 = 0 then Jf f (over / 2) under (if under % 8 = 3 ∨ under % 8 = 5 then -sign else sign)
    else Jf f (under % over) over (if under % 4 = 3 ∧ over % 4 = 3 then -sign else sign)
theorem Jf_stable : ∀ (f g : Nat) (o u s : Int), 0 ≤ o → o < u → o.toNat + u.toNat < f → o.toNat + u.toNat < g → Jf f o u s = Jf g o u s := by
  intro f
  induction f with
  | zero => intro g o u s _ _ h; omega
  | succ f ih =>
    intro g o u s h0 h1 hf hg
    obtain ⟨g, rfl⟩ : ∃ g', g = g' + 1 := ⟨g - 1, by omega⟩
    unfold Jf
    by_cases ho : o = 0
    · rw [if_pos ho, if_pos ho]
    · rw [if_neg ho, if_neg ho]
      by_cases he : o % 2 = 0
      · rw [if_pos he, if_pos he]
        exact ih g _ _ _ (by omega) (by omega) (by omega) (by omega)
      · rw [if_neg he, if_neg he]
        have a := Int.emod_nonneg u (b := o) (by omega)
        have b := Int.emod_lt_of_pos u (b := o) (by omega)
        exact ih g _ _ _ a b (by omega) (by omega)
noncomputable def J (o u s : Int) : Int := Jf (o.toNat + u.toNat + 1) o u s
theorem J_zero (u s : Int) : J 0 u s = if u ≠ 1 then 0 else s := by
  unfold J Jf; simp
theorem J_even {o u s : Int} (h0 : 0 < o) (h1 : o < u) (he : o % 2 = 0) : J o u s = J (o / 2) u (if u % 8 = 3 ∨ u % 8 = 5 then -s else s) := by
  unfold J
  rw [Jf, if_neg (by omega), if_pos he]
  exact Jf_stable _ _ _ _ _ (by omega) (by omega) (by omega) (by omega)
theorem J_odd {o u s : Int} (h0 : 0 < o) (h1 : o < u) (he : ¬ o % 2 = 0) : J o u s = J (u % o) o (if u % 4 = 3 ∧ o % 4 = 3 then -s else s) := by
  unfold J
  rw [Jf, if_neg (by omega), if_neg he]
  have a := Int.emod_nonneg u (b := o) (by omega)
  have b := Int.emod_lt_of_pos u (b := o) (by omega)
  exact Jf_stable _ _ _ _ _ a b (by omega) (by omega)
theorem fm (a b : Int) (h : 0 ≤ b) : a.fmod b = a % b := Int.fmod_eq_emod_of_nonneg _ h
theorem fd (a b : Int) (h : 0 ≤ b) : a.fdiv b = a / b := Int.fdiv_eq_ediv_of_nonneg _ h
theorem name_int (x : Int) : ∃ R : Int, x = R := ⟨x, rfl⟩
theorem sym_start {a u R : Int} (hu : 0 < u) (h : J (a.fmod u) u 1 = R) : 0 ≤ a.fmod u ∧ a.fmod u < u ∧ J (a.fmod u) u 1 = R := by
  refine ⟨?_, ?_, h⟩ <;> rw [fm _ _ (by omega)]
  · exact Int.emod_nonneg _ (by omega)
  · exact Int.emod_lt_of_pos _ hu
theorem sym_even {o u s s' R : Int} (h0 : 0 < o) (h1 : o < u) (hJ : J o u s = R) (he : o.fmod 2 = 0)
    (hs : (s' = -s ∧ (u.fmod 8 = 3 ∨ u.fmod 8 = 5)) ∨ (s' = s ∧ ¬ (u.fmod 8 = 3 ∨ u.fmod 8 = 5))) : 0 < o.fdiv 2 ∧ o.fdiv 2 < u ∧ J (o.fdiv 2) u s' = R := by
  rw [fm _ _ (by omega)] at he hs
  rw [fd _ _ (by omega)]
  refine ⟨by omega, by omega, ?_⟩
  rw [J_even h0 h1 he] at hJ
  rw [← hJ]
  rcases hs with ⟨rfl, h⟩ | ⟨rfl, h⟩
  · rw [if_pos h]
  · rw [if_neg h]
theorem sym_odd {o u s s' R : Int} (h0 : 0 < o) (h1 : o < u) (hJ : J o u s = R) (he : o.fmod 2 ≠ 0)
    (hs : (s' = -s ∧ u.fmod 4 = 3 ∧ o.fmod 4 = 3) ∨ (s' = s ∧ ¬ (u.fmod 4 = 3 ∧ o.fmod 4 = 3))) : 0 ≤ u.fmod o ∧ u.fmod o < o ∧ J (u.fmod o) o s' = R := by
  rw [fm _ _ (by omega)] at he
  rw [fm _ 4 (by omega), fm _ 4 (by omega)] at hs
  rw [fm _ _ (by omega)]
  refine ⟨Int.emod_nonneg _ (by omega), Int.emod_lt_of_pos _ h0, ?_⟩
  rw [J_odd h0 h1 he] at hJ
  rw [← hJ]
  rcases hs with ⟨rfl, h⟩ | ⟨rfl, h⟩
  · rw [if_pos h]
  · rw [if_neg h]
theorem sym_meas {o : Int} (h0 : 0 < o) : (o.fdiv 2).toNat < o.toNat := by
  rw [fd _ _ (by omega)]; omega
theorem sym_end0 {o u s R : Int} (hJ : J o u s = R) (ho : o = 0) (hu : u ≠ 1) : 0 = R := by
  subst ho; rw [J_zero, if_pos hu] at hJ; exact hJ
theorem sym_end1 {o u s R : Int} (hJ : J o u s = R) (ho : o = 0) (hu : ¬ u ≠ 1) : s = R := by
  subst ho; rw [J_zero, if_neg hu] at hJ; exact hJ
end Tv
end

section
open PySem PySem.W PyProof.Rows Tv
theorem Tv.sym_ct {w : World} {loose : List Str} {mean : ExcName → Option Value} {mg mb : Str → Option Value} (news : List (Addr × Obj)) (x : Int) (tx : CbTok) (y : Int) (ty : CbTok) :
    CbClaim PySem.Challenge.rw_tv0010_01.row.prog w (tvhd.heap_39 w.params) tvhd.view_39 loose mean mg mb 55 news [] (0 < y) [.int x tx, .int y ty] (fun t => .int (J (x.fmod y) y 1) t) := by
  k_with_none
  k_fill
  dsimp only [CbClaim, CbLists, CbRet]
  intros
  rename_i hret
  obtain ⟨R, hR⟩ := name_int (J (x.fmod y) y 1)
  rw [hR] at hret
  refine wpAny_call ?_
  k_dflt cell_enter
  k_with "exec While Compare cons nil" => ((with_reducible show wpAny _ _ (exec (Stmt.While (Expr.Compare (Expr.Name _ _) _ _ _) _ _ _) _) _ _ _); k_while (fun _ o u s => 0 ≤ o ∧ o < u ∧ J o u s = R) (fun _ _ u _ => u.toNat) "over" "under" "sign")
  k_with "exec While Compare cons nil" => ((with_reducible show wpAny _ _ (exec (Stmt.While (Expr.Compare (Expr.BinOp _ _ _ _) _ _ _) _ _ _) _) _ _ _); k_while_given ["under"] (fun u _ o s => 0 < o ∧ o < u ∧ J o u s = R) (fun _ _ o _ => o.toNat) "over" "sign")
  k_with "state" => first | exact sym_start (by assumption) (by assumption) | exact sym_even (by assumption) (by assumption) (by assumption) (by assumption) (by omega) | exact sym_odd (by assumption) (by assumption) (by assumption) (by assumption) (by omega)
  k_with "measure" => exact sym_meas (by assumption)
  k_steps
  all_goals first
    | exact cb_retI hret (sym_end0 (by assumption) (by omega) (by omega)) (by assumption) (by assumption)
    | exact cb_retI hret (sym_end1 (by assumption) (by omega) (by omega)) (by assumption) (by assumption)
end

section
open PySem PySem.W PyProof.Rows
namespace Tv
noncomputable def Cf : Nat → Int → Int → Int
  | 0, o, _ => o
  | f + 1, o, t => if t = 0 then o else Cf f t (o % t)
theorem Cf_stable : ∀ (f g : Nat) (o t : Int), 0 ≤ t → t.toNat < f → t.toNat < g → Cf f o t = Cf g o t := by
  intro f
  induction f with
  | zero => intro g o t _ h; omega
  | succ f ih =>
    intro g o t h0 hf hg
    obtain ⟨g, rfl⟩ : ∃ g', g = g' + 1 := ⟨g - 1, by omega⟩
    unfold Cf
    by_cases ht : t = 0
    · rw [if_pos ht, if_pos ht]
    · rw [if_neg ht, if_neg ht]
      have a := Int.emod_nonneg o (b := t) (by omega)
      have b := Int.emod_lt_of_pos o (b := t) (by omega)
      exact ih g _ _ a (by omega) (by omega)
noncomputable def Cm (o t : Int) : Int := Cf (t.toNat + 1) o t
theorem Cm_zero (o : Int) : Cm o 0 = o := by unfold Cm Cf; simp
theorem Cm_step {o t : Int} (h0 : 0 < t) : Cm o t = Cm t (o % t) := by
  unfold Cm
  rw [Cf, if_neg (by omega)]
  have a := Int.emod_nonneg o (b := t) (by omega)
  have b := Int.emod_lt_of_pos o (b := t) (by omega)
  exact Cf_stable _ _ _ _ a (by omega) (by omega)
theorem com_turn {o t R : Int} (h0 : 0 ≤ t) (h : Cm o t = R) (ht : t ≠ 0) : 0 ≤ o.fmod t ∧ Cm t (o.fmod t) = R := by
  rw [fm _ _ (by omega)]
  refine ⟨Int.emod_nonneg _ (by omega), ?_⟩
  rw [← Cm_step (by omega)]; exact h
theorem com_meas {o t : Int} (h0 : 0 ≤ t) (ht : t ≠ 0) : (o.fmod t).toNat < t.toNat := by
  rw [fm _ _ (by omega)]
  have a := Int.emod_nonneg o (b := t) (by omega)
  have b := Int.emod_lt_of_pos o (b := t) (by omega)
  omega
theorem com_end {o t R : Int} (h : Cm o t = R) (ht : t = 0) : o = R := by
  subst ht; rw [Cm_zero] at h; exact h
end Tv
end

section
open PySem PySem.W PyProof.Rows Tv
theorem Tv.com_ct {w : World} {loose : List Str} {mean : ExcName → Option Value} {mg mb : Str → Option Value} (news : List (Addr × Obj)) (x : Int) (tx : CbTok) (y : Int) (ty : CbTok) :
    CbClaim PySem.Challenge.rw_tv0010_01.row.prog w (tvhd.heap_39 w.params) tvhd.view_39 loose mean mg mb 48 news [] (0 ≤ y) [.int x tx, .int y ty] (fun t => .int (Cm x y) t) := by
  k_with_none
  k_fill
  dsimp only [CbClaim, CbLists, CbRet]
  intros
  rename_i hret
  obtain ⟨R, hR⟩ := name_int (Cm x y)
  rw [hR] at hret
  refine wpAny_call ?_
  k_dflt cell_enter
  k_with "exec While Compare cons nil" => k_while (fun _ o t => 0 ≤ t ∧ Cm o t = R) (fun _ _ t => t.toNat) "one" "other"
  k_with "state" => first | exact ⟨by assumption, by assumption⟩ | exact com_turn (by assumption) (by assumption) (by assumption)
  k_with "measure" => exact com_meas (by assumption) (by assumption)
  k_steps
  all_goals first
    | exact cb_retI hret (com_end (by assumption) (by omega)) (by assumption) (by assumption)
end

section
open PySem PySem.W PyProof.Rows Tv
theorem Tv.b2i_cmp3 (x y : Int) : b2i (decide (y < x)) - b2i (decide (x < y)) = cmp3 x y := by
  unfold cmp3 b2i
  by_cases h1 : y < x
  · have h2 : ¬ x < y := by omega
    simp [h1, h2]
  · by_cases h2 : x < y
    · simp [h1, h2]
    · simp [h1, h2]
theorem Tv.cmp_ct {w : World} {loose : List Str} {mean : ExcName → Option Value} {mg mb : Str → Option Value} (news : List (Addr × Obj)) (x : Int) (tx : CbTok) (y : Int) (ty : CbTok) :
    CbClaim PySem.Challenge.rw_tv0010_01.row.prog w (tvhd.heap_39 w.params) tvhd.view_39 loose mean mg mb 28 news [] True [.int x tx, .int y ty] (fun t => .int (cmp3 x y) t) := by
  k_with_none
  k_fill
  dsimp only [CbClaim, CbLists, CbRet]
  intros
  rename_i hret
  refine wpAny_call ?_
  k_dflt cell_enter
  k_steps
  exact cb_retI hret (b2i_cmp3 x y) (by assumption) (by assumption)
end

section
open PySem PySem.W PyProof.Rows Tv
namespace Tv
section
variable {w : World} {loose : List Str} {mean : ExcName → Option Value} {mg mb : Str → Option Value} {h₀ : Heap} {L fa : Nat} {cdv : Value} {s : Shared} {news : List (Addr × Obj)} {m : Str → Option Value} {Q E : Value → Shared → Prop} {x y : Int} {tx ty : CbTok}
theorem cmp_law (K0 : Below callerA h₀ [] h₀) (F : Fr h₀ L s.heap m) (KX : (tvhd.heap_39 w.params).In h₀) (N : News h₀ L s.heap news) (T : Top tvhd.view_39 loose mean mg mb h₀)
    (h : ∀ t h' tk', Fr h₀ L h' m → News h₀ L h' news → Q (.int (cmp3 x y) t) { s with heap := h', toks := tk' }) :
    wpAny (model Challenge.rw_tv0010_01.row.prog w) (callerA.deeper (envOfC (Str.ofString "law") lawScope L fa cdv)) (call (.ref 28) [.int x tx, .int y ty]) Q E s :=
  cmp_ct news x tx y ty _ _ _ _ _ _ _ _ _ _ _ _ _ _ _ _ _ K0 F KX N T rfl trivial (by decide) (by decide) h
theorem sym_law (K0 : Below callerA h₀ [] h₀) (F : Fr h₀ L s.heap m) (KX : (tvhd.heap_39 w.params).In h₀) (N : News h₀ L s.heap news) (T : Top tvhd.view_39 loose mean mg mb h₀) (hy : 0 < y)
    (h : ∀ t h' tk', Fr h₀ L h' m → News h₀ L h' news → Q (.int (J (x.fmod y) y 1) t) { s with heap := h', toks := tk' }) :
    wpAny (model Challenge.rw_tv0010_01.row.prog w) (callerA.deeper (envOfC (Str.ofString "law") lawScope L fa cdv)) (call (.ref 55) [.int x tx, .int y ty]) Q E s :=
  sym_ct news x tx y ty _ _ _ _ _ _ _ _ _ _ _ _ _ _ _ _ _ K0 F KX N T rfl hy (by decide) (by decide) h
theorem com_law (K0 : Below callerA h₀ [] h₀) (F : Fr h₀ L s.heap m) (KX : (tvhd.heap_39 w.params).In h₀) (N : News h₀ L s.heap news) (T : Top tvhd.view_39 loose mean mg mb h₀) (hy : 0 ≤ y)
    (h : ∀ t h' tk', Fr h₀ L h' m → News h₀ L h' news → Q (.int (Cm x y) t) { s with heap := h', toks := tk' }) :
    wpAny (model Challenge.rw_tv0010_01.row.prog w) (callerA.deeper (envOfC (Str.ofString "law") lawScope L fa cdv)) (call (.ref 48) [.int x tx, .int y ty]) Q E s :=
  com_ct news x tx y ty _ _ _ _ _ _ _ _ _ _ _ _ _ _ _ _ _ K0 F KX N T rfl hy (by decide) (by decide) h
end
end Tv
end

section
open PySem PySem.W PyProof.Rows Tv
namespace Tv
section
variable {prog : Program} {w : World} {A : Around} {E : Value → Shared → Prop} {s : Shared} {h₀ : Heap} {L a b : Nat} {m : Str → Option Value} {news : List (Addr × Obj)} {vs ws : List Value} {k j : Nat}
theorem add_news {Q : Value → Shared → Prop} (F : Fr h₀ L s.heap m) (N : News h₀ L s.heap news) (ha : (a, listOf vs.toArray k) ∈ news) (hb : (b, listOf ws.toArray j) ∈ news) (hsz : vs.length + ws.length ≤ 16777216)
    (h : ∀ (D : Nat) h', Fr h₀ L h' m → News h₀ L h' ((D, listOf (vs ++ ws).toArray 0) :: news) → (∀ p ∈ news, @LT.lt Nat _ p.1 D) → Q (.ref D) { s with heap := h' }) :
    wpAny (model prog w) A (binaryOp .Add (.ref a) (.ref b)) Q E s := by
  refine add_arrays (its := vs.toArray) (its2 := ws.toArray) F N (PySem.IsL.isList (n := k) (N _ ha).1) (PySem.IsL.isList (n := j) (N _ hb).1) (fun h' F' N' => ?_) ?_
  · refine h s.heap.objs.size h' F' ?_ fun p hp => Heap.lt_size (N p hp).1
    simpa using N'
  · rw [List.size_toArray, List.size_toArray]; simpa [sizeLine] using hsz
end
theorem mul0_len {i : Int} (h : i ≤ 16) : (Str.ofString "0").length = 1 → (Txt.mul (Str.ofString "0") i).length ≤ 16 := by
  intro e
  have := len_mul (Str.ofString "0") i
  rw [e] at this
  by_cases hi : decide (i < 0) = true
  · rw [if_pos hi] at this; omega
  · rw [if_neg hi] at this
    simp at hi
    omega
theorem w_fits {a : Str} {k : Int} (ha : a.length = 1) (hk : k < 64) : (Str.ofString "0x" ++ a).length + (Txt.mul (Str.ofString "0") (k.fdiv 4)).length ≤ sizeLine := by
  have h1 := mul0_len (i := k.fdiv 4) (by rw [fd _ _ (by decide)]; omega) (by decide)
  have h2 : (Str.ofString "0x" ++ a).length = (Str.ofString "0x").length + a.length := Str.length_append _ _
  have h3 : (Str.ofString "0x").length = 2 := by decide
  rw [sizeLine_eq]
  omega
noncomputable def wordG (k : Int) : Str := Str.ofString "0x" ++ Txt.item (Str.ofString "1248") (k.fmod 4) ++ Txt.mul (Str.ofString "0") (k.fdiv 4)
noncomputable def wordsL : List Str := [Str.ofString "OPTIMIZED", Str.ofString "NEWLOCALS", Str.ofString "VARARGS", Str.ofString "VARKEYWORDS", Str.ofString "NESTED", Str.ofString "GENERATOR", Str.ofString "NOFREE", Str.ofString "COROUTINE", Str.ofString "ITERABLE_COROUTINE", Str.ofString "ASYNC_GENERATOR"] ++ (rangeKs 10 22).map wordG
theorem strs_app : ∀ {vs ws : List Value} {xs ys : List Str}, StrsAre vs xs → StrsAre ws ys → StrsAre (vs ++ ws) (xs ++ ys)
  | _, _, _, _, .nil, h => h
  | _, _, _, _, .cons y t r, h => .cons y t (strs_app r h)
theorem words_are {vs ys : List Value} (h : StrsAre vs [Str.ofString "OPTIMIZED", Str.ofString "NEWLOCALS", Str.ofString "VARARGS", Str.ofString "VARKEYWORDS", Str.ofString "NESTED", Str.ofString "GENERATOR", Str.ofString "NOFREE", Str.ofString "COROUTINE", Str.ofString "ITERABLE_COROUTINE", Str.ofString "ASYNC_GENERATOR"])
    (hc : CarriedAll ys ((rangeKs 10 (32 - 10 : Int).toNat).map fun k => PyData.str (Str.ofString "0x" ++ Txt.item (Str.ofString "1248") (k.fmod 4) ++ Txt.mul (Str.ofString "0") (k.fdiv 4)))) : StrsAre (vs ++ ys) wordsL :=
  strs_app h (CarriedAll.strsOf (f := wordG) hc)
theorem words_last {h₀ h : Heap} {L D : Nat} {m : Str → Option Value} {news : List (Addr × Obj)} {x1 x2 x3 x4 : Addr × Obj} {vs ys : List Value} {s : Shared} {tk : Nat} {Q : Value → Shared → Prop}
    (hret : ∀ (D : Nat) vs h' tk', StrsAre vs wordsL → Fr h₀ L h' m → News h₀ L h' ((D, listOf vs.toArray 0) :: news) → (∀ p ∈ news, @LT.lt Nat _ p.1 D) → Q (.ref D) { s with heap := h', toks := tk' })
    (hCA : CarriedAll ys ((rangeKs 10 (32 - 10 : Int).toNat).map fun k => PyData.str (Str.ofString "0x" ++ Txt.item (Str.ofString "1248") (k.fmod 4) ++ Txt.mul (Str.ofString "0") (k.fdiv 4))))
    (F : Fr h₀ L h m) (N : News h₀ L h ((D, listOf (vs ++ ys).toArray 0) :: x1 :: x2 :: x3 :: x4 :: news)) (hl : ∀ p ∈ x1 :: x2 :: x3 :: x4 :: news, @LT.lt Nat _ p.1 D)
    (hst : StrsAre vs [Str.ofString "OPTIMIZED", Str.ofString "NEWLOCALS", Str.ofString "VARARGS", Str.ofString "VARKEYWORDS", Str.ofString "NESTED", Str.ofString "GENERATOR", Str.ofString "NOFREE", Str.ofString "COROUTINE", Str.ofString "ITERABLE_COROUTINE", Str.ofString "ASYNC_GENERATOR"]) :
    Q (.ref D) { s with heap := h, toks := tk } := by
  refine hret D _ h tk (words_are hst hCA) F (news_sub N ?_) (fun p hp => hl p ?_)
  · intro p hp
    rcases List.mem_cons.mp hp with rfl | hp
    · exact List.Mem.head _
    · exact List.Mem.tail _ (List.Mem.tail _ (List.Mem.tail _ (List.Mem.tail _ (List.Mem.tail _ hp))))
  · exact List.Mem.tail _ (List.Mem.tail _ (List.Mem.tail _ (List.Mem.tail _ hp)))
end Tv
end

section
open PySem PySem.W PyProof.Rows Tv
theorem Tv.wd_q {k : Int} (h : k < 10 + ((32 - 10 : Int).toNat : Int)) : k / 4 ≤ ((16 : Nat) : Int) := by omega
theorem Tv.wd_64 {k : Int} (h : k < 10 + ((32 - 10 : Int).toNat : Int)) : k < 64 := by omega
local macro_rules | `(tactic| walk_at "binaryOp Mult str int") => `(tactic| (k_dflt (refine SB.mul (mulOk_of 1 16 (by decide) (by rw [fd _ _ (by decide)]; first | exact wd_q (by assumption) | omega) (by rw [fd _ _ (by decide)]; first | exact wd_q (by assumption) | omega) (by decide) (by decide)) ?_); intro _ _))
local macro_rules | `(tactic| walk_at "binaryOp Add str str") => `(tactic| ((with_reducible show wpAny _ _ (binaryOp _ (Value.str _ _) (Value.str (Txt.mul _ _) _)) _ _ _); k_dflt (refine PyProof.Rows.add_str ?_ (w_fits (by assumption) (wd_64 (by assumption)))); intro _ _))
local macro_rules | `(tactic| walk_at "binaryOp Add ref ref") => `(tactic| (k_here; k_dflt (refine' add_news ?k1 ?k2 ?k3 ?k4 ?z ?_; (case k1 | k2 => k_asm); (case k3 | k4 => k_mem); (case z => ((have hz9 := CarriedAll.length_eq (by assumption)); simp only [List.length_cons, List.length_nil, List.length_map, rangeKs_length] at *; omega))); intro D' h' F' N' l1))
local macro_rules | `(tactic| walk_at "CompSrc") => `(tactic| (k_here; k_dflt (refine LCg.CompSrc.range (by rfl) (by k_asm) (by k_asm) (by assumption) (by decide) (by exact rangeSize_nat _ _) (by exact Nat.le_of_ble_eq_true rfl) ?_; intro g'; (refine' kct_range (fun k => Str.ofString "0x" ++ Txt.item (Str.ofString "1248") (k.fmod 4) ++ Txt.mul (Str.ofString "0") (k.fdiv 4)) (fun k' t' I' oI' C' oC' D' m' ys' h' tk' E' hlo' hhi' hC' hx' F' N' off' ne' => ?_) ?_); (all_goals (try (simp only [LCg.Off3, and_true] at off'))); (all_goals (try ((show KPfMark → _); intro hMark'))); kcf_last)))
local macro_rules | `(tactic| walk_at "CompEnd") => `(tactic| (k_dflt (refine' LCg.CompEnd.intro ?F ?N _ (fun p hp => hp) ?o ?S ⟨rfl, _, rfl⟩; (case F => k_asm); (case N => assumption); (case o => ((try simp only [LCg.Off3, and_true]); assumption)); (case S => trivial))))
theorem Tv.words_ct {w : World} {loose : List Str} {mean : ExcName → Option Value} {mg mb : Str → Option Value} {news : List (Addr × Obj)}
    {dp un : Nat} {gd : Option (List Code)} {cn : Str} {cs : Scope} {a : Addr} {ccd : Value} {cl : List (Str × Addr)} {outer : List Env} {A₀ : Around} {base h₀ : Heap} {L : Addr} {m : Str → Option Value} {s : Shared} {Q E : Value → Shared → Prop}
    (B : Below A₀ base outer h₀) (F : Fr h₀ L s.heap m) (KX : (tvhd.heap_39 w.params).In h₀) (N : News h₀ L s.heap news) (T : Top tvhd.view_39 loose mean mg mb h₀) (hk : cs.kind = .function) (hd : dp + 1 < recursionLimit) (hu : un + 8 < cLine)
    (hret : ∀ (D : Nat) vs h' tk', StrsAre vs wordsL → Fr h₀ L h' m → News h₀ L h' ((D, listOf vs.toArray 0) :: news) → (∀ p ∈ news, @LT.lt Nat _ p.1 D) → Q (.ref D) { s with heap := h', toks := tk' }) :
    wpAny (model Challenge.rw_tv0010_01.row.prog w) (ktrTop dp un gd cn cs L a ccd cl outer) (call (.ref 41) []) Q E s := by
  k_with_none
  revert KX; k_fill; intro KX
  refine wpAny_call ?_
  k_dflt cell_enter
  k_steps
  exact words_last hret (by assumption) (by assumption) (by assumption) (by assumption) (by repeat constructor)
end

section
open PySem PySem.W PyProof.Rows PySem.Spec Tv
namespace Tv
section
variable {prog : Program} {w : World} {A : Around} {s : Shared} {env : Env} {h₀ : Heap} {x : Str} {px : Pos} {body orelse : List Stmt} {Q : Flow → Shared → Prop} {E : Value → Shared → Prop}
/-- what a turn of a counted loop must leave -/
noncomputable def TurnDone (h₀ : Heap) (L : Addr) (s : Shared) (own : Addr × Obj) (J : (Str → Option Value) → List (Addr × Obj) → Prop) (s₂ : Shared) : Prop :=
  ∃ h' tk' m' nx, s₂ = { s with heap := h', toks := tk' } ∧ Fr h₀ L h' m' ∧ News h₀ L h' (own :: nx) ∧ (∀ p ∈ nx, p.1 ≠ own.1) ∧ J m' nx
noncomputable def TurnOut (h₀ : Heap) (L : Addr) (s : Shared) (own : Addr × Obj) (J : (Str → Option Value) → List (Addr × Obj) → Prop) (Q : Flow → Shared → Prop) (f : Flow) (s₂ : Shared) : Prop :=
  match f with
  | .ret v => Q (.ret v) s₂
  | .brk => Q .next s₂
  | _ => TurnDone h₀ L s own J s₂
theorem counted_else {r : Addr} {a₀ b₀ : Int} {t₀ u₀ v₀ : Tok} {n : Nat} {m₀ : Str → Option Value} {news : List (Addr × Obj)}
    (hx : env.kindOf x = some .local) (hp : (env.scope.kind == .class || (env.scope.kind == .module && env.locals != env.globals)) = false)
    (hh : A.handled = none) (hr : IsRange s.heap r a₀ b₀ 1 t₀ u₀ v₀) (hsmall : Builtin.Range.small a₀ b₀ 1 = true) (hn : Builtin.Range.rangeSize a₀ b₀ 1 = (n : Int))
    (F : Fr h₀ env.locals s.heap m₀) (N : News h₀ env.locals s.heap news) (J : Nat → (Str → Option Value) → List (Addr × Obj) → Prop) (h0 : J 0 m₀ news)
    (turn : ∀ (i : Nat) t m₁ nx h tk own, i < n → J i m₁ nx → (∀ p ∈ nx, p.1 ≠ (own : Addr × Obj).1) → Fr h₀ env.locals h (fun y => if y = x then some (.int (a₀ + i) t) else m₁ y) → News h₀ env.locals h (own :: nx) →
      wpAny (model prog w) A (execs body env) (TurnOut h₀ env.locals s own (J (i + 1)) Q) E { s with heap := h, toks := tk })
    (done : ∀ m₁ nx h tk, J n m₁ nx → Fr h₀ env.locals h m₁ → News h₀ env.locals h nx → wpAny (model prog w) A (execs orelse env) Q E { s with heap := h, toks := tk })
    (hE : PassesOwn (model prog w) A env E) :
    wpAny (model prog w) A (pyIter (.ref r)) (fun it s₂ => codeAny (model prog w) A (.forLoop (.Name x px) it body orelse env) (fun r s' => match r with | .ok f => Q f s' | .error e => cameBackBy (model prog w) A env E e s') s₂) E s := by
  refine wpAny_pyIter_range hr hsmall ?_
  generalize hI : s.heap.objs.size = I
  have hLI : env.locals ≠ I := fun e => by have hl := F.ns.lt; rw [e, ← hI] at hl; exact Nat.lt_irrefl _ hl
  have hI0 : h₀.get? I = none := by rw [← hI]; exact next_is_new F
  refine codeAny_forLoop (fun k s' => ∃ (i : Nat) (h' : Heap) (tk : Nat) (m' : Str → Option Value) (nx : List (Addr × Obj)), s' = { s with heap := h', toks := tk } ∧ IsRangeIter h' I (a₀ + i) ((n : Int) - i) 1 ∧ Fr h₀ env.locals h' m' ∧ News h₀ env.locals h' nx ∧ (∀ p ∈ nx, p.1 ≠ I) ∧ J i m' nx ∧ i ≤ n ∧ k = n + 1 - i) ?_ (n + 1) ?_
  · rintro k s' ⟨i, h', tk, m', nx, rfl, hit, F', N', hne, hJ, hi, rfl⟩
    by_cases hlt : i < n
    · refine wpAny_pyNext_range_item hit (by omega) fun h₁ hit₁ hs₁ => ?_
      have F₁ : Fr h₀ env.locals h₁ m' := ⟨F'.ns.sameBut hs₁ hLI, fun b o e => (hs₁.2 b (fun q => by rw [q, hI0] at e; cases e)).trans (F'.keep b o e), F'.above⟩
      have N₁ : News h₀ env.locals h₁ nx := fun p hp => ⟨(hs₁.2 _ (hne p hp)).trans (N' p hp).1, (N' p hp).2⟩
      refine wpAny_assign_Name (wpAny_storeName_local hx F₁.ns (fun h₂ hn₂ hs₂ => ?_) hp)
      have F₂ := F₁.set hn₂ hs₂
      have N₂ := N₁.set hs₂
      have hit₂ : IsRangeIter h₂ I (a₀ + i + 1) ((n : Int) - i - 1) 1 := (hs₂.2 _ (Ne.symm hLI)).trans hit₁
      refine wpAny_passesOwn hE (wpAny_mono (turn i _ m' nx h₂ _ (I, ({ cls := .type "range_iterator", dict := none, data := .fields #[rawInt (a₀ + i + 1), rawInt ((n : Int) - i - 1), rawInt 1], slots := #[] } : Obj)) hlt hJ hne F₂ (fun p hp => ?_)) (fun f s₃ h₃ => ?_) fun _ _ e => e)
      · rcases List.mem_cons.mp hp with rfl | hp
        · exact ⟨hit₂, Ne.symm hLI, hI0⟩
        · exact N₂ p hp
      · have go : TurnDone h₀ env.locals s (I, ({ cls := .type "range_iterator", dict := none, data := .fields #[rawInt (a₀ + i + 1), rawInt ((n : Int) - i - 1), rawInt 1], slots := #[] } : Obj)) (J (i + 1)) s₃ → ∃ m, m < n + 1 - i ∧ ∃ (i : Nat) (h' : Heap) (tk : Nat) (m' : Str → Option Value) (nx : List (Addr × Obj)), s₃ = { s with heap := h', toks := tk } ∧ IsRangeIter h' I (a₀ + i) ((n : Int) - i) 1 ∧ Fr h₀ env.locals h' m' ∧ News h₀ env.locals h' nx ∧ (∀ p ∈ nx, p.1 ≠ I) ∧ J i m' nx ∧ i ≤ n ∧ m = n + 1 - i := by
          rintro ⟨h', tk', m₃, nx₃, e, F₃, N₃, hne₃, hJ₃⟩
          refine ⟨n + 1 - (i + 1), by omega, i + 1, h', tk', m₃, nx₃, e, ?_, F₃, fun p hp => N₃ p (.tail _ hp), hne₃, hJ₃, hlt, rfl⟩
          have := (N₃ _ (.head _)).1
          have e1 : a₀ + ((i + 1 : Nat) : Int) = a₀ + i + 1 := by omega
          have e2 : (n : Int) - ((i + 1 : Nat) : Int) = (n : Int) - i - 1 := by omega
          rw [e1, e2]; exact this
        cases f with
        | ret v => exact h₃
        | brk => exact h₃
        | next => exact go h₃
        | cont => exact go h₃
    · have hin : i = n := by omega
      subst hin
      refine wpAny_pyNext_range_end hh hit (by omega) fun h₁ he₁ => ?_
      have F₁ : Fr h₀ env.locals h₁ m' := ⟨F'.ns.at' fun o e => he₁ _ o hLI e, fun b o e => he₁ b o (fun q => by rw [q, hI0] at e; cases e) (F'.keep b o e), F'.above⟩
      have N₁ : News h₀ env.locals h₁ nx := fun p hp => ⟨he₁ _ _ (hne p hp) (N' p hp).1, (N' p hp).2⟩
      exact wpAny_passesOwn hE (done m' nx h₁ _ hJ F₁ N₁)
  · refine ⟨0, _, _, m₀, news, rfl, ?_, F.push _, fun p hp => ⟨Heap.get?_push_of_some _ (N p hp).1, (N p hp).2⟩, fun p hp => ?_, h0, Nat.zero_le _, rfl⟩
    · rw [hn, ← hI]; simpa using Heap.get?_push_size _ rfl
    · rw [← hI]; exact Nat.ne_of_lt (Heap.lt_size (N p hp).1)
end
end Tv
end

section
open PySem PySem.W PyProof.Rows PyProof.V PySem.Spec Tv
namespace Tv
noncomputable def pfWord (i : Nat) : Str := wordsL.getD i (Str.ofString "")
noncomputable def strD : PyData → Option Str
  | .str x => some x
  | _ => none
theorem strD_eq {d : PyData} {x : Str} (h : strD d = some x) : d = .str x := by
  cases d <;> simp [strD] at h
  rw [h]
noncomputable def flagTab : List (Int × PyData) := [(1, .str (Str.ofString "OPTIMIZED")), (2, .str (Str.ofString "NEWLOCALS")), (4, .str (Str.ofString "VARARGS")), (8, .str (Str.ofString "VARKEYWORDS")), (16, .str (Str.ofString "NESTED")), (32, .str (Str.ofString "GENERATOR")), (64, .str (Str.ofString "NOFREE")), (128, .str (Str.ofString "COROUTINE")), (256, .str (Str.ofString "ITERABLE_COROUTINE")), (512, .str (Str.ofString "ASYNC_GENERATOR"))]
theorem flagTab_get : ∀ i < 32, strD ((PySem.Spec.lookup (.int (2 ^ i)) (flagTab.map fun p => (PyData.int p.1, p.2))).getD (.str (baseText "0x" 16 (2 ^ i)))) = some (pfWord i) := by decide +kernel
section
variable {prog : Program} {w : World} {A : Around} {E : Value → Shared → Prop} {s : Shared} {g : Heap} {a : Addr} {Q : Value → Shared → Prop} {t u : Tok}
theorem get_flag {i : Nat} (K : KTD.Keyed g a flagTab) (hk : ∀ b o, g.get? b = some o → s.heap.get? b = some o) (hi : i < 32) (h : ∀ t, Q (.str (pfWord i) t) { s with toks := s.toks + 1 }) :
    wpAny (model prog w) A (call (.builtin "dict.get") [.ref a, .int (1 * 2 ^ ((0 : Int) + (i : Int)).toNat) t, .str (baseText "0x" 16 (1 * 2 ^ ((0 : Int) + (i : Int)).toNat)) u]) Q E s := by
  have e : ((0 : Int) + (i : Int)).toNat = i := by omega
  rw [e, Int.one_mul]
  refine call_get2_intTab (KTD.tab_keep (K prog w) hk) (Flat.str _ _) fun v hv => ?_
  rw [strD_eq (flagTab_get i hi)] at hv
  obtain ⟨t', rfl, -⟩ := reads_str_inv (hv s.heap)
  exact h _
end
end Tv
end

section
open PySem PySem.W PyProof.Rows PySem.Spec Tv
namespace Tv
noncomputable def pfFlags (share low : Int) (i : Nat) : Int := share * 2 ^ 32 + (low / 2 ^ i) * 2 ^ i
noncomputable def pfWords (low : Int) (i : Nat) : List Str := ((List.range i).filter fun j => (low / 2 ^ j) % 2 == 1).map pfWord
theorem pfWords_len (low : Int) (i : Nat) : (pfWords low i).length ≤ i := by
  unfold pfWords
  rw [List.length_map]
  exact Nat.le_trans (List.length_filter_le _ _) (by simp)
theorem pfWords_one {low : Int} {i : Nat} (h : low / 2 ^ i % 2 = 1) : pfWords low (i + 1) = pfWords low i ++ [pfWord i] := by
  unfold pfWords
  rw [List.range_succ, List.filter_append, List.map_append]
  simp [h]
theorem pfWords_zero {low : Int} {i : Nat} (h : ¬ low / 2 ^ i % 2 = 1) : pfWords low (i + 1) = pfWords low i := by
  unfold pfWords
  rw [List.range_succ, List.filter_append, List.map_append]
  simp [h]
theorem pow_fit {i : Nat} (h : i < 32) : (baseText "0x" 16 (1 * 2 ^ ((0 : Int) + (i : Int)).toNat)).length ≤ sizeLine := by
  refine baseText_under (by decide) (by decide) ?_
  have e : ((0 : Int) + (i : Int)).toNat = i := by omega
  rw [e, Int.one_mul]
  have h1 : ((2 : Int) ^ i).natAbs = 2 ^ i := by rw [Int.natAbs_pow]; rfl
  rw [h1]
  exact Nat.lt_of_lt_of_le (Nat.pow_lt_pow_right (by decide) h) (by decide)
theorem half_pow (low : Int) (i : Nat) : low / 2 ^ (i + 1) = low / 2 ^ i / 2 := by
  rw [Int.pow_succ, Int.ediv_ediv_of_nonneg (Int.le_of_lt (Int.pow_pos (by decide)))]
theorem pf_bit {share low : Int} {i : Nat} (hi : i < 32) : Builtin.bitAnd (pfFlags share low i) (1 * 2 ^ ((0 : Int) + (i : Int)).toNat) = (low / 2 ^ i % 2) * 2 ^ i := by
  have e : ((0 : Int) + (i : Int)).toNat = i := by omega
  rw [e, Int.one_mul, kbt_bit]
  congr 1
  unfold pfFlags
  have e2 : share * 2 ^ 32 + low / 2 ^ i * 2 ^ i = (2 * (share * 2 ^ (31 - i)) + low / 2 ^ i) * 2 ^ i := by
    have e3 : (2 : Int) ^ 32 = 2 * 2 ^ (31 - i) * 2 ^ i := by
      rw [Int.mul_comm 2, ← Int.pow_succ, ← Int.pow_add]
      congr 1; omega
    rw [e3, Int.add_mul, Int.mul_assoc 2, Int.mul_assoc 2, Int.mul_left_comm share, Int.mul_assoc share]
  rw [e2, Int.mul_ediv_cancel _ (Int.ne_of_gt (Int.pow_pos (by decide)))]
  omega
theorem pf_and0 {share low : Int} {i : Nat} (hi : i < 32) (h : Builtin.bitAnd (pfFlags share low i) (1 * 2 ^ ((0 : Int) + (i : Int)).toNat) = 0) : ¬ low / 2 ^ i % 2 = 1 := by
  rw [pf_bit hi] at h
  intro h1
  rw [h1, Int.one_mul] at h
  exact absurd h (Int.ne_of_gt (Int.pow_pos (by decide)))
theorem pf_and1 {share low : Int} {i : Nat} (hi : i < 32) (h : Builtin.bitAnd (pfFlags share low i) (1 * 2 ^ ((0 : Int) + (i : Int)).toNat) ≠ 0) : low / 2 ^ i % 2 = 1 := by
  rw [pf_bit hi] at h
  by_cases h1 : low / 2 ^ i % 2 = 1
  · exact h1
  · have : low / 2 ^ i % 2 = 0 := by omega
    rw [this, Int.zero_mul] at h
    exact absurd rfl h
theorem pf_skip {share low : Int} {i : Nat} (h : ¬ low / 2 ^ i % 2 = 1) : pfFlags share low i = pfFlags share low (i + 1) := by
  unfold pfFlags
  rw [half_pow, show (2 : Int) ^ (i + 1) = 2 ^ i * 2 from Int.pow_succ ..]
  generalize low / 2 ^ i = q at *
  obtain ⟨k, rfl⟩ : ∃ k, q = 2 * k := ⟨q / 2, by omega⟩
  have : 2 * k / 2 = k := by omega
  rw [this, Int.mul_comm ((2 : Int) ^ i) 2, ← Int.mul_assoc, Int.mul_comm 2 k]
theorem pf_take {share low : Int} {i : Nat} (hi : i < 32) (h : low / 2 ^ i % 2 = 1) : Builtin.bitXor (pfFlags share low i) (1 * 2 ^ ((0 : Int) + (i : Int)).toNat) = pfFlags share low (i + 1) := by
  have e : ((0 : Int) + (i : Int)).toNat = i := by omega
  rw [bitXor_and, pf_bit hi, e, Int.one_mul, h, Int.one_mul]
  unfold pfFlags
  rw [half_pow, show (2 : Int) ^ (i + 1) = 2 ^ i * 2 from Int.pow_succ ..]
  generalize low / 2 ^ i = q at *
  obtain ⟨k, rfl⟩ : ∃ k, q = 2 * k + 1 := ⟨q / 2, by omega⟩
  have : (2 * k + 1) / 2 = k := by omega
  rw [this, Int.mul_comm ((2 : Int) ^ i) 2, ← Int.mul_assoc, Int.mul_comm k 2, Int.add_mul, Int.one_mul]
  omega
theorem pf_tail {low : Int} (h0 : 0 ≤ low) {i : Nat} : ∀ k, low / 2 ^ i = 0 → pfWords low (i + k) = pfWords low i := by
  intro k
  induction k with
  | zero => intro _; rfl
  | succ k ih =>
    intro h
    rw [← Nat.add_assoc, pfWords_zero, ih h]
    have : low / 2 ^ (i + k) = 0 := by
      rw [Int.pow_add, ← Int.ediv_ediv_of_nonneg (Int.le_of_lt (Int.pow_pos (by decide))), h, Int.zero_ediv]
    rw [this]; decide
/-- the words that pretty_flags tells of share * 2 ** 32 + low -/
noncomputable def pfNames (share low : Int) : List Str := pfWords low 32 ++ (if share ≠ 0 ∨ low = 0 then [baseText "0x" 16 (share * 2 ^ 32)] else [])
theorem pf_brk {share low : Int} {i : Nat} (h0 : 0 ≤ low) (h1 : low < 2 ^ 32) (hi : i < 32) (hb : low / 2 ^ i % 2 = 1) (hz : pfFlags share low (i + 1) = 0) : pfWords low (i + 1) = pfNames share low := by
  unfold pfFlags at hz
  have hp : (0 : Int) < 2 ^ (i + 1) := Int.pow_pos (by decide)
  have a1 : 0 ≤ low / 2 ^ (i + 1) := Int.ediv_nonneg h0 (Int.le_of_lt hp)
  have a2 : low / 2 ^ (i + 1) * 2 ^ (i + 1) ≤ low := Int.ediv_mul_le _ (Int.ne_of_gt hp)
  have a3 : 0 ≤ low / 2 ^ (i + 1) * 2 ^ (i + 1) := Int.mul_nonneg a1 (Int.le_of_lt hp)
  have hs : share = 0 := by
    generalize low / 2 ^ (i + 1) * 2 ^ (i + 1) = y at *
    omega
  have hl : low / 2 ^ (i + 1) * 2 ^ (i + 1) = 0 := by rw [hs] at hz; omega
  have hq : low / 2 ^ (i + 1) = 0 := by
    rcases Int.mul_eq_zero.mp hl with h | h
    · exact h
    · omega
  have hne : ¬ low = 0 := by
    intro e
    rw [e] at hb
    simp at hb
  unfold pfNames
  rw [if_neg (by simp [hs, hne]), List.append_nil]
  have := pf_tail h0 (31 - i) hq
  rw [← this]
  congr 1; omega
theorem pf_end {share low : Int} (h0 : 0 ≤ low) (h1 : low < 2 ^ 32) (hn : ¬ (share = 0 ∧ low ≠ 0)) : pfWords low 32 ++ [baseText "0x" 16 (pfFlags share low 32)] = pfNames share low := by
  unfold pfNames pfFlags
  have : low / 2 ^ 32 = 0 := Int.ediv_eq_zero_of_lt h0 h1
  rw [this, Int.zero_mul, Int.add_zero, if_pos (by omega)]
theorem word_len : ∀ i < 32, (pfWord i).length ≤ 18 := by decide +kernel
theorem sum_le_mul {b : Nat} : ∀ {l : List Nat}, (∀ x ∈ l, x ≤ b) → l.sum ≤ l.length * b
  | [], _ => by simp
  | x :: r, h => by
    have h1 := h x (.head _)
    have h2 := sum_le_mul (l := r) fun y hy => h y (.tail _ hy)
    rw [List.sum_cons, List.length_cons, Nat.add_mul, Nat.one_mul]; omega
theorem pfWords_sum (low : Int) {i : Nat} (hi : i ≤ 32) : ((pfWords low i).map (·.length)).sum ≤ 576 := by
  refine Nat.le_trans (sum_le_mul (b := 18) ?_) ?_
  · intro x hx
    obtain ⟨w, hw, rfl⟩ := List.mem_map.mp hx
    unfold pfWords at hw
    obtain ⟨j, hj, rfl⟩ := List.mem_map.mp hw
    have := (List.mem_filter.mp hj).1
    exact word_len j (by have := List.mem_range.mp this; omega)
  · rw [List.length_map]
    have := pfWords_len low i
    omega
theorem names_ok {share low : Int} (hf : (baseText "0x" 16 (share * 2 ^ 32)).length ≤ 1000000) : ((pfNames share low).map (·.length)).sum + (pfNames share low).length * (Str.ofString ", ").length ≤ 16777216 := by
  have e : (Str.ofString ", ").length = 2 := by decide
  have h1 := pfWords_sum low (i := 32) (by omega)
  have h2 := pfWords_len low 32
  rw [e]
  unfold pfNames
  rw [List.map_append, List.sum_append, List.length_append]
  split
  · simp only [List.map_cons, List.map_nil, List.sum_cons, List.sum_nil, List.length_cons, List.length_nil]; omega
  · simp only [List.map_nil, List.sum_nil, List.length_nil]; omega
theorem nz_skip {low : Int} {i : Nat} (hb : ¬ low / 2 ^ i % 2 = 1) (h : low / 2 ^ i ≠ 0) : low / 2 ^ (i + 1) ≠ 0 := by
  rw [half_pow]; omega
theorem nz_take {share low : Int} {i : Nat} (hz : pfFlags share low (i + 1) ≠ 0) (hs : share = 0) : low / 2 ^ (i + 1) ≠ 0 := by
  intro e
  unfold pfFlags at hz
  rw [e, hs] at hz
  exact hz (by rw [Int.zero_mul, Int.zero_mul]; rfl)
theorem nz_end {share low : Int} (h0 : 0 ≤ low) (h1 : low < 2 ^ 32) (h : share = 0 → low ≠ 0 → low / 2 ^ 32 ≠ 0) : ¬ (share = 0 ∧ low ≠ 0) := fun ⟨a, b⟩ => h a b (Int.ediv_eq_zero_of_lt h0 h1)
theorem pf_last {share low : Int} (h0 : 0 ≤ low) (h1 : low < 2 ^ 32) : pfFlags share low 32 = share * 2 ^ 32 := by
  unfold pfFlags
  rw [Int.ediv_eq_zero_of_lt h0 h1, Int.zero_mul, Int.add_zero]
end Tv
end

section
open PySem PySem.W PyProof.Rows PySem.Spec Tv
local macro_rules | `(tactic| walk_at "exec For") => `(tactic| ((fail_if_success (have : Mark 1 := by assumption)); refine Hold.out ?_))
local macro_rules | `(tactic| walk_at "pyIter ref") => `(tactic| (refine Hold.out ?_))
local macro_rules | `(tactic| walk_at "call builtin:hex") => `(tactic| (k_dflt (refine P.hex_of_int ?_ (by first | with_reducible assumption | exact pow_fit (by assumption)))))
local macro_rules | `(tactic| walk_at "call builtin:dict.get") => `(tactic| ((with_reducible rename KTD.Keyed _ _ _ => kyX); (with_unfolding_all refine get_flag kyX (by kt_keeps) (by assumption) ?_); intro _))
local macro_rules | `(tactic| walk_at "call builtin:list.append") => `(tactic| (k_here; k_dflt (refine' append_K ?k1 ?k2 (Upd.tail ?a (Upd.head ?b)) ?_ ?z; (case k1 | k2 => k_asm); (case a | b => assumption); (case z => (rw [List.size_toArray, sizeLine_eq]; omega))); intro h' F' N'; (try k_sweep)))
local macro_rules | `(tactic| walk_at "call builtin:list.append") => `(tactic| (k_here; k_dflt (refine' append_K ?k1 ?k2 (Upd.head ?b) ?_ ?z; (case k1 | k2 => k_asm); (case b => assumption); (case z => (rw [List.size_toArray, sizeLine_eq]; omega))); intro h' F' N'; (try k_sweep)))
theorem Tv.pf_ct {w : World} {loose : List Str} {mean : ExcName → Option Value} {mg mb : Str → Option Value} {news : List (Addr × Obj)} {share low : Int} {tx : Tok}
    {dp un : Nat} {gd : Option (List Code)} {cn : Str} {cs : Scope} {a : Addr} {ccd : Value} {cl : List (Str × Addr)} {outer : List Env} {A₀ : Around} {base h₀ : Heap} {L : Addr} {m : Str → Option Value} {s : Shared} {Q E : Value → Shared → Prop}
    (B : Below A₀ base outer h₀) (F : Fr h₀ L s.heap m) (KX : (tvhd.heap_39 w.params).In h₀) (N : News h₀ L s.heap news) (T : Top tvhd.view_39 loose mean mg mb h₀) (hk : cs.kind = .function) (hd : dp + 1 < recursionLimit) (hu : un + 8 < cLine)
    (h0 : 0 ≤ low) (h1 : low < 2 ^ 32) (hf : (baseText "0x" 16 (share * 2 ^ 32)).length ≤ 1000000)
    (hret : ∀ t h' tk', Fr h₀ L h' m → News h₀ L h' news → Q (.str (Txt.join (Str.ofString ", ") (pfNames share low)) t) { s with heap := h', toks := tk' }) :
    wpAny (model Challenge.rw_tv0010_01.row.prog w) (ktrTop dp un gd cn cs L a ccd cl outer) (call (.ref 36) [.int (pfFlags share low 0) tx]) Q E s := by
  k_with_none
  revert KX; k_fill; intro KX
  have hok := names_ok (low := low) hf
  refine wpAny_call ?_
  k_dflt cell_enter
  k_steps
  refine Hold.mk ?_
  rename_i D _ l1D _ _ _
  refine wpAny_For ?_
  k_steps
  refine Hold.mk ?_
  have mk1 : Mark 1 := ⟨⟩
  (rename IsRange _ _ _ _ _ _ _ _ => hr9)
  (rename Fr _ _ _ _ => F9)
  (rename News _ _ _ _ => N9)
  refine counted_else (by rfl) (by rfl) (by rfl) hr9 (by decide) (by exact rangeSize_nat _ _) F9 N9 (fun i m nx => ∃ vs k tf, nx = (D, listOf (List.toArray vs) k) :: news ∧ StrsAre vs (pfWords low i) ∧ m (Str.ofString "names") = some (.ref D) ∧ m (Str.ofString "flags") = some (.int (pfFlags share low i) tf) ∧ (share = 0 → low ≠ 0 → low / 2 ^ i ≠ 0)) ?_ ?_ ?_ (by passes_own)
  · exact ⟨[], 0, _, rfl, .nil, by rfl, by rfl, fun _ h => by simpa using h⟩
  · rintro i t m₁ nx h tk own hi ⟨vs, k, tf, rfl, hS, hm1, hm2, hnz⟩ hne F1 N1
    have F2 := fr_turn2 F1 hm1 hm2
    clear F1
    have hi : i < 32 := hi
    have hvl : vs.length ≤ 32 := by have := hS.length; have := pfWords_len low i; omega
    have hD1 : own.1 ≠ D := Ne.symm (hne _ (.head _))
    have hD2 : ∀ p ∈ news, p.1 ≠ D := fun p hp => Nat.ne_of_lt (l1D p hp)
    try k_fold
    k_steps
    · (rename Builtin.bitAnd _ _ ≠ 0 => hb0)
      have hb := pf_and1 hi hb0
      (rename Builtin.bitXor _ _ ≠ 0 => hz)
      rw [pf_take hi hb] at hz
      (rename News _ _ _ (_ :: _) => N5)
      (rename Fr _ _ _ _ => F5)
      refine ⟨_, _, _, _, rfl, F5, N5, ?_, ⟨_, _, _, by rw [List.push_toArray], by rw [pfWords_one hb]; exact strs_app hS (.cons _ _ .nil), by rfl, by rw [← pf_take hi hb]; rfl, fun hs _ => nz_take hz hs⟩⟩
      exact fun p hp => by rcases List.mem_cons.mp hp with rfl | hp; exact Ne.symm hD1; exact hne _ (.tail _ hp)
    · (rename Builtin.bitAnd _ _ ≠ 0 => hb0)
      have hb := pf_and1 hi hb0
      (rename Builtin.bitXor _ _ = 0 => hz)
      rw [pf_take hi hb] at hz
      (rename News _ _ _ (_ :: _) => N5)
      rw [List.push_toArray] at N5
      have e5 := pf_brk h0 h1 hi hb hz
      have hS5 : ∀ t, StrsAre (vs ++ [.str (pfWord i) t]) (pfNames share low) := fun t => by rw [← e5, pfWords_one hb]; exact strs_app hS (.cons _ t .nil)
      unfold TurnOut
      dsimp only
      k_steps
      refine join_list (PySem.IsL.isList (N5 _ (.tail _ (.head _))).1) (hS5 _) hok ?_
      intro t' k'
      k_steps
      exact hret _ _ _ (by assumption) (news_sub (by assumption) fun p hp => .tail _ (.tail _ hp))
    · (rename Builtin.bitAnd _ _ = 0 => hb0)
      have hb := pf_and0 hi hb0
      (rename News _ _ _ (_ :: _) => N5)
      (rename Fr _ _ _ _ => F5)
      refine ⟨_, _, _, _, rfl, F5, N5, hne, ⟨_, _, _, rfl, by rw [pfWords_zero hb]; exact hS, by rfl, by rw [← pf_skip hb]; rfl, fun hs hl => nz_skip hb (hnz hs hl)⟩⟩
  · rintro m₁ nx h tk ⟨vs, k, tf, rfl, hS, hm1, hm2, hnz⟩ F1 N1
    have e32 : (32 - 0 : Int).toNat = 32 := rfl
    rw [e32] at hS hm2 hnz
    have F2 := fr_out2 F1 hm1 hm2
    clear F1
    have hvl : vs.length ≤ 32 := by have := hS.length; have := pfWords_len low 32; omega
    have hD2 : ∀ p ∈ news, p.1 ≠ D := fun p hp => Nat.ne_of_lt (l1D p hp)
    have hf2 : (baseText "0x" 16 (pfFlags share low 32)).length ≤ sizeLine := by rw [pf_last h0 h1, sizeLine_eq]; omega
    try k_fold
    k_steps
    (rename News _ _ _ (_ :: _) => N5)
    rw [List.push_toArray] at N5
    have hS5 : ∀ t, StrsAre (vs ++ [.str (baseText "0x" 16 (pfFlags share low 32)) t]) (pfNames share low) := fun t => by rw [← pf_end h0 h1 (nz_end h0 h1 hnz)]; exact strs_app hS (.cons _ t .nil)
    refine join_list (PySem.IsL.isList (N5 _ (.head _)).1) (hS5 _) hok ?_
    intro t' k'
    k_steps
    exact hret _ _ _ (by assumption) (news_sub (by assumption) fun p hp => .tail _ hp)
end

section
open PySem PySem.W PyProof.Rows
namespace Tv
theorem dw_le (p : Int → Bool) : ∀ l : List Int, (l.dropWhile p).length ≤ l.length
  | [] => Nat.le_refl _
  | x :: r => by
    rw [List.dropWhile_cons]
    split
    · exact Nat.le_succ_of_le (dw_le p r)
    · exact Nat.le_refl _
/-- what sorted_list_difference reckons: the two lists that are left, what is missing, what is unexpected -/
noncomputable def sldF : Nat → List Int → List Int → List Int → List Int → List Int × List Int
  | 0, _, _, m, u => (m, u)
  | _ + 1, [], ys, m, u => (m, u ++ ys)
  | _ + 1, x :: xs, [], m, u => (m ++ x :: xs, u)
  | f + 1, x :: xs, y :: ys, m, u =>
    if x < y then sldF f (xs.dropWhile (· == x)) (y :: ys) (m ++ [x]) u
    else if y < x then sldF f (x :: xs) (ys.dropWhile (· == y)) m (u ++ [y])
    else sldF f (xs.dropWhile (· == x)) (ys.dropWhile (· == y)) m u
noncomputable def sld (xs ys m u : List Int) : List Int × List Int := sldF (xs.length + ys.length + 1) xs ys m u
theorem sldF_stable : ∀ (f g : Nat) (xs ys m u : List Int), xs.length + ys.length < f → xs.length + ys.length < g → sldF f xs ys m u = sldF g xs ys m u := by
  intro f
  induction f with
  | zero => intro g xs ys m u h; omega
  | succ f ih =>
    intro g xs ys m u hf hg
    obtain ⟨g, rfl⟩ : ∃ g', g = g' + 1 := ⟨g - 1, by omega⟩
    cases xs with
    | nil => rfl
    | cons x xs =>
      cases ys with
      | nil => rfl
      | cons y ys =>
        have h1 := dw_le (· == x) xs
        have h2 := dw_le (· == y) ys
        simp only [List.length_cons] at hf hg
        unfold sldF
        split
        · exact ih g _ _ _ _ (by simp only [List.length_cons]; omega) (by simp only [List.length_cons]; omega)
        · split
          · exact ih g _ _ _ _ (by simp only [List.length_cons]; omega) (by simp only [List.length_cons]; omega)
          · exact ih g _ _ _ _ (by omega) (by omega)
theorem sld_nil (ys m u : List Int) : sld [] ys m u = (m, u ++ ys) := rfl
theorem sld_nil' (xs m u : List Int) : sld xs [] m u = (m ++ xs, u) := by
  cases xs <;> simp [sld, sldF]
theorem sld_lt {x y : Int} {xs ys m u : List Int} (h : x < y) : sld (x :: xs) (y :: ys) m u = sld (xs.dropWhile (· == x)) (y :: ys) (m ++ [x]) u := by
  have h1 := dw_le (· == x) xs
  unfold sld
  rw [show (x :: xs).length + (y :: ys).length + 1 = ((x :: xs).length + (y :: ys).length) + 1 from rfl, sldF, if_pos h]
  exact sldF_stable _ _ _ _ _ _ (by simp only [List.length_cons]; omega) (by simp only [List.length_cons]; omega)
theorem sld_gt {x y : Int} {xs ys m u : List Int} (h : y < x) : sld (x :: xs) (y :: ys) m u = sld (x :: xs) (ys.dropWhile (· == y)) m (u ++ [y]) := by
  have h1 := dw_le (· == y) ys
  unfold sld
  rw [show (x :: xs).length + (y :: ys).length + 1 = ((x :: xs).length + (y :: ys).length) + 1 from rfl, sldF, if_neg (by omega), if_pos h]
  exact sldF_stable _ _ _ _ _ _ (by simp only [List.length_cons]; omega) (by simp only [List.length_cons]; omega)
theorem sld_eq {x y : Int} {xs ys m u : List Int} (h : x = y) : sld (x :: xs) (y :: ys) m u = sld (xs.dropWhile (· == x)) (ys.dropWhile (· == y)) m u := by
  have h1 := dw_le (· == x) xs
  have h2 := dw_le (· == y) ys
  unfold sld
  rw [show (x :: xs).length + (y :: ys).length + 1 = ((x :: xs).length + (y :: ys).length) + 1 from rfl, sldF, if_neg (by omega), if_neg (by omega)]
  exact sldF_stable _ _ _ _ _ _ (by simp only [List.length_cons]; omega) (by omega)
end Tv
namespace Tv
variable {xs ys ms us : List Int} {R : List Int × List Int} {i j e : Int}
theorem drop_cons (h0 : 0 ≤ i) (h : i < xs.length) : xs.drop i.toNat = xs.getD i.toNat 0 :: xs.drop (i + 1).toNat := by
  have hn : i.toNat < xs.length := by omega
  rw [show (i + 1).toNat = i.toNat + 1 from by omega, List.drop_eq_getElem_cons hn, List.getD_eq_getElem?_getD, List.getElem?_eq_getElem hn]
  rfl
theorem drop_end (h : i = xs.length) : xs.drop i.toNat = [] := List.drop_eq_nil_of_le (by omega)
theorem st_lt (h : sld (xs.drop i.toNat) (ys.drop j.toNat) ms us = R) (h0 : 0 ≤ i) (h1 : i < xs.length) (h2 : 0 ≤ j) (h3 : j < ys.length) (hl : xs.getD i.toNat 0 < ys.getD j.toNat 0) :
    sld ((xs.drop (i + 1).toNat).dropWhile (· == xs.getD i.toNat 0)) (ys.drop j.toNat) (ms ++ [xs.getD i.toNat 0]) us = R := by
  rw [drop_cons h0 h1, drop_cons h2 h3, sld_lt hl, ← drop_cons h2 h3] at h; exact h
theorem st_gt (h : sld (xs.drop i.toNat) (ys.drop j.toNat) ms us = R) (h0 : 0 ≤ i) (h1 : i < xs.length) (h2 : 0 ≤ j) (h3 : j < ys.length) (hl : ys.getD j.toNat 0 < xs.getD i.toNat 0) :
    sld (xs.drop i.toNat) ((ys.drop (j + 1).toNat).dropWhile (· == ys.getD j.toNat 0)) ms (us ++ [ys.getD j.toNat 0]) = R := by
  rw [drop_cons h0 h1, drop_cons h2 h3, sld_gt hl, ← drop_cons h0 h1] at h; exact h
theorem st_eq (h : sld (xs.drop i.toNat) (ys.drop j.toNat) ms us = R) (h0 : 0 ≤ i) (h1 : i < xs.length) (h2 : 0 ≤ j) (h3 : j < ys.length) (hl : xs.getD i.toNat 0 = ys.getD j.toNat 0) :
    sld ((xs.drop (i + 1).toNat).dropWhile (· == xs.getD i.toNat 0)) ((ys.drop (j + 1).toNat).dropWhile (· == ys.getD j.toNat 0)) ms us = R := by
  rw [drop_cons h0 h1, drop_cons h2 h3, sld_eq hl] at h; exact h
theorem eat (h0 : 0 ≤ i) (h1 : i < xs.length) (he : xs.getD i.toNat 0 = e) : (xs.drop i.toNat).dropWhile (· == e) = (xs.drop (i + 1).toNat).dropWhile (· == e) := by
  rw [drop_cons h0 h1, List.dropWhile_cons, if_pos (beq_iff_eq.mpr he)]
theorem stay (h0 : 0 ≤ i) (h1 : i < xs.length) (he : xs.getD i.toNat 0 ≠ e) : (xs.drop i.toNat).dropWhile (· == e) = xs.drop i.toNat := by
  rw [drop_cons h0 h1, List.dropWhile_cons, if_neg (fun q => he (beq_iff_eq.mp q))]
theorem gone (h : i = xs.length) : (xs.drop i.toNat).dropWhile (· == e) = xs.drop i.toNat := by
  rw [drop_end h]; rfl
theorem sld_done (h : i = xs.length ∨ j = ys.length) : sld (xs.drop i.toNat) (ys.drop j.toNat) ms us = (ms ++ xs.drop i.toNat, us ++ ys.drop j.toNat) := by
  rcases h with h | h
  · rw [drop_end h, sld_nil, List.append_nil]
  · rw [drop_end h, sld_nil', List.append_nil]
theorem st_eat {l : List Int} (h : sld ((xs.drop i.toNat).dropWhile (fun x => x == e)) l ms us = R) (h0 : 0 ≤ i) (h1 : i < xs.length) (he : xs.getD i.toNat 0 = e) : sld ((xs.drop (i + 1).toNat).dropWhile (fun x => x == e)) l ms us = R := by
  rw [← eat h0 h1 he]; exact h
theorem st_stay {l : List Int} (h : sld ((xs.drop i.toNat).dropWhile (fun x => x == e)) l ms us = R) (h0 : 0 ≤ i) (h1 : i < xs.length) (he : xs.getD i.toNat 0 ≠ e) : sld (xs.drop i.toNat) l ms us = R := by
  rw [stay h0 h1 he] at h; exact h
theorem st_gone {l : List Int} (h : sld ((xs.drop i.toNat).dropWhile (fun x => x == e)) l ms us = R) (h0 : i = xs.length) : sld (xs.drop i.toNat) l ms us = R := by
  rw [gone h0] at h; exact h
theorem st_eat' {l : List Int} (h : sld l ((ys.drop j.toNat).dropWhile (fun x => x == e)) ms us = R) (h0 : 0 ≤ j) (h1 : j < ys.length) (he : ys.getD j.toNat 0 = e) : sld l ((ys.drop (j + 1).toNat).dropWhile (fun x => x == e)) ms us = R := by
  rw [← eat h0 h1 he]; exact h
theorem st_stay' {l : List Int} (h : sld l ((ys.drop j.toNat).dropWhile (fun x => x == e)) ms us = R) (h0 : 0 ≤ j) (h1 : j < ys.length) (he : ys.getD j.toNat 0 ≠ e) : sld l (ys.drop j.toNat) ms us = R := by
  rw [stay h0 h1 he] at h; exact h
theorem st_gone' {l : List Int} (h : sld l ((ys.drop j.toNat).dropWhile (fun x => x == e)) ms us = R) (h0 : j = ys.length) : sld l (ys.drop j.toNat) ms us = R := by
  rw [gone h0] at h; exact h
theorem len1 {l : List Int} {x a b : Int} (h : (l.length : Int) ≤ a) (h' : a + 1 ≤ b) : ((l ++ [x]).length : Int) ≤ b := by
  rw [List.length_append, List.length_singleton]; omega
theorem ms_one {n : Nat} {j : Int} (h : j < n) (h0 : 0 ≤ j) : n - (j + 1).toNat < n - j.toNat := by omega
theorem ms_left {n m : Nat} {i i' : Int} (h : i < n) (h0 : 0 ≤ i) (h1 : i + 1 ≤ i') : n - i'.toNat + m < n - i.toNat + m := by omega
theorem ms_right {n m : Nat} {i i' : Int} (h : i < n) (h0 : 0 ≤ i) (h1 : i + 1 ≤ i') : m + (n - i'.toNat) < m + (n - i.toNat) := by omega
theorem ms_both {n m : Nat} {i i' j j' : Int} (h : i < n) (g : j < m) (h0 : 0 ≤ i) (g0 : 0 ≤ j) (h1 : i + 1 ≤ i') (g1 : j + 1 ≤ j') : n - i'.toNat + (m - j'.toNat) < n - i.toNat + (m - j.toNat) := by omega
end Tv
end

section
open PySem PySem.W PyProof.Rows PySem.Spec PySem.Calls Tv
namespace Tv
/-- entering a def whose body may catch: the caller's frame stands in the ledger, last -/
theorem enter_try {prog : Program} {w : World} {A : Around} {s : Shared} {h₀ : Heap} {L : Addr} {m : Str → Option Value} {ce : Env} {news : List (Addr × Obj)} {K : Frag} {p : Program} {loose : List Str} {mean : ExcName → Option Value} {mg mb : Str → Option Value}
    {R : Result → Shared → Prop} {name qual : Str} {params : Arguments} {body : List Stmt} {scope : Scope} {dV kV doc pm cdv ct oc : Value} {an od : Option Addr} {osl : Array (Option Value)} {f : Addr} {args : Args} {binds : List (Str × Value)}
    (F : Fr h₀ L s.heap m) (X₀ : K.In h₀) (N : News h₀ L s.heap news) (T : Top p loose mean mg mb h₀) (hcf : ce.frame = some L) (hck : ce.scope.kind ≠ .module)
    (ho : K.lookup f = some ⟨oc, od, .func (fnOf name qual params body scope dV kV doc pm an cdv ct), osl⟩) (hcd : codeIn K cdv qual = true) (hroom : A.depth < recursionLimit)
    (hbind : BindsTo s (fnOf name qual params body scope dV kV doc pm an cdv ct) args binds) (hloc : ∀ y ∈ binds, scope.names.lookup y.1 = some .local)
    (h : ∀ (L' : Nat) oL h₁, TI.Caller h₀ L m oL → TI.Frs [ce] [(L, oL)] → TLg.AllNe L news → (∀ p ∈ news, @LT.lt Nat _ p.1 L') → @LT.lt Nat _ L L' → Fr h₀ L' h₁ (fun y => binds.reverse.lookup y) → News h₀ L' h₁ (news ++ [(L, oL)]) →
      wpAny (model prog w) (A.deeper (envOf qual scope L' f cdv)) (execs body (envOf qual scope L' f cdv))
        (fun fl s' => TI.LeaveI s' (R (.ok (.ret (match fl with | .ret v => v | _ => .none))) s'))
        (fun e s' => wpAny (model prog w) (A.deeper (envOf qual scope L' f cdv)) (leaving (envOf qual scope L' f cdv) e) (fun _ s'' => TI.LeaveX (R (.error e) s'')) (fun e' s'' => TI.LeaveX (R (.error e') s'')) s')
        { s with heap := h₁, toks := s.toks + binds.length })
    (hco : scope.isCoroutine = false) (hgen : scope.isGenerator = false) (hk : scope.kind = .function)
    (hcell : ∀ x ∈ scope.names, x.2 ≠ .cell) : codeAny (model prog w) A (.call (.ref f) args) R s := by
  obtain ⟨oL, es, ep, hL, hdat, hkind, hfree⟩ := F.ns
  have hlt : @LT.lt Nat _ L s.heap.objs.size := Heap.lt_size hL
  have XK := X₀.keeps F.keep
  refine codeAny_call_def (fd := fnOf name qual params body scope dV kV doc pm an cdv ct) (body := body) (binds := binds) hroom (XK _ _ ho) rfl (T.nolimit.keeps F.keep) (codeRec_of XK hcd) rfl hbind hcell hloc ?_ hco hgen hk
  intro h₁ hns hgrow
  have keepL : h₁.get? L = some oL := hgrow _ _ hL
  have ledger : News h₀ s.heap.objs.size h₁ (news ++ [(L, oL)]) := by
    intro q hq
    rw [List.mem_append, List.mem_singleton] at hq
    rcases hq with hq | rfl
    · have := N q hq
      exact ⟨hgrow _ _ this.1, Nat.ne_of_lt (Heap.lt_size this.1), this.2.2⟩
    · exact ⟨keepL, Nat.ne_of_lt hlt, Heap.get?_none_of_le F.above⟩
  have caller : TI.Caller h₀ L m oL := ⟨fun _ _ e => ⟨_, es, ep, e, hdat, hkind, hfree⟩, ⟨es, ep, hdat⟩, F.above⟩
  have frs : TI.Frs [ce] [(L, oL)] := ⟨hck, hcf, ⟨es, ep, hdat⟩, trivial⟩
  exact h _ oL h₁ caller frs (TLgL.allNe_of fun q hq => (N q hq).2.1) (fun q hq => Heap.lt_size (N q hq).1) hlt ⟨hns, fun b o e => hgrow b o (F.keep b o e), Nat.le_trans F.above (Nat.le_of_lt hlt)⟩ ledger
end Tv
end

section
open PySem PySem.W PyProof.Rows PySem.Spec PySem.Calls Tv
namespace Tv
section
variable {prog : Program} {w : World} {A : Around} {E : Value → Shared → Prop} {s : Shared} {hb : Heap} {L L' e : Nat} {oL ob : Obj} {a : Addr} {m : Str → Option Value} {name : Str} {scope : Scope} {cd : Value} {ce : Env} {new : List (Addr × Obj)} {vs : Array Value}

noncomputable def tbObj (L' : Nat) (pl : List Value) : Obj := { cls := .type "traceback", dict := none, data := .fields ([.none, .ref L', .none, rawInt L', .none] ++ (if pl.isEmpty then List.replicate 6 Value.none else pl)).toArray }
theorem tb_cell (L' : Nat) (X : List Value) : (([.none, .ref L', .none, rawInt L', .none] ++ X : List Value).toArray)[3]? = some (rawInt L') := by simp
/-- only slots of the two frames turn: the ledger stands -/
theorem slots_led {h h₁ : Heap} (F : Fr hb L' h m) (N : News hb L' h ((e, ob) :: (new ++ [(L, oL)]))) (hap : ∀ p ∈ new, p.1 ≠ L) (heL : e ≠ L)
    (hs : Heap.SlotsOnly [L', L] h h₁) : ∃ sl, Fr hb L' h₁ m ∧ News hb L' h₁ ((e, ob) :: (new ++ [(L, { oL with slots := sl })])) := by
  have hL := N (L, oL) (List.mem_cons_of_mem _ (List.mem_append_right _ (.head _)))
  obtain ⟨sl, hsl⟩ := hs.2.2 L oL hL.1
  obtain ⟨o', es, ep, ho', r⟩ := F.ns
  obtain ⟨sl', hsl'⟩ := hs.2.2 L' o' ho'
  have same : ∀ b, b ≠ L' → b ≠ L → h₁.get? b = h.get? b := fun b h1 h2 => hs.2.1 b fun hm => by
    rcases List.mem_cons.mp hm with q | hm
    · exact h1 q
    · exact h2 (List.mem_singleton.mp hm)
  have hbL' : ∀ b o, hb.get? b = some o → b ≠ L' := fun b o q => Nat.ne_of_lt (Nat.lt_of_lt_of_le (Heap.lt_size q) F.above)
  have hbL : ∀ b o, hb.get? b = some o → b ≠ L := fun b o q z => by have := hL.2.2; rw [← z] at this; rw [q] at this; cases this
  refine ⟨sl, ⟨⟨_, es, ep, hsl', r⟩, fun b o q => (same b (hbL' b o q) (hbL b o q)).trans (F.keep b o q), F.above⟩, ?_⟩
  intro p hp
  rcases List.mem_cons.mp hp with rfl | hp
  · have := N _ (.head _)
    exact ⟨(same _ this.2.1 heL).trans this.1, this.2⟩
  · rcases List.mem_append.mp hp with hp | hp
    · have := N p (List.mem_cons_of_mem _ (List.mem_append_left _ hp))
      exact ⟨(same _ this.2.1 (hap p hp)).trans this.1, this.2⟩
    · rcases List.mem_singleton.mp hp with rfl
      exact ⟨hsl, hL.2⟩

theorem note_exact {Q : Unit → Shared → Prop} (hfr : A.frames = some [envOf name scope L' a cd, ce]) (Fs : TI.Frs [ce] [(L, oL)]) (F : Fr hb L' s.heap m)
    (N : News hb L' s.heap ((e, ob) :: (new ++ [(L, oL)]))) (hd : ob.data = .fields vs) (h1 : vs[1]? = some .none) (hap : ∀ p ∈ new, p.1 ≠ L) (hae : ∀ p ∈ new, p.1 ≠ e) (heL : e ≠ L)
    (k : ∀ h' sl (tb : Nat) otb ts, otb.data = .fields ts → ts[3]? = some (rawInt L') → tb ≠ e → tb ≠ L → (∀ p ∈ new, p.1 ≠ tb) → TI.Frs [ce] [(L, { oL with slots := sl })] → Fr hb L' h' m →
      News hb L' h' ((tb, otb) :: (e, ob.mapFields (·.setIfInBounds 1 (.ref tb))) :: (new ++ [(L, { oL with slots := sl })])) → Q () { s with heap := h' })
    (hk : scope.kind = .function) :
    wpAny (model prog w) A (noteFrame (.ref e) (envOf name scope L' a cd)) Q E s := by
  have he := (N _ (.head _)).1
  have N0 : News hb L' s.heap (((e, ob) :: new) ++ [(L, oL)]) := N
  obtain ⟨hff, -, -, -, -⟩ := TI.frames_at (name := name) (a := a) (cd := cd) (h' := s.heap) (base := TI.gone s.heap [L', L]) hk Fs F N0 (fun p hp => List.mem_append_right _ hp) (fun b o hb' => ⟨o.slots, hb'⟩) fun b hm => TI.gone_none hm
  unfold noteFrame
  simp only [show (envOf name scope L' a cd).frame = some L' from rfl]
  refine wpAny_bind (wpAny_field he hd h1 ?_)
  rw [if_neg (by decide)]
  refine wpAny_bind (wpAny_frameOf_fun hfr hff rfl fun h₁ hs₁ => ?_)
  have hs₁' : Heap.SlotsOnly [L', L] s.heap h₁ := by
    have q := TI.frames_are (L := L') Fs (name := name) (scope := scope) (a := a) (cd := cd)
    rw [q] at hs₁; exact hs₁
  obtain ⟨sl, F₁, N₁⟩ := slots_led F N hap heL hs₁'
  refine wpAny_bind (wpAny_entryPlaceOf fun pl hpl => ?_)
  unfold EntryCells.newEntry newFields
  refine wpAny_bind (wpAny_newObj_type ?_ (hpl.sizeOk5 _ _ _ _ _))
  have hsz : 1 < vs.size := (Array.getElem?_eq_some_iff.mp h1).1
  have F₂ := F₁.push (tbObj L' pl)
  have N₂ := N₁.push F₁ (tbObj L' pl)
  have fresh : ∀ p ∈ (e, ob) :: (new ++ [(L, { oL with slots := sl })]), p.1 ≠ h₁.objs.size := fun p hp => Nat.ne_of_lt (Heap.lt_size (N₁ p hp).1)
  have hte : h₁.objs.size ≠ e := Ne.symm (fresh _ (.head _))
  have htL : h₁.objs.size ≠ L := Ne.symm (fresh _ (List.mem_cons_of_mem _ (List.mem_append_right _ (.head _))))
  have htn : ∀ p ∈ new, p.1 ≠ h₁.objs.size := fun p hp => fresh p (List.mem_cons_of_mem _ (List.mem_append_left _ hp))
  have he₂ := (N₂ _ (.tail _ (.head _))).1
  refine wpAny_setField he₂ hd hsz ?_
  have up := news_upd (d := e) (o := ob) (o' := ob.mapFields (·.setIfInBounds 1 (.ref h₁.objs.size))) (f := Obj.mapFields (·.setIfInBounds 1 (.ref h₁.objs.size))) (pre := [(h₁.objs.size, tbObj L' pl)]) (post := new ++ [(L, ({ oL with slots := sl } : Obj))]) F₂ N₂
    (fun p hp => by rcases List.mem_singleton.mp hp with rfl; exact hte)
    (fun p hp => by
      rcases List.mem_append.mp hp with hp | hp
      · exact hae p hp
      · rcases List.mem_singleton.mp hp with rfl; exact Ne.symm heL) rfl (Obj.isFreed_of_fields (Obj.data_mapFields hd _))
  exact k _ sl h₁.objs.size (tbObj L' pl) _ rfl (tb_cell L' _) hte htL htn (Fs.up ⟨rfl, ⟨sl, rfl⟩, trivial⟩) up.1 up.2
end
end Tv
end

section
open PySem PySem.W PyProof.Rows PySem.Spec PySem.Calls Tv
namespace Tv
theorem entry_unchain : entryFor table "proto.unchain" = some Builtin.«proto.unchain» := entryFor_of_fast (by kernel_rfl)
structure NewExcIn (h h' : Heap) (e : Addr) (cls : String) (e0 : Addr) : Prop where
  keeps : ∀ b o, h.get? b = some o → h'.get? b = some o
  new : h.get? e = none
  there : ∃ ob t, h'.get? e = some ob ∧ ob.cls = .type cls ∧ ob.data = .fields #[t, .none, .ref e0, .none, .bool false, .none]
section
variable {α : Type} {prog : Program} {w : World} {A : Around} {E : Value → Shared → Prop} {s : Shared} {e e0 : Addr} {o0 oe : Obj} {vs0 vs : Array Value}
theorem raiseNew_in {Q : α → Shared → Prop} (hh : A.handled = some (.ref e0)) (h0 : s.heap.get? e0 = some o0) (hd0 : o0.data = .fields vs0) (h02 : vs0[2]? = some .none) (hne : e0 ≠ e)
    (he : s.heap.get? e = some oe) (hd : oe.data = .fields vs) (hsz : 2 < vs.size)
    (k : E (.ref e) { s with heap := s.heap.update e (Obj.mapFields (·.setIfInBounds 2 (.ref e0))) }) :
    wpAny (model prog w) A (raiseNew (.ref e) : Sem α) Q E s := by
  unfold raiseNew
  refine wpAny_bind (wpAny_handled ?_)
  rw [hh]
  have hb : (Value.ref e0 != Value.ref e) = true := by simp [hne]
  dsimp only
  rw [if_pos hb]
  refine wpAny_bind (wpAny_holding (wpAny_runValue (codeAny_builtin entry_unchain ?_)))
  show wpAny _ _ (Builtin.«proto.unchain» ⟨[.ref e, .ref e0, .ref e0, .bool false], []⟩) _ _ s
  unfold Builtin.«proto.unchain»
  refine wpAny_bind (wpAny_field h0 hd0 h02 ?_)
  rw [if_pos (by decide)]
  refine wpAny_bind (wpAny_pure (wpAny_pure ?_))
  show wpAny _ _ _ _ _ s
  refine wpAny_bind ?_
  show wpAny _ _ (setField (.ref e) 2 (.ref e0)) _ _ s
  exact wpAny_setField he hd hsz (wpAny_throw k)

theorem new_in {h : Heap} {X : Obj} {t : Value} {cls : String} (hc : X.cls = .type cls) (hd : X.data = .fields #[t, .none, .none, .none, .bool false, .none]) {Y : Obj} (h0 : e0 < h.objs.size) :
    NewExcIn h (((h.push Y).push X).update (h.push Y).objs.size (Obj.mapFields (·.setIfInBounds 2 (.ref e0)))) (h.push Y).objs.size cls e0 := by
  refine ⟨fun b o hb => ?_, Heap.get?_none_of_le (by simp), ?_⟩
  · rw [Heap.get?_update_other _ _ (Ne.symm (Nat.ne_of_lt (Nat.lt_of_lt_of_le (Heap.lt_size hb) (by simp))))]
    exact Heap.get?_push_of_some _ (Heap.get?_push_of_some _ hb)
  · have hf : X.isFreed = false := Obj.isFreed_of_fields hd
    refine ⟨_, t, Heap.get?_update_self _ (Heap.get?_push_size _ hf) (Obj.isFreed_of_fields (Obj.data_mapFields hd _)), ?_, ?_⟩
    · obtain ⟨c, d, dt, sl⟩ := X; cases dt <;> exact hc
    · rw [Obj.data_mapFields hd]; rfl

theorem wpAny_raiseErrorWords_in {cls msg : String} {Q : α → Shared → Prop} (hp : PlainExc cls) (hh : A.handled = some (.ref e0)) (h0 : s.heap.get? e0 = some o0) (hd0 : o0.data = .fields vs0) (h02 : vs0[2]? = some .none)
    (h : ∀ h' tk e, NewExcIn s.heap h' e cls e0 → E (.ref e) { s with heap := h', toks := tk }) :
    wpAny (model prog w) A (raiseErrorWords cls msg : Sem α) Q E s := by
  unfold raiseErrorWords
  refine wpAny_bind (wpAny_mkText (wpAny_bind ?_))
  unfold newExc newTuple
  refine wpAny_bind (wpAny_newObj_type ?_)
  refine wpAny_bind (m := firstArgMember _ _) (wpAny_of_eq (a := Value.none) (by simp only [firstArgMember, hp.first]; rfl) ?_)
  rw [hp.own]
  refine wpAny_newObj_type ?_
  have hlt := Heap.lt_size h0
  refine raiseNew_in hh (Heap.get?_push_of_some _ (Heap.get?_push_of_some _ h0)) hd0 h02 (Nat.ne_of_lt (Nat.lt_of_lt_of_le hlt (by simp))) (Heap.get?_push_size _ rfl) rfl (by simp) ?_
  exact h _ _ _ (new_in rfl (by simp; rfl) hlt)

theorem wpAny_raiseErrorMade_in {cls msg : String} {Q : α → Shared → Prop} (hp : PlainExc cls) (hh : A.handled = some (.ref e0)) (h0 : s.heap.get? e0 = some o0) (hd0 : o0.data = .fields vs0) (h02 : vs0[2]? = some .none)
    (h : ∀ h' tk e, NewExcIn s.heap h' e cls e0 → E (.ref e) { s with heap := h', toks := tk }) (hm : (msg : Str).length ≤ sizeLine ) :
    wpAny (model prog w) A (raiseErrorMade cls msg : Sem α) Q E s := by
  unfold raiseErrorMade
  refine wpAny_bind (wpAny_mkStr (wpAny_bind ?_) hm)
  unfold newExc newTuple
  refine wpAny_bind (wpAny_newObj_type ?_)
  refine wpAny_bind (m := firstArgMember _ _) (wpAny_of_eq (a := Value.none) (by simp only [firstArgMember, hp.first]; rfl) ?_)
  rw [hp.own]
  refine wpAny_newObj_type ?_
  have hlt := Heap.lt_size h0
  refine raiseNew_in hh (Heap.get?_push_of_some _ (Heap.get?_push_of_some _ h0)) hd0 h02 (Nat.ne_of_lt (Nat.lt_of_lt_of_le hlt (by simp))) (Heap.get?_push_size _ rfl) rfl (by simp) ?_
  exact h _ _ _ (new_in rfl (by simp; rfl) hlt)

theorem getItem_out_in {l : Addr} {items : Array Value} {k : Int} {t : Tok} {Q : Value → Shared → Prop} (hA : A.handled = some (.ref e0)) (h0 : s.heap.get? e0 = some o0) (hd0 : o0.data = .fields vs0) (h02 : vs0[2]? = some .none) (hl : s.heap.IsList l items)
    (hk0 : 0 ≤ k) (hout : (items.size : Int) ≤ k) (hhi : k < 2 ^ 63)
    (hE : ∀ h' tk e, NewExcIn s.heap h' e "IndexError" e0 → E (.ref e) { s with heap := h', toks := tk }) :
    wpAny (model prog w) A (getItem (.ref l) (.int k t)) Q E s := by
  obtain ⟨o, ho, hc, ne, hd⟩ := id hl
  unfold getItem
  try with_reducible refine wpAny_holding ?_
  first | refine wpAny_bind (wpAny_pure ?_) | skip
  refine wpAny_bind (wpAny_sequenceKey hl.typeIs (by decide) ?_)
  refine wpAny_bind (wpAny_callSpecial?_slot (name := Str.ofString "__getitem__") hl.typeIs slot_list_getitem
    (wpAny_call_entry slot_list_getitem hl.typeIs entry_list_getitem ?_ (args_list_getitem _ _)))
  show wpAny _ _ (Builtin.List.listSubscript? (.int k t) >>= _) _ _ s
  refine wpAny_bind (wpAny_listSubscript_int (fitsIndex_both (by omega) hhi) ?_)
  clear hhi
  cases k with
  | ofNat j =>
    have hx : items[j]? = none := Array.getElem?_eq_none (by have : (items.size : Int) ≤ (j : Int) := hout; omega)
    show wpAny _ _ ((seqItemAt l j >>= fun r => pure (r.map (j, ·))) >>= _) _ _ s
    refine wpAny_bind (wpAny_bind (wpAny_seqItemAt ho hd (wpAny_pure ?_)))
    rw [hx]
    have hA' : A.in1.handled = some (.ref e0) := hA
    first
      | exact wpAny_bind (wpAny_rule (wpAny_raiseErrorWords_in plainExc_IndexError hA' h0 hd0 h02 hE))
      | exact wpAny_bind (wpAny_rule (wpAny_raiseErrorMade_in plainExc_IndexError hA' h0 hd0 h02 hE (by size_fits)))
      | exact wpAny_bind (wpAny_rule (wpAny_bind (wpAny_raiseErrorWords_in plainExc_IndexError hA' h0 hd0 h02 hE)))
      | exact wpAny_bind (wpAny_rule (wpAny_bind (wpAny_raiseErrorMade_in plainExc_IndexError hA' h0 hd0 h02 hE (by size_fits))))
      | exact wpAny_bind (wpAny_bind (wpAny_rule (wpAny_raiseErrorMade_in plainExc_IndexError hA' h0 hd0 h02 hE (by size_fits))))
      | exact wpAny_bind (wpAny_bind (wpAny_rule (wpAny_raiseErrorWords_in plainExc_IndexError hA' h0 hd0 h02 hE)))
      | exact wpAny_rule (wpAny_raiseErrorMade_in plainExc_IndexError hA' h0 hd0 h02 hE (by size_fits))
      | exact wpAny_rule (wpAny_raiseErrorWords_in plainExc_IndexError hA' h0 hd0 h02 hE)
  | negSucc j => exact absurd hk0 (by have := Int.negSucc_lt_zero j; omega)

theorem item_out_in {value slice : PySem.Expr} {l : Addr} {items : Array Value} {k : Int} {u : Tok} {Q : Value → Shared → Prop} (hA : A.handled = some (.ref e0)) (h0 : s.heap.get? e0 = some o0) (hd0 : o0.data = .fields vs0) (h02 : vs0[2]? = some .none) (hl : s.heap.IsList l items)
    (hk0 : 0 ≤ k) (hout : (items.size : Int) ≤ k) (hhi : k < 2 ^ 63)
    (hE : ∀ h' tk e, NewExcIn s.heap h' e "IndexError" e0 → E (.ref e) { s with heap := h', toks := tk })
    (hs : subscripted slice false (.ref l) (.int k u) = operate [.ref l, .int k u] (getItem (.ref l) (.int k u)) ) :
    wpAny (model prog w) A (subscriptTail value slice (.ref l) (.int k u)) Q E s :=
  tail_any hl.typeIs slot_list_getitem.lookup (getItem_out_in hA h0 hd0 h02 hl hk0 hout hhi hE) hs
end
end Tv
end

section
open PySem PySem.W PyProof.Rows PySem.Spec PySem.Calls Tv
namespace Tv
/-- an exception newly made, its context c2 -/
structure NewIn (h h' : Heap) (e : Addr) (cls : String) (c2 : Value) : Prop where
  keeps : ∀ b o, h.get? b = some o → h'.get? b = some o
  new : h.get? e = none
  there : ∃ ob t, h'.get? e = some ob ∧ ob.cls = .type cls ∧ ob.data = .fields #[t, .none, c2, .none, .bool false, .none]
theorem NewIn.of {h h' : Heap} {e : Addr} {cls : String} (x : Heap.NewExc h h' e cls) : NewIn h h' e cls .none := ⟨x.keeps, x.new, x.there⟩
theorem NewIn.of_in {h h' : Heap} {e e0 : Addr} {cls : String} (x : NewExcIn h h' e cls e0) : NewIn h h' e cls (.ref e0) := ⟨x.keeps, x.new, x.there⟩
/-- an exception under way, its own traceback entry, apart from the ledger lst -/
structure LiveAt (hb : Heap) (L : Nat) (h : Heap) (m : Str → Option Value) (e : Nat) (X : String) (c2 fl : Value) (lst : List (Addr × Obj)) (tb : Nat) (otb ob : Obj) (ts vs : Array Value) : Prop where
  fr : Fr hb L h m
  led : News hb L h ((tb, otb) :: (e, ob) :: lst)
  cls : ob.cls = .type X
  data : ob.data = .fields vs
  f1 : vs[1]? = some (.ref tb)
  f2 : vs[2]? = some c2
  tdata : otb.data = .fields ts
  t3 : ts[3]? = some fl
  ne : tb ≠ e
  ap : ∀ p ∈ lst, p.1 ≠ tb ∧ p.1 ≠ e
noncomputable def Live (hb : Heap) (L : Nat) (h : Heap) (m : Str → Option Value) (e : Nat) (X : String) (c2 fl : Value) (lst : List (Addr × Obj)) : Prop :=
  ∃ tb otb ob ts vs, LiveAt hb L h m e X c2 fl lst tb otb ob ts vs
section
variable {prog : Program} {w : World} {A : Around} {E : Value → Shared → Prop} {s : Shared} {hb : Heap} {L L' e : Nat} {oL ob : Obj} {a : Addr} {m : Str → Option Value} {name : Str} {scope : Scope} {cd : Value} {ce : Env} {new lst : List (Addr × Obj)} {vs : Array Value} {X : String} {c2 fl : Value} {env : Env}

theorem Live.rest {h : Heap} (H : Live hb L h m e X c2 fl lst) : Fr hb L h m ∧ News hb L h lst := by
  obtain ⟨tb, otb, ob, ts, vs, H⟩ := H
  exact ⟨H.fr, fun p hp => H.led p (.tail _ (.tail _ hp))⟩

theorem Live.fly (H : Live hb L s.heap m e X c2 fl lst) {M : Model} {fr : Option Addr} {Q : Unit → Shared → Prop}
    (k : ∀ h', Live hb L h' m e X c2 (fr.elim .none fun f => rawInt f) lst → Q () { s with heap := h' }) : wpAny M A (setFlight (.ref e) fr) Q E s := by
  obtain ⟨tb, otb, ob, ts, vs, H⟩ := H
  have he := (H.led _ (.tail _ (.head _))).1
  have htb := (H.led _ (.head _)).1
  have hsz : 3 < ts.size := (Array.getElem?_eq_some_iff.mp H.t3).1
  unfold setFlight
  refine wpAny_bind (wpAny_field he H.data H.f1 ?_)
  rw [if_pos (show (Value.ref tb != Value.none) = true from by simp)]
  refine wpAny_setField htb H.tdata hsz (k _ ?_)
  have up := news_upd (pre := []) (post := (e, ob) :: lst) (d := tb) (o := otb) (o' := otb.mapFields (·.setIfInBounds 3 (fr.elim .none fun f => rawInt f))) (f := Obj.mapFields (·.setIfInBounds 3 (fr.elim .none fun f => rawInt f))) H.fr H.led
    (by intro p hp; cases hp) (fun p hp => by
      rcases List.mem_cons.mp hp with rfl | hp
      · exact Ne.symm H.ne
      · exact (H.ap p hp).1) rfl (Obj.isFreed_of_fields (Obj.data_mapFields H.tdata _))
  exact ⟨tb, _, ob, _, vs, up.1, up.2, H.cls, H.data, H.f1, H.f2, Obj.data_mapFields H.tdata _, by simp [hsz], H.ne, H.ap⟩

theorem Live.again (H : Live hb L s.heap m e X c2 (rawInt L) lst) {Q : Unit → Shared → Prop} (hfr : env.frame = some L) (k : Q () s) : wpAny (model prog w) A (noteFrame (.ref e) env) Q E s := by
  obtain ⟨tb, otb, ob, ts, vs, H⟩ := H
  have he := (H.led _ (.tail _ (.head _))).1
  have htb := (H.led _ (.head _)).1
  unfold noteFrame
  simp only [hfr]
  refine wpAny_bind (wpAny_field he H.data H.f1 ?_)
  rw [if_pos (show (Value.ref tb != Value.none) = true from by simp)]
  refine wpAny_bind (wpAny_field htb H.tdata H.t3 ?_)
  have hbeq : (rawInt L == rawInt L) = true := by simp
  rw [if_pos hbeq]
  exact wpAny_pure k

theorem Live.came (H : Live hb L s.heap m e X c2 fl lst) (hfr : env.frame = some L) (k : ∀ h', Live hb L h' m e X c2 (rawInt L) lst → E (.ref e) { s with heap := h' }) :
    cameBackBy (model prog w) A env E (.ref e) s := by
  have H' := H
  obtain ⟨tb, otb, ob, ts, vs, H⟩ := H
  have he := (H.led _ (.tail _ (.head _))).1
  unfold cameBackBy
  refine wpAny_bind (wpAny_field he H.data H.f1 ?_)
  rw [if_neg (show ¬ (Value.ref tb == Value.none) = true from by simp)]
  refine H'.fly fun h' H'' => k h' ?_
  rw [hfr] at H''; exact H''

theorem Live.passOn {α : Type} {what : String} (H : Live hb L s.heap m e X c2 fl lst) {Q : α → Shared → Prop} (hfr : env.frame = some L) (k : ∀ h', Live hb L h' m e X c2 (rawInt L) lst → E (.ref e) { s with heap := h' }) :
    wpAny (model prog w) A (PySem.passOn what (.ref e) env : Sem α) Q E s := by
  have H' := H
  obtain ⟨tb, otb, ob, ts, vs, H⟩ := H
  have he := (H.led _ (.tail _ (.head _))).1
  unfold PySem.passOn
  refine wpAny_bind (wpAny_field he H.data H.f1 ?_)
  rw [if_neg (show ¬ (Value.ref tb == Value.none) = true from by simp)]
  refine wpAny_bind (H'.fly fun h' H'' => wpAny_throw (k h' ?_))
  rw [hfr] at H''; exact H''

theorem Live.held {h : Heap} (H : Live hb L h m e X c2 fl lst) : TT.HeldNA hb L h m e X lst fl := by
  obtain ⟨tb, otb, ob, ts, vs, H⟩ := H
  have he := H.led _ (.tail _ (.head _))
  have htb := H.led _ (.head _)
  refine ⟨⟨H.fr, ⟨ob, vs, tb, otb, ts, he.1, H.cls, H.data, H.f1, htb.1, H.tdata, H.t3, htb.2.1, H.ne, htb.2.2⟩, he.2.2⟩, fun p hp => H.led p (.tail _ (.tail _ hp)), ?_⟩
  intro ob' vs' tb' e1 e2 e3 p hp
  have q := he.1.symm.trans e1
  obtain rfl := Option.some.inj q
  have q2 := H.data.symm.trans e2
  injection q2 with q2
  subst q2
  have q3 := H.f1.symm.trans e3
  injection q3 with q3
  injection q3 with q3
  rw [← q3]; exact (H.ap p hp).1

theorem note_new {h0 : Heap} {Q : Unit → Shared → Prop} (hx : NewIn h0 s.heap e X c2) (hfr : A.frames = some [envOf name scope L' a cd, ce]) (Fs : TI.Frs [ce] [(L, oL)]) (F : Fr hb L' h0 m)
    (N : News hb L' h0 (new ++ [(L, oL)])) (hap : ∀ p ∈ new, p.1 ≠ L)
    (k : ∀ h' sl, TI.Frs [ce] [(L, { oL with slots := sl })] → Live hb L' h' m e X c2 (rawInt L') (new ++ [(L, { oL with slots := sl })]) → Q () { s with heap := h' })
    (hk : scope.kind = .function) :
    wpAny (model prog w) A (noteFrame (.ref e) (envOf name scope L' a cd)) Q E s := by
  obtain ⟨ob, t, he, hcls, hd⟩ := hx.there
  have fresh : ∀ p ∈ new ++ [(L, oL)], p.1 ≠ e := fun p hp q => by have := (N p hp).1; rw [q, hx.new] at this; cases this
  have hL'e : e ≠ L' := fun q => by
    obtain ⟨o, _, _, ho, _⟩ := F.ns
    rw [← q, hx.new] at ho; cases ho
  have he0 : hb.get? e = none := by
    cases q : hb.get? e with
    | none => rfl
    | some o => have := F.keep e o q; rw [hx.new] at this; cases this
  have F1 : Fr hb L' s.heap m := by
    obtain ⟨o, es, ep, ho, r⟩ := F.ns
    exact ⟨⟨o, es, ep, hx.keeps _ _ ho, r⟩, fun b o q => hx.keeps _ _ (F.keep b o q), F.above⟩
  have N1 : News hb L' s.heap ((e, ob) :: (new ++ [(L, oL)])) := by
    intro p hp
    rcases List.mem_cons.mp hp with rfl | hp
    · exact ⟨he, hL'e, he0⟩
    · exact ⟨hx.keeps _ _ (N p hp).1, (N p hp).2⟩
  have heL : e ≠ L := Ne.symm (fresh (L, oL) (List.mem_append_right _ (.head _)))
  refine note_exact hfr Fs F1 N1 hd rfl hap (fun p hp => fresh p (List.mem_append_left _ hp)) heL ?_ hk
  intro h' sl tb otb ts h1 h3 hte htL htn Fs2 F2 N2
  refine k h' sl Fs2 ⟨tb, otb, _, ts, _, F2, N2, ?_, Obj.data_mapFields hd _, by simp, by simp, h1, h3, hte, ?_⟩
  · obtain ⟨c, d, dt, sl⟩ := ob; cases dt <;> exact hcls
  · intro p hp
    rcases List.mem_append.mp hp with hp | hp
    · exact ⟨htn p hp, fresh p (List.mem_append_left _ hp)⟩
    · rcases List.mem_singleton.mp hp with rfl
      exact ⟨Ne.symm htL, Ne.symm heL⟩

/-- the clause catches it -/
theorem Live.caught {A₀ : Around} {mean : ExcName → Option Value} {mg mb : Str → Option Value} {loose : List Str} {p : Program} {x : Str} {np pos : Pos} {b₀ : Stmt} {suite : List Stmt} {rest : List ExceptHandler} {Q : Flow → Shared → Prop} {T' : String} {KF : Frag}
    (H : Live hb L' s.heap m e X c2 (rawInt L') lst) (XB : KF.In hb) (TB : Top p loose mean mg mb hb)
    (ex : nsIn KF mainGlobals x = some none) (hv : bootBuiltins x = some (.type T')) (hn' : x ≠ "__name__")
    (hexc : isSubtype (.type T') (.type "BaseException") = pure true) (hnt : isSubtype (.type ((Manifest.find? T').elim "type" fun y => y.metatype)) (.type "tuple") = pure false) (hsub : isSubtype (.type X) (.type T') = pure true)
    (k : ∀ h', Fr hb L' h' m → News hb L' h' lst → wpAny (model prog w) ((A₀.deeper (envOf name scope L' a cd)).mark (some (.ref e))) (execs (b₀ :: suite) (envOf name scope L' a cd)) Q E { s with heap := h' })
    (hk : scope.kind = .function) (hxk : (envOf name scope L' a cd).kindOf x = some .globalImplicit) (hdb : (x == ("__debug__" : Str)) = false)
    (hE : PassesOwnAt (model prog w) ((A₀.deeper (envOf name scope L' a cd)).mark (some (.ref e))) (A₀.deeper (envOf name scope L' a cd)) (envOf name scope L' a cd) E) :
    wpAny (model prog w) (A₀.deeper (envOf name scope L' a cd)) (setFlight (.ref e) none) (fun _ s₃ =>
        wpAny (model prog w) (A₀.deeper (envOf name scope L' a cd)) (handleBy (.ref e) (envOf name scope L' a cd) (.ExceptHandler (some (.Name x np)) none (b₀ :: suite) pos :: rest)) Q E s₃) E s := by
  refine H.fly fun h' H' => ?_
  refine wpAny_handleBy_builtin (X := X) (T := T') (b := true) hexc hnt hsub (name_B H'.rest.1 XB (topRead_of TB) ex hv hn' ⟨rfl, H'.held.isA, ?_⟩ hk hxk hdb)
  rw [if_pos rfl]
  exact H'.fly fun h' H'' => wpAny_passesOwnAt hE (k h' H''.rest.1 H''.rest.2)
theorem news_rot4 {h : Heap} {p1 p2 p3 p4 q : Addr × Obj} {r : List (Addr × Obj)} (N : News hb L h (p1 :: p2 :: p3 :: p4 :: q :: r)) : News hb L h ((p1 :: p2 :: p3 :: p4 :: r) ++ [q]) := by
  intro p hp
  refine N p ?_
  simp only [List.cons_append, List.mem_cons, List.mem_append, List.not_mem_nil, or_false] at hp ⊢
  grind
theorem news_back4 {h : Heap} {p1 p2 p3 p4 q : Addr × Obj} {r : List (Addr × Obj)} (N : News hb L h ((p1 :: p2 :: p3 :: p4 :: r) ++ [q])) : News hb L h (p1 :: p2 :: p3 :: p4 :: q :: r) := by
  intro p hp
  refine N p ?_
  simp only [List.cons_append, List.mem_cons, List.mem_append, List.not_mem_nil, or_false] at hp ⊢
  grind
theorem news_back6 {h : Heap} {o1 o2 p1 p2 p3 p4 q : Addr × Obj} {r : List (Addr × Obj)} (N : News hb L h ((o1 :: o2 :: p1 :: p2 :: p3 :: p4 :: r) ++ [q])) : News hb L h (p1 :: p2 :: p3 :: p4 :: q :: r) := by
  intro p hp
  refine N p ?_
  simp only [List.cons_append, List.mem_cons, List.mem_append, List.not_mem_nil, or_false] at hp ⊢
  grind
theorem news_rot6 {h : Heap} {o1 o2 p1 p2 p3 p4 q : Addr × Obj} {r : List (Addr × Obj)} (N : News hb L h (o1 :: o2 :: p1 :: p2 :: p3 :: p4 :: q :: r)) : News hb L h ((o1 :: o2 :: p1 :: p2 :: p3 :: p4 :: r) ++ [q]) := by
  intro p hp
  refine N p ?_
  simp only [List.cons_append, List.mem_cons, List.mem_append, List.not_mem_nil, or_false] at hp ⊢
  grind
theorem allLt_mem {d : Nat} : ∀ {l : List (Addr × Obj)}, AllLt d l → ∀ p ∈ l, p.1 < d
  | [], _, _, hp => nomatch hp
  | _ :: _, h, p, hp => by
    rcases List.mem_cons.mp hp with rfl | hp
    · exact h.1
    · exact allLt_mem h.2 p hp
end
end Tv
end

section
open PySem PySem.W PyProof.Rows PySem.Spec Tv
namespace Tv
noncomputable def Fresh (D : Nat) (l : List (Addr × Obj)) : Prop := ∀ p ∈ l, @LT.lt Nat _ p.1 D
section
variable {prog : Program} {w : World} {A : Around} {E : Value → Shared → Prop} {s : Shared}
theorem item_two {value slice : PySem.Expr} {l : Nat} {vs : List Value} {ns : List Int} {k : Int} {u : Tok} {Q : Value → Shared → Prop} {h₀ : Heap} {L : Addr} {news : List (Addr × Obj)} {kk : Nat} (N : News h₀ L s.heap news) (hm : (l, listOf vs.toArray kk) ∈ news) (hi : IntsAre vs ns) (h0 : 0 ≤ k) (hl : ns.length ≤ 64) (hk : k ≤ ns.length) (hA : A.handled = none)
    (hin : k < ns.length → ∀ t, Q (.int (ns.getD k.toNat 0) t) s)
    (hout : k = ns.length → ∀ h' tk e, Heap.NewExc s.heap h' e "IndexError" → E (.ref e) { s with heap := h', toks := tk })
    (hs : subscripted slice false (.ref l) (.int k u) = operate [.ref l, .int k u] (getItem (.ref l) (.int k u))) :
    wpAny (model prog w) A (subscriptTail value slice (.ref l) (.int k u)) Q E s := by
  have hvl := hi.length
  by_cases h : k < ns.length
  · exact ksa_sub N hm hi h0 h (by omega) (hin h) hs
  · refine item_outK hA (PySem.IsL.isList (n := kk) (N _ hm).1) (.inr ?_) (by omega) (by omega) (hout (by omega)) hs
    rw [List.size_toArray]; omega
theorem ap_cons {x l : Addr} {o : Obj} {r : List (Addr × Obj)} (h1 : x ≠ l) (h2 : ∀ p ∈ r, p.1 ≠ l) : ∀ p ∈ (x, o) :: r, p.1 ≠ l := by
  intro p hp
  rcases List.mem_cons.mp hp with rfl | hp
  · exact h1
  · exact h2 p hp
theorem slice_from {value slice : PySem.Expr} {l : Nat} {vs : List Value} {ns : List Int} {k : Int} {u : Tok} {Q : Value → Shared → Prop} {h₀ : Heap} {L : Addr} {m : Str → Option Value} {news : List (Addr × Obj)} {kk : Nat} (F : Fr h₀ L s.heap m) (N : News h₀ L s.heap news) (hm : (l, listOf vs.toArray kk) ∈ news) (hi : IntsAre vs ns) (h0 : 0 ≤ k) (hl : ns.length ≤ 64)
    (h : ∀ (D : Nat) ws h', Fr h₀ L h' m → News h₀ L h' ((D, listOf (List.toArray ws) 0) :: news) → Fresh D news → IntsAre ws (ns.drop k.toNat) → (ns.drop k.toNat).length = ns.length - k.toNat → Q (.ref D) { s with heap := h' })
    (hs : subscripted slice false (.ref l) (.ref s.heap.objs.size) = operate [.ref s.heap.objs.size, .ref l] (getItem (.ref l) (.ref s.heap.objs.size)) := by with_unfolding_all rfl) (ht : ∀ r, letTemporaryGo value (.ref l) r = pure () := by (intro _; with_unfolding_all rfl)) :
    wpAny (model prog w) A (subscriptTail value slice (.ref l) (.ref s.heap.objs.size)) Q E { s with heap := s.heap.push { cls := .type "slice", data := .fields #[.int k u, .none, .none] } } :=
  kmk_slice_ints F N (PySem.IsL.isList (n := kk) (N _ hm).1) (IsPart.int _ _) IsPart.none hi (kmk_from hi h0) (List.length_drop ..) (fun D ws h' F' N' l1 I' e' _ => h D ws h' F' N' l1 I' e') hs ht (kmk_sz hi (by rw [sizeLine_eq]; omega))
theorem ext_U {D b : Addr} {ys : List Value} {n n2 : Nat} {its2 : Array Value} {ns ms : List Int} {L : Addr} {h₀ : Heap} {m : Str → Option Value} {news : List (Addr × Obj)} {g : Obj → List (Addr × Obj)} {Q : Value → Shared → Prop}
    (F : Fr h₀ L s.heap m) (N : News h₀ L s.heap news) (U : UpdF D (listOf ys.toArray n) news g) (hb : (b, listOf its2 n2) ∈ news) (hi : IntsAre ys ns) (hj : IntsAre its2.toList ms)
    (h : ∀ h' n', Fr h₀ L h' m → News h₀ L h' (g (listOf (ys ++ its2.toList).toArray n')) → IntsAre (ys ++ its2.toList) (ns ++ ms) → Q .none { s with heap := h' }) (hsz : ns.length + ms.length ≤ 1000) :
    wpAny (model prog w) A (call (.builtin "list.extend") [.ref D, .ref b]) Q E s := by
  obtain ⟨pre, post, rfl, hg, h1, h2⟩ := U.split
  have e1 := hi.length
  have e2 := hj.length
  refine extend_in_ints F N h1 h2 (N _ hb).1 hi hj (fun h' n' F' N' I' => h h' n' F' ?_ I') ?_
  · rw [hg]; exact N'
  · rw [sizeLine_eq]; simp at e2; omega
theorem app_U {D : Addr} {ys : List Value} {n : Nat} {v : Int} {t : Tok} {ns : List Int} {L : Addr} {h₀ : Heap} {m : Str → Option Value} {news : List (Addr × Obj)} {g : Obj → List (Addr × Obj)} {Q : Value → Shared → Prop}
    (F : Fr h₀ L s.heap m) (N : News h₀ L s.heap news) (U : UpdF D (listOf ys.toArray n) news g) (hi : IntsAre ys ns)
    (h : ∀ h', Fr h₀ L h' m → News h₀ L h' (g (listOf (ys ++ [Value.int v t]).toArray (n + 1))) → IntsAre (ys ++ [Value.int v t]) (ns ++ [v]) → Q Value.none { s with heap := h' }) (hsz : ns.length ≤ 1000) :
    wpAny (model prog w) A (call (.builtin "list.append") [.ref D, .int v t]) Q E s := by
  obtain ⟨pre, post, rfl, hg, h1, h2⟩ := U.split
  have e1 := hi.length
  have z := N (D, listOf ys.toArray n) (List.mem_append.mpr (.inr (.head _)))
  have hq : ys.toArray.push (Value.int v t) = (ys ++ [Value.int v t]).toArray := by simp
  refine append_at (hsz := by rw [List.size_toArray, sizeLine_eq]; omega) z.1 fun h' hs ho' => h h' (F.change hs z.2.1 z.2.2) ?_ (hi.append (.cons v t .nil))
  rw [hg, ← hq]
  exact news_set N h1 h2 hs ho'
end
theorem sld_out {h₀ : Heap} {L L' lU lM a1 a2 D : Nat} {o0 oU oM o1 o2 oL : Obj} {m m' : Str → Option Value} {news : List (Addr × Obj)} {sl : Array (Option Value)} {s' : Shared} {P : Prop}
    (C : TI.Caller h₀ L m oL) (F : Fr h₀ L' s'.heap m') (N : News h₀ L' s'.heap ((D, o0) :: (lU, oU) :: (lM, oM) :: (a1, o1) :: (a2, o2) :: (L, { oL with slots := sl }) :: news))
    (hD : L < D) (h1 : lU ≠ L) (h2 : lM ≠ L) (h3 : TLg.AllNe L ((a1, o1) :: (a2, o2) :: news))
    (k : Fr h₀ L s'.heap m → News h₀ L s'.heap ((D, o0) :: (lU, oU) :: (lM, oM) :: (a1, o1) :: (a2, o2) :: news) → P) : TI.LeaveI s' P := by
  refine TLg.leave_back (sl := sl) C F (new := (D, o0) :: (lU, oU) :: (lM, oM) :: (a1, o1) :: (a2, o2) :: news) (news_sub N ?_) ⟨Nat.ne_of_gt hD, h1, h2, h3⟩ k
  intro p hp
  simp only [List.cons_append, List.mem_cons, List.mem_append, List.not_mem_nil, or_false] at hp ⊢
  grind
theorem sld_end {vm vu : List Value} {xs ys ms us : List Int} {i j : Int} {R : List Int × List Int} (hI : IntsAre vm (ms ++ xs.drop i.toNat)) (hJ : IntsAre vu (us ++ ys.drop j.toNat)) (h : sld (xs.drop i.toNat) (ys.drop j.toNat) ms us = R) (hd : i = xs.length ∨ j = ys.length) :
    IntsAre vm R.1 ∧ IntsAre vu R.2 := by
  rw [← h, sld_done hd]; exact ⟨hI, hJ⟩
end Tv
end

section
open PySem PySem.W PyProof.Rows PySem.Spec Tv
namespace Tv
noncomputable def rawSld : Option (List Stmt × Scope) := match PySem.Challenge.pw_tv0010_01.main.body with
  | _ :: .FunctionDef _ _ b _ _ _ s _ _ _ :: _ => some (b, s)
  | _ => none
noncomputable def rawSldBody : List Stmt := match rawSld with | some (b, _) => b | none => []
noncomputable def rawSldScope : Scope := match rawSld with | some (_, s) => s | none => { kind := .function, names := [], isGenerator := false, isCoroutine := false, more := [] }
noncomputable def sldScopeP : { s : Scope // rawSldScope = s } := ⟨_, by
  conv => lhs; whnf; dsimp only⟩
noncomputable def sldScope : Scope := sldScopeP.1
noncomputable def rawSldH : List Stmt := match rawSldBody with
  | _ :: _ :: _ :: .While _ (.Try _ (.ExceptHandler _ _ b _ :: _) _ _ _ :: _) _ _ :: _ => b
  | _ => []
noncomputable def sldHandlerP : { s : List Stmt // rawSldH = s } := ⟨_, by
  conv => lhs; whnf; dsimp only⟩
noncomputable def sldHandler : List Stmt := sldHandlerP.1
theorem fr_back {h₀ h : Heap} {L : Addr} {m : Str → Option Value} (ps : List (Str × Value)) (hk : ∀ p ∈ ps, m p.1 = some p.2) (F : Fr h₀ L h (kstB m ps)) : Fr h₀ L h m := by
  have e : kstB m ps = m := by
    funext y
    exact kstB_eq hk fun _ => rfl
  rw [e] at F; exact F
noncomputable abbrev sldEnv (L : Addr) (cdv : Value) : Env := envOf (Str.ofString "sorted_list_difference") sldScope L 21 cdv
end Tv
local macro_rules | `(tactic| walk_at "subscriptTail Name Slice ref ref") => `(tactic| (k_dflt (refine' slice_from ?F ?N ?m ?i ?o ?l ?_; (case F | N => k_asm); (case m => k_mem); (case i | o | l => assumption)); intro D' ws' h' F' N' l1 hI' hC'))
local macro_rules | `(tactic| walk_at "call builtin:list.extend") => `(tactic| ((with_reducible rename Fresh _ _ => l1X); k_dflt (refine' ext_U ?F ?N (UpdF.tail ?a (UpdF.tail ?b (UpdF.head ?c))) ?d ?hi ?hj ?_ ?z; (case F | N => k_asm); (case d => k_mem); (case a => exact Nat.ne_of_gt (l1X _ (.tail _ (.head _)))); (case b => exact Ne.symm (by assumption)); (case c | hi | hj => assumption); (case z => omega)); (have nDX := Nat.ne_of_gt (l1X _ (.head _))); clear l1X; intro h7 n7 F7 N7 I7; (try simp only [List.toList_toArray] at N7 I7)))
local macro_rules | `(tactic| walk_at "call builtin:list.extend") => `(tactic| ((with_reducible rename Fresh _ _ => l1X); k_dflt (refine' ext_U ?F ?N (UpdF.tail ?a (UpdF.tail ?b (UpdF.head ?c))) ?d ?hi ?hj ?_ ?z; (case F | N => k_asm); (case d => k_mem); (case a => exact Nat.ne_of_gt (l1X _ (.tail _ (.head _)))); (case b => assumption); (case c => exact ap_cons (by assumption) (by assumption)); (case hi | hj => assumption); (case z => omega)); (have nDX := Nat.ne_of_gt (l1X _ (.head _))); clear l1X; intro h7 n7 F7 N7 I7; (try simp only [List.toList_toArray] at N7 I7)))
theorem Tv.sld_handler {w : World} {A : Around} {h₀ : Heap} {L' : Nat} {cdv : Value} {s : Shared} {news : List (Addr × Obj)} {m : Str → Option Value} {Q : Flow → Shared → Prop} {E : Value → Shared → Prop} {a1 a2 lM lU : Nat} {k1 k2 km ku : Nat} {xv yv vm vu : List Value} {xs ys ms us : List Int} {i j : Int} {ti tj : Tok}
    (F : Fr h₀ L' s.heap m) (N : News h₀ L' s.heap ((lU, listOf vu.toArray ku) :: (lM, listOf vm.toArray km) :: (a1, listOf xv.toArray k1) :: (a2, listOf yv.toArray k2) :: news))
    (hm1 : m (Str.ofString "expected") = some (.ref a1)) (hm2 : m (Str.ofString "actual") = some (.ref a2)) (hm3 : m (Str.ofString "i") = some (.int i ti)) (hm4 : m (Str.ofString "j") = some (.int j tj)) (hm5 : m (Str.ofString "missing") = some (.ref lM)) (hm6 : m (Str.ofString "unexpected") = some (.ref lU))
    (hx : IntsAre xv xs) (hy : IntsAre yv ys) (hM : IntsAre vm ms) (hU : IntsAre vu us) (hxl : xs.length ≤ 64) (hyl : ys.length ≤ 64) (hml : ms.length ≤ 64) (hul : us.length ≤ 64) (hi0 : 0 ≤ i) (hj0 : 0 ≤ j)
    (nMU : lM ≠ lU) (nM : ∀ p ∈ (a1, listOf xv.toArray k1) :: (a2, listOf yv.toArray k2) :: news, p.1 ≠ lM) (nU : ∀ p ∈ (a1, listOf xv.toArray k1) :: (a2, listOf yv.toArray k2) :: news, p.1 ≠ lU)
    (hQ : ∀ h' tk km ku vm vu, Fr h₀ L' h' m → News h₀ L' h' ((lU, listOf vu.toArray ku) :: (lM, listOf vm.toArray km) :: (a1, listOf xv.toArray k1) :: (a2, listOf yv.toArray k2) :: news) → IntsAre vm (ms ++ xs.drop i.toNat) → IntsAre vu (us ++ ys.drop j.toNat) → Q .brk { s with heap := h', toks := tk }) :
    wpAny (model Challenge.rw_tv0010_01.row.prog w) A (execs sldHandler (sldEnv L' cdv)) Q E s := by
  k_with_none
  have F2 := fr_norm [(Str.ofString "expected", .ref a1), (Str.ofString "actual", .ref a2), (Str.ofString "i", .int i ti), (Str.ofString "j", .int j tj), (Str.ofString "missing", .ref lM), (Str.ofString "unexpected", .ref lU)]
    (by intro p hp; simp only [List.mem_cons, List.not_mem_nil, or_false] at hp; rcases hp with rfl | rfl | rfl | rfl | rfl | rfl <;> assumption) F
  clear F
  dsimp only [kstB] at F2
  dsimp only [sldHandler, sldHandlerP]
  k_steps
  refine hQ _ _ _ _ _ _ (fr_back [(Str.ofString "expected", .ref a1), (Str.ofString "actual", .ref a2), (Str.ofString "i", .int i ti), (Str.ofString "j", .int j tj), (Str.ofString "missing", .ref lM), (Str.ofString "unexpected", .ref lU)]
    (by intro p hp; simp only [List.mem_cons, List.not_mem_nil, or_false] at hp; rcases hp with rfl | rfl | rfl | rfl | rfl | rfl <;> assumption) (by assumption)) (news_sub (by assumption) fun p hp => .tail _ (.tail _ hp)) (by assumption) (by assumption)
end

section
open PySem PySem.W PyProof.Rows PySem.Spec Tv
namespace Tv
noncomputable def rawSldF : List Stmt := match rawSldBody with
  | _ :: _ :: _ :: .While _ (.Try (_ :: _ :: .If _ _ (.If _ _ (_ :: .Try _ _ _ f _ :: _) _ :: _) _ :: _) _ _ _ _ :: _) _ _ :: _ => f
  | _ => []
noncomputable def sldFinalP : { s : List Stmt // rawSldF = s } := ⟨_, by
  conv => lhs; whnf; dsimp only⟩
noncomputable def sldFinal : List Stmt := sldFinalP.1
theorem item_two_in {prog : Program} {w : World} {A : Around} {E : Value → Shared → Prop} {s : Shared} {value slice : PySem.Expr} {l e0 : Nat} {o0 : Obj} {vs0 : Array Value} {vs : List Value} {ns : List Int} {k : Int} {u : Tok} {Q : Value → Shared → Prop} {h₀ : Heap} {L : Addr} {news : List (Addr × Obj)} {kk : Nat} (N : News h₀ L s.heap news) (hm : (l, listOf vs.toArray kk) ∈ news) (hi : IntsAre vs ns) (h0 : 0 ≤ k) (hl : ns.length ≤ 64) (hk : k ≤ ns.length) (hA : A.handled = some (.ref e0))
    (hme : (e0, o0) ∈ news) (hd0 : o0.data = .fields vs0) (h02 : vs0[2]? = some .none)
    (hin : k < ns.length → ∀ t, Q (.int (ns.getD k.toNat 0) t) s)
    (hout : k = ns.length → ∀ h' tk e, NewExcIn s.heap h' e "IndexError" e0 → E (.ref e) { s with heap := h', toks := tk })
    (hs : subscripted slice false (.ref l) (.int k u) = operate [.ref l, .int k u] (getItem (.ref l) (.int k u))) :
    wpAny (model prog w) A (subscriptTail value slice (.ref l) (.int k u)) Q E s := by
  have hvl := hi.length
  by_cases h : k < ns.length
  · exact ksa_sub N hm hi h0 h (by omega) (hin h) hs
  · refine item_out_in hA (N _ hme).1 hd0 h02 (PySem.IsL.isList (n := kk) (N _ hm).1) h0 (by rw [List.size_toArray]; omega) (by omega) (hout (by omega)) hs
theorem st_go {ys R : List Int} {j e : Int} (h : (ys.drop j.toNat).dropWhile (fun x => x == e) = R) (h0 : 0 ≤ j) (h1 : j < ys.length) (he : ys.getD j.toNat 0 = e) : (ys.drop (j + 1).toNat).dropWhile (fun x => x == e) = R := by
  rw [← eat h0 h1 he]; exact h
theorem fr_jback {h₀ h : Heap} {L : Addr} {m kU : Str → Option Value} {v va v1 v2 v3 : Value} (h1 : m (Str.ofString "actual") = some v2) (h2 : m (Str.ofString "a") = some va) (F : Fr h₀ L h (fun z => if z = Str.ofString "j" then some v else if ([] : List Str).contains z = true then kU z else if z = Str.ofString "j" then some v1 else if z = Str.ofString "actual" then some v2 else if z = Str.ofString "a" then some va else if z = Str.ofString "j" then some v3 else m z)) :
    Fr h₀ L h (fun z => if z = Str.ofString "j" then some v else m z) := by
  have e : (fun z => if z = Str.ofString "j" then some v else if ([] : List Str).contains z = true then kU z else if z = Str.ofString "j" then some v1 else if z = Str.ofString "actual" then some v2 else if z = Str.ofString "a" then some va else if z = Str.ofString "j" then some v3 else m z) = (fun z => if z = Str.ofString "j" then some v else m z) := by
    funext z
    by_cases q : z = Str.ofString "j"
    · rw [if_pos q, if_pos q]
    · rw [if_neg q, if_neg q, if_neg (by simp), if_neg q]
      by_cases q2 : z = Str.ofString "actual"
      · rw [if_pos q2, if_neg q, q2, h1]
      · rw [if_neg q2]
        by_cases q3 : z = Str.ofString "a"
        · rw [if_pos q3, if_neg q, q3, h2]
        · rw [if_neg q3, if_neg q]
  rw [← e]; exact F
end Tv
local macro_rules | `(tactic| walk_at "exec While") => `(tactic| (refine Hold.out ?_))
local macro_rules | `(tactic| walk_at "subscriptTail Name Name ref int") => `(tactic| ((with_reducible show wpAny _ _ (subscriptTail _ _ (Value.ref _) (Value.int _ _)) _ _ _); k_dflt (refine' item_two_in ?k1 ?k2 ?k3 ?k4 ?k5 ?k6 ?k7 ?m1 ?m2 ?m3 ?_ ?_ ?k8; (case k1 => k_asm); (case k2 => first | k_mem | exact List.Mem.tail _ (List.Mem.tail _ (by assumption))); (case k3 => with_reducible assumption); (case k4 => omega); (case k5 => assumption); (case k6 => omega); (case k7 => rfl); (case m1 => exact List.Mem.tail _ (List.Mem.head _)); (case m2 | m3 => assumption); (case k8 => with_unfolding_all rfl)); intro hio; intros))
theorem Tv.sld_final {w : World} {A : Around} {h₀ : Heap} {L' e : Nat} {cdv : Value} {s : Shared} {lst : List (Addr × Obj)} {m : Str → Option Value} {Q : Flow → Shared → Prop} {E : Value → Shared → Prop} {a2 : Nat} {k2 : Nat} {yv : List Value} {ys : List Int} {a j : Int} {ta tj : Tok}
    (KX : (tvhd.heap_39 w.params).In h₀)
    (H : Live h₀ L' s.heap m e "IndexError" .none .none lst) (ha2 : (a2, listOf yv.toArray k2) ∈ lst)
    (hm2 : m (Str.ofString "actual") = some (.ref a2)) (hm3 : m (Str.ofString "a") = some (.int a ta)) (hm4 : m (Str.ofString "j") = some (.int j tj))
    (hy : IntsAre yv ys) (hyl : ys.length ≤ 64) (hj0 : 0 ≤ j) (hj1 : j < ys.length)
    (hP : PassesOwn (model Challenge.rw_tv0010_01.row.prog w) (A.mark (some (Value.ref e))) (sldEnv L' cdv) E)
    (hQ : ∀ h' tk tj j', Live h₀ L' h' (fun z => if z = Str.ofString "j" then some (.int j' tj) else m z) e "IndexError" .none .none lst → j + 1 ≤ j' → j' ≤ ys.length → (ys.drop (j + 1).toNat).dropWhile (· == a) = ys.drop j'.toNat → Q .next { s with heap := h', toks := tk })
    (hE : ∀ h1 h' tk tj j' e2, Live h₀ L' h1 (fun z => if z = Str.ofString "j" then some (.int j' tj) else m z) e "IndexError" .none .none lst → j + 1 ≤ j' → j' = ys.length → (ys.drop (j + 1).toNat).dropWhile (· == a) = ys.drop j'.toNat → NewExcIn h1 h' e2 "IndexError" e → E (.ref e2) { s with heap := h', toks := tk }) :
    wpAny (model Challenge.rw_tv0010_01.row.prog w) (A.mark (some (.ref e))) (execs sldFinal (sldEnv L' cdv)) Q E s := by
  k_with_none
  obtain ⟨tb, otb, ob, ts, vs, H⟩ := H
  have F2 := fr_norm [(Str.ofString "actual", .ref a2), (Str.ofString "a", .int a ta), (Str.ofString "j", .int j tj)]
    (by intro p hp; simp only [List.mem_cons, List.not_mem_nil, or_false] at hp; rcases hp with rfl | rfl | rfl <;> assumption) H.fr
  have N := H.led
  have hd := H.data
  have h2 := H.f2
  dsimp only [kstB] at F2
  dsimp only [sldFinal, sldFinalP]
  obtain ⟨R, hR⟩ : ∃ R, (ys.drop (j + 1).toNat).dropWhile (· == a) = R := ⟨_, rfl⟩
  rw [hR] at hQ hE
  k_with "state" => first
    | exact ⟨by omega, by omega, st_go (by assumption) (by omega) (by assumption) (by assumption)⟩
    | exact ⟨Int.le_refl _, by omega, by assumption⟩
  k_with "measure" => omega
  k_steps
  with_reducible refine Hold.mk ?_
  k_while_given ["a", "j!"] (fun a j0 _ j => j0 ≤ j ∧ j ≤ ys.length ∧ (ys.drop j.toNat).dropWhile (· == a) = R) (fun _ _ _ j => ys.length - j.toNat) "j"
  k_steps
  · rename Fr _ _ _ _ => F5
    rename News _ _ _ _ => N5
    refine hQ _ _ _ _ ⟨tb, otb, ob, ts, vs, ⟨fr_jback hm2 hm3 F5, N5, H.cls, H.data, H.f1, H.f2, H.tdata, H.t3, H.ne, H.ap⟩⟩ (by assumption) (by assumption) ?_
    rw [← stay (by omega) (by assumption) (by assumption)]
    exact Eq.symm (by assumption)
  · rename Fr _ _ _ _ => F5
    rename News _ _ _ _ => N5
    refine hE _ _ _ _ _ _ ⟨tb, otb, ob, ts, vs, ⟨fr_jback hm2 hm3 F5, N5, H.cls, H.data, H.f1, H.f2, H.tdata, H.t3, H.ne, H.ap⟩⟩ (by assumption) (by assumption) ?_ (by assumption)
    rw [← gone (by assumption)]
    exact Eq.symm (by assumption)
end

section
open PySem PySem.W PyProof.Rows PySem.Spec Tv
local macro_rules | `(tactic| walk_at "exec While") => `(tactic| (refine Hold.out ?_))
local macro_rules | `(tactic| walk_at "call builtin:list.append") => `(tactic| (k_here; k_dflt (refine' app_U ?k1 ?k2 (UpdF.head ?b) ?hi ?_ ?z; (case k1 | k2 => k_asm); (case b => exact ap_cons (by assumption) (by assumption)); (case hi => assumption); (case z => omega)); intro h7 F7 N7 I7))
local macro_rules | `(tactic| walk_at "call builtin:list.append") => `(tactic| (k_here; k_dflt (refine' app_U ?k1 ?k2 (UpdF.tail ?a (UpdF.head ?b)) ?hi ?_ ?z; (case k1 | k2 => k_asm); (case a => exact Ne.symm (by assumption)); (case b | hi => assumption); (case z => omega)); intro h7 F7 N7 I7))
local macro_rules | `(tactic| walk_at "subscriptTail Name Name ref int") => `(tactic| ((with_reducible show wpAny _ _ (subscriptTail _ _ (Value.ref _) (Value.int _ _)) _ _ _); refine Hold.out ?_))
local macro_rules | `(tactic| walk_at "subscriptTail Name Name ref int") => `(tactic| (k_here; (with_reducible show wpAny _ _ (subscriptTail _ _ (Value.ref _) (Value.int _ _)) _ _ _); k_dflt (refine' item_two ?k1 ?k2 ?k3 ?k4 ?k5 ?k6 ?k7 ?_ ?_ ?k8; (case k1 => k_asm); (case k2 => k_mem); (case k3 => with_reducible assumption); (case k4 => omega); (case k5 => assumption); (case k6 => omega); (case k7 => rfl); (case k8 => with_unfolding_all rfl)); intro hio; intros))
local macro_rules | `(tactic| walk_at "noteFrame ref") => `(tactic| (k_here; (with_reducible rename Live _ _ _ _ _ _ _ _ _ => lvX); refine Live.again lvX rfl ?_))
local macro_rules | `(tactic| walk_at "noteFrame ref") => `(tactic| (k_here; (with_reducible rename Heap.NewExc _ _ _ _ => xX); (with_reducible rename TI.Frs _ _ => fsX); k_dflt (refine' note_new (NewIn.of xX) ?r fsX ?k1 (news_rot4 ?k2) ?k3 ?_ ?r2; (case r => rfl); (case k1 | k2 => k_asm); (case k3 => exact ap_cons (by assumption) (ap_cons (by assumption) (by assumption))); (case r2 => rfl)); clear xX fsX; intro h5 sl5 Fs5 H5))
local macro_rules | `(tactic| walk_at "setFlight ref") => `(tactic| (refine Hold.out ?_))
local macro_rules | `(tactic| walk_at "setFlight ref") => `(tactic| (k_here; (with_reducible rename Live _ _ _ _ _ _ _ _ _ => lvX); k_dflt (refine' Live.caught lvX ?k1 ?k2 ?k3 PyProof.Rows.Boot.«IndexError» ?k4 PySem.F.isExc_IndexError PySem.F.notTuple_IndexError (isSubtype_of_subB (b := true) ?k5) ?_ ?kc ?kd ?ke ?kf; (case k1 | k2 => assumption); (case k3 => k_is); (case k4 => decide); (case k5 => decide +kernel); (case kc | kd => rfl); (case ke => decide); (case kf => passes_own)); clear lvX; intro h6 F6 N6; (replace N6 := news_back4 N6); k_dflt (refine' sld_handler F6 N6 ?m1 ?m2 ?m3 ?m4 ?m5 ?m6 ?hx ?hy ?hM ?hU ?xl ?yl ?ml ?ul ?i0 ?j0 ?nMU ?nM ?nU ?_; (case m1 | m2 | m3 | m4 | m5 | m6 => rfl); (case hx | hy | hM | hU | xl | yl => assumption); (case ml => (first | omega | (simp only [List.length_append, List.length_singleton]; omega))); (case ul => (first | omega | (simp only [List.length_append, List.length_singleton]; omega))); (case i0 | j0 => omega); (case nMU => assumption); (case nM | nU => solve_by_elim)); clear F6 N6; intro h7 tk7 km7 ku7 vm7 vu7 F7 N7 I7 J7; (have ij7 := And.intro I7 J7); clear I7 J7))
theorem Tv.sld_ct {w : World} {loose : List Str} {mean : ExcName → Option Value} {mg mb : Str → Option Value} {h₀ : Heap} {L fa : Nat} {cdv : Value} {s : Shared} {news : List (Addr × Obj)} {m : Str → Option Value} {Q E : Value → Shared → Prop} {a1 a2 : Nat} {k1 k2 : Nat} {xv yv : List Value} {xs ys : List Int}
    (K0 : Below callerA h₀ [] h₀) (F : Fr h₀ L s.heap m) (KX : (tvhd.heap_39 w.params).In h₀) (N : News h₀ L s.heap ((a1, listOf xv.toArray k1) :: (a2, listOf yv.toArray k2) :: news)) (T : Top tvhd.view_39 loose mean mg mb h₀)
    (hx : IntsAre xv xs) (hy : IntsAre yv ys) (hxl : xs.length ≤ 64) (hyl : ys.length ≤ 64)
    (hret : ∀ h' tk (t lM lU : Nat) km ku vm vu, Fr h₀ L h' m → News h₀ L h' ((t, { cls := Value.type "tuple", data := Data.seq #[Value.ref lM, Value.ref lU] }) :: (lU, listOf vu.toArray ku) :: (lM, listOf vm.toArray km) :: (a1, listOf xv.toArray k1) :: (a2, listOf yv.toArray k2) :: news) →
      IntsAre vm (sld xs ys [] []).1 → IntsAre vu (sld xs ys [] []).2 → lM < lU ∧ lU < t ∧ a1 < lM ∧ a2 < lM → (∀ p ∈ news, p.1 < lM) → Q (.ref t) { s with heap := h', toks := tk }) :
    wpAny (model Challenge.rw_tv0010_01.row.prog w) (callerA.deeper (envOfC (Str.ofString "law") lawScope L fa cdv)) (call (.ref 21) [.ref a1, .ref a2]) Q E s := by
  k_with_none
  revert KX; k_fill; intro KX
  refine wpAny_call ?_
  refine' enter_try (ce := lawEnv L fa cdv) F KX N T (by rfl) ?kd ?k8 ?k9 ?kd2 ?k10 ?k11 ?_ ?c2 ?c3 ?c4 ?c5
  case k8 => k_is
  case k9 => k_is
  case k10 => exact BindsTo.of_eq rfl
  case k11 => exact locs rfl
  case c2 => rfl
  case c3 => rfl
  case c4 => rfl
  case c5 => decide
  case kd => exact (by decide : lawScope.kind ≠ ScopeKind.module)
  case kd2 => exact (by decide : callerA.depth + 1 < recursionLimit)
  intro L' oL h₁ C Fs hne hlt hLL F1 N1
  dsimp only at F1 ⊢
  dsimp only [List.cons_append] at N1
  try k_fold
  change wpAny _ ((callerA.deeper (lawEnv L fa cdv)).deeper (sldEnv L' _)) (execs _ (sldEnv L' _)) _ _ _
  k_steps
  refine Hold.mk ?_
  obtain ⟨R, hR⟩ : ∃ R, sld xs ys [] [] = R := ⟨_, rfl⟩
  first
    | (rename_i lM _ l1M _ _ lU _ l1U _ _ _; obtain ⟨l1, l2, l3⟩ := l1M; obtain ⟨l4, l5, l6, l7⟩ := l1U; have hl3 : ∀ p ∈ news, p.1 < lM := fun p hp => allLt_mem l3 p (List.mem_append_left _ hp); have nMU : lM ≠ lU := Nat.ne_of_lt l4)
    | (rename_i lM _ l1M _ lU _ l1U _ _ _; obtain ⟨l1, l2, l3⟩ := l1M; obtain ⟨l4, l5, l6, l7⟩ := l1U; have hl3 : ∀ p ∈ news, p.1 < lM := fun p hp => allLt_mem l3 p (List.mem_append_left _ hp); have nMU : lM ≠ lU := Nat.ne_of_lt l4)
  have nM : ∀ o, ∀ p ∈ (a1, W.listOf xv.toArray k1) :: (a2, W.listOf yv.toArray k2) :: (L, o) :: news, p.1 ≠ lM := by
    intro o p hp
    have hL := allLt_mem l3 (L, oL) (List.mem_append_right _ (.head _))
    rcases List.mem_cons.mp hp with rfl | hp
    · exact Nat.ne_of_lt l1
    rcases List.mem_cons.mp hp with rfl | hp
    · exact Nat.ne_of_lt l2
    rcases List.mem_cons.mp hp with rfl | hp
    · exact Nat.ne_of_lt hL
    · exact Nat.ne_of_lt (allLt_mem l3 p (List.mem_append_left _ hp))
  have nU : ∀ o, ∀ p ∈ (a1, W.listOf xv.toArray k1) :: (a2, W.listOf yv.toArray k2) :: (L, o) :: news, p.1 ≠ lU := by
    intro o p hp
    have hL := allLt_mem l7 (L, oL) (List.mem_append_right _ (.head _))
    rcases List.mem_cons.mp hp with rfl | hp
    · exact Nat.ne_of_lt l5
    rcases List.mem_cons.mp hp with rfl | hp
    · exact Nat.ne_of_lt l6
    rcases List.mem_cons.mp hp with rfl | hp
    · exact Nat.ne_of_lt hL
    · exact Nat.ne_of_lt (allLt_mem l7 p (List.mem_append_left _ hp))
  have nML : lM ≠ L := Nat.ne_of_gt (allLt_mem l3 (L, oL) (List.mem_append_right _ (.head _)))
  have nUL : lU ≠ L := Nat.ne_of_gt (allLt_mem l7 (L, oL) (List.mem_append_right _ (.head _)))
  have nne : ∀ p ∈ (a1, W.listOf xv.toArray k1) :: (a2, W.listOf yv.toArray k2) :: news, p.1 ≠ L := TLg.AllNe.mem hne
  have nM0 := nM oL
  have nU0 := nU oL
  k_with "state" => first
    | exact ⟨Int.le_refl _, by omega, st_lt (by assumption) (by omega) (by omega) (by omega) (by omega) (by assumption)⟩
    | exact ⟨Int.le_refl _, by omega, st_gt (by assumption) (by omega) (by omega) (by omega) (by omega) (by assumption)⟩
    | exact ⟨Int.le_refl _, by omega, st_eq (by assumption) (by omega) (by omega) (by omega) (by omega) (by omega)⟩
    | exact ⟨by omega, by omega, st_eat (by assumption) (by omega) (by omega) (by assumption)⟩
    | exact ⟨by omega, by omega, st_eat' (by assumption) (by omega) (by omega) (by assumption)⟩
    | exact ⟨Int.le_refl _, by omega, st_stay (by assumption) (by omega) (by omega) (by assumption)⟩
    | exact ⟨Int.le_refl _, by omega, st_gone (by assumption) (by assumption)⟩
    | (refine ⟨?_, ?_, ?_, ?_, ?_, ?_, ?_⟩; omega; omega; omega; omega; (first | exact len1 (by assumption) (by assumption) | omega); (first | exact len1 (by assumption) (by assumption) | omega); (first | exact st_stay (by assumption) (by omega) (by omega) (by assumption) | exact st_stay' (by assumption) (by omega) (by omega) (by assumption)))
    | exact ⟨Int.le_refl _, Int.le_refl _, by omega, by omega, Int.le_refl _, Int.le_refl _, by assumption⟩
  k_with "measure" => first | with_reducible exact ms_one (by assumption) (by omega) | with_reducible exact ms_left (by assumption) (by omega) (by assumption) | with_reducible exact ms_right (by assumption) (by omega) (by assumption) | with_reducible exact ms_both (by assumption) (by assumption) (by omega) (by omega) (by assumption) (by assumption) | omega
  k_while (fun _ i j ms us => 0 ≤ i ∧ 0 ≤ j ∧ i ≤ xs.length ∧ j ≤ ys.length ∧ (ms.length : Int) ≤ i ∧ (us.length : Int) ≤ j ∧ sld (xs.drop i.toNat) (ys.drop j.toNat) ms us = R) (fun _ i j _ _ => (xs.length - i.toNat) + (ys.length - j.toNat)) "i" "j" "missing" "unexpected"
  k_steps
  all_goals (try with_reducible refine Hold.mk ?_)
  focus
    k_while_given ["e", "j", "missing", "unexpected", "i!"] (fun e j ms us i0 _ i => i0 ≤ i ∧ i ≤ xs.length ∧ sld ((xs.drop i.toNat).dropWhile (· == e)) (ys.drop j.toNat) ms us = R) (fun _ _ _ _ _ _ i => xs.length - i.toNat) "i"
    k_steps
  rotate_left 1
  focus
    k_while_given ["a", "i", "missing", "unexpected", "j!"] (fun a i ms us j0 _ j => j0 ≤ j ∧ j ≤ ys.length ∧ sld (xs.drop i.toNat) ((ys.drop j.toNat).dropWhile (· == a)) ms us = R) (fun _ _ _ _ _ _ j => ys.length - j.toNat) "j"
    k_steps
  rotate_left 1
  focus
    k_while_given ["e", "a", "j", "missing", "unexpected", "i!"] (fun e a j ms us i0 _ i => i0 ≤ i ∧ i ≤ xs.length ∧ sld ((xs.drop i.toNat).dropWhile (· == e)) ((ys.drop (j + 1).toNat).dropWhile (· == a)) ms us = R) (fun _ _ _ _ _ _ _ i => xs.length - i.toNat) "i"
    k_steps
    focus
      with_reducible refine Hold.mk ?_
      k_while_given ["a", "i", "missing", "unexpected", "j!"] (fun a i ms us j0 _ j => j0 ≤ j ∧ j ≤ ys.length ∧ sld (xs.drop i.toNat) ((ys.drop j.toNat).dropWhile (· == a)) ms us = R) (fun _ _ _ _ _ _ j => ys.length - j.toNat) "j"
      k_steps
      show wpAny _ _ (noteFrame (.ref _) _) _ _ _
      k_steps
      with_reducible rename Live _ _ _ _ _ _ _ _ _ => H4
      refine Live.came H4 rfl fun h5 H5 => ?_
      dsimp only
      clear H4
      k_steps
    rotate_left 1
    focus
      with_reducible refine Hold.mk ?_
      with_reducible rename Live _ _ _ _ _ _ _ _ _ => H5
      refine H5.fly fun h' H' => ?_
      clear H5
      refine sld_final (a2 := a2) (ys := ys) (yv := yv) (k2 := k2) KX H' (by k_mem) (by rfl) (by rfl) (by rfl) hy hyl (by omega) (by omega) (by passes_own) ?_ ?_
      all_goals clear H'
      focus
        intro h'' tk' tj' j' H'' b1 b2 b3
        rename sld (List.dropWhile _ _) _ _ _ = _ => hsl
        rw [b3] at hsl
        have hz := st_gone hsl (by assumption)
        clear hsl b3
        dsimp only
        refine Live.passOn H'' rfl fun h3 H3 => ?_
        clear H''
        dsimp only
        k_steps
      rotate_left 1
      focus
        intro h1 h'' tk' tj' j' e2 H'' b1 b2 b3 X
        rename sld (List.dropWhile _ _) _ _ _ = _ => hsl
        rw [b3] at hsl
        have hz := st_gone hsl (by assumption)
        clear hsl b3
        (with_reducible rename TI.Frs _ _ => fsX)
        show wpAny _ _ (noteFrame (.ref e2) _) _ _ _
        refine note_new (NewIn.of_in X) rfl fsX H''.rest.1 H''.rest.2 (ap_cons (by assumption) (ap_cons (by assumption) (by assumption))) ?_ rfl
        clear H'' X
        intro h4 sl4 Fs4 H4
        refine Live.came H4 rfl fun h5 H5 => ?_
        dsimp only
        clear H4
        k_steps
  all_goals (
    (show TI.LeaveI _ (Q (Value.ref _) _))
    (rename _ ∧ _ ∧ _ ∧ _ ∧ _ ∧ AllLt _ _ => l9)
    refine sld_out C (by assumption) (by assumption) l9.2.2.2.2.1 nUL nML hne ?_
    intro F9 N9
    (rename IntsAre _ _ ∧ IntsAre _ _ => ij7)
    have z := sld_end ij7.1 ij7.2 (by first | assumption | exact st_gone (by assumption) (by assumption) | exact st_gone' (by assumption) (by assumption)) (by first | exact Or.inl (by assumption) | exact Or.inr (by assumption)) 
    subst hR
    exact hret _ _ _ _ _ _ _ _ _ F9 N9 z.1 z.2 ⟨l4, l9.1, l1, l2⟩ hl3)
end

section
open PySem PySem.W PyProof.Rows Tv
namespace Tv
/-- told at x: the rest there is the larger one -/
noncomputable def toldB (rs : List Int) (n x : Int) : Bool := rs.getD (n - x).toNat 0 < rs.getD x.toNat 0
noncomputable def lowP (rs : List Int) (n place : Int) (pre : List Int) : Int := ((pre.filter (toldB rs n)).map fun x => (2 : Int) ^ (place + x - 1).toNat).sum
end Tv
end

section
open PySem PySem.W PyProof.Rows Tv
namespace Tv
open Builtin.Str StrLaws
theorem join_one (y w : Str) : Str.join y [w] = w := rfl
theorem join_two (y w v : Str) (r : List Str) : Str.join y (w :: v :: r) = w ++ y ++ Str.join y (v :: r) := rfl
theorem app_list (x y : Str) : (x ++ y).cps.toList = x.cps.toList ++ y.cps.toList := by
  show (x.cps ++ y.cps).toList = _
  simp
theorem len_list (x : Str) : x.length = x.cps.toList.length := by simp [Str.length]
theorem at_iff {x y : Str} {k : Nat} : At x y x.length k ↔ ∃ r, x.cps.toList.drop k = y.cps.toList ++ r ∧ k + y.length ≤ x.length := by
  unfold At
  rw [subAt_eq]
  constructor
  · rintro ⟨h1, h2⟩
    have h3 := eq_of_beq h2
    refine ⟨(x.cps.toList.drop k).drop y.length, ?_, h1⟩
    rw [← h3, List.take_append_drop]
  · rintro ⟨r, h1, h2⟩
    refine ⟨h2, ?_⟩
    rw [h1]
    exact beq_iff_eq.mpr (by rw [len_list y, List.take_left'] ; rfl)
theorem parts_join {x y : Str} {c : Nat} {yr : List Nat} (hy : y.cps.toList = c :: yr) : ∀ (ws : List Str) (cuts : List Nat) (a f : Nat), ws ≠ [] → (∀ w ∈ ws, c ∉ w.cps.toList) → a ≤ x.length → x.cps.toList.drop a = (Str.join y ws).cps.toList →
    ChainG x y x.length a cuts f → (∀ k, f ≤ k → ¬ At x y x.length k) → partsFrom x y.length a cuts = ws
  | [], _, _, _, h, _, _, _, _, _ => absurd rfl h
  | [w], cuts, a, f, _, hw, ha, hd, hG, hn => by
    rw [join_one] at hd
    have hno : ∀ k, a ≤ k → ¬ At x y x.length k := by
      intro k hk hA
      obtain ⟨r, h1, _⟩ := at_iff.mp hA
      rw [show k = a + (k - a) from by omega, ← List.drop_drop, hd, hy] at h1
      have : c ∈ w.cps.toList.drop (k - a) := by rw [h1]; simp
      exact hw w (.head _) (List.mem_of_mem_drop this)
    cases cuts with
    | cons d r => exact absurd hG.2.1 (hno d hG.1)
    | nil =>
      show [strSub x a x.length] = [w]
      congr 1
      apply Str.ext'
      apply Array.toList_inj.mp
      rw [strSub_toList, hd]
      have : w.cps.toList.length = x.length - a := by rw [← hd, List.length_drop, ← len_list]
      exact List.take_of_length_le (by omega)
  | w :: v :: r, cuts, a, f, _, hw, ha, hd, hG, hn => by
    rw [join_two, app_list, app_list, List.append_assoc] at hd
    have hlen : x.length - a = w.length + (y.length + (Str.join y (v :: r)).length) := by
      have := congrArg List.length hd
      rw [List.length_drop, ← len_list, List.length_append, List.length_append, ← len_list, ← len_list, ← len_list] at this
      exact this
    have hy1 : 1 ≤ y.length := by rw [len_list, hy]; simp
    have hat : At x y x.length (a + w.length) := by
      refine at_iff.mpr ⟨(Str.join y (v :: r)).cps.toList, ?_, by omega⟩
      rw [← List.drop_drop, hd, len_list w, List.drop_left']
      rfl
    have hno : ∀ k, a ≤ k → k < a + w.length → ¬ At x y x.length k := by
      intro k hk hk2 hA
      obtain ⟨q, h1, _⟩ := at_iff.mp hA
      rw [show k = a + (k - a) from by omega, ← List.drop_drop, hd, hy, List.drop_append_of_le_length (by rw [← len_list]; omega)] at h1
      have hkl : k - a < w.cps.toList.length := by rw [← len_list]; omega
      rw [List.drop_eq_getElem_cons hkl] at h1
      simp only [List.cons_append, List.cons.injEq] at h1
      exact hw w (.head _) (h1.1 ▸ List.getElem_mem hkl)
    cases cuts with
    | nil =>
      have e : f = a := hG
      exact absurd hat (hn _ (by omega))
    | cons d q =>
      obtain ⟨g1, g2, g3, g4⟩ := hG
      have hd2 : d = a + w.length := by
        rcases Nat.lt_trichotomy d (a + w.length) with h | h | h
        · exact absurd g2 (hno d g1 h)
        · exact h
        · exact absurd hat (g3 _ (by omega) h)
      subst hd2
      show strSub x a (a + w.length) :: partsFrom x y.length (a + w.length + y.length) q = w :: v :: r
      congr 1
      · apply Str.ext'
        apply Array.toList_inj.mp
        rw [strSub_toList, hd, show a + w.length - a = w.cps.toList.length from by rw [← len_list]; omega, List.take_left']
        rfl
      · refine parts_join hy (v :: r) q (a + w.length + y.length) f (by simp) (fun u hu => hw u (.tail _ hu)) (by omega) ?_ g4 hn
        rw [← List.drop_drop, ← List.drop_drop, hd, len_list w, List.drop_left' rfl, len_list y, List.drop_left' rfl]
theorem split_join {y : Str} {c : Nat} {yr : List Nat} (hy : y.cps.toList = c :: yr) (hk : Builtin.Str.strKind y = 1) {ws : List Str} (h0 : ws ≠ []) (hw : ∀ w ∈ ws, c ∉ w.cps.toList) : Txt.split (Txt.join y ws) y = ws := by
  have e : Txt.join y ws = Str.join y ws := glued_eq_join y ws
  rw [e]
  generalize hx : Str.join y ws = x
  have hy1 : 1 ≤ y.length := by rw [len_list, hy]; simp
  obtain ⟨f, hG, hn⟩ := occ_tight x y hy1
  have key := parts_join (x := x) hy ws _ 0 f h0 hw (Nat.zero_le _) (by rw [hx, List.drop_zero]) hG hn
  have hone : ∀ cuts f, ChainG x y x.length 0 cuts f → cuts = [] → partsFrom x y.length 0 cuts = [x] := by
    intro cuts f _ hc
    rw [hc]
    show [strSub x 0 x.length] = [x]
    rw [sub_whole]
  unfold Txt.split
  split
  · rename_i hc
    rw [hk, Bool.or_eq_true, decide_eq_true_eq, decide_eq_true_eq] at hc
    rcases hc with hc | hc
    · cases ho : occurrences x y 0 x.length (x.length + 1) with
      | nil => rw [ho] at key hG; rw [← key]; exact (hone _ _ hG rfl).symm
      | cons d r =>
        rw [ho] at hG
        have := hG.2.1.1
        omega
    · unfold Builtin.Str.strKind at hc
      split at hc
      · omega
      · split at hc <;> omega
  · split
    · rename_i ho
      have ho' := List.isEmpty_iff.mp ho
      rw [ho'] at key hG
      rw [← key]; exact (hone _ _ hG rfl).symm
    · rw [partsBetween_eq]; exact key
end Tv
end

section
open PySem PySem.W PyProof.Rows Tv
namespace Tv
theorem bits_abs {i : Int} {B : Nat} (h : Builtin.Int.intBits i ≤ B) : i.natAbs < 2 ^ B := by
  unfold Builtin.Int.intBits at h
  split at h
  · rename_i h0
    have : i = 0 := by simpa using h0
    rw [this]
    exact Nat.pow_pos (by decide)
  · rename_i h0
    have : i.natAbs ≠ 0 := by simpa using h0
    exact (Nat.log2_lt this).mp (by omega)
theorem natSum_le {script : List Int} {M : Nat} (h : ∀ x ∈ script, x.natAbs ≤ M) : natSum script ≤ script.length * M := by
  have := sum_le_mul (b := M) (l := script.map Int.natAbs) (by
    intro x hx
    obtain ⟨y, hy, rfl⟩ := List.mem_map.mp hx
    exact h y hy)
  rwa [List.length_map] at this
theorem abs_fit {script : List Int} {c2 share : Int} {B : Nat} (hl : script.length ≤ 63) (hb : ∀ x ∈ script, Builtin.Int.intBits x ≤ B) (h : c2.natAbs ≤ 82 + natSum script) (hs : share = c2 / 25) : (share * 2 ^ 32).natAbs < 2 ^ (B + 40) := by
  have hM : 1 ≤ 2 ^ B := Nat.pow_pos (by decide)
  have h1 := natSum_le (M := 2 ^ B) fun x hx => Nat.le_of_lt (bits_abs (hb x hx))
  have h2 : script.length * 2 ^ B ≤ 63 * 2 ^ B := Nat.mul_le_mul_right _ hl
  rw [Int.natAbs_mul, Nat.pow_add]
  generalize 2 ^ B = M at *
  have h3 : ((2 : Int) ^ 32).natAbs = 2 ^ 32 := by decide
  rw [h3]
  have h4 : share.natAbs ≤ 146 * M := by omega
  have h5 : (2 : Nat) ^ 40 = 1099511627776 := by decide
  have h6 : (2 : Nat) ^ 32 = 4294967296 := by decide
  rw [h5, h6]
  have h7 : share.natAbs * 4294967296 ≤ 146 * M * 4294967296 := Nat.mul_le_mul_right _ h4
  omega
theorem text_fit {i : Int} {K : Nat} (h : i.natAbs < 16 ^ K) (h1 : 1 ≤ K) (hK : K ≤ 999997) : (baseText "0x" 16 i).length ≤ 1000000 := by
  have h1 := toDigits_len_pow (b := 16) (by decide) h1 h
  unfold baseText
  have h3 : (Str.ofString (if i < 0 then "-" else "")).length ≤ 1 := by
    split <;> (rw [PyProof.Rows.ofString_len]; decide)
  have h4 : (Str.ofString "0x").length = 2 := by decide
  have h5 : ∀ l : List Char, (Str.ofString (String.ofList l)).length = l.length := fun l => ofString_ofList_length l
  rw [Str.length_append, Str.length_append, h4, h5]
  omega
theorem pow_four (K : Nat) : (2 : Nat) ^ (4 * K) = 16 ^ K := by
  rw [Nat.pow_mul]
theorem share_fit {script : List Int} {c2 share : Int} (hlay : (PyData.list (script.map .int)).layable0 = true) (hlen : ¬ ((63 : Nat) : Int) < (script.length : Int)) (h : c2.natAbs ≤ 82 + natSum script) (hs : share = c2 / 25) :
    (baseText "0x" 16 (share * 2 ^ 32)).length ≤ 1000000 := by
  obtain ⟨B, hB⟩ : ∃ B : Nat, B = 2 ^ 20 := ⟨_, rfl⟩
  have hb : ∀ x ∈ script, Builtin.Int.intBits x ≤ B := fun x hx => by rw [hB]; exact PyData.bits_item_of_ints hlay hx
  have := abs_fit (by omega) hb h hs
  have e : B + 40 = 4 * 262154 := by rw [hB]
  obtain ⟨K, hK⟩ : ∃ K : Nat, K = 262154 := ⟨_, rfl⟩
  rw [← hK] at e
  rw [e, pow_four] at this
  exact text_fit this (by omega) (by omega)
/-- the sum of the told bits -/
theorem lowP_snoc (rs : List Int) (n place k : Int) (pre : List Int) : lowP rs n place (pre ++ [k]) = lowP rs n place pre + if toldB rs n k then 2 ^ (place + k - 1).toNat else 0 := by
  unfold lowP
  rw [List.filter_append, List.map_append, List.sum_append]
  cases h : toldB rs n k <;> simp [h]
theorem cmp3_one {a b : Int} : cmp3 a b = 1 ↔ b < a := by
  unfold cmp3
  split
  · simp [*]
  · split <;> simp <;> omega
theorem num_told {rs : List Int} {n place share lift k num : Int} {pre : List Int} (h : num = share * 2 ^ 32 + lowP rs n place pre) (hc : cmp3 (rs.getD k.toNat 0 + lift) (rs.getD (n - k).toNat 0 + lift) = 1) : num + 2 ^ (place + k - 1).toNat = share * 2 ^ 32 + lowP rs n place (pre ++ [k]) := by
  rw [cmp3_lift, cmp3_one] at hc
  rw [lowP_snoc, if_pos (by unfold toldB; exact decide_eq_true hc), h]; omega
theorem num_not {rs : List Int} {n place share lift k num : Int} {pre : List Int} (h : num = share * 2 ^ 32 + lowP rs n place pre) (hc : cmp3 (rs.getD k.toNat 0 + lift) (rs.getD (n - k).toNat 0 + lift) ≠ 1) : num = share * 2 ^ 32 + lowP rs n place (pre ++ [k]) := by
  rw [cmp3_lift, ne_eq, cmp3_one] at hc
  rw [lowP_snoc, if_neg (by unfold toldB; simpa using hc), h]; omega
theorem num_start {rs : List Int} {n place share : Int} : share * 2 ^ Int.toNat 32 = share * 2 ^ 32 + lowP rs n place [] := by
  show _ = _ + 0
  rw [Int.add_zero]; rfl
theorem rangeKs_snoc (a : Int) (k : Nat) : rangeKs a (k + 1) = rangeKs a k ++ [a + k] := by
  unfold rangeKs
  rw [List.range_succ, List.map_append]; rfl
end Tv
end

section
open PySem PySem.W PyProof.Rows Tv
namespace Tv
theorem exp_at {place : Int} {p k : Nat} (h : place = (p : Int)) : (place + (1 + (k : Int)) - 1).toNat = p + k := by omega
theorem low_bound {place : Int} {p : Nat} (hp : place = (p : Int)) (rs : List Int) (n : Int) : ∀ k : Nat, 0 ≤ lowP rs n place (rangeKs 1 k) ∧ lowP rs n place (rangeKs 1 k) < 2 ^ (p + k)
  | 0 => by
    have : (0 : Int) < 2 ^ (p + 0) := Int.pow_pos (by decide)
    exact ⟨Int.le_refl _, this⟩
  | k + 1 => by
    obtain ⟨h0, h1⟩ := low_bound hp rs n k
    have hpos : (0 : Int) < 2 ^ (p + k) := Int.pow_pos (by decide)
    rw [rangeKs_snoc, lowP_snoc, exp_at hp, ← Nat.add_assoc, Int.pow_succ]
    generalize (2 : Int) ^ (p + k) = M at *
    split <;> omega
theorem bit_stay {low : Int} {j m : Nat} (h : j < m) : (low + 2 ^ m) / 2 ^ j % 2 = low / 2 ^ j % 2 := by
  have e : (2 : Int) ^ m = 2 * 2 ^ (m - 1 - j) * 2 ^ j := by
    rw [Int.mul_comm 2, ← Int.pow_succ, ← Int.pow_add]; congr 1; omega
  rw [e, Int.add_mul_ediv_right _ _ (Int.ne_of_gt (Int.pow_pos (by decide)))]
  omega
theorem words_stay {low : Int} {m : Nat} : pfWords (low + 2 ^ m) m = pfWords low m := by
  unfold pfWords
  congr 1
  apply List.filter_congr
  intro j hj
  rw [bit_stay (List.mem_range.mp hj)]
theorem low_words {place : Int} {p : Nat} (hp : place = (p : Int)) (rs : List Int) (n : Int) : ∀ k : Nat, pfWords (lowP rs n place (rangeKs 1 k)) (p + k) = ((rangeKs 1 k).filter (toldB rs n)).map fun x => pfWord (place + x - 1).toNat
  | 0 => by
    show pfWords 0 (p + 0) = []
    unfold pfWords
    have : (List.range (p + 0)).filter (fun j => (0 : Int) / 2 ^ j % 2 == 1) = [] := by
      rw [List.filter_eq_nil_iff]
      intro j _
      simp
    rw [this]; rfl
  | k + 1 => by
    obtain ⟨h0, h1⟩ := low_bound hp rs n k
    have ih := low_words hp rs n k
    have hpos : (0 : Int) < 2 ^ (p + k) := Int.pow_pos (by decide)
    rw [rangeKs_snoc, lowP_snoc, exp_at hp, ← Nat.add_assoc, List.filter_append, List.map_append, ← ih]
    cases hb : toldB rs n (1 + (k : Int))
    · have hd : lowP rs n place (rangeKs 1 k) / 2 ^ (p + k) = 0 := Int.ediv_eq_zero_of_lt h0 h1
      simp only [hb, Bool.false_eq_true, if_false, Int.add_zero, List.filter_cons_of_neg, not_false_eq_true, List.filter_nil, List.map_nil, List.append_nil]
      exact pfWords_zero (by rw [hd]; decide)
    · have hd : (lowP rs n place (rangeKs 1 k) + 2 ^ (p + k)) / 2 ^ (p + k) = 1 := by
        have : lowP rs n place (rangeKs 1 k) + 2 ^ (p + k) = lowP rs n place (rangeKs 1 k) + 1 * 2 ^ (p + k) := by rw [Int.one_mul]
        rw [this, Int.add_mul_ediv_right _ _ (Int.ne_of_gt hpos), Int.ediv_eq_zero_of_lt h0 h1]; rfl
      simp only [hb, if_true, List.filter_cons_of_pos, List.filter_nil, List.map_cons, List.map_nil]
      rw [pfWords_one (by rw [hd]; decide), words_stay, exp_at hp]
theorem low_all {rs : List Int} {n half place : Int} (hp0 : 0 ≤ place) (hp : place ≤ 24) (h0 : 0 ≤ half) (h1 : half ≤ 8) :
    0 ≤ lowP rs n place (rangeKs 1 half.toNat) ∧ lowP rs n place (rangeKs 1 half.toNat) < 2 ^ 32 ∧ pfWords (lowP rs n place (rangeKs 1 half.toNat)) 32 = ((rangeKs 1 half.toNat).filter (toldB rs n)).map fun x => pfWord (place + x - 1).toNat := by
  have e : place = ((place.toNat : Nat) : Int) := by omega
  obtain ⟨a, b⟩ := low_bound e rs n half.toNat
  have c := low_words e rs n half.toNat
  have hle : place.toNat + half.toNat ≤ 32 := by omega
  have b' : lowP rs n place (rangeKs 1 half.toNat) < 2 ^ 32 := Int.lt_of_lt_of_le b (by
    have := Nat.pow_le_pow_right (n := 2) (by decide) hle
    have h2 : ((2 ^ (place.toNat + half.toNat) : Nat) : Int) ≤ ((2 ^ 32 : Nat) : Int) := by exact_mod_cast this
    rw [Int.natCast_pow, Int.natCast_pow] at h2
    exact h2)
  refine ⟨a, b', ?_⟩
  rw [← c]
  have := pf_tail a (i := place.toNat + half.toNat) (32 - (place.toNat + half.toNat)) (Int.ediv_eq_zero_of_lt a b)
  rw [← this]
  congr 1; omega
end Tv
end

section
open PySem PySem.W PyProof.Rows Tv
namespace Tv
theorem strs_drop : ∀ {vs : List Value} {xs : List Str} (k : Nat), StrsAre vs xs → StrsAre (vs.drop k) (xs.drop k)
  | _, _, 0, h => h
  | _, _, _ + 1, .nil => .nil
  | _, _, k + 1, .cons _ _ h => strs_drop k h
theorem strs_take : ∀ {vs : List Value} {xs : List Str} (k : Nat), StrsAre vs xs → StrsAre (vs.take k) (xs.take k)
  | _, _, 0, _ => .nil
  | _, _, _ + 1, .nil => .nil
  | _, _, k + 1, .cons y t h => .cons y t (strs_take k h)
section
variable {w : World} {loose : List Str} {mean : ExcName → Option Value} {mg mb : Str → Option Value} {h₀ : Heap} {L fa : Nat} {cdv : Value} {s : Shared} {news : List (Addr × Obj)} {m : Str → Option Value} {Q E : Value → Shared → Prop} {x y : Int} {tx ty : CbTok}
theorem words_law (K0 : Below callerA h₀ [] h₀) (F : Fr h₀ L s.heap m) (KX : (tvhd.heap_39 w.params).In h₀) (N : News h₀ L s.heap news) (T : Top tvhd.view_39 loose mean mg mb h₀)
    (h : ∀ (D : Nat) vs h' tk', StrsAre vs wordsL → Fr h₀ L h' m → News h₀ L h' ((D, listOf vs.toArray 0) :: news) → (∀ p ∈ news, @LT.lt Nat _ p.1 D) → Q (.ref D) { s with heap := h', toks := tk' }) :
    wpAny (model Challenge.rw_tv0010_01.row.prog w) (callerA.deeper (envOfC (Str.ofString "law") lawScope L fa cdv)) (call (.ref 41) []) Q E s :=
  words_ct K0 F KX N T rfl (by decide) (by decide) h
theorem pf_law {number share low : Int} (K0 : Below callerA h₀ [] h₀) (F : Fr h₀ L s.heap m) (KX : (tvhd.heap_39 w.params).In h₀) (N : News h₀ L s.heap news) (T : Top tvhd.view_39 loose mean mg mb h₀)
    (hn : number = share * 2 ^ 32 + low) (h0 : 0 ≤ low) (h1 : low < 2 ^ 32) (hf : (baseText "0x" 16 (share * 2 ^ 32)).length ≤ 1000000)
    (h : ∀ t h' tk', Fr h₀ L h' m → News h₀ L h' news → Q (.str (Txt.join (Str.ofString ", ") (pfNames share low)) t) { s with heap := h', toks := tk' }) :
    wpAny (model Challenge.rw_tv0010_01.row.prog w) (callerA.deeper (envOfC (Str.ofString "law") lawScope L fa cdv)) (call (.ref 36) [.int number tx]) Q E s := by
  have e : number = pfFlags share low 0 := by
    rw [hn]; unfold pfFlags
    have : low / 2 ^ 0 = low := Int.ediv_one _
    rw [this, show (2 : Int) ^ 0 = 1 from rfl, Int.mul_one]
  subst e
  exact pf_ct K0 F KX N T rfl (by decide) (by decide) h0 h1 hf h
end
section
variable {prog : Program} {w : World} {A : Around} {E : Value → Shared → Prop} {s : Shared}
theorem slice_strs {value slice : PySem.Expr} {l : Nat} {vs : List Value} {xs : List Str} {x y : Int} {u v : Tok} {Q : Value → Shared → Prop} {h₀ : Heap} {L : Addr} {m : Str → Option Value} {news : List (Addr × Obj)} {kk : Nat} (F : Fr h₀ L s.heap m) (N : News h₀ L s.heap news) (hm : (l, listOf vs.toArray kk) ∈ news) (hS : StrsAre vs xs) (h0 : 0 ≤ x) (h1 : x ≤ y) (h2 : y ≤ xs.length) (hl : xs.length ≤ 64)
    (h : ∀ (D : Nat) ws h', Fr h₀ L h' m → News h₀ L h' ((D, listOf (List.toArray ws) 0) :: news) → (∀ p ∈ news, @LT.lt Nat _ p.1 D) → StrsAre ws ((xs.drop x.toNat).take (y.toNat - x.toNat)) → Q (.ref D) { s with heap := h' })
    (hs : subscripted slice false (.ref l) (.ref s.heap.objs.size) = operate [.ref s.heap.objs.size, .ref l] (getItem (.ref l) (.ref s.heap.objs.size)) := by with_unfolding_all rfl) (ht : ∀ r, letTemporaryGo value (.ref l) r = pure () := by (intro _; with_unfolding_all rfl)) :
    wpAny (model prog w) A (subscriptTail value slice (.ref l) (.ref s.heap.objs.size)) Q E { s with heap := s.heap.push { cls := .type "slice", data := .fields #[.int x u, .int y v, .none] } } := by
  have hvl := hS.length
  refine kmk_slice F N (PySem.IsL.isList (n := kk) (N _ hm).1) (IsPart.int _ _) (IsPart.int _ _) (fun D h' F' N' l1 => ?_) hs ht (by rw [List.size_toArray, sizeLine_eq]; omega)
  have e : sliceBounds (some x) (some y) none vs.toArray.size = (((x.toNat : Nat) : Int), ((y.toNat : Nat) : Int), 1) := by
    rw [List.size_toArray]
    simp only [sliceBounds, Option.getD_none, show (1 : Int) > 0 by decide, if_true, if_neg (show ¬ (x < 0) by omega), if_neg (show ¬ (y < 0) by omega)]
    congr 1
    · omega
    · congr 1
      omega
  rw [kmk_pick_nat _ e] at N'
  exact h D _ h' F' N' l1 (strs_take _ (strs_drop _ hS))
end
end Tv
namespace Tv
section
variable {w : World} {loose : List Str} {mean : ExcName → Option Value} {mg mb : Str → Option Value} {h₀ : Heap} {L fa : Nat} {cdv : Value} {s : Shared} {news : List (Addr × Obj)} {m : Str → Option Value} {Q E : Value → Shared → Prop} {x y g : Int} {tx ty : CbTok}
theorem com_law_g (K0 : Below callerA h₀ [] h₀) (F : Fr h₀ L s.heap m) (KX : (tvhd.heap_39 w.params).In h₀) (N : News h₀ L s.heap news) (T : Top tvhd.view_39 loose mean mg mb h₀) (hg : Cm x y = g) (hy : 0 ≤ y)
    (h : ∀ t h' tk', Fr h₀ L h' m → News h₀ L h' news → Q (.int g t) { s with heap := h', toks := tk' }) :
    wpAny (model Challenge.rw_tv0010_01.row.prog w) (callerA.deeper (envOfC (Str.ofString "law") lawScope L fa cdv)) (call (.ref 48) [.int x tx, .int y ty]) Q E s := by
  subst hg
  exact com_law K0 F KX N T hy h
theorem sym_law_g (K0 : Below callerA h₀ [] h₀) (F : Fr h₀ L s.heap m) (KX : (tvhd.heap_39 w.params).In h₀) (N : News h₀ L s.heap news) (T : Top tvhd.view_39 loose mean mg mb h₀) (hg : J (x.fmod y) y 1 = g) (hy : 0 < y)
    (h : ∀ t h' tk', Fr h₀ L h' m → News h₀ L h' news → Q (.int g t) { s with heap := h', toks := tk' }) :
    wpAny (model Challenge.rw_tv0010_01.row.prog w) (callerA.deeper (envOfC (Str.ofString "law") lawScope L fa cdv)) (call (.ref 55) [.int x tx, .int y ty]) Q E s := by
  subst hg
  exact sym_law K0 F KX N T hy h
end
end Tv
end

section
open PySem PySem.W PyProof.Rows Tv
namespace Tv
theorem pfW_comma : ∀ i < 32, 44 ∉ (pfWord i).cps.toList := by decide +kernel
theorem hexDigit_ne : ∀ k < 16, (Nat.digitChar k).toNat ≠ 44 := by decide
theorem core_ne : ∀ (fuel n : Nat) (ds : List Char), (∀ c ∈ ds, c.toNat ≠ 44) → ∀ c ∈ Nat.toDigitsCore 16 fuel n ds, c.toNat ≠ 44
  | 0, n, ds, h => by simpa [Nat.toDigitsCore] using h
  | fuel + 1, n, ds, h => by
    unfold Nat.toDigitsCore
    have h2 : ∀ c ∈ Nat.digitChar (n % 16) :: ds, c.toNat ≠ 44 := by
      intro c hc
      rcases List.mem_cons.mp hc with rfl | hc
      · exact hexDigit_ne _ (Nat.mod_lt _ (by decide))
      · exact h c hc
    simp only
    split
    · exact h2
    · exact core_ne fuel (n / 16) _ h2
theorem digits_ne (n : Nat) : ∀ c ∈ Nat.toDigits 16 n, c.toNat ≠ 44 := core_ne _ _ [] (by simp)
theorem ofString_list (l : List Char) : (Str.ofString (String.ofList l)).cps.toList = l.map Char.toNat := by
  rw [Str.ofString_eq_toList]; simp
theorem hex_list (i : Int) : (baseText "0x" 16 i).cps.toList = (if i < 0 then [45] else []) ++ [48, 120] ++ (Nat.toDigits 16 i.natAbs).map Char.toNat := by
  unfold baseText
  have e1 : (Str.ofString "0x").cps.toList = [48, 120] := by decide +kernel
  have e2 : (Str.ofString (if i < 0 then "-" else "")).cps.toList = if i < 0 then [45] else [] := by split <;> decide +kernel
  rw [app_list, app_list, e1, e2]
  exact congrArg _ (ofString_list _)
theorem hex_comma (i : Int) : 44 ∉ (baseText "0x" 16 i).cps.toList := by
  rw [hex_list]
  intro h
  rcases List.mem_append.mp h with h | h
  · split at h <;> simp at h
  · obtain ⟨c, hc, e⟩ := List.mem_map.mp h
    exact digits_ne _ c hc e
theorem names_comma {share low : Int} : ∀ w ∈ pfNames share low, 44 ∉ w.cps.toList := by
  intro w hw
  unfold pfNames at hw
  rcases List.mem_append.mp hw with hw | hw
  · unfold pfWords at hw
    obtain ⟨j, hj, rfl⟩ := List.mem_map.mp hw
    exact pfW_comma j (List.mem_range.mp (List.mem_filter.mp hj).1)
  · split at hw
    · rw [List.mem_singleton.mp hw]; exact hex_comma _
    · cases hw
theorem names_ne {share low : Int} (h0 : 0 ≤ low) (h1 : low < 2 ^ 32) : pfNames share low ≠ [] := by
  unfold pfNames
  by_cases h : share ≠ 0 ∨ low = 0
  · rw [if_pos h]; simp
  · rw [if_neg h, List.append_nil]
    intro e
    have key : ∀ k : Nat, pfWords low k = [] → low % 2 ^ k = 0 := by
      intro k
      induction k with
      | zero => intro _; omega
      | succ k ih =>
        intro e
        by_cases hb : low / 2 ^ k % 2 = 1
        · rw [pfWords_one hb] at e; simp at e
        · rw [pfWords_zero hb] at e
          have := ih e
          have hp : (0 : Int) < 2 ^ k := Int.pow_pos (by decide)
          have e2 := Int.mul_ediv_add_emod low (2 ^ k)
          rw [this, Int.add_zero] at e2
          have e3 : low / 2 ^ k = 2 * (low / 2 ^ k / 2) := by omega
          rw [e3] at e2
          rw [← e2, Int.pow_succ, ← Int.mul_assoc]
          exact Int.mul_emod_right _ _
    have := key 32 e
    have : low = 0 := by
      have e2 := Int.emod_eq_of_lt h0 h1
      omega
    omega
theorem names_split {share low : Int} (h0 : 0 ≤ low) (h1 : low < 2 ^ 32) : Txt.split (Txt.join (Str.ofString ", ") (pfNames share low)) (Str.ofString ", ") = pfNames share low :=
  split_join (c := 44) (yr := [32]) (by decide) (by decide +kernel) (names_ne h0 h1) names_comma
theorem strs_values : ∀ {l : List (Str × Tok)} {xs : List Str}, l.map (·.1) = xs → StrsAre (strValues l) xs
  | [], _, h => by subst h; exact .nil
  | p :: r, _, h => by subst h; exact .cons _ _ (strs_values rfl)
theorem names_fit {share low : Int} (hf : (baseText "0x" 16 (share * 2 ^ 32)).length ≤ 1000000) : (Txt.join (Str.ofString ", ") (pfNames share low)).length + 2 ≤ sizeLine := by
  have e : (Str.ofString ", ").length = 2 := by decide
  have h1 := pfWords_sum low (i := 32) (by omega)
  have h2 := pfWords_len low 32
  have h3 : (Txt.join (Str.ofString ", ") (pfNames share low)).length ≤ _ := Nat.le_trans (Nat.le_of_eq (congrArg Str.length (StrLaws.glued_eq_join (Str.ofString ", ") (pfNames share low)))) (StrLaws.join_length_le _ _)
  rw [e] at h3
  have h4 : ((pfNames share low).map (·.length)).sum + (pfNames share low).length * 2 ≤ 1000642 := by
    unfold pfNames
    rw [List.map_append, List.sum_append, List.length_append]
    split
    · simp only [List.map_cons, List.map_nil, List.sum_cons, List.sum_nil, List.length_cons, List.length_nil]; omega
    · simp only [List.map_nil, List.sum_nil, List.length_nil]; omega
  rw [sizeLine_eq]
  omega
section
variable {prog : Program} {w : World} {A : Around} {E : Value → Shared → Prop} {s : Shared} {h₀ : Heap} {L : Nat} {m : Str → Option Value} {news : List (Addr × Obj)} {share low : Int} {t u : Tok} {Q : Value → Shared → Prop}
theorem split_law (F : Fr h₀ L s.heap m) (N : News h₀ L s.heap news) (h0 : 0 ≤ low) (h1 : low < 2 ^ 32) (hf : (baseText "0x" 16 (share * 2 ^ 32)).length ≤ 1000000)
    (h : ∀ (D : Nat) ws h' k, StrsAre ws (pfNames share low) → Fr h₀ L h' m → News h₀ L h' ((D, listOf (List.toArray ws) 0) :: news) → (∀ p ∈ news, @LT.lt Nat _ p.1 D) → Q (.ref D) { s with heap := h', toks := k }) :
    wpAny (model prog w) A (call (.builtin "str.split") [.str (Txt.join (Str.ofString ", ") (pfNames share low)) t, .str (Str.ofString ", ") u]) Q E s :=
  splitN1 F N (by decide) (fun l h' k e F' N' => h _ _ h' k (strs_values (e.trans (names_split h0 h1))) F' N' fun p hp => Heap.lt_size (N p hp).1) (names_fit hf)
end
end Tv
end

section
open PySem PySem.W PyProof.Rows Tv
namespace Tv
structure WAt (W : List Str) (place half : Int) : Prop where
  len : (W.length : Int) = half
  at' : ∀ x : Int, 1 ≤ x → x ≤ half → W.getD (x - 1).toNat Str.empty = pfWord (place + x - 1).toNat
theorem wAt {place half : Int} (h0 : 0 ≤ place) (h1 : place ≤ 24) (h2 : 0 ≤ half) (h3 : half ≤ 8) : WAt ((wordsL.drop place.toNat).take half.toNat) place half := by
  have hl : wordsL.length = 32 := by decide
  refine ⟨?_, ?_⟩
  · rw [List.length_take, List.length_drop, hl]; omega
  · intro x hx0 hx1
    unfold pfWord
    have e : (place + x - 1).toNat = place.toNat + (x - 1).toNat := by omega
    rw [e, List.getD_eq_getElem?_getD, List.getD_eq_getElem?_getD, List.getElem?_take_of_lt (by omega), List.getElem?_drop]
    have : place.toNat + (x - 1).toNat < wordsL.length := by omega
    rw [List.getElem?_eq_getElem this]; rfl
theorem range_hi {k half : Int} (h : k < 1 + ((half + 1 - 1).toNat : Int)) (h0 : 0 ≤ half) : k ≤ half := by omega
theorem foldl_filter (p : Int → Bool) : ∀ (xs acc : List Int), xs.foldl (fun l k => if p k = true then l ++ [k] else l) acc = acc ++ xs.filter p
  | [], acc => by simp
  | x :: r, acc => by
    rw [List.foldl_cons, foldl_filter p r]
    cases h : p x <;> simp [h]
theorem pfW_inj : ∀ i < 32, ∀ j < 32, pfWord i = pfWord j → i = j := by decide +kernel
theorem pfW_zero : ∀ i < 32, pfWord i ≠ baseText "0x" 16 0 := by decide +kernel
/-- the first char of a name is a letter; a later word is short -/
theorem pfW_kind : ∀ i < 32, (pfWord i).length ≤ 10 ∨ ((pfWord i).cps.toList.headD 0 ≠ 45 ∧ (pfWord i).cps.toList.headD 0 ≠ 48) := by decide +kernel
theorem digits_ge {n : Nat} : ∀ k : Nat, 16 ^ k ≤ n → k + 1 ≤ (Nat.toDigits 16 n).length
  | 0, _ => toDigits_len_ge 16 n
  | k + 1, h => by
    have h16 : 16 ≤ n := Nat.le_trans (by rw [Nat.pow_succ]; exact Nat.le_mul_of_pos_left _ (Nat.pow_pos (by decide))) h
    rw [Nat.toDigits_of_base_le (by decide) h16, List.length_append]
    have h2 : 16 ^ k ≤ n / 16 := (Nat.le_div_iff_mul_le (by decide)).mpr (by rwa [← Nat.pow_succ])
    have := digits_ge (n := n / 16) k h2
    simp only [List.length_cons, List.length_nil]; omega
theorem pfW_hex {share : Int} {i : Nat} (hi : i < 32) (hs : share ≠ 0) : pfWord i ≠ baseText "0x" 16 (share * 2 ^ 32) := by
  intro e
  have h1 := hex_list (share * 2 ^ 32)
  rcases pfW_kind i hi with h | ⟨h, h'⟩
  · have h2 : 16 ^ 8 ≤ (share * 2 ^ 32).natAbs := by
      rw [Int.natAbs_mul]
      have h3 : ((2 : Int) ^ 32).natAbs = 16 ^ 8 := by decide
      rw [h3]
      exact Nat.le_mul_of_pos_left _ (by omega)
    have h4 := digits_ge 8 h2
    rw [e, len_list, h1] at h
    simp only [List.length_append, List.length_map, List.length_cons, List.length_nil] at h
    omega
  · rw [e, h1] at h h'
    by_cases hneg : share * 2 ^ 32 < 0
    · rw [if_pos hneg] at h; exact h rfl
    · rw [if_neg hneg] at h'; exact h' rfl
theorem names_any {place half share low : Int} {T3 : List Int} (hT : ∀ x ∈ T3, 1 ≤ x ∧ x ≤ half) (hp0 : 0 ≤ place) (hp : place ≤ 24) (hh : half ≤ 8) (hW : pfWords low 32 = T3.map fun x => pfWord (place + x - 1).toNat) {k : Int} (h1 : 1 ≤ k) (h2 : k ≤ half) :
    ((pfNames share low).any fun x => x == pfWord (place + k - 1).toNat) = T3.contains k := by
  have hk : (place + k - 1).toNat < 32 := by omega
  have hlast : ∀ x ∈ (if share ≠ 0 ∨ low = 0 then [baseText "0x" 16 (share * 2 ^ 32)] else []), x ≠ pfWord (place + k - 1).toNat := by
    intro x hx e
    split at hx
    · rw [List.mem_singleton.mp hx] at e
      by_cases hs : share = 0
      · rw [hs, Int.zero_mul] at e
        exact pfW_zero _ hk e.symm
      · exact pfW_hex hk hs e.symm
    · cases hx
  rw [Bool.eq_iff_iff, List.any_eq_true, List.contains_iff_mem]
  unfold pfNames
  rw [hW]
  constructor
  · rintro ⟨x, hx, e⟩
    have e := eq_of_beq e
    rcases List.mem_append.mp hx with hx | hx
    · obtain ⟨y, hy, rfl⟩ := List.mem_map.mp hx
      have b := hT y hy
      have := pfW_inj _ (by omega) _ hk e
      have : y = k := by omega
      rw [← this]; exact hy
    · exact absurd e (hlast x hx)
  · intro hm
    exact ⟨_, List.mem_append_left _ (List.mem_map.mpr ⟨k, hm, rfl⟩), beq_iff_eq.mpr rfl⟩
theorem filter_contains {q p : Int → Bool} {xs : List Int} (h : ∀ x ∈ xs, p x = (xs.filter q).contains x) : xs.filter p = xs.filter q := by
  apply List.filter_congr
  intro x hx
  rw [h x hx, Bool.eq_iff_iff, List.contains_iff_mem, List.mem_filter]
  exact ⟨fun a => a.2, fun a => ⟨hx, a⟩⟩
theorem mem_rangeKs {k : Int} {m : Nat} : k ∈ rangeKs 1 m ↔ 1 ≤ k ∧ k < 1 + (m : Int) := by
  unfold rangeKs
  rw [List.mem_map]
  constructor
  · rintro ⟨i, hi, rfl⟩
    have := List.mem_range.mp hi
    omega
  · rintro ⟨h1, h2⟩
    exact ⟨(k - 1).toNat, List.mem_range.mpr (by omega), by omega⟩
theorem more_told {rs : List Int} {n place half share low : Int} (hp0 : 0 ≤ place) (hp : place ≤ 24) (h0 : 0 ≤ half) (hh : half ≤ 8) (hW : pfWords low 32 = ((rangeKs 1 half.toNat).filter (toldB rs n)).map fun x => pfWord (place + x - 1).toNat) :
    (rangeKs 1 (half + 1 - 1).toNat).foldl (fun l' k' => if ((pfNames share low).any fun x => x == pfWord (place + k' - 1).toNat) = true then l' ++ [k'] else l') [] = (rangeKs 1 half.toNat).filter (toldB rs n) := by
  rw [foldl_filter (fun k' => (pfNames share low).any fun x => x == pfWord (place + k' - 1).toNat), List.nil_append, show (half + 1 - 1).toNat = half.toNat from by omega]
  apply filter_contains
  intro x hx
  have hb := mem_rangeKs.mp hx
  refine names_any ?_ hp0 hp hh hW hb.1 (by omega)
  intro y hy
  have := mem_rangeKs.mp (List.mem_filter.mp hy).1
  omega
theorem mem_T3 {T3 rs : List Int} {n half k : Int} (h : T3 = (rangeKs 1 half.toNat).filter (toldB rs n)) (hk : k ∈ T3) (h0 : 0 ≤ half) : 1 ≤ k ∧ k ≤ half := by
  rw [h] at hk
  have := mem_rangeKs.mp (List.mem_filter.mp hk).1
  omega
theorem len_T3 {T3 rs : List Int} {n half : Int} (h : T3 = (rangeKs 1 half.toNat).filter (toldB rs n)) (h0 : half ≤ 8) : T3.length ≤ 8 := by
  rw [h]
  refine Nat.le_trans (List.length_filter_le _ _) ?_
  rw [rangeKs_length]; omega
section
variable {prog : Program} {w : World} {A : Around} {E : Value → Shared → Prop} {s : Shared}
theorem item_W {value slice : PySem.Expr} {l : Nat} {vs : List Value} {W : List Str} {place half x : Int} {u : Tok} {Q : Value → Shared → Prop} {h₀ : Heap} {L : Addr} {news : List (Addr × Obj)} {kk : Nat} (N : News h₀ L s.heap news) (hm : (l, listOf vs.toArray kk) ∈ news) (hS : StrsAre vs W) (hW : WAt W place half) (h1 : 1 ≤ x) (h2 : x ≤ half) (h3 : half ≤ 8)
    (h : ∀ t, Q (.str (pfWord (place + x - 1).toNat) t) s)
    (hs : subscripted slice false (.ref l) (.int (x - 1) u) = operate [.ref l, .int (x - 1) u] (getItem (.ref l) (.int (x - 1) u)) := by with_unfolding_all rfl) :
    wpAny (model prog w) A (subscriptTail value slice (.ref l) (.int (x - 1) u)) Q E s := by
  have hl := hW.len
  refine KTb.item_list (PySem.IsL.isList (n := kk) (N _ hm).1) hS (by omega) (by omega) (by omega) (fun t _ => ?_) hs
  rw [hW.at' x h1 h2]; exact h t
end
end Tv
end

section
open PySem PySem.W PyProof.Rows Tv
namespace Tv
theorem strs_carried : ∀ {vs : List Value} {ws : List Str}, StrsAre vs ws → CarriedAll vs (ws.map PyData.str)
  | _, _, .nil => .nil
  | _, _, .cons _ t r => .cons (.str _ t) (strs_carried r)
theorem strs_lay : ∀ ws : List Str, (∀ w ∈ ws, PyData.strOk w = true) → PyData.canLayAll0 (ws.map PyData.str) = true
  | [], _ => rfl
  | x :: r, h => by simp [PyData.canLayAll0, PyData.canLay0, strs_lay r fun w hw => h w (.tail _ hw), h x (.head _)]
theorem strs_depth : ∀ ws : List Str, PyData.depthAll (ws.map PyData.str) = 0
  | [] => rfl
  | _ :: r => by simp [PyData.depthAll, PyData.depth, strs_depth r]
theorem strs_shaped (ws : List Str) (h : ∀ w ∈ ws, PyData.strOk w = true) : SeqAt.shaped (.list (ws.map PyData.str)) = true := by
  simp [SeqAt.shaped, PyData.canLay0, PyData.depth, strs_lay ws h, strs_depth]
theorem char_lt (c : Char) : c.toNat < 0x110000 := by
  have := c.valid
  rcases this with h | ⟨_, h⟩
  · exact Nat.lt_trans h (by decide)
  · exact h
theorem ok_of {x : Str} (h : ∀ c ∈ x.cps.toList, c < 0x110000) : PyData.strOk x = true := by
  unfold PyData.strOk
  rw [← Array.all_toList, List.all_eq_true]
  intro c hc
  exact decide_eq_true (h c hc)
theorem pfW_ok : ∀ i < 32, PyData.strOk (pfWord i) = true := by decide +kernel
theorem hex_ok (i : Int) : ∀ c ∈ (baseText "0x" 16 i).cps.toList, c < 0x110000 := by
  rw [hex_list]
  intro c hc
  rcases List.mem_append.mp hc with hc | hc
  · rcases List.mem_append.mp hc with hc | hc
    · split at hc
      · rw [List.mem_singleton.mp hc]; decide
      · cases hc
    · simp only [List.mem_cons, List.not_mem_nil, or_false] at hc
      rcases hc with rfl | rfl <;> decide
  · obtain ⟨d, _, rfl⟩ := List.mem_map.mp hc
    exact char_lt d
theorem words_ok {low : Int} : ∀ w ∈ pfWords low 32, PyData.strOk w = true := by
  intro w hw
  unfold pfWords at hw
  obtain ⟨j, hj, rfl⟩ := List.mem_map.mp hw
  exact pfW_ok j (List.mem_range.mp (List.mem_filter.mp hj).1)
theorem words_ok2 {low share : Int} : ∀ w ∈ pfWords low 32 ++ [baseText "0x" 16 share ++ Str.ofString "00000000"], PyData.strOk w = true := by
  intro w hw
  rcases List.mem_append.mp hw with hw | hw
  · exact words_ok w hw
  · rw [List.mem_singleton.mp hw]
    refine ok_of ?_
    intro c hc
    rw [app_list] at hc
    rcases List.mem_append.mp hc with hc | hc
    · exact hex_ok _ c hc
    · have e2 : (Str.ofString "00000000").cps.toList = List.replicate 8 48 := by decide +kernel
      rw [e2] at hc
      rw [List.eq_of_mem_replicate hc]; decide
theorem strs_same_nil (ws : List Str) : PySem.Spec.same (.list (ws.map PyData.str)) (.list (([] : List Str).map PyData.str)) = decide (ws = []) := by
  cases ws <;> simp [PySem.Spec.same, PySem.Spec.sameAll]
section
variable {prog : Program} {w : World} {A : Around} {E : Value → Shared → Prop} {s : Shared} {a b : Addr} {Q : Value → Shared → Prop}
theorem eq_strs_nil {items : Array Value} {ws : List Str} (ha : s.heap.IsList a items) (hb : s.heap.IsList b #[]) (hi : StrsAre items.toList ws) (hok : ∀ w ∈ ws, PyData.strOk w = true) (hu : A.units + 64 < cLine) (h : Q (.bool (decide (ws = []))) s) :
    wpAny (model prog w) A (compareOp .Eq (.ref a) (.ref b)) Q E s := by
  refine eq_dataH_same (reads_newData (ys := items.toList) (by rw [Array.toArray_toList]; exact ha) (strs_carried hi)) (reads_newData (ys := []) hb (strs_carried (ws := []) .nil)) (strs_shaped _ hok) (strs_shaped _ (by simp)) hu (SeqAt.noMix_of_shape (.list .str) rfl _ _ (list_map_has fun _ => rfl) (list_map_has fun _ => rfl)) ?_
  rw [strs_same_nil]; exact h
end
/-- eight noughts more -/
theorem digits_shift {n : Nat} (h : 0 < n) : ∀ k : Nat, Nat.toDigits 16 (n * 16 ^ k) = Nat.toDigits 16 n ++ List.replicate k '0'
  | 0 => by simp
  | k + 1 => by
    have e : n * 16 ^ (k + 1) = 16 * (n * 16 ^ k) + 0 := by rw [Nat.pow_succ, ← Nat.mul_assoc, Nat.mul_comm]; rfl
    rw [e, ← Nat.toDigits_append_toDigits (by decide) (Nat.mul_pos h (Nat.pow_pos (by decide))) (by decide), digits_shift h k, List.replicate_succ', List.append_assoc]
    rfl
theorem hex_shift {share : Int} (h : share ≠ 0) : baseText "0x" 16 (share * 2 ^ 32) = baseText "0x" 16 share ++ Str.ofString "00000000" := by
  apply Str.ext'
  apply Array.toList_inj.mp
  rw [app_list, hex_list, hex_list]
  have e1 : (share * 2 ^ 32).natAbs = share.natAbs * 16 ^ 8 := by
    rw [Int.natAbs_mul]; congr 1
  have e2 : (Str.ofString "00000000").cps.toList = (List.replicate 8 '0').map Char.toNat := by decide +kernel
  have e3 : (share * 2 ^ 32 < 0) = (share < 0) := by
    apply propext
    constructor <;> intro hh <;> omega
  rw [e1, digits_shift (by omega), List.map_append, e2]
  simp only [e3, List.append_assoc]
theorem due_hex {share low : Int} (h : share ≠ 0) : pfWords low 32 ++ [baseText "0x" 16 share ++ Str.ofString "00000000"] = pfNames share low := by
  unfold pfNames
  rw [if_pos (.inl h), hex_shift h]
theorem due_nil {share low : Int} (h0 : 0 ≤ low) (h1 : low < 2 ^ 32) (h : share = 0) (he : pfWords low 32 = []) : pfWords low 32 ++ [Str.ofString "0x0"] = pfNames share low := by
  have hne := names_ne (share := share) h0 h1
  unfold pfNames at hne ⊢
  by_cases hl : low = 0
  · rw [if_pos (.inr hl), he, h]
    decide +kernel
  · rw [if_neg (by simp [h, hl]), he] at hne
    exact absurd rfl hne
theorem due_some {share low : Int} (h : share = 0) (he : ¬ pfWords low 32 = []) : pfWords low 32 = pfNames share low := by
  unfold pfNames
  by_cases hl : low = 0
  · exfalso
    apply he
    rw [hl]
    decide +kernel
  · rw [if_neg (by simp [h, hl]), List.append_nil]
theorem share_len {share : Int} (h : share ≠ 0) (hf : (baseText "0x" 16 (share * 2 ^ 32)).length ≤ 1000000) : (baseText "0x" 16 share).length + (Str.ofString "00000000").length ≤ sizeLine ∧ (baseText "0x" 16 share).length ≤ sizeLine := by
  rw [hex_shift h, Str.length_append] at hf
  rw [sizeLine_eq]
  omega
end Tv
end

section
open PySem PySem.W PyProof.Rows Tv
namespace Tv
theorem ite_lit {P Q : Prop} (h : P) : if true = true then P else Q := by simpa using h
theorem ite_lit' {P Q : Prop} (h : Q) : if false = true then P else Q := by simpa using h
theorem ite_cases {c : Bool} {P Q : Prop} (h1 : c = true → P) (h2 : c = false → Q) : if c = true then P else Q := by
  cases c
  · simpa using h2 rfl
  · simpa using h1 rfl
/-- the rests of n and step -/
noncomputable def rsOf (n step : Int) : List Int := (rangeKs 0 n.toNat).map fun k => (step * k) % n
noncomputable def toldOf (n step : Int) : List Int := (rangeKs 1 (n / 2).toNat).filter (toldB (rsOf n step) n)
noncomputable def chkG (n step : Int) : Bool := decide (0 < Cm n step) && decide (n % Cm n step = 0) && decide (step % Cm n step = 0) && decide (Cm n step ≤ n)
noncomputable def sgOf (n step : Int) : Int :=
  let g := Cm n step
  let b := n / g
  let s := J (step / g % b) b 1
  if g / 2 % 2 = 1 ∧ b / 2 % 2 = 1 then -s else s
noncomputable def chkS (n step : Int) : Bool := decide (((toldOf n step).length % 2 = 0) = (sgOf n step = 1))
noncomputable def chkP (n step : Int) : Bool := decide (outerP (rsOf n step) (rangeKs 0 n.toNat) 1 = J step n 1)
noncomputable def allN (p : Int → Int → Bool) : Bool := (List.range 8).all fun k => (List.range (2 * k + 3)).all fun t => p (2 * (k : Int) + 3) (t : Int)
theorem all_at {p : Int → Int → Bool} (h : allN p = true) {n half step : Int} (h3 : 3 ≤ n) (h17 : n ≤ 17) (hh : 2 * half + 1 = n) (h0 : 0 ≤ step) (h1 : step < n) : p n step = true := by
  unfold allN at h
  rw [List.all_eq_true] at h
  have a := h (half - 1).toNat (List.mem_range.mpr (by omega))
  rw [List.all_eq_true] at a
  have b := a step.toNat (List.mem_range.mpr (by omega))
  have e1 : 2 * (((half - 1).toNat : Nat) : Int) + 3 = n := by omega
  have e2 : ((step.toNat : Nat) : Int) = step := by omega
  rw [e1, e2] at b
  exact b
theorem chkG_all : allN chkG = true := by decide +kernel
theorem chkS_all : allN chkS = true := by decide +kernel
theorem chkP_all : allN chkP = true := by decide +kernel
end Tv
end

section
open PySem PySem.W PyProof.Rows Tv
namespace Tv
structure ComF (c1 n step g : Int) : Prop where
  pos : 0 < g
  le : g ≤ n
  eq : g = Cm n step
  dvd : n = g * (n / g)
  bpos : 0 < n / g
  sym : (c1 / g) % (n / g) = (step / g) % (n / g)
theorem com_facts {c1 n step g half : Int} (hg : Cm c1 n = g) (hst : step = c1 % n) (h3 : 3 ≤ n) (h17 : n ≤ 17) (hh : 2 * half + 1 = n) (h0 : 0 ≤ step) (h1 : step < n) : ComF c1 n step g := by
  have e : g = Cm n step := by rw [← hg, hst]; exact Cm_step (by omega)
  have hc := all_at chkG_all h3 h17 hh h0 h1
  unfold chkG at hc
  rw [← e] at hc
  simp only [Bool.and_eq_true, decide_eq_true_eq] at hc
  obtain ⟨⟨⟨a1, a2⟩, a3⟩, a4⟩ := hc
  have d1 : n = g * (n / g) := by have := Int.mul_ediv_add_emod n g; omega
  have d2 : step = g * (step / g) := by have := Int.mul_ediv_add_emod step g; omega
  have hb : 0 < n / g := by
    rcases Int.lt_or_le 0 (n / g) with h | h
    · exact h
    · have := Int.mul_le_mul_of_nonneg_left h (Int.le_of_lt a1)
      omega
  refine ⟨a1, a4, e, d1, hb, ?_⟩
  have d3 : c1 = g * ((n / g) * (c1 / n) + step / g) := by
    have := Int.mul_ediv_add_emod c1 n
    rw [Int.mul_add, ← Int.mul_assoc, ← d1, ← d2, hst]; omega
  have d4 : c1 / g = (n / g) * (c1 / n) + step / g := by
    conv => lhs; rw [d3]
    exact Int.mul_ediv_cancel_left _ (by omega)
  rw [d4, Int.add_comm, Int.add_mul_emod_self_left]
theorem sign_facts {c1 n step g half σ : Int} {rs T3 : List Int} (H : ComF c1 n step g) (h3 : 3 ≤ n) (h17 : n ≤ 17) (hh : 2 * half + 1 = n) (h0 : 0 ≤ step) (h1 : step < n) (hr : rs = rsOf n step) (hT : T3 = (rangeKs 1 half.toNat).filter (toldB rs n))
    (hσ : J ((c1 / g) % (n / g)) (n / g) 1 = σ) : (T3.length % 2 = 0) = ((if g / 2 % 2 = 1 ∧ n / g / 2 % 2 = 1 then -σ else σ) = 1) := by
  have hc := all_at chkS_all h3 h17 hh h0 h1
  unfold chkS at hc
  have hc := of_decide_eq_true hc
  have e1 : toldOf n step = T3 := by
    rw [hT, hr]; unfold toldOf
    rw [show (n / 2).toNat = half.toNat from by omega]
  rw [e1] at hc
  rw [hc]
  unfold sgOf
  simp only
  rw [← H.eq, ← H.sym, hσ]
theorem rs_of {script : List Int} {c1 c2 n step place share lift : Int} {rs : List Int} (hM : Nums script c1 c2 n step place share lift rs) : rs = rsOf n step := hM.ers
theorem fdv (a b : Int) (h : 0 ≤ b) : a.fdiv b = a / b := Int.fdiv_eq_ediv_of_nonneg _ h
theorem fmd (a b : Int) (h : 0 ≤ b) : a.fmod b = a % b := Int.fmod_eq_emod_of_nonneg _ h
theorem seg_facts {script : List Int} {c1 c2 n half step place share lift g σ : Int} {rs T3 : List Int} (hM : Nums script c1 c2 n step place share lift rs) (h3 : 3 ≤ n) (h17 : n ≤ 17) (hh : 2 * half + 1 = n) (h0 : 0 ≤ step) (h1 : step < n)
    (hT : T3 = (rangeKs 1 half.toNat).filter (toldB rs n)) (hg : Cm c1 n = g) (hσ : J ((c1.fdiv g).fmod (n.fdiv g)) (n.fdiv g) 1 = σ) :
    (0 < g ∧ g ≤ n ∧ g = Cm n step ∧ 0 < n.fdiv g) ∧ (((g.fdiv 2).fmod 2 == 1) = true → (((n.fdiv g).fdiv 2).fmod 2 == 1) = true → (T3.length % 2 = 0 ↔ -σ = 1)) ∧ (((g.fdiv 2).fmod 2 == 1) = true → (((n.fdiv g).fdiv 2).fmod 2 == 1) = false → (T3.length % 2 = 0 ↔ σ = 1)) ∧ (((g.fdiv 2).fmod 2 == 1) = false → (T3.length % 2 = 0 ↔ σ = 1)) := by
  have H := com_facts hg hM.estep h3 h17 hh h0 h1
  have p := H.pos
  rw [fdv n g (by omega)] at hσ ⊢
  have bp := H.bpos
  rw [fdv c1 g (by omega), fmd _ _ (by omega)] at hσ
  have S := sign_facts H h3 h17 hh h0 h1 (rs_of hM) hT hσ
  rw [fdv g 2 (by decide), fmd _ 2 (by decide), fdv (n / g) 2 (by decide), fmd _ 2 (by decide)]
  simp only [beq_iff_eq, beq_eq_false_iff_ne]
  refine ⟨⟨p, H.le, H.eq, bp⟩, fun a b => ?_, fun a b => ?_, fun a => ?_⟩
  · rw [if_pos ⟨a, b⟩] at S; exact iff_of_eq S
  · rw [if_neg (fun h => b h.2)] at S; exact iff_of_eq S
  · rw [if_neg (fun h => a h.1)] at S; exact iff_of_eq S
theorem par_cond {l : Nat} {σ : Int} (h : l % 2 = 0 ↔ σ = 1) : (((l : Int).fmod 2 == 0) != (σ == 1)) = false := by
  rw [fmd _ 2 (by decide)]
  have e : ((l : Int) % 2 == 0) = (σ == 1) := by
    rw [Bool.eq_iff_iff, beq_iff_eq, beq_iff_eq, ← h]
    omega
  rw [e]; simp
theorem prod_law {script : List Int} {c1 c2 n half step place share lift : Int} {rs : List Int} (hM : Nums script c1 c2 n step place share lift rs) (h3 : 3 ≤ n) (h17 : n ≤ 17) (hh : 2 * half + 1 = n) (h0 : 0 ≤ step) (h1 : step < n) :
    outerP rs (rangeKs 0 (n - 0).toNat) 1 = J (c1.fmod n) n 1 := by
  have hc := all_at chkP_all h3 h17 hh h0 h1
  unfold chkP at hc
  have hc := of_decide_eq_true hc
  rw [rs_of hM, Int.sub_zero, hc, fmd _ _ (by omega), ← hM.estep]
theorem row_hi {k half n : Int} {rs : List Int} (h : k ∈ rangeKs 1 (half + 1 - 1).toNat) (hh : 2 * half + 1 = n) (hl : (rs.length : Int) = n) (hn : n ≤ 17) : 0 ≤ k ∧ k < rs.length ∧ k < 2 ^ 63 := by
  have := mem_rangeKs.mp h
  omega
end Tv
end

section
open PySem PySem.W PyProof.Rows Tv
namespace Tv
noncomputable def insI (x : Int) : List Int → List Int
  | [] => [x]
  | y :: r => if x ≤ y then x :: y :: r else y :: insI x r
noncomputable def isort : List Int → List Int
  | [] => []
  | x :: r => insI x (isort r)
theorem insI_perm (x : Int) : ∀ l : List Int, (insI x l).Perm (x :: l)
  | [] => .refl _
  | y :: r => by
    unfold insI
    split
    · exact .refl _
    · exact ((insI_perm x r).cons y).trans (.swap x y r)
theorem isort_perm : ∀ l : List Int, (isort l).Perm l
  | [] => .refl _
  | x :: r => (insI_perm x _).trans ((isort_perm r).cons x)
theorem insI_sorted (x : Int) : ∀ {l : List Int}, l.Pairwise (· ≤ ·) → (insI x l).Pairwise (· ≤ ·)
  | [], _ => List.pairwise_singleton _ _
  | y :: r, h => by
    have h1 := List.pairwise_cons.mp h
    unfold insI
    split
    · rename_i hxy
      refine List.pairwise_cons.mpr ⟨?_, h⟩
      intro z hz
      rcases List.mem_cons.mp hz with rfl | hz
      · exact hxy
      · exact Int.le_trans hxy (h1.1 z hz)
    · rename_i hxy
      refine List.pairwise_cons.mpr ⟨?_, insI_sorted x h1.2⟩
      intro z hz
      rcases List.mem_cons.mp ((insI_perm x r).mem_iff.mp hz) with rfl | hz
      · omega
      · exact h1.1 z hz
theorem isort_sorted : ∀ l : List Int, (isort l).Pairwise (· ≤ ·)
  | [] => .nil
  | x :: r => insI_sorted x (isort_sorted r)
theorem sorted_eq : ∀ {a b : List Int}, a.Perm b → a.Pairwise (· ≤ ·) → b.Pairwise (· ≤ ·) → a = b
  | [], b, p, _, _ => (List.Perm.nil_eq p)
  | x :: r, [], p, _, _ => absurd p.length_eq (by simp)
  | x :: r, y :: t, p, ha, hb => by
    have ha' := List.pairwise_cons.mp ha
    have hb' := List.pairwise_cons.mp hb
    have hxy : x = y := by
      have h1 : x ∈ y :: t := p.mem_iff.mp (.head _)
      have h2 : y ∈ x :: r := p.mem_iff.mpr (.head _)
      rcases List.mem_cons.mp h1 with h | h
      · exact h
      · rcases List.mem_cons.mp h2 with h' | h'
        · exact h'.symm
        · have a1 := hb'.1 x h
          have a2 := ha'.1 y h'
          omega
    subst hxy
    congr 1
    exact sorted_eq ((List.perm_cons x).mp p) ha'.2 hb'.2
noncomputable def rawOf (n step : Int) : List Int := (rangeKs 1 (n / 2).toNat).map fun k => if (toldOf n step).contains k then n - (rsOf n step).getD k.toNat 0 else (rsOf n step).getD k.toNat 0
noncomputable def sizesOf (n step : Int) : List Int := isort (rawOf n step)
noncomputable def rowOf (n : Int) : List Int := rangeKs 1 (n / 2).toNat
noncomputable def noughtOf (g : Int) : List Int := if 1 < g then [0] else []
noncomputable def lackOf (n g : Int) : List Int := (rowOf n).filter fun x => decide (x % g ≠ 0)
noncomputable def othOf (Z : List Int) : List Int := Z.filter fun x => decide (x ≠ 0)
noncomputable def chkZ (n step : Int) : Bool :=
  let g := Cm n step
  let Z := sizesOf n step
  decide (sld Z (rowOf n) [] [] = (noughtOf g, lackOf n g)) && decide (sld (rowOf n) Z [] [] = (lackOf n g, noughtOf g)) && decide (sld Z (noughtOf g) [] [] = (othOf Z, [])) && decide (Z.length ≤ 8)
theorem chkZ_all : allN chkZ = true := by decide +kernel
structure SzF (n g : Int) (Z R : List Int) : Prop where
  zl : Z.length ≤ 8
  rl : R.length ≤ 8
  pos : 0 < g
  z1 : sld Z R [] [] = (noughtOf g, R.filter fun x => decide (x % g ≠ 0))
  z2 : sld R Z [] [] = (R.filter (fun x => decide (x % g ≠ 0)), noughtOf g)
  z3 : sld Z (noughtOf g) [] [] = (othOf Z, [])
theorem sz_facts {script : List Int} {c1 c2 n half step place share lift g : Int} {rs T3 Z : List Int} (hM : Nums script c1 c2 n step place share lift rs) (h3 : 3 ≤ n) (h17 : n ≤ 17) (hh : 2 * half + 1 = n) (h0 : 0 ≤ step) (h1 : step < n)
    (hT : T3 = (rangeKs 1 half.toNat).filter (toldB rs n)) (hg : g = Cm n step)
    (hp : Z.Perm ((rangeKs 1 (half + 1 - 1).toNat).map fun k' => if (T3.any fun x => x == k') = true then n - rs.getD k'.toNat 0 else if (T3.any fun x => x == k') = false then rs.getD k'.toNat 0 else k')) (ho : Z.Pairwise (· ≤ ·)) :
    SzF n g Z (rangeKs 1 half.toNat) := by
  have eh : (n / 2).toNat = half.toNat := by omega
  have eT : toldOf n step = T3 := by
    rw [hT, rs_of hM]; unfold toldOf; rw [eh]
  have eR : rawOf n step = (rangeKs 1 (half + 1 - 1).toNat).map fun k' => if (T3.any fun x => x == k') = true then n - rs.getD k'.toNat 0 else if (T3.any fun x => x == k') = false then rs.getD k'.toNat 0 else k' := by
    unfold rawOf
    rw [eT, eh, ← rs_of hM, show (half + 1 - 1).toNat = half.toNat from by omega]
    apply List.map_congr_left
    intro k _
    have ec : T3.contains k = T3.any fun x => x == k := by
      rw [Bool.eq_iff_iff, List.contains_iff_mem, List.any_eq_true]
      constructor
      · intro h; exact ⟨k, h, by simp⟩
      · rintro ⟨x, hx, e⟩; rw [← eq_of_beq e]; exact hx
    rw [ec]
    cases (T3.any fun x => x == k) <;> simp
  rw [← eR] at hp
  have eZ : Z = sizesOf n step := sorted_eq (hp.trans (isort_perm _).symm) ho (isort_sorted _)
  have hc := all_at chkZ_all h3 h17 hh h0 h1
  have hG := all_at chkG_all h3 h17 hh h0 h1
  unfold chkG at hG
  unfold chkZ at hc
  simp only [Bool.and_eq_true, decide_eq_true_eq] at hc hG
  rw [← hg, ← eZ] at hc
  obtain ⟨⟨⟨c1, c2⟩, c3⟩, c4⟩ := hc
  have er : rowOf n = rangeKs 1 half.toNat := by unfold rowOf; rw [eh]
  unfold lackOf at c1 c2
  rw [er] at c1 c2
  exact ⟨c4, by rw [rangeKs_length]; omega, by rw [hg]; exact hG.1.1.1, c1, c2, c3⟩
end Tv
end

section
open PySem PySem.W PyProof.Rows PySem.Spec Tv
namespace Tv
theorem sld_law {w : World} {loose : List Str} {mean : ExcName → Option Value} {mg mb : Str → Option Value} {h₀ : Heap} {L fa : Nat} {cdv : Value} {s : Shared} {led : List (Addr × Obj)} {m : Str → Option Value} {Q E : Value → Shared → Prop} {a1 a2 : Nat} {k1 k2 : Nat} {xv yv : List Value} {xs ys A B : List Int}
    (K0 : Below callerA h₀ [] h₀) (F : Fr h₀ L s.heap m) (KX : (tvhd.heap_39 w.params).In h₀) (N : News h₀ L s.heap led) (T : Top tvhd.view_39 loose mean mg mb h₀)
    (m1 : (a1, listOf xv.toArray k1) ∈ led) (m2 : (a2, listOf yv.toArray k2) ∈ led) (hx : IntsAre xv xs) (hy : IntsAre yv ys) (hxl : xs.length ≤ 64) (hyl : ys.length ≤ 64) (hR : sld xs ys [] [] = (A, B))
    (hret : ∀ h' tk (t lM lU : Nat) km ku vm vu, Fr h₀ L h' m → News h₀ L h' ((t, { cls := Value.type "tuple", data := Data.seq #[Value.ref lM, Value.ref lU] }) :: (lU, listOf (List.toArray vu) ku) :: (lM, listOf (List.toArray vm) km) :: led) →
      IntsAre vm A → IntsAre vu B → Q (.ref t) { s with heap := h', toks := tk }) :
    wpAny (model Challenge.rw_tv0010_01.row.prog w) (callerA.deeper (envOfC (Str.ofString "law") lawScope L fa cdv)) (call (.ref 21) [.ref a1, .ref a2]) Q E s := by
  have N' : News h₀ L s.heap ((a1, listOf xv.toArray k1) :: (a2, listOf yv.toArray k2) :: led) := by
    intro p hp
    rcases List.mem_cons.mp hp with rfl | hp
    · exact N _ m1
    rcases List.mem_cons.mp hp with rfl | hp
    · exact N _ m2
    exact N _ hp
  refine sld_ct K0 F KX N' T hx hy hxl hyl ?_
  intro h' tk t lM lU km ku vm vu F' N'' iM iU _ _
  rw [hR] at iM iU
  refine hret h' tk t lM lU km ku vm vu F' (news_sub N'' ?_) iM iU
  intro p hp
  rcases List.mem_cons.mp hp with rfl | hp
  · exact .head _
  rcases List.mem_cons.mp hp with rfl | hp
  · exact .tail _ (.head _)
  rcases List.mem_cons.mp hp with rfl | hp
  · exact .tail _ (.tail _ (.head _))
  exact .tail _ (.tail _ (.tail _ (.tail _ (.tail _ hp))))
theorem foldl_dec (P : Int → Prop) [DecidablePred P] : ∀ (xs acc : List Int), xs.foldl (fun l k => if P k then l ++ [k] else l) acc = acc ++ xs.filter fun x => decide (P x)
  | [], acc => by simp
  | x :: r, acc => by
    rw [List.foldl_cons, foldl_dec P r]
    by_cases h : P x <;> simp [h]
theorem oth_eq (Z : List Int) : Z.foldl (fun l' k' => if ¬k' = 0 then l' ++ [k'] else l') [] = othOf Z := foldl_dec (fun k => ¬ k = 0) Z []
theorem lack_eq {g : Int} (h : 0 < g) (R : List Int) : R.foldl (fun l' k' => if ¬k'.fmod g = 0 then l' ++ [k'] else l') [] = R.filter fun x => decide (x % g ≠ 0) := by
  rw [foldl_dec (fun k => ¬ k.fmod g = 0) R [], List.nil_append]
  apply List.filter_congr
  intro x _
  rw [fmd x g (by omega)]
theorem nought_one {g : Int} (h : 1 < g) : noughtOf g = [0] := if_pos h
theorem nought_nil {g : Int} (h : ¬ 1 < g) : noughtOf g = [] := if_neg h
end Tv
end

section
open PySem PySem.W PyProof.Rows PySem.Spec Tv
namespace Tv
noncomputable abbrev tupOf (x y : Addr) : Obj := { cls := Value.type "tuple", data := Data.seq #[Value.ref x, Value.ref y] }
section
variable {prog : Program} {w : World} {A : Around} {E : Value → Shared → Prop} {s : Shared} {h₀ : Heap} {L : Addr} {news : List (Addr × Obj)} {a b x1 x2 y1 y2 : Addr} {v1 v2 w1 w2 : List Value} {k1 k2 j1 j2 : Nat} {M U : List Int} {Q : Value → Shared → Prop}
theorem reads_tup (N : News h₀ L s.heap news) (ha : (a, tupOf x1 x2) ∈ news) (h1 : (x1, listOf v1.toArray k1) ∈ news) (h2 : (x2, listOf v2.toArray k2) ∈ news) (i1 : IntsAre v1 M) (i2 : IntsAre v2 U) :
    ∃ as, Reads s.heap (.ref a) (.tuple [.list (M.map .int), .list (U.map .int)]) as :=
  ⟨_, reads_tuple_at (N _ ha).1 rfl rfl (.cons (reads_newData (PySem.IsL.isList (n := k1) (N _ h1).1) (ke_carried i1)) (.cons (reads_newData (PySem.IsL.isList (n := k2) (N _ h2).1) (ke_carried i2)) .nil))⟩
theorem tup_shaped (M U : List Int) : SeqAt.shaped (.tuple [.list (M.map .int), .list (U.map .int)]) = true := by
  simp [SeqAt.shaped, PyData.canLay0, PyData.canLayAll0, PyData.depth, PyData.depthAll, ke_canLayAll0, ke_depthAll]
theorem tup_eqv (M U : List Int) : PyData.eqv (.tuple [.list (M.map .int), .list (U.map .int)]) (.tuple [.list (M.map .int), .list (U.map .int)]) = true := by
  simp [PyData.eqv, PyData.eqvAll, ked_eqvAll]
theorem ne_tups (N : News h₀ L s.heap news) (ha : (a, tupOf x1 x2) ∈ news) (hb : (b, tupOf y1 y2) ∈ news) (h1 : (x1, listOf v1.toArray k1) ∈ news) (h2 : (x2, listOf v2.toArray k2) ∈ news) (g1 : (y1, listOf w1.toArray j1) ∈ news) (g2 : (y2, listOf w2.toArray j2) ∈ news)
    (i1 : IntsAre v1 M) (i2 : IntsAre v2 U) (c1 : IntsAre w1 M) (c2 : IntsAre w2 U) (hu : A.units + 64 < cLine) (h : Q (.bool false) s) : wpAny (model prog w) A (compareOp .NotEq (.ref a) (.ref b)) Q E s := by
  obtain ⟨_, r1⟩ := reads_tup N ha h1 h2 i1 i2
  obtain ⟨_, r2⟩ := reads_tup N hb g1 g2 c1 c2
  refine ne_dataH r1 r2 (tup_shaped _ _) (tup_shaped _ _) hu ?_
  rw [tup_eqv]; exact h
theorem eq_tups (N : News h₀ L s.heap news) (ha : (a, tupOf x1 x2) ∈ news) (hb : (b, tupOf y1 y2) ∈ news) (h1 : (x1, listOf v1.toArray k1) ∈ news) (h2 : (x2, listOf v2.toArray k2) ∈ news) (g1 : (y1, listOf w1.toArray j1) ∈ news) (g2 : (y2, listOf w2.toArray j2) ∈ news)
    (i1 : IntsAre v1 M) (i2 : IntsAre v2 U) (c1 : IntsAre w1 M) (c2 : IntsAre w2 U) (hu : A.units + 64 < cLine) (h : Q (.bool true) s) : wpAny (model prog w) A (compareOp .Eq (.ref a) (.ref b)) Q E s := by
  obtain ⟨_, r1⟩ := reads_tup N ha h1 h2 i1 i2
  obtain ⟨_, r2⟩ := reads_tup N hb g1 g2 c1 c2
  refine eq_dataH r1 r2 (tup_shaped _ _) (tup_shaped _ _) hu ?_
  rw [tup_eqv]; exact h
end
end Tv
end

section
open PySem PySem.W PyProof.Rows Tv
local macro_rules | `(tactic| walk_at "call ref") => `(tactic| (refine Hold.out ?_))
local macro_rules | `(tactic| walk_at "call ref") => `(tactic| (k_here; k_dflt (refine' sld_law ?k1 ?k2 ?k3 ?k4 ?k5 ?m1 ?m2 ?i1 ?i2 ?n1 ?n2 ?e ?_; (case k1 => assumption); (case k2 => k_asm); (case k3 => assumption); (case k4 => k_asm); (case k5 => assumption); (case m1 | m2 => k_mem); (case i1 | i2 | n1 | n2 | e => assumption)); intro h9 tk9 t9 lM9 lU9 km9 ku9 vm9 vu9 F9 N9 iM9 iU9; (try dsimp only)))
local macro_rules | `(tactic| walk_at "execs nil") => `(tactic| ((refine wpAny_execs_nil ?_); (try dsimp only)))
local macro_rules | `(tactic| walk_at "compareOp NotEq ref ref") => `(tactic| (refine Hold.out ?_))
local macro_rules | `(tactic| walk_at "compareOp NotEq ref ref") => `(tactic| (k_dflt (refine' ne_tups ?N ?a ?b ?h1 ?h2 ?g1 ?g2 ?i1 ?i2 ?c1 ?c2 ?u ?_; (case N => k_asm); (case a | b | h1 | h2 | g1 | g2 => k_mem); (case i1 | i2 | c1 | c2 => assumption); (case u => ke_room))))
local macro_rules | `(tactic| walk_at "compareOp Eq ref ref") => `(tactic| (refine Hold.out ?_))
local macro_rules | `(tactic| walk_at "compareOp Eq ref ref") => `(tactic| (k_dflt (refine' eq_tups ?N ?a ?b ?h1 ?h2 ?g1 ?g2 ?i1 ?i2 ?c1 ?c2 ?u ?_; (case N => k_asm); (case a | b | h1 | h2 | g1 | g2 => k_mem); (case i1 | i2 | c1 => assumption); (case c2 => first | exact IntsAre.nil | assumption); (case u => ke_room))))
theorem Tv.segM {w : World} {loose : List Str} {mean : ExcName → Option Value} {mg mb : Str → Option Value} {h₀ : Heap} {L fa : Nat} {cdv : Value}
    {s : Shared} {Q : Flow → Shared → Prop} {u : Str → Option Value} {z1 r1 o1 k1 q1 : Nat} {vz vr vo vk vq : List Value} {kz kr ko kk kq : Nat} {Z R A B O : List Int}
    (T : Top tvhd.view_39 loose mean mg mb h₀) (K0 : Below callerA h₀ [] h₀) (KX : (tvhd.heap_39 w.params).In h₀)
    (F : Fr h₀ L s.heap (kstB u [(Str.ofString "nought", .ref q1), (Str.ofString "lacking", .ref k1), (Str.ofString "others", .ref o1), (Str.ofString "sizes", .ref z1), (Str.ofString "row", .ref r1)]))
    (N : News h₀ L s.heap [(q1, listOf vq.toArray kq), (k1, listOf vk.toArray kk), (o1, listOf vo.toArray ko), (z1, listOf vz.toArray kz), (r1, listOf vr.toArray kr)])
    (hz : IntsAre vz Z) (hr : IntsAre vr R) (hq : IntsAre vq A) (hk : IntsAre vk B) (ho : IntsAre vo O) (hzl : Z.length ≤ 64) (hrl : R.length ≤ 64) (hal : A.length ≤ 64)
    (s1 : sld Z R [] [] = (A, B)) (s2 : sld R Z [] [] = (B, A)) (s3 : sld Z A [] [] = (O, []))
    (hQ : ∀ h' tk m', Fr h₀ L h' m' → Q (.ret (.bool true)) { s with heap := h', toks := tk }) :
    wpAny (model Challenge.rw_tv0010_01.row.prog w) (callerA.deeper (lawEnv L fa cdv)) (execs (lawBody.drop 32) (lawEnv L fa cdv)) Q (fun _ _ => False) s := by
  k_with_none
  revert KX; k_fill; intro KX
  dsimp only [lawBody, lawBodyP, lawEnv, List.drop]
  dsimp only [kstB] at F
  k_steps
  exact hQ _ _ _ (by assumption)
end

section
open PySem PySem.W PyProof.Rows Tv
local macro_rules | `(tactic| walk_at "call ref") => `(tactic| (refine Hold.out ?_))
local macro_rules | `(tactic| walk_at "execs nil") => `(tactic| ((refine wpAny_execs_nil ?_); (try dsimp only)))
local macro_rules | `(tactic| walk_at "CompSrcT") => `(tactic| (k_here; k_dflt (refine LCt.CompSrcT.ledger (by rfl) (by k_asm) (by k_asm) (by k_mem) (kmk_sz (by assumption) (Nat.le_trans (by assumption) (by decide : 8 ≤ sizeLine))) ?_; intro g'; (refine' kci_list _ (by assumption) (fun k' t' I' oI' C' oC' D' m' ys' l' h' tk' E' hk' hI' hC' hx' F' N' off' ne' => ?_) ?_ ?_); (all_goals (try (simp only [LCg.Off3, and_true] at off'))); (all_goals (try ((show KPfMark → _); intro hMark'))); kcf_last)))
local macro_rules | `(tactic| walk_at "CompEnd") => `(tactic| (k_dflt (refine' LCg.CompEnd.intro ?F ?N _ (fun p hp => hp) ?o ?S ?_; (case F => k_asm); (case N => assumption); (case o => ((try simp only [LCg.Off3, and_true]); assumption)); (case S => exact Or.inr ⟨_, (by k_mem), rfl, _, rfl⟩))))
local macro_rules | `(tactic| walk_at "KCiNo") => `(tactic| (exact kci_no (if_neg (ne_true_of_eq_false (by assumption))) rfl))
local macro_rules | `(tactic| walk_at "execs cons") => `(tactic| ((with_reducible show wpAny _ _ (execs (Stmt.If (Expr.Compare (Expr.Call _ _ _ _) _ _ _) _ _ _ :: _) _) _ _ _); refine Hold.out ?_))
theorem Tv.segK {w : World} {loose : List Str} {mean : ExcName → Option Value} {mg mb : Str → Option Value} {h₀ : Heap} {L fa : Nat} {cdv : Value}
    {s : Shared} {d0 d1 d2 d3 d4 d5 d6 : Obj} {Q : Flow → Shared → Prop} {u : Str → Option Value} {z1 r1 : Nat} {vz vr : List Value} {kz kr : Nat} {Z R : List Int} {n g : Int} {t8 : CbTok}
    (T : Top tvhd.view_39 loose mean mg mb h₀) (K0 : Below callerA h₀ [] h₀) (KX : (tvhd.heap_39 w.params).In h₀)
    (F : Fr h₀ L s.heap (kstB u [(Str.ofString "sizes", .ref z1), (Str.ofString "row", .ref r1)]))
    (N : News h₀ L s.heap [(z1, listOf vz.toArray kz), (r1, listOf vr.toArray kr), (L + 1 + 1 + 1 + 1 + 1 + 1 + 1, d6), (L + 1 + 1 + 1 + 1 + 1 + 1, d5), (L + 1 + 1 + 1 + 1 + 1, d4), (L + 1 + 1 + 1 + 1, d3), (L + 1 + 1 + 1, d2), (L + 1 + 1, d1), (L + 1, d0)])
    (e6 : d6.data = .cell (some (.int g t8)))
    (hz : IntsAre vz Z) (hr : IntsAre vr R) (hS : SzF n g Z R)
    (hQ : ∀ h' tk m', Fr h₀ L h' m' → Q (.ret (.bool true)) { s with heap := h', toks := tk }) :
    wpAny (model Challenge.rw_tv0010_01.row.prog w) (callerA.deeper (lawEnv L fa cdv)) (execs (lawBody.drop 28) (lawEnv L fa cdv)) Q (fun _ _ => False) s := by
  k_with_none
  revert KX; k_fill; intro KX
  dsimp only [lawBody, lawBodyP, lawEnv, List.drop]
  dsimp only [kstB] at F
  have hzl := hS.zl
  have hrl := hS.rl
  have hg0 := hS.pos
  k_steps
  all_goals with_reducible refine Hold.mk ?_
  all_goals (rename Fr _ _ _ _ => F9)
  all_goals (rename News _ _ _ _ => N9)
  all_goals (rename IntsAre _ (List.foldl _ _ R) => hk)
  all_goals (rename IntsAre _ (List.foldl _ _ Z) => ho)
  all_goals rw [oth_eq] at ho
  all_goals rw [lack_eq hg0] at hk
  · (rename 1 < g => h1)
    have N8 := news_sub (l' := [_, _, _, _, _]) N9 (by
      intro p hp
      rcases List.mem_cons.mp hp with rfl | hp
      · exact .head _
      rcases List.mem_cons.mp hp with rfl | hp
      · exact .tail _ (.tail _ (.head _))
      rcases List.mem_cons.mp hp with rfl | hp
      · exact .tail _ (.tail _ (.tail _ (.head _)))
      rcases List.mem_cons.mp hp with rfl | hp
      · exact .tail _ (.tail _ (.tail _ (.tail _ (.head _))))
      rcases List.mem_cons.mp hp with rfl | hp
      · exact .tail _ (.tail _ (.tail _ (.tail _ (.tail _ (.head _)))))
      cases hp)
    refine' segM (vq := [_]) T K0 KX (fr_norm _ ?hk F9) N8 (by assumption) (by assumption) (A := noughtOf g) (by rw [nought_one h1]; exact .cons _ _ .nil) hk ho (by omega) (by omega) (by rw [nought_one h1]; decide) hS.z1 hS.z2 hS.z3 hQ
    case hk => kst_all
  · (rename ¬ 1 < g => h1)
    have N8 := news_sub (l' := [_, _, _, _, _]) N9 (by
      intro p hp
      rcases List.mem_cons.mp hp with rfl | hp
      · exact .head _
      rcases List.mem_cons.mp hp with rfl | hp
      · exact .tail _ (.head _)
      rcases List.mem_cons.mp hp with rfl | hp
      · exact .tail _ (.tail _ (.head _))
      rcases List.mem_cons.mp hp with rfl | hp
      · exact .tail _ (.tail _ (.tail _ (.head _)))
      rcases List.mem_cons.mp hp with rfl | hp
      · exact .tail _ (.tail _ (.tail _ (.tail _ (.head _))))
      cases hp)
    refine' segM (vq := []) T K0 KX (fr_norm _ ?hk F9) N8 (by assumption) (by assumption) (A := noughtOf g) (by rw [nought_nil h1]; exact .nil) hk ho (by omega) (by omega) (by rw [nought_nil h1]; decide) hS.z1 hS.z2 hS.z3 hQ
    case hk => kst_all
end

section
open PySem PySem.W PyProof.Rows Tv
theorem Tv.half64 {n half : Int} (h : n ≤ 17) (e : 2 * half + 1 = n) : (half + 1 - 1).toNat < 64 := by omega
local macro_rules | `(tactic| walk_at "tv none") => `(tactic| skip)
local macro_rules | `(tactic| walk_at "execs cons") => `(tactic| ((with_reducible show wpAny _ _ (execs (Stmt.Assign [Expr.Name (Str.ofString "others") _] _ _ :: _) _) _ _ _); refine Hold.out ?_))
local macro_rules | `(tactic| walk_at "execs cons Assign cons") => `(tactic| ((with_reducible show wpAny _ _ (execs (Stmt.Assign [Expr.Name (Str.ofString "others") _] _ _ :: _) _) _ _ _); refine Hold.out ?_))
local macro_rules | `(tactic| walk_at "execs nil") => `(tactic| ((refine wpAny_execs_nil ?_); (try dsimp only)))
local macro_rules | `(tactic| walk_at "subscriptTail Name Name ref int") => `(tactic| (k_dflt (refine' ksa_sub ?k1 ?k2 ?k3 ?k4 ?k5 ?k6 ?_ ?k7; (case k1 => k_asm); (case k2 => k_mem); (case k3 => with_reducible assumption); (case k4 => exact (row_hi (by assumption) (by assumption) (by assumption) (by assumption)).1); (case k5 => exact (row_hi (by assumption) (by assumption) (by assumption) (by assumption)).2.1); (case k6 => exact (row_hi (by assumption) (by assumption) (by assumption) (by assumption)).2.2); (case k7 => with_unfolding_all rfl)); intro _))
local macro_rules | `(tactic| walk_at "CompEnd") => `(tactic| (k_dflt (refine' LCg.CompEnd.intro ?F ?N _ (fun p hp => hp) ?o ?S ?r; (case F => k_asm); (case N => assumption); (case o => ((try simp only [LCg.Off3, and_true]); assumption)); (case S => exact Or.inr ⟨_, (by k_mem), rfl, _, rfl⟩))))
local macro_rules | `(tactic| walk_at "call builtin:sorted") => `(tactic| (k_dflt (refine' kso_sorted ?k1 ?k2 ?k3 ?k4 ?k5 ?_; (case k1 | k2 => k_asm); (case k3 => kso_list); (case k4 => assumption); (case k5 => (rw [List.length_map, rangeKs_length]; exact half64 (by assumption) (by assumption)))); intro D' v' n' c' h' F' N' l1 i' e' p' o' b'; (try k_lt l1)))
theorem Tv.segJ {w : World} {loose : List Str} {mean : ExcName → Option Value} {mg mb : Str → Option Value} {h₀ : Heap} {L fa : Nat} {cdv : Value} {script : List Int}
    {s : Shared} {d0 d1 d2 d3 d4 d5 d6 : Obj} {Q : Flow → Shared → Prop} {u : Str → Option Value} {a1 a2 b3 : Nat} {vc ys v3 : List Value} {kc kr k3 : Nat} {cells rs T3 : List Int} {c1 c2 n half step place share lift : Int} {t4 t5 t6 t8 : CbTok} {g : Int}
    (T : Top tvhd.view_39 loose mean mg mb h₀) (K0 : Below callerA h₀ [] h₀) (KX : (tvhd.heap_39 w.params).In h₀)
    (F : Fr h₀ L s.heap (kstB u [(Str.ofString "half", .int half t4), (Str.ofString "cells", .ref a1)]))
    (N : News h₀ L s.heap [(b3, listOf v3.toArray k3), (a2, listOf ys.toArray kr), (a1, listOf vc.toArray kc), (L + 1 + 1 + 1 + 1 + 1 + 1 + 1, d6), (L + 1 + 1 + 1 + 1 + 1 + 1, d5), (L + 1 + 1 + 1 + 1 + 1, d4), (L + 1 + 1 + 1 + 1, d3), (L + 1 + 1 + 1, d2), (L + 1 + 1, d1), (L + 1, d0)])
    (e0 : d0.data = .cell (some (.int n t5))) (e1 : d1.data = .cell (some (.int step t6))) (e2 : d2.data = .cell (some (.ref a2))) (e5 : d5.data = .cell (some (.ref b3))) (e6 : d6.data = .cell (some (.int g t8)))
    (hvc : IntsAre vc cells) (hcl : cells.length = 3) (hc1 : cells.getD (Int.toNat 1) 0 = c1) (hys : IntsAre ys rs)
    (hv3 : IntsAre v3 T3) (hT3 : T3 = (rangeKs 1 half.toNat).filter (toldB rs n))
    (l1 : L + 1 + 1 + 1 + 1 + 1 + 1 + 1 < a1) (l2 : a1 ≠ a2 ∧ L + 1 + 1 + 1 + 1 + 1 + 1 + 1 ≠ a2 ∧ L + 1 + 1 + 1 + 1 + 1 + 1 ≠ a2 ∧ L + 1 + 1 + 1 + 1 + 1 ≠ a2 ∧ L + 1 + 1 + 1 + 1 ≠ a2 ∧ L + 1 + 1 + 1 ≠ a2 ∧ L + 1 + 1 ≠ a2 ∧ L + 1 ≠ a2)
    (l5 : a2 ≠ b3 ∧ a1 ≠ b3 ∧ L + 1 + 1 + 1 + 1 + 1 + 1 + 1 ≠ b3 ∧ L + 1 + 1 + 1 + 1 + 1 + 1 ≠ b3 ∧ L + 1 + 1 + 1 + 1 + 1 ≠ b3 ∧ L + 1 + 1 + 1 + 1 ≠ b3 ∧ L + 1 + 1 + 1 ≠ b3 ∧ L + 1 + 1 ≠ b3 ∧ L + 1 ≠ b3)
    (hn3 : 3 ≤ n) (hn17 : n ≤ 17) (hhn : 2 * half + 1 = n) (hst0 : 0 ≤ step) (hstn : step < n) (hrl : (rs.length : Int) = n)
    (hg : g = Cm n step)
    (hM : Nums script c1 c2 n step place share lift rs)
    (hQ : ∀ h' tk m', Fr h₀ L h' m' → Q (.ret (.bool true)) { s with heap := h', toks := tk }) :
    wpAny (model Challenge.rw_tv0010_01.row.prog w) (callerA.deeper (lawEnv L fa cdv)) (execs (lawBody.drop 26) (lawEnv L fa cdv)) Q (fun _ _ => False) s := by
  k_with_none
  revert KX; k_fill; intro KX
  dsimp only [lawBody, lawBodyP, lawEnv, List.drop]
  dsimp only [kstB] at F
  have hT8 := len_T3 hT3 (by omega)
  have hSz : ∀ {Z : List Int}, Z.Perm ((rangeKs 1 (half + 1 - 1).toNat).map fun k' => if (T3.any fun x => x == k') = true then n - rs.getD k'.toNat 0 else if (T3.any fun x => x == k') = false then rs.getD k'.toNat 0 else k') → Z.Pairwise (· ≤ ·) → SzF n g Z (rangeKs 1 half.toNat) :=
    fun hp ho => sz_facts hM hn3 hn17 hhn hst0 hstn hT3 hg hp ho
  clear l1 l2 l5 hst0 hstn hn3 hM hT3 hg
  k_steps
  with_reducible refine Hold.mk ?_
  (rename Fr _ _ _ _ => F9)
  (rename News _ _ _ _ => N9)
  (rename List.Perm _ _ => hp)
  (rename List.Pairwise _ _ => ho)
  (rename IntsAre _ (rangeKs _ _) => hr)
  rw [show (half + 1 - 1).toNat = half.toNat from by rw [Int.add_sub_cancel]] at hr
  have N8 := news_sub (l' := _ :: _ :: (L + 1 + 1 + 1 + 1 + 1 + 1 + 1, d6) :: _) N9 (by
    intro p hp
    rcases List.mem_cons.mp hp with rfl | hp
    · exact .head _
    rcases List.mem_cons.mp hp with rfl | hp
    · exact .tail _ (.tail _ (.head _))
    exact .tail _ (.tail _ (.tail _ (.tail _ (.tail _ (.tail _ hp))))))
  refine' segK T K0 KX (fr_norm _ ?hk F9) N8 e6 (by assumption) hr (hSz hp ho) hQ
  case hk => kst_all
end

section
open PySem PySem.W PyProof.Rows Tv
local macro_rules | `(tactic| walk_at "execs cons") => `(tactic| ((with_reducible show wpAny _ _ (execs (Stmt.Assign [Expr.Name (Str.ofString "row") _] _ _ :: _) _) _ _ _); refine Hold.out ?_))
local macro_rules | `(tactic| walk_at "ite") => `(tactic| (refine Hold.out ?_))
local macro_rules | `(tactic| walk_at "execs nil") => `(tactic| ((refine wpAny_execs_nil ?_); (try dsimp only)))
theorem Tv.segI2 {w : World} {loose : List Str} {mean : ExcName → Option Value} {mg mb : Str → Option Value} {h₀ : Heap} {L fa : Nat} {cdv : Value} {script : List Int}
    {s : Shared} {d0 d1 d2 d3 d4 d5 d6 : Obj} {Q : Flow → Shared → Prop} {u : Str → Option Value} {a1 a2 b3 : Nat} {vc ys v3 : List Value} {kc kr k3 : Nat} {cells rs T3 : List Int} {c1 c2 n half step place share lift : Int} {t4 t5 t6 t7 t8 : CbTok} {g σ : Int}
    (T : Top tvhd.view_39 loose mean mg mb h₀) (K0 : Below callerA h₀ [] h₀) (KX : (tvhd.heap_39 w.params).In h₀)
    (F : Fr h₀ L s.heap (kstB u [(Str.ofString "sign", .int σ t7), (Str.ofString "half", .int half t4), (Str.ofString "cells", .ref a1)]))
    (N : News h₀ L s.heap [(b3, listOf v3.toArray k3), (a2, listOf ys.toArray kr), (a1, listOf vc.toArray kc), (L + 1 + 1 + 1 + 1 + 1 + 1 + 1, d6), (L + 1 + 1 + 1 + 1 + 1 + 1, d5), (L + 1 + 1 + 1 + 1 + 1, d4), (L + 1 + 1 + 1 + 1, d3), (L + 1 + 1 + 1, d2), (L + 1 + 1, d1), (L + 1, d0)])
    (e0 : d0.data = .cell (some (.int n t5))) (e1 : d1.data = .cell (some (.int step t6))) (e2 : d2.data = .cell (some (.ref a2))) (e5 : d5.data = .cell (some (.ref b3))) (e6 : d6.data = .cell (some (.int g t8)))
    (hvc : IntsAre vc cells) (hcl : cells.length = 3) (hc1 : cells.getD (Int.toNat 1) 0 = c1) (hys : IntsAre ys rs)
    (hv3 : IntsAre v3 T3) (hT3 : T3 = (rangeKs 1 half.toNat).filter (toldB rs n))
    (l1 : L + 1 + 1 + 1 + 1 + 1 + 1 + 1 < a1) (l2 : a1 ≠ a2 ∧ L + 1 + 1 + 1 + 1 + 1 + 1 + 1 ≠ a2 ∧ L + 1 + 1 + 1 + 1 + 1 + 1 ≠ a2 ∧ L + 1 + 1 + 1 + 1 + 1 ≠ a2 ∧ L + 1 + 1 + 1 + 1 ≠ a2 ∧ L + 1 + 1 + 1 ≠ a2 ∧ L + 1 + 1 ≠ a2 ∧ L + 1 ≠ a2)
    (l5 : a2 ≠ b3 ∧ a1 ≠ b3 ∧ L + 1 + 1 + 1 + 1 + 1 + 1 + 1 ≠ b3 ∧ L + 1 + 1 + 1 + 1 + 1 + 1 ≠ b3 ∧ L + 1 + 1 + 1 + 1 + 1 ≠ b3 ∧ L + 1 + 1 + 1 + 1 ≠ b3 ∧ L + 1 + 1 + 1 ≠ b3 ∧ L + 1 + 1 ≠ b3 ∧ L + 1 ≠ b3)
    (hn3 : 3 ≤ n) (hn17 : n ≤ 17) (hhn : 2 * half + 1 = n) (hst0 : 0 ≤ step) (hstn : step < n) (hrl : (rs.length : Int) = n)
    (hg : g = Cm n step) (hpar : T3.length % 2 = 0 ↔ σ = 1)
    (hM : Nums script c1 c2 n step place share lift rs)
    (hQ : ∀ h' tk m', Fr h₀ L h' m' → Q (.ret (.bool true)) { s with heap := h', toks := tk }) :
    wpAny (model Challenge.rw_tv0010_01.row.prog w) (callerA.deeper (lawEnv L fa cdv)) (execs (lawBody.drop 25) (lawEnv L fa cdv)) Q (fun _ _ => False) s := by
  k_with_none
  revert KX; k_fill; intro KX
  dsimp only [lawBody, lawBodyP, lawEnv, List.drop]
  dsimp only [kstB] at F
  have hend : ∀ {s' : Shared} {u' : Str → Option Value}, (∀ h' tk m', Fr h₀ L h' m' → Q (.ret (.bool true)) { s' with heap := h', toks := tk }) → Fr h₀ L s'.heap (kstB u' [(Str.ofString "half", .int half t4), (Str.ofString "cells", .ref a1)]) →
      News h₀ L s'.heap [(b3, listOf v3.toArray k3), (a2, listOf ys.toArray kr), (a1, listOf vc.toArray kc), (L + 1 + 1 + 1 + 1 + 1 + 1 + 1, d6), (L + 1 + 1 + 1 + 1 + 1 + 1, d5), (L + 1 + 1 + 1 + 1 + 1, d4), (L + 1 + 1 + 1 + 1, d3), (L + 1 + 1 + 1, d2), (L + 1 + 1, d1), (L + 1, d0)] →
      wpAny (model Challenge.rw_tv0010_01.row.prog w) (callerA.deeper (lawEnv L fa cdv)) (execs (lawBody.drop 26) (lawEnv L fa cdv)) Q (fun _ _ => False) s' := fun hQ' F' N' =>
    segJ T K0 KX F' N' e0 e1 e2 e5 e6 hvc hcl hc1 hys hv3 hT3 l1 l2 l5 hn3 hn17 hhn hst0 hstn hrl hg hM hQ'
  have hT8 := len_T3 hT3 (by omega)
  clear l1 l2 l5 hM hT3 hn3 hn17 hhn hst0 hstn hg
  k_steps
  with_reducible refine Hold.mk ?_
  have hpc := par_cond hpar
  rw [hpc]
  clear hpc hpar
  refine ite_lit' ?_
  k_steps
  with_reducible refine Hold.mk ?_
  (rename Fr _ _ _ _ => F9)
  (rename News _ _ _ _ => N9)
  refine' hend hQ (fr_norm _ ?hk F9) N9
  case hk => kst_all
end

section
open PySem PySem.W PyProof.Rows Tv
local macro_rules | `(tactic| walk_at "call ref") => `(tactic| (k_here; k_dflt (refine' com_law_g ?k1 ?k2 ?k3 ?k4 ?k5 ?k6 ?k7 ?_; (case k1 | k2 | k3 | k4 | k5 | k6 => assumption); (case k7 => omega)); intro t9 h9 tk9 F9 N9; (try dsimp only)))
local macro_rules | `(tactic| walk_at "call ref") => `(tactic| (k_here; k_dflt (refine' sym_law_g ?k1 ?k2 ?k3 ?k4 ?k5 ?k6 ?k7 ?_; (case k1 | k2 | k3 | k4 | k5 | k6 | k7 => assumption)); intro t9 h9 tk9 F9 N9; (try dsimp only)))
local macro_rules | `(tactic| walk_at "execs cons") => `(tactic| ((fail_if_success (have : Mark 1 := by assumption)); (with_reducible show wpAny _ _ (execs (Stmt.If _ _ _ _ :: _) _) _ _ _); refine Hold.out ?_))
local macro_rules | `(tactic| walk_at "execs cons") => `(tactic| ((with_reducible show wpAny _ _ (execs (Stmt.If (Expr.Compare _ _ _ _) _ _ _ :: _) _) _ _ _); refine Hold.out ?_))
local macro_rules | `(tactic| walk_at "ite") => `(tactic| (refine Hold.out ?_))
local macro_rules | `(tactic| walk_at "unaryOp USub int") => `(tactic| (refine Hold.out ?_))
local macro_rules | `(tactic| walk_at "execs nil") => `(tactic| ((refine wpAny_execs_nil ?_); (try dsimp only)))
theorem Tv.segI {w : World} {loose : List Str} {mean : ExcName → Option Value} {mg mb : Str → Option Value} {h₀ : Heap} {L fa : Nat} {cdv : Value} {script : List Int}
    {s : Shared} {d0 d1 d2 d3 d4 d5 d6 : Obj} {Q : Flow → Shared → Prop} {u : Str → Option Value} {a1 a2 b3 : Nat} {vc ys v3 : List Value} {kc kr k3 : Nat} {cells rs T3 : List Int} {c1 c2 n half step place share lift : Int} {t4 t5 t6 : CbTok}
    (T : Top tvhd.view_39 loose mean mg mb h₀) (K0 : Below callerA h₀ [] h₀) (KX : (tvhd.heap_39 w.params).In h₀)
    (F : Fr h₀ L s.heap (kstB u [(Str.ofString "half", .int half t4), (Str.ofString "cells", .ref a1)]))
    (N : News h₀ L s.heap [(b3, listOf v3.toArray k3), (a2, listOf ys.toArray kr), (a1, listOf vc.toArray kc), (L + 1 + 1 + 1 + 1 + 1 + 1 + 1, d6), (L + 1 + 1 + 1 + 1 + 1 + 1, d5), (L + 1 + 1 + 1 + 1 + 1, d4), (L + 1 + 1 + 1 + 1, d3), (L + 1 + 1 + 1, d2), (L + 1 + 1, d1), (L + 1, d0)])
    (e0 : d0.data = .cell (some (.int n t5))) (e1 : d1.data = .cell (some (.int step t6))) (e2 : d2.data = .cell (some (.ref a2))) (e5 : d5.data = .cell (some (.ref b3))) (e6 : d6.data = .cell none)
    (hvc : IntsAre vc cells) (hcl : cells.length = 3) (hc1 : cells.getD (Int.toNat 1) 0 = c1) (hys : IntsAre ys rs)
    (hv3 : IntsAre v3 T3) (hT3 : T3 = (rangeKs 1 half.toNat).filter (toldB rs n))
    (l1 : L + 1 + 1 + 1 + 1 + 1 + 1 + 1 < a1) (l2 : a1 ≠ a2 ∧ L + 1 + 1 + 1 + 1 + 1 + 1 + 1 ≠ a2 ∧ L + 1 + 1 + 1 + 1 + 1 + 1 ≠ a2 ∧ L + 1 + 1 + 1 + 1 + 1 ≠ a2 ∧ L + 1 + 1 + 1 + 1 ≠ a2 ∧ L + 1 + 1 + 1 ≠ a2 ∧ L + 1 + 1 ≠ a2 ∧ L + 1 ≠ a2)
    (l5 : a2 ≠ b3 ∧ a1 ≠ b3 ∧ L + 1 + 1 + 1 + 1 + 1 + 1 + 1 ≠ b3 ∧ L + 1 + 1 + 1 + 1 + 1 + 1 ≠ b3 ∧ L + 1 + 1 + 1 + 1 + 1 ≠ b3 ∧ L + 1 + 1 + 1 + 1 ≠ b3 ∧ L + 1 + 1 + 1 ≠ b3 ∧ L + 1 + 1 ≠ b3 ∧ L + 1 ≠ b3)
    (hn3 : 3 ≤ n) (hn17 : n ≤ 17) (hhn : 2 * half + 1 = n) (hst0 : 0 ≤ step) (hstn : step < n) (hrl : (rs.length : Int) = n)
    (hM : Nums script c1 c2 n step place share lift rs)
    (hQ : ∀ h' tk m', Fr h₀ L h' m' → Q (.ret (.bool true)) { s with heap := h', toks := tk }) :
    wpAny (model Challenge.rw_tv0010_01.row.prog w) (callerA.deeper (lawEnv L fa cdv)) (execs (lawBody.drop 22) (lawEnv L fa cdv)) Q (fun _ _ => False) s := by
  k_with_none
  revert KX; k_fill; intro KX
  dsimp only [lawBody, lawBodyP, lawEnv, List.drop]
  dsimp only [kstB] at F
  obtain ⟨g, hg⟩ : ∃ g, Cm (cells.getD (Int.toNat 1) 0) n = g := ⟨_, rfl⟩
  obtain ⟨σ, hσ⟩ : ∃ σ, J (((cells.getD (Int.toNat 1) 0).fdiv g).fmod (n.fdiv g)) (n.fdiv g) 1 = σ := ⟨_, rfl⟩
  obtain ⟨⟨hg0, hgn, hgs, hb0⟩, hp1, hp2, hp3⟩ := seg_facts (g := g) (σ := σ) hM hn3 hn17 hhn hst0 hstn hT3 (by rw [← hc1]; exact hg) (by rw [← hc1]; exact hσ)
  k_steps
  with_reducible refine Hold.mk ?_
  have mk1 : Mark 1 := ⟨⟩
  have hend : ∀ {s' : Shared} {u' : Str → Option Value} {σ' : Int} {t7 t8 : CbTok} {d6' : Obj}, (∀ h' tk m', Fr h₀ L h' m' → Q (.ret (.bool true)) { s' with heap := h', toks := tk }) → (T3.length % 2 = 0 ↔ σ' = 1) → d6'.data = .cell (some (.int g t8)) → Fr h₀ L s'.heap (kstB u' [(Str.ofString "sign", .int σ' t7), (Str.ofString "half", .int half t4), (Str.ofString "cells", .ref a1)]) →
      News h₀ L s'.heap [(b3, listOf v3.toArray k3), (a2, listOf ys.toArray kr), (a1, listOf vc.toArray kc), (L + 1 + 1 + 1 + 1 + 1 + 1 + 1, d6'), (L + 1 + 1 + 1 + 1 + 1 + 1, d5), (L + 1 + 1 + 1 + 1 + 1, d4), (L + 1 + 1 + 1 + 1, d3), (L + 1 + 1 + 1, d2), (L + 1 + 1, d1), (L + 1, d0)] →
      wpAny (model Challenge.rw_tv0010_01.row.prog w) (callerA.deeper (lawEnv L fa cdv)) (execs (lawBody.drop 25) (lawEnv L fa cdv)) Q (fun _ _ => False) s' := fun hQ' hpar e6' F' N' =>
    segI2 T K0 KX F' N' e0 e1 e2 e5 e6' hvc hcl hc1 hys hv3 hT3 l1 l2 l5 hn3 hn17 hhn hst0 hstn hrl hgs hpar hM hQ'
  clear l1 l2 l5 hM hσ hg hT3 hgn hn3 hn17 hhn hst0 hstn
  k_steps
  with_reducible refine Hold.mk ?_
  refine ite_cases ?_ ?_
  all_goals intro hc
  focus
    k_steps
    with_reducible refine Hold.mk ?_
    refine ite_cases ?_ ?_
    all_goals intro hc2
    focus
      have q := hp1 hc hc2
      clear hp1 hp2 hp3 hc hc2
      k_steps
      with_reducible refine Hold.mk ?_
      refine ite_lit ?_
      refine wpAny_execs_cons ?_
      refine wpAny_Assign_Name ?_
      refine UnaryOp_ ?_
      k_steps
      with_reducible refine Hold.mk ?_
      refine neg_int ?_
      k_steps
      with_reducible refine Hold.mk ?_
      (rename Fr _ _ _ _ => F9)
      (rename News _ _ _ _ => N9)
      refine' hend hQ q (by assumption) (fr_norm _ ?hk F9) N9
      case hk => kst_all
    focus
      have q := hp2 hc hc2
      clear hp1 hp2 hp3 hc hc2
      refine ite_lit' ?_
      k_steps
      with_reducible refine Hold.mk ?_
      (rename Fr _ _ _ _ => F9)
      (rename News _ _ _ _ => N9)
      refine' hend hQ q (by assumption) (fr_norm _ ?hk F9) N9
      case hk => kst_all
  focus
    have q := hp3 hc
    clear hp1 hp2 hp3 hc
    refine ite_lit' ?_
    k_steps
    with_reducible refine Hold.mk ?_
    (rename Fr _ _ _ _ => F9)
    (rename News _ _ _ _ => N9)
    refine' hend hQ q (by assumption) (fr_norm _ ?hk F9) N9
    case hk => kst_all
end

section
open PySem PySem.W PyProof.Rows Tv
local macro_rules | `(tactic| walk_at "call builtin:list.append") => `(tactic| (refine Hold.out ?_))
local macro_rules | `(tactic| walk_at "call builtin:list.append") => `(tactic| (k_here; (with_reducible rename _ < _ ∧ _ < _ ∧ _ => l1X); k_dflt (refine' append_K ?k1 ?k2 (Upd.tail ?a (Upd.head ?b)) ?_ ?z; (case k1 | k2 => k_asm); (case a => exact Nat.ne_of_gt l1X.1); (case b => assumption); (case z => (rw [List.size_toArray, sizeLine_eq]; omega))); intro h' F' N'; (try k_sweep)))
local macro_rules | `(tactic| walk_at "call builtin:list.append") => `(tactic| (k_here; k_dflt (refine' append_K ?k1 ?k2 (Upd.head ?b) ?_ ?z; (case k1 | k2 => k_asm); (case b => assumption); (case z => (rw [List.size_toArray, sizeLine_eq]; omega))); intro h' F' N'; (try k_sweep)))
local macro_rules | `(tactic| walk_at "call builtin:hex") => `(tactic| (k_dflt (refine P.hex_of_int ?_ (share_len (by assumption) (by assumption)).2)))
local macro_rules | `(tactic| walk_at "binaryOp Add str str") => `(tactic| (k_dflt (refine PyProof.Rows.add_str ?_ (share_len (by assumption) (by assumption)).1); intro _ _))
local macro_rules | `(tactic| walk_at "compareOp Eq ref ref") => `(tactic| (refine Hold.out ?_))
local macro_rules | `(tactic| walk_at "compareOp Eq ref ref") => `(tactic| (k_dflt (refine' eq_strs_nil ?a ?b ?c ?d ?e ?_; (case a | b => is_list); (case c => first | exact strsAre_push (by assumption) | assumption); (case d => first | exact words_ok | exact words_ok2); (case e => ke_room))))
local macro_rules | `(tactic| walk_at "call builtin:str.join") => `(tactic| (refine Hold.out ?_))
local macro_rules | `(tactic| walk_at "execs cons") => `(tactic| ((with_reducible show wpAny _ _ (execs (Stmt.Assign [Expr.Name (Str.ofString "common") _] _ _ :: _) _) _ _ _); refine Hold.out ?_))
theorem Tv.segH {w : World} {loose : List Str} {mean : ExcName → Option Value} {mg mb : Str → Option Value} {h₀ : Heap} {L fa : Nat} {cdv : Value} {script : List Int}
    {s : Shared} {d0 d1 d2 d3 d4 d5 d6 : Obj} {Q : Flow → Shared → Prop} {u : Str → Option Value} {a1 a2 b3 b4 : Nat} {vc ys v3 vd : List Value} {kc kr k3 kd : Nat} {cells rs T3 : List Int} {c1 c2 n half step place share lift : Int} {t1 t2 t4 t5 t6 : CbTok} {low : Int}
    (T : Top tvhd.view_39 loose mean mg mb h₀) (K0 : Below callerA h₀ [] h₀) (KX : (tvhd.heap_39 w.params).In h₀)
    (hf : (baseText "0x" 16 (share * 2 ^ 32)).length ≤ 1000000) (low0 : 0 ≤ low) (low1 : low < 2 ^ 32)
    (F : Fr h₀ L s.heap (kstB u [(Str.ofString "due", .ref b4), (Str.ofString "text", .str (Txt.join (Str.ofString ", ") (pfNames share low)) t1), (Str.ofString "share", .int share t2), (Str.ofString "half", .int half t4), (Str.ofString "cells", .ref a1)]))
    (N : News h₀ L s.heap [(b4, listOf vd.toArray kd), (b3, listOf v3.toArray k3), (a2, listOf ys.toArray kr), (a1, listOf vc.toArray kc), (L + 1 + 1 + 1 + 1 + 1 + 1 + 1, d6), (L + 1 + 1 + 1 + 1 + 1 + 1, d5), (L + 1 + 1 + 1 + 1 + 1, d4), (L + 1 + 1 + 1 + 1, d3), (L + 1 + 1 + 1, d2), (L + 1 + 1, d1), (L + 1, d0)])
    (e0 : d0.data = .cell (some (.int n t5))) (e1 : d1.data = .cell (some (.int step t6))) (e2 : d2.data = .cell (some (.ref a2))) (e5 : d5.data = .cell (some (.ref b3))) (e6 : d6.data = .cell none)
    (hvc : IntsAre vc cells) (hcl : cells.length = 3) (hc1 : cells.getD (Int.toNat 1) 0 = c1) (hys : IntsAre ys rs)
    (hvd : StrsAre vd (pfWords low 32)) (hv3 : IntsAre v3 T3) (hT3 : T3 = (rangeKs 1 half.toNat).filter (toldB rs n))
    (l1 : L + 1 + 1 + 1 + 1 + 1 + 1 + 1 < a1) (l2 : a1 ≠ a2 ∧ L + 1 + 1 + 1 + 1 + 1 + 1 + 1 ≠ a2 ∧ L + 1 + 1 + 1 + 1 + 1 + 1 ≠ a2 ∧ L + 1 + 1 + 1 + 1 + 1 ≠ a2 ∧ L + 1 + 1 + 1 + 1 ≠ a2 ∧ L + 1 + 1 + 1 ≠ a2 ∧ L + 1 + 1 ≠ a2 ∧ L + 1 ≠ a2)
    (l5 : a2 ≠ b3 ∧ a1 ≠ b3 ∧ L + 1 + 1 + 1 + 1 + 1 + 1 + 1 ≠ b3 ∧ L + 1 + 1 + 1 + 1 + 1 + 1 ≠ b3 ∧ L + 1 + 1 + 1 + 1 + 1 ≠ b3 ∧ L + 1 + 1 + 1 + 1 ≠ b3 ∧ L + 1 + 1 + 1 ≠ b3 ∧ L + 1 + 1 ≠ b3 ∧ L + 1 ≠ b3)
    (l6 : b3 ≠ b4 ∧ a2 ≠ b4 ∧ a1 ≠ b4 ∧ L + 1 + 1 + 1 + 1 + 1 + 1 + 1 ≠ b4 ∧ L + 1 + 1 + 1 + 1 + 1 + 1 ≠ b4 ∧ L + 1 + 1 + 1 + 1 + 1 ≠ b4 ∧ L + 1 + 1 + 1 + 1 ≠ b4 ∧ L + 1 + 1 + 1 ≠ b4 ∧ L + 1 + 1 ≠ b4 ∧ L + 1 ≠ b4)
    (hn3 : 3 ≤ n) (hn17 : n ≤ 17) (hhn : 2 * half + 1 = n) (hst0 : 0 ≤ step) (hstn : step < n) (hrl : (rs.length : Int) = n)
    (hM : Nums script c1 c2 n step place share lift rs)
    (hQ : ∀ h' tk m', Fr h₀ L h' m' → Q (.ret (.bool true)) { s with heap := h', toks := tk }) :
    wpAny (model Challenge.rw_tv0010_01.row.prog w) (callerA.deeper (lawEnv L fa cdv)) (execs (lawBody.drop 19) (lawEnv L fa cdv)) Q (fun _ _ => False) s := by
  k_with_none
  revert KX; k_fill; intro KX
  dsimp only [lawBody, lawBodyP, lawEnv, List.drop]
  dsimp only [kstB] at F
  have hvl : vd.length ≤ 32 := by rw [hvd.length]; exact pfWords_len low 32
  have hne4 : ∀ p ∈ [(b3, listOf v3.toArray k3), (a2, listOf ys.toArray kr), (a1, listOf vc.toArray kc), (L + 1 + 1 + 1 + 1 + 1 + 1 + 1, d6), (L + 1 + 1 + 1 + 1 + 1 + 1, d5), (L + 1 + 1 + 1 + 1 + 1, d4), (L + 1 + 1 + 1 + 1, d3), (L + 1 + 1 + 1, d2), (L + 1 + 1, d1), (L + 1, d0)], @Ne Nat p.1 b4 := by k_all
  k_steps
  · (rename pfWords low 32 ++ _ = [] => hab)
    simp at hab
  all_goals with_reducible refine Hold.mk ?_
  focus
    (rename share ≠ 0 => hs)
    (rename News _ _ _ _ => N9)
    refine join_list (ys := pfNames share low) (PySem.IsL.isList (N9 _ (.tail _ (.head _))).1) (by rw [← due_hex hs]; exact strsAre_push hvd) (names_ok hf) ?_
    intro t' k'
    k_steps
    focus
      (rename (_ != _) = true => hx)
      simp at hx
  rotate_left 1
  focus
    (rename News _ _ _ _ => N9)
    (rename pfWords low 32 = [] => hab)
    refine join_list (ys := pfNames share low) (PySem.IsL.isList (N9 _ (.tail _ (.head _))).1) (by rw [← due_nil low0 low1 (by omega) hab]; exact strsAre_push hvd) (names_ok hf) ?_
    intro t' k'
    k_steps
    focus
      (rename (_ != _) = true => hx)
      simp at hx
  rotate_left 1
  focus
    (rename News _ _ _ _ => N9)
    refine join_list (ys := pfNames share low) (PySem.IsL.isList (N9 _ (.tail _ (.head _))).1) (by rw [← due_some (by omega) (by assumption)]; exact hvd) (names_ok hf) ?_
    intro t' k'
    k_steps
    focus
      (rename (_ != _) = true => hx)
      simp at hx
  all_goals with_reducible refine Hold.mk ?_
  all_goals (
    (rename Fr _ _ _ _ => F9)
    (rename News _ _ _ _ => N9)
    have N8 := news_sub (l' := (b3, _) :: _) N9 fun p hp => .tail _ (.tail _ hp)
    refine' segI T K0 KX (fr_norm _ ?hk F9) N8 e0 e1 e2 e5 e6 hvc hcl hc1 (by assumption) (by assumption) hT3 l1 l2 l5 hn3 hn17 hhn hst0 hstn hrl hM hQ
    case hk => kst_all)
end

section
open PySem PySem.W PyProof.Rows Tv
local macro_rules | `(tactic| walk_at "CompSrc") => `(tactic| (k_here; k_dflt (refine LCg.CompSrc.ledger (by rfl) (by k_asm) (by k_asm) (by k_mem) (kmk_sz (by assumption) (Nat.le_trans (by assumption) (by decide : 8 ≤ sizeLine))) ?_; intro g'; (refine' kct_list (fun k => pfWord (_ + k - 1).toNat) (by assumption) (fun k' t' I' oI' C' oC' D' m' ys' h' tk' E' hk' hC' hx' F' N' off' ne' => ?_) ?_); (all_goals (try (simp only [LCg.Off3, and_true] at off'))); (all_goals (try ((show KPfMark → _); intro hMark'))); kcf_last)))
local macro_rules | `(tactic| walk_at "subscriptTail Name BinOp ref int") => `(tactic| (k_here; k_dflt (refine' item_W ?k1 ?k2 ?k3 ?k4 ?k5 ?k6 ?k7 ?_; (case k1 => k_asm); (case k2 => k_mem); (case k3 | k4 => assumption); (case k5 => exact (mem_T3 (by assumption) (by assumption) (by assumption)).1); (case k6 => exact (mem_T3 (by assumption) (by assumption) (by assumption)).2); (case k7 => assumption)); intro t9))
local macro_rules | `(tactic| walk_at "CompEnd") => `(tactic| (k_dflt (refine' LCg.CompEnd.intro ?F ?N _ (fun p hp => hp) ?o ?S ?r; (case F => k_asm); (case N => assumption); (case o => ((try simp only [LCg.Off3, and_true]); assumption)); (case S => exact Or.inr ⟨_, (by k_mem), rfl, _, rfl⟩))))
local macro_rules | `(tactic| walk_at "execs cons") => `(tactic| ((with_reducible show wpAny _ _ (execs (Stmt.If (Expr.Compare (Expr.Name (Str.ofString "share") _) _ _ _) _ _ _ :: _) _) _ _ _); refine Hold.out ?_))
theorem Tv.segG {w : World} {loose : List Str} {mean : ExcName → Option Value} {mg mb : Str → Option Value} {h₀ : Heap} {L fa : Nat} {cdv : Value} {script : List Int}
    {s : Shared} {d0 d1 d2 d3 d4 d5 d6 : Obj} {Q : Flow → Shared → Prop} {u : Str → Option Value} {a1 a2 b1 b2 b3 : Nat} {vc ys v1 v2 v3 : List Value} {kc kr k3 : Nat} {cells rs T3 : List Int} {c1 c2 n half step place share lift : Int} {t1 t2 t4 t5 t6 : CbTok} {low : Int}
    (T : Top tvhd.view_39 loose mean mg mb h₀) (K0 : Below callerA h₀ [] h₀) (KX : (tvhd.heap_39 w.params).In h₀)
    (hf : (baseText "0x" 16 (share * 2 ^ 32)).length ≤ 1000000) (low0 : 0 ≤ low) (low1 : low < 2 ^ 32) (lowW : pfWords low 32 = T3.map fun x => pfWord (place + x - 1).toNat)
    (F : Fr h₀ L s.heap (kstB u [(Str.ofString "text", .str (Txt.join (Str.ofString ", ") (pfNames share low)) t1), (Str.ofString "share", .int share t2), (Str.ofString "half", .int half t4), (Str.ofString "cells", .ref a1)]))
    (N : News h₀ L s.heap [(b3, listOf v3.toArray k3), (b2, listOf v2.toArray 0), (b1, listOf v1.toArray 0), (a2, listOf ys.toArray kr), (a1, listOf vc.toArray kc), (L + 1 + 1 + 1 + 1 + 1 + 1 + 1, d6), (L + 1 + 1 + 1 + 1 + 1 + 1, d5), (L + 1 + 1 + 1 + 1 + 1, d4), (L + 1 + 1 + 1 + 1, d3), (L + 1 + 1 + 1, d2), (L + 1 + 1, d1), (L + 1, d0)])
    (e0 : d0.data = .cell (some (.int n t5))) (e1 : d1.data = .cell (some (.int step t6))) (e2 : d2.data = .cell (some (.ref a2))) (e3 : d3.data = .cell (some (.ref b1))) (e4 : d4.data = .cell (some (.ref b2))) (e5 : d5.data = .cell (some (.ref b3))) (e6 : d6.data = .cell none)
    (hvc : IntsAre vc cells) (hcl : cells.length = 3) (hc1 : cells.getD (Int.toNat 1) 0 = c1) (hys : IntsAre ys rs)
    (hv1 : StrsAre v1 ((wordsL.drop place.toNat).take half.toNat)) (hv3 : IntsAre v3 T3) (hT3 : T3 = (rangeKs 1 half.toNat).filter (toldB rs n))
    (l1 : L + 1 + 1 + 1 + 1 + 1 + 1 + 1 < a1) (l2 : a1 ≠ a2 ∧ L + 1 + 1 + 1 + 1 + 1 + 1 + 1 ≠ a2 ∧ L + 1 + 1 + 1 + 1 + 1 + 1 ≠ a2 ∧ L + 1 + 1 + 1 + 1 + 1 ≠ a2 ∧ L + 1 + 1 + 1 + 1 ≠ a2 ∧ L + 1 + 1 + 1 ≠ a2 ∧ L + 1 + 1 ≠ a2 ∧ L + 1 ≠ a2)
    (l3 : a2 < b1 ∧ a1 < b1) (l4 : b1 < b2 ∧ a2 < b2 ∧ a1 < b2) (l5 : b2 ≠ b3 ∧ b1 ≠ b3 ∧ a2 ≠ b3 ∧ a1 ≠ b3 ∧ L + 1 + 1 + 1 + 1 + 1 + 1 + 1 ≠ b3 ∧ L + 1 + 1 + 1 + 1 + 1 + 1 ≠ b3 ∧ L + 1 + 1 + 1 + 1 + 1 ≠ b3 ∧ L + 1 + 1 + 1 + 1 ≠ b3 ∧ L + 1 + 1 + 1 ≠ b3 ∧ L + 1 + 1 ≠ b3 ∧ L + 1 ≠ b3)
    (hn3 : 3 ≤ n) (hn17 : n ≤ 17) (hhn : 2 * half + 1 = n) (hst0 : 0 ≤ step) (hstn : step < n) (hpl0 : 0 ≤ place) (hpl24 : place ≤ 24) (hrl : (rs.length : Int) = n)
    (hM : Nums script c1 c2 n step place share lift rs)
    (hQ : ∀ h' tk m', Fr h₀ L h' m' → Q (.ret (.bool true)) { s with heap := h', toks := tk }) :
    wpAny (model Challenge.rw_tv0010_01.row.prog w) (callerA.deeper (lawEnv L fa cdv)) (execs (lawBody.drop 18) (lawEnv L fa cdv)) Q (fun _ _ => False) s := by
  k_with_none
  revert KX; k_fill; intro KX
  dsimp only [lawBody, lawBodyP, lawEnv, List.drop]
  dsimp only [kstB] at F
  have h8 : half ≤ 8 := by omega
  have h0h : 0 ≤ half := by omega
  have hWt := wAt hpl0 hpl24 h0h h8
  have hT8 := len_T3 hT3 h8
  obtain ⟨W, hWe⟩ : ∃ W, (wordsL.drop place.toNat).take half.toNat = W := ⟨_, rfl⟩
  rw [hWe] at hv1 hWt
  k_steps
  refine Hold.mk ?_
  (rename Fr _ _ _ _ => F9)
  (rename News _ _ _ _ => N9)
  (rename CarriedAll _ _ => hCA)
  have hvd := CarriedAll.strsOf (f := fun k => pfWord (place + k - 1).toNat) hCA
  rw [← lowW] at hvd
  (rename b3 ≠ _ ∧ _ => l6)
  have N8 := news_sub (l' := _ :: _ :: (a2, _) :: _) N9 (by
    intro p hp
    rcases List.mem_cons.mp hp with rfl | hp
    · exact .head _
    rcases List.mem_cons.mp hp with rfl | hp
    · exact .tail _ (.head _)
    exact .tail _ (.tail _ (.tail _ (.tail _ hp))))
  refine' segH T K0 KX hf low0 low1 (fr_norm _ ?hk F9) N8 e0 e1 e2 e5 e6 hvc hcl hc1 (by assumption) hvd (by assumption) hT3 l1 l2 l5.2.2 ⟨l6.1, l6.2.2.2⟩ hn3 hn17 hhn hst0 hstn hrl hM hQ
  case hk => kst_all
end

section
open PySem PySem.W PyProof.Rows Tv
local macro_rules | `(tactic| walk_at "subscriptTail Name BinOp ref int") => `(tactic| (k_here; k_dflt (refine' item_W ?k1 ?k2 ?k3 ?k4 ?k5 ?k6 ?k7 ?_; (case k1 => k_asm); (case k2 => k_mem); (case k3 | k4 | k5 => assumption); (case k6 => exact range_hi (by assumption) (by assumption)); (case k7 => assumption)); intro t9))
local macro_rules | `(tactic| walk_at "CompEnd") => `(tactic| (refine Hold.out ?_))
local macro_rules | `(tactic| walk_at "CompEnd") => `(tactic| (k_dflt (refine' LCg.CompEnd.intro ?F ?N _ (fun p hp => hp) ?o ?S ?r; (case F => k_asm); (case N => assumption); (case o => ((try simp only [LCg.Off3, and_true]); assumption)); (case S => trivial))))
local macro_rules | `(tactic| walk_at "KCiNo") => `(tactic| (exact kci_no (if_neg (ne_true_of_eq_false (by assumption))) rfl))
local macro_rules | `(tactic| walk_at "execs cons") => `(tactic| ((with_reducible show wpAny _ _ (execs (Stmt.Assign [Expr.Name (Str.ofString "due") _] _ _ :: _) _) _ _ _); refine Hold.out ?_))
local macro_rules | `(tactic| walk_at "execs cons Assign cons") => `(tactic| ((with_reducible show wpAny _ _ (execs (Stmt.Assign [Expr.Name (Str.ofString "due") _] _ _ :: _) _) _ _ _); refine Hold.out ?_))
theorem Tv.segE {w : World} {loose : List Str} {mean : ExcName → Option Value} {mg mb : Str → Option Value} {h₀ : Heap} {L fa : Nat} {cdv : Value} {script : List Int}
    {s : Shared} {d0 d1 d2 d3 d4 d5 d6 : Obj} {Q : Flow → Shared → Prop} {u : Str → Option Value} {a1 a2 b1 b2 : Nat} {vc ys v1 v2 : List Value} {kc kr : Nat} {cells rs : List Int} {c1 c2 n half step place share lift : Int} {t1 t2 t4 t5 t6 : CbTok} {low : Int}
    (T : Top tvhd.view_39 loose mean mg mb h₀) (K0 : Below callerA h₀ [] h₀) (KX : (tvhd.heap_39 w.params).In h₀)
    (hf : (baseText "0x" 16 (share * 2 ^ 32)).length ≤ 1000000) (low0 : 0 ≤ low) (low1 : low < 2 ^ 32) (lowW : pfWords low 32 = ((rangeKs 1 half.toNat).filter (toldB rs n)).map fun x => pfWord (place + x - 1).toNat)
    (F : Fr h₀ L s.heap (kstB u [(Str.ofString "text", .str (Txt.join (Str.ofString ", ") (pfNames share low)) t1), (Str.ofString "share", .int share t2), (Str.ofString "half", .int half t4), (Str.ofString "cells", .ref a1)]))
    (N : News h₀ L s.heap [(b2, listOf v2.toArray 0), (b1, listOf v1.toArray 0), (a2, listOf ys.toArray kr), (a1, listOf vc.toArray kc), (L + 1 + 1 + 1 + 1 + 1 + 1 + 1, d6), (L + 1 + 1 + 1 + 1 + 1 + 1, d5), (L + 1 + 1 + 1 + 1 + 1, d4), (L + 1 + 1 + 1 + 1, d3), (L + 1 + 1 + 1, d2), (L + 1 + 1, d1), (L + 1, d0)])
    (e0 : d0.data = .cell (some (.int n t5))) (e1 : d1.data = .cell (some (.int step t6))) (e2 : d2.data = .cell (some (.ref a2))) (e3 : d3.data = .cell (some (.ref b1))) (e4 : d4.data = .cell (some (.ref b2))) (e5 : d5.data = .cell none) (e6 : d6.data = .cell none)
    (hvc : IntsAre vc cells) (hcl : cells.length = 3) (hc1 : cells.getD (Int.toNat 1) 0 = c1) (hys : IntsAre ys rs)
    (hv1 : StrsAre v1 ((wordsL.drop place.toNat).take half.toNat)) (hv2 : StrsAre v2 (pfNames share low))
    (l1 : L + 1 + 1 + 1 + 1 + 1 + 1 + 1 < a1) (l2 : a1 ≠ a2 ∧ L + 1 + 1 + 1 + 1 + 1 + 1 + 1 ≠ a2 ∧ L + 1 + 1 + 1 + 1 + 1 + 1 ≠ a2 ∧ L + 1 + 1 + 1 + 1 + 1 ≠ a2 ∧ L + 1 + 1 + 1 + 1 ≠ a2 ∧ L + 1 + 1 + 1 ≠ a2 ∧ L + 1 + 1 ≠ a2 ∧ L + 1 ≠ a2)
    (l3 : a2 < b1 ∧ a1 < b1) (l4 : b1 < b2 ∧ a2 < b2 ∧ a1 < b2)
    (hn3 : 3 ≤ n) (hn17 : n ≤ 17) (hhn : 2 * half + 1 = n) (hst0 : 0 ≤ step) (hstn : step < n) (hpl0 : 0 ≤ place) (hpl24 : place ≤ 24) (hrl : (rs.length : Int) = n)
    (hM : Nums script c1 c2 n step place share lift rs)
    (hQ : ∀ h' tk m', Fr h₀ L h' m' → Q (.ret (.bool true)) { s with heap := h', toks := tk }) :
    wpAny (model Challenge.rw_tv0010_01.row.prog w) (callerA.deeper (lawEnv L fa cdv)) (execs (lawBody.drop 17) (lawEnv L fa cdv)) Q (fun _ _ => False) s := by
  k_with_none
  revert KX; k_fill; intro KX
  dsimp only [lawBody, lawBodyP, lawEnv, List.drop]
  dsimp only [kstB] at F
  have h8 : half ≤ 8 := by omega
  have h0h : 0 ≤ half := by omega
  have hWt := wAt hpl0 hpl24 h0h h8
  obtain ⟨W, hWe⟩ : ∃ W, (wordsL.drop place.toNat).take half.toNat = W := ⟨_, rfl⟩
  rw [hWe] at hv1 hWt
  k_steps
  · with_reducible refine Hold.mk ?_
    refine' LCg.CompEnd.intro ?F ?N _ (fun p hp => hp) ?o ?S ?r
    case F => k_asm
    case N => assumption
    case o => ((try simp only [LCg.Off3, and_true]); assumption)
    case S => trivial
    case r => exact kci_no (if_neg (ne_true_of_eq_false (by assumption))) rfl
  refine Hold.mk ?_
  (rename Fr _ _ _ _ => F9)
  (rename News _ _ _ _ => N9)
  (rename IntsAre _ (List.foldl _ _ _) => hv3)
  rw [more_told hpl0 hpl24 h0h h8 lowW] at hv3
  rw [← hWe] at hv1
  refine' segG T K0 KX hf low0 low1 lowW (fr_norm _ ?hk F9) N9 e0 e1 e2 e3 e4 (by assumption) e6 hvc hcl hc1 (by assumption : IntsAre _ rs) hv1 hv3 rfl l1 l2 l3 l4 (by assumption) hn3 hn17 hhn hst0 hstn hpl0 hpl24 hrl hM hQ
  case hk => kst_all
end

section
open PySem PySem.W PyProof.Rows Tv
local macro_rules | `(tactic| walk_at "call ref") => `(tactic| (k_here; k_dflt (refine' words_law ?k1 ?k2 ?k3 ?k4 ?k5 ?_; (case k1 | k2 | k3 | k4 | k5 => assumption)); intro D9 vs9 h9 tk9 S9 F9 N9 l9; (try dsimp only); (k_lt l9)))
local macro_rules | `(tactic| walk_at "call ref") => `(tactic| (k_here; k_dflt (refine' pf_law ?k1 ?k2 ?k3 ?k4 ?k5 ?k6 ?k7 ?k8 ?k9 ?_; (case k1 | k2 | k3 | k4 | k5 => assumption); (case k6 => rfl); (case k7 | k8 | k9 => assumption)); intro t9 h9 tk9 F9 N9; (try dsimp only)))
local macro_rules | `(tactic| walk_at "subscriptTail Name Slice ref ref") => `(tactic| (k_here; k_dflt (refine' slice_strs ?k1 ?k2 ?k3 ?k4 ?k5 ?k6 ?k7 ?k8 ?_; (case k1 | k2 => k_asm); (case k3 => k_mem); (case k4 | k5 => assumption); (case k6 => omega); (case k7 => (show _ ≤ ((32 : Nat) : Int); omega)); (case k8 => decide)); intro D9 ws9 h9 F9 N9 l9 S9; (try dsimp only); (k_lt l9)))
local macro_rules | `(tactic| walk_at "call builtin:str.split") => `(tactic| (k_here; k_dflt (refine' split_law ?k1 ?k2 ?k3 ?k4 ?k5 ?_; (case k1 | k2 => k_asm); (case k3 | k4 | k5 => assumption)); intro D9 ws9 h9 tk9 S9 F9 N9 l9; (try dsimp only); (k_lt l9)))
local macro_rules | `(tactic| walk_at "execs cons") => `(tactic| ((with_reducible show wpAny _ _ (execs (Stmt.Assign [Expr.Name (Str.ofString "more") _] _ _ :: _) _) _ _ _); refine Hold.out ?_))
theorem Tv.segD {w : World} {loose : List Str} {mean : ExcName → Option Value} {mg mb : Str → Option Value} {h₀ : Heap} {L fa : Nat} {cdv : Value} {script : List Int}
    {s : Shared} {d0 d1 d2 d3 d4 d5 d6 : Obj} {Q : Flow → Shared → Prop} {u : Str → Option Value} {a1 a2 : Nat} {vc ys : List Value} {kc kr : Nat} {cells rs : List Int} {c1 c2 n half step place share lift : Int} {t1 t2 t3 t4 t5 t6 : CbTok} {low : Int}
    (T : Top tvhd.view_39 loose mean mg mb h₀) (K0 : Below callerA h₀ [] h₀) (KX : (tvhd.heap_39 w.params).In h₀)
    (hf : (baseText "0x" 16 (share * 2 ^ 32)).length ≤ 1000000) (low0 : 0 ≤ low) (low1 : low < 2 ^ 32) (lowW : pfWords low 32 = ((rangeKs 1 half.toNat).filter (toldB rs n)).map fun x => pfWord (place + x - 1).toNat)
    (F : Fr h₀ L s.heap (kstB u [(Str.ofString "number", .int (share * 2 ^ 32 + low) t1), (Str.ofString "share", .int share t2), (Str.ofString "place", .int place t3), (Str.ofString "half", .int half t4), (Str.ofString "cells", .ref a1)]))
    (N : News h₀ L s.heap [(a2, listOf ys.toArray kr), (a1, listOf vc.toArray kc), (L + 1 + 1 + 1 + 1 + 1 + 1 + 1, d6), (L + 1 + 1 + 1 + 1 + 1 + 1, d5), (L + 1 + 1 + 1 + 1 + 1, d4), (L + 1 + 1 + 1 + 1, d3), (L + 1 + 1 + 1, d2), (L + 1 + 1, d1), (L + 1, d0)])
    (e0 : d0.data = .cell (some (.int n t5))) (e1 : d1.data = .cell (some (.int step t6))) (e2 : d2.data = .cell (some (.ref a2))) (e3 : d3.data = .cell none) (e4 : d4.data = .cell none) (e5 : d5.data = .cell none) (e6 : d6.data = .cell none)
    (hvc : IntsAre vc cells) (hcl : cells.length = 3) (hc1 : cells.getD (Int.toNat 1) 0 = c1) (hys : IntsAre ys rs)
    (l1 : L + 1 + 1 + 1 + 1 + 1 + 1 + 1 < a1) (l2 : a1 ≠ a2 ∧ L + 1 + 1 + 1 + 1 + 1 + 1 + 1 ≠ a2 ∧ L + 1 + 1 + 1 + 1 + 1 + 1 ≠ a2 ∧ L + 1 + 1 + 1 + 1 + 1 ≠ a2 ∧ L + 1 + 1 + 1 + 1 ≠ a2 ∧ L + 1 + 1 + 1 ≠ a2 ∧ L + 1 + 1 ≠ a2 ∧ L + 1 ≠ a2)
    (hn3 : 3 ≤ n) (hn17 : n ≤ 17) (hhn : 2 * half + 1 = n) (hst0 : 0 ≤ step) (hstn : step < n) (hpl0 : 0 ≤ place) (hpl24 : place ≤ 24) (hrl : (rs.length : Int) = n)
    (hM : Nums script c1 c2 n step place share lift rs)
    (hQ : ∀ h' tk m', Fr h₀ L h' m' → Q (.ret (.bool true)) { s with heap := h', toks := tk }) :
    wpAny (model Challenge.rw_tv0010_01.row.prog w) (callerA.deeper (lawEnv L fa cdv)) (execs (lawBody.drop 14) (lawEnv L fa cdv)) Q (fun _ _ => False) s  := by
  k_with_none
  revert KX; k_fill; intro KX
  dsimp only [lawBody, lawBodyP, lawEnv, List.drop]
  dsimp only [kstB] at F
  k_steps
  refine Hold.mk ?_
  (rename Fr _ _ _ _ => F9)
  (rename News _ _ _ _ => N9)
  (rename StrsAre _ (List.take _ _) => S7)
  rw [show (place + half).toNat - place.toNat = half.toNat from by rw [Int.toNat_add hpl0 (by omega), Nat.add_sub_cancel_left]] at S7
  have N8 := news_sub (l' := _ :: _ :: _) N9 (by
    intro p hp
    rcases List.mem_cons.mp hp with rfl | hp
    · exact .head _
    rcases List.mem_cons.mp hp with rfl | hp
    · exact .tail _ (.head _)
    exact .tail _ (.tail _ (.tail _ hp)))
  refine' segE T K0 KX hf low0 low1 lowW (fr_norm _ ?hk F9) N8 e0 e1 e2 (by assumption) (by assumption) e5 e6 hvc hcl hc1 (by assumption : IntsAre _ rs) S7 (by assumption) l1 l2 ?l3 ?l4 hn3 hn17 hhn hst0 hstn hpl0 hpl24 hrl hM hQ
  case hk => kst_all
  case l3 => omega
  case l4 => omega
end

section
open PySem PySem.W PyProof.Rows Tv
local macro_rules | `(tactic| walk_at "call ref") => `(tactic| (k_here; k_dflt (refine' cmp_law ?k1 ?k2 ?k3 ?k4 ?k5 ?_; (case k1 | k2 | k3 | k4 | k5 => assumption)); intro t9 h9 tk9 F9 N9; (try dsimp only)))
local macro_rules | `(tactic| walk_at "execs cons") => `(tactic| ((with_reducible show wpAny _ _ (execs (Stmt.Assign [Expr.Name (Str.ofString "words") _] _ _ :: _) _) _ _ _); refine Hold.out ?_))
theorem Tv.segC {w : World} {loose : List Str} {mean : ExcName → Option Value} {mg mb : Str → Option Value} {h₀ : Heap} {L fa : Nat} {cdv : Value} {script : List Int}
    {s : Shared} {d0 d1 d2 d3 d4 d5 d6 : Obj} {Q : Flow → Shared → Prop} {u : Str → Option Value} {a1 a2 : Nat} {vc ys : List Value} {kc kr : Nat} {cells rs : List Int} {c1 c2 n half step place share lift : Int} {t1 t2 t3 t4 t5 t6 : CbTok}
    (T : Top tvhd.view_39 loose mean mg mb h₀) (K0 : Below callerA h₀ [] h₀) (KX : (tvhd.heap_39 w.params).In h₀)
    (hlay : (PyData.list (script.map .int)).layable0 = true) (hlen : ¬ ((63 : Nat) : Int) < (script.length : Int))
    (F : Fr h₀ L s.heap (kstB u [(Str.ofString "lift", .int lift t1), (Str.ofString "share", .int share t2), (Str.ofString "place", .int place t3), (Str.ofString "half", .int half t4), (Str.ofString "cells", .ref a1)]))
    (N : News h₀ L s.heap [(a2, listOf ys.toArray kr), (a1, listOf vc.toArray kc), (L + 1 + 1 + 1 + 1 + 1 + 1 + 1, d6), (L + 1 + 1 + 1 + 1 + 1 + 1, d5), (L + 1 + 1 + 1 + 1 + 1, d4), (L + 1 + 1 + 1 + 1, d3), (L + 1 + 1 + 1, d2), (L + 1 + 1, d1), (L + 1, d0)])
    (e0 : d0.data = .cell (some (.int n t5))) (e1 : d1.data = .cell (some (.int step t6))) (e2 : d2.data = .cell (some (.ref a2))) (e3 : d3.data = .cell none) (e4 : d4.data = .cell none) (e5 : d5.data = .cell none) (e6 : d6.data = .cell none)
    (hvc : IntsAre vc cells) (hcl : cells.length = 3) (hc1 : cells.getD (Int.toNat 1) 0 = c1) (hys : IntsAre ys rs)
    (l1 : L + 1 + 1 + 1 + 1 + 1 + 1 + 1 < a1) (l2 : a1 ≠ a2 ∧ L + 1 + 1 + 1 + 1 + 1 + 1 + 1 ≠ a2 ∧ L + 1 + 1 + 1 + 1 + 1 + 1 ≠ a2 ∧ L + 1 + 1 + 1 + 1 + 1 ≠ a2 ∧ L + 1 + 1 + 1 + 1 ≠ a2 ∧ L + 1 + 1 + 1 ≠ a2 ∧ L + 1 + 1 ≠ a2 ∧ L + 1 ≠ a2)
    (hn3 : 3 ≤ n) (hn17 : n ≤ 17) (hhn : 2 * half + 1 = n) (hst0 : 0 ≤ step) (hstn : step < n) (hpl0 : 0 ≤ place) (hpl24 : place ≤ 24) (hrl : (rs.length : Int) = n)
    (hM : Nums script c1 c2 n step place share lift rs)
    (hQ : ∀ h' tk m', Fr h₀ L h' m' → Q (.ret (.bool true)) { s with heap := h', toks := tk }) :
    wpAny (model Challenge.rw_tv0010_01.row.prog w) (callerA.deeper (lawEnv L fa cdv)) (execs (lawBody.drop 12) (lawEnv L fa cdv)) Q (fun _ _ => False) s  := by
  k_with_none
  revert KX; k_fill; intro KX
  dsimp only [lawBody, lawBodyP, lawEnv, List.drop]
  dsimp only [kstB] at F
  k_with "pyIter ref" => (k_of "x" => k_state (fun pre number => number = share * 2 ^ 32 + lowP rs n place pre) "number")
  k_with "state" => first | exact num_told (by assumption) (by assumption) | exact num_not (by assumption) (by assumption) | exact num_start
  k_steps
  refine Hold.mk ?_
  (rename _ = share * 2 ^ 32 + lowP rs n place _ => hnum)
  have hf := share_fit hlay hlen hM.bnd hM.eshare
  obtain ⟨low0, low1, lowW⟩ := low_all (rs := rs) (n := n) hpl0 hpl24 (by omega : 0 ≤ half) (by omega)
  have eh : (half + 1 - 1).toNat = half.toNat := by rw [Int.add_sub_cancel]
  rw [eh] at hnum
  generalize hlow : lowP rs n place (rangeKs 1 half.toNat) = low at *
  clear eh hlow
  (rename Fr _ _ _ _ => F9)
  (rename News _ _ _ _ => N9)
  subst hnum
  refine' segD T K0 KX hf low0 low1 lowW (fr_norm _ ?hk F9) N9 e0 e1 e2 e3 e4 e5 e6 hvc hcl hc1 (by assumption : IntsAre _ rs) l1 l2 hn3 hn17 hhn hst0 hstn hpl0 hpl24 hrl hM hQ
  case hk => kst_all
end

section
open PySem PySem.W PyProof.Rows Tv
local macro_rules | `(tactic| walk_at "call ref") => `(tactic| (k_here; k_dflt (refine' cmp_law ?k1 ?k2 ?k3 ?k4 ?k5 ?_; (case k1 | k2 | k3 | k4 | k5 => assumption)); intro t9 h9 tk9 F9 N9; (try dsimp only)))
local macro_rules | `(tactic| walk_at "call ref") => `(tactic| (k_here; k_dflt (refine' sym_law ?k1 ?k2 ?k3 ?k4 ?k5 ?k6 ?_; (case k1 | k2 | k3 | k4 | k5 => assumption); (case k6 => omega)); intro t9 h9 tk9 F9 N9; (try dsimp only)))
local macro_rules | `(tactic| walk_at "execs cons") => `(tactic| ((with_reducible show wpAny _ _ (execs (Stmt.Assign [Expr.Name (Str.ofString "number") _] _ _ :: _) _) _ _ _); refine Hold.out ?_))
theorem Tv.segB {w : World} {loose : List Str} {mean : ExcName → Option Value} {mg mb : Str → Option Value} {h₀ : Heap} {L fa : Nat} {cdv : Value} {script : List Int}
    {s : Shared} {d0 d1 d2 d3 d4 d5 d6 : Obj} {Q : Flow → Shared → Prop} {u : Str → Option Value} {a1 a2 : Nat} {vc ys : List Value} {kc kr : Nat} {cells rs : List Int} {c1 c2 n half step place share lift : Int} {t1 t2 t3 t4 t5 t6 : CbTok}
    (T : Top tvhd.view_39 loose mean mg mb h₀) (K0 : Below callerA h₀ [] h₀) (KX : (tvhd.heap_39 w.params).In h₀)
    (hlay : (PyData.list (script.map .int)).layable0 = true) (hlen : ¬ ((63 : Nat) : Int) < (script.length : Int))
    (F : Fr h₀ L s.heap (kstB u [(Str.ofString "lift", .int lift t1), (Str.ofString "share", .int share t2), (Str.ofString "place", .int place t3), (Str.ofString "half", .int half t4), (Str.ofString "cells", .ref a1)]))
    (N : News h₀ L s.heap [(a2, listOf ys.toArray kr), (a1, listOf vc.toArray kc), (L + 1 + 1 + 1 + 1 + 1 + 1 + 1, d6), (L + 1 + 1 + 1 + 1 + 1 + 1, d5), (L + 1 + 1 + 1 + 1 + 1, d4), (L + 1 + 1 + 1 + 1, d3), (L + 1 + 1 + 1, d2), (L + 1 + 1, d1), (L + 1, d0)])
    (e0 : d0.data = .cell (some (.int n t5))) (e1 : d1.data = .cell (some (.int step t6))) (e2 : d2.data = .cell (some (.ref a2))) (e3 : d3.data = .cell none) (e4 : d4.data = .cell none) (e5 : d5.data = .cell none) (e6 : d6.data = .cell none)
    (hvc : IntsAre vc cells) (hcl : cells.length = 3) (hc1 : cells.getD (Int.toNat 1) 0 = c1) (hys : IntsAre ys rs)
    (l1 : L + 1 + 1 + 1 + 1 + 1 + 1 + 1 < a1) (l2 : a1 ≠ a2 ∧ L + 1 + 1 + 1 + 1 + 1 + 1 + 1 ≠ a2 ∧ L + 1 + 1 + 1 + 1 + 1 + 1 ≠ a2 ∧ L + 1 + 1 + 1 + 1 + 1 ≠ a2 ∧ L + 1 + 1 + 1 + 1 ≠ a2 ∧ L + 1 + 1 + 1 ≠ a2 ∧ L + 1 + 1 ≠ a2 ∧ L + 1 ≠ a2)
    (hn3 : 3 ≤ n) (hn17 : n ≤ 17) (hhn : 2 * half + 1 = n) (hst0 : 0 ≤ step) (hstn : step < n) (hpl0 : 0 ≤ place) (hpl24 : place ≤ 24) (hrl : (rs.length : Int) = n)
    (hM : Nums script c1 c2 n step place share lift rs)
    (hQ : ∀ h' tk m', Fr h₀ L h' m' → Q (.ret (.bool true)) { s with heap := h', toks := tk }) :
    wpAny (model Challenge.rw_tv0010_01.row.prog w) (callerA.deeper (lawEnv L fa cdv)) (execs (lawBody.drop 9) (lawEnv L fa cdv)) Q (fun _ _ => False) s  := by
  k_with_none
  revert KX; k_fill; intro KX
  dsimp only [lawBody, lawBodyP, lawEnv, List.drop]
  dsimp only [kstB] at F
  k_with "pyIter ref" => (k_of "y" => k_state (fun pre p => p = outerP rs pre 1 ∧ -1 ≤ p ∧ p ≤ 1) "product")
  k_with "pyIter ref" => (k_of "x" => k_state_given ["y", "product!"] (fun y p0 pre p => p = innerP rs y pre p0 ∧ -1 ≤ p ∧ p ≤ 1) "product")
  k_with "state" => first | exact ⟨rfl, by omega, by omega⟩ | exact ⟨rfl, by assumption, by assumption⟩ | exact inner_step (by assumption) (by assumption) (by assumption) | exact outer_step (by assumption) (by assumption) (by assumption) (by assumption)
  k_steps
  focus
    exfalso
    (rename _ = outerP rs _ 1 => hp)
    (rename _ ≠ J _ _ _ => hne)
    exact hne (hp.trans (by rw [prod_law hM hn3 hn17 hhn hst0 hstn, hc1]))
  with_reducible refine Hold.mk ?_
  (rename Fr _ _ _ _ => F9)
  (rename News _ _ _ _ => N9)
  refine' segC T K0 KX hlay hlen (fr_norm _ ?hk F9) N9 e0 e1 e2 e3 e4 e5 e6 hvc hcl hc1 hys l1 l2 hn3 hn17 hhn hst0 hstn hpl0 hpl24 hrl hM hQ
  case hk => kst_all
end

section
open PySem PySem.W PyProof.Rows Tv
local macro_rules | `(tactic| walk_at "execs cons") => `(tactic| ((with_reducible show wpAny _ _ (execs (Stmt.Assign [Expr.Name (Str.ofString "product") _] _ _ :: _) _) _ _ _); refine Hold.out ?_))
theorem Tv.law_body {w : World} {loose : List Str} {mean : ExcName → Option Value} {mg mb : Str → Option Value} {h₀ : Heap} {L fa : Nat} {cdv : Value} {script : List Int} {l : Nat} {vs : List Value}
    {s : Shared} {d0 d1 d2 d3 d4 d5 d6 : Obj} {Q : Flow → Shared → Prop}
    (T : Top tvhd.view_39 loose mean mg mb h₀) (K0 : Below callerA h₀ [] h₀) (KX : (tvhd.heap_39 w.params).In h₀)
    (hlay : (PyData.list (script.map .int)).layable0 = true) (hlen : ¬ ((63 : Nat) : Int) < (script.length : Int)) (hL : h₀.IsList l vs.toArray) (hI : IntsAre vs script)
    (F : Fr h₀ L s.heap (fun y => if y = Str.ofString "script" then some (.ref l) else none))
    (N : News h₀ L s.heap [(L + 1 + 1 + 1 + 1 + 1 + 1 + 1, d6), (L + 1 + 1 + 1 + 1 + 1 + 1, d5), (L + 1 + 1 + 1 + 1 + 1, d4), (L + 1 + 1 + 1 + 1, d3), (L + 1 + 1 + 1, d2), (L + 1 + 1, d1), (L + 1, d0)])
    (e0 : d0.data = .cell none) (e1 : d1.data = .cell none) (e2 : d2.data = .cell none) (e3 : d3.data = .cell none) (e4 : d4.data = .cell none) (e5 : d5.data = .cell none) (e6 : d6.data = .cell none)
    (hQ : ∀ h' tk m', Fr h₀ L h' m' → Q (.ret (.bool true)) { s with heap := h', toks := tk }) :
    wpAny (model Challenge.rw_tv0010_01.row.prog w) (callerA.deeper (lawEnv L fa cdv)) (execs lawBody (lawEnv L fa cdv)) Q (fun _ _ => False) s := by
  k_with_none
  revert KX; k_fill; intro KX
  dsimp only [lawBody, lawBodyP, lawEnv]
  k_with "pyIter ref" => k_state (fun pre cells => cells.length = 3 ∧ CellsB script pre.length cells) "cells"
  k_with "state" => first | exact ⟨rfl, cellsB_start _⟩ | exact ⟨by rw [List.length_set]; assumption, by rw [List.length_append]; exact cellsB_step (by assumption) (by omega) (by assumption)⟩
  k_steps
  refine Hold.mk ?_
  rename List Int => cells
  (rename CellsB _ _ _ => hcb)
  generalize hc0 : cells.getD (Int.toNat 0) 0 = c0 at *
  generalize hc1 : cells.getD (Int.toNat 1) 0 = c1 at *
  generalize hc2 : cells.getD (Int.toNat 2) 0 = c2 at *
  generalize hr8 : c0.fmod 8 = r8 at *
  generalize hn : 3 + 2 * r8 = n at *
  generalize hhalf : n.fdiv 2 = half at *
  generalize hstep : c1.fmod n = step at *
  generalize hplace : c2.fmod 25 = place at *
  generalize hshare : c2.fdiv 25 = share at *
  generalize hlift : c2 - 85 = lift at *
  (rename IntsAre _ (List.map _ _) => hR)
  obtain ⟨rs, hR', hrs⟩ := name_ints hR
  (rename Fr _ _ _ _ => F9)
  (rename News _ _ _ _ => N9)
  obtain ⟨hn3, hn17, hhn, hst0, hstn, hpl0, hpl24, hrl, hM⟩ := nums_of (by rw [rangeKs_length]; omega) hcb hc2 hr8 hn hhalf hstep hplace hshare hlift hrs
  refine' segB T K0 KX hlay hlen (fr_norm _ ?hk F9) N9 (by assumption) (by assumption) (by assumption) (by assumption) (by assumption) (by assumption) (by assumption) (by assumption) (by assumption) hc1 hR' ?l1 ?l2 hn3 hn17 hhn hst0 hstn hpl0 hpl24 hrl hM hQ
  case hk => kst_all
  case l1 => omega
  case l2 => first | assumption | omega
end

open PySem PySem.W PyProof.Rows Tv
theorem PySem.Challenge.cw_tv0010_01_holds : PySem.Challenge.rw_tv0010_01.Holds :=
  Tv.tvhd (by
  k_with_none
  k_go0
  refine wpAny_mono (Tv.law_body (l := ?l) (vs := ?vs) (script := ?sc) (d0 := ?d0) (d1 := ?d1) (d2 := ?d2) (d3 := ?d3) (d4 := ?d4) (d5 := ?d5) (d6 := ?d6) (by assumption) (by assumption) (by assumption) (by assumption) (by assumption) (by assumption) (by assumption) (by assumption) (by assumption) (by assumption) (by assumption) (by assumption) (by assumption) (by assumption) (by assumption) (by assumption) ?hQ) (fun _ _ x => x) (fun _ _ x => x.elim)
  intro h' tk' m' F'
  (try dsimp only)
  wrow_close)
