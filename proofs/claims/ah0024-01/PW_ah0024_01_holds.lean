import PyProof.Rows.All
import Wide.All
import OpenK.AllK
import Wide.FinOn
import PySem.Challenge.RW_ah0024_01
open PySem PySem.W PyProof.Rows
set_option Elab.async false
set_option maxRecDepth 100000
set_option maxHeartbeats 8000000
namespace Mine
open_top hd for PySem.Challenge.rw_ah0024_01
abbrev Led := List (Addr × Obj)
abbrev Loc := Str → Option Value
noncomputable abbrev loo : List Str := looseW hd.view_39 [Str.ofString "legal_date_gregorian", Str.ofString "to_jd_gregorian", Str.ofString "from_jd_gregorian", Str.ofString "legal_date_julian", Str.ofString "from_jd_julian", Str.ofString "to_jd_julian", Str.ofString "easter", Str.ofString "_easter_julian"]

abbrev Clm (w : World) (mean : ExcName → Option Value) (mg mb : Loc) (f : Addr) (k : Nat) (pre : Prop) (vs : List Value)
    (ret : Heap → Addr → Loc → Led → Shared → (Value → Shared → Prop) → Prop) : Prop :=
  ∀ (dp un : Nat) (gd : Option (List Code)) (cn : Str) (cs : Scope) (a : Addr) (ccd : Value) (cl : List (Str × Addr)) (outer : List Env) (A₀ : Around) (base h₀ : Heap) (L : Addr) (m : Loc) (news : Led) (s : Shared) (Q E : Value → Shared → Prop),
    Below A₀ base outer h₀ → Fr h₀ L s.heap m → (hd.heap_39 w.params).In h₀ → News h₀ L s.heap news → Top hd.view_39 loo mean mg mb h₀ → cs.kind = .function →
    pre → dp + k < recursionLimit → un + 8 * k < cLine → ret h₀ L m news s Q →
    wpAny (model PySem.Challenge.rw_ah0024_01.row.prog w) (ktrTop dp un gd cn cs L a ccd cl outer) (call (.ref f) vs) Q E s

theorem Clm.use {w : World} {mean : ExcName → Option Value} {mg mb : Loc} {f : Addr} {k : Nat} {pre : Prop} {vs : List Value}
    {ret : Heap → Addr → Loc → Led → Shared → (Value → Shared → Prop) → Prop} (c : Clm w mean mg mb f k pre vs ret)
    {dp un : Nat} {gd : Option (List Code)} {cn : Str} {cs : Scope} {a : Addr} {ccd : Value} {cl : List (Str × Addr)} {outer : List Env} {A₀ : Around} {base h₀ : Heap} {L : Addr} {m : Loc} {news : Led} {s : Shared} {Q E : Value → Shared → Prop}
    (B : Below A₀ base outer h₀) (F : Fr h₀ L s.heap m) (X : (hd.heap_39 w.params).In h₀) (N : News h₀ L s.heap news) (T : Top hd.view_39 loo mean mg mb h₀) (hk : cs.kind = .function)
    (hp : pre) (hd9 : dp + k < recursionLimit) (hu9 : un + 8 * k < cLine) (hr : ret h₀ L m news s Q) :
    wpAny (model PySem.Challenge.rw_ah0024_01.row.prog w) (ktrTop dp un gd cn cs L a ccd cl outer) (call (.ref f) vs) Q E s :=
  c dp un gd cn cs a ccd cl outer A₀ base h₀ L m news s Q E B F X N T hk hp hd9 hu9 hr

abbrev retI (x : Int) (h₀ : Heap) (L : Addr) (m : Loc) (news : Led) (s : Shared) (Q : Value → Shared → Prop) : Prop :=
  ∀ (t : Tok) (h' : Heap) (tk' : Nat), Fr h₀ L h' m → News h₀ L h' news → Q (.int x t) { s with heap := h', toks := tk' }
abbrev retQ (P : Int → Prop) (h₀ : Heap) (L : Addr) (m : Loc) (news : Led) (s : Shared) (Q : Value → Shared → Prop) : Prop :=
  ∀ (x : Int), P x → ∀ (t : Tok) (h' : Heap) (tk' : Nat), Fr h₀ L h' m → News h₀ L h' news → Q (.int x t) { s with heap := h', toks := tk' }
abbrev retB (x : Bool) (h₀ : Heap) (L : Addr) (m : Loc) (news : Led) (s : Shared) (Q : Value → Shared → Prop) : Prop :=
  ∀ (_t : Tok) (h' : Heap) (tk' : Nat), Fr h₀ L h' m → News h₀ L h' news → Q (.bool x) { s with heap := h', toks := tk' }
abbrev retT (x y z : Int) (h₀ : Heap) (L : Addr) (m : Loc) (news : Led) (s : Shared) (Q : Value → Shared → Prop) : Prop :=
  ∀ (D : Addr) (t1 t2 t3 : Tok) (c : Nat) (h' : Heap) (tk' : Nat), Fr h₀ L h' m →
    News h₀ L h' ((D, ({ cls := .type "tuple", data := .seq #[.int x t1, .int y t2, .int z t3] c } : Obj)) :: news) → AllLt D news →
    Q (.ref D) { s with heap := h', toks := tk' }

section
variable {h₀ h' : Heap} {L : Addr} {m : Loc} {news : Led} {s : Shared} {Q : Value → Shared → Prop} {t : Tok} {tk' : Nat}
theorem endI {x y : Int} (hret : retI x h₀ L m news s Q) (e : y = x) (F : Fr h₀ L h' m) (N : News h₀ L h' news) : Q (.int y t) { s with heap := h', toks := tk' } := by
  subst e
  exact hret t h' tk' F N
theorem endQ {P : Int → Prop} {y : Int} (hret : retQ P h₀ L m news s Q) (e : P y) (F : Fr h₀ L h' m) (N : News h₀ L h' news) : Q (.int y t) { s with heap := h', toks := tk' } :=
  hret y e t h' tk' F N
theorem endB {x y : Bool} (hret : retB x h₀ L m news s Q) (e : y = x) (F : Fr h₀ L h' m) (N : News h₀ L h' news) : Q (.bool y) { s with heap := h', toks := tk' } := by
  subst e
  exact hret 0 h' tk' F N
theorem endT {x y z x' y' z' : Int} {D : Addr} {t1 t2 t3 : Tok} {c : Nat} {news' : Led} (hret : retT x y z h₀ L m news s Q) (e1 : x' = x) (e2 : y' = y) (e3 : z' = z) (F : Fr h₀ L h' m)
    (N : News h₀ L h' news') (hm : (D, ({ cls := .type "tuple", data := .seq #[.int x' t1, .int y' t2, .int z' t3] c } : Obj)) ∈ news') (hn : ∀ p ∈ news, p ∈ news') (hl : AllLt D news) : Q (.ref D) { s with heap := h', toks := tk' } := by
  subst e1; subst e2; subst e3
  refine hret D t1 t2 t3 c h' tk' F (fun p hp => ?_) hl
  rcases List.mem_cons.mp hp with rfl | hp
  · exact N _ hm
  · exact N p (hn p hp)
end

section
variable {prog : Program} {w : World} {A : Around} {E : Value → Shared → Prop} {s : Shared} {a b : Int} {t u : Tok} {Q : Value → Shared → Prop}
theorem divE (hb : 0 < b) (hs : b ≤ 1000000000) (h : Q (.int (a / b) s.toks) { s with toks := s.toks + 1 }) : wpAny (model prog w) A (binaryOp .FloorDiv (.int a t) (.int b u)) Q E s := by
  refine floordiv_int (by omega) ?_ (Or.inl (PyProof.noPylong_small (by omega)))
  rw [Int.fdiv_eq_ediv_of_nonneg _ (by omega)]
  exact h
theorem modE (hb : 0 < b) (h : Q (.int (a % b) s.toks) { s with toks := s.toks + 1 }) : wpAny (model prog w) A (binaryOp .Mod (.int a t) (.int b u)) Q E s := by
  refine mod_int' (by omega) ?_
  rw [Int.fmod_eq_emod_of_nonneg _ (by omega)]
  exact h
end
local macro_rules | `(tactic| walk_at "binaryOp FloorDiv int int") => `(tactic| (refine divE (by first | decide | omega) (by first | decide | omega) ?_))
local macro_rules | `(tactic| walk_at "binaryOp Mod int int") => `(tactic| (refine modE (by first | decide | omega) ?_))

local macro_rules | `(tactic| walk_at "eval Call Name") => `(tactic| (k_here; (with_reducible show wpAny _ _ (eval (Expr.Call (Expr.Name _ _) _ [] _) _) _ _ _); refine Call_ ?_))

theorem filled : PySem.Challenge.rw_ah0024_01 = PySem.Challenge.rw_ah0024_01 ∧ hd.heap_39 = hd.heap_39 := by
  k_fill
  exact ⟨rfl, rfl⟩


theorem trunc_c {w : World} {mean : ExcName → Option Value} {mg mb : Loc} {a b : Int} {ta tb : Tok} :
    Clm w mean mg mb 28 1 (0 ≤ a ∧ 0 < b ∧ b ≤ 1000) [.int a ta, .int b tb] (retQ (fun q => q = a / b)) := by
  intro dp un gd cn cs ca ccd cl outer A₀ base h₀ L m news s Q E B F X N T hk hp hd9 hu9 hret
  have ha : decide (a < 0) = false := decide_eq_false (by omega)
  have hb : decide (b < 0) = false := decide_eq_false (by omega)
  refine wpAny_call ?_
  k_dflt cell_enter
  k_steps
  rw [if_neg (show ¬ a < 0 by omega), if_neg (show ¬ b < 0 by omega)]
  k_steps
  · exact endQ hret rfl (by k_asm) (by k_asm)
  · rename (_ == _) = false => hx
    rw [ha, hb] at hx
    exact absurd hx (by decide)


theorem div_facts {a b q : Int} (h : q = a / b) (h1 : 0 ≤ a ∧ 0 < b ∧ b ≤ 1000) : (a < b ∧ q = 0) ∨ (b ≤ a ∧ a < 2 * b ∧ q = 1) ∨ (2 * b ≤ a) := by
  subst h
  rcases Int.lt_or_le a b with hl | hl
  · exact .inl ⟨hl, Int.ediv_eq_zero_of_lt h1.1 hl⟩
  · rcases Int.lt_or_le a (2 * b) with hm | hm
    · refine .inr (.inl ⟨hl, hm, ?_⟩)
      exact (Int.ediv_eq_iff_of_pos h1.2.1).mpr ⟨by omega, by omega⟩
    · exact .inr (.inr hm)
theorem trunc_c2 {w : World} {mean : ExcName → Option Value} {mg mb : Loc} {a b : Int} {ta tb : Tok} :
    Clm w mean mg mb 28 1 (0 ≤ a ∧ 0 < b ∧ b ≤ 1000) [.int a ta, .int b tb] (retQ (fun q => (a < b ∧ q = 0) ∨ (b ≤ a ∧ a < 2 * b ∧ q = 1) ∨ (2 * b ≤ a))) := by
  intro dp un gd cn cs ca ccd cl outer A₀ base h₀ L m news s Q E B F X N T hk hp hd9 hu9 hret
  exact trunc_c dp un gd cn cs ca ccd cl outer A₀ base h₀ L m news s Q E B F X N T hk hp hd9 hu9 fun x hx => hret x (div_facts hx hp)
local macro_rules | `(tactic| walk_at "call ref") => `(tactic| (k_here; (with_reducible show wpAny _ _ (call (Value.ref 28) _) _ _ _); k_dflt (first | ((with_reducible show wpAny _ _ (call _ [Value.int 29 _, _]) _ _ _); refine' Clm.use trunc_c2 ?k1 ?k2 ?k3 ?k4 ?k5 ?kK ?kp ?kd ?ku ?_) | refine' Clm.use trunc_c ?k1 ?k2 ?k3 ?k4 ?k5 ?kK ?kp ?kd ?ku ?_); (case k1 => k_asm); (case k2 => k_asm); (case k3 => k_asm); (case k4 => k_asm); (case k5 => k_asm); (case kK => first | exact rfl | assumption); (case kp => first | exact ⟨by omega, by decide, by decide⟩ | omega); (case kd => ktr_room); (case ku => ktr_units); intro q9 e9 t9 h9 tk9 F9 N9; (try dsimp only); (try k_fold); (try k_sweep)))

theorem mulL {prog : Program} {w : World} {A : Around} {E : Value → Shared → Prop} {s : Shared} {a b : Int} {t u : Tok} {Q : Value → Shared → Prop} (h1 : -1000000000000000000 ≤ a) (h2 : a ≤ 1000000000000000000) (h : Q (.int (a * b) s.toks) { s with toks := s.toks + 1 }) : wpAny (model prog w) A (binaryOp .Mult (.int a t) (.int b u)) Q E s :=
  PyProof.Rows.mul_int h (PySem.IntMulOk.of_left (PySem.intBits_le_64 (by omega) (by omega)))
theorem mulR {prog : Program} {w : World} {A : Around} {E : Value → Shared → Prop} {s : Shared} {a b : Int} {t u : Tok} {Q : Value → Shared → Prop} (h1 : -1000000000000000000 ≤ b) (h2 : b ≤ 1000000000000000000) (h : Q (.int (a * b) s.toks) { s with toks := s.toks + 1 }) : wpAny (model prog w) A (binaryOp .Mult (.int a t) (.int b u)) Q E s :=
  PyProof.Rows.mul_int h (PySem.IntMulOk.of_right (PySem.intBits_le_64 (by omega) (by omega)))
theorem mul01 {prog : Program} {w : World} {A : Around} {E : Value → Shared → Prop} {s : Shared} {a b : Int} {t u : Tok} {Q : Value → Shared → Prop} (h1 : 0 ≤ a) (h2 : a ≤ 1) (h : ∀ r : Int, (a = 0 ∧ r = 0) ∨ (a = 1 ∧ r = b) → Q (.int r s.toks) { s with toks := s.toks + 1 }) : wpAny (model prog w) A (binaryOp .Mult (.int a t) (.int b u)) Q E s := by
  refine mulL (by omega) (by omega) (h _ ?_)
  rcases (show a = 0 ∨ a = 1 by omega) with e | e
  · exact .inl ⟨e, by rw [e, Int.zero_mul]⟩
  · exact .inr ⟨e, by rw [e, Int.one_mul]⟩
local macro_rules | `(tactic| walk_at "binaryOp Mult int int") => `(tactic| first | (refine mulL (by decide) (by decide) ?_) | (refine mul01 (by omega) (by omega) ?_; intro r9 e9) | (refine mulL (by omega) (by omega) ?_) | (refine mulR (by omega) (by omega) ?_))

def wi2 (y : Int) : Int := (y / 100 - y / 100 / 4 - (y / 100 - (y / 100 - 17) / 25) / 3 + 19 * (y - 19 * (y / 19)) + 15) - 30 * ((y / 100 - y / 100 / 4 - (y / 100 - (y / 100 - 17) / 25) / 3 + 19 * (y - 19 * (y / 19)) + 15) / 30)
def wI (y : Int) : Int := if wi2 y = 29 ∨ (wi2 y = 28 ∧ 10 < y - 19 * (y / 19)) then wi2 y - 1 else wi2 y
def wL (y : Int) : Int := wI y - (y + y / 4 + wI y + 2 - y / 100 + y / 100 / 4 - 7 * ((y + y / 4 + wI y + 2 - y / 100 + y / 100 / 4) / 7))
def wM (y : Int) : Int := 3 + (wL y + 40) / 44
def wD (y : Int) : Int := wL y + 28 - 31 * (wM y / 4)

theorem wi2_range (y : Int) : 0 ≤ wi2 y ∧ wi2 y ≤ 29 := by
  unfold wi2
  generalize (y / 100 - y / 100 / 4 - (y / 100 - (y / 100 - 17) / 25) / 3 + 19 * (y - 19 * (y / 19)) + 15) = X
  omega
theorem wI_spec (y : Int) : ((wi2 y = 29 ∨ (wi2 y = 28 ∧ 10 < y - 19 * (y / 19))) ∧ wI y = wi2 y - 1) ∨ (¬ (wi2 y = 29 ∨ (wi2 y = 28 ∧ 10 < y - 19 * (y / 19))) ∧ wI y = wi2 y) := by
  by_cases h : (wi2 y = 29 ∨ (wi2 y = 28 ∧ 10 < y - 19 * (y / 19)))
  · exact .inl ⟨h, by rw [wI, if_pos h]⟩
  · exact .inr ⟨h, by rw [wI, if_neg h]⟩

theorem west_end {y c n19 k c4 k3 q30 q28 q28' q29 r1 q11 r2 r3 y4 c4' q7 q44 qm : Int}
    (h7 : q7 = (y + y4 + (c - c4 - k3 + 19 * (y - 19 * n19) + 15 - 30 * q30 - r3) + 2 - c + c4') / 7)
    (h44 : q44 = (c - c4 - k3 + 19 * (y - 19 * n19) + 15 - 30 * q30 - r3 - (y + y4 + (c - c4 - k3 + 19 * (y - 19 * n19) + 15 - 30 * q30 - r3) + 2 - c + c4' - 7 * q7) + 40) / 44)
    (hm : qm = (3 + q44) / 4)
    (hc : c = y / 100) (hn : n19 = y / 19) (hk : k = (c - 17) / 25) (hk3 : k3 = (c - k) / 3) (hc4 : c4 = c / 4) (hc4' : c4' = c / 4) (hy4 : y4 = y / 4)
    (h30 : q30 = (c - c4 - k3 + 19 * (y - 19 * n19) + 15) / 30)
    (h3 : q28 = 0 ∧ r3 = 0 ∨ q28 = 1 ∧ r3 = 1 - r2)
    (h28 : q28 = (c - c4 - k3 + 19 * (y - 19 * n19) + 15 - 30 * q30) / 28)
    (h2 : r1 = 0 ∧ r2 = 0 ∨ r1 = 1 ∧ r2 = q11)
    (h11 : q11 = (21 - (y - 19 * n19)) / 11)
    (h1 : q28' = 0 ∧ r1 = 0 ∨ q28' = 1 ∧ r1 = q29)
    (h28' : q28' = (c - c4 - k3 + 19 * (y - 19 * n19) + 15 - 30 * q30) / 28)
    (h29 : 29 < c - c4 - k3 + 19 * (y - 19 * n19) + 15 - 30 * q30 + 1 ∧ q29 = 0 ∨ c - c4 - k3 + 19 * (y - 19 * n19) + 15 - 30 * q30 + 1 ≤ 29 ∧ 29 < 2 * (c - c4 - k3 + 19 * (y - 19 * n19) + 15 - 30 * q30 + 1) ∧ q29 = 1 ∨ 2 * (c - c4 - k3 + 19 * (y - 19 * n19) + 15 - 30 * q30 + 1) ≤ 29) :
    3 + q44 = wM y ∧ c - c4 - k3 + 19 * (y - 19 * n19) + 15 - 30 * q30 - r3 - (y + y4 + (c - c4 - k3 + 19 * (y - 19 * n19) + 15 - 30 * q30 - r3) + 2 - c + c4' - 7 * q7) + 28 - 31 * qm = wD y := by
  subst hk3 hk hc4 hc4' hy4 hc hn
  have hi2 : y / 100 - y / 100 / 4 - (y / 100 - (y / 100 - 17) / 25) / 3 + 19 * (y - 19 * (y / 19)) + 15 - 30 * q30 = wi2 y := by rw [wi2, h30]
  rw [hi2] at h7 h44 h28 h28' h29 ⊢
  have hr := wi2_range y
  have hI : wi2 y - r3 = wI y := by
    have hs := wI_spec y
    have hn := Int.emod_nonneg y (show (19 : Int) ≠ 0 by decide)
    generalize wi2 y = i2 at *
    generalize wI y = i3 at *
    clear h7 h44 h30 hi2 hm
    have hq : 0 ≤ q11 ∧ q11 ≤ 1 ∧ (q11 = 1 ↔ ¬ 10 < y - 19 * (y / 19)) := by omega
    clear h11
    generalize y - 19 * (y / 19) = n at *
    rcases (show i2 ≤ 27 ∨ i2 = 28 ∨ i2 = 29 by omega) with e | e | e
    · have z : q28 = 0 := by omega
      have z3 : r3 = 0 := by omega
      clear h1 h2 h3 h28 h28' h29 hq
      omega
    · subst e
      have z : q28 = 1 := by omega
      have z' : q28' = 1 := by omega
      have z9 : q29 = 1 := by omega
      clear h28 h28' h29
      omega
    · subst e
      have z : q28 = 1 := by omega
      have z' : q28' = 1 := by omega
      have z9 : q29 = 0 := by omega
      clear h28 h28' h29 hq
      omega
  rw [hI] at h7 h44 ⊢
  subst h7
  have hL : wI y - (y + y / 4 + wI y + 2 - y / 100 + y / 100 / 4 - 7 * ((y + y / 4 + wI y + 2 - y / 100 + y / 100 / 4) / 7)) = wL y := by rw [wL]
  rw [hL] at h44 ⊢
  subst h44
  refine ⟨rfl, ?_⟩
  subst hm
  rfl

theorem west_range {y : Int} : (wM y = 3 ∧ 22 ≤ wD y ∧ wD y ≤ 31 ∧ wD y = wL y + 28) ∨ (wM y = 4 ∧ 1 ≤ wD y ∧ wD y ≤ 25 ∧ wD y = wL y - 3) := by
  have hr := wi2_range y
  have hs := wI_spec y
  have hi : 0 ≤ wI y ∧ wI y ≤ 28 := by omega
  have hl : -6 ≤ wL y ∧ wL y ≤ 28 := by
    unfold wL
    generalize y + y / 4 + wI y + 2 - y / 100 + y / 100 / 4 = X
    omega
  unfold wD wM
  omega

theorem west_period {y t : Int} : wM (y + 5700000 * t) = wM y ∧ wD (y + 5700000 * t) = wD y := by
  have h2 : wi2 (y + 5700000 * t) = wi2 y := by
    unfold wi2
    have e1 : (y + 5700000 * t) / 100 = y / 100 + 57000 * t := by omega
    have e2 : (y + 5700000 * t) - 19 * ((y + 5700000 * t) / 19) = y - 19 * (y / 19) := by omega
    rw [e1, e2]
    have e3 : (y / 100 + 57000 * t - 17) / 25 = (y / 100 - 17) / 25 + 2280 * t := by omega
    have e4 : (y / 100 + 57000 * t) / 4 = y / 100 / 4 + 14250 * t := by omega
    rw [e3, e4]
    have e5 : (y / 100 + 57000 * t - ((y / 100 - 17) / 25 + 2280 * t)) / 3 = (y / 100 - (y / 100 - 17) / 25) / 3 + 18240 * t := by omega
    rw [e5]
    generalize y / 100 / 4 = a
    generalize (y / 100 - (y / 100 - 17) / 25) / 3 = b
    generalize y / 100 = c
    generalize y - 19 * (y / 19) = n
    omega
  have hI : wI (y + 5700000 * t) = wI y := by
    have e2 : (y + 5700000 * t) - 19 * ((y + 5700000 * t) / 19) = y - 19 * (y / 19) := by omega
    unfold wI
    rw [h2, e2]
  have hL : wL (y + 5700000 * t) = wL y := by
    unfold wL
    rw [hI]
    have e1 : (y + 5700000 * t) / 100 = y / 100 + 57000 * t := by omega
    have e4 : (y / 100 + 57000 * t) / 4 = y / 100 / 4 + 14250 * t := by omega
    have e5 : (y + 5700000 * t) / 4 = y / 4 + 1425000 * t := by omega
    rw [e1, e4, e5]
    generalize y / 100 / 4 = a
    generalize y / 100 = c
    generalize y / 4 = d
    generalize wI y = i
    omega
  have hM : wM (y + 5700000 * t) = wM y := by unfold wM; rw [hL]
  exact ⟨hM, by unfold wD; rw [hL, hM]⟩

theorem western_c {w : World} {mean : ExcName → Option Value} {mg mb : Loc} {y : Int} {ty : Tok} :
    Clm w mean mg mb 115 2 (1700 ≤ y ∧ y ≤ 100000000000000) [.int y ty] (retT y (wM y) (wD y)) := by
  intro dp un gd cn cs ca ccd cl outer A₀ base h₀ L m news s Q E B F X N T hk hp hd9 hu9 hret
  refine wpAny_call ?_
  k_dflt cell_enter
  k_steps
  refine' endT hret rfl ?e2 ?e3 (by k_asm) (by k_asm) (by k_mem) (fun _ h => List.mem_cons_of_mem _ h) (allLt_of (by assumption))
  case e2 => exact (west_end (by assumption) (by assumption) (by assumption) (by assumption) (by assumption) (by assumption) (by assumption) (by assumption) (by assumption) (by assumption) (by assumption) (by assumption) (by assumption) (by assumption) (by assumption) (by assumption) (by assumption) (by assumption)).1
  case e3 => exact (west_end (by assumption) (by assumption) (by assumption) (by assumption) (by assumption) (by assumption) (by assumption) (by assumption) (by assumption) (by assumption) (by assumption) (by assumption) (by assumption) (by assumption) (by assumption) (by assumption) (by assumption) (by assumption)).2

abbrev LP (y : Int) : Prop := y % 4 = 0 ∧ (y % 100 ≠ 0 ∨ y % 400 = 0)
def dimG (y m : Int) : Int := if m = 2 then (if LP y then 29 else 28) else if m = 4 ∨ m = 6 ∨ m = 9 ∨ m = 11 then 30 else 31
def jdG (y m d : Int) : Int := 1721426 - 1 + 365 * (y - 1) + (y - 1) / 4 + -((y - 1) / 100) + (y - 1) / 400 + ((367 * m - 362) / 12 + (if m ≤ 2 then 0 else if LP y then -1 else -2) + d)
theorem dimG_spec (y m : Int) : (m = 2 ∧ LP y ∧ dimG y m = 29) ∨ (m = 2 ∧ ¬ LP y ∧ dimG y m = 28) ∨ (m ≠ 2 ∧ (m = 4 ∨ m = 6 ∨ m = 9 ∨ m = 11) ∧ dimG y m = 30) ∨ (m ≠ 2 ∧ ¬ (m = 4 ∨ m = 6 ∨ m = 9 ∨ m = 11) ∧ dimG y m = 31) := by
  by_cases h : m = 2
  · by_cases h' : LP y
    · exact .inl ⟨h, h', by rw [dimG, if_pos h, if_pos h']⟩
    · exact .inr (.inl ⟨h, h', by rw [dimG, if_pos h, if_neg h']⟩)
  · by_cases h' : m = 4 ∨ m = 6 ∨ m = 9 ∨ m = 11
    · exact .inr (.inr (.inl ⟨h, h', by rw [dimG, if_neg h, if_pos h']⟩))
    · exact .inr (.inr (.inr ⟨h, h', by rw [dimG, if_neg h, if_neg h']⟩))
theorem jdG_spec (y m d : Int) : (m ≤ 2 ∧ jdG y m d = 1721426 - 1 + 365 * (y - 1) + (y - 1) / 4 + -((y - 1) / 100) + (y - 1) / 400 + ((367 * m - 362) / 12 + 0 + d)) ∨
    (¬ m ≤ 2 ∧ LP y ∧ jdG y m d = 1721426 - 1 + 365 * (y - 1) + (y - 1) / 4 + -((y - 1) / 100) + (y - 1) / 400 + ((367 * m - 362) / 12 + -1 + d)) ∨
    (¬ m ≤ 2 ∧ ¬ LP y ∧ jdG y m d = 1721426 - 1 + 365 * (y - 1) + (y - 1) / 4 + -((y - 1) / 100) + (y - 1) / 400 + ((367 * m - 362) / 12 + -2 + d)) := by
  by_cases h : m ≤ 2
  · exact .inl ⟨h, by rw [jdG, if_pos h]⟩
  · by_cases h' : LP y
    · exact .inr (.inl ⟨h, h', by rw [jdG, if_neg h, if_pos h']⟩)
    · exact .inr (.inr ⟨h, h', by rw [jdG, if_neg h, if_neg h']⟩)

abbrev retB2 (P : Prop) (h₀ : Heap) (L : Addr) (m : Loc) (news : Led) (s : Shared) (Q : Value → Shared → Prop) : Prop :=
  (P → ∀ (_t : Tok) (h' : Heap) (tk' : Nat), Fr h₀ L h' m → News h₀ L h' news → Q (.bool true) { s with heap := h', toks := tk' }) ∧
  (¬ P → ∀ (_t : Tok) (h' : Heap) (tk' : Nat), Fr h₀ L h' m → News h₀ L h' news → Q (.bool false) { s with heap := h', toks := tk' })

theorem endB2 {h₀ h' : Heap} {L : Addr} {m : Loc} {news : Led} {s : Shared} {Q : Value → Shared → Prop} {tk' : Nat} {P : Prop} {b : Bool} (hret : retB2 P h₀ L m news s Q) (e : b = true ↔ P) (F : Fr h₀ L h' m) (N : News h₀ L h' news) : Q (.bool b) { s with heap := h', toks := tk' } := by
  cases b
  · exact hret.2 (fun p => nomatch e.mpr p) 0 h' tk' F N
  · exact hret.1 (e.mp rfl) 0 h' tk' F N

theorem isleap_c {w : World} {mean : ExcName → Option Value} {mg mb : Loc} {y : Int} {ty : Tok} :
    Clm w mean mg mb 21 1 True [.int y ty] (retB2 (LP y)) := by
  intro dp un gd cn cs ca ccd cl outer A₀ base h₀ L m news s Q E B F X N T hk hp hd9 hu9 hret
  refine wpAny_call ?_
  k_dflt cell_enter
  k_steps
  all_goals exact endB2 hret (by simp only [bne_iff_ne, beq_iff_eq]; omega) (by k_asm) (by k_asm)

local macro_rules | `(tactic| walk_at "call ref") => `(tactic| (k_here; (with_reducible show wpAny _ _ (call (Value.ref 21) _) _ _ _); k_dflt (refine' Clm.use isleap_c ?k1 ?k2 ?k3 ?k4 ?k5 ?kK True.intro ?kd ?ku ?_); (case k1 => k_asm); (case k2 => k_asm); (case k3 => k_asm); (case k4 => k_asm); (case k5 => k_asm); (case kK => first | exact rfl | assumption); (case kd => ktr_room); (case ku => ktr_units); refine ⟨?_, ?_⟩ <;> (intro e9 t9 h9 tk9 F9 N9; (try dsimp only); (try k_fold); (try k_sweep))))

theorem inTup4 {prog : Program} {w : World} {A : Around} {E : Value → Shared → Prop} {s : Shared} {K : Frag} {h₀ : Heap} {L a : Addr} {m : Loc} {n : Nat} {l : List Value} {dd : Option Addr} {sl : Array (Option Value)} {x : Int} {u : Tok} {Q : Value → Shared → Prop}
    (F : Fr h₀ L s.heap m) (X₀ : K.In h₀) (hl : K.lookup a = some ⟨.type "tuple", dd, .seq l.toArray n, sl⟩) (hi : IntsAre l [4, 6, 9, 11])
    (hT : x = 4 ∨ x = 6 ∨ x = 9 ∨ x = 11 → Q (.bool true) s) (hF : ¬ (x = 4 ∨ x = 6 ∨ x = 9 ∨ x = 11) → Q (.bool false) s) : wpAny (model prog w) A (compareOp .In (.int x u) (.ref a)) Q E s := by
  refine in_tuple_ints (tupK (X₀.keeps F.keep) hl) (by simpa using hi) ?_
  by_cases h : x = 4 ∨ x = 6 ∨ x = 9 ∨ x = 11
  · rw [show ([4, 6, 9, 11] : List Int).any (· == x) = true by simp; omega]
    exact hT h
  · rw [show ([4, 6, 9, 11] : List Int).any (· == x) = false by simp; omega]
    exact hF h
local macro_rules | `(tactic| walk_at "compareOp In int ref") => `(tactic| (k_here; k_dflt (refine' inTup4 ?F ?X ?l ?i ?_ ?_; (case F => k_asm); (case X => k_asm); (case l => k_is); (case i => exact .cons _ _ (.cons _ _ (.cons _ _ (.cons _ _ .nil))))); all_goals intro e9))

theorem legalG_c {w : World} {mean : ExcName → Option Value} {mg mb : Loc} {y m' d : Int} {ty tm td : Tok} :
    Clm w mean mg mb 36 2 (0 < d ∧ d ≤ dimG y m') [.int y ty, .int m' tm, .int d td] (retB true) := by
  intro dp un gd cn cs ca ccd cl outer A₀ base h₀ L m news s Q E B F X N T hk hp hd9 hu9 hret
  have hdim := dimG_spec y m'
  refine wpAny_call ?_
  k_dflt cell_enter
  k_steps
  all_goals exact hret 0 _ _ (by k_asm) (by k_asm)


theorem toG_c {w : World} {mean : ExcName → Option Value} {mg mb : Loc} {y m' d : Int} {ty tm td : Tok} :
    Clm w mean mg mb 43 3 (0 < d ∧ d ≤ dimG y m') [.int y ty, .int m' tm, .int d td] (retI (jdG y m' d)) := by
  intro dp un gd cn cs ca ccd cl outer A₀ base h₀ L m news s Q E B F X N T hk hp hd9 hu9 hret
  refine wpAny_call ?_
  k_dflt cell_enter
  k_steps
  (k_dflt (refine' Clm.use legalG_c ?k1 ?k2 ?k3 ?k4 ?k5 ?kK ?kp ?kd ?ku ?_); (case k1 => k_asm); (case k2 => k_asm); (case k3 => k_asm); (case k4 => k_asm); (case k5 => k_asm); (case kK => first | exact rfl | assumption); (case kp => first | assumption | omega); (case kd => ktr_room); (case ku => ktr_units); intro t9 h9 tk9 F9 N9; (try dsimp only); (try k_fold); (try k_sweep))
  k_steps
  · exact endI hret (by rw [jdG, if_pos (by assumption)]) (by k_asm) (by k_asm)
  · exact endI hret (by rw [jdG, if_neg (by assumption), if_pos (by assumption)]) (by k_asm) (by k_asm)
  · exact endI hret (by rw [jdG, if_neg (by assumption), if_neg (by assumption)]) (by k_asm) (by k_asm)

theorem dimG_ge {y m : Int} : 28 ≤ dimG y m := by
  have h := dimG_spec y m
  omega
theorem jdG_day {y m d : Int} : jdG y m d = jdG y m 1 + d - 1 := by
  unfold jdG
  omega
theorem jan1 {Y : Int} : jdG Y 1 1 = 1721425 + 365 * (Y - 1) + (Y - 1) / 4 - (Y - 1) / 100 + (Y - 1) / 400 + 1 := by
  rw [jdG, if_pos (by decide)]
  generalize (Y - 1) / 4 = e1
  generalize (Y - 1) / 100 = e2
  generalize (Y - 1) / 400 = e3
  omega
theorem jdG_month {y m : Int} : (m ≤ 2 ∧ jdG y m 1 = jdG y 1 1 + (367 * m - 362) / 12) ∨ (¬ m ≤ 2 ∧ LP y ∧ jdG y m 1 = jdG y 1 1 + (367 * m - 362) / 12 - 1) ∨ (¬ m ≤ 2 ∧ ¬ LP y ∧ jdG y m 1 = jdG y 1 1 + (367 * m - 362) / 12 - 2) := by
  have b := @jan1 y
  rcases jdG_spec y m 1 with ⟨h, e⟩ | ⟨h, h', e⟩ | ⟨h, h', e⟩
  · refine .inl ⟨h, ?_⟩
    rw [e, b]
    generalize (367 * m - 362) / 12 = e0
    generalize (y - 1) / 4 = e1
    generalize (y - 1) / 100 = e2
    generalize (y - 1) / 400 = e3
    clear h e b
    omega
  · refine .inr (.inl ⟨h, h', ?_⟩)
    rw [e, b]
    generalize (367 * m - 362) / 12 = e0
    generalize (y - 1) / 4 = e1
    generalize (y - 1) / 100 = e2
    generalize (y - 1) / 400 = e3
    clear h h' e b
    omega
  · refine .inr (.inr ⟨h, h', ?_⟩)
    rw [e, b]
    generalize (367 * m - 362) / 12 = e0
    generalize (y - 1) / 4 = e1
    generalize (y - 1) / 100 = e2
    generalize (y - 1) / 400 = e3
    clear h h' e b
    omega

local macro_rules | `(tactic| walk_at "call ref") => `(tactic| (k_here; (with_reducible show wpAny _ _ (call (Value.ref 43) _) _ _ _); k_dflt (refine' Clm.use toG_c ?k1 ?k2 ?k3 ?k4 ?k5 ?kK ?kp ?kd ?ku ?_); (case k1 => k_asm); (case k2 => k_asm); (case k3 => k_asm); (case k4 => k_asm); (case k5 => k_asm); (case kK => first | exact rfl | assumption); (case kp => first | assumption | (exact ⟨by decide, Int.le_trans (by decide) dimG_ge⟩) | omega); (case kd => ktr_room); (case ku => ktr_units); intro t9 h9 tk9 F9 N9; (try dsimp only); (try k_fold); (try k_sweep)))
section
variable {prog : Program} {w : World} {A : Around} {E : Value → Shared → Prop} {s : Shared} {a b : Int} {t u : Tok} {Q : Value → Shared → Prop}
theorem divQ (hb : 0 < b) (hs : b ≤ 1000000000) (h : ∀ q : Int, q = a / b → Q (.int q s.toks) { s with toks := s.toks + 1 }) : wpAny (model prog w) A (binaryOp .FloorDiv (.int a t) (.int b u)) Q E s := divE hb hs (h _ rfl)
theorem modQ (hb : 0 < b) (h : ∀ q : Int, q = a % b → Q (.int q s.toks) { s with toks := s.toks + 1 }) : wpAny (model prog w) A (binaryOp .Mod (.int a t) (.int b u)) Q E s := modE hb (h _ rfl)
end
local macro_rules | `(tactic| walk_at "binaryOp FloorDiv int int") => `(tactic| (refine divQ (by first | decide | omega) (by first | decide | omega) ?_; intro q9 e9))
local macro_rules | `(tactic| walk_at "binaryOp Mod int int") => `(tactic| (refine modQ (by first | decide | omega) ?_; intro q9 e9))

abbrev retT3 (P : Int → Int → Int → Prop) (h₀ : Heap) (L : Addr) (m : Loc) (news : Led) (s : Shared) (Q : Value → Shared → Prop) : Prop :=
  ∀ x y z : Int, P x y z → retT x y z h₀ L m news s Q

abbrev IsG (jd y m d : Int) : Prop := jdG y m d = jd ∧ (0 < d ∧ d ≤ dimG y m)

theorem leap_facts {Y a c k yi : Int} (hc : 0 ≤ c ∧ c ≤ 3) (hk : 0 ≤ k ∧ k ≤ 24) (hy : 0 ≤ yi ∧ yi ≤ 3) (hY : Y = a * 400 + c * 100 + k * 4 + yi + 1) :
    (Y - 1) / 4 = 100 * a + 25 * c + k ∧ (Y - 1) / 100 = 4 * a + c ∧ (Y - 1) / 400 = a ∧ (LP Y ↔ yi = 3 ∧ (k ≠ 24 ∨ c = 3)) := by
  refine ⟨by omega, by omega, by omega, ?_⟩
  unfold LP
  omega
theorem fj1 {jd q r c r2 k r3 yi Y : Int} (h : 1721426 ≤ jd ∧ jd ≤ 10000000000000000) (hq : q = (jd - 1721426) / 146097) (hr : r = (jd - 1721426) % 146097) (hc : c = r / 36524) (hr2 : r2 = r % 36524) (hk : k = r2 / 1461) (hr3 : r3 = r2 % 1461) (hy : yi = r3 / 365)
    (hY : ((c = 4 ∨ yi = 4) ∧ Y = q * 400 + c * 100 + k * 4 + yi) ∨ ((c ≠ 4 ∧ yi ≠ 4) ∧ Y = q * 400 + c * 100 + k * 4 + yi + 1)) :
    0 ≤ jd - jdG Y 1 1 ∧ jd - jdG Y 1 1 ≤ 365 ∧ (¬ LP Y → jd - jdG Y 1 1 ≤ 364) := by
  have e : jd = 1721426 + 146097 * q + 36524 * c + 1461 * k + 365 * yi + (r3 - 365 * yi) := by omega
  have b1 : 0 ≤ r ∧ r ≤ 146096 := by omega
  have b2 : 0 ≤ c ∧ c ≤ 4 := by omega
  have b3 : 0 ≤ r2 ∧ r2 ≤ 36523 := by omega
  have b3' : c = 4 → r2 = 0 := by omega
  have b4 : 0 ≤ k ∧ k ≤ 24 := by omega
  have b5 : 0 ≤ r3 ∧ r3 ≤ 1460 := by omega
  have b6 : 0 ≤ yi ∧ yi ≤ 4 := by omega
  have b7 : 0 ≤ r3 - 365 * yi ∧ r3 - 365 * yi ≤ 364 := by omega
  have b8 : k = 24 → r3 ≤ 1459 := by omega
  have b9 : c = 4 → k = 0 ∧ r3 = 0 ∧ yi = 0 := by omega
  clear hq hr hc hr2 hk hr3 hy
  rcases hY with ⟨h4, hY⟩ | ⟨h4, hY⟩
  · -- the last day of a leap year
    rcases Int.lt_or_le c 4 with hc | hc
    · have hy : yi = 4 := by omega
      have hk : k ≠ 24 := by omega
      obtain ⟨f1, f2, f3, f4⟩ := leap_facts (Y := Y) (a := q) (c := c) (k := k) (yi := 3) ⟨b2.1, by omega⟩ b4 ⟨by omega, by omega⟩ (by omega)
      have hL : LP Y := f4.mpr ⟨rfl, .inl hk⟩
      have hj := @jan1 Y
      rw [f1, f2, f3] at hj
      exact ⟨by omega, by omega, fun hn => absurd hL hn⟩
    · have hc : c = 4 := by omega
      obtain ⟨z1, z2, z3⟩ := b9 hc
      obtain ⟨f1, f2, f3, f4⟩ := leap_facts (Y := Y) (a := q) (c := 3) (k := 24) (yi := 3) ⟨by omega, by omega⟩ ⟨by omega, by omega⟩ ⟨by omega, by omega⟩ (by omega)
      have hL : LP Y := f4.mpr ⟨rfl, .inr rfl⟩
      have hj := @jan1 Y
      rw [f1, f2, f3] at hj
      exact ⟨by omega, by omega, fun hn => absurd hL hn⟩
  · obtain ⟨f1, f2, f3, f4⟩ := leap_facts (Y := Y) (a := q) (c := c) (k := k) (yi := yi) ⟨b2.1, by omega⟩ b4 ⟨by omega, by omega⟩ (by omega)
    have hj := @jan1 Y
    rw [f1, f2, f3] at hj
    exact ⟨by omega, by omega, fun _ => by omega⟩

theorem mtab {jd j1 yd adj m off dim l : Int} (hl : l = 0 ∨ l = 1) (h0 : 0 ≤ yd) (h1 : yd ≤ 364 + l) (ha : (yd < 58 + l ∧ adj = 0) ∨ (58 + l ≤ yd ∧ adj = 2 - l)) (hm : m = ((yd + adj) * 12 + 373) / 367)
    (ho : (m ≤ 2 ∧ off = (367 * m - 362) / 12) ∨ (¬ m ≤ 2 ∧ off = (367 * m - 362) / 12 - 2 + l))
    (hd : (m = 2 ∧ dim = 28 + l) ∨ (m ≠ 2 ∧ (m = 4 ∨ m = 6 ∨ m = 9 ∨ m = 11) ∧ dim = 30) ∨ (m ≠ 2 ∧ ¬ (m = 4 ∨ m = 6 ∨ m = 9 ∨ m = 11) ∧ dim = 31)) (hz : jd - j1 = yd - off) :
    0 < jd - j1 + 1 ∧ jd - j1 + 1 ≤ dim := by
  rw [hz]
  clear hz
  have hm1 : 367 * m ≤ (yd + adj) * 12 + 373 ∧ (yd + adj) * 12 + 373 ≤ 367 * m + 366 := by omega
  clear hm
  omega

theorem fj2 {jd Y adj m : Int} (hf : 0 ≤ jd - jdG Y 1 1 ∧ jd - jdG Y 1 1 ≤ 365 ∧ (¬ LP Y → jd - jdG Y 1 1 ≤ 364))
    (hm : m = ((jd - jdG Y 1 1 + adj) * 12 + 373) / 367)
    (ha : (LP Y ∧ jd - jdG Y 1 1 < 58 + (if true = true then 1 else 0) ∧ adj = 0) ∨ (LP Y ∧ ¬ jd - jdG Y 1 1 < 58 + (if true = true then 1 else 0) ∧ adj = 1) ∨ (¬ LP Y ∧ jd - jdG Y 1 1 < 58 + (if false = true then 1 else 0) ∧ adj = 0) ∨ (¬ LP Y ∧ ¬ jd - jdG Y 1 1 < 58 + (if false = true then 1 else 0) ∧ adj = 2)) :
    IsG jd Y m (jd - jdG Y m 1 + 1) := by
  simp only [if_true, Bool.false_eq_true, if_false] at ha
  have hj := @jdG_month Y m
  have hd := dimG_spec Y m
  refine ⟨by rw [jdG_day]; clear hf hm ha hj hd; omega, ?_⟩
  generalize jdG Y m 1 = j1 at *
  generalize jdG Y 1 1 = j0 at *
  generalize dimG Y m = dim at *
  obtain ⟨g1, g2, g3⟩ := hf
  have key : ∀ l : Int, (l = 0 ∨ l = 1) → jd - j0 ≤ 364 + l → ((jd - j0 < 58 + l ∧ adj = 0) ∨ (58 + l ≤ jd - j0 ∧ adj = 2 - l)) →
      ((m ≤ 2 ∧ j1 = j0 + (367 * m - 362) / 12) ∨ (¬ m ≤ 2 ∧ j1 = j0 + (367 * m - 362) / 12 - 2 + l)) → ((m = 2 ∧ dim = 28 + l) ∨ (m ≠ 2 ∧ (m = 4 ∨ m = 6 ∨ m = 9 ∨ m = 11) ∧ dim = 30) ∨ (m ≠ 2 ∧ ¬ (m = 4 ∨ m = 6 ∨ m = 9 ∨ m = 11) ∧ dim = 31)) →
      0 < jd - j1 + 1 ∧ jd - j1 + 1 ≤ dim := by
    intro l hl h1 h2 h3 h4
    exact mtab (yd := jd - j0) (off := j1 - j0) hl g1 h1 h2 hm (by rcases h3 with ⟨a, b⟩ | ⟨a, b⟩; exact .inl ⟨a, by rw [b]; omega⟩; exact .inr ⟨a, by rw [b]; omega⟩) h4 (by omega)
  clear hm g1
  generalize LP Y = P at *
  generalize (367 * m - 362) / 12 = o at *
  by_cases hL : P
  · simp only [hL, true_and, and_true, not_true_eq_false, false_and, and_false, false_or, or_false] at ha hj hd
    exact key 1 (.inr rfl) (by omega) (by rcases ha with ⟨a, b⟩ | ⟨a, b⟩; exact .inl ⟨a, b⟩; exact .inr ⟨by omega, b⟩) (by rcases hj with ⟨a, b⟩ | ⟨a, b⟩; exact .inl ⟨a, b⟩; exact .inr ⟨a, by omega⟩) hd
  · simp only [hL, true_and, and_true, not_false_eq_true, false_and, and_false, false_or, or_false] at ha hj hd
    have g3 := g3 hL
    exact key 0 (.inl rfl) (by omega) (by rcases ha with ⟨a, b⟩ | ⟨a, b⟩; exact .inl ⟨a, b⟩; exact .inr ⟨by omega, b⟩) (by rcases hj with ⟨a, b⟩ | ⟨a, b⟩; exact .inl ⟨a, b⟩; exact .inr ⟨a, by omega⟩) hd

theorem endT3 {h₀ h' : Heap} {L : Addr} {m : Loc} {news : Led} {s : Shared} {Q : Value → Shared → Prop} {tk' : Nat} {P : Int → Int → Int → Prop} {x y z : Int} {D : Addr} {t1 t2 t3 : Tok} {c : Nat} {news' : Led} (hret : retT3 P h₀ L m news s Q) (e : P x y z) (F : Fr h₀ L h' m)
    (N : News h₀ L h' news') (hm : (D, ({ cls := .type "tuple", data := .seq #[.int x t1, .int y t2, .int z t3] c } : Obj)) ∈ news') (hn : ∀ p ∈ news, p ∈ news') (hl : AllLt D news) : Q (.ref D) { s with heap := h', toks := tk' } :=
  endT (hret x y z e) rfl rfl rfl F N hm hn hl

theorem fromG_c {w : World} {mean : ExcName → Option Value} {mg mb : Loc} {jd : Int} {tj : Tok} :
    Clm w mean mg mb 50 4 (1721426 ≤ jd ∧ jd ≤ 10000000000000000) [.int jd tj] (retT3 (IsG jd)) := by
  intro dp un gd cn cs ca ccd cl outer A₀ base h₀ L m news s Q E B F X N T hk hp hd9 hu9 hret
  refine wpAny_call ?_
  k_dflt cell_enter
  k_steps
  all_goals first
    | (refine' endT3 hret ?e (by k_asm) (by k_asm) (by k_mem) (fun _ h => List.mem_cons_of_mem _ h) (allLt_of (by assumption))
       case e =>
         refine' fj2 (adj := _) (fj1 hp (by assumption) (by assumption) (by assumption) (by assumption) (by assumption) (by assumption) (by assumption) ?hY) (by assumption) ?hA
         case hY => first | exact .inr ⟨⟨by assumption, by assumption⟩, rfl⟩ | exact .inl ⟨.inl (by assumption), rfl⟩ | exact .inl ⟨.inr (by assumption), rfl⟩
         case hA => first | exact .inl ⟨by assumption, by assumption, rfl⟩ | exact .inr (.inl ⟨by assumption, by assumption, rfl⟩) | exact .inr (.inr (.inl ⟨by assumption, by assumption, rfl⟩)) | exact .inr (.inr (.inr ⟨by assumption, by assumption, rfl⟩)))
    | (exfalso; omega)
abbrev IsE (m d : Int) : Prop := (m = 3 ∧ 22 ≤ d ∧ d ≤ 31) ∨ (m = 4 ∧ 1 ≤ d ∧ d ≤ 25)
def jdJ (y m d : Int) : Int := 1461 * (y + 4716) / 4 + 306001 * (m + 1) / 10000 + d - 1524

theorem mlen_c {w : World} {mean : ExcName → Option Value} {mg mb : Loc} {y m' : Int} {ty tm : Tok} :
    Clm w mean mg mb 65 2 (m' = 3 ∨ m' = 4) [.int y ty, .int m' tm] (retQ (fun q => (m' = 3 ∧ q = 31) ∨ (m' = 4 ∧ q = 30))) := by
  intro dp un gd cn cs ca ccd cl outer A₀ base h₀ L m news s Q E B F X N T hk hp hd9 hu9 hret
  refine wpAny_call ?_
  k_dflt cell_enter
  have hb : 3 ≤ m' ∧ m' ≤ 4 := by omega
  k_steps
  all_goals first | exact endQ hret (by omega) (by k_asm) (by k_asm) | (exfalso; omega)


theorem legalJ_c {w : World} {mean : ExcName → Option Value} {mg mb : Loc} {y m' d : Int} {ty tm td : Tok} :
    Clm w mean mg mb 72 3 (IsE m' d) [.int y ty, .int m' tm, .int d td] (retB true) := by
  intro dp un gd cn cs ca ccd cl outer A₀ base h₀ L m news s Q E B F X N T hk hp hd9 hu9 hret
  refine wpAny_call ?_
  k_dflt cell_enter
  have hb : 3 ≤ m' ∧ m' ≤ 4 ∧ 1 ≤ d ∧ d ≤ 31 := by omega
  k_steps
  (k_dflt (refine' Clm.use mlen_c ?k1 ?k2 ?k3 ?k4 ?k5 ?kK ?kp ?kd ?ku ?_); (case k1 => k_asm); (case k2 => k_asm); (case k3 => k_asm); (case k4 => k_asm); (case k5 => k_asm); (case kK => first | exact rfl | assumption); (case kp => omega); (case kd => ktr_room); (case ku => ktr_units); intro q9 e9 t9 h9 tk9 F9 N9; (try dsimp only); (try k_fold); (try k_sweep))
  k_steps
  all_goals first | exact hret 0 _ _ (by k_asm) (by k_asm) | (exfalso; omega)


theorem toJ_c {w : World} {mean : ExcName → Option Value} {mg mb : Loc} {y m' d : Int} {ty tm td : Tok} :
    Clm w mean mg mb 86 4 (IsE m' d ∧ 1 ≤ y ∧ y ≤ 100000000000000) [.int y ty, .int m' tm, .int d td] (retQ (fun v => v = jdJ y m' d)) := by
  intro dp un gd cn cs ca ccd cl outer A₀ base h₀ L m news s Q E B F X N T hk hp hd9 hu9 hret
  obtain ⟨hE, hp⟩ := hp
  refine wpAny_call ?_
  k_dflt cell_enter
  have hb : 3 ≤ m' ∧ m' ≤ 4 ∧ 1 ≤ d ∧ d ≤ 31 := by omega
  k_steps
  (k_dflt (refine' Clm.use legalJ_c ?k1 ?k2 ?k3 ?k4 ?k5 ?kK ?kp ?kd ?ku ?_); (case k1 => k_asm); (case k2 => k_asm); (case k3 => k_asm); (case k4 => k_asm); (case k5 => k_asm); (case kK => first | exact rfl | assumption); (case kp => first | assumption | omega); (case kd => ktr_room); (case ku => ktr_units); intro t9 h9 tk9 F9 N9; (try dsimp only); (try k_fold); (try k_sweep))
  k_steps
  all_goals first | exact endQ hret (by unfold jdJ; omega) (by k_asm) (by k_asm) | (exfalso; omega)

theorem jdJ_E {y m d : Int} (h : IsE m d) : (m = 3 ∧ jdJ y m d = 1461 * (y + 4716) / 4 + 122 + d - 1524) ∨ (m = 4 ∧ jdJ y m d = 1461 * (y + 4716) / 4 + 153 + d - 1524) := by
  unfold jdJ
  rcases h with ⟨h, _⟩ | ⟨h, _⟩ <;> subst h
  · exact .inl ⟨rfl, rfl⟩
  · exact .inr ⟨rfl, rfl⟩

theorem fromJ_end {y m d jd c d1 e q : Int} (hp : jd = jdJ y m d ∧ IsE m d ∧ 1 ≤ y ∧ y ≤ 100000000000000) (hc : c = (20 * (jd + 1524) - 2442) / 7305) (hd : d1 = 1461 * c / 4)
    (he : e = (jd + 1524 - d1) * 10000 / 306001) (hq : q = 306001 * e / 10000) : e < 14 ∧ c - 4716 = y ∧ e - 1 = m ∧ jd + 1524 - d1 - q = d := by
  obtain ⟨hj, hE, hy1, hy2⟩ := hp
  have h := @jdJ_E y m d hE
  rw [← hj] at h
  have hc' : c = y + 4716 := by omega
  have hd' : d1 = 1461 * (y + 4716) / 4 := by rw [hd, hc']
  rw [← hd'] at h
  clear hc hd hd' hj
  have he' : (m = 3 ∧ e = 4) ∨ (m = 4 ∧ e = 5) := by omega
  rcases he' with ⟨h3, h4⟩ | ⟨h3, h4⟩ <;> subst h4 <;> omega

theorem fromJ_c {w : World} {mean : ExcName → Option Value} {mg mb : Loc} {y m' d jd : Int} {tj : Tok} :
    Clm w mean mg mb 79 4 (jd = jdJ y m' d ∧ IsE m' d ∧ 1 ≤ y ∧ y ≤ 100000000000000) [.int jd tj] (retT y m' d) := by
  intro dp un gd cn cs ca ccd cl outer A₀ base h₀ L m news s Q E B F X N T hk hp hd9 hu9 hret
  refine wpAny_call ?_
  k_dflt cell_enter
  k_steps
  · obtain ⟨a1, a2, a3, a4⟩ := fromJ_end hp (by assumption) (by assumption) (by assumption) (by assumption)
    exact endT hret a2 a3 a4 (by k_asm) (by k_asm) (by k_mem) (fun _ h => List.mem_cons_of_mem _ h) (allLt_of (by assumption))
  · obtain ⟨a1, a2, a3, a4⟩ := fromJ_end hp (by assumption) (by assumption) (by assumption) (by assumption)
    exact absurd a1 (by assumption)

local macro_rules | `(tactic| walk_at "call ref") => `(tactic| (k_here; (with_reducible show wpAny _ _ (call (Value.ref 86) _) _ _ _); k_dflt (refine' Clm.use toJ_c ?k1 ?k2 ?k3 ?k4 ?k5 ?kK ?kp ?kd ?ku ?_); (case k1 => k_asm); (case k2 => k_asm); (case k3 => k_asm); (case k4 => k_asm); (case k5 => k_asm); (case kK => first | exact rfl | assumption); (case kp => first | assumption | omega); (case kd => ktr_room); (case ku => ktr_units); intro q9 e9 t9 h9 tk9 F9 N9; (try dsimp only); (try k_fold); (try k_sweep)))

theorem fromGreg_c {w : World} {mean : ExcName → Option Value} {mg mb : Loc} {y m' d y2 m2 d2 : Int} {ty tm td : Tok} :
    Clm w mean mg mb 93 5 ((0 < d ∧ d ≤ dimG y m') ∧ jdG y m' d = jdJ y2 m2 d2 ∧ IsE m2 d2 ∧ 1 ≤ y2 ∧ y2 ≤ 100000000000000) [.int y ty, .int m' tm, .int d td] (retT y2 m2 d2) := by
  intro dp un gd cn cs ca ccd cl outer A₀ base h₀ L m news s Q E B F X N T hk hp hd9 hu9 hret
  obtain ⟨hp, hp2⟩ := hp
  refine wpAny_call ?_
  k_dflt cell_enter
  k_steps
  (k_dflt (refine' Clm.use fromJ_c ?k1 ?k2 ?k3 ?k4 ?k5 ?kK ?kp ?kd ?ku ?_); (case k1 => k_asm); (case k2 => k_asm); (case k3 => k_asm); (case k4 => k_asm); (case k5 => k_asm); (case kK => first | exact rfl | assumption); (case kp => assumption); (case kd => ktr_room); (case ku => ktr_units); intro D9 t1 t2 t3 c9 h9 tk9 F9 N9 l9; (try dsimp only); (try simp only [AllLt, and_true] at l9); (try k_fold); (try k_sweep))
  k_steps
  exact endT hret rfl rfl rfl (by k_asm) (by k_asm) (by k_mem) (fun _ h => List.mem_cons_of_mem _ h) (by first | assumption | exact allLt_of (by assumption))

theorem toGreg_c {w : World} {mean : ExcName → Option Value} {mg mb : Loc} {y m' d : Int} {ty tm td : Tok} :
    Clm w mean mg mb 100 5 (IsE m' d ∧ 1 ≤ y ∧ y ≤ 10000000000000) [.int y ty, .int m' tm, .int d td] (retT3 (IsG (jdJ y m' d))) := by
  intro dp un gd cn cs ca ccd cl outer A₀ base h₀ L m news s Q E B F X N T hk hp hd9 hu9 hret
  have hj := @jdJ_E y m' d hp.1
  refine wpAny_call ?_
  k_dflt cell_enter
  k_steps
  (k_dflt (refine' Clm.use fromG_c ?k1 ?k2 ?k3 ?k4 ?k5 ?kK ?kp ?kd ?ku ?_); (case k1 => k_asm); (case k2 => k_asm); (case k3 => k_asm); (case k4 => k_asm); (case k5 => k_asm); (case kK => first | exact rfl | assumption); (case kp => first | assumption | omega); (case kd => ktr_room); (case ku => ktr_units); intro x9 y9 z9 e9 D9 t1 t2 t3 c9 h9 tk9 F9 N9 l9; (try dsimp only); (try simp only [AllLt, and_true] at l9); (try k_fold); (try k_sweep))
  k_steps
  rename _ = jdJ y m' d => hv
  subst hv
  refine' endT3 hret ?e (by k_asm) (by k_asm) (by k_mem) (fun _ h => List.mem_cons_of_mem _ h) (by first | assumption | exact allLt_of (by assumption))
  case e => assumption

def jd0 (y : Int) : Int := (19 * (y % 19) + 15) % 30
def jd1 (y : Int) : Int := if y % 19 = 0 then jd0 y + 1 else jd0 y
def jS (y d : Int) : Int := 113 + d + (2 * (y % 4) + 4 * (y % 7) - d + 6) % 7 + 1
def jM (y d : Int) : Int := jS y d / 31
def jD (y d : Int) : Int := jS y d % 31 + 1

theorem jul_end {y d q5 q4 q3 q2 q1 q0 : Int} (h1 : q1 = (113 + q3 + q2 + 1) / 31) (h0 : q0 = (113 + q3 + q2 + 1) % 31) (h2 : q2 = (2 * q5 + 4 * q4 - q3 + 6) % 7) (h5 : q5 = y % 4) (h4 : q4 = y % 7) (h3 : q3 = d) :
    q1 = jM y d ∧ q0 + 1 = jD y d := by
  subst h3 h5 h4 h2 h1 h0
  exact ⟨rfl, rfl⟩

theorem jul0_c {w : World} {mean : ExcName → Option Value} {mg mb : Loc} {y : Int} {ty : Tok} :
    Clm w mean mg mb 123 2 (1 ≤ y ∧ y ≤ 10000000000000) [.int y ty] (retT y (jM y (jd0 y)) (jD y (jd0 y))) := by
  intro dp un gd cn cs ca ccd cl outer A₀ base h₀ L m news s Q E B F X N T hk hp hd9 hu9 hret
  refine wpAny_call ?_
  k_dflt (refine' code_def ?k1 ?k2 ?k3 ?k4 ?k5 ?kA ?kF ?kK ?k6 ?k7 ?k8 ?k9 ?kB ?_ ?c2 ?c3 ?c4 ?c5; (case kA => exact rfl); (case kF => exact rfl); (case kK => assumption); (case k1 => k_asm); (case k2 => k_asm); (case k3 => k_asm); (case k4 => k_asm); (case k5 => k_asm); (case k6 => k_is); (case k7 => k_is); (case k8 => ktr_room); (case k9 => first | exact BindsTo.of_eq rfl | exact binds_K (by k_in) rfl (by k_is) rfl rfl rfl | fail "k_enter: no rule for these arguments"); (case c5 => decide); (case kB => exact locs rfl); (case c2 => exact rfl); (case c3 => exact rfl); (case c4 => exact rfl); k_whole; intro g' L' h' FG' F' N' B' X' T'; (try dsimp only); (try k_lift B'); (try k_fold))
  k_steps
  obtain ⟨a1, a2⟩ := jul_end (d := jd0 y) (by assumption) (by assumption) (by assumption) (by assumption) (by assumption) (by unfold jd0; simp only [*])
  exact endT hret rfl a1 a2 (by k_asm) (by k_asm) (by k_mem) (fun _ h => List.mem_cons_of_mem _ h) (allLt_of (by assumption))

theorem jRange {y d : Int} (h : 0 ≤ d ∧ d ≤ 28) : IsE (jM y d) (jD y d) := by
  have e : 114 ≤ jS y d ∧ jS y d ≤ 148 := by unfold jS; omega
  unfold jM jD
  omega
theorem jd0_range {y : Int} : 0 ≤ jd0 y ∧ jd0 y ≤ 28 := by
  unfold jd0
  have h : 0 ≤ y % 19 ∧ y % 19 ≤ 18 := by omega
  generalize y % 19 = r at *
  omega
theorem jd1_range {y : Int} : 0 ≤ jd1 y ∧ jd1 y ≤ 28 := by
  have h := @jd0_range y
  unfold jd1
  split
  · rename_i e
    have : jd0 y = 15 := by unfold jd0; rw [e]; decide
    omega
  · exact h


theorem easterO_c {w : World} {mean : ExcName → Option Value} {mg mb : Loc} {y : Int} {ty tc : Tok} :
    Clm w mean mg mb 108 6 (1 ≤ y ∧ y ≤ 10000000000000) [.int y ty, .str (Str.ofString "orthodox") tc] (retT3 (IsG (jdJ y (jM y (jd0 y)) (jD y (jd0 y))))) := by
  intro dp un gd cn cs ca ccd cl outer A₀ base h₀ L m news s Q E B F X N T hk hp hd9 hu9 hret
  have hE := @jRange y (jd0 y) jd0_range
  refine wpAny_call ?_
  k_dflt (refine' code_def ?k1 ?k2 ?k3 ?k4 ?k5 ?kA ?kF ?kK ?k6 ?k7 ?k8 ?k9 ?kB ?_ ?c2 ?c3 ?c4 ?c5; (case kA => exact rfl); (case kF => exact rfl); (case kK => assumption); (case k1 => k_asm); (case k2 => k_asm); (case k3 => k_asm); (case k4 => k_asm); (case k5 => k_asm); (case k6 => k_is); (case k7 => k_is); (case k8 => ktr_room); (case k9 => first | exact BindsTo.of_eq rfl | exact binds_K (by k_in) rfl (by k_is) rfl rfl rfl | fail "k_enter: no rule for these arguments"); (case c5 => decide); (case kB => exact locs rfl); (case c2 => exact rfl); (case c3 => exact rfl); (case c4 => exact rfl); k_whole; intro g' L' h' FG' F' N' B' X' T'; (try dsimp only); (try k_lift B'); (try k_fold))
  k_steps
  (k_dflt (refine' Clm.use jul0_c ?k1 ?k2 ?k3 ?k4 ?k5 ?kK ?kp ?kd ?ku ?_); (case k1 => k_asm); (case k2 => k_asm); (case k3 => k_asm); (case k4 => k_asm); (case k5 => k_asm); (case kK => first | exact rfl | assumption); (case kp => first | assumption | omega); (case kd => ktr_room); (case ku => ktr_units); intro D9 t1 t2 t3 c9 h9 tk9 F9 N9 l9; (try dsimp only); (try simp only [AllLt, and_true] at l9); (try k_fold); (try k_sweep))
  k_steps
  (k_dflt (refine' Clm.use toGreg_c ?k1 ?k2 ?k3 ?k4 ?k5 ?kK ?kp ?kd ?ku ?_); (case k1 => k_asm); (case k2 => k_asm); (case k3 => k_asm); (case k4 => k_asm); (case k5 => k_asm); (case kK => first | exact rfl | assumption); (case kp => first | assumption | omega); (case kd => ktr_room); (case ku => ktr_units); intro x9 y9 z9 e9 D9 t1 t2 t3 c9 h9 tk9 F9 N9 l9; (try dsimp only); (try simp only [AllLt, and_true] at l9); (try k_fold); (try k_sweep))
  k_steps
  rename _ ∧ AllLt _ _ => hl
  refine' endT3 hret ?e (by k_asm) (by k_asm) (by k_mem) (fun _ h => List.mem_cons_of_mem _ (List.mem_cons_of_mem _ h)) hl.2
  case e => assumption

abbrev ClmK (w : World) (mean : ExcName → Option Value) (mg mb : Loc) (f : Addr) (k : Nat) (pre : Prop) (vs : List Value) (kw : List (Str × Value))
    (ret : Heap → Addr → Loc → Led → Shared → (Value → Shared → Prop) → Prop) : Prop :=
  ∀ (dp un : Nat) (gd : Option (List Code)) (cn : Str) (cs : Scope) (a : Addr) (ccd : Value) (cl : List (Str × Addr)) (outer : List Env) (A₀ : Around) (base h₀ : Heap) (L : Addr) (m : Loc) (news : Led) (s : Shared) (Q E : Value → Shared → Prop),
    Below A₀ base outer h₀ → Fr h₀ L s.heap m → (hd.heap_39 w.params).In h₀ → News h₀ L s.heap news → Top hd.view_39 loo mean mg mb h₀ → cs.kind = .function →
    pre → dp + k < recursionLimit → un + 8 * k < cLine → ret h₀ L m news s Q →
    wpAny (model PySem.Challenge.rw_ah0024_01.row.prog w) (ktrTop dp un gd cn cs L a ccd cl outer) (call (.ref f) vs kw) Q E s
theorem ClmK.use {w : World} {mean : ExcName → Option Value} {mg mb : Loc} {f : Addr} {k : Nat} {pre : Prop} {vs : List Value} {kw : List (Str × Value)}
    {ret : Heap → Addr → Loc → Led → Shared → (Value → Shared → Prop) → Prop} (c : ClmK w mean mg mb f k pre vs kw ret)
    {dp un : Nat} {gd : Option (List Code)} {cn : Str} {cs : Scope} {a : Addr} {ccd : Value} {cl : List (Str × Addr)} {outer : List Env} {A₀ : Around} {base h₀ : Heap} {L : Addr} {m : Loc} {news : Led} {s : Shared} {Q E : Value → Shared → Prop}
    (B : Below A₀ base outer h₀) (F : Fr h₀ L s.heap m) (X : (hd.heap_39 w.params).In h₀) (N : News h₀ L s.heap news) (T : Top hd.view_39 loo mean mg mb h₀) (hk : cs.kind = .function)
    (hp : pre) (hd9 : dp + k < recursionLimit) (hu9 : un + 8 * k < cLine) (hr : ret h₀ L m news s Q) :
    wpAny (model PySem.Challenge.rw_ah0024_01.row.prog w) (ktrTop dp un gd cn cs L a ccd cl outer) (call (.ref f) vs kw) Q E s :=
  c dp un gd cn cs a ccd cl outer A₀ base h₀ L m news s Q E B F X N T hk hp hd9 hu9 hr

theorem jul1_c {w : World} {mean : ExcName → Option Value} {mg mb : Loc} {y : Int} {ty tk : Tok} :
    ClmK w mean mg mb 123 2 (1 ≤ y ∧ y ≤ 10000000000000) [.int y ty] [(Str.ofString "mode", .str (Str.ofString "eastern") tk)] (retT y (jM y (jd1 y)) (jD y (jd1 y))) := by
  intro dp un gd cn cs ca ccd cl outer A₀ base h₀ L m news s Q E B F X N T hk hp hd9 hu9 hret
  refine wpAny_call ?_
  k_dflt (refine' code_def ?k1 ?k2 ?k3 ?k4 ?k5 ?kA ?kF ?kK ?k6 ?k7 ?k8 ?k9 ?kB ?_ ?c2 ?c3 ?c4 ?c5; (case kA => exact rfl); (case kF => exact rfl); (case kK => assumption); (case k1 => k_asm); (case k2 => k_asm); (case k3 => k_asm); (case k4 => k_asm); (case k5 => k_asm); (case k6 => k_is); (case k7 => k_is); (case k8 => ktr_room); (case k9 => first | exact BindsTo.of_eq rfl | exact binds_K (by k_in) rfl (by k_is) rfl rfl rfl | fail "k_enter: no rule for these arguments"); (case c5 => decide); (case kB => exact locs rfl); (case c2 => exact rfl); (case c3 => exact rfl); (case c4 => exact rfl); k_whole; intro g' L' h' FG' F' N' B' X' T'; (try dsimp only); (try k_lift B'); (try k_fold))
  k_steps
  · obtain ⟨a1, a2⟩ := jul_end (d := jd1 y) (by assumption) (by assumption) (by assumption) (by assumption) (by assumption) (by unfold jd1 jd0; rw [if_pos (by omega)]; omega)
    exact endT hret rfl a1 a2 (by k_asm) (by k_asm) (by k_mem) (fun _ h => List.mem_cons_of_mem _ h) (allLt_of (by assumption))
  · obtain ⟨a1, a2⟩ := jul_end (d := jd1 y) (by assumption) (by assumption) (by assumption) (by assumption) (by assumption) (by unfold jd1 jd0; rw [if_neg (by omega)]; omega)
    exact endT hret rfl a1 a2 (by k_asm) (by k_asm) (by k_mem) (fun _ h => List.mem_cons_of_mem _ h) (allLt_of (by assumption))


theorem easterE_c {w : World} {mean : ExcName → Option Value} {mg mb : Loc} {y : Int} {ty tc : Tok} :
    Clm w mean mg mb 108 6 (1 ≤ y ∧ y ≤ 10000000000000) [.int y ty, .str (Str.ofString "eastern") tc] (retT3 (IsG (jdJ y (jM y (jd1 y)) (jD y (jd1 y))))) := by
  intro dp un gd cn cs ca ccd cl outer A₀ base h₀ L m news s Q E B F X N T hk hp hd9 hu9 hret
  have hE := @jRange y (jd1 y) jd1_range
  refine wpAny_call ?_
  k_dflt (refine' code_def ?k1 ?k2 ?k3 ?k4 ?k5 ?kA ?kF ?kK ?k6 ?k7 ?k8 ?k9 ?kB ?_ ?c2 ?c3 ?c4 ?c5; (case kA => exact rfl); (case kF => exact rfl); (case kK => assumption); (case k1 => k_asm); (case k2 => k_asm); (case k3 => k_asm); (case k4 => k_asm); (case k5 => k_asm); (case k6 => k_is); (case k7 => k_is); (case k8 => ktr_room); (case k9 => first | exact BindsTo.of_eq rfl | exact binds_K (by k_in) rfl (by k_is) rfl rfl rfl | fail "k_enter: no rule for these arguments"); (case c5 => decide); (case kB => exact locs rfl); (case c2 => exact rfl); (case c3 => exact rfl); (case c4 => exact rfl); k_whole; intro g' L' h' FG' F' N' B' X' T'; (try dsimp only); (try k_lift B'); (try k_fold))
  k_steps
  (k_dflt (refine' ClmK.use jul1_c ?k1 ?k2 ?k3 ?k4 ?k5 ?kK ?kp ?kd ?ku ?_); (case k1 => k_asm); (case k2 => k_asm); (case k3 => k_asm); (case k4 => k_asm); (case k5 => k_asm); (case kK => first | exact rfl | assumption); (case kp => first | assumption | omega); (case kd => ktr_room); (case ku => ktr_units); intro D9 t1 t2 t3 c9 h9 tk9 F9 N9 l9; (try dsimp only); (try simp only [AllLt, and_true] at l9); (try k_fold); (try k_sweep))
  k_steps
  (k_dflt (refine' Clm.use toGreg_c ?k1 ?k2 ?k3 ?k4 ?k5 ?kK ?kp ?kd ?ku ?_); (case k1 => k_asm); (case k2 => k_asm); (case k3 => k_asm); (case k4 => k_asm); (case k5 => k_asm); (case kK => first | exact rfl | assumption); (case kp => first | assumption | omega); (case kd => ktr_room); (case ku => ktr_units); intro x9 y9 z9 e9 D9 t1 t2 t3 c9 h9 tk9 F9 N9 l9; (try dsimp only); (try simp only [AllLt, and_true] at l9); (try k_fold); (try k_sweep))
  k_steps
  rename _ ∧ AllLt _ _ => hl
  refine' endT3 hret ?e (by k_asm) (by k_asm) (by k_mem) (fun _ h => List.mem_cons_of_mem _ (List.mem_cons_of_mem _ h)) hl.2
  case e => assumption

theorem easterW_c {w : World} {mean : ExcName → Option Value} {mg mb : Loc} {y : Int} {ty : Tok} :
    Clm w mean mg mb 108 3 (1700 ≤ y ∧ y ≤ 10000000000000) [.int y ty] (retT y (wM y) (wD y)) := by
  intro dp un gd cn cs ca ccd cl outer A₀ base h₀ L m news s Q E B F X N T hk hp hd9 hu9 hret
  refine wpAny_call ?_
  k_dflt (refine' code_def ?k1 ?k2 ?k3 ?k4 ?k5 ?kA ?kF ?kK ?k6 ?k7 ?k8 ?k9 ?kB ?_ ?c2 ?c3 ?c4 ?c5; (case kA => exact rfl); (case kF => exact rfl); (case kK => assumption); (case k1 => k_asm); (case k2 => k_asm); (case k3 => k_asm); (case k4 => k_asm); (case k5 => k_asm); (case k6 => k_is); (case k7 => k_is); (case k8 => ktr_room); (case k9 => first | exact BindsTo.of_eq rfl | exact binds_K (by k_in) rfl (by k_is) rfl rfl rfl | fail "k_enter: no rule for these arguments"); (case c5 => decide); (case kB => exact locs rfl); (case c2 => exact rfl); (case c3 => exact rfl); (case c4 => exact rfl); k_whole; intro g' L' h' FG' F' N' B' X' T'; (try dsimp only); (try k_lift B'); (try k_fold))
  k_steps
  (k_dflt (refine' Clm.use western_c ?k1 ?k2 ?k3 ?k4 ?k5 ?kK ?kp ?kd ?ku ?_); (case k1 => k_asm); (case k2 => k_asm); (case k3 => k_asm); (case k4 => k_asm); (case k5 => k_asm); (case kK => first | exact rfl | assumption); (case kp => omega); (case kd => ktr_room); (case ku => ktr_units); intro D9 t1 t2 t3 c9 h9 tk9 F9 N9 l9; (try dsimp only); (try simp only [AllLt, and_true] at l9); (try k_fold); (try k_sweep))
  k_steps
  exact endT hret rfl rfl rfl (by k_asm) (by k_asm) (by k_mem) (fun _ h => List.mem_cons_of_mem _ h) (by assumption)

theorem jul_sunday {y d : Int} (h : 0 ≤ d ∧ d ≤ 28) : jdJ y (jM y d) (jD y d) % 7 = 6 := by
  have hE := @jdJ_E y (jM y d) (jD y d) (jRange h)
  have e : 114 ≤ jS y d ∧ jS y d ≤ 148 := by unfold jS; omega
  have h1 : jdJ y (jM y d) (jD y d) = 1461 * (y + 4716) / 4 + jS y d + 30 - 1524 := by
    unfold jM jD at *
    generalize jdJ y (jS y d / 31) (jS y d % 31 + 1) = v at *
    generalize 1461 * (y + 4716) / 4 = u at *
    omega
  rw [h1]
  unfold jS
  have h2 : 1461 * (y + 4716) / 4 = 1461 * (y / 4) + 1722519 + 365 * (y % 4) := by omega
  rw [h2]
  omega

theorem isG_pre {Y M D x y z : Int} (h : IsG (jdJ Y M D) x y z) (hE : IsE M D) (hy : 1 ≤ Y ∧ Y ≤ 100000000000000) :
    ((0 < z ∧ z ≤ dimG x y) ∧ jdG x y z = jdJ Y M D ∧ IsE M D ∧ 1 ≤ Y ∧ Y ≤ 100000000000000) :=
  ⟨h.2, h.1, hE, hy⟩

theorem le_tup2 {prog : Program} {w : World} {A : Around} {E : Value → Shared → Prop} {s : Shared} {a b : Addr} {x1 y1 x2 y2 : Int} {t1 t2 u1 u2 : Tok} {Q : Value → Shared → Prop}
    (ha : IsTup s.heap a #[.int x1 t1, .int y1 t2]) (hb : IsTup s.heap b #[.int x2 u1, .int y2 u2]) (hu : A.units < cLine)
    (hT : x1 < x2 ∨ (x1 = x2 ∧ y1 ≤ y2) → Q (.bool true) s) (hF : ¬ (x1 < x2 ∨ (x1 = x2 ∧ y1 ≤ y2)) → Q (.bool false) s) :
    wpAny (model prog w) A (compareOp .LtE (.ref a) (.ref b)) Q E s := by
  have hQ : ∀ c : Bool, (c = true ↔ x1 < x2 ∨ (x1 = x2 ∧ y1 ≤ y2)) → Q (.bool c) s := by
    intro c hc
    cases c
    · exact hF (fun h => nomatch hc.mpr h)
    · exact hT (hc.mp rfl)
  refine cmp_ofLtE (wpAny_richCompare_same_room ha.typeIs hb.typeIs F.slot_tuple_le ?_ hu)
  refine wpAny_call_entry F.slot_tuple_le ha.typeIs F.entry_tuple_le ?_ (F.args_tuple_le_2 _ _)
  show wpAny _ _ (isInstance (.ref b) (.type "tuple") >>= _) _ _ s
  refine wpAny_bind (wpAny_isInstance hb.typeIs isSubtype_tuple_tuple ?_)
  simp only [Bool.not_true, Bool.false_eq_true, if_false]
  refine wpAny_bind (tupleItemsOf_ ha ?_)
  refine wpAny_bind (tupleItemsOf_ hb ?_)
  simp only [List.zip_cons_cons, List.zip_nil_right, List.forIn_cons, List.forIn_nil]
  refine wpAny_bind ?_
  refine wpAny_bind ?_
  refine wpAny_bind (wpAny_eqBool_int ?_)
  by_cases e1 : x1 = x2
  · rw [show (x1 == x2) = true by simpa using e1]
    simp only [Bool.not_true, Bool.false_eq_true, if_false]
    refine wpAny_pure ?_
    dsimp only
    refine wpAny_bind ?_
    refine wpAny_bind (wpAny_eqBool_int ?_)
    by_cases e2 : y1 = y2
    · rw [show (y1 == y2) = true by simpa using e2]
      simp only [Bool.not_true, Bool.false_eq_true, if_false]
      refine wpAny_pure ?_
      dsimp only
      refine wpAny_pure ?_
      dsimp only
      refine wpAny_pure ⟨_, rfl, fun h => (nomatch h), hQ _ ?_⟩
      constructor
      · intro _; omega
      · intro _; rfl
    · rw [show (y1 == y2) = false by simpa using e2]
      simp only [Bool.not_false, if_true]
      refine wpAny_bind (wpAny_rule ?_)
      refine wpAny_bind ?_
      refine le_int (prog := prog) (w := w) ?_
      refine wpAny_bind (wpAny_pure ?_)
      refine wpAny_pure ?_
      dsimp only
      refine wpAny_pure ?_
      dsimp only
      refine wpAny_pure ⟨_, rfl, fun h => (nomatch h), hQ _ ?_⟩
      simp only [decide_eq_true_eq]
      omega
  · rw [show (x1 == x2) = false by simpa using e1]
    simp only [Bool.not_false, if_true]
    refine wpAny_bind (wpAny_rule ?_)
    refine wpAny_bind ?_
    refine le_int (prog := prog) (w := w) ?_
    refine wpAny_bind (wpAny_pure ?_)
    refine wpAny_pure ?_
    dsimp only
    refine wpAny_pure ?_
    dsimp only
    refine wpAny_pure ⟨_, rfl, fun h => (nomatch h), hQ _ ?_⟩
    simp only [decide_eq_true_eq]
    omega
local macro_rules | `(tactic| walk_at "compareOp LtE ref ref") => `(tactic| (k_here; (with_reducible show wpAny _ _ (compareOp CmpOp.LtE (Value.ref _) (Value.ref _)) _ _ _); k_dflt (refine' le_tup2 ?ha ?hb ?hu ?_ ?_; (case ha => exact News.isTup (by k_asm) (by k_mem)); (case hb => exact News.isTup (by k_asm) (by k_mem)); (case hu => first | k_units | ktr_units)); all_goals (intro e9; try (exfalso; omega))))

theorem ljulO_c {w : World} {mean : ExcName → Option Value} {mg mb : Loc} {y : Int} {ty tc : Tok} :
    Clm w mean mg mb 144 7 (1 ≤ y ∧ y ≤ 10000000000000) [.int y ty, .str (Str.ofString "orthodox") tc] (retT y (jM y (jd0 y)) (jD y (jd0 y))) := by
  intro dp un gd cn cs ca ccd cl outer A₀ base h₀ L m news s Q E B F X N T hk hp hd9 hu9 hret
  have hE := @jRange y (jd0 y) jd0_range
  have hS := @jul_sunday y (jd0 y) jd0_range
  refine wpAny_call ?_
  k_dflt cell_enter
  k_steps
  (k_dflt (first | refine' Clm.use easterO_c ?k1 ?k2 ?k3 ?k4 ?k5 ?kK ?kp ?kd ?ku ?_ | refine' Clm.use easterE_c ?k1 ?k2 ?k3 ?k4 ?k5 ?kK ?kp ?kd ?ku ?_); (case k1 => k_asm); (case k2 => k_asm); (case k3 => k_asm); (case k4 => k_asm); (case k5 => k_asm); (case kK => first | exact rfl | assumption); (case kp => omega); (case kd => ktr_room); (case ku => ktr_units); intro x9 y9 z9 e9 D9 t1 t2 t3 c9 h9 tk9 F9 N9 l9; (try dsimp only); (try simp only [AllLt, and_true] at l9); (try k_fold); (try k_sweep))
  k_steps
  all_goals (try (k_dflt (refine' Clm.use fromGreg_c ?k1 ?k2 ?k3 ?k4 ?k5 ?kK ?kp ?kd ?ku ?_); (case k1 => k_asm); (case k2 => k_asm); (case k3 => k_asm); (case k4 => k_asm); (case k5 => k_asm); (case kK => first | exact rfl | assumption); (case kp => refine' isG_pre ?kp1 ?kp2 ?kp3; (case kp1 => assumption); (case kp2 => assumption); (case kp3 => omega)); (case kd => ktr_room); (case ku => ktr_units); intro D9 t1 t2 t3 c9 h9 tk9 F9 N9 l9; (try dsimp only); (try simp only [AllLt, and_true] at l9); (try k_fold); (try k_sweep)))
  all_goals (try k_steps)
  all_goals first
    | exact endT hret rfl rfl rfl (by k_asm) (by k_asm) (by k_mem) (by kcj_all) (by first | assumption | exact And.right (by assumption))
    | (exfalso; omega)

theorem ljulE_c {w : World} {mean : ExcName → Option Value} {mg mb : Loc} {y : Int} {ty tc : Tok} :
    Clm w mean mg mb 144 7 (1 ≤ y ∧ y ≤ 10000000000000) [.int y ty, .str (Str.ofString "eastern") tc] (retT y (jM y (jd1 y)) (jD y (jd1 y))) := by
  intro dp un gd cn cs ca ccd cl outer A₀ base h₀ L m news s Q E B F X N T hk hp hd9 hu9 hret
  have hE := @jRange y (jd1 y) jd1_range
  have hS := @jul_sunday y (jd1 y) jd1_range
  refine wpAny_call ?_
  k_dflt cell_enter
  k_steps
  (k_dflt (first | refine' Clm.use easterO_c ?k1 ?k2 ?k3 ?k4 ?k5 ?kK ?kp ?kd ?ku ?_ | refine' Clm.use easterE_c ?k1 ?k2 ?k3 ?k4 ?k5 ?kK ?kp ?kd ?ku ?_); (case k1 => k_asm); (case k2 => k_asm); (case k3 => k_asm); (case k4 => k_asm); (case k5 => k_asm); (case kK => first | exact rfl | assumption); (case kp => omega); (case kd => ktr_room); (case ku => ktr_units); intro x9 y9 z9 e9 D9 t1 t2 t3 c9 h9 tk9 F9 N9 l9; (try dsimp only); (try simp only [AllLt, and_true] at l9); (try k_fold); (try k_sweep))
  k_steps
  all_goals (try (k_dflt (refine' Clm.use fromGreg_c ?k1 ?k2 ?k3 ?k4 ?k5 ?kK ?kp ?kd ?ku ?_); (case k1 => k_asm); (case k2 => k_asm); (case k3 => k_asm); (case k4 => k_asm); (case k5 => k_asm); (case kK => first | exact rfl | assumption); (case kp => refine' isG_pre ?kp1 ?kp2 ?kp3; (case kp1 => assumption); (case kp2 => assumption); (case kp3 => omega)); (case kd => ktr_room); (case ku => ktr_units); intro D9 t1 t2 t3 c9 h9 tk9 F9 N9 l9; (try dsimp only); (try simp only [AllLt, and_true] at l9); (try k_fold); (try k_sweep)))
  all_goals (try k_steps)
  all_goals first
    | exact endT hret rfl rfl rfl (by k_asm) (by k_asm) (by k_mem) (by kcj_all) (by first | assumption | exact And.right (by assumption))
    | (exfalso; omega)

theorem jul_period {y t : Int} : jM (y + 532 * t) (jd0 (y + 532 * t)) = jM y (jd0 y) ∧ jD (y + 532 * t) (jd0 (y + 532 * t)) = jD y (jd0 y) ∧ jM (y + 532 * t) (jd1 (y + 532 * t)) = jM y (jd1 y) ∧ jD (y + 532 * t) (jd1 (y + 532 * t)) = jD y (jd1 y) := by
  have e1 : (y + 532 * t) % 19 = y % 19 := by omega
  have e2 : (y + 532 * t) % 4 = y % 4 := by omega
  have e3 : (y + 532 * t) % 7 = y % 7 := by omega
  have h0 : jd0 (y + 532 * t) = jd0 y := by unfold jd0; rw [e1]
  have h1 : jd1 (y + 532 * t) = jd1 y := by unfold jd1; rw [e1, h0]
  have hS : ∀ d, jS (y + 532 * t) d = jS y d := fun d => by unfold jS; rw [e2, e3]
  rw [h0, h1]
  unfold jM jD
  rw [hS, hS]
  exact ⟨rfl, rfl, rfl, rfl⟩

theorem jul_days {y : Int} : (y % 19 ≠ 0 → jd1 y = jd0 y) ∧ (y % 19 = 0 → jdJ y (jM y (jd1 y)) (jD y (jd1 y)) - jdJ y (jM y (jd0 y)) (jD y (jd0 y)) = 0 ∨ jdJ y (jM y (jd1 y)) (jD y (jd1 y)) - jdJ y (jM y (jd0 y)) (jD y (jd0 y)) = 7) := by
  have key : ∀ d, 0 ≤ d ∧ d ≤ 28 → jdJ y (jM y d) (jD y d) = 1461 * (y + 4716) / 4 + jS y d + 30 - 1524 := by
    intro d h
    have hE := @jdJ_E y (jM y d) (jD y d) (jRange h)
    have e : 114 ≤ jS y d ∧ jS y d ≤ 148 := by unfold jS; omega
    unfold jM jD at *
    generalize jdJ y (jS y d / 31) (jS y d % 31 + 1) = v at *
    generalize 1461 * (y + 4716) / 4 = u at *
    omega
  refine ⟨fun h => by rw [jd1, if_neg h], fun h => ?_⟩
  rw [key _ jd1_range, key _ jd0_range, jd1, if_pos h]
  unfold jS
  generalize jd0 y = d
  omega

theorem leap_id {y : Int} : (y - 1) / 4 - (y - 1) / 100 + (y - 1) / 400 + (if LP y then -1 else -2) = y / 4 - y / 100 + y / 100 / 4 - 2 := by
  unfold LP
  split <;> omega
theorem jdG3 {y m d k : Int} (h : ¬ m ≤ 2) (hk : (367 * m - 362) / 12 = k) : jdG y m d = 1721425 + 365 * (y - 1) + (y / 4 - y / 100 + y / 100 / 4 - 2) + k + d := by
  rw [← @leap_id y, jdG, if_neg h, hk]
  generalize (y - 1) / 4 = e1
  generalize (y - 1) / 100 = e2
  generalize (y - 1) / 400 = e3
  generalize (if LP y then (-1 : Int) else -2) = e4
  clear h hk
  omega
theorem west_sunday {y : Int} : jdG y (wM y) (wD y) % 7 = 6 := by
  have hL : wL y = wI y - (y + y / 4 + wI y + 2 - y / 100 + y / 100 / 4 - 7 * ((y + y / 4 + wI y + 2 - y / 100 + y / 100 / 4) / 7)) := rfl
  have hv : jdG y (wM y) (wD y) = 1721425 + 365 * (y - 1) + (y / 4 - y / 100 + y / 100 / 4 - 2) + (wL y + 89) := by
    rcases @west_range y with ⟨h, _, _, e⟩ | ⟨h, _, _, e⟩
    · rw [h, jdG3 (k := 61) (by decide) (by decide), e]
      clear hL h e
      generalize y / 4 - y / 100 + y / 100 / 4 - 2 = e4
      omega
    · rw [h, jdG3 (k := 92) (by decide) (by decide), e]
      clear hL h e
      generalize y / 4 - y / 100 + y / 100 / 4 - 2 = e4
      omega
  rw [hv, hL]
  clear hv hL
  generalize y / 100 / 4 = f1
  generalize y / 100 = f2
  generalize y / 4 = f3
  generalize wI y = i
  omega
theorem modYear {q x : Int} (h : q = x % (10 ^ Int.toNat 12)) : 1700 ≤ q + 1700 ∧ q + 1700 ≤ 2000000000000 := by
  rw [show (10 : Int) ^ Int.toNat 12 = 1000000000000 by decide] at h
  omega
theorem year_c {w : World} {mean : ExcName → Option Value} {mg mb : Loc} {x : Int} {tx : Tok} :
    Clm w mean mg mb 137 1 True [.int x tx] (retQ (fun v => 1700 ≤ v ∧ v ≤ 2000000000000)) := by
  intro dp un gd cn cs ca ccd cl outer A₀ base h₀ L m news s Q E B F X N T hk hp hd9 hu9 hret
  refine wpAny_call ?_
  k_dflt cell_enter
  k_steps
  all_goals
    refine endQ hret ?_ (by k_asm) (by k_asm)
    first
      | (show 1700 ≤ 2025 + x ∧ 2025 + x ≤ 2000000000000; omega)
      | (rename _ = x % _ => hq; exact modYear hq)

local macro_rules | `(tactic| walk_at "call ref") => `(tactic| (k_here; (with_reducible show wpAny _ _ (call (Value.ref 137) _) _ _ _); k_dflt (refine' Clm.use year_c ?k1 ?k2 ?k3 ?k4 ?k5 ?kK True.intro ?kd ?ku ?_); (case k1 => k_asm); (case k2 => k_asm); (case k3 => k_asm); (case k4 => k_asm); (case k5 => k_asm); (case kK => first | exact rfl | assumption); (case kd => ktr_room); (case ku => ktr_units); intro q9 e9 t9 h9 tk9 F9 N9; (try dsimp only); (try k_fold); (try k_sweep)))

abbrev WFact (y : Int) : Prop := ((wM y = 3 ∧ 22 ≤ wD y ∧ wD y ≤ 31) ∨ (wM y = 4 ∧ 1 ≤ wD y ∧ wD y ≤ 25)) ∧ jdG y (wM y) (wD y) % 7 = 6 ∧ (0 < wD y ∧ wD y ≤ dimG y (wM y))
theorem dimG3 {y : Int} : dimG y 3 = 31 := by rw [dimG, if_neg (by decide), if_neg (by decide)]
theorem dimG4 {y : Int} : dimG y 4 = 30 := by rw [dimG, if_neg (by decide), if_pos (by decide)]
theorem wfact {y : Int} : WFact y := by
  rcases @west_range y with ⟨h, a, b, _⟩ | ⟨h, a, b, _⟩
  · exact ⟨.inl ⟨h, a, b⟩, west_sunday, Int.lt_of_lt_of_le (by decide) a, by rw [h, dimG3]; exact b⟩
  · exact ⟨.inr ⟨h, a, b⟩, west_sunday, Int.lt_of_lt_of_le (by decide) a, by rw [h, dimG4]; exact Int.le_trans b (by decide)⟩

theorem easterW1_c {w : World} {mean : ExcName → Option Value} {mg mb : Loc} {y : Int} {ty : Tok} :
    Clm w mean mg mb 108 3 (1700 ≤ y ∧ y ≤ 10000000000000) [.int y ty] (fun h₀ L m news s Q => WFact y → retT y (wM y) (wD y) h₀ L m news s Q) := by
  intro dp un gd cn cs ca ccd cl outer A₀ base h₀ L m news s Q E B F X N T hk hp hd9 hu9 hret
  exact easterW_c dp un gd cn cs ca ccd cl outer A₀ base h₀ L m news s Q E B F X N T hk hp hd9 hu9 (hret wfact)
theorem easterW2_c {w : World} {mean : ExcName → Option Value} {mg mb : Loc} {y t : Int} {ty : Tok} :
    Clm w mean mg mb 108 3 (1700 ≤ y + 5700000 * t ∧ y + 5700000 * t ≤ 10000000000000) [.int (y + 5700000 * t) ty] (fun h₀ L m news s Q => True → retT (y + 5700000 * t) (wM y) (wD y) h₀ L m news s Q) := by
  intro dp un gd cn cs ca ccd cl outer A₀ base h₀ L m news s Q E B F X N T hk hp hd9 hu9 hret
  have h := @west_period y t
  have hret := hret True.intro
  rw [← h.1, ← h.2] at hret
  exact easterW_c dp un gd cn cs ca ccd cl outer A₀ base h₀ L m news s Q E B F X N T hk hp hd9 hu9 hret

abbrev JFact (y : Int) : Prop := IsE (jM y (jd0 y)) (jD y (jd0 y)) ∧ IsE (jM y (jd1 y)) (jD y (jd1 y)) ∧ (y % 19 ≠ 0 → jdJ y (jM y (jd1 y)) (jD y (jd1 y)) = jdJ y (jM y (jd0 y)) (jD y (jd0 y))) ∧ (y % 19 = 0 → jdJ y (jM y (jd1 y)) (jD y (jd1 y)) - jdJ y (jM y (jd0 y)) (jD y (jd0 y)) = 0 ∨ jdJ y (jM y (jd1 y)) (jD y (jd1 y)) - jdJ y (jM y (jd0 y)) (jD y (jd0 y)) = 7)
theorem jfact {y : Int} : JFact y := ⟨jRange jd0_range, jRange jd1_range, fun h => by rw [jul_days.1 h], jul_days.2⟩

theorem ljulO1_c {w : World} {mean : ExcName → Option Value} {mg mb : Loc} {y : Int} {ty tc : Tok} :
    Clm w mean mg mb 144 7 (1 ≤ y ∧ y ≤ 10000000000000) [.int y ty, .str (Str.ofString "orthodox") tc] (fun h₀ L m news s Q => JFact y → retT y (jM y (jd0 y)) (jD y (jd0 y)) h₀ L m news s Q) := by
  intro dp un gd cn cs ca ccd cl outer A₀ base h₀ L m news s Q E B F X N T hk hp hd9 hu9 hret
  exact ljulO_c dp un gd cn cs ca ccd cl outer A₀ base h₀ L m news s Q E B F X N T hk hp hd9 hu9 (hret jfact)
theorem ljulE1_c {w : World} {mean : ExcName → Option Value} {mg mb : Loc} {y : Int} {ty tc : Tok} :
    Clm w mean mg mb 144 7 (1 ≤ y ∧ y ≤ 10000000000000) [.int y ty, .str (Str.ofString "eastern") tc] (fun h₀ L m news s Q => True → retT y (jM y (jd1 y)) (jD y (jd1 y)) h₀ L m news s Q) := by
  intro dp un gd cn cs ca ccd cl outer A₀ base h₀ L m news s Q E B F X N T hk hp hd9 hu9 hret
  exact ljulE_c dp un gd cn cs ca ccd cl outer A₀ base h₀ L m news s Q E B F X N T hk hp hd9 hu9 (hret True.intro)
theorem ljulO2_c {w : World} {mean : ExcName → Option Value} {mg mb : Loc} {y t : Int} {ty tc : Tok} :
    Clm w mean mg mb 144 7 (1 ≤ y + 532 * t ∧ y + 532 * t ≤ 10000000000000) [.int (y + 532 * t) ty, .str (Str.ofString "orthodox") tc] (fun h₀ L m news s Q => True → retT (y + 532 * t) (jM y (jd0 y)) (jD y (jd0 y)) h₀ L m news s Q) := by
  intro dp un gd cn cs ca ccd cl outer A₀ base h₀ L m news s Q E B F X N T hk hp hd9 hu9 hret
  have h := @jul_period y t
  have hret := hret True.intro
  rw [← h.1, ← h.2.1] at hret
  exact ljulO_c dp un gd cn cs ca ccd cl outer A₀ base h₀ L m news s Q E B F X N T hk hp hd9 hu9 hret
theorem ljulE2_c {w : World} {mean : ExcName → Option Value} {mg mb : Loc} {y t : Int} {ty tc : Tok} :
    Clm w mean mg mb 144 7 (1 ≤ y + 532 * t ∧ y + 532 * t ≤ 10000000000000) [.int (y + 532 * t) ty, .str (Str.ofString "eastern") tc] (fun h₀ L m news s Q => True → retT (y + 532 * t) (jM y (jd1 y)) (jD y (jd1 y)) h₀ L m news s Q) := by
  intro dp un gd cn cs ca ccd cl outer A₀ base h₀ L m news s Q E B F X N T hk hp hd9 hu9 hret
  have h := @jul_period y t
  have hret := hret True.intro
  rw [← h.2.2.1, ← h.2.2.2] at hret
  exact ljulE_c dp un gd cn cs ca ccd cl outer A₀ base h₀ L m news s Q E B F X N T hk hp hd9 hu9 hret


local macro_rules | `(tactic| walk_at "call ref") => `(tactic| (k_here; (first | (with_reducible show wpAny _ _ (call (Value.ref 108) _) _ _ _) | (with_reducible show wpAny _ _ (call (Value.ref 144) _) _ _ _)); k_dflt (first | ((with_reducible show wpAny _ _ (call _ [Value.int (_ + 5700000 * _) _]) _ _ _); refine' Clm.use easterW2_c ?k1 ?k2 ?k3 ?k4 ?k5 ?kK ?kp ?kd ?ku ?_) | ((with_reducible show wpAny _ _ (call _ [Value.int (_ + 532 * _) _, _]) _ _ _); first | refine' Clm.use ljulO2_c ?k1 ?k2 ?k3 ?k4 ?k5 ?kK ?kp ?kd ?ku ?_ | refine' Clm.use ljulE2_c ?k1 ?k2 ?k3 ?k4 ?k5 ?kK ?kp ?kd ?ku ?_) | ((with_reducible show wpAny _ _ (call _ [_]) _ _ _); refine' Clm.use easterW1_c ?k1 ?k2 ?k3 ?k4 ?k5 ?kK ?kp ?kd ?ku ?_) | refine' Clm.use ljulO1_c ?k1 ?k2 ?k3 ?k4 ?k5 ?kK ?kp ?kd ?ku ?_ | refine' Clm.use ljulE1_c ?k1 ?k2 ?k3 ?k4 ?k5 ?kK ?kp ?kd ?ku ?_); (case k1 => k_asm); (case k2 => k_asm); (case k3 => k_asm); (case k4 => k_asm); (case k5 => k_asm); (case kK => first | exact rfl | assumption); (case kp => omega); (case kd => ktr_room); (case ku => ktr_units); intro f9 D9 t1 t2 t3 c9 h9 tk9 F9 N9 l9; (try dsimp only); (try simp only [AllLt, and_true] at l9); (try k_fold); (try k_sweep)))

theorem slice1 {prog : Program} {w : World} {A : Around} {E : Value → Shared → Prop} {s : Shared} {h₀ : Heap} {L : Addr} {m : Loc} {news : Led} {value slice : PySem.Expr} {t : Addr} {v0 v1 v2 : Value} {u : Tok} {Q : Value → Shared → Prop}
    (F : Fr h₀ L s.heap m) (N : News h₀ L s.heap news) (ht : IsTup s.heap t #[v0, v1, v2])
    (h : ∀ D h', Fr h₀ L h' m → News h₀ L h' ((D, ({ cls := .type "tuple", data := .seq #[v1, v2] } : Obj)) :: news) → (∀ p ∈ news, p.1 < D) → Q (.ref D) { s with heap := h' })
    (hs : subscripted slice false (.ref t) (.ref s.heap.objs.size) = operate [.ref s.heap.objs.size, .ref t] (getItem (.ref t) (.ref s.heap.objs.size)))
    (hg : ∀ r, letTemporaryGo value (.ref t) r = pure ()) :
    wpAny (model prog w) A (subscriptTail value slice (.ref t) (.ref s.heap.objs.size)) Q E { s with heap := s.heap.push { cls := .type "slice", data := .fields #[.int 1 u, .none, .none] } } :=
  slice_tuple_from (a := 1) F N ht (by decide) (by show 1 ≤ 3; decide) (fun h' F' N' => h _ h' F' N' fun p hp => Nat.lt_succ_of_lt (Heap.lt_size (N p hp).1)) hs hg (by exact Nat.le_of_ble_eq_true rfl)
local macro_rules | `(tactic| walk_at "subscriptTail Name Slice ref ref") => `(tactic| (k_here; (with_reducible show wpAny _ _ (subscriptTail _ (PySem.Expr.Slice (some _) none none _) (Value.ref _) (Value.ref _)) _ _ _); k_dflt (refine' slice1 ?F ?N ?t ?_ ?s ?g; (case F => k_asm); (case N => k_asm); (case t => exact News.isTup (by k_asm) (by k_mem)); (case s => with_unfolding_all rfl); (case g => kmk_pure)); intro D' h' F' N' l1; (try k_lt l1); (try k_sweep)))

section
variable {prog : Program} {w : World} {A : Around} {E : Value → Shared → Prop} {s : Shared} {a b : Int} {t u : Tok} {Q : Value → Shared → Prop}
theorem eqTrue (h : a = b) (k : Q (.bool true) s) : wpAny (model prog w) A (compareOp .Eq (.int a t) (.int b u)) Q E s :=
  eq_int (by rw [show (a == b) = true by simpa using h]; exact k)
theorem neFalse (h : a = b) (k : Q (.bool false) s) : wpAny (model prog w) A (compareOp .NotEq (.int a t) (.int b u)) Q E s :=
  ne_int (by rw [show (a != b) = false by simpa using h]; exact k)
theorem inPair {l : Addr} {c d : Int} {tc td : Tok} (ht : IsTup s.heap l #[.int c tc, .int d td]) (h : a = c ∨ a = d) (k : Q (.bool true) s) : wpAny (model prog w) A (compareOp .In (.int a t) (.ref l)) Q E s := by
  refine in_tuple_ints (ns := [c, d]) ht (.cons _ _ (.cons _ _ .nil)) ?_
  rw [show ([c, d] : List Int).any (· == a) = true by simp; omega]
  exact k
end
local macro_rules | `(tactic| walk_at "compareOp Eq int int") => `(tactic| (refine eqTrue (by omega) ?_))
local macro_rules | `(tactic| walk_at "compareOp NotEq int int") => `(tactic| (refine neFalse (by omega) ?_))
local macro_rules | `(tactic| walk_at "compareOp In int ref") => `(tactic| (k_here; k_dflt (refine' inPair ?N ?h ?_; (case N => exact News.isTup (by k_asm) (by k_mem)); (case h => omega))))
theorem lawEnd {args : List WData} : PySem.Challenge.rw_ah0024_01.row.claim.post args (.bool true) args = true :=
  postW_of (r := PySem.Challenge.rw_ah0024_01.row.toRowW) (X := (true == true)) (by wrow_shape) (w_eq_bool (w_res rfl) w_lit) rfl
theorem lawRaise {args : List WData} : ∀ cls, PySem.Challenge.rw_ah0024_01.row.claim.raises args cls = false :=
  raisesW_false (r := PySem.Challenge.rw_ah0024_01.row.toRowW) (fun _ h => nomatch h)
local macro_rules | `(tactic| wrow_close) => `(tactic| (w_end; (with_reducible show GoodW _ _ _ _ _ (.ok (.ret (.bool true))) _); refine' goodW_bool ?hF ?hg lawRaise lawEnd ?ho; (case hF => assumption); (case hg => assumption); (case ho => rfl)))
theorem holds : PySem.Challenge.rw_ah0024_01.Holds := hd (by
  k_go0
  all_goals try k_fold
  k_steps)
end Mine

theorem PySem.Challenge.cw_ah0024_01_holds : PySem.Challenge.rw_ah0024_01.Holds :=
  Mine.holds
