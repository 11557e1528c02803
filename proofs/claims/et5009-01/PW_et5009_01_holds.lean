import PyProof.Rows.All
import Wide.All
import OpenK.AllK
import Wide.FinOn
import Lean
import PySem.Challenge.RW_et5009_01
set_option Elab.async false

section
open PySem PySem.W PyProof.Rows
set_option Elab.async false
set_option maxRecDepth 100000
set_option maxHeartbeats 8000000
open_top Mine.hd for PySem.Challenge.rw_et5009_01
end

section
open PySem PySem.W PySem.Calls PyProof.Rows
set_option Elab.async false
set_option maxRecDepth 100000
set_option maxHeartbeats 8000000
namespace Mine

abbrev Led := List (Addr × Obj)
abbrev Lo : List Str := [Str.ofString "filter_points", Str.ofString "_law_more"]

/-- a contract: the call of the def at `f` with `vs` over the ledger `news` ends and hands back `r`, the ledger then `news'`, as `post` says -/
def Does (w : World) (mean : ExcName → Option Value) (mg mb : Str → Option Value) (f : Addr) (dd du : Nat) (news : Led) (vs : List Value) (post : Led → Value → Prop) : Prop :=
  ∀ (dp un : Nat) (gd : Option (List Code)) (cn : Str) (cs : Scope) (a : Addr) (ccd : Value) (cl : List (Str × Addr)) (outer : List Env) (A₀ : Around) (base h₀ : Heap) (L : Addr) (m : Str → Option Value) (s : Shared)
    (Q E : Value → Shared → Prop),
    Below A₀ base outer h₀ → Fr h₀ L s.heap m → (hd.heap_39 w.params).In h₀ → News h₀ L s.heap news → Top hd.view_39 Lo mean mg mb h₀ → cs.kind = .function → dp + dd < recursionLimit → un + du < cLine →
    (∀ r news' h' tk', Fr h₀ L h' m → News h₀ L h' news' → post news' r → Q r { s with heap := h', toks := tk' }) →
    wpAny (model PySem.Challenge.rw_et5009_01.row.prog w) (ktrTop dp un gd cn cs L a ccd cl outer) (call (.ref f) vs) Q E s

section
variable {w : World} {mean : ExcName → Option Value} {mg mb : Str → Option Value} {f : Addr} {dd du : Nat} {news : Led} {vs : List Value} {post : Led → Value → Prop}
theorem does_use (C : Does w mean mg mb f dd du news vs post) {dp un : Nat} {gd : Option (List Code)} {cn : Str} {cs : Scope} {a : Addr} {ccd : Value} {cl : List (Str × Addr)} {outer : List Env} {A₀ : Around} {base h₀ : Heap} {L : Addr} {m : Str → Option Value} {s : Shared}
    {Q E : Value → Shared → Prop} (B : Below A₀ base outer h₀) (F : Fr h₀ L s.heap m) (X : (hd.heap_39 w.params).In h₀) (N : News h₀ L s.heap news) (T : Top hd.view_39 Lo mean mg mb h₀) (hk : cs.kind = .function)
    (hd : dp + dd < recursionLimit) (hu : un + du < cLine)
    (ret : ∀ r news' h' tk', Fr h₀ L h' m → News h₀ L h' news' → post news' r → Q r { s with heap := h', toks := tk' }) :
    wpAny (model PySem.Challenge.rw_et5009_01.row.prog w) (ktrTop dp un gd cn cs L a ccd cl outer) (call (.ref f) vs) Q E s := C _ _ _ _ _ _ _ _ _ _ _ _ _ _ _ _ _ B F X N T hk hd hu ret
end

/-- what stays the same of the nodes: addresses, coordinates, keys -/
structure Par where
  nd : Nat → Addr
  dd : Nat → Addr
  pt : Nat → Addr
  xs : Nat → Int
  ys : Nat → Int
  ti : Nat → Tok
  tx : Nat → Tok
  ty : Nat → Tok
  tz : Nat → Tok
  kh : Nat → Nat → Int
  kt : Nat → Nat → Tok

abbrev tupO (vs : List Value) : Obj := { cls := .type "tuple", data := .seq vs.toArray }
structure St where
  pv : Nat → Nat
  nx : Nat → Nat

abbrev Par.ent (P : Par) (k : Nat) (pv nx : Value) : List DictEntry :=
  [⟨P.kh k 0, .str (Str.ofString "i") (P.kt k 0), .int k (P.ti k)⟩, ⟨P.kh k 1, .str (Str.ofString "point") (P.kt k 1), .ref (P.pt k)⟩,
   ⟨P.kh k 2, .str (Str.ofString "x") (P.kt k 2), .int (P.xs k) (P.tx k)⟩, ⟨P.kh k 3, .str (Str.ofString "y") (P.kt k 3), .int (P.ys k) (P.ty k)⟩,
   ⟨P.kh k 4, .str (Str.ofString "prev") (P.kt k 4), pv⟩, ⟨P.kh k 5, .str (Str.ofString "next") (P.kt k 5), nx⟩,
   ⟨P.kh k 6, .str (Str.ofString "z") (P.kt k 6), .int 0 (P.tz k)⟩, ⟨P.kh k 7, .str (Str.ofString "prev_z") (P.kt k 7), .none⟩,
   ⟨P.kh k 8, .str (Str.ofString "next_z") (P.kt k 8), .none⟩, ⟨P.kh k 9, .str (Str.ofString "steiner") (P.kt k 9), .bool false⟩]

/-- the ledger bears the nodes 0 .. n-1 linked as `st` says -/
def NodesIn (P : Par) (n : Nat) (st : St) (news : Led) : Prop :=
  ∀ k, k < n → (P.nd k, instObj 59 (P.dd k)) ∈ news ∧ (P.dd k, dictOf (P.ent k (.ref (P.nd (st.pv k))) (.ref (P.nd (st.nx k)))) 10) ∈ news
theorem NodesIn.inst {P : Par} {n : Nat} {st : St} {news : Led} (N : NodesIn P n st news) {k : Nat} (h : k < n) : (P.nd k, instObj 59 (P.dd k)) ∈ news := (N k h).1
theorem NodesIn.dict {P : Par} {n : Nat} {st : St} {news : Led} (N : NodesIn P n st news) {k : Nat} (h : k < n) : (P.dd k, dictOf (P.ent k (.ref (P.nd (st.pv k))) (.ref (P.nd (st.nx k)))) 10) ∈ news := (N k h).2

/-- area(p, q, r) of the text -/
def areaZ (P : Par) (p q r : Nat) : Int := (P.ys q - P.ys p) * (P.xs r - P.xs q) - (P.xs q - P.xs p) * (P.ys r - P.ys q)
def SmallY (P : Par) (n : Nat) : Prop := ∀ k, k < n → 0 ≤ P.ys k ∧ P.ys k ≤ 4
theorem SmallY.left {P : Par} {n : Nat} (Y : SmallY P n) {i j : Nat} (hi : i < n) (hj : j < n) (x : Int) : IntMulOk (P.ys i - P.ys j) x := by
  have := Y i hi; have := Y j hj
  exact IntMulOk.of_left (intBits_le_64 (by omega) (by omega))
theorem SmallY.right {P : Par} {n : Nat} (Y : SmallY P n) {i j : Nat} (hi : i < n) (hj : j < n) (x : Int) : IntMulOk x (P.ys i - P.ys j) := by
  have := Y i hi; have := Y j hj
  exact IntMulOk.of_right (intBits_le_64 (by omega) (by omega))

/-- the links lead to nodes -/
def Closed (n : Nat) (st : St) : Prop := ∀ k, k < n → st.pv k < n ∧ st.nx k < n
theorem Closed.pv {n : Nat} {st : St} (h : Closed n st) {k : Nat} (hk : k < n) : st.pv k < n := (h k hk).1
theorem Closed.nx {n : Nat} {st : St} (h : Closed n st) {k : Nat} (hk : k < n) : st.nx k < n := (h k hk).2

def sgn (a : Int) : Int := if a < 0 then -1 else if a > 0 then 1 else 0
def OnSeg (P : Par) (p q r : Nat) : Prop :=
  (P.xs q ≤ P.xs p ∨ P.xs q ≤ P.xs r) ∧ (P.xs p ≤ P.xs q ∨ P.xs r ≤ P.xs q) ∧ (P.ys q ≤ P.ys p ∨ P.ys q ≤ P.ys r) ∧ (P.ys p ≤ P.ys q ∨ P.ys r ≤ P.ys q)
def Inters (P : Par) (p1 q1 p2 q2 : Nat) : Prop :=
  (sgn (areaZ P p1 q1 p2) ≠ sgn (areaZ P p1 q1 q2) ∧ sgn (areaZ P p2 q2 p1) ≠ sgn (areaZ P p2 q2 q1)) ∨
  (sgn (areaZ P p1 q1 p2) = 0 ∧ OnSeg P p1 p2 q1) ∨ (sgn (areaZ P p1 q1 q2) = 0 ∧ OnSeg P p1 q2 q1) ∨
  (sgn (areaZ P p2 q2 p1) = 0 ∧ OnSeg P p2 p1 q2) ∨ (sgn (areaZ P p2 q2 q1) = 0 ∧ OnSeg P p2 q1 q2)
def Inside (P : Par) (st : St) (a b : Nat) : Prop :=
  (areaZ P (st.pv a) a (st.nx a) < 0 ∧ areaZ P a b (st.nx a) ≥ 0 ∧ areaZ P a (st.pv a) b ≥ 0) ∨
  (¬ areaZ P (st.pv a) a (st.nx a) < 0 ∧ (areaZ P a b (st.pv a) < 0 ∨ areaZ P a (st.nx a) b < 0))
def SamePt (P : Par) (a b : Nat) : Prop := P.xs a = P.xs b ∧ P.ys a = P.ys b
end Mine
end

section
open PySem PySem.W PySem.Calls PyProof.Rows
namespace Mine
theorem calmE3 {w : World} {A : Around} {e : Env} {Q : Flow → Shared → Prop} {E : Value → Shared → Prop} {s : Shared}
    (h : wpAny (model PySem.Challenge.rw_et5009_01.row.prog w) A (execs [] e) Q E s) : wpAny (model PySem.Challenge.rw_et5009_01.row.prog w) A (execs [] e) Q E s := by
  w_top off
  first
    | (walk1; fail "calm")
    | exact h
end Mine
end

section
open PySem PySem.W PySem.Calls PyProof.Rows
set_option Elab.async false
set_option maxRecDepth 100000
set_option maxHeartbeats 8000000
namespace Mine

local macro_rules | `(tactic| walk_at "MYIX") => `(tactic| first | assumption | exact Closed.pv (by assumption) (by walk_at "MYIX") | exact Closed.nx (by assumption) (by walk_at "MYIX"))
local macro_rules | `(tactic| k_mem) => `(tactic| first | exact NodesIn.inst (by assumption) (by walk_at "MYIX") | exact NodesIn.dict (by assumption) (by walk_at "MYIX"))
local macro_rules | `(tactic| mul_fits) => `(tactic| first | exact SmallY.left (by assumption) (by walk_at "MYIX") (by walk_at "MYIX") _ | exact SmallY.right (by assumption) (by walk_at "MYIX") (by walk_at "MYIX") _)
local macro_rules | `(tactic| walk_at "compareOp Eq ref") => `(tactic| (k_here; (with_reducible show wpAny _ _ (compareOp CmpOp.Eq (Value.ref _) _) _ _ _); (refine cmp_ofEq ?_); k_dflt (refine' cmp_K ?k1 ?k2 ?k3 ?k4 ?k5 ?k6 ?k7 ?k8 ?_; (case k1 => ktr_units); (case k2 => k_asm); (case k3 => k_asm); (case k4 => k_inst); (case k5 => k_typeOf); (case k6 => k_is); (case k7 => k_is); (case k8 => k_is); k_whole)))
local macro_rules | `(tactic| walk_at "MYUSE") => `(tactic| ((case B => k_asm); (case F => k_asm); (case X => k_asm); (case N => k_asm); (case T => k_asm); (case kk => first | exact rfl | assumption); (case d => ktr_room); (case u => ktr_units)))

theorem area_c {w : World} {mean : ExcName → Option Value} {mg mb : Str → Option Value} {news : Led} {P : Par} {n : Nat} {st : St} {p q r : Nat} (hN : NodesIn P n st news) (hY : SmallY P n) (hp : p < n) (hq : q < n) (hr : r < n) :
    Does w mean mg mb 70 2 16 news [.ref (P.nd p), .ref (P.nd q), .ref (P.nd r)] (fun news' v => news = news' ∧ ∃ t, v = .int (areaZ P p q r) t) := by
  unfold Does
  k_fill
  intro dp un gd cn cs a ccd cl outer A₀ base h₀ L m s Q E B F X N T hk hd hu hret
  refine wpAny_call ?_
  k_dflt ktr_enter
  k_steps
  all_goals (exact hret _ _ _ _ (by k_asm) (by k_asm) ⟨rfl, _, rfl⟩)

theorem dec0 : Float64.decode 0 = .fin false 0 (-1074) := by
  unfold Float64.decode
  simp
theorem cmpInt_zero (x : Int) : Float64.cmpInt 0 x = some (compare 0 x) := by
  have hd : Float64.decode 0 = .fin false 0 (-1074) := dec0
  unfold Float64.cmpInt
  rw [hd]
  have hp : (0 : Int) < 2 ^ ((1074 : Int)).toNat := by decide +kernel
  show some (compare (Float64.sgn false 0) (x * 2 ^ (1074 : Int).toNat)) = _
  have e : Float64.sgn false 0 = 0 := by decide
  rw [e]
  generalize (2 : Int) ^ ((1074 : Int)).toNat = k at hp
  congr 1
  simp only [compare, compareOfLessAndEq]
  rcases Int.lt_trichotomy x 0 with h | h | h
  · have : x * k < 0 := Int.mul_neg_of_neg_of_pos h hp
    rw [if_neg (by omega), if_neg (by omega), if_neg (by omega), if_neg (by omega)]
  · subst h
    simp
  · have : 0 < x * k := Int.mul_pos h hp
    rw [if_pos this, if_pos h]
theorem cmpInt_gt (x : Int) : (Float64.cmpInt 0 x == some Ordering.gt) = true ↔ x < 0 := by
  rw [cmpInt_zero]
  simp only [compare, compareOfLessAndEq]
  (repeat' split) <;> simp <;> omega
theorem cmpInt_lt (x : Int) : (Float64.cmpInt 0 x == some Ordering.lt) = true ↔ 0 < x := by
  rw [cmpInt_zero]
  simp only [compare, compareOfLessAndEq]
  (repeat' split) <;> simp <;> omega
theorem sign_c {w : World} {mean : ExcName → Option Value} {mg mb : Str → Option Value} {news : Led} {x : Int} {t : Tok} :
    Does w mean mg mb 77 2 16 news [.int x t] (fun news' v => news = news' ∧ ∃ t, v = .int (sgn x) t) := by
  unfold Does
  k_fill
  intro dp un gd cn cs a ccd cl outer A₀ base h₀ L m s Q E B F X N T hk hd hu hret
  refine wpAny_call ?_
  k_dflt ktr_enter
  k_steps
  · rename (_ == _) = true => h1
    have := (cmpInt_gt x).mp h1
    exact hret _ _ _ _ (by k_asm) (by k_asm) ⟨rfl, _, by unfold sgn; rw [if_pos this]⟩
  · rename (_ == _) = true => h1
    have := (cmpInt_lt x).mp h1
    exact hret _ _ _ _ (by k_asm) (by k_asm) ⟨rfl, _, by unfold sgn; rw [if_neg (by omega), if_pos this]⟩
  · rename (_ == some Ordering.gt) = false => h1
    rename (_ == some Ordering.lt) = false => h2
    have h3 := mt (cmpInt_gt x).mpr (by rw [h1]; decide)
    have h4 := mt (cmpInt_lt x).mpr (by rw [h2]; decide)
    exact hret _ _ _ _ (by k_asm) (by k_asm) ⟨rfl, _, by unfold sgn; rw [if_neg h3, if_neg h4]⟩
theorem onseg_c {w : World} {mean : ExcName → Option Value} {mg mb : Str → Option Value} {news : Led} {P : Par} {n : Nat} {st : St} {p q r : Nat} (hN : NodesIn P n st news) (hp : p < n) (hq : q < n) (hr : r < n) :
    Does w mean mg mb 84 2 16 news [.ref (P.nd p), .ref (P.nd q), .ref (P.nd r)] (fun news' v => news = news' ∧ ∃ b, v = .bool b ∧ (b = true ↔ OnSeg P p q r)) := by
  unfold Does
  k_fill
  intro dp un gd cn cs a ccd cl outer A₀ base h₀ L m s Q E B F X N T hk hd hu hret
  refine wpAny_call ?_
  k_dflt ktr_enter
  k_steps
  all_goals (refine hret _ _ _ _ (by k_asm) (by k_asm) ⟨rfl, _, rfl, ?_⟩; unfold OnSeg; simp only [decide_eq_true_eq]; (repeat' split at *) <;> omega)
local macro_rules | `(tactic| walk_at "call ref") => `(tactic| (k_here; k_dflt (first
  | ((refine' does_use (area_c ?q0 ?q1 ?q2 ?q3 ?q4) ?B ?F ?X ?N ?T ?kk ?d ?u ?_; (case q0 => assumption); (case q1 => assumption); (case q2 => walk_at "MYIX"); (case q3 => walk_at "MYIX"); (case q4 => walk_at "MYIX"); (walk_at "MYUSE")); (intro r9 n9 h9 tk9 F9 N9 p9; obtain ⟨e9, t9, e9'⟩ := p9; subst e9 e9'; (try dsimp only); (try k_sweep)))
  | ((refine' does_use (sign_c ) ?B ?F ?X ?N ?T ?kk ?d ?u ?_; (walk_at "MYUSE")); (intro r9 n9 h9 tk9 F9 N9 p9; obtain ⟨e9, t9, e9'⟩ := p9; subst e9 e9'; (try dsimp only); (try k_sweep)))
  | ((refine' does_use (onseg_c ?q0 ?q1 ?q2 ?q3) ?B ?F ?X ?N ?T ?kk ?d ?u ?_; (case q0 => assumption); (case q1 => walk_at "MYIX"); (case q2 => walk_at "MYIX"); (case q3 => walk_at "MYIX"); (walk_at "MYUSE")); (intro r9 n9 h9 tk9 F9 N9 p9; obtain ⟨e9, b9, e9', i9⟩ := p9; subst e9 e9'; (try dsimp only); (try k_sweep))))))

theorem inter_c {w : World} {mean : ExcName → Option Value} {mg mb : Str → Option Value} {news : Led} {P : Par} {n : Nat} {st : St} {p q r u : Nat} (hN : NodesIn P n st news) (hY : SmallY P n) (hp : p < n) (hq : q < n) (hr : r < n) (hu' : u < n) :
    Does w mean mg mb 91 4 32 news [.ref (P.nd p), .ref (P.nd q), .ref (P.nd r), .ref (P.nd u)] (fun news' v => news = news' ∧ ∃ b, v = .bool b ∧ (b = true ↔ Inters P p q r u)) := by
  unfold Does
  k_fill
  intro dp un gd cn cs a ccd cl outer A₀ base h₀ L m s Q E B F X N T hk hd hu hret
  refine wpAny_call ?_
  k_dflt ktr_enter
  k_steps
  all_goals (refine hret _ _ _ _ (by k_asm) (by k_asm) ⟨rfl, _, rfl, ?_⟩; unfold Inters; grind)
theorem inside_c {w : World} {mean : ExcName → Option Value} {mg mb : Str → Option Value} {news : Led} {P : Par} {n : Nat} {st : St} {p q : Nat} (hN : NodesIn P n st news) (hY : SmallY P n) (hC : Closed n st) (hp : p < n) (hq : q < n) :
    Does w mean mg mb 127 4 32 news [.ref (P.nd p), .ref (P.nd q)] (fun news' v => news = news' ∧ ∃ b, v = .bool b ∧ (b = true ↔ Inside P st p q)) := by
  unfold Does
  k_fill
  intro dp un gd cn cs a ccd cl outer A₀ base h₀ L m s Q E B F X N T hk hd hu hret
  refine wpAny_call ?_
  k_dflt ktr_enter
  k_steps
  all_goals (refine hret _ _ _ _ (by k_asm) (by k_asm) ⟨rfl, _, rfl, ?_⟩; unfold Inside; simp only [decide_eq_true_eq]; omega)
end Mine
end

section
open PySem PySem.W PySem.Calls PyProof.Rows
namespace Mine
theorem calmE4 {w : World} {A : Around} {e : Env} {Q : Flow → Shared → Prop} {E : Value → Shared → Prop} {s : Shared}
    (h : wpAny (model PySem.Challenge.rw_et5009_01.row.prog w) A (execs [] e) Q E s) : wpAny (model PySem.Challenge.rw_et5009_01.row.prog w) A (execs [] e) Q E s := by
  w_top off
  first
    | (walk1; fail "calm")
    | exact h
end Mine
end

section
open PySem PySem.W PySem.Calls PyProof.Rows
set_option Elab.async false
set_option maxRecDepth 100000
set_option maxHeartbeats 8000000
namespace Mine

local macro_rules | `(tactic| walk_at "MYIX") => `(tactic| first | assumption | exact Closed.pv (by assumption) (by walk_at "MYIX") | exact Closed.nx (by assumption) (by walk_at "MYIX"))
local macro_rules | `(tactic| k_mem) => `(tactic| first | exact NodesIn.inst (by assumption) (by walk_at "MYIX") | exact NodesIn.dict (by assumption) (by walk_at "MYIX"))
local macro_rules | `(tactic| mul_fits) => `(tactic| first | exact SmallY.left (by assumption) (by walk_at "MYIX") (by walk_at "MYIX") _ | exact SmallY.right (by assumption) (by walk_at "MYIX") (by walk_at "MYIX") _)
local macro_rules | `(tactic| walk_at "compareOp Eq ref") => `(tactic| (k_here; (with_reducible show wpAny _ _ (compareOp CmpOp.Eq (Value.ref _) _) _ _ _); (refine cmp_ofEq ?_); k_dflt (refine' cmp_K ?k1 ?k2 ?k3 ?k4 ?k5 ?k6 ?k7 ?k8 ?_; (case k1 => ktr_units); (case k2 => k_asm); (case k3 => k_asm); (case k4 => k_inst); (case k5 => k_typeOf); (case k6 => k_is); (case k7 => k_is); (case k8 => k_is); k_whole)))
local macro_rules | `(tactic| walk_at "MYUSE") => `(tactic| ((case B => k_asm); (case F => k_asm); (case X => k_asm); (case N => k_asm); (case T => k_asm); (case kk => first | exact rfl | assumption); (case d => ktr_room); (case u => ktr_units)))
local macro_rules | `(tactic| walk_at "call ref") => `(tactic| (k_here; k_dflt (first
  | ((refine' does_use (area_c ?q0 ?q1 ?q2 ?q3 ?q4) ?B ?F ?X ?N ?T ?kk ?d ?u ?_; (case q0 => assumption); (case q1 => assumption); (case q2 => walk_at "MYIX"); (case q3 => walk_at "MYIX"); (case q4 => walk_at "MYIX"); (walk_at "MYUSE")); (intro r9 n9 h9 tk9 F9 N9 p9; obtain ⟨e9, t9, e9'⟩ := p9; subst e9 e9'; (try dsimp only); (try k_sweep)))
  | ((refine' does_use (sign_c ) ?B ?F ?X ?N ?T ?kk ?d ?u ?_; (walk_at "MYUSE")); (intro r9 n9 h9 tk9 F9 N9 p9; obtain ⟨e9, t9, e9'⟩ := p9; subst e9 e9'; (try dsimp only); (try k_sweep)))
  | ((refine' does_use (onseg_c ?q0 ?q1 ?q2 ?q3) ?B ?F ?X ?N ?T ?kk ?d ?u ?_; (case q0 => assumption); (case q1 => walk_at "MYIX"); (case q2 => walk_at "MYIX"); (case q3 => walk_at "MYIX"); (walk_at "MYUSE")); (intro r9 n9 h9 tk9 F9 N9 p9; obtain ⟨e9, b9, e9', i9⟩ := p9; subst e9 e9'; (try dsimp only); (try k_sweep))))))

def St.setPv (st : St) (i j : Nat) : St := { st with pv := fun k => if k = i then j else st.pv k }
def St.setNx (st : St) (i j : Nat) : St := { st with nx := fun k => if k = i then j else st.nx k }
/-- remove_node(p) of the text -/
def St.remove (st : St) (p : Nat) : St := ((st.setPv (st.nx p) (st.pv p)).setNx ((st.setPv (st.nx p) (st.pv p)).pv p) ((st.setPv (st.nx p) (st.pv p)).nx p))
/-- what stands beside the nodes' dicts stays -/
def Kept (P : Par) (n : Nat) (news news' : Led) : Prop := ∀ a o, (a, o) ∈ news → (∀ k, k < n → a ≠ P.dd k) → (a, o) ∈ news'
theorem Kept.refl {P : Par} {n : Nat} {news : Led} : Kept P n news news := fun _ _ h _ => h
theorem Kept.trans {P : Par} {n : Nat} {a b c : Led} (x : Kept P n a b) (y : Kept P n b c) : Kept P n a c := fun q o h k => y q o (x q o h k) k

section
variable {P : Par} {n : Nat} {st : St} {news : Led} {h₀ h : Heap} {L : Addr}
theorem NodesIn.dd_inj (hN : NodesIn P n st news) (N : News h₀ L h news) {i j : Nat} (hi : i < n) (hj : j < n) (e : P.dd i = P.dd j) : i = j := by
  have a := (N _ (hN i hi).2).1
  have b := (N _ (hN j hj).2).1
  simp only at a b
  rw [e, b] at a
  have c := congrArg (fun o : Option Obj => match o with | some ⟨_, _, .dict es _, _⟩ => (es.toList.head?).map DictEntry.val | _ => none) a
  simp only [List.head?_cons, Option.map_some, Option.some.injEq, Value.int.injEq] at c
  omega
theorem NodesIn.nd_dd (hN : NodesIn P n st news) (N : News h₀ L h news) {i j : Nat} (hi : i < n) (hj : j < n) : P.nd i ≠ P.dd j := by
  intro e
  have a := (N _ (hN i hi).1).1
  have b := (N _ (hN j hj).2).1
  simp only at a b
  rw [e, b] at a
  simp at a
theorem NodesIn.nd_inj (hN : NodesIn P n st news) (N : News h₀ L h news) {i j : Nat} (hi : i < n) (hj : j < n) (e : P.nd i = P.nd j) : i = j := by
  have a := (N _ (hN i hi).1).1
  have b := (N _ (hN j hj).1).1
  simp only at a b
  rw [e, b] at a
  simp only [Option.some.injEq, Obj.mk.injEq] at a
  exact hN.dd_inj N hi hj a.2.1.symm

def setL (d : Addr) (o' : Obj) (news : Led) : Led := news.map fun p => if p.1 = d then (d, o') else p
theorem upd_last {d : Addr} {o o' : Obj} : ∀ {l : Led}, (∀ p ∈ l, p.1 ≠ d) → Upd d o o' (l ++ [(d, o)]) (l ++ [(d, o')])
  | [], _ => .head (fun _ h => nomatch h)
  | p :: _, h => .tail (h p (.head _)) (upd_last fun q hq => h q (.tail _ hq))
theorem news_cut {d : Addr} {o : Obj} (N : News h₀ L h news) (hd : (d, o) ∈ news) : News h₀ L h (news.filter (fun p => p.1 != d) ++ [(d, o)]) := fun p hp => by
  rcases List.mem_append.mp hp with q | q
  · exact N p (List.mem_filter.mp q).1
  · rw [List.mem_singleton.mp q]; exact N _ hd
theorem news_paste {d : Addr} {o' : Obj} (N : News h₀ L h (news.filter (fun p => p.1 != d) ++ [(d, o')])) : News h₀ L h (setL d o' news) := fun p hp => by
  obtain ⟨q, hq, rfl⟩ := List.mem_map.mp hp
  by_cases e : q.1 = d
  · rw [if_pos e]; exact N _ (List.mem_append_right _ (.head _))
  · rw [if_neg e]; exact N _ (List.mem_append_left _ (List.mem_filter.mpr ⟨hq, by simpa using e⟩))
theorem mem_setL {d a : Addr} {o o' : Obj} (h : (a, o) ∈ news) (e : a ≠ d) : (a, o) ∈ setL d o' news := List.mem_map.mpr ⟨(a, o), h, by simp [e]⟩
theorem mem_setL_self {d : Addr} {o o' : Obj} (h : (d, o) ∈ news) : (d, o') ∈ setL d o' news := List.mem_map.mpr ⟨(d, o), h, by simp⟩
theorem news_ne (N : News h₀ L h news) {a b : Addr} {o o' : Obj} (h1 : (a, o) ∈ news) (h2 : (b, o') ∈ news) (hne : o ≠ o') : a ≠ b := by
  intro e
  subst e
  have x := (N _ h1).1
  have y := (N _ h2).1
  simp only at x y
  rw [x] at y
  exact hne (Option.some.inj y)
theorem cut_ne {d : Addr} : ∀ p ∈ news.filter (fun p => p.1 != d), p.1 ≠ d := fun p hp => by simpa using (List.mem_filter.mp hp).2

theorem NodesIn.set_pv (hN : NodesIn P n st news) (N : News h₀ L h news) {i j : Nat} (hi : i < n) :
    NodesIn P n (st.setPv i j) (setL (P.dd i) (dictOf (P.ent i (.ref (P.nd j)) (.ref (P.nd (st.nx i)))) 10) news) ∧ Kept P n news (setL (P.dd i) (dictOf (P.ent i (.ref (P.nd j)) (.ref (P.nd (st.nx i)))) 10) news) := by
  refine ⟨fun k hk => ⟨mem_setL (hN k hk).1 (hN.nd_dd N hk hi), ?_⟩, fun a o h q => mem_setL h (q i hi)⟩
  by_cases e : k = i
  · subst e
    have := mem_setL_self (o' := dictOf (P.ent k (.ref (P.nd j)) (.ref (P.nd (st.nx k)))) 10) (hN k hk).2
    simpa [St.setPv] using this
  · have := mem_setL (o' := dictOf (P.ent i (.ref (P.nd j)) (.ref (P.nd (st.nx i)))) 10) (hN k hk).2 (fun q => e (hN.dd_inj N hk hi q))
    simpa [St.setPv, e] using this
theorem NodesIn.set_nx (hN : NodesIn P n st news) (N : News h₀ L h news) {i j : Nat} (hi : i < n) :
    NodesIn P n (st.setNx i j) (setL (P.dd i) (dictOf (P.ent i (.ref (P.nd (st.pv i))) (.ref (P.nd j))) 10) news) ∧ Kept P n news (setL (P.dd i) (dictOf (P.ent i (.ref (P.nd (st.pv i))) (.ref (P.nd j))) 10) news) := by
  refine ⟨fun k hk => ⟨mem_setL (hN k hk).1 (hN.nd_dd N hk hi), ?_⟩, fun a o h q => mem_setL h (q i hi)⟩
  by_cases e : k = i
  · subst e
    have := mem_setL_self (o' := dictOf (P.ent k (.ref (P.nd (st.pv k))) (.ref (P.nd j))) 10) (hN k hk).2
    simpa [St.setNx] using this
  · have := mem_setL (o' := dictOf (P.ent i (.ref (P.nd (st.pv i))) (.ref (P.nd j))) 10) (hN k hk).2 (fun q => e (hN.dd_inj N hk hi q))
    simpa [St.setNx, e] using this
end

theorem put_prev {P : Par} {k : Nat} {pv nx v : Value} {hs : Int} {kv : Value} :
    (putL (Str.ofString "prev") hs kv v (P.ent k pv nx), putN (Str.ofString "prev") (P.ent k pv nx) 10) = (P.ent k v nx, 10) := by
  k_put
theorem put_next {P : Par} {k : Nat} {pv nx v : Value} {hs : Int} {kv : Value} :
    (putL (Str.ofString "next") hs kv v (P.ent k pv nx), putN (Str.ofString "next") (P.ent k pv nx) 10) = (P.ent k pv v, 10) := by
  k_put

section
variable {w : World} {A : Around} {E : Value → Shared → Prop} {s : Shared} {L : Addr} {h₀ : Heap} {m : Str → Option Value} {P : Par} {n : Nat} {st : St} {news : Led} {i j : Nat} {Q : Unit → Shared → Prop}
theorem set_prev (F : Fr h₀ L s.heap m) (X₀ : (hd.heap_39 w.params).In h₀) (N : News h₀ L s.heap news) (hN : NodesIn P n st news) (hi : i < n)
    (h : ∀ h' news', Fr h₀ L h' m → News h₀ L h' news' → NodesIn P n (st.setPv i j) news' → Kept P n news news' → Q () { s with heap := h', toks := s.toks + 2 }) :
    wpAny (model PySem.Challenge.rw_et5009_01.row.prog w) A (setAttr (.ref (P.nd i)) (Str.ofString "prev") (.ref (P.nd j))) Q E s := by
  revert X₀
  k_fill
  intro X₀
  have I := InstAt.of_news N (hN i hi).1 (hN i hi).2
  refine set_dict F X₀ (news_cut N (hN i hi).2) I rfl (by k_is) (by k_is) (by k_is) (by k_is) (by k_get) put_prev (upd_last cut_ne) (Nat.le_of_ble_eq_true rfl) fun h' F' N' => ?_
  have g := hN.set_pv N (j := j) hi
  exact h h' _ F' (news_paste N') g.1 g.2
theorem set_next (F : Fr h₀ L s.heap m) (X₀ : (hd.heap_39 w.params).In h₀) (N : News h₀ L s.heap news) (hN : NodesIn P n st news) (hi : i < n)
    (h : ∀ h' news', Fr h₀ L h' m → News h₀ L h' news' → NodesIn P n (st.setNx i j) news' → Kept P n news news' → Q () { s with heap := h', toks := s.toks + 2 }) :
    wpAny (model PySem.Challenge.rw_et5009_01.row.prog w) A (setAttr (.ref (P.nd i)) (Str.ofString "next") (.ref (P.nd j))) Q E s := by
  revert X₀
  k_fill
  intro X₀
  have I := InstAt.of_news N (hN i hi).1 (hN i hi).2
  refine set_dict F X₀ (news_cut N (hN i hi).2) I rfl (by k_is) (by k_is) (by k_is) (by k_is) (by k_get) put_next (upd_last cut_ne) (Nat.le_of_ble_eq_true rfl) fun h' F' N' => ?_
  have g := hN.set_nx N (j := j) hi
  exact h h' _ F' (news_paste N') g.1 g.2
end
end Mine
end

section
open PySem PySem.W PySem.Calls PyProof.Rows
namespace Mine
theorem calmE5 {w : World} {A : Around} {e : Env} {Q : Flow → Shared → Prop} {E : Value → Shared → Prop} {s : Shared}
    (h : wpAny (model PySem.Challenge.rw_et5009_01.row.prog w) A (execs [] e) Q E s) : wpAny (model PySem.Challenge.rw_et5009_01.row.prog w) A (execs [] e) Q E s := by
  w_top off
  first
    | (walk1; fail "calm")
    | exact h
end Mine
end

section
open PySem PySem.W PySem.Calls PyProof.Rows
set_option Elab.async false
set_option maxRecDepth 100000
set_option maxHeartbeats 8000000
namespace Mine

local macro_rules | `(tactic| walk_at "MYIX") => `(tactic| first | assumption | exact Closed.pv (by assumption) (by walk_at "MYIX") | exact Closed.nx (by assumption) (by walk_at "MYIX"))
local macro_rules | `(tactic| k_mem) => `(tactic| first | exact NodesIn.inst (by assumption) (by walk_at "MYIX") | exact NodesIn.dict (by assumption) (by walk_at "MYIX"))
local macro_rules | `(tactic| mul_fits) => `(tactic| first | exact SmallY.left (by assumption) (by walk_at "MYIX") (by walk_at "MYIX") _ | exact SmallY.right (by assumption) (by walk_at "MYIX") (by walk_at "MYIX") _)
local macro_rules | `(tactic| walk_at "compareOp Eq ref") => `(tactic| (k_here; (with_reducible show wpAny _ _ (compareOp CmpOp.Eq (Value.ref _) _) _ _ _); (refine cmp_ofEq ?_); k_dflt (refine' cmp_K ?k1 ?k2 ?k3 ?k4 ?k5 ?k6 ?k7 ?k8 ?_; (case k1 => ktr_units); (case k2 => k_asm); (case k3 => k_asm); (case k4 => k_inst); (case k5 => k_typeOf); (case k6 => k_is); (case k7 => k_is); (case k8 => k_is); k_whole)))
local macro_rules | `(tactic| walk_at "MYUSE") => `(tactic| ((case B => k_asm); (case F => k_asm); (case X => k_asm); (case N => k_asm); (case T => k_asm); (case kk => first | exact rfl | assumption); (case d => ktr_room); (case u => ktr_units)))
local macro_rules | `(tactic| walk_at "call ref") => `(tactic| (k_here; k_dflt (first
  | ((refine' does_use (area_c ?q0 ?q1 ?q2 ?q3 ?q4) ?B ?F ?X ?N ?T ?kk ?d ?u ?_; (case q0 => assumption); (case q1 => assumption); (case q2 => walk_at "MYIX"); (case q3 => walk_at "MYIX"); (case q4 => walk_at "MYIX"); (walk_at "MYUSE")); (intro r9 n9 h9 tk9 F9 N9 p9; obtain ⟨e9, t9, e9'⟩ := p9; subst e9 e9'; (try dsimp only); (try k_sweep)))
  | ((refine' does_use (sign_c ) ?B ?F ?X ?N ?T ?kk ?d ?u ?_; (walk_at "MYUSE")); (intro r9 n9 h9 tk9 F9 N9 p9; obtain ⟨e9, t9, e9'⟩ := p9; subst e9 e9'; (try dsimp only); (try k_sweep)))
  | ((refine' does_use (onseg_c ?q0 ?q1 ?q2 ?q3) ?B ?F ?X ?N ?T ?kk ?d ?u ?_; (case q0 => assumption); (case q1 => walk_at "MYIX"); (case q2 => walk_at "MYIX"); (case q3 => walk_at "MYIX"); (walk_at "MYUSE")); (intro r9 n9 h9 tk9 F9 N9 p9; obtain ⟨e9, b9, e9', i9⟩ := p9; subst e9 e9'; (try dsimp only); (try k_sweep))))))

local macro_rules | `(tactic| walk_at "setAttr ref") => `(tactic| (k_here; k_dflt (first
  | (refine' set_prev ?F ?X ?N ?M ?i ?_; (case F => k_asm); (case X => k_asm); (case N => k_asm); (case M => k_asm); (case i => walk_at "MYIX"); k_whole; intro h' n' F' N' M' K'; (try k_sweep))
  | (refine' set_next ?F ?X ?N ?M ?i ?_; (case F => k_asm); (case X => k_asm); (case N => k_asm); (case M => k_asm); (case i => walk_at "MYIX"); k_whole; intro h' n' F' N' M' K'; (try k_sweep)))))

section
variable {M : Model} {A : Around} {E : Value → Shared → Prop} {s : Shared} {L : Addr} {h₀ : Heap} {P : Par} {n : Nat} {st : St} {news : Led} {i j : Nat} {Q : Value → Shared → Prop}
theorem is_node (N : News h₀ L s.heap news) (hN : NodesIn P n st news) (hi : i < n) (hj : j < n) (h : Q (.bool (decide (i = j))) s) : wpAny M A (compareOp .Is (.ref (P.nd i)) (.ref (P.nd j))) Q E s := by
  by_cases e : i = j
  · subst e
    exact wpAny_is_ref_self (by simpa using h)
  · exact wpAny_is_ref_other (fun q => e (hN.nd_inj N hi hj q)) (N _ (hN i hi).1).1 (N _ (hN j hj).1).1 (by intro z; cases z) (by simpa [e] using h)
theorem isNot_node (N : News h₀ L s.heap news) (hN : NodesIn P n st news) (hi : i < n) (hj : j < n) (h : Q (.bool (decide (i ≠ j))) s) : wpAny M A (compareOp .IsNot (.ref (P.nd i)) (.ref (P.nd j))) Q E s := by
  by_cases e : i = j
  · subst e
    exact wpAny_isNot_ref_self (by simpa using h)
  · exact wpAny_isNot_ref_other (fun q => e (hN.nd_inj N hi hj q)) (N _ (hN i hi).1).1 (N _ (hN j hj).1).1 (by intro z; cases z) (by simpa [e] using h)
end
theorem cmpBack_bool {Q : Value → Shared → Prop} {b : Bool} {s' : Shared} (h : Q (.bool b) s') : PySem.W.CmpBack Q (.bool b) s' := h
theorem eq_c {w : World} {mean : ExcName → Option Value} {mg mb : Str → Option Value} {news : Led} {P : Par} {n : Nat} {st : St} {p q : Nat} (hN : NodesIn P n st news) (hp : p < n) (hq : q < n) :
    Does w mean mg mb 56 2 16 news [.ref (P.nd p), .ref (P.nd q)] (fun news' v => news = news' ∧ ∃ b, v = .bool b ∧ (b = true ↔ SamePt P p q)) := by
  unfold Does
  k_fill
  intro dp un gd cn cs a ccd cl outer A₀ base h₀ L m s Q E B F X N T hk hd hu hret
  refine wpAny_call ?_
  k_dflt ktr_enter
  k_steps
  all_goals (refine hret _ _ _ _ (by k_asm) (by k_asm) ⟨rfl, _, rfl, ?_⟩; unfold SamePt; simp; omega)
theorem Closed.setPv {n : Nat} {st : St} (h : Closed n st) {i j : Nat} (hj : j < n) : Closed n (st.setPv i j) := fun k hk => by
  unfold St.setPv; dsimp only
  refine ⟨?_, (h k hk).2⟩
  split
  · exact hj
  · exact (h k hk).1
theorem Closed.setNx {n : Nat} {st : St} (h : Closed n st) {i j : Nat} (hj : j < n) : Closed n (st.setNx i j) := fun k hk => by
  unfold St.setNx; dsimp only
  refine ⟨(h k hk).1, ?_⟩
  split
  · exact hj
  · exact (h k hk).2
theorem Closed.remove {n : Nat} {st : St} (h : Closed n st) {p : Nat} (hp : p < n) : Closed n (st.remove p) := by
  unfold St.remove
  have h1 := h.setPv (i := st.nx p) (h.pv hp)
  exact h1.setNx (h1.nx hp)
theorem remove_c {w : World} {mean : ExcName → Option Value} {mg mb : Str → Option Value} {news : Led} {P : Par} {n : Nat} {st : St} {p : Nat} (hN : NodesIn P n st news) (hC : Closed n st) (hp : p < n) :
    Does w mean mg mb 105 2 16 news [.ref (P.nd p)] (fun news' v => NodesIn P n (st.remove p) news' ∧ Closed n (st.remove p) ∧ Kept P n news news' ∧ v = .none) := by
  unfold Does
  k_fill
  intro dp un gd cn cs a ccd cl outer A₀ base h₀ L m s Q E B F X N T hk hd hu hret
  refine wpAny_call ?_
  k_dflt ktr_enter
  have hC1 : (st.setPv (st.nx p) (st.pv p)).pv p < n := by
    unfold St.setPv; dsimp only; split <;> exact hC.pv (by first | assumption | omega)
  k_steps
  all_goals (refine hret _ _ _ _ (by k_asm) (by k_asm) ⟨by assumption, hC.remove hp, Kept.trans (by assumption) (by assumption), rfl⟩)
end Mine
end

section
open PySem PySem.W PySem.Calls PyProof.Rows
namespace Mine
theorem calmE6 {w : World} {A : Around} {e : Env} {Q : Flow → Shared → Prop} {E : Value → Shared → Prop} {s : Shared}
    (h : wpAny (model PySem.Challenge.rw_et5009_01.row.prog w) A (execs [] e) Q E s) : wpAny (model PySem.Challenge.rw_et5009_01.row.prog w) A (execs [] e) Q E s := by
  w_top off
  first
    | (walk1; fail "calm")
    | exact h
end Mine
end

section
open PySem PySem.W PySem.Calls PyProof.Rows
set_option Elab.async false
set_option maxRecDepth 100000
set_option maxHeartbeats 8000000
namespace Mine

local macro_rules | `(tactic| walk_at "MYIX") => `(tactic| first | assumption | exact Closed.pv (by assumption) (by walk_at "MYIX") | exact Closed.nx (by assumption) (by walk_at "MYIX"))
local macro_rules | `(tactic| k_mem) => `(tactic| first | exact NodesIn.inst (by assumption) (by walk_at "MYIX") | exact NodesIn.dict (by assumption) (by walk_at "MYIX"))
local macro_rules | `(tactic| mul_fits) => `(tactic| first | exact SmallY.left (by assumption) (by walk_at "MYIX") (by walk_at "MYIX") _ | exact SmallY.right (by assumption) (by walk_at "MYIX") (by walk_at "MYIX") _)
local macro_rules | `(tactic| walk_at "compareOp Eq ref") => `(tactic| (k_here; (with_reducible show wpAny _ _ (compareOp CmpOp.Eq (Value.ref _) _) _ _ _); (refine cmp_ofEq ?_); k_dflt (refine' cmp_K ?k1 ?k2 ?k3 ?k4 ?k5 ?k6 ?k7 ?k8 ?_; (case k1 => ktr_units); (case k2 => k_asm); (case k3 => k_asm); (case k4 => k_inst); (case k5 => k_typeOf); (case k6 => k_is); (case k7 => k_is); (case k8 => k_is); k_whole)))
local macro_rules | `(tactic| walk_at "MYUSE") => `(tactic| ((case B => k_asm); (case F => k_asm); (case X => k_asm); (case N => k_asm); (case T => k_asm); (case kk => first | exact rfl | assumption); (case d => ktr_room); (case u => ktr_units)))
local macro_rules | `(tactic| walk_at "MYENTER") => `(tactic| (refine' code_def ?k1 ?k2 ?k3 ?k4 ?k5 ?kA ?kF ?kK ?k6 ?k7 ?k8 ?k9 ?kB ?_ ?c2 ?c3 ?c4 ?c5; (case kA => exact rfl); (case kF => exact rfl); (case kK => assumption); (case k1 => k_asm); (case k2 => k_asm); (case k3 => k_asm); (case k4 => k_asm); (case k5 => k_asm); (case k6 => k_is); (case k7 => k_is); (case k8 => ktr_room); (case k9 => first | exact BindsTo.of_eq rfl | exact binds_K (by k_in) rfl (by k_is) rfl rfl rfl); (case c5 => decide); (case kB => exact locs rfl); (case c2 => exact rfl); (case c3 => exact rfl); (case c4 => exact rfl); k_whole; intro g' L' h' FG' F' N' B' X' T'; (try dsimp only); (try k_fold)))
local macro_rules | `(tactic| walk_at "compareOp Is") => `(tactic| (k_here; k_dflt (refine' is_node ?N ?M ?i ?j ?_; (case N => k_asm); (case M => k_asm); (case i => walk_at "MYIX"); (case j => walk_at "MYIX"); k_whole)))
local macro_rules | `(tactic| walk_at "compareOp IsNot") => `(tactic| (k_here; k_dflt (refine' isNot_node ?N ?M ?i ?j ?_; (case N => k_asm); (case M => k_asm); (case i => walk_at "MYIX"); (case j => walk_at "MYIX"); k_whole)))
local macro_rules | `(tactic| walk_at "compareOp Is ref ref") => `(tactic| (k_here; k_dflt (refine' is_node ?N ?M ?i ?j ?_; (case N => k_asm); (case M => k_asm); (case i => walk_at "MYIX"); (case j => walk_at "MYIX"); k_whole)))
local macro_rules | `(tactic| walk_at "compareOp IsNot ref ref") => `(tactic| (k_here; k_dflt (refine' isNot_node ?N ?M ?i ?j ?_; (case N => k_asm); (case M => k_asm); (case i => walk_at "MYIX"); (case j => walk_at "MYIX"); k_whole)))
local macro_rules | `(tactic| walk_at "MYPS") => `(tactic| (intro q hq; simp only [List.mem_cons, List.not_mem_nil, or_false] at hq; (first | (subst hq; rfl) | (rcases hq with e | e <;> (subst e; rfl)) | (rcases hq with e | e | e <;> (subst e; rfl)) | (rcases hq with e | e | e | e <;> (subst e; rfl)) | (rcases hq with e | e | e | e | e <;> (subst e; rfl)))))
local macro_rules | `(tactic| walk_at "MYSAME") => `(tactic| (intro z h2 h3; simp only [List.forall_mem_cons, List.not_mem_nil, false_implies, implies_true, and_true, ne_eq] at h2; simp only [List.contains_cons, List.contains_nil, Bool.or_false, Bool.or_eq_false_iff, beq_eq_false_iff_ne, ne_eq] at h3; simp [h2, h3, kstB]; done))
local macro_rules | `(tactic| walk_at "MYSTEPS") => `(tactic| repeat' (first | ((fail_if_success (with_reducible show wpAny _ _ (exec (Stmt.While _ _ _ _) _) _ _ _)); (fail_if_success (with_reducible show KswEnd _ _ _ _ _ _ _ _ _ _ _ _)); (first | (k_unfold; (try dsimp only)) | (k_end; wrow_close) | walk1 | (dsimp only; walk1) | (leave1; walk_say "STEP leave1"; try dsimp only))) | fail "no step"))
local macro_rules | `(tactic| walk_at "call ref") => `(tactic| (k_here; k_dflt (first
  | ((refine' does_use (area_c ?q0 ?q1 ?q2 ?q3 ?q4) ?B ?F ?X ?N ?T ?kk ?d ?u ?_; (case q0 => assumption); (case q1 => assumption); (case q2 => walk_at "MYIX"); (case q3 => walk_at "MYIX"); (case q4 => walk_at "MYIX"); (walk_at "MYUSE")); (intro r9 n9 h9 tk9 F9 N9 p9; obtain ⟨e9, t9, e9'⟩ := p9; subst e9 e9'; (try dsimp only); (try k_sweep)))
  | ((refine' does_use (eq_c ?q0 ?q1 ?q2) ?B ?F ?X ?N ?T ?kk ?d ?u ?_; (case q0 => assumption); (case q1 => walk_at "MYIX"); (case q2 => walk_at "MYIX"); (walk_at "MYUSE")); (intro r9 n9 h9 tk9 F9 N9 p9; obtain ⟨e9, b9, e9', i9⟩ := p9; subst e9 e9'; (try refine cmpBack_bool ?_); (try dsimp only); (try k_sweep)))
  | ((refine' does_use (remove_c ?q0 ?q1 ?q2) ?B ?F ?X ?N ?T ?kk ?d ?u ?_; (case q0 => assumption); (case q1 => assumption); (case q2 => walk_at "MYIX"); (walk_at "MYUSE")); (intro r9 n9 h9 tk9 F9 N9 p9; obtain ⟨M9, C9, K9, e9'⟩ := p9; subst e9'; (try dsimp only); (try k_sweep))))))
abbrev FS := Led × St × Nat × Nat
theorem filter_c {w : World} {mean : ExcName → Option Value} {mg mb : Str → Option Value} {news : Led} {P : Par} {n : Nat} {st : St} {p₀ : Nat} (hN : NodesIn P n st news) (hY : SmallY P n) (hp : p₀ < n)
    (I : St → Nat → Nat → Prop) (μ : St → Nat → Nat → Nat) (R : St → Nat → Prop) (hI : I st p₀ p₀)
    (hc : ∀ st p e, I st p e → Closed n st ∧ p < n ∧ e < n)
    (cut : ∀ st p e, I st p e → SamePt P p (st.nx p) ∨ areaZ P (st.pv p) p (st.nx p) = 0 →
      ((st.remove p).pv p = (st.remove p).nx ((st.remove p).pv p) → R (st.remove p) ((st.remove p).pv p)) ∧
      ((st.remove p).pv p ≠ (st.remove p).nx ((st.remove p).pv p) → I (st.remove p) ((st.remove p).pv p) ((st.remove p).pv p) ∧ μ (st.remove p) ((st.remove p).pv p) ((st.remove p).pv p) < μ st p e))
    (go : ∀ st p e, I st p e → ¬ (SamePt P p (st.nx p) ∨ areaZ P (st.pv p) p (st.nx p) = 0) →
      (st.nx p = e → R st e) ∧ (st.nx p ≠ e → I st (st.nx p) e ∧ μ st (st.nx p) e < μ st p e)) :
    Does w mean mg mb 113 4 32 news [.ref (P.nd p₀)] (fun news' v => ∃ st' q, NodesIn P n st' news' ∧ Kept P n news news' ∧ q < n ∧ R st' q ∧ v = .ref (P.nd q)) := by
  unfold Does
  k_fill
  intro dp un gd cn cs a ccd cl outer A₀ base h₀ L m s Q E B F X N T hk hd hu hret
  refine wpAny_call ?_
  k_dflt (walk_at "MYENTER")
  walk_at "MYSTEPS"
  rename Fr _ _ _ _ => F1
  rename News _ _ _ _ => N1
  refine ksw_while (σ := FS) (fun c => c.1) (fun c => [(Str.ofString "p", .ref (P.nd c.2.2.1)), (Str.ofString "end", .ref (P.nd c.2.2.2))])
    (fun c => NodesIn P n c.2.1 c.1 ∧ Kept P n news c.1) [Str.ofString "again"] (fun c => I c.2.1 c.2.2.1 c.2.2.2) (fun c => μ c.2.1 c.2.2.1 c.2.2.2) (news, st, p₀, p₀) F1 N1 ⟨hN, Kept.refl⟩ ?_ hI ?_
  · intro q hq
    simp only [List.mem_cons, List.not_mem_nil, or_false] at hq
    rcases hq with rfl | rfl <;> rfl
  clear F1 N1 hN hI hp
  rintro ⟨news1, st1, p, e⟩ u h1 tk1 ⟨hN, hK⟩ hI F1 N1
  obtain ⟨hC, hp, he⟩ := hc _ _ _ hI
  dsimp only at hN hK hI F1 N1 hC hp he
  k_fold
  walk_at "MYSTEPS"
  · rename _ = true => hb
    rename _ ↔ _ => i9
    rename NodesIn P n (St.remove st1 p) _ => M9
    rename Kept P n news1 _ => K9
    rename _ = _ => hq
    exact hret _ _ _ _ (by k_asm) (by k_asm) ⟨_, _, M9, hK.trans K9, (hC.remove hp).pv hp, (cut st1 p e hI (.inl (i9.mp hb))).1 hq, rfl⟩
  · rename _ = true => hb
    rename _ ↔ _ => i9
    rename NodesIn P n (St.remove st1 p) _ => M9
    rename Kept P n news1 _ => K9
    rename ¬ (_ = _) => hq
    have hx := (cut st1 p e hI (.inl (i9.mp hb))).2 hq
    exact ksw_end (⟨_, st1.remove p, _, _⟩ : FS) (by assumption) (by assumption) (fun _ h => h) ⟨M9, hK.trans K9⟩ (by walk_at "MYPS") (by walk_at "MYSAME") hx.1 hx.2
  · rename areaZ _ _ _ _ = 0 => hb
    rename NodesIn P n (St.remove st1 p) _ => M9
    rename Kept P n news1 _ => K9
    rename St.pv _ _ = _ => hq
    exact hret _ _ _ _ (by k_asm) (by k_asm) ⟨_, _, M9, hK.trans K9, (hC.remove hp).pv hp, (cut st1 p e hI (.inr hb)).1 hq, rfl⟩
  · rename areaZ _ _ _ _ = 0 => hb
    rename NodesIn P n (St.remove st1 p) _ => M9
    rename Kept P n news1 _ => K9
    rename ¬ (_ = _) => hq
    have hx := (cut st1 p e hI (.inr hb)).2 hq
    exact ksw_end (⟨_, st1.remove p, _, _⟩ : FS) (by assumption) (by assumption) (fun _ h => h) ⟨M9, hK.trans K9⟩ (by walk_at "MYPS") (by walk_at "MYSAME") hx.1 hx.2
  · rename areaZ _ _ _ _ ≠ 0 => hb
    rename _ ↔ _ => i9
    rename _ = false => hb2
    rename st1.nx p ≠ e => hq
    have hx := (go st1 p e hI (by rintro (q | q); exact absurd (i9.mpr q) (by rw [hb2]; decide); exact hb q)).2 hq
    exact ksw_end (⟨_, st1, _, _⟩ : FS) (by assumption) (by assumption) (fun _ h => h) ⟨hN, hK⟩ (by walk_at "MYPS") (by walk_at "MYSAME") hx.1 hx.2
  · rename areaZ _ _ _ _ ≠ 0 => hb
    rename _ ↔ _ => i9
    rename _ = false => hb2
    rename ¬ (st1.nx p ≠ e) => hq
    have hx := (go st1 p e hI (by rintro (q | q); exact absurd (i9.mpr q) (by rw [hb2]; decide); exact hb q)).1 (Classical.not_not.mp hq)
    exact hret _ _ _ _ (by k_asm) (by k_asm) ⟨_, _, hN, hK, he, hx, rfl⟩
end Mine
end

section
open PySem PySem.W PySem.Calls PyProof.Rows
namespace Mine
theorem calmE7 {w : World} {A : Around} {e : Env} {Q : Flow → Shared → Prop} {E : Value → Shared → Prop} {s : Shared}
    (h : wpAny (model PySem.Challenge.rw_et5009_01.row.prog w) A (execs [] e) Q E s) : wpAny (model PySem.Challenge.rw_et5009_01.row.prog w) A (execs [] e) Q E s := by
  w_top off
  first
    | (walk1; fail "calm")
    | exact h
end Mine
end

section
open PySem PySem.W PySem.Calls PyProof.Rows
set_option Elab.async false
set_option maxRecDepth 100000
set_option maxHeartbeats 8000000
namespace Mine

local macro_rules | `(tactic| walk_at "MYIX") => `(tactic| first | assumption | exact Closed.pv (by assumption) (by walk_at "MYIX") | exact Closed.nx (by assumption) (by walk_at "MYIX"))
local macro_rules | `(tactic| k_mem) => `(tactic| first | exact NodesIn.inst (by assumption) (by walk_at "MYIX") | exact NodesIn.dict (by assumption) (by walk_at "MYIX"))
local macro_rules | `(tactic| mul_fits) => `(tactic| first | exact SmallY.left (by assumption) (by walk_at "MYIX") (by walk_at "MYIX") _ | exact SmallY.right (by assumption) (by walk_at "MYIX") (by walk_at "MYIX") _)
local macro_rules | `(tactic| walk_at "compareOp Eq ref") => `(tactic| (k_here; (with_reducible show wpAny _ _ (compareOp CmpOp.Eq (Value.ref _) _) _ _ _); (refine cmp_ofEq ?_); k_dflt (refine' cmp_K ?k1 ?k2 ?k3 ?k4 ?k5 ?k6 ?k7 ?k8 ?_; (case k1 => ktr_units); (case k2 => k_asm); (case k3 => k_asm); (case k4 => k_inst); (case k5 => k_typeOf); (case k6 => k_is); (case k7 => k_is); (case k8 => k_is); k_whole)))
local macro_rules | `(tactic| walk_at "MYUSE") => `(tactic| ((case B => k_asm); (case F => k_asm); (case X => k_asm); (case N => k_asm); (case T => k_asm); (case kk => first | exact rfl | assumption); (case d => ktr_room); (case u => ktr_units)))
local macro_rules | `(tactic| walk_at "MYENTER") => `(tactic| (refine' code_def ?k1 ?k2 ?k3 ?k4 ?k5 ?kA ?kF ?kK ?k6 ?k7 ?k8 ?k9 ?kB ?_ ?c2 ?c3 ?c4 ?c5; (case kA => exact rfl); (case kF => exact rfl); (case kK => assumption); (case k1 => k_asm); (case k2 => k_asm); (case k3 => k_asm); (case k4 => k_asm); (case k5 => k_asm); (case k6 => k_is); (case k7 => k_is); (case k8 => ktr_room); (case k9 => first | exact BindsTo.of_eq rfl | exact binds_K (by k_in) rfl (by k_is) rfl rfl rfl); (case c5 => decide); (case kB => exact locs rfl); (case c2 => exact rfl); (case c3 => exact rfl); (case c4 => exact rfl); k_whole; intro g' L' h' FG' F' N' B' X' T'; (try dsimp only); (try k_fold)))
local macro_rules | `(tactic| walk_at "compareOp Is") => `(tactic| (k_here; k_dflt (refine' is_node ?N ?M ?i ?j ?_; (case N => k_asm); (case M => k_asm); (case i => walk_at "MYIX"); (case j => walk_at "MYIX"); k_whole)))
local macro_rules | `(tactic| walk_at "compareOp IsNot") => `(tactic| (k_here; k_dflt (refine' isNot_node ?N ?M ?i ?j ?_; (case N => k_asm); (case M => k_asm); (case i => walk_at "MYIX"); (case j => walk_at "MYIX"); k_whole)))
local macro_rules | `(tactic| walk_at "compareOp Is ref ref") => `(tactic| (k_here; k_dflt (refine' is_node ?N ?M ?i ?j ?_; (case N => k_asm); (case M => k_asm); (case i => walk_at "MYIX"); (case j => walk_at "MYIX"); k_whole)))
local macro_rules | `(tactic| walk_at "compareOp IsNot ref ref") => `(tactic| (k_here; k_dflt (refine' isNot_node ?N ?M ?i ?j ?_; (case N => k_asm); (case M => k_asm); (case i => walk_at "MYIX"); (case j => walk_at "MYIX"); k_whole)))
local macro_rules | `(tactic| walk_at "MYPS") => `(tactic| (intro q hq; simp only [List.mem_cons, List.not_mem_nil, or_false] at hq; (first | (subst hq; rfl) | (rcases hq with e | e <;> (subst e; rfl)) | (rcases hq with e | e | e <;> (subst e; rfl)) | (rcases hq with e | e | e | e <;> (subst e; rfl)) | (rcases hq with e | e | e | e | e <;> (subst e; rfl)))))
local macro_rules | `(tactic| walk_at "MYSAME") => `(tactic| (intro z h2 h3; simp only [List.forall_mem_cons, List.not_mem_nil, false_implies, implies_true, and_true, ne_eq] at h2; simp only [List.contains_cons, List.contains_nil, Bool.or_false, Bool.or_eq_false_iff, beq_eq_false_iff_ne, ne_eq] at h3; simp [h2, h3, kstB]; done))
local macro_rules | `(tactic| walk_at "MYSTEPS") => `(tactic| repeat' (first | ((fail_if_success (with_reducible show wpAny _ _ (exec (Stmt.While _ _ _ _) _) _ _ _)); (fail_if_success (with_reducible show KswEnd _ _ _ _ _ _ _ _ _ _ _ _)); (first | (k_unfold; (try dsimp only)) | (k_end; wrow_close) | walk1 | (dsimp only; walk1) | (leave1; walk_say "STEP leave1"; try dsimp only))) | fail "no step"))
local macro_rules | `(tactic| walk_at "call ref") => `(tactic| (k_here; k_dflt (first
  | ((refine' does_use (eq_c ?q0 ?q1 ?q2) ?B ?F ?X ?N ?T ?kk ?d ?u ?_; (case q0 => assumption); (case q1 => walk_at "MYIX"); (case q2 => walk_at "MYIX"); (walk_at "MYUSE")); (intro r9 n9 h9 tk9 F9 N9 p9; obtain ⟨e9, b9, e9', i9⟩ := p9; subst e9 e9'; (try refine cmpBack_bool ?_); (try dsimp only); (try k_sweep)))
  | ((refine' does_use (inter_c ?q0 ?q1 ?q2 ?q3 ?q4 ?q5) ?B ?F ?X ?N ?T ?kk ?d ?u ?_; (case q0 => assumption); (case q1 => assumption); (case q2 => walk_at "MYIX"); (case q3 => walk_at "MYIX"); (case q4 => walk_at "MYIX"); (case q5 => walk_at "MYIX"); (walk_at "MYUSE")); (intro r9 n9 h9 tk9 F9 N9 p9; obtain ⟨e9, b9, e9', i9⟩ := p9; subst e9 e9'; (try dsimp only); (try k_sweep)))
  | ((refine' does_use (inside_c ?q0 ?q1 ?q2 ?q3 ?q4) ?B ?F ?X ?N ?T ?kk ?d ?u ?_; (case q0 => assumption); (case q1 => assumption); (case q2 => assumption); (case q3 => walk_at "MYIX"); (case q4 => walk_at "MYIX"); (walk_at "MYUSE")); (intro r9 n9 h9 tk9 F9 N9 p9; obtain ⟨e9, b9, e9', i9⟩ := p9; subst e9 e9'; (try dsimp only); (try k_sweep)))
  | ((refine' does_use (remove_c ?q0 ?q1 ?q2) ?B ?F ?X ?N ?T ?kk ?d ?u ?_; (case q0 => assumption); (case q1 => assumption); (case q2 => walk_at "MYIX"); (walk_at "MYUSE")); (intro r9 n9 h9 tk9 F9 N9 p9; obtain ⟨M9, C9, K9, e9'⟩ := p9; subst e9'; (try dsimp only); (try k_sweep))))))

abbrev Cut := Addr × Nat × Nat × Nat
/-- the list of triangles: `v0`, then a tuple a cut -/
def TriIn (P : Par) (n : Nat) (tri : Addr) (v0 : Value) (k : Nat) (cs : List Cut) (news : Led) : Prop :=
  (tri, listOf (v0 :: cs.map fun c => .ref c.1).toArray k) ∈ news ∧ (∀ c ∈ cs, (c.1, tupO [.ref (P.pt c.2.1), .ref (P.pt c.2.2.1), .ref (P.pt c.2.2.2)]) ∈ news) ∧
    (∀ j, j < n → tri ≠ P.dd j) ∧ ∀ c ∈ cs, ∀ j, j < n → c.1 ≠ P.dd j
theorem TriIn.lst {P : Par} {n : Nat} {tri : Addr} {v0 : Value} {k : Nat} {cs : List Cut} {news : Led} (h : TriIn P n tri v0 k cs news) : (tri, listOf (v0 :: cs.map fun c => .ref c.1).toArray k) ∈ news := h.1
def Kept2 (P : Par) (n : Nat) (tri : Addr) (news news' : Led) : Prop := ∀ a o, (a, o) ∈ news → (∀ k, k < n → a ≠ P.dd k) → a ≠ tri → (a, o) ∈ news'
theorem Kept2.refl {P : Par} {n : Nat} {tri : Addr} {news : Led} : Kept2 P n tri news news := fun _ _ h _ _ => h
theorem Kept2.trans {P : Par} {n : Nat} {tri : Addr} {a b c : Led} (x : Kept2 P n tri a b) (y : Kept2 P n tri b c) : Kept2 P n tri a c := fun q o h k l => y q o (x q o h k l) k l
theorem Kept.two {P : Par} {n : Nat} {tri : Addr} {a b : Led} (x : Kept P n a b) : Kept2 P n tri a b := fun q o h k _ => x q o h k

section
variable {P : Par} {n : Nat} {st : St} {news : Led} {h₀ h : Heap} {L : Addr} {tri : Addr} {v0 : Value} {k : Nat} {cs : List Cut}
theorem TriIn.kept (hT : TriIn P n tri v0 k cs news) {news' : Led} (K : Kept P n news news') : TriIn P n tri v0 k cs news' :=
  ⟨K _ _ hT.1 hT.2.2.1, fun c hc => K _ _ (hT.2.1 c hc) (hT.2.2.2 c hc), hT.2.2⟩
end
section
variable {w : World} {A : Around} {E : Value → Shared → Prop} {s : Shared} {L : Addr} {h₀ : Heap} {m : Str → Option Value} {P : Par} {n : Nat} {st : St} {news : Led} {tri : Addr} {v0 : Value} {k : Nat} {cs : List Cut} {t : Addr} {a p b : Nat} {Q : Value → Shared → Prop} {prog : Program}
theorem append_tri (F : Fr h₀ L s.heap m) (N : News h₀ L s.heap ((t, tupO [.ref (P.pt a), .ref (P.pt p), .ref (P.pt b)]) :: news)) (hN : NodesIn P n st news) (hT : TriIn P n tri v0 k cs news) (hs : cs.length ≤ 1000)
    (h : ∀ h' news', Fr h₀ L h' m → News h₀ L h' news' → NodesIn P n st news' → TriIn P n tri v0 (k + 1) (cs ++ [(t, a, p, b)]) news' → Kept2 P n tri news news' → Q .none { s with heap := h' }) :
    wpAny (model prog w) A (call (.builtin "list.append") [.ref tri, .ref t]) Q E s := by
  have hl : (tri, listOf (v0 :: cs.map fun c => .ref c.1).toArray k) ∈ (t, tupO [.ref (P.pt a), .ref (P.pt p), .ref (P.pt b)]) :: news := .tail _ hT.1
  refine append_K F (news_cut N hl) (upd_last cut_ne) (fun h' F' N' => ?_) (by simp only [List.size_toArray, List.length_cons, List.length_map, sizeLine_eq]; omega)
  have N2 := news_paste N'
  have nt : t ≠ tri := news_ne N (.head _) hl (by intro z; simp at z)
  refine h h' _ F' N2 (fun j hj => ⟨mem_setL (.tail _ (hN j hj).1) (news_ne N (.tail _ (hN j hj).1) hl (by intro z; simp at z)), mem_setL (.tail _ (hN j hj).2) (news_ne N (.tail _ (hN j hj).2) hl (by intro z; simp at z))⟩) ⟨?_, fun c hc => ?_, hT.2.2.1, fun c hc j hj => ?_⟩ fun x o hx _ hne => mem_setL (.tail _ hx) hne
  · have := mem_setL_self (o' := listOf ((v0 :: cs.map fun c => .ref c.1).toArray.push (.ref t)) (k + 1)) hl
    simpa using this
  · rcases List.mem_append.mp hc with q | q
    · exact mem_setL (.tail _ (hT.2.1 c q)) (news_ne N (.tail _ (hT.2.1 c q)) hl (by intro z; simp at z))
    · rw [List.mem_singleton.mp q]
      exact mem_setL (.head _) nt
  · rcases List.mem_append.mp hc with q | q
    · exact hT.2.2.2 c q j hj
    · rw [List.mem_singleton.mp q]
      exact news_ne N (.head _) (.tail _ (hN j hj).2) (by intro z; simp at z)
end
local macro_rules | `(tactic| k_mem) => `(tactic| exact TriIn.lst (by assumption))
local macro_rules | `(tactic| walk_at "call builtin:list.append") => `(tactic| (k_here; k_dflt (refine' append_tri ?F ?N ?M ?T ?l ?_; (case F => k_asm); (case N => k_asm); (case M => k_asm); (case T => k_asm); (case l => k_asm); k_whole); intro h' n' F' N' M' T' K'; (try k_sweep)))
abbrev CS := Led × St × Nat × Nat × Nat × List Cut
def Cond (P : Par) (st : St) (p : Nat) : Prop := ¬ SamePt P (st.pv p) (st.nx (st.nx p)) ∧ Inters P (st.pv p) p (st.nx p) (st.nx (st.nx p)) ∧ Inside P st (st.pv p) (st.nx (st.nx p)) ∧ Inside P st (st.nx (st.nx p)) (st.pv p)
def St.cut (st : St) (p : Nat) : St := (st.remove p).remove ((st.remove p).nx p)
def CutC (P : Par) (st : St) (p : Nat) (t : Addr) : Cut := (t, st.pv p, p, st.nx (st.nx p))
theorem cure_c {w : World} {mean : ExcName → Option Value} {mg mb : Str → Option Value} {news : Led} {P : Par} {n : Nat} {st : St} {p₀ : Nat} {tri : Addr} {v0 : Value} {k₀ : Nat} (hN : NodesIn P n st news) (hY : SmallY P n) (hp : p₀ < n) (hT : TriIn P n tri v0 k₀ [] news)
    (I : St → Nat → Nat → List Cut → Prop) (μ : St → Nat → Nat → Nat) (R : St → Nat → List Cut → Prop) (R2 : St → Nat → List Cut → Prop) (hI : I st p₀ p₀ [])
    (hc : ∀ st p e cs, I st p e cs → Closed n st ∧ p < n ∧ e < n ∧ cs.length ≤ 1000)
    (cut : ∀ st p e cs t, I st p e cs → Cond P st p →
      ((st.cut p).nx (st.nx (st.nx p)) = st.nx (st.nx p) → R (st.cut p) ((st.cut p).nx (st.nx (st.nx p))) (cs ++ [CutC P st p t])) ∧
      ((st.cut p).nx (st.nx (st.nx p)) ≠ st.nx (st.nx p) → I (st.cut p) ((st.cut p).nx (st.nx (st.nx p))) (st.nx (st.nx p)) (cs ++ [CutC P st p t]) ∧ μ (st.cut p) ((st.cut p).nx (st.nx (st.nx p))) (st.nx (st.nx p)) < μ st p e))
    (go : ∀ st p e cs, I st p e cs → ¬ Cond P st p →
      (st.nx p = e → R st (st.nx p) cs) ∧ (st.nx p ≠ e → I st (st.nx p) e cs ∧ μ st (st.nx p) e < μ st p e))
    (fin : ∀ st p cs news, R st p cs → NodesIn P n st news → Does w mean mg mb 113 4 32 news [.ref (P.nd p)] (fun news' v => ∃ st' q, NodesIn P n st' news' ∧ Kept P n news news' ∧ q < n ∧ R2 st' q cs ∧ v = .ref (P.nd q))) :
    Does w mean mg mb 120 8 64 news [.ref (P.nd p₀), .ref tri] (fun news' v => ∃ st' q k cs, NodesIn P n st' news' ∧ Kept2 P n tri news news' ∧ q < n ∧ R2 st' q cs ∧ TriIn P n tri v0 k cs news' ∧ v = .ref (P.nd q)) := by
  unfold Does
  k_fill
  intro dp un gd cn cs a ccd cl outer A₀ base h₀ L m s Q E B F X N T hk hd hu hret
  refine wpAny_call ?_
  k_dflt (walk_at "MYENTER")
  walk_at "MYSTEPS"
  rename Fr _ _ _ _ => F1
  rename News _ _ _ _ => N1
  refine ksw_while (σ := Nat × CS) (fun c => c.2.1) (fun c => [(Str.ofString "p", .ref (P.nd c.2.2.2.1)), (Str.ofString "start", .ref (P.nd c.2.2.2.2.1)), (Str.ofString "triangles", .ref tri)])
    (fun c => NodesIn P n c.2.2.1 c.2.1 ∧ TriIn P n tri v0 c.1 c.2.2.2.2.2.2 c.2.1 ∧ Kept2 P n tri news c.2.1) [Str.ofString "a", Str.ofString "b"] (fun c => I c.2.2.1 c.2.2.2.1 c.2.2.2.2.1 c.2.2.2.2.2.2) (fun c => μ c.2.2.1 c.2.2.2.1 c.2.2.2.2.1) (k₀, news, st, p₀, p₀, 0, []) F1 N1 ⟨hN, hT, Kept2.refl⟩ ?_ hI ?_
  · walk_at "MYPS"
  clear F1 N1 hN hI hp hT
  rintro ⟨k, news1, st1, p, e, z, cs⟩ u h1 tk1 ⟨hN, hT, hK⟩ hI F1 N1
  obtain ⟨hC, hp, he, hl⟩ := hc _ _ _ _ hI
  dsimp only at hN hT hK hI F1 N1 hC hp he hl
  k_fold
  walk_at "MYSTEPS"
  · have hnc : ¬ Cond P st1 p := by
      rintro ⟨c1, c2, c3, c4⟩
      rename _ = true => hb
      rename _ = true ↔ _ => i9
      exact c1 (i9.mp hb)
    rename st1.nx p = e => hq
    have hx := (go st1 p e cs hI hnc).1 hq
    have D := fin _ _ _ _ hx hN
    k_dflt (refine' does_use D ?B ?F ?X ?N ?T ?kk ?d ?u ?_)
    walk_at "MYUSE"
    rintro r9 n9 h9 tk9 F9 N9 ⟨st9, q9, M9', K9', hq9, hR9, rfl⟩
    dsimp only
    walk_at "MYSTEPS"
    exact hret _ _ _ _ (by k_asm) (by k_asm) ⟨st9, q9, _, _, M9', hK.trans K9'.two, hq9, hR9, hT.kept K9', rfl⟩
  · have hnc : ¬ Cond P st1 p := by
      rintro ⟨c1, c2, c3, c4⟩
      rename _ = true => hb
      rename _ = true ↔ _ => i9
      exact c1 (i9.mp hb)
    rename ¬ (st1.nx p = e) => hq
    have hx := (go st1 p e cs hI hnc).2 hq
    exact ksw_end (⟨k, news1, st1, _, _, 0, cs⟩ : Nat × CS) (by assumption) (by assumption) (fun _ h => h) ⟨hN, hT, hK⟩ (by walk_at "MYPS") (by walk_at "MYSAME") hx.1 hx.2
  · rename _ = true ↔ Inside P st1 (st1.nx (st1.nx p)) _ => j4
    rename _ = true ↔ Inside P st1 (st1.pv p) _ => j3
    rename _ = true ↔ Inters P _ _ _ _ => j2
    rename _ = true ↔ SamePt P _ _ => j1
    have hcc : Cond P st1 p := ⟨fun q => absurd (j1.mpr q) (by rename _ = false => hb; rw [hb]; decide), j2.mp (by assumption), j3.mp (by assumption), j4.mp (by assumption)⟩
    rename NodesIn P n (St.remove (St.remove st1 p) _) _ => M9
    rename Kept P n _ _ => K9
    revert K9
    rename Kept P n _ _ => K8
    intro K9
    rename TriIn _ _ _ _ _ _ _ => T7
    rename Kept2 P n tri news1 _ => K7
    rename NodesIn P n st1 _ => M7
    rename St.nx _ _ = st1.nx (st1.nx p) => hq
    obtain ⟨t7, T7⟩ : ∃ t, TriIn P n tri v0 (k + 1) (cs ++ [CutC P st1 p t]) _ := ⟨_, T7⟩
    have hx := (cut st1 p e cs t7 hI hcc).1 hq
    have D := fin _ _ _ _ hx M9
    k_dflt (refine' does_use D ?B ?F ?X ?N ?T ?kk ?d ?u ?_)
    walk_at "MYUSE"
    rintro r9 n9 h9 tk9 F9 N9 ⟨st9, q9, M9', K9', hq9, hR9, rfl⟩
    dsimp only
    walk_at "MYSTEPS"
    exact hret _ _ _ _ (by k_asm) (by k_asm) ⟨st9, q9, _, _, M9', ((hK.trans K7).trans (K8.two.trans K9.two)).trans K9'.two, hq9, hR9, ((T7.kept K8).kept K9).kept K9', rfl⟩
  · rename _ = true ↔ Inside P st1 (st1.nx (st1.nx p)) _ => j4
    rename _ = true ↔ Inside P st1 (st1.pv p) _ => j3
    rename _ = true ↔ Inters P _ _ _ _ => j2
    rename _ = true ↔ SamePt P _ _ => j1
    have hcc : Cond P st1 p := ⟨fun q => absurd (j1.mpr q) (by rename _ = false => hb; rw [hb]; decide), j2.mp (by assumption), j3.mp (by assumption), j4.mp (by assumption)⟩
    rename NodesIn P n (St.remove (St.remove st1 p) _) _ => M9
    rename Kept P n _ _ => K9
    revert K9
    rename Kept P n _ _ => K8
    intro K9
    rename TriIn _ _ _ _ _ _ _ => T7
    rename Kept2 P n tri news1 _ => K7
    rename NodesIn P n st1 _ => M7
    rename ¬ (St.nx _ _ = st1.nx (st1.nx p)) => hq
    obtain ⟨t7, T7⟩ : ∃ t, TriIn P n tri v0 (k + 1) (cs ++ [CutC P st1 p t]) _ := ⟨_, T7⟩
    have hx := (cut st1 p e cs t7 hI hcc).2 hq
    exact ksw_end (⟨k + 1, _, st1.cut p, _, _, 0, cs ++ [CutC P st1 p t7]⟩ : Nat × CS) (by assumption) (by assumption) (fun _ h => h) ⟨M9, (T7.kept K8).kept K9, (hK.trans K7).trans (K8.two.trans K9.two)⟩ (by walk_at "MYPS") (by walk_at "MYSAME") hx.1 hx.2
  · have hnc : ¬ Cond P st1 p := by
      rintro ⟨c1, c2, c3, c4⟩
      rename _ = false => hb
      rename _ = true ↔ _ => i9
      exact absurd (i9.mpr c4) (by rw [hb]; decide)
    rename st1.nx p = e => hq
    have hx := (go st1 p e cs hI hnc).1 hq
    have D := fin _ _ _ _ hx hN
    k_dflt (refine' does_use D ?B ?F ?X ?N ?T ?kk ?d ?u ?_)
    walk_at "MYUSE"
    rintro r9 n9 h9 tk9 F9 N9 ⟨st9, q9, M9', K9', hq9, hR9, rfl⟩
    dsimp only
    walk_at "MYSTEPS"
    exact hret _ _ _ _ (by k_asm) (by k_asm) ⟨st9, q9, _, _, M9', hK.trans K9'.two, hq9, hR9, hT.kept K9', rfl⟩
  · have hnc : ¬ Cond P st1 p := by
      rintro ⟨c1, c2, c3, c4⟩
      rename _ = false => hb
      rename _ = true ↔ _ => i9
      exact absurd (i9.mpr c4) (by rw [hb]; decide)
    rename ¬ (st1.nx p = e) => hq
    have hx := (go st1 p e cs hI hnc).2 hq
    exact ksw_end (⟨k, news1, st1, _, _, 0, cs⟩ : Nat × CS) (by assumption) (by assumption) (fun _ h => h) ⟨hN, hT, hK⟩ (by walk_at "MYPS") (by walk_at "MYSAME") hx.1 hx.2
  · have hnc : ¬ Cond P st1 p := by
      rintro ⟨c1, c2, c3, c4⟩
      rename _ = false => hb
      rename _ = true ↔ _ => i9
      exact absurd (i9.mpr c3) (by rw [hb]; decide)
    rename st1.nx p = e => hq
    have hx := (go st1 p e cs hI hnc).1 hq
    have D := fin _ _ _ _ hx hN
    k_dflt (refine' does_use D ?B ?F ?X ?N ?T ?kk ?d ?u ?_)
    walk_at "MYUSE"
    rintro r9 n9 h9 tk9 F9 N9 ⟨st9, q9, M9', K9', hq9, hR9, rfl⟩
    dsimp only
    walk_at "MYSTEPS"
    exact hret _ _ _ _ (by k_asm) (by k_asm) ⟨st9, q9, _, _, M9', hK.trans K9'.two, hq9, hR9, hT.kept K9', rfl⟩
  · have hnc : ¬ Cond P st1 p := by
      rintro ⟨c1, c2, c3, c4⟩
      rename _ = false => hb
      rename _ = true ↔ _ => i9
      exact absurd (i9.mpr c3) (by rw [hb]; decide)
    rename ¬ (st1.nx p = e) => hq
    have hx := (go st1 p e cs hI hnc).2 hq
    exact ksw_end (⟨k, news1, st1, _, _, 0, cs⟩ : Nat × CS) (by assumption) (by assumption) (fun _ h => h) ⟨hN, hT, hK⟩ (by walk_at "MYPS") (by walk_at "MYSAME") hx.1 hx.2
  · have hnc : ¬ Cond P st1 p := by
      rintro ⟨c1, c2, c3, c4⟩
      rename _ = false => hb
      rename _ = true ↔ _ => i9
      exact absurd (i9.mpr c2) (by rw [hb]; decide)
    rename st1.nx p = e => hq
    have hx := (go st1 p e cs hI hnc).1 hq
    have D := fin _ _ _ _ hx hN
    k_dflt (refine' does_use D ?B ?F ?X ?N ?T ?kk ?d ?u ?_)
    walk_at "MYUSE"
    rintro r9 n9 h9 tk9 F9 N9 ⟨st9, q9, M9', K9', hq9, hR9, rfl⟩
    dsimp only
    walk_at "MYSTEPS"
    exact hret _ _ _ _ (by k_asm) (by k_asm) ⟨st9, q9, _, _, M9', hK.trans K9'.two, hq9, hR9, hT.kept K9', rfl⟩
  · have hnc : ¬ Cond P st1 p := by
      rintro ⟨c1, c2, c3, c4⟩
      rename _ = false => hb
      rename _ = true ↔ _ => i9
      exact absurd (i9.mpr c2) (by rw [hb]; decide)
    rename ¬ (st1.nx p = e) => hq
    have hx := (go st1 p e cs hI hnc).2 hq
    exact ksw_end (⟨k, news1, st1, _, _, 0, cs⟩ : Nat × CS) (by assumption) (by assumption) (fun _ h => h) ⟨hN, hT, hK⟩ (by walk_at "MYPS") (by walk_at "MYSAME") hx.1 hx.2
end Mine
end

section
open PySem PySem.W PySem.Calls PyProof.Rows
namespace Mine
theorem calmE8 {w : World} {A : Around} {e : Env} {Q : Flow → Shared → Prop} {E : Value → Shared → Prop} {s : Shared}
    (h : wpAny (model PySem.Challenge.rw_et5009_01.row.prog w) A (execs [] e) Q E s) : wpAny (model PySem.Challenge.rw_et5009_01.row.prog w) A (execs [] e) Q E s := by
  w_top off
  first
    | (walk1; fail "calm")
    | exact h
end Mine
end

section
open PySem PySem.W PySem.Calls PyProof.Rows
set_option Elab.async false
set_option maxRecDepth 100000
set_option maxHeartbeats 8000000
namespace Mine

/-- the tuples (x, y) of the rows -/
def RowsIn (xs ys : Nat → Int) (tx ty : Nat → Tok) (ra : Nat → Addr) (n : Nat) (news : Led) : Prop := ∀ k, k < n → (ra k, tupO [.int (xs k) (tx k), .int (ys k) (ty k)]) ∈ news
theorem RowsIn.row {xs ys : Nat → Int} {tx ty : Nat → Tok} {ra : Nat → Addr} {n : Nat} {news : Led} (h : RowsIn xs ys tx ty ra n news) {k : Nat} (hk : k < n) : (ra k, tupO [.int (xs k) (tx k), .int (ys k) (ty k)]) ∈ news := h k hk
theorem RowsIn.cons {xs ys : Nat → Int} {tx ty : Nat → Tok} {ra : Nat → Addr} {n : Nat} {news : Led} {q : Addr × Obj} (h : RowsIn xs ys tx ty ra n news) : RowsIn xs ys tx ty ra n (q :: news) := fun k hk => .tail _ (h k hk)
def SmallYs (ys : Nat → Int) (n : Nat) : Prop := ∀ k, k < n → 0 ≤ ys k ∧ ys k ≤ 4
theorem SmallYs.left {ys : Nat → Int} {n : Nat} (Y : SmallYs ys n) {i j : Nat} (hi : i < n) (hj : j < n) (x : Int) : IntMulOk (ys i - ys j) x := by
  have := Y i hi; have := Y j hj
  exact IntMulOk.of_left (intBits_le_64 (by omega) (by omega))
theorem SmallYs.right {ys : Nat → Int} {n : Nat} (Y : SmallYs ys n) {i j : Nat} (hi : i < n) (hj : j < n) (x : Int) : IntMulOk x (ys i - ys j) := by
  have := Y i hi; have := Y j hj
  exact IntMulOk.of_right (intBits_le_64 (by omega) (by omega))
theorem news_tl {h₀ h : Heap} {L : Addr} {q : Addr × Obj} {news : Led} (N : News h₀ L h (q :: news)) : News h₀ L h news := fun p hp => N p (.tail _ hp)
/-- _law_cross, _law_on, _law_meet, _law_within of the text -/
def crossZ (xs ys : Nat → Int) (i j k : Nat) : Int := (xs j - xs i) * (ys k - ys i) - (ys j - ys i) * (xs k - xs i)
def OnZ (xs ys : Nat → Int) (i j k : Nat) : Prop :=
  crossZ xs ys i j k = 0 ∧ (xs i ≤ xs k ∨ xs j ≤ xs k) ∧ (xs k ≤ xs i ∨ xs k ≤ xs j) ∧ (ys i ≤ ys k ∨ ys j ≤ ys k) ∧ (ys k ≤ ys i ∨ ys k ≤ ys j)
def downZ (xs ys : Nat → Int) (i j k l : Nat) : Int := (xs j - xs i) * (ys l - ys k) - (ys j - ys i) * (xs l - xs k)
def upperZ (xs ys : Nat → Int) (i k l : Nat) : Int := (xs k - xs i) * (ys l - ys k) - (ys k - ys i) * (xs l - xs k)
def MeetZ (xs ys : Nat → Int) (i j k l : Nat) : Prop :=
  (downZ xs ys i j k l = 0 ∧ (OnZ xs ys i j k ∨ OnZ xs ys i j l ∨ OnZ xs ys k l i ∨ OnZ xs ys k l j)) ∨
  (downZ xs ys i j k l < 0 ∧ downZ xs ys i j k l ≤ upperZ xs ys i k l ∧ upperZ xs ys i k l ≤ 0 ∧ downZ xs ys i j k l ≤ crossZ xs ys i j k * -1 ∧ crossZ xs ys i j k * -1 ≤ 0) ∨
  (0 < downZ xs ys i j k l ∧ 0 ≤ upperZ xs ys i k l ∧ upperZ xs ys i k l ≤ downZ xs ys i j k l ∧ 0 ≤ crossZ xs ys i j k * -1 ∧ crossZ xs ys i j k * -1 ≤ downZ xs ys i j k l)
def WithinZ (xs ys : Nat → Int) (b o h t : Nat) : Prop :=
  (crossZ xs ys o h b > 0 ∧ crossZ xs ys o h t ≥ 0 ∧ crossZ xs ys o t b ≥ 0) ∨ (¬ crossZ xs ys o h b > 0 ∧ (crossZ xs ys o h t > 0 ∨ crossZ xs ys o t b > 0))

local macro_rules | `(tactic| walk_at "MYIX") => `(tactic| first | assumption | exact Closed.pv (by assumption) (by walk_at "MYIX") | exact Closed.nx (by assumption) (by walk_at "MYIX"))
local macro_rules | `(tactic| k_mem) => `(tactic| first | exact NodesIn.inst (by assumption) (by walk_at "MYIX") | exact NodesIn.dict (by assumption) (by walk_at "MYIX"))
local macro_rules | `(tactic| mul_fits) => `(tactic| first | exact SmallY.left (by assumption) (by walk_at "MYIX") (by walk_at "MYIX") _ | exact SmallY.right (by assumption) (by walk_at "MYIX") (by walk_at "MYIX") _)
local macro_rules | `(tactic| walk_at "compareOp Eq ref") => `(tactic| (k_here; (with_reducible show wpAny _ _ (compareOp CmpOp.Eq (Value.ref _) _) _ _ _); (refine cmp_ofEq ?_); k_dflt (refine' cmp_K ?k1 ?k2 ?k3 ?k4 ?k5 ?k6 ?k7 ?k8 ?_; (case k1 => ktr_units); (case k2 => k_asm); (case k3 => k_asm); (case k4 => k_inst); (case k5 => k_typeOf); (case k6 => k_is); (case k7 => k_is); (case k8 => k_is); k_whole)))
local macro_rules | `(tactic| walk_at "MYUSE") => `(tactic| ((case B => k_asm); (case F => k_asm); (case X => k_asm); (try (case N => k_asm)); (case T => k_asm); (case kk => first | exact rfl | assumption); (case d => ktr_room); (case u => ktr_units)))
local macro_rules | `(tactic| walk_at "eval Call") => `(tactic| (k_here; (with_reducible show wpAny _ _ (eval (Expr.Call (Expr.Name _ _) _ [] _) _) _ _ _); k_dflt (refine Call_ ?_)))
local macro_rules | `(tactic| walk_at "MYH") => `(tactic| first | assumption | exact RowsIn.cons (by walk_at "MYH"))
local macro_rules | `(tactic| k_mem) => `(tactic| exact RowsIn.row (by assumption) (by walk_at "MYIX"))
local macro_rules | `(tactic| mul_fits) => `(tactic| first | exact SmallYs.left (by assumption) (by walk_at "MYIX") (by walk_at "MYIX") _ | exact SmallYs.right (by assumption) (by walk_at "MYIX") (by walk_at "MYIX") _)

theorem cross_c {w : World} {mean : ExcName → Option Value} {mg mb : Str → Option Value} {news : Led} {xs ys : Nat → Int} {tx ty : Nat → Tok} {ra : Nat → Addr} {n : Nat} {i j k : Nat} (hR : RowsIn xs ys tx ty ra n news) (hY : SmallYs ys n) (hi : i < n) (hj : j < n) (hk' : k < n) :
    Does w mean mg mb 142 2 16 news [.ref (ra i), .ref (ra j), .ref (ra k)] (fun news' v => news = news' ∧ ∃ t, v = .int (crossZ xs ys i j k) t) := by
  unfold Does
  k_fill
  intro dp un gd cn cs a ccd cl outer A₀ base h₀ L m s Q E B F X N T hk hd hu hret
  refine wpAny_call ?_
  k_dflt ktr_enter
  k_steps
  all_goals (exact hret _ _ _ _ (by k_asm) (by k_asm) ⟨rfl, _, rfl⟩)
local macro_rules | `(tactic| walk_at "call ref") => `(tactic| (k_here; k_dflt (first
  | ((refine' does_use (cross_c ?q0 ?q1 ?q2 ?q3 ?q4) ?B ?F ?X ?N ?T ?kk ?d ?u ?_; (case N => k_asm); (case q0 => walk_at "MYH"); (case q1 => assumption); (case q2 => walk_at "MYIX"); (case q3 => walk_at "MYIX"); (case q4 => walk_at "MYIX"); (walk_at "MYUSE")); (intro r9 n9 h9 tk9 F9 N9 p9; obtain ⟨e9, t9, e9'⟩ := p9; subst e9 e9'; (try dsimp only); (try k_sweep))))))

theorem on_c {w : World} {mean : ExcName → Option Value} {mg mb : Str → Option Value} {news : Led} {xs ys : Nat → Int} {tx ty : Nat → Tok} {ra : Nat → Addr} {n : Nat} {i j k : Nat} (hR : RowsIn xs ys tx ty ra n news) (hY : SmallYs ys n) (hi : i < n) (hj : j < n) (hk' : k < n) :
    Does w mean mg mb 149 4 32 news [.ref (ra i), .ref (ra j), .ref (ra k)] (fun news' v => news = news' ∧ ∃ b, v = .bool b ∧ (b = true ↔ OnZ xs ys i j k)) := by
  unfold Does
  k_fill
  intro dp un gd cn cs a ccd cl outer A₀ base h₀ L m s Q E B F X N T hk hd hu hret
  refine wpAny_call ?_
  k_dflt ktr_enter
  k_steps
  all_goals (refine hret _ _ _ _ (by k_asm) (by k_asm) ⟨rfl, _, rfl, ?_⟩; unfold OnZ; (try simp only [decide_eq_true_eq, beq_iff_eq]); (repeat' split at *) <;> omega)
local macro_rules | `(tactic| walk_at "call ref") => `(tactic| (k_here; k_dflt (first
  | ((refine' does_use (cross_c ?q0 ?q1 ?q2 ?q3 ?q4) ?B ?F ?X ?N ?T ?kk ?d ?u ?_; (case N => k_asm); (case q0 => walk_at "MYH"); (case q1 => assumption); (case q2 => walk_at "MYIX"); (case q3 => walk_at "MYIX"); (case q4 => walk_at "MYIX"); (walk_at "MYUSE")); (intro r9 n9 h9 tk9 F9 N9 p9; obtain ⟨e9, t9, e9'⟩ := p9; subst e9 e9'; (try dsimp only); (try k_sweep)))
  | ((refine' does_use (on_c ?q0 ?q1 ?q2 ?q3 ?q4) ?B ?F ?X ?N ?T ?kk ?d ?u ?_; (case N => k_asm); (case q0 => walk_at "MYH"); (case q1 => assumption); (case q2 => walk_at "MYIX"); (case q3 => walk_at "MYIX"); (case q4 => walk_at "MYIX"); (walk_at "MYUSE")); (intro r9 n9 h9 tk9 F9 N9 p9; obtain ⟨e9, b9, e9', i9⟩ := p9; subst e9 e9'; (try dsimp only); (try k_sweep))))))

theorem meet_c {w : World} {mean : ExcName → Option Value} {mg mb : Str → Option Value} {news : Led} {xs ys : Nat → Int} {tx ty : Nat → Tok} {ra : Nat → Addr} {n : Nat} {i j k l : Nat} (hR : RowsIn xs ys tx ty ra n news) (hY : SmallYs ys n) (hi : i < n) (hj : j < n) (hk' : k < n) (hl : l < n) :
    Does w mean mg mb 156 6 48 news [.ref (ra i), .ref (ra j), .ref (ra k), .ref (ra l)] (fun news' v => news = news' ∧ ∃ b, v = .bool b ∧ (b = true ↔ MeetZ xs ys i j k l)) := by
  unfold Does
  k_fill
  intro dp un gd cn cs a ccd cl outer A₀ base h₀ L m s Q E B F X N T hk hd hu hret
  refine wpAny_call ?_
  k_dflt ktr_enter
  k_steps
  all_goals (refine hret _ _ _ _ (by k_asm) (news_tl (by assumption)) ⟨rfl, _, rfl, ?_⟩; unfold MeetZ downZ upperZ)
  all_goals first
    | (simp only [decide_eq_true_eq]; omega)
    | grind
theorem within_c {w : World} {mean : ExcName → Option Value} {mg mb : Str → Option Value} {news : Led} {xs ys : Nat → Int} {tx ty : Nat → Tok} {ra : Nat → Addr} {n : Nat} {b o h t : Nat} (hR : RowsIn xs ys tx ty ra n news) (hY : SmallYs ys n) (hb : b < n) (ho : o < n) (hh : h < n) (ht : t < n) :
    Does w mean mg mb 163 4 32 news [.ref (ra b), .ref (ra o), .ref (ra h), .ref (ra t)] (fun news' v => news = news' ∧ ∃ b', v = .bool b' ∧ (b' = true ↔ WithinZ xs ys b o h t)) := by
  unfold Does
  k_fill
  intro dp un gd cn cs a ccd cl outer A₀ base h₀ L m s Q E B F X N T hk hd hu hret
  refine wpAny_call ?_
  k_dflt ktr_enter
  k_steps
  all_goals (refine hret _ _ _ _ (by k_asm) (by k_asm) ⟨rfl, _, rfl, ?_⟩; unfold WithinZ; (try simp only [decide_eq_true_eq]); omega)
end Mine
end

section
open PySem PySem.W PySem.Calls PyProof.Rows
set_option Elab.async false
set_option maxRecDepth 100000
set_option maxHeartbeats 8000000
namespace Mine

abbrev Rg := List (Nat × Tok)
abbrev RV (R : Rg) : List Value := R.map fun q => .int (q.1 : Int) q.2
abbrev RowVs (ra : Nat → Addr) (n : Nat) : List Value := (List.range n).map fun i => .ref (ra i)
/-- the place of a ring -/
def Rg.at (R : Rg) (j : Nat) : Nat := (R.getD j (0, 0)).1
def RLt (R : Rg) (n : Nat) : Prop := ∀ q ∈ R, q.1 < n
theorem RLt.get {R : Rg} {n : Nat} (h : RLt R n) {j : Nat} (hj : j < R.length) : R.at j < n := by
  unfold Rg.at
  rw [List.getD_eq_getElem?_getD, List.getElem?_eq_getElem hj]
  exact h _ (List.getElem_mem hj)
section
variable {prog : Program} {w : World} {A : Around} {E : Value → Shared → Prop} {s : Shared} {h₀ : Heap} {L l : Addr} {m : Str → Option Value} {news : Led} {value slice : PySem.Expr} {R R' : Rg} {k : Nat} {idx : Int} {u : Tok} {ra : Nat → Addr} {n : Nat} {Q : Value → Shared → Prop}
theorem ring_at (N : News h₀ L s.heap news) (hm : (l, listOf (RV R).toArray k) ∈ news) (hl : R.length ≤ 100) (j : Nat) (hj : idx = (j : Int)) (hb : j < R.length) (h : ∀ t, Q (.int (R.at j : Int) t) s)
    (hs : subscripted slice false (.ref l) (.int idx u) = operate [.ref l, .int idx u] (getItem (.ref l) (.int idx u)) := by with_unfolding_all rfl) (hg : ∀ r, letTemporaryGo value (.ref l) r = pure () := by intro _; with_unfolding_all rfl) :
    wpAny (model prog w) A (subscriptTail value slice (.ref l) (.int idx u)) Q E s := by
  subst hj
  refine item_list (N.isList hm) (Int.natCast_nonneg j) (by omega) (x := .int (R.at j : Int) (R.getD j (0, 0)).2) ?_ (h _) hs hg
  simp only [Int.toNat_natCast, List.getElem?_toArray, List.getElem?_map, List.getElem?_eq_getElem hb, Option.map_some, Rg.at, List.getD_eq_getElem?_getD, Option.getD_some]
theorem ring_last (N : News h₀ L s.heap news) (hm : (l, listOf (RV R).toArray k) ∈ news) (hl : R.length ≤ 100) (hb : 0 < R.length) (h : ∀ t, Q (.int (R.at (R.length - 1) : Int) t) s)
    (hs : subscripted slice false (.ref l) (.int (-1) u) = operate [.ref l, .int (-1) u] (getItem (.ref l) (.int (-1) u)) := by with_unfolding_all rfl) :
    wpAny (model prog w) A (subscriptTail value slice (.ref l) (.int (-1) u)) Q E s := by
  refine kde_neg (N.isList hm) (by decide) (by decide) (j := R.length - 1) ?_ (v := .int (R.at (R.length - 1) : Int) (R.getD (R.length - 1) (0, 0)).2) ?_ (h _) hs
  · unfold seqIndex?
    simp only [List.length_map]
    have e : (-1 : Int) + (R.length : Int) = ((R.length - 1 : Nat) : Int) := by omega
    first
    | (simp [e]; omega)
    | skip
  · have hb' : R.length - 1 < R.length := by omega
    simp only [List.getElem?_map, List.getElem?_eq_getElem hb', Option.map_some, Rg.at, List.getD_eq_getElem?_getD, Option.getD_some]
theorem ring_last' (N : News h₀ L s.heap news) (hm : (l, listOf (RV R).toArray k) ∈ news) (hl : R.length ≤ 100) (hb : 0 < R.length) (hi : idx = -1) (h : ∀ t, Q (.int (R.at (R.length - 1) : Int) t) s)
    (hs : subscripted slice false (.ref l) (.int idx u) = operate [.ref l, .int idx u] (getItem (.ref l) (.int idx u)) := by with_unfolding_all rfl) :
    wpAny (model prog w) A (subscriptTail value slice (.ref l) (.int idx u)) Q E s := by
  subst hi
  exact ring_last N hm hl hb h hs
theorem row_at (N : News h₀ L s.heap news) (hm : (l, listOf (RowVs ra n).toArray k) ∈ news) (hn : n ≤ 100) (j : Nat) (hj : idx = (j : Int)) (hb : j < n) (h : Q (.ref (ra j)) s)
    (hs : subscripted slice false (.ref l) (.int idx u) = operate [.ref l, .int idx u] (getItem (.ref l) (.int idx u)) := by with_unfolding_all rfl) (hg : ∀ r, letTemporaryGo value (.ref l) r = pure () := by intro _; with_unfolding_all rfl) :
    wpAny (model prog w) A (subscriptTail value slice (.ref l) (.int idx u)) Q E s := by
  subst hj
  refine item_list (N.isList hm) (Int.natCast_nonneg j) (by omega) (x := .ref (ra j)) ?_ h hs hg
  simp [hb]
theorem ring_len (N : News h₀ L s.heap news) (hm : (l, listOf (RV R).toArray k) ∈ news) (hl : R.length ≤ 100) (h : ∀ t tk, Q (.int (R.length : Int) t) { s with toks := tk }) : wpAny (model prog w) A (call (.builtin "len") [.ref l]) Q E s := by
  refine len_list (N.isList hm) (by simp only [List.size_toArray, List.length_map]; omega) ?_
  have e : ((RV R).toArray.size : Int) = (R.length : Int) := by simp
  rw [e]
  exact h _ _
theorem mod_nat {a b : Int} {t u : Tok} (i j : Nat) (ha : a = (i : Int)) (hb : b = (j : Int)) (hj : 0 < j) (h : ∀ t tk, Q (.int ((i % j : Nat) : Int) t) { s with toks := tk }) : wpAny (model prog w) A (binaryOp .Mod (.int a t) (.int b u)) Q E s := by
  subst ha hb
  refine mod_int' (by omega) ?_
  have e : Int.fmod (i : Int) (j : Int) = ((i % j : Nat) : Int) := by
    rw [Int.fmod_eq_emod_of_nonneg _ (Int.natCast_nonneg j)]
    exact (Int.natCast_emod i j).symm
  rw [e]
  exact h _ _
theorem sub_two {m : Nat} (h : 2 ≤ m) : (m : Int) - 2 = ((m - 2 : Nat) : Int) := by omega
theorem pred_cast {k : Nat} : ((k + 1 : Nat) : Int) - 1 = (k : Int) := by omega
theorem zero_pred : ((0 : Nat) : Int) - 1 = -1 := by omega
theorem succ_cast {k : Nat} : (k : Int) + 1 = ((k + 1 : Nat) : Int) := by omega
theorem pick_from (vs : List Value) (j : Nat) : (slicePick vs.toArray (some (j : Int)) none none).toList = vs.drop j := by
  rw [kms_pick_eq]
  simp only [kms_pick, kms_lo, kms_hi, if_neg (show ¬ ((j : Int) < 0) by omega), Int.toNat_natCast, kmk_drop_min]
  rw [List.take_of_length_le]
  rw [List.length_drop]
  omega
theorem pick_upto (vs : List Value) (j : Nat) : (slicePick vs.toArray none (some (j : Int)) none).toList = vs.take j := by
  rw [kms_pick_eq]
  simp only [kms_pick, kms_lo, kms_hi, if_neg (show ¬ ((j : Int) < 0) by omega), Int.toNat_natCast, List.drop_zero, Nat.sub_zero, kmk_take_min]
theorem ring_from {lo : Int} {tl : Tok} (F : Fr h₀ L s.heap m) (N : News h₀ L s.heap news) (hm : (l, listOf (RV R).toArray k) ∈ news) (hl : R.length ≤ 100) (j : Nat) (hj : lo = (j : Int))
    (h : ∀ D h', Fr h₀ L h' m → News h₀ L h' ((D, listOf (RV (R.drop j)).toArray 0) :: news) → (∀ p ∈ news, p.1 < D) → Q (.ref D) { s with heap := h' })
    (hs : subscripted slice false (.ref l) (.ref s.heap.objs.size) = operate [.ref s.heap.objs.size, .ref l] (getItem (.ref l) (.ref s.heap.objs.size))) (ht : ∀ r, letTemporaryGo value (.ref l) r = pure ()) :
    wpAny (model prog w) A (subscriptTail value slice (.ref l) (.ref s.heap.objs.size)) Q E { s with heap := s.heap.push { cls := .type "slice", data := .fields #[.int lo tl, .none, .none] } } := by
  subst hj
  exact kmk_slice_lit F N (N.isList hm) (.int _ _) .none (by rw [pick_from]; simp [List.map_drop]) h hs ht (by simp only [List.size_toArray, List.length_map, sizeLine_eq]; omega)
theorem ring_upto {hi : Int} {tl : Tok} (F : Fr h₀ L s.heap m) (N : News h₀ L s.heap news) (hm : (l, listOf (RV R).toArray k) ∈ news) (hl : R.length ≤ 100) (j : Nat) (hj : hi = (j : Int))
    (h : ∀ D h', Fr h₀ L h' m → News h₀ L h' ((D, listOf (RV (R.take j)).toArray 0) :: news) → (∀ p ∈ news, p.1 < D) → Q (.ref D) { s with heap := h' })
    (hs : subscripted slice false (.ref l) (.ref s.heap.objs.size) = operate [.ref s.heap.objs.size, .ref l] (getItem (.ref l) (.ref s.heap.objs.size))) (ht : ∀ r, letTemporaryGo value (.ref l) r = pure ()) :
    wpAny (model prog w) A (subscriptTail value slice (.ref l) (.ref s.heap.objs.size)) Q E { s with heap := s.heap.push { cls := .type "slice", data := .fields #[.none, .int hi tl, .none] } } := by
  subst hj
  exact kmk_slice_lit F N (N.isList hm) .none (.int _ _) (by rw [pick_upto]; simp [List.map_take]) h hs ht (by simp only [List.size_toArray, List.length_map, sizeLine_eq]; omega)
theorem ring_add {l2 : Addr} {k2 : Nat} (F : Fr h₀ L s.heap m) (N : News h₀ L s.heap news) (hm : (l, listOf (RV R).toArray k) ∈ news) (hm2 : (l2, listOf (RV R').toArray k2) ∈ news) (hl : R.length ≤ 100) (hl2 : R'.length ≤ 100)
    (h : ∀ D h', Fr h₀ L h' m → News h₀ L h' ((D, listOf (RV (R ++ R')).toArray 0) :: news) → (∀ p ∈ news, p.1 < D) → Q (.ref D) { s with heap := h' }) :
    wpAny (model prog w) A (binaryOp .Add (.ref l) (.ref l2)) Q E s := by
  refine add_lists F N (N.isList hm) (N.isList hm2) (fun h' F' N' => h _ h' F' ?_ fun p hp => Heap.lt_size (N p hp).1) (by simp only [List.length_map, sizeLine_eq]; omega)
  have e : RV R ++ RV R' = RV (R ++ R') := by simp
  rw [← e]
  exact N'
theorem row_ne {a b : Addr} {x1 y1 x2 y2 : Int} {t1 u1 t2 u2 : Tok} (N : News h₀ L s.heap news) (ma : (a, tupO [.int x1 t1, .int y1 u1]) ∈ news) (mb : (b, tupO [.int x2 t2, .int y2 u2]) ∈ news) (hu : A.units + 64 < cLine)
    (h : Q (.bool (decide (¬ (x1 = x2 ∧ y1 = y2)))) s) : wpAny (model prog w) A (compareOp .NotEq (.ref a) (.ref b)) Q E s := by
  refine ne_dataH (reads_tuple_at (News.get N ma) rfl rfl (ReadsAll.cons (Reads.int _ _) (ReadsAll.cons (Reads.int _ _) ReadsAll.nil))) (reads_tuple_at (News.get N mb) rfl rfl (ReadsAll.cons (Reads.int _ _) (ReadsAll.cons (Reads.int _ _) ReadsAll.nil))) rfl rfl hu ?_
  have e : (!PyData.eqv (.tuple [.int x1, .int y1]) (.tuple [.int x2, .int y2])) = decide (¬ (x1 = x2 ∧ y1 = y2)) := by
    simp only [PyData.eqv, PyData.eqvAll, Bool.and_true]
    by_cases h1 : x1 = x2 <;> by_cases h2 : y1 = y2 <;> simp [h1, h2]
  rw [e]
  exact h
/-- an append to any list of the ledger -/
theorem append_gen {vs : List Value} {x : Value} (F : Fr h₀ L s.heap m) (N : News h₀ L s.heap news) (hm : (l, listOf vs.toArray k) ∈ news) (hl : vs.length ≤ 1000)
    (h : ∀ h', Fr h₀ L h' m → News h₀ L h' (setL l (listOf (vs ++ [x]).toArray (k + 1)) news) → Q .none { s with heap := h' }) :
    wpAny (model prog w) A (call (.builtin "list.append") [.ref l, x]) Q E s := by
  refine append_K F (news_cut N hm) (upd_last cut_ne) (fun h' F' N' => h h' F' ?_) (by simp only [List.size_toArray, sizeLine_eq]; omega)
  have N2 := news_paste N'
  simpa using N2
end
end Mine
end

section
open PySem PySem.W PySem.Calls PyProof.Rows
namespace Mine
theorem calmE10 {w : World} {A : Around} {e : Env} {Q : Flow → Shared → Prop} {E : Value → Shared → Prop} {s : Shared}
    (h : wpAny (model PySem.Challenge.rw_et5009_01.row.prog w) A (execs [] e) Q E s) : wpAny (model PySem.Challenge.rw_et5009_01.row.prog w) A (execs [] e) Q E s := by
  w_top off
  first
    | (walk1; fail "calm")
    | exact h
end Mine
end

section
open PySem PySem.W PySem.Calls PyProof.Rows
set_option Elab.async false
set_option maxRecDepth 100000
set_option maxHeartbeats 8000000
namespace Mine

def rot (R : Rg) : Rg := R.drop 1 ++ R.take 1
/-- the cut's test on the list -/
def WCond (xs ys : Nat → Int) (R : Rg) : Prop :=
  ¬ (xs (R.at (R.length - 1)) = xs (R.at (2 % R.length)) ∧ ys (R.at (R.length - 1)) = ys (R.at (2 % R.length))) ∧
  MeetZ xs ys (R.at (R.length - 1)) (R.at 0) (R.at (1 % R.length)) (R.at (2 % R.length)) ∧
  WithinZ xs ys (R.at ((R.length - 2) % R.length)) (R.at (R.length - 1)) (R.at 0) (R.at (2 % R.length)) ∧
  WithinZ xs ys (R.at (1 % R.length)) (R.at (2 % R.length)) (R.at (3 % R.length)) (R.at (R.length - 1))
theorem wpos {xs ys : Nat → Int} {R : Rg} {b1 b2 b3 : Bool} (h : WCond xs ys R → 4 ≤ R.length) (h0 : ¬ (xs (R.at (R.length - 1)) = xs (R.at (2 % R.length)) ∧ ys (R.at (R.length - 1)) = ys (R.at (2 % R.length))))
    (i1 : b1 = true ↔ MeetZ xs ys (R.at (R.length - 1)) (R.at 0) (R.at (1 % R.length)) (R.at (2 % R.length))) (e1 : b1 = true)
    (i2 : b2 = true ↔ WithinZ xs ys (R.at ((R.length - 2) % R.length)) (R.at (R.length - 1)) (R.at 0) (R.at (2 % R.length))) (e2 : b2 = true)
    (i3 : b3 = true ↔ WithinZ xs ys (R.at (1 % R.length)) (R.at (2 % R.length)) (R.at (3 % R.length)) (R.at (R.length - 1))) (e3 : b3 = true) : 2 < R.length :=
  Nat.lt_of_lt_of_le (by decide) (h ⟨h0, i1.mp e1, i2.mp e2, i3.mp e3⟩)

local macro_rules | `(tactic| walk_at "MYIX") => `(tactic| first | assumption | exact Closed.pv (by assumption) (by walk_at "MYIX") | exact Closed.nx (by assumption) (by walk_at "MYIX"))
local macro_rules | `(tactic| k_mem) => `(tactic| first | exact NodesIn.inst (by assumption) (by walk_at "MYIX") | exact NodesIn.dict (by assumption) (by walk_at "MYIX"))
local macro_rules | `(tactic| mul_fits) => `(tactic| first | exact SmallY.left (by assumption) (by walk_at "MYIX") (by walk_at "MYIX") _ | exact SmallY.right (by assumption) (by walk_at "MYIX") (by walk_at "MYIX") _)
local macro_rules | `(tactic| walk_at "compareOp Eq ref") => `(tactic| (k_here; (with_reducible show wpAny _ _ (compareOp CmpOp.Eq (Value.ref _) _) _ _ _); (refine cmp_ofEq ?_); k_dflt (refine' cmp_K ?k1 ?k2 ?k3 ?k4 ?k5 ?k6 ?k7 ?k8 ?_; (case k1 => ktr_units); (case k2 => k_asm); (case k3 => k_asm); (case k4 => k_inst); (case k5 => k_typeOf); (case k6 => k_is); (case k7 => k_is); (case k8 => k_is); k_whole)))
local macro_rules | `(tactic| walk_at "MYUSE") => `(tactic| ((case B => k_asm); (case F => k_asm); (case X => k_asm); (try (case N => k_asm)); (case T => k_asm); (case kk => first | exact rfl | assumption); (case d => ktr_room); (case u => ktr_units)))
local macro_rules | `(tactic| walk_at "eval Call") => `(tactic| (k_here; (with_reducible show wpAny _ _ (eval (Expr.Call (Expr.Name _ _) _ [] _) _) _ _ _); k_dflt (refine Call_ ?_)))
local macro_rules | `(tactic| walk_at "MYH") => `(tactic| first | assumption | exact RowsIn.cons (by walk_at "MYH"))
local macro_rules | `(tactic| k_mem) => `(tactic| exact RowsIn.row (by assumption) (by walk_at "MYIX"))
local macro_rules | `(tactic| mul_fits) => `(tactic| first | exact SmallYs.left (by assumption) (by walk_at "MYIX") (by walk_at "MYIX") _ | exact SmallYs.right (by assumption) (by walk_at "MYIX") (by walk_at "MYIX") _)
local macro_rules | `(tactic| walk_at "MYENTER") => `(tactic| (refine' code_def ?k1 ?k2 ?k3 ?k4 ?k5 ?kA ?kF ?kK ?k6 ?k7 ?k8 ?k9 ?kB ?_ ?c2 ?c3 ?c4 ?c5; (case kA => exact rfl); (case kF => exact rfl); (case kK => assumption); (case k1 => k_asm); (case k2 => k_asm); (case k3 => k_asm); (case k4 => k_asm); (case k5 => k_asm); (case k6 => k_is); (case k7 => k_is); (case k8 => ktr_room); (case k9 => first | exact BindsTo.of_eq rfl | exact binds_K (by k_in) rfl (by k_is) rfl rfl rfl); (case c5 => decide); (case kB => exact locs rfl); (case c2 => exact rfl); (case c3 => exact rfl); (case c4 => exact rfl); k_whole; intro g' L' h' FG' F' N' B' X' T'; (try dsimp only); (try k_fold)))
local macro_rules | `(tactic| walk_at "MYPS") => `(tactic| (intro q hq; simp only [List.mem_cons, List.not_mem_nil, or_false] at hq; (first | (subst hq; rfl) | (rcases hq with e | e <;> (subst e; rfl)) | (rcases hq with e | e | e <;> (subst e; rfl)) | (rcases hq with e | e | e | e <;> (subst e; rfl)) | (rcases hq with e | e | e | e | e <;> (subst e; rfl)))))
local macro_rules | `(tactic| walk_at "MYSAME") => `(tactic| (intro z h2 h3; simp only [List.forall_mem_cons, List.not_mem_nil, false_implies, implies_true, and_true, ne_eq] at h2; simp only [List.contains_cons, List.contains_nil, Bool.or_false, Bool.or_eq_false_iff, beq_eq_false_iff_ne, ne_eq] at h3; simp [h2, h3, kstB]; done))
local macro_rules | `(tactic| walk_at "MYSTEPS") => `(tactic| repeat' (first | ((fail_if_success (with_reducible show wpAny _ _ (exec (Stmt.While _ _ _ _) _) _ _ _)); (fail_if_success (with_reducible show KswEnd _ _ _ _ _ _ _ _ _ _ _ _)); (first | (k_unfold; (try dsimp only)) | (k_end; wrow_close) | walk1 | (dsimp only; walk1) | (leave1; walk_say "STEP leave1"; try dsimp only))) | fail "no step"))
local macro_rules | `(tactic| walk_at "MYSTEPS2") => `(tactic| repeat' (first | ((fail_if_success (with_reducible show wpAny _ _ (exec (Stmt.While _ _ _ _) _) _ _ _)); (fail_if_success (with_reducible show KswEnd _ _ _ _ _ _ _ _ _ _ _ _)); (fail_if_success (with_reducible show wpAny _ _ (subscriptTail _ _ (Value.ref _) (Value.int 2 _)) _ _ _)); (first | (k_unfold; (try dsimp only)) | (k_end; wrow_close) | walk1 | (dsimp only; walk1) | (leave1; walk_say "STEP leave1"; try dsimp only))) | fail "no step"))
local macro_rules | `(tactic| walk_at "compareOp NotEq ref ref") => `(tactic| (k_here; (with_reducible show wpAny _ _ (compareOp CmpOp.NotEq (Value.ref _) (Value.ref _)) _ _ _); k_dflt (refine' row_ne ?N ?a ?b ?u ?_; (case N => k_asm); (case a => k_mem); (case b => k_mem); (case u => ktr_units); k_whole)))
local macro_rules | `(tactic| walk_at "MYMEM") => `(tactic| first | with_reducible assumption | (with_reducible refine List.mem_cons_of_mem _ ?_; walk_at "MYMEM") | with_reducible exact List.mem_cons_self)
local macro_rules | `(tactic| walk_at "MYLEN") => `(tactic| first | omega | ((simp only [List.length_append, List.length_drop, List.length_take, Nat.min_def]); (repeat' split) <;> omega))
local macro_rules | `(tactic| walk_at "MYPOS") => `(tactic| first | omega | exact Nat.mod_lt _ (by omega) | ((simp only [List.length_append, List.length_drop, List.length_take, Nat.min_def]); (repeat' split) <;> omega))
local macro_rules | `(tactic| walk_at "MYRING") => `(tactic| ((case N => k_asm); (case m => walk_at "MYMEM"); (case l => walk_at "MYLEN")))
local macro_rules | `(tactic| walk_at "MYSUB") => `(tactic| (k_here; (with_reducible show wpAny _ _ (subscriptTail _ _ (Value.ref _) (Value.int _ _)) _ _ _); k_dflt (first
  | ((with_reducible show wpAny _ _ (subscriptTail _ _ (Value.ref _) (Value.int (-1) _)) _ _ _); refine' ring_last ?N ?m ?l ?b ?_ ?s; (walk_at "MYRING"); (case b => walk_at "MYLEN"); (case s => with_unfolding_all rfl); k_whole)
  | (refine' ring_at ?N ?m ?l 0 ?j ?b ?_ ?s ?g; (walk_at "MYRING"); (case j => exact rfl); (case b => walk_at "MYPOS"); (case s => with_unfolding_all rfl); (case g => (intro _; with_unfolding_all rfl)); k_whole)
  | (refine' ring_at ?N ?m ?l 2 ?j ?b ?_ ?s ?g; (walk_at "MYRING"); (case j => exact rfl); (case b => walk_at "MYPOS"); (case s => with_unfolding_all rfl); (case g => (intro _; with_unfolding_all rfl)); k_whole)
  | (refine' ring_at ?N ?m ?l _ ?j ?b ?_ ?s ?g; (walk_at "MYRING"); (case j => exact rfl); (case b => walk_at "MYPOS"); (case s => with_unfolding_all rfl); (case g => (intro _; with_unfolding_all rfl)); k_whole)
  | (refine' row_at ?N ?m ?l _ ?j ?b ?_ ?s ?g; (walk_at "MYRING"); (case j => exact rfl); (case b => walk_at "MYIX"); (case s => with_unfolding_all rfl); (case g => (intro _; with_unfolding_all rfl)); k_whole)); (try intro t')))
local macro_rules | `(tactic| walk_at "subscriptTail") => `(tactic| (k_here; (with_reducible show wpAny _ _ (subscriptTail _ _ (Value.ref _) (Value.int _ _)) _ _ _); walk_at "MYSUB"))
local macro_rules | `(tactic| walk_at "subscriptTail Name") => `(tactic| (k_here; (with_reducible show wpAny _ _ (subscriptTail _ _ (Value.ref _) (Value.int _ _)) _ _ _); walk_at "MYSUB"))
local macro_rules | `(tactic| walk_at "subscriptTail Name Constant ref int") => `(tactic| (k_here; (with_reducible show wpAny _ _ (subscriptTail _ _ (Value.ref _) (Value.int _ _)) _ _ _); walk_at "MYSUB"))
local macro_rules | `(tactic| walk_at "subscriptTail Name Slice ref ref") => `(tactic| (k_here; k_dflt (first
  | (refine' ring_from ?F ?N ?m ?l 1 ?j ?_ ?s ?t; (case F => k_asm); (walk_at "MYRING"); (case j => exact rfl); (case s => with_unfolding_all rfl); (case t => (intro _; with_unfolding_all rfl)); k_whole)
  | (refine' ring_from ?F ?N ?m ?l 2 ?j ?_ ?s ?t; (case F => k_asm); (walk_at "MYRING"); (case j => exact rfl); (case s => with_unfolding_all rfl); (case t => (intro _; with_unfolding_all rfl)); k_whole)
  | (refine' ring_upto ?F ?N ?m ?l 1 ?j ?_ ?s ?t; (case F => k_asm); (walk_at "MYRING"); (case j => exact rfl); (case s => with_unfolding_all rfl); (case t => (intro _; with_unfolding_all rfl)); k_whole)); intro D' h' F' N' l1; (try k_sweep)))
local macro_rules | `(tactic| walk_at "call builtin:len") => `(tactic| (k_here; k_dflt (refine' ring_len ?N ?m ?l ?_; (walk_at "MYRING"); k_whole); intro t' tk'))
local macro_rules | `(tactic| walk_at "binaryOp Mod int int") => `(tactic| (k_here; k_dflt (first
  | (refine' mod_nat 1 _ ?a ?b ?c ?_; (case a => exact rfl); (case b => exact rfl); (case c => walk_at "MYLEN"); k_whole)
  | (refine' mod_nat 2 _ ?a ?b ?c ?_; (case a => exact rfl); (case b => exact rfl); (case c => walk_at "MYLEN"); k_whole)
  | (refine' mod_nat 3 _ ?a ?b ?c ?_; (case a => exact rfl); (case b => exact rfl); (case c => walk_at "MYLEN"); k_whole)
  | (refine' mod_nat _ _ ?a ?b ?c ?_; (case b => exact rfl); (case a => exact sub_two (by walk_at "MYLEN")); (case c => walk_at "MYLEN"); k_whole)); intro t' tk'))
local macro_rules | `(tactic| walk_at "binaryOp Add ref ref") => `(tactic| (k_here; k_dflt (refine' ring_add ?F ?N ?m ?m2 ?l ?l2 ?_; (case F => k_asm); (case N => k_asm); (case m => walk_at "MYMEM"); (case m2 => walk_at "MYMEM"); (case l => walk_at "MYLEN"); (case l2 => walk_at "MYLEN"); k_whole); intro D' h' F' N' l1; (try k_sweep)))
local macro_rules | `(tactic| walk_at "MYIX") => `(tactic| exact RLt.get (by assumption) (by walk_at "MYPOS"))
local macro_rules | `(tactic| walk_at "call ref") => `(tactic| (k_here; k_dflt (first
  | ((refine' does_use (meet_c ?q0 ?q1 ?q2 ?q3 ?q4 ?q5) ?B ?F ?X ?N ?T ?kk ?d ?u ?_; (case N => k_asm); (case q0 => walk_at "MYH"); (case q1 => assumption); (case q2 => walk_at "MYIX"); (case q3 => walk_at "MYIX"); (case q4 => walk_at "MYIX"); (case q5 => walk_at "MYIX"); (walk_at "MYUSE")); (intro r9 n9 h9 tk9 F9 N9 p9; obtain ⟨e9, b9, e9', i9⟩ := p9; subst e9 e9'; (try dsimp only); (try k_sweep)))
  | ((refine' does_use (within_c ?q0 ?q1 ?q2 ?q3 ?q4 ?q5) ?B ?F ?X ?N ?T ?kk ?d ?u ?_; (case N => k_asm); (case q0 => walk_at "MYH"); (case q1 => assumption); (case q2 => walk_at "MYIX"); (case q3 => walk_at "MYIX"); (case q4 => walk_at "MYIX"); (case q5 => walk_at "MYIX"); (walk_at "MYUSE")); (intro r9 n9 h9 tk9 F9 N9 p9; obtain ⟨e9, b9, e9', i9⟩ := p9; subst e9 e9'; (try dsimp only); (try k_sweep))))))
abbrev SC := Addr × (Nat × Tok) × (Nat × Tok) × (Nat × Tok)
def CutsIn (cl : Addr) (k : Nat) (cs : List SC) (news : Led) : Prop :=
  (cl, listOf (cs.map fun c => Value.ref c.1).toArray k) ∈ news ∧ ∀ c ∈ cs, (c.1, tupO [.int (c.2.1.1 : Int) c.2.1.2, .int (c.2.2.1.1 : Int) c.2.2.1.2, .int (c.2.2.2.1 : Int) c.2.2.2.2]) ∈ news
theorem CutsIn.lst {cl : Addr} {k : Nat} {cs : List SC} {news : Led} (h : CutsIn cl k cs news) : (cl, listOf (cs.map fun c => Value.ref c.1).toArray k) ∈ news := h.1
theorem CutsIn.sub {cl : Addr} {k : Nat} {cs : List SC} {news news' : Led} (h : CutsIn cl k cs news) (S : ∀ p ∈ news, p ∈ news') : CutsIn cl k cs news' := ⟨S _ h.1, fun c hc => S _ (h.2 c hc)⟩
theorem RowsIn.sub {xs ys : Nat → Int} {tx ty : Nat → Tok} {ra : Nat → Addr} {n : Nat} {news news' : Led} (h : RowsIn xs ys tx ty ra n news) (S : ∀ p ∈ news, p ∈ news') : RowsIn xs ys tx ty ra n news' := fun k hk => S _ (h k hk)
section
variable {prog : Program} {w : World} {A : Around} {E : Value → Shared → Prop} {s : Shared} {h₀ : Heap} {L cl rg t : Addr} {m : Str → Option Value} {led : Led} {R : Rg} {k k2 : Nat} {cs : List SC} {a p b : Nat} {ta tp tb : Tok} {Q : Value → Shared → Prop}
theorem append_cut (F : Fr h₀ L s.heap m) (N : News h₀ L s.heap ((t, tupO [.int (a : Int) ta, .int (p : Int) tp, .int (b : Int) tb]) :: led)) (hC : CutsIn cl k cs led) (hs : cs.length ≤ 100) (hrg : (rg, listOf (RV R).toArray k2) ∈ led) (hne : rg ≠ cl)
    (h : ∀ h' led', Fr h₀ L h' m → News h₀ L h' led' → CutsIn cl (k + 1) (cs ++ [(t, (a, ta), (p, tp), (b, tb))]) led' → (rg, listOf (RV R).toArray k2) ∈ led' → (∀ p ∈ led, p.1 ≠ cl → p ∈ led') → Q .none { s with heap := h' }) :
    wpAny (model prog w) A (call (.builtin "list.append") [.ref cl, .ref t]) Q E s := by
  have hl : (cl, listOf (cs.map fun c => Value.ref c.1).toArray k) ∈ (t, tupO [.int (a : Int) ta, .int (p : Int) tp, .int (b : Int) tb]) :: led := .tail _ hC.1
  refine append_gen F N hl (by simp only [List.length_map]; omega) fun h' F' N' => ?_
  have nt : t ≠ cl := news_ne N (.head _) hl (by intro z; simp at z)
  refine h h' _ F' N' ⟨?_, fun c hc => ?_⟩ (mem_setL (.tail _ hrg) hne) fun q hq hn => mem_setL (.tail _ hq) hn
  · have := mem_setL_self (o' := listOf ((cs.map fun (c : SC) => Value.ref c.1) ++ [Value.ref t]).toArray (k + 1)) hl
    simpa using this
  · rcases List.mem_append.mp hc with q | q
    · exact mem_setL (.tail _ (hC.2 c q)) (news_ne N (.tail _ (hC.2 c q)) hl (by intro z; simp at z))
    · rw [List.mem_singleton.mp q]
      exact mem_setL (.head _) nt
end
local macro_rules | `(tactic| walk_at "call builtin:list.append") => `(tactic| (k_here; k_dflt (refine' append_cut ?F ?N ?C ?l ?g ?ne ?_; (case F => k_asm); (case N => k_asm); (case C => k_asm); (case l => omega); (case g => walk_at "MYMEM"); (case ne => k_asm); k_whole); intro h' n' F' N' C' G' S'; (try k_sweep)))
local macro_rules | `(tactic| k_mem) => `(tactic| exact CutsIn.lst (by assumption))
abbrev SCn (c : SC) : Nat × Nat × Nat := (c.2.1.1, c.2.2.1.1, c.2.2.2.1)
/-- led, rg, k2, R, stop, tok, k3, cuts -/
abbrev WS := Led × Addr × Nat × Rg × Nat × Tok × Nat × List SC
theorem sweep_c {w : World} {mean : ExcName → Option Value} {mg mb : Str → Option Value} {news : Led} {xs ys : Nat → Int} {tx ty : Nat → Tok} {ra : Nat → Addr} {n : Nat} {rw rg : Addr} {k1 k2 : Nat} {R : Rg} (hR : RowsIn xs ys tx ty ra n news) (hY : SmallYs ys n) (hn : n ≤ 9) (hrw : (rw, listOf (RowVs ra n).toArray k1) ∈ news) (hrg : (rg, listOf (RV R).toArray k2) ∈ news)
    (I : Rg → Nat → List SC → Prop) (μ : Rg → Nat → Nat) (Post : Rg → List SC → Prop) (hI : I R (R.at 0) [])
    (hc : ∀ R e cs, I R e cs → 2 ≤ R.length ∧ R.length ≤ 9 ∧ RLt R n ∧ cs.length ≤ 9)
    (cut : ∀ R e cs t ta tp tb, I R e cs → WCond xs ys R → 4 ≤ R.length ∧
      ((rot (R.drop 2)).at 0 = R.at 2 → Post (rot (R.drop 2)) (cs ++ [(t, (R.at (R.length - 1), ta), (R.at 0, tp), (R.at 2, tb))])) ∧
      ((rot (R.drop 2)).at 0 ≠ R.at 2 → I (rot (R.drop 2)) (R.at 2) (cs ++ [(t, (R.at (R.length - 1), ta), (R.at 0, tp), (R.at 2, tb))]) ∧ μ (rot (R.drop 2)) (R.at 2) < μ R e))
    (go : ∀ R e cs, I R e cs → ¬ WCond xs ys R → ((rot R).at 0 = e → Post (rot R) cs) ∧ ((rot R).at 0 ≠ e → I (rot R) e cs ∧ μ (rot R) e < μ R e)) :
    Does w mean mg mb 170 8 200 news [.ref rw, .ref rg] (fun news' v => ∃ t rg' k R' cl k' cs, v = .ref t ∧ (t, tupO [.ref rg', .ref cl]) ∈ news' ∧ (rg', listOf (RV R').toArray k) ∈ news' ∧ CutsIn cl k' cs news' ∧ (∀ p ∈ news, p ∈ news') ∧ Post R' cs) := by
  have hl : 2 ≤ R.length := (hc _ _ _ hI).1
  have hl2 : R.length ≤ 9 := (hc _ _ _ hI).2.1
  unfold Does
  k_fill
  intro dp un gd cn cs a ccd cl outer A₀ base h₀ L m s Q E B F X N T hk hd hu hret
  refine wpAny_call ?_
  k_dflt (walk_at "MYENTER")
  walk_at "MYSTEPS"
  rename Fr _ _ _ _ => F1
  rename News _ _ _ _ => N1
  rename ∀ p ∈ news, p.1 < _ => l1
  rename_i cl hA hB t0 hC'
  have hne : ∀ p ∈ news, p.1 ≠ cl := fun p hp => Nat.ne_of_lt (l1 p hp)
  refine ksw_while (σ := WS) (fun c => c.1) (fun c => [(Str.ofString "ring", .ref c.2.1), (Str.ofString "stop", .int (c.2.2.2.2.1 : Int) c.2.2.2.2.2.1), (Str.ofString "cuts", .ref cl), (Str.ofString "rows", .ref rw)])
    (fun c => (∀ p ∈ news, p ∈ c.1) ∧ (c.2.1, listOf (RV c.2.2.2.1).toArray c.2.2.1) ∈ c.1 ∧ c.2.1 ≠ cl ∧ CutsIn cl c.2.2.2.2.2.2.1 c.2.2.2.2.2.2.2 c.1) [Str.ofString "many", Str.ofString "a", Str.ofString "p", Str.ofString "q", Str.ofString "b"] (fun c => I c.2.2.2.1 c.2.2.2.2.1 c.2.2.2.2.2.2.2) (fun c => μ c.2.2.2.1 c.2.2.2.2.1)
    (_, rg, k2, R, R.at 0, t0, 0, []) F1 N1 ⟨fun p hp => .tail _ hp, .tail _ hrg, hne _ hrg, .head _, fun c hc => nomatch hc⟩ ?_ hI ?_
  · walk_at "MYPS"
  clear F1 N1 hI hl hl2
  rintro ⟨led1, rg1, k21, R1, e, te, k3, cs1⟩ u h1 tk1 ⟨hS, hrg1, hrgne, hC1⟩ hI F1 N1
  obtain ⟨hl, hl2, hlt, hcs⟩ := hc _ _ _ hI
  dsimp only at hS hrg1 hrgne hC1 hI F1 N1 hl hl2 hlt hcs
  k_fold
  have hR1 := hR.sub hS
  have h4 : WCond xs ys R1 → 4 ≤ R1.length := fun q => (cut R1 e cs1 0 0 0 0 hI q).1
  have hrw1 := hS _ hrw
  walk_at "MYSTEPS2"
  · have hw : WCond xs ys R1 := by
      refine ⟨by assumption, ?_, ?_, ?_⟩
      · rename _ = true ↔ MeetZ _ _ _ _ _ _ => j
        exact j.mp (by assumption)
      · rename _ = true ↔ WithinZ _ _ (R1.at ((R1.length - 2) % R1.length)) _ _ _ => j
        exact j.mp (by assumption)
      · rename _ = true ↔ WithinZ _ _ (R1.at (1 % R1.length)) _ _ _ => j
        exact j.mp (by assumption)
    have h4' := h4 hw
    walk_at "MYSTEPS"
    · rename CutsIn _ _ (cs1 ++ _) _ => C7
      rename ∀ p ∈ led1, p.1 ≠ cl → p ∈ _ => S7
      rename (_ : Int) = _ => hq
      have hq' : (rot (R1.drop 2)).at 0 = R1.at 2 := by unfold rot; omega
      refine hret _ _ _ _ (by k_asm) (by k_asm) ⟨_, _, _, _, _, _, _, rfl, .head _, .tail _ (.head _), C7.sub ?_, ?_, (cut R1 e cs1 _ _ _ _ hI hw).2.1 hq'⟩
      · intro p hp
        repeat (first | exact hp | refine List.Mem.tail _ ?_)
      · intro p hp
        have hp2 := S7 p (hS p hp) (hne p hp)
        repeat (first | exact hp2 | refine List.Mem.tail _ ?_)
    · rename CutsIn _ _ (cs1 ++ _) _ => C7
      rename ∀ p ∈ led1, p.1 ≠ cl → p ∈ _ => S7
      rename (_ : Int) ≠ _ => hq
      have hq' : (rot (R1.drop 2)).at 0 ≠ R1.at 2 := by unfold rot; omega
      rename ∀ p : Addr × Obj, p ∈ (_ : List (Addr × Obj)) → p.1 < _ => l9
      have hx := fun t ta tp tb => (cut R1 e cs1 t ta tp tb hI hw).2.2 hq'
      have hD := Nat.ne_of_gt (l9 _ (.tail _ (.tail _ (.tail _ C7.lst))))
      refine ksw_end (⟨_, _, 0, rot (R1.drop 2), R1.at 2, _, k3 + 1, _⟩ : WS) (by assumption) (by assumption) (fun _ h => h) ⟨?_, .head _, hD, C7.sub ?_⟩ (by walk_at "MYPS") (by walk_at "MYSAME") (hx _ _ _ _).1 (hx 0 0 0 0).2
      · intro p hp
        have hp2 := S7 p (hS p hp) (hne p hp)
        repeat (first | exact hp2 | refine List.Mem.tail _ ?_)
      · intro p hp
        repeat (first | exact hp | refine List.Mem.tail _ ?_)
  · have hnc : ¬ WCond xs ys R1 := by
      rintro ⟨c1, c2, c3, c4⟩
      rename _ = false => hb
      rename _ = true ↔ _ => i9
      exact absurd (i9.mpr c4) (by rw [hb]; decide)
    rename (_ : Int) = _ => hq
    have hq' : (rot R1).at 0 = e := by unfold rot; omega
    refine hret _ _ _ _ (by k_asm) (by k_asm) ⟨_, _, _, _, _, _, _, rfl, .head _, .tail _ (.head _), hC1.sub ?_, ?_, (go R1 e cs1 hI hnc).1 hq'⟩
    · intro p hp
      repeat (first | exact hp | refine List.Mem.tail _ ?_)
    · intro p hp
      have hp2 := hS p hp
      repeat (first | exact hp2 | refine List.Mem.tail _ ?_)
  · have hnc : ¬ WCond xs ys R1 := by
      rintro ⟨c1, c2, c3, c4⟩
      rename _ = false => hb
      rename _ = true ↔ _ => i9
      exact absurd (i9.mpr c4) (by rw [hb]; decide)
    rename (_ : Int) ≠ _ => hq
    have hq' : (rot R1).at 0 ≠ e := by unfold rot; omega
    rename ∀ p : Addr × Obj, p ∈ (_ : List (Addr × Obj)) → p.1 < _ => l9
    have hx := (go R1 e cs1 hI hnc).2 hq'
    have hD := Nat.ne_of_gt (l9 _ (.tail _ (.tail _ hC1.lst)))
    refine ksw_end (⟨_, _, 0, rot R1, e, te, k3, cs1⟩ : WS) (by assumption) (by assumption) (fun _ h => h) ⟨?_, .head _, hD, hC1.sub ?_⟩ (by walk_at "MYPS") (by walk_at "MYSAME") hx.1 hx.2
    · intro p hp
      have hp2 := hS p hp
      repeat (first | exact hp2 | refine List.Mem.tail _ ?_)
    · intro p hp
      repeat (first | exact hp | refine List.Mem.tail _ ?_)
  · have hnc : ¬ WCond xs ys R1 := by
      rintro ⟨c1, c2, c3, c4⟩
      rename _ = false => hb
      rename _ = true ↔ _ => i9
      exact absurd (i9.mpr c3) (by rw [hb]; decide)
    rename (_ : Int) = _ => hq
    have hq' : (rot R1).at 0 = e := by unfold rot; omega
    refine hret _ _ _ _ (by k_asm) (by k_asm) ⟨_, _, _, _, _, _, _, rfl, .head _, .tail _ (.head _), hC1.sub ?_, ?_, (go R1 e cs1 hI hnc).1 hq'⟩
    · intro p hp
      repeat (first | exact hp | refine List.Mem.tail _ ?_)
    · intro p hp
      have hp2 := hS p hp
      repeat (first | exact hp2 | refine List.Mem.tail _ ?_)
  · have hnc : ¬ WCond xs ys R1 := by
      rintro ⟨c1, c2, c3, c4⟩
      rename _ = false => hb
      rename _ = true ↔ _ => i9
      exact absurd (i9.mpr c3) (by rw [hb]; decide)
    rename (_ : Int) ≠ _ => hq
    have hq' : (rot R1).at 0 ≠ e := by unfold rot; omega
    rename ∀ p : Addr × Obj, p ∈ (_ : List (Addr × Obj)) → p.1 < _ => l9
    have hx := (go R1 e cs1 hI hnc).2 hq'
    have hD := Nat.ne_of_gt (l9 _ (.tail _ (.tail _ hC1.lst)))
    refine ksw_end (⟨_, _, 0, rot R1, e, te, k3, cs1⟩ : WS) (by assumption) (by assumption) (fun _ h => h) ⟨?_, .head _, hD, hC1.sub ?_⟩ (by walk_at "MYPS") (by walk_at "MYSAME") hx.1 hx.2
    · intro p hp
      have hp2 := hS p hp
      repeat (first | exact hp2 | refine List.Mem.tail _ ?_)
    · intro p hp
      repeat (first | exact hp | refine List.Mem.tail _ ?_)
  · have hnc : ¬ WCond xs ys R1 := by
      rintro ⟨c1, c2, c3, c4⟩
      rename _ = false => hb
      rename _ = true ↔ _ => i9
      exact absurd (i9.mpr c2) (by rw [hb]; decide)
    rename (_ : Int) = _ => hq
    have hq' : (rot R1).at 0 = e := by unfold rot; omega
    refine hret _ _ _ _ (by k_asm) (by k_asm) ⟨_, _, _, _, _, _, _, rfl, .head _, .tail _ (.head _), hC1.sub ?_, ?_, (go R1 e cs1 hI hnc).1 hq'⟩
    · intro p hp
      repeat (first | exact hp | refine List.Mem.tail _ ?_)
    · intro p hp
      have hp2 := hS p hp
      repeat (first | exact hp2 | refine List.Mem.tail _ ?_)
  · have hnc : ¬ WCond xs ys R1 := by
      rintro ⟨c1, c2, c3, c4⟩
      rename _ = false => hb
      rename _ = true ↔ _ => i9
      exact absurd (i9.mpr c2) (by rw [hb]; decide)
    rename (_ : Int) ≠ _ => hq
    have hq' : (rot R1).at 0 ≠ e := by unfold rot; omega
    rename ∀ p : Addr × Obj, p ∈ (_ : List (Addr × Obj)) → p.1 < _ => l9
    have hx := (go R1 e cs1 hI hnc).2 hq'
    have hD := Nat.ne_of_gt (l9 _ (.tail _ (.tail _ hC1.lst)))
    refine ksw_end (⟨_, _, 0, rot R1, e, te, k3, cs1⟩ : WS) (by assumption) (by assumption) (fun _ h => h) ⟨?_, .head _, hD, hC1.sub ?_⟩ (by walk_at "MYPS") (by walk_at "MYSAME") hx.1 hx.2
    · intro p hp
      have hp2 := hS p hp
      repeat (first | exact hp2 | refine List.Mem.tail _ ?_)
    · intro p hp
      repeat (first | exact hp | refine List.Mem.tail _ ?_)
  · have hnc : ¬ WCond xs ys R1 := by
      rintro ⟨c1, c2, c3, c4⟩
      rename ¬ ¬ _ => h0
      exact h0 c1
    rename (_ : Int) = _ => hq
    have hq' : (rot R1).at 0 = e := by unfold rot; omega
    refine hret _ _ _ _ (by k_asm) (by k_asm) ⟨_, _, _, _, _, _, _, rfl, .head _, .tail _ (.head _), hC1.sub ?_, ?_, (go R1 e cs1 hI hnc).1 hq'⟩
    · intro p hp
      repeat (first | exact hp | refine List.Mem.tail _ ?_)
    · intro p hp
      have hp2 := hS p hp
      repeat (first | exact hp2 | refine List.Mem.tail _ ?_)
  · have hnc : ¬ WCond xs ys R1 := by
      rintro ⟨c1, c2, c3, c4⟩
      rename ¬ ¬ _ => h0
      exact h0 c1
    rename (_ : Int) ≠ _ => hq
    have hq' : (rot R1).at 0 ≠ e := by unfold rot; omega
    rename ∀ p : Addr × Obj, p ∈ (_ : List (Addr × Obj)) → p.1 < _ => l9
    have hx := (go R1 e cs1 hI hnc).2 hq'
    have hD := Nat.ne_of_gt (l9 _ (.tail _ (.tail _ hC1.lst)))
    refine ksw_end (⟨_, _, 0, rot R1, e, te, k3, cs1⟩ : WS) (by assumption) (by assumption) (fun _ h => h) ⟨?_, .head _, hD, hC1.sub ?_⟩ (by walk_at "MYPS") (by walk_at "MYSAME") hx.1 hx.2
    · intro p hp
      have hp2 := hS p hp
      repeat (first | exact hp2 | refine List.Mem.tail _ ?_)
    · intro p hp
      repeat (first | exact hp | refine List.Mem.tail _ ?_)
end Mine
end

section
open PySem PySem.W PySem.Calls PyProof.Rows
set_option Elab.async false
set_option maxRecDepth 100000
set_option maxHeartbeats 8000000
namespace Mine

/-- the end of a turn of a loop over a range, the ledger may grow -/
def RngEnd {σ : Type} (h₀ : Heap) (L : Addr) (Led : σ → Led) (ps : σ → List (Str × Value)) (Facts : σ → Prop) (x : Str) (stored : List Str) (m₀ : Str → Option Value) (P : σ → Prop) (I : Addr) (oI : Obj) (s₁ s₂ : Shared) : Prop :=
  ∃ (c : σ) (h' : Heap) (tk : Nat) (m' : Str → Option Value) (news' : Mine.Led), s₂ = { s₁ with heap := h', toks := tk } ∧ Fr h₀ L h' m' ∧ News h₀ L h' news' ∧ (∀ p ∈ Led c, p ∈ news') ∧ (I, oI) ∈ news' ∧ (∀ p ∈ Led c, p.1 ≠ I) ∧ Facts c ∧
    (∀ p ∈ ps c, m' p.1 = some p.2) ∧ (∀ z, z ≠ x → (∀ p ∈ ps c, z ≠ p.1) → stored.contains z = false → m' z = m₀ z) ∧ P c
def RngPost {σ : Type} (h₀ : Heap) (L : Addr) (Led : σ → Led) (ps : σ → List (Str × Value)) (Facts : σ → Prop) (x : Str) (stored : List Str) (m₀ : Str → Option Value) (P : σ → Prop) (I : Addr) (oI : Obj) (s₁ : Shared) (Q : Flow → Shared → Prop) (f : Flow) (s₂ : Shared) : Prop :=
  match f with
  | .ret v => Q (.ret v) s₂
  | .brk => Q .next s₂
  | _ => RngEnd h₀ L Led ps Facts x stored m₀ P I oI s₁ s₂
theorem rng_end {σ : Type} {h₀ : Heap} {L : Addr} {Led : σ → Led} {ps : σ → List (Str × Value)} {Facts : σ → Prop} {x : Str} {stored : List Str} {m₀ : Str → Option Value} {P : σ → Prop} {I : Addr} {oI : Obj} {s₁ : Shared} {h' : Heap} {tk : Nat} {m' : Str → Option Value} {news' : Mine.Led} (c : σ)
    (F : Fr h₀ L h' m') (N : News h₀ L h' news') (hn : ∀ p ∈ Led c, p ∈ news') (ho : (I, oI) ∈ news') (hI : ∀ p ∈ Led c, p.1 ≠ I) (hf : Facts c) (hk : ∀ p ∈ ps c, m' p.1 = some p.2) (hr : ∀ z, z ≠ x → (∀ p ∈ ps c, z ≠ p.1) → stored.contains z = false → m' z = m₀ z) (hp : P c) :
    RngEnd h₀ L Led ps Facts x stored m₀ P I oI s₁ { s₁ with heap := h', toks := tk } := ⟨c, h', tk, m', news', rfl, F, N, hn, ho, hI, hf, hk, hr, hp⟩

section
variable {prog : Program} {w : World} {A : Around} {E : Value → Shared → Prop} {s : Shared} {env : Env} {h₀ : Heap} {x : Str} {body : List Stmt} {Q : Flow → Shared → Prop}
theorem rng_loop {σ : Type} {r : Addr} {a₀ b₀ c₁ : Int} {t₀ u₀ v₀ : Tok} {n : Nat} {m₀ : Str → Option Value} (Led : σ → Led) (ps : σ → List (Str × Value)) (Facts : σ → Prop) (stored : List Str) (P : Nat → σ → Prop) (c₀ : σ)
    (hh : A.handled = none) (hr : IsRange s.heap r a₀ b₀ c₁ t₀ u₀ v₀) (hsmall : Builtin.Range.small a₀ b₀ c₁ = true) (hn : Builtin.Range.rangeSize a₀ b₀ c₁ = (n : Int)) (F : Fr h₀ env.locals s.heap m₀) (N : News h₀ env.locals s.heap (Led c₀)) (hf : Facts c₀) (hk : ∀ p ∈ ps c₀, m₀ p.1 = some p.2) (hp : P 0 c₀)
    (turn : ∀ (c : σ) (i : Nat) t (u : Str → Option Value) h tk I oI, i < n → oI.cls = .type "range_iterator" → (∀ p ∈ Led c, p.1 ≠ I) → Facts c → P i c →
      Fr h₀ env.locals h (fun y => if y = x then some (.int (a₀ + (i : Int) * c₁) t) else kstB (fun z => if stored.contains z then u z else m₀ z) (ps c) y) → News h₀ env.locals h ((I, oI) :: Led c) →
      wpAny (model prog w) A (execs body env) (RngPost h₀ env.locals Led ps Facts x stored m₀ (P (i + 1)) I oI { s with heap := h, toks := tk } Q) E { s with heap := h, toks := tk })
    (done : ∀ (c : σ) (u : Str → Option Value) h tk, Facts c → P n c → Fr h₀ env.locals h (fun y => if y = x then u y else kstB (fun z => if stored.contains z then u z else m₀ z) (ps c) y) → News h₀ env.locals h (Led c) → Q .next { s with heap := h, toks := tk }) :
    wpAny (model prog w) A (pyIter (.ref r)) (fun it s₂ => LoopAtV prog w A h₀ env x body Q E it s₂) E s := by
  refine wpAny_pyIter_range hr hsmall ?_
  have W : Walks prog w A s.heap.objs.size [s.heap.objs.size] [s.heap.objs.size] n (fun i v => i < n ∧ ∃ t, v = .int (a₀ + i * c₁) t)
      (fun i h => IsRangeIter h s.heap.objs.size (a₀ + (i : Nat) * c₁) ((n : Int) - (i : Nat)) c₁) := (Walks.range hh _ a₀ c₁ n).bound
  let J : Nat → (Str → Option Value) → Mine.Led → Prop := fun i m led => ∃ c : σ, led = Led c ∧ Facts c ∧ (∀ p ∈ ps c, m p.1 = some p.2) ∧ (∀ z, z ≠ x → (∀ p ∈ ps c, z ≠ p.1) → stored.contains z = false → m z = m₀ z) ∧ P i c
  refine ⟨_, _, _, n, _, _, m₀, Led c₀, J, rfl, W, ?_, ?_, ?_, (by show IsRangeIter _ _ _ _ _; rw [hn]; simpa using Heap.get?_push_size _ rfl), F.push _, (fun p hp => ⟨Heap.get?_push_of_some _ (N p hp).1, (N p hp).2⟩), ⟨c₀, rfl, hf, hk, fun _ _ _ _ => rfl, hp⟩, ?_, ?_⟩
  · intro hm
    exact absurd F.ns.lt ((List.mem_singleton.mp hm) ▸ Nat.lt_irrefl _)
  · intro b hb
    rw [List.mem_singleton.mp hb]
    exact next_is_new F
  · intro p hp hI
    exact absurd (Heap.lt_size (N p hp).1) ((List.mem_singleton.mp hI) ▸ Nat.lt_irrefl _)
  · rintro i v m₁ led s₁ own ⟨hh', tk', rfl⟩ hin ⟨_, t, rfl⟩ ⟨c, rfl, hf', h1, h2, hp'⟩ hoff hown _ hall hst F₁ N₁
    obtain ⟨oI, hoI, hcls⟩ : ∃ oI, hh'.get? s.heap.objs.size = some oI ∧ oI.cls = .type "range_iterator" := ⟨_, hst, rfl⟩
    have hin' : (s.heap.objs.size, oI) ∈ own := hall _ (List.mem_singleton.mpr rfl) (next_is_new F) _ hoI
    have hne : ∀ p ∈ Led c, p.1 ≠ s.heap.objs.size := fun p hp e => hoff p hp (List.mem_singleton.mpr e)
    have N₂ : News h₀ env.locals hh' ((s.heap.objs.size, oI) :: Led c) := fun p hp => by
      rcases List.mem_cons.mp hp with rfl | hp
      · exact N₁ _ (List.mem_append_left _ hin')
      · exact N₁ _ (List.mem_append_right _ hp)
    have hown1 : ∀ p ∈ own, p = (s.heap.objs.size, oI) := fun p hp => by
      have e := List.mem_singleton.mp (hown p hp)
      have g := (N₁ p (List.mem_append_left _ hp)).1
      rw [e] at g
      have g2 : hh'.get? s.heap.objs.size = some p.2 := g
      rw [hoI] at g2
      exact Prod.ext e (Option.some.inj g2).symm
    refine wpAny_mono (turn c i t m₁ hh' tk' s.heap.objs.size oI hin hcls hne hf' hp' (kst_fr h1 h2 F₁) N₂) (fun f s₂ p => ?_) fun _ _ e => e
    have fin : RngEnd h₀ env.locals Led ps Facts x stored m₀ (P (i + 1)) s.heap.objs.size oI { s with heap := hh', toks := tk' } s₂ → LoopStepU h₀ env.locals [s.heap.objs.size] own (J (i + 1)) { s with heap := hh', toks := tk' } .next s₂ := by
      rintro ⟨c', h', tk, m', news', e, F', N', hn', ho, hI, hf9, hk9, hr9, hp9⟩
      refine ⟨rfl, h', tk, m', Led c', e, F', fun p hp => ?_, fun p hp hq => hI p hp (List.mem_singleton.mp hq), c', rfl, hf9, hk9, hr9, hp9⟩
      rcases List.mem_append.mp hp with q | q
      · rw [hown1 p q]; exact N' _ ho
      · exact N' _ (hn' p q)
    cases f with
    | ret v => exact .ret p
    | brk => exact .brk p
    | next => exact .next (fin p)
    | cont => exact .cont (fin p)
  · rintro h' tk m' news' F' N' _ ⟨c, rfl, hf', h1, h2, hp'⟩
    exact done c m' h' tk hf' hp' (kst_frOut h1 h2 F') N'
end
end Mine
end

section
open PySem PySem.W PySem.Calls PyProof.Rows
namespace Mine
theorem calmE12 {w : World} {A : Around} {e : Env} {Q : Flow → Shared → Prop} {E : Value → Shared → Prop} {s : Shared}
    (h : wpAny (model PySem.Challenge.rw_et5009_01.row.prog w) A (execs [] e) Q E s) : wpAny (model PySem.Challenge.rw_et5009_01.row.prog w) A (execs [] e) Q E s := by
  w_top off
  first
    | (walk1; fail "calm")
    | exact h
end Mine
end

section
open PySem PySem.W PySem.Calls PyProof.Rows
set_option Elab.async false
set_option maxRecDepth 100000
set_option maxHeartbeats 8000000
namespace Mine

section
variable {prog : Program} {w : World} {A : Around} {E : Value → Shared → Prop} {s : Shared} {h₀ : Heap} {L l : Addr} {m : Str → Option Value} {news : Led} {value slice : PySem.Expr} {R R' : Rg} {k : Nat} {idx : Int} {u : Tok} {Q : Value → Shared → Prop}
theorem ring_copy (F : Fr h₀ L s.heap m) (N : News h₀ L s.heap news) (hm : (l, listOf (RV R).toArray k) ∈ news) (hl : R.length ≤ 100)
    (h : ∀ D c h', Fr h₀ L h' m → News h₀ L h' ((D, listOf (RV R).toArray c) :: news) → (∀ q ∈ news, q.1 < D) → Q (.ref D) { s with heap := h' }) : wpAny (model prog w) A (call (.type "list") [.ref l]) Q E s :=
  kup_listOf F N hm (by simp) h (by simp only [List.length_map, sizeLine_eq]; omega)
theorem kl_cut_at : ∀ (l : List Value) (j : Nat) (hj : j < l.length), kl_cut l j = some (l.take j, l[j], l.drop (j + 1))
  | [], _, h => absurd h (Nat.not_lt_zero _)
  | x :: r, 0, _ => rfl
  | x :: r, j + 1, h => by
    unfold kl_cut
    rw [kl_cut_at r j (by simpa using h)]
    rfl
theorem ring_pop (F : Fr h₀ L s.heap m) (N : News h₀ L s.heap news) (hm : (l, listOf (RV R).toArray k) ∈ news) (hl : R.length ≤ 100) (j : Nat) (hj : idx = (j : Int)) (hb : j < R.length)
    (h : ∀ v h', Fr h₀ L h' m → News h₀ L h' (setL l (listOf (RV (R.eraseIdx j)).toArray (k + 1)) news) → Q v { s with heap := h' }) : wpAny (model prog w) A (call (.builtin "list.pop") [.ref l, .int idx u]) Q E s := by
  subst hj
  have hb' : j < (RV R).length := by simpa using hb
  refine kl_popAt F (news_cut N hm) ?_ ?_ (kl_cut_at (RV R) j hb') (upd_last cut_ne) ?_ fun h' F' N' => h _ h' F' ?_
  · unfold Builtin.List.listFitsIndex
    simp only [Bool.and_eq_true, decide_eq_true_eq]
    omega
  · unfold seqIndex?
    have e1 : ¬ ((j : Int) < 0) := by omega
    simp only [List.size_toArray, List.length_map, e1, if_false]
    simp
    omega
  · simp only [List.length_map, sizeLine_eq]; omega
  · have e : (RV R).take j ++ (RV R).drop (j + 1) = RV (R.eraseIdx j) := by
      rw [List.eraseIdx_eq_take_drop_succ]; simp [List.map_take, List.map_drop]
    rw [e] at N'
    exact news_paste N'
end

local macro_rules | `(tactic| walk_at "MYIX") => `(tactic| first | assumption | exact Closed.pv (by assumption) (by walk_at "MYIX") | exact Closed.nx (by assumption) (by walk_at "MYIX"))
local macro_rules | `(tactic| k_mem) => `(tactic| first | exact NodesIn.inst (by assumption) (by walk_at "MYIX") | exact NodesIn.dict (by assumption) (by walk_at "MYIX"))
local macro_rules | `(tactic| mul_fits) => `(tactic| first | exact SmallY.left (by assumption) (by walk_at "MYIX") (by walk_at "MYIX") _ | exact SmallY.right (by assumption) (by walk_at "MYIX") (by walk_at "MYIX") _)
local macro_rules | `(tactic| walk_at "compareOp Eq ref") => `(tactic| (k_here; (with_reducible show wpAny _ _ (compareOp CmpOp.Eq (Value.ref _) _) _ _ _); (refine cmp_ofEq ?_); k_dflt (refine' cmp_K ?k1 ?k2 ?k3 ?k4 ?k5 ?k6 ?k7 ?k8 ?_; (case k1 => ktr_units); (case k2 => k_asm); (case k3 => k_asm); (case k4 => k_inst); (case k5 => k_typeOf); (case k6 => k_is); (case k7 => k_is); (case k8 => k_is); k_whole)))
local macro_rules | `(tactic| walk_at "MYUSE") => `(tactic| ((case B => k_asm); (case F => k_asm); (case X => k_asm); (try (case N => k_asm)); (case T => k_asm); (case kk => first | exact rfl | assumption); (case d => ktr_room); (case u => ktr_units)))
local macro_rules | `(tactic| walk_at "eval Call") => `(tactic| (k_here; (with_reducible show wpAny _ _ (eval (Expr.Call (Expr.Name _ _) _ [] _) _) _ _ _); k_dflt (refine Call_ ?_)))
local macro_rules | `(tactic| walk_at "MYH") => `(tactic| first | assumption | exact RowsIn.cons (by walk_at "MYH"))
local macro_rules | `(tactic| k_mem) => `(tactic| exact RowsIn.row (by assumption) (by walk_at "MYIX"))
local macro_rules | `(tactic| mul_fits) => `(tactic| first | exact SmallYs.left (by assumption) (by walk_at "MYIX") (by walk_at "MYIX") _ | exact SmallYs.right (by assumption) (by walk_at "MYIX") (by walk_at "MYIX") _)
local macro_rules | `(tactic| walk_at "MYENTER") => `(tactic| (refine' code_def ?k1 ?k2 ?k3 ?k4 ?k5 ?kA ?kF ?kK ?k6 ?k7 ?k8 ?k9 ?kB ?_ ?c2 ?c3 ?c4 ?c5; (case kA => exact rfl); (case kF => exact rfl); (case kK => assumption); (case k1 => k_asm); (case k2 => k_asm); (case k3 => k_asm); (case k4 => k_asm); (case k5 => k_asm); (case k6 => k_is); (case k7 => k_is); (case k8 => ktr_room); (case k9 => first | exact BindsTo.of_eq rfl | exact binds_K (by k_in) rfl (by k_is) rfl rfl rfl); (case c5 => decide); (case kB => exact locs rfl); (case c2 => exact rfl); (case c3 => exact rfl); (case c4 => exact rfl); k_whole; intro g' L' h' FG' F' N' B' X' T'; (try dsimp only); (try k_fold)))
local macro_rules | `(tactic| walk_at "MYPS") => `(tactic| (intro q hq; simp only [List.mem_cons, List.not_mem_nil, or_false] at hq; (first | (subst hq; rfl) | (rcases hq with e | e <;> (subst e; rfl)) | (rcases hq with e | e | e <;> (subst e; rfl)) | (rcases hq with e | e | e | e <;> (subst e; rfl)) | (rcases hq with e | e | e | e | e <;> (subst e; rfl)))))
local macro_rules | `(tactic| walk_at "MYSAME") => `(tactic| (intro z h2 h3; simp only [List.forall_mem_cons, List.not_mem_nil, false_implies, implies_true, and_true, ne_eq] at h2; simp only [List.contains_cons, List.contains_nil, Bool.or_false, Bool.or_eq_false_iff, beq_eq_false_iff_ne, ne_eq] at h3; simp [h2, h3, kstB]; done))
local macro_rules | `(tactic| walk_at "MYSTEPS") => `(tactic| repeat' (first | ((fail_if_success (with_reducible show wpAny _ _ (exec (Stmt.While _ _ _ _) _) _ _ _)); (fail_if_success (with_reducible show KswEnd _ _ _ _ _ _ _ _ _ _ _ _)); (first | (k_unfold; (try dsimp only)) | (k_end; wrow_close) | walk1 | (dsimp only; walk1) | (leave1; walk_say "STEP leave1"; try dsimp only))) | fail "no step"))
local macro_rules | `(tactic| walk_at "MYSTEPS2") => `(tactic| repeat' (first | ((fail_if_success (with_reducible show wpAny _ _ (exec (Stmt.While _ _ _ _) _) _ _ _)); (fail_if_success (with_reducible show KswEnd _ _ _ _ _ _ _ _ _ _ _ _)); (fail_if_success (with_reducible show wpAny _ _ (subscriptTail _ _ (Value.ref _) (Value.int 2 _)) _ _ _)); (first | (k_unfold; (try dsimp only)) | (k_end; wrow_close) | walk1 | (dsimp only; walk1) | (leave1; walk_say "STEP leave1"; try dsimp only))) | fail "no step"))
local macro_rules | `(tactic| walk_at "compareOp NotEq ref ref") => `(tactic| (k_here; (with_reducible show wpAny _ _ (compareOp CmpOp.NotEq (Value.ref _) (Value.ref _)) _ _ _); k_dflt (refine' row_ne ?N ?a ?b ?u ?_; (case N => k_asm); (case a => k_mem); (case b => k_mem); (case u => ktr_units); k_whole)))
local macro_rules | `(tactic| walk_at "MYMEM") => `(tactic| first | with_reducible assumption | (with_reducible refine List.mem_cons_of_mem _ ?_; walk_at "MYMEM") | with_reducible exact List.mem_cons_self)
local macro_rules | `(tactic| walk_at "MYLEN") => `(tactic| first | omega | ((simp only [List.length_append, List.length_drop, List.length_take, Nat.min_def]); (repeat' split) <;> omega))
local macro_rules | `(tactic| walk_at "MYPOS") => `(tactic| first | omega | exact Nat.mod_lt _ (by omega) | ((simp only [List.length_append, List.length_drop, List.length_take, Nat.min_def]); (repeat' split) <;> omega))
local macro_rules | `(tactic| walk_at "MYRING") => `(tactic| ((case N => k_asm); (case m => walk_at "MYMEM"); (case l => walk_at "MYLEN")))
local macro_rules | `(tactic| walk_at "MYSUB") => `(tactic| (k_here; (with_reducible show wpAny _ _ (subscriptTail _ _ (Value.ref _) (Value.int _ _)) _ _ _); k_dflt (first
  | ((with_reducible show wpAny _ _ (subscriptTail _ _ (Value.ref _) (Value.int (-1) _)) _ _ _); refine' ring_last ?N ?m ?l ?b ?_ ?s; (walk_at "MYRING"); (case b => walk_at "MYLEN"); (case s => with_unfolding_all rfl); k_whole)
  | (refine' ring_at ?N ?m ?l 0 ?j ?b ?_ ?s ?g; (walk_at "MYRING"); (case j => exact rfl); (case b => walk_at "MYPOS"); (case s => with_unfolding_all rfl); (case g => (intro _; with_unfolding_all rfl)); k_whole)
  | (refine' ring_at ?N ?m ?l 2 ?j ?b ?_ ?s ?g; (walk_at "MYRING"); (case j => exact rfl); (case b => walk_at "MYPOS"); (case s => with_unfolding_all rfl); (case g => (intro _; with_unfolding_all rfl)); k_whole)
  | (refine' ring_at ?N ?m ?l _ ?j ?b ?_ ?s ?g; (walk_at "MYRING"); (case j => exact rfl); (case b => walk_at "MYPOS"); (case s => with_unfolding_all rfl); (case g => (intro _; with_unfolding_all rfl)); k_whole)
  | (refine' ring_at ?N ?m ?l _ ?j ?b ?_ ?s ?g; (walk_at "MYRING"); (case j => exact pred_cast); (case b => walk_at "MYPOS"); (case s => with_unfolding_all rfl); (case g => (intro _; with_unfolding_all rfl)); k_whole)
  | (refine' ring_last' ?N ?m ?l ?b ?i ?_ ?s; (walk_at "MYRING"); (case b => walk_at "MYLEN"); (case i => exact zero_pred); (case s => with_unfolding_all rfl); k_whole)
  | (refine' row_at ?N ?m ?l _ ?j ?b ?_ ?s ?g; (walk_at "MYRING"); (case j => exact rfl); (case b => walk_at "MYIX"); (case s => with_unfolding_all rfl); (case g => (intro _; with_unfolding_all rfl)); k_whole)); (try intro t')))
local macro_rules | `(tactic| walk_at "subscriptTail") => `(tactic| (k_here; (with_reducible show wpAny _ _ (subscriptTail _ _ (Value.ref _) (Value.int _ _)) _ _ _); walk_at "MYSUB"))
local macro_rules | `(tactic| walk_at "subscriptTail Name") => `(tactic| (k_here; (with_reducible show wpAny _ _ (subscriptTail _ _ (Value.ref _) (Value.int _ _)) _ _ _); walk_at "MYSUB"))
local macro_rules | `(tactic| walk_at "subscriptTail Name Constant ref int") => `(tactic| (k_here; (with_reducible show wpAny _ _ (subscriptTail _ _ (Value.ref _) (Value.int _ _)) _ _ _); walk_at "MYSUB"))
local macro_rules | `(tactic| walk_at "subscriptTail Name Slice ref ref") => `(tactic| (k_here; k_dflt (first
  | (refine' ring_from ?F ?N ?m ?l 1 ?j ?_ ?s ?t; (case F => k_asm); (walk_at "MYRING"); (case j => exact rfl); (case s => with_unfolding_all rfl); (case t => (intro _; with_unfolding_all rfl)); k_whole)
  | (refine' ring_from ?F ?N ?m ?l 2 ?j ?_ ?s ?t; (case F => k_asm); (walk_at "MYRING"); (case j => exact rfl); (case s => with_unfolding_all rfl); (case t => (intro _; with_unfolding_all rfl)); k_whole)
  | (refine' ring_upto ?F ?N ?m ?l 1 ?j ?_ ?s ?t; (case F => k_asm); (walk_at "MYRING"); (case j => exact rfl); (case s => with_unfolding_all rfl); (case t => (intro _; with_unfolding_all rfl)); k_whole)); intro D' h' F' N' l1; (try k_sweep)))
local macro_rules | `(tactic| walk_at "call builtin:len") => `(tactic| (k_here; k_dflt (refine' ring_len ?N ?m ?l ?_; (walk_at "MYRING"); k_whole); intro t' tk'))
local macro_rules | `(tactic| walk_at "binaryOp Mod int int") => `(tactic| (k_here; k_dflt (first
  | (refine' mod_nat 1 _ ?a ?b ?c ?_; (case a => exact rfl); (case b => exact rfl); (case c => walk_at "MYLEN"); k_whole)
  | (refine' mod_nat 2 _ ?a ?b ?c ?_; (case a => exact rfl); (case b => exact rfl); (case c => walk_at "MYLEN"); k_whole)
  | (refine' mod_nat 3 _ ?a ?b ?c ?_; (case a => exact rfl); (case b => exact rfl); (case c => walk_at "MYLEN"); k_whole)
  | (refine' mod_nat _ _ ?a ?b ?c ?_; (case b => exact rfl); (case a => exact succ_cast); (case c => walk_at "MYLEN"); k_whole)
  | (refine' mod_nat _ _ ?a ?b ?c ?_; (case b => exact rfl); (case a => exact sub_two (by walk_at "MYLEN")); (case c => walk_at "MYLEN"); k_whole)); intro t' tk'))
local macro_rules | `(tactic| walk_at "binaryOp Add ref ref") => `(tactic| (k_here; k_dflt (refine' ring_add ?F ?N ?m ?m2 ?l ?l2 ?_; (case F => k_asm); (case N => k_asm); (case m => walk_at "MYMEM"); (case m2 => walk_at "MYMEM"); (case l => walk_at "MYLEN"); (case l2 => walk_at "MYLEN"); k_whole); intro D' h' F' N' l1; (try k_sweep)))
local macro_rules | `(tactic| walk_at "MYIX") => `(tactic| exact RLt.get (by assumption) (by walk_at "MYPOS"))
local macro_rules | `(tactic| k_mem) => `(tactic| walk_at "MYMEM")
local macro_rules | `(tactic| walk_at "call builtin:list.pop") => `(tactic| (k_here; k_dflt (refine' ring_pop ?F ?N ?m ?l _ ?j ?b ?_; (case F => k_asm); (walk_at "MYRING"); (case j => exact rfl); (case b => walk_at "MYPOS"); k_whole); intro v' h' F' N'; (try k_sweep)))
local macro_rules | `(tactic| walk_at "call ref") => `(tactic| (k_here; k_dflt (first
  | ((refine' does_use (cross_c ?q0 ?q1 ?q2 ?q3 ?q4) ?B ?F ?X ?N ?T ?kk ?d ?u ?_; (case N => k_asm); (case q0 => walk_at "MYH"); (case q1 => assumption); (case q2 => walk_at "MYIX"); (case q3 => walk_at "MYIX"); (case q4 => walk_at "MYIX"); (walk_at "MYUSE")); (intro r9 n9 h9 tk9 F9 N9 p9; obtain ⟨e9, t9, e9'⟩ := p9; subst e9 e9'; (try dsimp only); (try k_sweep))))))
local macro_rules | `(tactic| walk_at "MYSTEPS3") => `(tactic| repeat' (first | ((fail_if_success (with_reducible show wpAny _ _ (exec (Stmt.While _ _ _ _) _) _ _ _)); (fail_if_success (with_reducible show wpAny _ _ (exec (Stmt.For _ _ _ _ _) _) _ _ _)); (fail_if_success (with_reducible show wpAny _ _ (pyIter _) (fun it s₂ => LoopAtV _ _ _ _ _ _ _ _ _ it s₂) _ _)); (fail_if_success (with_reducible show KswEnd _ _ _ _ _ _ _ _ _ _ _ _)); (fail_if_success (with_reducible show RngEnd _ _ _ _ _ _ _ _ _ _ _ _ _)); (first | (k_unfold; (try dsimp only)) | (k_end; wrow_close) | walk1 | (dsimp only; walk1) | (leave1; walk_say "STEP leave1"; try dsimp only))) | fail "no step"))
local macro_rules | `(tactic| walk_at "RngPost") => `(tactic| (dsimp only [RngPost]))

local macro_rules | `(tactic| walk_at "call type:list") => `(tactic| (k_here; (with_reducible show wpAny _ _ (call (Value.type _) [Value.ref _]) _ _ _); k_dflt (refine' ring_copy ?F ?N ?m ?l ?_; (case F => k_asm); (walk_at "MYRING"); k_whole); intro D' c' h' F' N' l1; (try k_sweep)))
local macro_rules | `(tactic| walk_at "MYSAME2") => `(tactic| (intro z h1 h2 h3; simp only [List.forall_mem_cons, List.not_mem_nil, false_implies, implies_true, and_true, ne_eq] at h2; (try simp only [List.contains_cons, List.contains_nil, Bool.or_false, Bool.or_eq_false_iff, beq_eq_false_iff_ne, ne_eq] at h3); simp [h1, h2, h3, kstB]; done))
/-- no turning at the place k of the ring -/
def Col (xs ys : Nat → Int) (R : Rg) (k : Nat) : Prop := crossZ xs ys (R.at (if k = 0 then R.length - 1 else k - 1)) (R.at k) (R.at ((k + 1) % R.length)) = 0
theorem reduce_c {w : World} {mean : ExcName → Option Value} {mg mb : Str → Option Value} {news : Led} {xs ys : Nat → Int} {tx ty : Nat → Tok} {ra : Nat → Addr} {n : Nat} {rw rg : Addr} {k1 k2 : Nat} {R : Rg} (hR : RowsIn xs ys tx ty ra n news) (hY : SmallYs ys n) (hn : n ≤ 9) (hrw : (rw, listOf (RowVs ra n).toArray k1) ∈ news) (hrg : (rg, listOf (RV R).toArray k2) ∈ news)
    (I : Rg → Prop) (hI : I R) (hc : ∀ R, I R → R.length ≤ 9 ∧ RLt R n) (cut : ∀ R j, I R → 2 < R.length → j < R.length → Col xs ys R j → I (R.eraseIdx j)) :
    Does w mean mg mb 177 8 200 news [.ref rg, .ref rw] (fun news' v => ∃ l k R', v = .ref l ∧ (l, listOf (RV R').toArray k) ∈ news' ∧ (∀ p ∈ news, p ∈ news') ∧ I R' ∧ (R'.length ≤ 2 ∨ ∀ j, j < R'.length → ¬ Col xs ys R' j)) := by
  have hl2 := (hc _ hI).1
  unfold Does
  k_fill
  intro dp un gd cn cs a ccd cl outer A₀ base h₀ L m s Q E B F X N T hk hd hu hret
  refine wpAny_call ?_
  k_dflt (walk_at "MYENTER")
  walk_at "MYSTEPS3"
  rename Fr _ _ _ _ => F1
  rename News _ _ _ _ => N1
  rename_i l c1 hA l1 hB hC'
  have hne : ∀ p ∈ news, p.1 ≠ l := fun p hp => Nat.ne_of_lt (l1 p hp)
  refine ksw_while (σ := Led × Nat × Rg × Bool) (fun c => c.1) (fun c => [(Str.ofString "going", .bool c.2.2.2), (Str.ofString "left", .ref l), (Str.ofString "rows", .ref rw)])
    (fun c => (∀ p ∈ news, p ∈ c.1) ∧ (l, listOf (RV c.2.2.1).toArray c.2.1) ∈ c.1) [Str.ofString "k"] (fun c => I c.2.2.1 ∧ (c.2.2.2 = false → ∀ j, j < c.2.2.1.length → ¬ Col xs ys c.2.2.1 j)) (fun c => 2 * c.2.2.1.length + (if c.2.2.2 = true then 1 else 0))
    (_, c1, R, true) F1 N1 ⟨fun p hp => .tail _ hp, .head _⟩ ?_ ⟨hI, fun q => by cases q⟩ ?_
  · walk_at "MYPS"
  clear F1 N1 hI hl2
  rintro ⟨led1, k3, R1, g⟩ u h1 tk1 ⟨hS, hl1⟩ ⟨hI, hg⟩ F1 N1
  dsimp only at hS hl1 hI hg F1 N1
  obtain ⟨hl2, hlt⟩ := hc _ hI
  k_fold
  have hR1 := hR.sub hS
  have hrw1 := hS _ hrw
  walk_at "MYSTEPS3"
  · rename Fr _ _ _ _ => F2
    with_unfolding_all refine' For_invVF F2 ?k1 ?k2 ?_
    case k1 => exact rfl
    case k2 => exact rfl
    walk_at "MYSTEPS3"
    rename IsRange _ _ _ _ _ _ _ _ => hr
    rename Fr _ _ _ _ => F2
    rename News _ _ _ _ => N2
    have hm : 2 < R1.length := by omega
    have hcase : ∀ j, j < R1.length → ((R1.length : Int) - 1 + ((R1.length - 1 - j : Nat) : Int) * (-1)) = (j : Int) := by intro j hj; omega
    refine rng_loop (σ := Unit) (n := R1.length) (fun _ => led1) (fun _ => [(Str.ofString "going", .bool false), (Str.ofString "left", .ref l), (Str.ofString "rows", .ref rw)]) (fun _ => True) []
      (fun i _ => ∀ j, R1.length ≤ i + j → j < R1.length → ¬ Col xs ys R1 j) () rfl hr (small_down (by omega) (by omega) (by omega) (by omega)) (by rw [rangeSize_downNat]; omega) F2 N2 trivial ?_ (fun j h1 h2 => by omega) ?_ ?_
    · walk_at "MYPS"
    · rintro ⟨⟩ i t u2 h2 tk2 Ia oI hi hcls hIa - hP F3 N3
      obtain ⟨kN, hkN, hkN2, hkN3⟩ : ∃ kN : Nat, ((R1.length : Int) - 1 + (i : Int) * (-1)) = (kN : Int) ∧ kN < R1.length ∧ i + kN + 1 = R1.length := ⟨R1.length - 1 - i, by omega, by omega, by omega⟩
      rw [hkN] at F3
      k_fold
      clear hr F2 N2 hcase
      cases kN with
      | zero =>
        walk_at "MYSTEPS3"
        · rename crossZ _ _ _ _ _ = 0 => hq
          have hcol : Col xs ys R1 0 := by unfold Col; simpa using hq
          have hx := cut R1 0 hI hm hkN2 hcol
          refine ksw_end (⟨_, k3 + 1, R1.eraseIdx 0, true⟩ : Led × Nat × Rg × Bool) (by assumption) (by assumption) (fun _ h => h) ⟨fun p hp => mem_setL (.tail _ (hS p hp)) (hne p hp), mem_setL_self (.tail _ hl1)⟩ (by walk_at "MYPS") (by walk_at "MYSAME") ⟨hx, fun q => by cases q⟩ ?_
          have hle : (R1.eraseIdx 0).length + 1 = R1.length := by rw [List.length_eraseIdx, if_pos hkN2]; omega
          have hgt : g = true := by assumption
          dsimp only
          rw [hgt]
          simp only [if_true]
          omega
        · rename crossZ _ _ _ _ _ ≠ 0 => hq
          have hcol : ¬ Col xs ys R1 0 := by unfold Col; simpa using hq
          refine rng_end () (by assumption) (by assumption) (fun p hp => .tail _ hp) (.head _) hIa trivial (by walk_at "MYPS") (by walk_at "MYSAME2") (fun j h1 h2 => ?_)
          by_cases hj : j = 0
          · rw [hj]; exact hcol
          · exact hP j (by omega) h2
      | succ k' =>
        walk_at "MYSTEPS3"
        · rename crossZ _ _ _ _ _ = 0 => hq
          have hcol : Col xs ys R1 (k' + 1) := by unfold Col; simpa using hq
          have hx := cut R1 (k' + 1) hI hm hkN2 hcol
          refine ksw_end (⟨_, k3 + 1, R1.eraseIdx (k' + 1), true⟩ : Led × Nat × Rg × Bool) (by assumption) (by assumption) (fun _ h => h) ⟨fun p hp => mem_setL (.tail _ (hS p hp)) (hne p hp), mem_setL_self (.tail _ hl1)⟩ (by walk_at "MYPS") (by walk_at "MYSAME") ⟨hx, fun q => by cases q⟩ ?_
          have hle : (R1.eraseIdx (k' + 1)).length + 1 = R1.length := by rw [List.length_eraseIdx, if_pos hkN2]; omega
          have hgt : g = true := by assumption
          dsimp only
          rw [hgt]
          simp only [if_true]
          omega
        · rename crossZ _ _ _ _ _ ≠ 0 => hq
          have hcol : ¬ Col xs ys R1 (k' + 1) := by unfold Col; simpa using hq
          refine rng_end () (by assumption) (by assumption) (fun p hp => .tail _ hp) (.head _) hIa trivial (by walk_at "MYPS") (by walk_at "MYSAME2") (fun j h1 h2 => ?_)
          by_cases hj : j = (k' + 1)
          · rw [hj]; exact hcol
          · exact hP j (by omega) h2
    · rintro ⟨⟩ u2 h2 tk2 - hP F3 N3
      clear hr F2 N2 hcase
      walk_at "MYSTEPS3"
      all_goals (
        refine ksw_end (⟨led1, k3, R1, false⟩ : Led × Nat × Rg × Bool) (by assumption) (by assumption) (fun _ h => h) ⟨hS, hl1⟩ (by walk_at "MYPS") (by walk_at "MYSAME") ⟨hI, fun _ j hj => hP j (by omega) hj⟩ ?_
        have hgt : g = true := by assumption
        dsimp only
        rw [hgt]
        simp only [if_true]
        simp)
  · exact hret _ _ _ _ (by k_asm) (by k_asm) ⟨l, k3, R1, rfl, hl1, hS, hI, .inl (by omega)⟩
  · exact hret _ _ _ _ (by k_asm) (by k_asm) ⟨l, k3, R1, rfl, hl1, hS, hI, .inr (hg (by assumption))⟩
end Mine
end

section
open PySem PySem.W PySem.Calls PyProof.Rows
namespace Mine
theorem calmE13 {w : World} {A : Around} {e : Env} {Q : Flow → Shared → Prop} {E : Value → Shared → Prop} {s : Shared}
    (h : wpAny (model PySem.Challenge.rw_et5009_01.row.prog w) A (execs [] e) Q E s) : wpAny (model PySem.Challenge.rw_et5009_01.row.prog w) A (execs [] e) Q E s := by
  w_top off
  first
    | (walk1; fail "calm")
    | exact h
end Mine
end

section
open PySem PySem.W PySem.Calls PyProof.Rows
set_option Elab.async false
set_option maxRecDepth 100000
set_option maxHeartbeats 8000000
namespace Mine

/-- the points' objects -/
structure PPar where
  pt : Nat → Addr
  pd : Nat → Addr
  xs : Nat → Int
  ys : Nat → Int
  tx : Nat → Tok
  ty : Nat → Tok
  kh : Nat → Nat → Int
  kt : Nat → Nat → Tok
abbrev PPar.ent (P : PPar) (k : Nat) : List DictEntry := [⟨P.kh k 0, .str (Str.ofString "x") (P.kt k 0), .int (P.xs k) (P.tx k)⟩, ⟨P.kh k 1, .str (Str.ofString "y") (P.kt k 1), .int (P.ys k) (P.ty k)⟩]
def PointsIn (P : PPar) (n : Nat) (news : Led) : Prop := ∀ k, k < n → (P.pt k, instObj 31 (P.pd k)) ∈ news ∧ (P.pd k, dictOf (P.ent k) 2) ∈ news
theorem PointsIn.inst {P : PPar} {n : Nat} {news : Led} (N : PointsIn P n news) {k : Nat} (h : k < n) : (P.pt k, instObj 31 (P.pd k)) ∈ news := (N k h).1
theorem PointsIn.dict {P : PPar} {n : Nat} {news : Led} (N : PointsIn P n news) {k : Nat} (h : k < n) : (P.pd k, dictOf (P.ent k) 2) ∈ news := (N k h).2
def PPar.par (P : PPar) : Par := { nd := fun _ => 0, dd := fun _ => 0, pt := P.pt, xs := P.xs, ys := P.ys, ti := fun _ => 0, tx := P.tx, ty := P.ty, tz := fun _ => 0, kh := fun _ _ => 0, kt := fun _ _ => 0 }

def Agr (PP : PPar) (P : Par) : Prop := P.pt = PP.pt ∧ P.xs = PP.xs ∧ P.ys = PP.ys ∧ P.tx = PP.tx ∧ P.ty = PP.ty
/-- P' is P but at the place k -/
def Ext (P P' : Par) (k : Nat) : Prop := ∀ j, j ≠ k → P'.nd j = P.nd j ∧ P'.dd j = P.dd j ∧ ∀ pv nx, P'.ent j pv nx = P.ent j pv nx
theorem node_new {PP : PPar} {P : Par} (a : Agr PP P) (k : Nat) (x d : Addr) (t tz t0 t1 t2 t3 t4 t5 t6 t7 t8 t9 : Tok) (h0 h1 h2 h3 h4 h5 h6 h7 h8 h9 : Int) :
    ∃ P' : Par, Agr PP P' ∧ Ext P P' k ∧ P'.nd k = x ∧ P'.dd k = d ∧ ∀ pv nx, ([⟨h0, .str (Str.ofString "i") t0, .int k t⟩, ⟨h1, .str (Str.ofString "point") t1, .ref (PP.pt k)⟩, ⟨h2, .str (Str.ofString "x") t2, .int (PP.xs k) (PP.tx k)⟩, ⟨h3, .str (Str.ofString "y") t3, .int (PP.ys k) (PP.ty k)⟩, ⟨h4, .str (Str.ofString "prev") t4, pv⟩, ⟨h5, .str (Str.ofString "next") t5, nx⟩, ⟨h6, .str (Str.ofString "z") t6, .int 0 tz⟩, ⟨h7, .str (Str.ofString "prev_z") t7, .none⟩, ⟨h8, .str (Str.ofString "next_z") t8, .none⟩, ⟨h9, .str (Str.ofString "steiner") t9, .bool false⟩] : List DictEntry) = P'.ent k pv nx := by
  obtain ⟨a1, a2, a3, a4, a5⟩ := a
  refine ⟨{ P with nd := fun j => if j = k then x else P.nd j, dd := fun j => if j = k then d else P.dd j, ti := fun j => if j = k then t else P.ti j, tz := fun j => if j = k then tz else P.tz j, kh := fun j i => if j = k then [h0, h1, h2, h3, h4, h5, h6, h7, h8, h9].getD i 0 else P.kh j i, kt := fun j i => if j = k then [t0, t1, t2, t3, t4, t5, t6, t7, t8, t9].getD i 0 else P.kt j i }, ⟨a1, a2, a3, a4, a5⟩, ?_, ?_, ?_, ?_⟩
  · intro j hj
    refine ⟨by simp [hj], by simp [hj], fun pv nx => by simp [Par.ent, hj]⟩
  · simp
  · simp
  · intro pv nx
    simp [Par.ent, a1, a2, a3, a4, a5]
theorem Agr.pt {PP : PPar} {P : Par} (a : Agr PP P) : P.pt = PP.pt := a.1
/-- the new node's links: behind j -/
def St.put (st : St) (k j : Nat) : St := { pv := fun i => if i = k then j else st.pv i, nx := fun i => if i = k then st.nx j else st.nx i }
def St.ins (st : St) (k j : Nat) : St := ((st.put k j).setPv (st.nx j) k).setNx j k
theorem NodesIn.put {P P' : Par} {k j : Nat} {st : St} {news : Led} {x d : Addr} {es : List DictEntry} (hN : NodesIn P k st news) (hC : Closed k st) (hE : Ext P P' k) (hx : P'.nd k = x) (hd : P'.dd k = d) (hj : j < k)
    (he : es = P'.ent k (.ref (P.nd j)) (.ref (P.nd (st.nx j)))) : NodesIn P' (k + 1) (st.put k j) ((x, instObj 59 d) :: (d, dictOf es 10) :: news) := by
  intro i hi
  by_cases e : i = k
  · subst e
    have h1 := (hE j (by omega)).1
    have h2 := (hE (st.nx j) (by have := hC.nx hj; omega)).1
    refine ⟨by rw [hx, hd]; exact .head _, ?_⟩
    simp only [St.put, if_true]
    rw [h1, h2, ← he, hd]
    exact .tail _ (.head _)
  · have hi' : i < k := by omega
    obtain ⟨e1, e2, e3⟩ := hE i e
    have h1 := (hE (st.pv i) (by have := hC.pv hi'; omega)).1
    have h2 := (hE (st.nx i) (by have := hC.nx hi'; omega)).1
    refine ⟨by rw [e1, e2]; exact .tail _ (.tail _ (hN i hi').1), ?_⟩
    simp only [St.put, if_neg e]
    rw [h1, h2, e3, e2]
    exact .tail _ (.tail _ (hN i hi').2)
theorem put_new {PP : PPar} {P : Par} {k j : Nat} {st : St} {news : Led} {x d : Addr} {t tz t0 t1 t2 t3 t4 t5 t6 t7 t8 t9 : Tok} {h0 h1 h2 h3 h4 h5 h6 h7 h8 h9 : Int} {h₀ h : Heap} {L : Addr}
    (_N : News h₀ L h ((x, instObj 59 d) :: (d, dictOf [⟨h0, .str (Str.ofString "i") t0, .int k t⟩, ⟨h1, .str (Str.ofString "point") t1, .ref (PP.pt k)⟩, ⟨h2, .str (Str.ofString "x") t2, .int (PP.xs k) (PP.tx k)⟩, ⟨h3, .str (Str.ofString "y") t3, .int (PP.ys k) (PP.ty k)⟩, ⟨h4, .str (Str.ofString "prev") t4, .ref (P.nd j)⟩, ⟨h5, .str (Str.ofString "next") t5, .ref (P.nd (st.nx j))⟩, ⟨h6, .str (Str.ofString "z") t6, .int 0 tz⟩, ⟨h7, .str (Str.ofString "prev_z") t7, .none⟩, ⟨h8, .str (Str.ofString "next_z") t8, .none⟩, ⟨h9, .str (Str.ofString "steiner") t9, .bool false⟩] 10) :: news)) (a : Agr PP P) (hN : NodesIn P k st news) (hC : Closed k st) (hj : j < k) :
    ∃ P' : Par, Agr PP P' ∧ Ext P P' k ∧ P'.nd k = x ∧ P'.dd k = d ∧ NodesIn P' (k + 1) (st.put k j) ((x, instObj 59 d) :: (d, dictOf [⟨h0, .str (Str.ofString "i") t0, .int k t⟩, ⟨h1, .str (Str.ofString "point") t1, .ref (PP.pt k)⟩, ⟨h2, .str (Str.ofString "x") t2, .int (PP.xs k) (PP.tx k)⟩, ⟨h3, .str (Str.ofString "y") t3, .int (PP.ys k) (PP.ty k)⟩, ⟨h4, .str (Str.ofString "prev") t4, .ref (P.nd j)⟩, ⟨h5, .str (Str.ofString "next") t5, .ref (P.nd (st.nx j))⟩, ⟨h6, .str (Str.ofString "z") t6, .int 0 tz⟩, ⟨h7, .str (Str.ofString "prev_z") t7, .none⟩, ⟨h8, .str (Str.ofString "next_z") t8, .none⟩, ⟨h9, .str (Str.ofString "steiner") t9, .bool false⟩] 10) :: news) := by
  obtain ⟨P', hA, hE, hx, hd, he⟩ := node_new a k x d t tz t0 t1 t2 t3 t4 t5 t6 t7 t8 t9 h0 h1 h2 h3 h4 h5 h6 h7 h8 h9
  exact ⟨P', hA, hE, hx, hd, hN.put hC hE hx hd hj (he _ _)⟩
theorem Closed.put {k j : Nat} {st : St} (hC : Closed k st) (hj : j < k) : Closed (k + 1) (st.put k j) := fun i hi => by
  unfold St.put; dsimp only
  by_cases e : i = k
  · rw [if_pos e, if_pos e]; have := hC.nx hj; omega
  · rw [if_neg e, if_neg e]
    have a := hC.pv (show i < k by omega); have b := hC.nx (show i < k by omega); omega

local macro_rules | `(tactic| walk_at "MYIX") => `(tactic| first | assumption | exact Closed.pv (by assumption) (by walk_at "MYIX") | exact Closed.nx (by assumption) (by walk_at "MYIX"))
local macro_rules | `(tactic| k_mem) => `(tactic| first | exact NodesIn.inst (by assumption) (by walk_at "MYIX") | exact NodesIn.dict (by assumption) (by walk_at "MYIX"))
local macro_rules | `(tactic| mul_fits) => `(tactic| first | exact SmallY.left (by assumption) (by walk_at "MYIX") (by walk_at "MYIX") _ | exact SmallY.right (by assumption) (by walk_at "MYIX") (by walk_at "MYIX") _)
local macro_rules | `(tactic| walk_at "compareOp Eq ref") => `(tactic| (k_here; (with_reducible show wpAny _ _ (compareOp CmpOp.Eq (Value.ref _) _) _ _ _); (refine cmp_ofEq ?_); k_dflt (refine' cmp_K ?k1 ?k2 ?k3 ?k4 ?k5 ?k6 ?k7 ?k8 ?_; (case k1 => ktr_units); (case k2 => k_asm); (case k3 => k_asm); (case k4 => k_inst); (case k5 => k_typeOf); (case k6 => k_is); (case k7 => k_is); (case k8 => k_is); k_whole)))
local macro_rules | `(tactic| walk_at "MYUSE") => `(tactic| ((case B => k_asm); (case F => k_asm); (case X => k_asm); (try (case N => k_asm)); (case T => k_asm); (case kk => first | exact rfl | assumption); (case d => ktr_room); (case u => ktr_units)))
local macro_rules | `(tactic| walk_at "MYENTER") => `(tactic| (refine' code_def ?k1 ?k2 ?k3 ?k4 ?k5 ?kA ?kF ?kK ?k6 ?k7 ?k8 ?k9 ?kB ?_ ?c2 ?c3 ?c4 ?c5; (case kA => exact rfl); (case kF => exact rfl); (case kK => first | exact rfl | assumption); (case k1 => k_asm); (case k2 => k_asm); (case k3 => k_asm); (case k4 => k_asm); (case k5 => k_asm); (case k6 => k_is); (case k7 => k_is); (case k8 => ktr_room); (case k9 => first | exact BindsTo.of_eq rfl | exact binds_K (by k_in) rfl (by k_is) rfl rfl rfl); (case c5 => decide); (case kB => exact locs rfl); (case c2 => exact rfl); (case c3 => exact rfl); (case c4 => exact rfl); k_whole; intro g' L' h' FG' F' N' B' X' T'; (try dsimp only); (try k_fold)))
local macro_rules | `(tactic| walk_at "MYPS") => `(tactic| (intro q hq; simp only [List.mem_cons, List.not_mem_nil, or_false] at hq; (first | (subst hq; rfl) | (rcases hq with e | e <;> (subst e; rfl)) | (rcases hq with e | e | e <;> (subst e; rfl)) | (rcases hq with e | e | e | e <;> (subst e; rfl)) | (rcases hq with e | e | e | e | e <;> (subst e; rfl)))))
local macro_rules | `(tactic| walk_at "MYSAME") => `(tactic| (intro z h2 h3; simp only [List.forall_mem_cons, List.not_mem_nil, false_implies, implies_true, and_true, ne_eq] at h2; simp only [List.contains_cons, List.contains_nil, Bool.or_false, Bool.or_eq_false_iff, beq_eq_false_iff_ne, ne_eq] at h3; simp [h2, h3, kstB]; done))
local macro_rules | `(tactic| walk_at "MYSTEPS") => `(tactic| repeat' (first | ((fail_if_success (with_reducible show wpAny _ _ (exec (Stmt.While _ _ _ _) _) _ _ _)); (fail_if_success (with_reducible show KswEnd _ _ _ _ _ _ _ _ _ _ _ _)); (first | (k_unfold; (try dsimp only)) | (k_end; wrow_close) | walk1 | (dsimp only; walk1) | (leave1; walk_say "STEP leave1"; try dsimp only))) | fail "no step"))
local macro_rules | `(tactic| walk_at "MYSTEPS2") => `(tactic| repeat' (first | ((fail_if_success (with_reducible show wpAny _ _ (exec (Stmt.While _ _ _ _) _) _ _ _)); (fail_if_success (with_reducible show KswEnd _ _ _ _ _ _ _ _ _ _ _ _)); (fail_if_success (with_reducible show wpAny _ _ (subscriptTail _ _ (Value.ref _) (Value.int 2 _)) _ _ _)); (first | (k_unfold; (try dsimp only)) | (k_end; wrow_close) | walk1 | (dsimp only; walk1) | (leave1; walk_say "STEP leave1"; try dsimp only))) | fail "no step"))
local macro_rules | `(tactic| walk_at "call ref") => `(tactic| (k_here; k_dflt (refine' call_cls ?k1 ?k2 ?k3 ?k4 ?k5 ?k6 ?_; (case k1 => k_asm); (case k2 => k_asm); (case k3 => k_asm); (case k4 => k_is); (case k5 => k_is); (case k6 => k_is); k_whole; intro x' d' h' F' N' l1 l2; (try k_lt l1); (try k_lt2 l2); (try k_sweep); walk_at "MYENTER")))
local macro_rules | `(tactic| walk_at "MYSTEPSN") => `(tactic| repeat' (first | ((fail_if_success (with_reducible show wpAny _ _ (setAttr (Value.ref (Par.nd _ _)) _ _) _ _ _)); (first | (k_unfold; (try dsimp only)) | (k_end; wrow_close) | walk1 | (dsimp only; walk1) | (leave1; walk_say "STEP leave1"; try dsimp only))) | fail "no step"))

local macro_rules | `(tactic| k_mem) => `(tactic| first | exact PointsIn.inst (by assumption) (by assumption) | exact PointsIn.dict (by assumption) (by assumption))

theorem insert0_c {w : World} {mean : ExcName → Option Value} {mg mb : Str → Option Value} {news : Led} {PP : PPar} {n : Nat} {t : Tok} (hP : PointsIn PP n news) (hk' : 0 < n) :
    Does w mean mg mb 98 4 64 news [.int ((0 : Nat) : Int) t, .ref (PP.pt 0), .none] (fun news' v => ∃ P' : Par, Agr PP P' ∧ NodesIn P' 1 ⟨fun _ => 0, fun _ => 0⟩ news' ∧ (∀ p ∈ news, p ∈ news') ∧ v = .ref (P'.nd 0)) := by
  unfold Does
  k_fill
  intro dp un gd cn cs a ccd cl outer A₀ base h₀ L m s Q E B F X N T hk hd hu hret
  refine wpAny_call ?_
  k_dflt (walk_at "MYENTER")
  walk_at "MYSTEPSN"
  obtain ⟨P', hA, hE, hx, hd', he⟩ := node_new (PP := PP) (P := PP.par) ⟨rfl, rfl, rfl, rfl, rfl⟩ 0 _ _ _ _ _ _ _ _ _ _ _ _ _ _ _ _ _ _ _ _ _ _ _ _
  refine hret _ _ _ _ (by k_asm) (by assumption) ⟨P', hA, ?_, fun p hp => .tail _ (.tail _ hp), ?_⟩
  · intro i hi
    obtain rfl : i = 0 := by omega
    rw [hx, hd', ← he]
    exact ⟨.head _, .tail _ (.head _)⟩
  · rw [hx]
theorem insert1_c {w : World} {mean : ExcName → Option Value} {mg mb : Str → Option Value} {news : Led} {PP : PPar} {P : Par} {st : St} {n k : Nat} {t : Tok} {j : Nat} (hP : PointsIn PP n news) (hk' : k < n) (hA : Agr PP P) (hN : NodesIn P k st news) (hC : Closed k st) (hj : j < k) :
    Does w mean mg mb 98 4 64 news [.int (k : Int) t, .ref (PP.pt k), .ref (P.nd j)] (fun news' v => ∃ P' : Par, Agr PP P' ∧ Ext P P' k ∧ NodesIn P' (k + 1) (st.ins k j) news' ∧ Kept P k news news' ∧ v = .ref (P'.nd k)) := by
  unfold Does
  k_fill
  intro dp un gd cn cs a ccd cl outer A₀ base h₀ L m s Q E B F X N T hk hd hu hret
  refine wpAny_call ?_
  k_dflt (walk_at "MYENTER")
  walk_at "MYSTEPSN"
  rename News _ _ _ _ => N1
  obtain ⟨P', hA', hE, hx, hd', hM⟩ := put_new N1 hA hN hC hj
  have hC1 := hC.put hj
  have e1 : P.nd (st.nx j) = P'.nd (st.nx j) := ((hE (st.nx j) (by have := hC.nx hj; omega)).1).symm
  have e2 : P.nd j = P'.nd j := ((hE j (by omega)).1).symm
  have hnj : st.nx j < k + 1 := by have := hC.nx hj; omega
  rename Fr _ _ _ _ => F1
  subst hx
  rw [e1]
  k_dflt (refine' set_prev ?F ?X ?N hM hnj ?_)
  case F => k_asm
  case X => k_asm
  case N => k_asm
  intro h2 n2 F2 N2 M2 K2
  walk_at "MYSTEPSN"
  rename Fr _ _ _ _ => F3
  rename News _ _ _ _ => N3
  rw [e2]
  k_dflt (refine' set_next ?F ?X ?N M2 (by omega : j < k + 1) ?_)
  case F => k_asm
  case X => k_asm
  case N => k_asm
  intro h4 n4 F4 N4 M4 K4
  walk_at "MYSTEPSN"
  rename ∀ p ∈ news, p.1 < _ => l1
  refine hret _ _ _ _ (by k_asm) (by k_asm) ⟨P', hA', hE, M4, fun a o ha hne => ?_, rfl⟩
  have hne' : ∀ i, i < k + 1 → a ≠ P'.dd i := by
    intro i hi
    by_cases e : i = k
    · rw [e, hd']; exact Nat.ne_of_lt (l1 _ ha)
    · rw [(hE i e).2.1]; exact hne i (by omega)
  exact K4 a o (K2 a o (.tail _ (.tail _ ha)) hne') hne'
end Mine
end

section
open PySem PySem.W PySem.Calls PyProof.Rows
set_option Elab.async false
set_option maxRecDepth 100000
set_option maxHeartbeats 8000000
set_option linter.all false
namespace Mine
abbrev Ns := List (Int × Tok)
abbrev NV (N : Ns) : List Value := N.map fun q => .int q.1 q.2
def GoodRow (news : Led) (v : Value) : Prop := ∃ a x y t u, v = .ref a ∧ (a, tupO [.int x t, .int y u]) ∈ news ∧ 0 ≤ y ∧ y ≤ 4
theorem GoodRow.sub {news news' : Led} {v : Value} (h : GoodRow news v) (S : ∀ p ∈ news, p ∈ news') : GoodRow news' v := let ⟨a, x, y, t, u, e, m, r⟩ := h; ⟨a, x, y, t, u, e, S _ m, r⟩
section
variable {prog : Program} {w : World} {A : Around} {E : Value → Shared → Prop} {s : Shared} {h₀ : Heap} {L l : Addr} {m : Str → Option Value} {news : Led} {value slice : PySem.Expr} {N : Ns} {k : Nat} {idx : Int} {u : Tok} {Q : Value → Shared → Prop}
theorem num_at (Nw : News h₀ L s.heap news) (hm : (l, listOf (NV N).toArray k) ∈ news) (hl : N.length ≤ 1000) (hb : 0 < N.length) (h : ∀ f t, Q (.int f t) s)
    (hs : subscripted slice false (.ref l) (.int 0 u) = operate [.ref l, .int 0 u] (getItem (.ref l) (.int 0 u)) := by with_unfolding_all rfl) (hg : ∀ r, letTemporaryGo value (.ref l) r = pure () := by intro _; with_unfolding_all rfl) :
    wpAny (model prog w) A (subscriptTail value slice (.ref l) (.int 0 u)) Q E s := by
  refine item_list (Nw.isList hm) (by omega) (by omega) (x := .int (N.getD 0 (0, 0)).1 (N.getD 0 (0, 0)).2) ?_ (h _ _) hs hg
  simp [List.getElem?_eq_getElem hb, List.getD_eq_getElem?_getD]
theorem num_slice {hi : Int} {t1 tl : Tok} (F : Fr h₀ L s.heap m) (Nw : News h₀ L s.heap news) (hm : (l, listOf (NV N).toArray k) ∈ news) (hl : N.length ≤ 1000) (h1 : 1 ≤ hi)
    (h : ∀ D h', Fr h₀ L h' m → News h₀ L h' ((D, listOf (NV ((N.drop 1).take (hi.toNat - 1))).toArray 0) :: news) → (∀ p ∈ news, p.1 < D) → Q (.ref D) { s with heap := h' })
    (hs : subscripted slice false (.ref l) (.ref s.heap.objs.size) = operate [.ref s.heap.objs.size, .ref l] (getItem (.ref l) (.ref s.heap.objs.size))) (ht : ∀ r, letTemporaryGo value (.ref l) r = pure ()) :
    wpAny (model prog w) A (subscriptTail value slice (.ref l) (.ref s.heap.objs.size)) Q E { s with heap := s.heap.push { cls := .type "slice", data := .fields #[.int 1 t1, .int hi tl, .none] } } := by
  refine kmk_slice_lit F Nw (Nw.isList hm) (.int _ _) (.int _ _) ?_ h hs ht (by simp only [List.size_toArray, List.length_map, sizeLine_eq]; omega)
  rw [kms_pick_eq]
  simp only [kms_pick, kms_lo, kms_hi, if_neg (show ¬ ((1 : Int) < 0) by omega), if_neg (show ¬ (hi < 0) by omega), kmk_drop_min]
  have e : ((NV N).drop (1 : Int).toNat).take (min hi.toNat (NV N).length - min (1 : Int).toNat (NV N).length) = NV ((N.drop 1).take (hi.toNat - 1)) := by
    have e0 : NV ((N.drop 1).take (hi.toNat - 1)) = ((NV N).drop 1).take (hi.toNat - 1) := by simp [List.map_take, List.map_drop]
    rw [e0]
    show ((NV N).drop 1).take (min hi.toNat (NV N).length - min 1 (NV N).length) = ((NV N).drop 1).take (hi.toNat - 1)
    apply List.ext_getElem?
    intro i
    simp only [List.getElem?_take, List.getElem?_drop]
    by_cases hi1 : i < hi.toNat - 1
    · by_cases hi2 : 1 + i < (NV N).length
      · rw [if_pos hi1, if_pos (by omega)]
      · rw [if_pos hi1, List.getElem?_eq_none (by omega)]; split <;> rfl
    · rw [if_neg hi1, if_neg (by omega)]
  exact e
end

section
variable {prog : Program} {w : World} {A : Around} {E : Value → Shared → Prop} {s : Shared} {h₀ : Heap} {L l : Addr} {m : Str → Option Value} {news : Led} {value slice : PySem.Expr} {vs : List Value} {k : Nat} {idx : Int} {u : Tok} {Q : Value → Shared → Prop}
theorem gen_at (Nw : News h₀ L s.heap news) (hm : (l, listOf vs.toArray k) ∈ news) (hl : vs.length ≤ 1000) (j : Nat) (hj : idx = (j : Int)) (hb : j < vs.length) (h : ∀ v, vs[j]? = some v → Q v s)
    (hs : subscripted slice false (.ref l) (.int idx u) = operate [.ref l, .int idx u] (getItem (.ref l) (.int idx u)) := by with_unfolding_all rfl) (hg : ∀ r, letTemporaryGo value (.ref l) r = pure () := by intro _; with_unfolding_all rfl) :
    wpAny (model prog w) A (subscriptTail value slice (.ref l) (.int idx u)) Q E s := by
  subst hj
  refine item_list (Nw.isList hm) (Int.natCast_nonneg j) (by omega) (x := vs[j]) ?_ (h _ (List.getElem?_eq_getElem hb)) hs hg
  simp only [Int.toNat_natCast, List.getElem?_toArray, List.getElem?_eq_getElem hb]
theorem gen_set {v : Value} {Q : Unit → Shared → Prop} (F : Fr h₀ L s.heap m) (N : News h₀ L s.heap news) (hm : (l, listOf vs.toArray k) ∈ news) (hl : vs.length ≤ 1000) (j : Nat) (hj : idx = (j : Int)) (hb : j < vs.length)
    (h : ∀ h', Fr h₀ L h' m → News h₀ L h' (setL l (listOf (vs.set j v).toArray k) news) → Q () { s with heap := h' }) :
    wpAny (model prog w) A (setItem (.ref l) (.int idx u) v) Q E s := by
  subst hj
  obtain ⟨pre, post, e1, e2, a, b⟩ := (upd_last (d := l) (o := listOf vs.toArray k) (o' := listOf (vs.set j v).toArray k) (cut_ne (news := news))).split
  have N1 := news_cut N hm
  rw [e1] at N1
  have z := N1 (l, listOf vs.toArray k) (List.mem_append.mpr (.inr (.head _)))
  refine ki_setAt z.1 (Int.natCast_nonneg j) (by omega) (by rw [List.size_toArray]; omega) (h _ (F.change (Heap.SameBut.update ..) z.2.1 z.2.2) (news_paste ?_))
  rw [e2]
  refine ki_turn _ N1 a b ?_ ?_
  · show vs.toArray.setIfInBounds (j : Int).toNat v = (vs.set j v).toArray
    apply Array.toList_inj.mp
    simp
  · simp
theorem gen_put {v : Value} {Q : Unit → Shared → Prop} (F : Fr h₀ L s.heap m) (N : News h₀ L s.heap news) (hm : (l, listOf vs.toArray k) ∈ news) (hl : vs.length ≤ 1000) (j : Nat) (hj : idx = (j : Int)) (hb : j < vs.length)
    (h : ∀ h' news', Fr h₀ L h' m → News h₀ L h' news' → (l, listOf (vs.set j v).toArray k) ∈ news' → (∀ p ∈ news, p.1 ≠ l → p ∈ news') → (∀ p ∈ news, (∀ its n, p.2 ≠ listOf its n) → p ∈ news') → Q () { s with heap := h' }) :
    wpAny (model prog w) A (setItem (.ref l) (.int idx u) v) Q E s := by
  refine gen_set F N hm hl j hj hb fun h' F' N' => h h' _ F' N' (mem_setL_self hm) (fun p hp hne => mem_setL hp hne) fun p hp hne => mem_setL hp fun e => ?_
  have a := (N p hp).1
  have b := (N _ hm).1
  simp only at a b
  rw [e, b] at a
  exact hne _ _ (Option.some.inj a).symm
theorem gen_len (N : News h₀ L s.heap news) (hm : (l, listOf vs.toArray k) ∈ news) (hl : vs.length ≤ 1000) (h : ∀ t tk, Q (.int (vs.length : Int) t) { s with toks := tk }) : wpAny (model prog w) A (call (.builtin "len") [.ref l]) Q E s := by
  refine len_list (N.isList hm) (by simp only [List.size_toArray]; omega) ?_
  have e : (vs.toArray.size : Int) = (vs.length : Int) := by simp
  rw [e]
  exact h _ _
theorem gen_upto {hi : Int} {tl : Tok} (F : Fr h₀ L s.heap m) (Nw : News h₀ L s.heap news) (hm : (l, listOf vs.toArray k) ∈ news) (hl : vs.length ≤ 1000) (h1 : 0 ≤ hi)
    (h : ∀ D h', Fr h₀ L h' m → News h₀ L h' ((D, listOf (vs.take hi.toNat).toArray 0) :: news) → (∀ p ∈ news, p.1 < D) → Q (.ref D) { s with heap := h' })
    (hs : subscripted slice false (.ref l) (.ref s.heap.objs.size) = operate [.ref s.heap.objs.size, .ref l] (getItem (.ref l) (.ref s.heap.objs.size))) (ht : ∀ r, letTemporaryGo value (.ref l) r = pure ()) :
    wpAny (model prog w) A (subscriptTail value slice (.ref l) (.ref s.heap.objs.size)) Q E { s with heap := s.heap.push { cls := .type "slice", data := .fields #[.none, .int hi tl, .none] } } := by
  obtain ⟨j, rfl⟩ := Int.eq_ofNat_of_zero_le h1
  exact kmk_slice_lit F Nw (Nw.isList hm) .none (.int _ _) (by rw [pick_upto]; simp) h hs ht (by simp only [List.size_toArray, sizeLine_eq]; omega)
theorem mod_any {a : Int} {t u : Tok} (j : Nat) (hj : 0 < j) (h : ∀ i t tk, i < j → Q (.int ((i : Nat) : Int) t) { s with toks := tk }) : wpAny (model prog w) A (binaryOp .Mod (.int a t) (.int (j : Int) u)) Q E s := by
  refine mod_int' (by omega) ?_
  have e1 := Int.fmod_nonneg_of_pos a (show (0 : Int) < (j : Int) by omega)
  have e2 := Int.fmod_lt_of_pos a (show (0 : Int) < (j : Int) by omega)
  obtain ⟨i, hi⟩ := Int.eq_ofNat_of_zero_le e1
  rw [hi]
  exact h i _ _ (by omega)
end
section
variable {M : Model} {A : Around} {E : Value → Shared → Prop} {s : Shared} {h₀ : Heap} {L a c : Addr} {m : Str → Option Value} {news : Led} {cn : Str} {cs : Scope} {ccd : Value} {cl : List (Str × Addr)} {x : Str} {v : Value} {v₀ : Option Value} {o : Obj} {Q : Unit → Shared → Prop}
theorem store_cell (F : Fr h₀ L s.heap m) (N : News h₀ L s.heap news) (hc : cl.lookup x = some c) (hm : (c, o) ∈ news) (hd : o.data = .cell v₀)
    (h : ∀ h' o' news', Fr h₀ L h' m → News h₀ L h' news' → o'.data = .cell (some v) → (c, o') ∈ news' → (∀ p ∈ news, p.1 ≠ c → p ∈ news') → (∀ p ∈ news, (∀ v, p.2.data ≠ .cell v) → p ∈ news') → Q () { s with heap := h' })
    (hk : cs.kind = .function := by rfl) (hx : (envX cn cs L a ccd cl).kindOf x = some .cell := by rfl) : wpAny M A (storeName (envX cn cs L a ccd cl) x v) Q E s := by
  have N1 := news_cut N hm
  have U : ∀ {l : Led}, (∀ p ∈ l, p.1 ≠ c) → UpdF c o (l ++ [(c, o)]) (fun o' => l ++ [(c, o')]) := by
    intro l
    induction l with
    | nil => exact fun _ => .head (fun _ h => nomatch h)
    | cons p r ih => exact fun h => .tail (h p (.head _)) (ih fun q hq => h q (.tail _ hq))
  refine storeX_C F N1 hc (U cut_ne) hd (fun h' o' F' N' hd' => ?_) hk hx
  refine h h' o' _ F' (news_paste N') hd' (mem_setL_self hm) (fun p hp hne => mem_setL hp hne) fun p hp hne => mem_setL hp fun e => ?_
  have a := (N p hp).1
  have b := (N _ hm).1
  simp only at a b
  rw [e, b] at a
  have := Option.some.inj a
  rw [this] at hd
  exact hne _ hd
end
theorem sub_mem {a b : Led} {q : Addr × Obj} (S : ∀ p ∈ a, p ∈ b) (h : q ∈ a) : q ∈ b := S q h
theorem sub_ne {a b : Led} {c q : Addr} {o : Obj} (S : ∀ p ∈ a, p.1 ≠ c → p ∈ b) (h : (q, o) ∈ a) (hne : (@Ne Nat q c)) : (q, o) ∈ b := S _ h hne
theorem sub_lst {a b : Led} {q : Addr} {o : Obj} (S : ∀ p ∈ a, (∀ its n, p.2 ≠ listOf its n) → p ∈ b) (h : (q, o) ∈ a) (hne : ∀ its n, o ≠ listOf its n) : (q, o) ∈ b := S _ h hne
theorem not_list {o : Obj} {v : Option Value} (d : o.data = .cell v) : ∀ its n, o ≠ listOf its n := fun its n z => by rw [z] at d; cases d
theorem sub_cell {a b : Led} {q : Addr} {o : Obj} (S : ∀ p ∈ a, (∀ v, p.2.data ≠ .cell v) → p ∈ b) (h : (q, o) ∈ a) (hne : ∀ v, o.data ≠ .cell v) : (q, o) ∈ b := S _ h hne

open PyProof.Rows.LCg in
theorem comp_rest {prog : Program} {w : World} {A : Around} {h₀ : Heap} {L : Addr} {m : Str → Option Value} {env : Env} {elt : Expr} {x : Str} {scope : Scope} {cl : List (Str × Addr)} {s : Shared} {S : Led → Prop} {P : Nat → Value → Prop}
    {Fin : List Value → Led → Prop} (J : Nat → List Value → Led → Prop) (n : Nat)
    (step : ∀ i ys news, i < n → J i ys news → ∀ v I oI C oC D m₂ h tk (E' : Value → Shared → Prop), P i v → NsObj oC m₂ → m₂ x = some v → Fr h₀ L h m → News h₀ L h ((I, oI) :: (C, oC) :: (D, lst ys) :: news) → Off3 I C D news → ((@Ne Nat I C) ∧ (@Ne Nat I D) ∧ (@Ne Nat C D)) →
      wpAny (model prog w) A (eval elt (compEnvC scope cl C env)) (CompEnd h₀ L m { s with heap := h, toks := tk } I oI C oC D (lst ys) S (fun y news' => J (i + 1) (ys ++ [y]) news')) E' { s with heap := h, toks := tk })
    (fin : ∀ ys news, J n ys news → Fin ys news) : ∀ (k i : Nat) (ys : List Value) (news : Led), i + k = n → J i ys news → CompRest prog w A h₀ L m env elt x scope cl s S P Fin k i ys news := by
  intro k
  induction k with
  | zero =>
    intro i ys news hi hJ
    obtain rfl : i = n := by omega
    exact CompRest.zero (fin _ _ hJ)
  | succ k ih =>
    intro i ys news hi hJ
    refine CompRest.succ fun v I oI C oC D m₂ h tk E' hP hC hx F N off hne => ?_
    refine wpAny_mono (step i ys news (by omega) hJ v I oI C oC D m₂ h tk E' hP hC hx F N off hne) (fun y s₂ hq => ?_) fun _ _ e => e
    obtain ⟨h', tk', news', e, F', N', off', hS, hJ'⟩ := hq
    exact ⟨h', tk', news', e, F', N', off', hS, ih (i + 1) _ _ (by omega) hJ'⟩

section
variable {prog : Program} {w : World} {A : Around} {E : Value → Shared → Prop} {s : Shared} {env : Env} {h₀ : Heap} {x : Str} {body : List Stmt} {Q : Flow → Shared → Prop}
theorem lst_loop {σ : Type} {ax : Addr} {vs : List Value} {k₀ : Nat} {m₀ : Str → Option Value} (Led : σ → Mine.Led) (ps : σ → List (Str × Value)) (Facts : σ → Prop) (stored : List Str) (P : Nat → σ → Prop) (c₀ : σ)
    (hh : A.handled = none) (hsrc : ∀ c, Facts c → (ax, listOf vs.toArray k₀) ∈ Led c) (F : Fr h₀ env.locals s.heap m₀) (N : News h₀ env.locals s.heap (Led c₀)) (hf : Facts c₀) (hk : ∀ p ∈ ps c₀, m₀ p.1 = some p.2) (hp : P 0 c₀)
    (turn : ∀ (c : σ) (i : Nat) v (u : Str → Option Value) h tk I oI, vs[i]? = some v → oI.cls = .type "list_iterator" → (∀ p ∈ Led c, p.1 ≠ I) → Facts c → P i c →
      Fr h₀ env.locals h (fun y => if y = x then some v else kstB (fun z => if stored.contains z then u z else m₀ z) (ps c) y) → News h₀ env.locals h ((I, oI) :: Led c) →
      wpAny (model prog w) A (execs body env) (RngPost h₀ env.locals Led ps Facts x stored m₀ (P (i + 1)) I oI { s with heap := h, toks := tk } Q) E { s with heap := h, toks := tk })
    (done : ∀ (c : σ) (u : Str → Option Value) h tk, Facts c → P vs.length c → Fr h₀ env.locals h (fun y => if y = x then u y else kstB (fun z => if stored.contains z then u z else m₀ z) (ps c) y) → News h₀ env.locals h (Led c) → Q .next { s with heap := h, toks := tk }) :
    wpAny (model prog w) A (pyIter (.ref ax)) (fun it s₂ => LoopAtV prog w A h₀ env x body Q E it s₂) E s := by
  have hls : s.heap.IsList ax vs.toArray := N.isList (hsrc _ hf)
  have hlt : ax < s.heap.objs.size := by obtain ⟨_, e, _⟩ := hls; exact Heap.lt_size e
  have hax := N _ (hsrc _ hf)
  refine wpAny_pyIter_list hls ?_
  have W := Walks.list (prog := prog) (w := w) hh s.heap.objs.size ax (Nat.ne_of_lt hlt) vs.toArray
  let J : Nat → (Str → Option Value) → Mine.Led → Prop := fun i m led => ∃ c : σ, led = Led c ∧ Facts c ∧ (∀ p ∈ ps c, m p.1 = some p.2) ∧ (∀ z, z ≠ x → (∀ p ∈ ps c, z ≠ p.1) → stored.contains z = false → m z = m₀ z) ∧ P i c
  refine ⟨_, _, _, vs.toArray.size, _, _, m₀, Led c₀, J, rfl, W, ?_, ?_, ?_, ⟨⟨_, Heap.get?_push_size _ rfl, rfl, rfl⟩, hls.push _⟩, F.push _, (fun p hp => ⟨Heap.get?_push_of_some _ (N p hp).1, (N p hp).2⟩), ⟨c₀, rfl, hf, hk, fun _ _ _ _ => rfl, hp⟩, ?_, ?_⟩
  · intro hm
    rcases List.mem_cons.mp hm with e | hm
    · exact absurd F.ns.lt (e ▸ Nat.lt_irrefl _)
    · exact hax.2.1 ((List.mem_singleton.mp hm).symm)
  · intro b hb
    rw [List.mem_singleton.mp hb]
    exact next_is_new F
  · intro p hp hI
    exact absurd (Heap.lt_size (N p hp).1) ((List.mem_singleton.mp hI) ▸ Nat.lt_irrefl _)
  · rintro i v m₁ led s₁ own ⟨hh', tk', rfl⟩ hin hP ⟨c, rfl, hf', h1, h2, hp'⟩ hoff hown _ hall hst F₁ N₁
    obtain ⟨oI, hoI, hcls, hdat⟩ := hst.1
    have hin' : (s.heap.objs.size, oI) ∈ own := hall _ (List.mem_cons_self) (next_is_new F) _ hoI
    have hne : ∀ p ∈ Led c, p.1 ≠ s.heap.objs.size := fun p hp e => hoff p hp (List.mem_singleton.mpr e)
    have N₂ : News h₀ env.locals hh' ((s.heap.objs.size, oI) :: Led c) := fun p hp => by
      rcases List.mem_cons.mp hp with rfl | hp
      · exact N₁ _ (List.mem_append_left _ hin')
      · exact N₁ _ (List.mem_append_right _ hp)
    have hsrc' := (N₁ _ (List.mem_append_right _ (hsrc c hf'))).1
    have hown1 : ∀ p ∈ own, p = (s.heap.objs.size, oI) ∨ p = (ax, listOf vs.toArray k₀) := fun p hp => by
      have g := (N₁ p (List.mem_append_left _ hp)).1
      rcases List.mem_cons.mp (hown p hp) with e | e
      · rw [e] at g
        have g2 : hh'.get? s.heap.objs.size = some p.2 := g
        rw [hoI] at g2
        exact .inl (Prod.ext e (Option.some.inj g2).symm)
      · have e := List.mem_singleton.mp e
        rw [e] at g
        have g2 : hh'.get? ax = some p.2 := g
        have g3 : hh'.get? ax = some (listOf vs.toArray k₀) := hsrc'
        rw [g3] at g2
        exact .inr (Prod.ext e (Option.some.inj g2).symm)
    refine wpAny_mono (turn c i v m₁ hh' tk' s.heap.objs.size oI (by simpa using hP) hcls hne hf' hp' (kst_fr h1 h2 F₁) N₂) (fun f s₂ p => ?_) fun _ _ e => e
    have fin : RngEnd h₀ env.locals Led ps Facts x stored m₀ (P (i + 1)) s.heap.objs.size oI { s with heap := hh', toks := tk' } s₂ → LoopStepU h₀ env.locals [s.heap.objs.size] own (J (i + 1)) { s with heap := hh', toks := tk' } .next s₂ := by
      rintro ⟨c', h', tk, m', news', e, F', N', hn', ho, hI, hf9, hk9, hr9, hp9⟩
      refine ⟨rfl, h', tk, m', Led c', e, F', fun p hp => ?_, fun p hp hq => hI p hp (List.mem_singleton.mp hq), c', rfl, hf9, hk9, hr9, hp9⟩
      rcases List.mem_append.mp hp with q | q
      · rcases hown1 p q with e | e
        · rw [e]; exact N' _ ho
        · rw [e]; exact N' _ (hn' _ (hsrc c' hf9))
      · exact N' _ (hn' p q)
    cases f with
    | ret v => exact .ret p
    | brk => exact .brk p
    | next => exact .next (fin p)
    | cont => exact .cont (fin p)
  · rintro h' tk m' news' F' N' _ ⟨c, rfl, hf', h1, h2, hp'⟩
    rw [List.size_toArray] at hp'
    exact done c m' h' tk hf' hp' (kst_frOut h1 h2 F') N'
end
section
open PyProof.Rows.LCg
variable {prog : Program} {w : World} {A : Around} {E : Value → Shared → Prop} {s : Shared} {h₀ : Heap} {L : Addr} {m : Str → Option Value} {env : Env}
/-- what a comprehension over a range of any step asks -/
def SrcRg (prog : Program) (w : World) (A : Around) (h₀ : Heap) (L : Addr) (m : Str → Option Value) (env : Env) (elt : Expr) (x : Str) (scope : Scope) (cl : List (Str × Addr)) (Fin : Shared → List Value → Led → Prop) (xv : Value) (s₁ : Shared) : Prop :=
  ∃ (r : Addr) (a b c : Int) (t u v : Tok) (n : Nat) (led : Led), xv = .ref r ∧ A.handled = none ∧ Fr h₀ L s₁.heap m ∧ News h₀ L s₁.heap led ∧ IsRange s₁.heap r a b c t u v ∧ Builtin.Range.small a b c = true ∧ Builtin.Range.rangeSize a b c = ((n : Nat) : Int) ∧ n ≤ sizeLine ∧
    ∀ g, CompRest prog w A h₀ L m env elt x scope cl { s₁ with heap := g } (fun _ => True) (fun i v => ∃ t, v = .int (a + (i : Int) * c) t) (Fin { s₁ with heap := g }) n 0 [] led
theorem comp_range {elt iter : Expr} {x : Str} {px : Pos} {scope : Scope} {cl : List (Str × Addr)} {pos : Pos} {Q : Value → Shared → Prop} (F₀ : Fr h₀ L s.heap m)
    (hclos : closureFor scope env = pure cl) (hcell : ∀ y ∈ scope.names, y.2 ≠ .cell) (hkind : scope.kind = .function)
    (hnames : ∀ y ∈ scope.names, y.2 = .local → scope.names.lookup y.1 = some .local) (hx : scope.names.lookup x = some .local)
    (h : wpAny (model prog w) A (eval iter env) (SrcRg prog w A h₀ L m env elt x scope cl (fun s₂ => FinE h₀ L m s₂ Q)) E s)
    (hs : ∀ x, foldedSetIterable iter env x = pure x := by intro _; rfl) :
    wpAny (model prog w) A (eval (.ListComp elt [⟨.Name x px, iter, [], 0⟩] scope pos) env) Q E s := by
  rw [eval_ListComp]
  refine wpAny_comprehension_free (use := none) rfl hs hclos hkind hnames (wpAny_mono h (fun xv s₁ h₁ => ?_) fun _ _ e => e)
  obtain ⟨r, a, b, c, t, u, v, n, led, rfl, hh, F, N, hr, hsm, hn, hsz, R⟩ := h₁
  refine wpAny_pyIter_range hr hsm ?_
  refine block_U (Walks.range hh s₁.heap.objs.size a c n) hsz (fun i h st => ⟨_, st⟩) ?_ hcell hkind hx (by show IsRangeIter _ _ _ _ _; rw [hn]; simpa using Heap.get?_push_size _ rfl) (fun b hb => ?_)
    (F.keeps fun _ _ e => Heap.get?_push_of_some _ e) (N.grown fun _ _ e => Heap.get?_push_of_some _ e) (Nat.ne_of_lt F.ns.lt) (next_is_new F) (fun p hp => Nat.ne_of_lt (Heap.lt_size (N p hp).1)) trivial (R _) ?_
  · intro i h h' o nw st e e' _ _ _
    have st' : h.get? s₁.heap.objs.size = some _ := st
    show h'.get? s₁.heap.objs.size = some _
    rw [e', ← e]; exact st'
  · rw [List.mem_singleton.mp hb]
    show s₁.heap.objs.size < (s₁.heap.push _).objs.size
    rw [Heap.size_push]; exact Nat.lt_succ_self _
  · intro D C h tk m' ys news' F' N' o1 hn hC₀ hD₀ hCL hDL hCD offC fin
    refine ⟨m', hn, fun h'' hs'' => fin D h'' tk (F'.change hs'' hCL hC₀) (fun p hp => ?_) o1⟩
    refine ⟨hs''.extBut _ _ ?_ (N' p hp).1, (N' p hp).2⟩
    rcases List.mem_cons.mp hp with rfl | hp
    · exact Ne.symm hCD
    · exact offC p hp
end
open PyProof.Rows.LCg in
theorem comp_end1 {h₀ : Heap} {L I C D t : Addr} {m : Str → Option Value} {s₁ : Shared} {oI oC oD o : Obj} {S : Led → Prop} {rest : Value → Led → Prop} {y : Value} {h' : Heap} {tk : Nat} {led : Led} {X : Prop}
    (F : Fr h₀ L h' m) (N : News h₀ L h' ((t, o) :: (I, oI) :: (C, oC) :: (D, oD) :: led)) (off : Off3 I C D led) (l : I < t ∧ C < t ∧ D < t ∧ X) (hS : S ((t, o) :: led)) (r : rest y ((t, o) :: led)) :
    CompEnd h₀ L m s₁ I oI C oC D oD S rest y { s₁ with heap := h', toks := tk } := by
  refine CompEnd.intro F N ((t, o) :: led) ?_ ⟨⟨Nat.ne_of_gt l.1, Nat.ne_of_gt l.2.1, Nat.ne_of_gt l.2.2.1⟩, off⟩ hS r
  intro p hp
  simp only [List.mem_cons] at hp ⊢
  rcases hp with q | q | q | q | q <;> simp [q]
open PyProof.Rows.LCg in
theorem comp_end0 {h₀ : Heap} {L I C D : Addr} {m : Str → Option Value} {s₁ : Shared} {oI oC oD : Obj} {S : Led → Prop} {rest : Value → Led → Prop} {y : Value} {h' : Heap} {tk : Nat} {led : Led}
    (F : Fr h₀ L h' m) (N : News h₀ L h' ((I, oI) :: (C, oC) :: (D, oD) :: led)) (off : Off3 I C D led) (hS : S led) (r : rest y led) :
    CompEnd h₀ L m s₁ I oI C oC D oD S rest y { s₁ with heap := h', toks := tk } := CompEnd.intro F N led (fun _ h => h) off hS r
theorem GoodRow.lst {a b : Led} {v : Value} (h : GoodRow a v) (S : ∀ p ∈ a, (∀ its n, p.2 ≠ listOf its n) → p ∈ b) : GoodRow b v := let ⟨a, x, y, t, u, e, m, r⟩ := h; ⟨a, x, y, t, u, e, S _ m (fun _ _ z => by simp at z), r⟩
theorem GoodRow.cell {a b : Led} {v : Value} (h : GoodRow a v) (S : ∀ p ∈ a, (∀ v, p.2.data ≠ .cell v) → p ∈ b) : GoodRow b v := let ⟨a, x, y, t, u, e, m, r⟩ := h; ⟨a, x, y, t, u, e, S _ m (fun _ z => by cases z), r⟩
theorem lt_up {d : Nat} {news : Led} (h : ∀ p ∈ news, p.1 < d) : ∀ p ∈ news, p.1 < d + 1 := fun p hp => Nat.lt_succ_of_lt (h p hp)
end Mine
end

section
open PySem PySem.W PySem.Calls PyProof.Rows
namespace Mine
theorem calmE15 {w : World} {A : Around} {e : Env} {Q : Flow → Shared → Prop} {E : Value → Shared → Prop} {s : Shared}
    (h : wpAny (model PySem.Challenge.rw_et5009_01.row.prog w) A (execs [] e) Q E s) : wpAny (model PySem.Challenge.rw_et5009_01.row.prog w) A (execs [] e) Q E s := by
  w_top off
  first
    | (walk1; fail "calm")
    | exact h
end Mine
end

section
open PySem PySem.W PySem.Calls PyProof.Rows
set_option Elab.async false
set_option maxRecDepth 100000
set_option maxHeartbeats 2000000
set_option linter.all false
namespace Mine
theorem le5 (x : Int) : 1 ≤ 5 + Int.fmod x 6 := by have := Int.fmod_nonneg_of_pos x (show (0 : Int) < 6 by omega); omega
theorem le51 (x : Int) : 1 ≤ 1 + Int.fmod x 4 := by have := Int.fmod_nonneg_of_pos x (show (0 : Int) < 4 by omega); omega
theorem le54 (x : Int) : 0 ≤ 5 + Int.fmod x 4 := by have := Int.fmod_nonneg_of_pos x (show (0 : Int) < 4 by omega); omega

local macro_rules | `(tactic| walk_at "MYENTER") => `(tactic| (refine' code_def ?k1 ?k2 ?k3 ?k4 ?k5 ?kA ?kF ?kK ?k6 ?k7 ?k8 ?k9 ?kB ?_ ?c2 ?c3 ?c4 ?c5; (case kA => exact rfl); (case kF => exact rfl); (case kK => first | exact rfl | assumption); (case k1 => k_asm); (case k2 => k_asm); (case k3 => k_asm); (case k4 => k_asm); (case k5 => k_asm); (case k6 => k_is); (case k7 => k_is); (case k8 => ktr_room); (case k9 => first | exact BindsTo.of_eq rfl | exact binds_K (by k_in) rfl (by k_is) rfl rfl rfl); (case c5 => decide); (case kB => exact locs rfl); (case c2 => exact rfl); (case c3 => exact rfl); (case c4 => exact rfl); k_whole; intro g' L' h' FG' F' N' B' X' T'; (try dsimp only); (try k_fold)))
local macro_rules | `(tactic| walk_at "MYENTERC") => `(tactic| (refine' code_defC ?k1 ?k2 ?k3 ?k4 ?k5 ?kA ?kF ?kK ?k6 ?k7 ?k8 ?k9 ?kB ?kD ?_ ?c2 ?c3 ?c4; (case kA => exact rfl); (case kF => exact rfl); (case kK => first | exact rfl | assumption); (case k1 => k_asm); (case k2 => k_asm); (case k3 => k_asm); (case k4 => k_asm); (case k5 => k_asm); (case k6 => k_is); (case k7 => k_is); (case k8 => ktr_room); (case k9 => first | exact BindsTo.of_eq rfl | exact binds_K (by k_in) rfl (by k_is) rfl rfl rfl); (case kB => exact rfl); (case kD => decide +kernel); (case c2 => exact rfl); (case c3 => exact rfl); (case c4 => exact rfl); k_whole; intro g' L' h' tk' cells' FG' F' N' Y' B' X' T' l1; (try k_lt l1); k_cells Y'; (try simp only [List.cons_append, List.nil_append] at N'); (try dsimp only); (try k_fold)))
local macro_rules | `(tactic| walk_at "MYPS") => `(tactic| (intro q hq; simp only [List.mem_cons, List.not_mem_nil, or_false] at hq; (first | (subst hq; rfl) | (rcases hq with e | e <;> (subst e; rfl)) | (rcases hq with e | e | e <;> (subst e; rfl)) | (rcases hq with e | e | e | e <;> (subst e; rfl)) | (rcases hq with e | e | e | e | e <;> (subst e; rfl)))))
local macro_rules | `(tactic| walk_at "MYSAME") => `(tactic| (intro z h2 h3; simp only [List.forall_mem_cons, List.not_mem_nil, false_implies, implies_true, and_true, ne_eq] at h2; simp only [List.contains_cons, List.contains_nil, Bool.or_false, Bool.or_eq_false_iff, beq_eq_false_iff_ne, ne_eq] at h3; simp [h2, h3, kstB]; done))
local macro_rules | `(tactic| walk_at "MYSTEPS4") => `(tactic| repeat' (first | ((fail_if_success (with_reducible show wpAny _ _ (exec (Stmt.While _ _ _ _) _) _ _ _)); (fail_if_success (with_reducible show wpAny _ _ (exec (Stmt.For _ _ _ _ _) _) _ _ _)); (fail_if_success (with_reducible show wpAny _ _ (pyIter _) (fun it s₂ => LoopAtV _ _ _ _ _ _ _ _ _ it s₂) _ _)); (fail_if_success (with_reducible show KswEnd _ _ _ _ _ _ _ _ _ _ _ _)); (fail_if_success (with_reducible show RngEnd _ _ _ _ _ _ _ _ _ _ _ _ _)); (fail_if_success (with_reducible show PyProof.Rows.LCg.CompEnd _ _ _ _ _ _ _ _ _ _ _ _ _ _)); (fail_if_success (with_reducible show SrcRg _ _ _ _ _ _ _ _ _ _ _ _ _ _)); (fail_if_success (with_reducible show PyProof.Rows.LCg.CompSrc _ _ _ _ _ _ _ _ _ _ _ _ _ _)); (first | (k_unfold; (try dsimp only)) | (k_end; wrow_close) | walk1 | (dsimp only; walk1) | (leave1; walk_say "STEP leave1"; try dsimp only))) | fail "no step"))
local macro_rules | `(tactic| walk_at "RngPost") => `(tactic| (dsimp only [RngPost]))
local macro_rules | `(tactic| walk_at "MYMEM") => `(tactic| first | with_reducible assumption | (with_reducible refine List.mem_cons_of_mem _ ?_; walk_at "MYMEM") | with_reducible exact List.mem_cons_self)
local macro_rules | `(tactic| k_mem) => `(tactic| walk_at "MYMEM")
local macro_rules | `(tactic| walk_at "eval Call") => `(tactic| (k_here; (with_reducible show wpAny _ _ (eval (Expr.Call (Expr.Name _ _) _ [] _) _) _ _ _); k_dflt (refine Call_ ?_)))
theorem rim_c {w : World} {mean : ExcName → Option Value} {mg mb : Str → Option Value} {news : Led} :
    Does w mean mg mb 134 4 64 news [] (fun news' v => ∃ (l : Addr) (vs : List Value) (k : Nat), v = .ref l ∧ (l, listOf vs.toArray k) ∈ news' ∧ vs.length = 8 ∧ (∀ v ∈ vs, GoodRow news' v) ∧ (∀ p ∈ news, p ∈ news') ∧ (∀ p ∈ news, p.1 ≠ l)) := by
  unfold Does
  k_fill
  intro dp un gd cn cs a ccd cl outer A₀ base h₀ L m s Q E B F X N T hk hd hu hret
  refine wpAny_call ?_
  k_dflt (walk_at "MYENTER")
  walk_at "MYSTEPS4"
  refine hret _ _ _ _ (by k_asm) (by k_asm) ⟨_, _, 0, rfl, .head _, rfl, ?_, fun p hp => ?_, tbn_neAll (by tbn_find)⟩
  · intro v hv
    simp only [List.mem_cons, List.not_mem_nil, or_false] at hv
    rcases hv with rfl | rfl | rfl | rfl | rfl | rfl | rfl | rfl
    all_goals exact ⟨_, _, _, _, _, rfl, by repeat (first | exact List.Mem.head _ | refine List.Mem.tail _ ?_), by decide, by decide⟩
  · repeat (first | exact hp | refine List.Mem.tail _ ?_)
local macro_rules | `(tactic| walk_at "MYMEM") => `(tactic| first | with_reducible assumption | (with_reducible refine List.mem_cons_of_mem _ ?_; walk_at "MYMEM") | with_reducible exact List.mem_cons_self | (refine' sub_mem ?S ?_; (case S => with_reducible assumption); walk_at "MYMEM") | (refine' sub_cell ?S ?h ?n; (case S => with_reducible assumption); (case h => walk_at "MYMEM"); (case n => (intro v z; cases z))) | (refine' sub_ne ?S ?h ?n; (case S => with_reducible assumption); (case h => walk_at "MYMEM"); (case n => omega)) | (refine' sub_lst ?S ?h ?n; (case S => with_reducible assumption); (case h => walk_at "MYMEM"); (case n => first | (intro _ _ z; simp at z; done) | (refine' not_list ?d; (case d => with_reducible assumption)))))
local macro_rules | `(tactic| walk_at "storeName") => `(tactic| (k_here; k_dflt (refine' store_cell ?F ?N ?c ?m ?d ?_ ?a ?b; (case a => rfl); (case b => rfl); (case F => k_asm); (case N => k_asm); (case c => rfl); (case m => walk_at "MYMEM"); (case d => with_reducible assumption); k_whole; intro h' o' n' F' N' d' M' S' S2'; (try k_sweep))))
local macro_rules | `(tactic| walk_at "MYSUB") => `(tactic| first
  | (refine' item_tupleT ?t ?a ?b ?c ?d ?_; (case t => (refine' News.isTup ?N ?m; (case N => k_asm); (case m => walk_at "MYMEM"))); (case a => decide); (case b => decide); (case c => rfl); (case d => rfl); k_whole)
  | ((with_reducible show wpAny _ _ (subscriptTail _ _ (Value.ref _) (Value.int 0 _)) _ _ _); refine' num_at ?N ?m ?l ?b ?_ ?s ?g; (case N => k_asm); (case m => walk_at "MYMEM"); (case l => omega); (case b => omega); (case s => with_unfolding_all rfl); (case g => (intro _; with_unfolding_all rfl)); k_whole; intro f' t')
  | (refine' gen_at ?N ?m ?l _ ?j ?b ?_ ?s ?g; (case N => k_asm); (case m => walk_at "MYMEM"); (case l => omega); (case j => exact rfl); (case b => omega); (case s => with_unfolding_all rfl); (case g => (intro _; with_unfolding_all rfl)); k_whole; intro v' e'))
local macro_rules | `(tactic| walk_at "subscriptTail") => `(tactic| (k_here; (with_reducible show wpAny _ _ (subscriptTail _ _ (Value.ref _) (Value.int _ _)) _ _ _); k_dflt (walk_at "MYSUB")))
local macro_rules | `(tactic| walk_at "subscriptTail Name") => `(tactic| (k_here; (with_reducible show wpAny _ _ (subscriptTail _ _ (Value.ref _) (Value.int _ _)) _ _ _); k_dflt (walk_at "MYSUB")))
local macro_rules | `(tactic| walk_at "subscriptTail Name Constant ref int") => `(tactic| (k_here; (with_reducible show wpAny _ _ (subscriptTail _ _ (Value.ref _) (Value.int _ _)) _ _ _); k_dflt (walk_at "MYSUB")))
local macro_rules | `(tactic| walk_at "subscriptTail Name Slice ref ref") => `(tactic| (k_here; k_dflt (refine' gen_upto ?F ?N ?m ?l ?o ?_ ?s ?t; (case F => k_asm); (case N => k_asm); (case m => walk_at "MYMEM"); (case l => omega); (case o => first | omega | exact le5 _ | exact le51 _ | exact le54 _); (case s => with_unfolding_all rfl); (case t => (intro _; with_unfolding_all rfl)); k_whole); intro D' h' F' N' l1; (try k_lt l1); (try k_sweep)))
local macro_rules | `(tactic| walk_at "subscriptTail Name Slice ref ref") => `(tactic| (k_here; k_dflt (refine' num_slice ?F ?N ?m ?l ?o ?_ ?s ?t; (case F => k_asm); (case N => k_asm); (case m => walk_at "MYMEM"); (case l => omega); (case o => first | omega | exact le5 _ | exact le51 _ | exact le54 _); (case s => with_unfolding_all rfl); (case t => (intro _; with_unfolding_all rfl)); k_whole); intro D' h' F' N' l1; (try k_lt l1); (try k_sweep)))
local macro_rules | `(tactic| walk_at "call builtin:len") => `(tactic| (k_here; k_dflt (refine' gen_len ?N ?m ?l ?_; (case N => k_asm); (case m => walk_at "MYMEM"); (case l => omega); k_whole); intro t' tk'))
local macro_rules | `(tactic| walk_at "setItem ref int") => `(tactic| (k_here; k_dflt (refine' gen_put ?F ?N ?m ?l _ ?j ?b ?_; (case F => k_asm); (case N => k_asm); (case m => walk_at "MYMEM"); (case l => first | omega | (rw [List.length_set]; omega)); (case j => exact rfl); (case b => first | omega | (rw [List.length_set]; omega)); k_whole); intro h' n' F' N' M' S' S2'; (try k_sweep)))
local macro_rules | `(tactic| walk_at "setItem") => `(tactic| (k_here; (with_reducible show wpAny _ _ (setItem (Value.ref _) (Value.int _ _) _) _ _ _); k_dflt (refine' gen_put ?F ?N ?m ?l _ ?j ?b ?_; (case F => k_asm); (case N => k_asm); (case m => walk_at "MYMEM"); (case l => first | omega | (rw [List.length_set]; omega)); (case j => exact rfl); (case b => first | omega | (rw [List.length_set]; omega)); k_whole); intro h' n' F' N' M' S' S2'; (try k_sweep)))
local macro_rules | `(tactic| walk_at "binaryOp Mod int int") => `(tactic| (k_here; (with_reducible show wpAny _ _ (binaryOp _ (Value.int _ _) (Value.int (Nat.cast _) _)) _ _ _); k_dflt (refine' mod_any _ ?j ?_; (case j => omega); k_whole); intro i' t' tk' hi'))
local macro_rules | `(tactic| walk_at "MYUSE") => `(tactic| ((case B => k_asm); (case F => k_asm); (case X => k_asm); (try (case N => k_asm)); (case T => k_asm); (case kk => first | exact rfl | assumption); (case d => ktr_room); (case u => ktr_units)))
local macro_rules | `(tactic| walk_at "call ref") => `(tactic| (k_here; k_dflt (first
  | ((refine' does_use (rim_c ) ?B ?F ?X ?N ?T ?kk ?d ?u ?_; (case N => k_asm); (walk_at "MYUSE")); (intro r9 n9 h9 tk9 F9 N9 p9; obtain ⟨rl9, vs9, k9, e9, m9, q9, g9, S9, ne9⟩ := p9; subst e9; (try dsimp only); (try k_sweep))))))
local macro_rules | `(tactic| walk_at "eval ListComp") => `(tactic| (k_here; k_dflt (refine PyProof.Rows.LCg.ListComp_U (F₀ := by k_asm) (by rfl) (by decide) (by rfl) (by decide) (by rfl) ?_)))
local macro_rules | `(tactic| walk_at "exec Assign cons ListComp") => `(tactic| (k_here; k_dflt (refine PyProof.Rows.LCg.Assign_ListComp_U (F₀ := by k_asm) (by rfl) (by with_unfolding_all rfl) (by rfl) (by decide) (by rfl) (by decide) (by rfl) (by rfl) (by rfl) ?_)))
local macro_rules | `(tactic| walk_at "eval ListComp") => `(tactic| (k_here; (with_reducible show wpAny _ _ (eval (Expr.ListComp _ [⟨Expr.Name _ _, Expr.Call _ _ _ _, [], _⟩] _ _) _) _ _ _); k_dflt (refine comp_range (F₀ := by k_asm) (by rfl) (by decide) (by rfl) (by decide) (by rfl) ?_)))
local macro_rules | `(tactic| walk_at "MYSTEPS4") => `(tactic| repeat' (first | ((fail_if_success (with_reducible show wpAny _ _ (exec (Stmt.While _ _ _ _) _) _ _ _)); (fail_if_success (with_reducible show wpAny _ _ (exec (Stmt.For _ _ _ _ _) _) _ _ _)); (fail_if_success (with_reducible show wpAny _ _ (pyIter _) (fun it s₂ => LoopAtV _ _ _ _ _ _ _ _ _ it s₂) _ _)); (fail_if_success (with_reducible show KswEnd _ _ _ _ _ _ _ _ _ _ _ _)); (fail_if_success (with_reducible show RngEnd _ _ _ _ _ _ _ _ _ _ _ _ _)); (fail_if_success (with_reducible show PyProof.Rows.LCg.CompEnd _ _ _ _ _ _ _ _ _ _ _ _ _ _)); (fail_if_success (with_reducible show SrcRg _ _ _ _ _ _ _ _ _ _ _ _ _ _)); (fail_if_success (with_reducible show PyProof.Rows.LCg.CompSrc _ _ _ _ _ _ _ _ _ _ _ _ _ _)); (first | (k_unfold; (try dsimp only)) | (k_end; wrow_close) | walk1 | (dsimp only; walk1) | (leave1; walk_say "STEP leave1"; try dsimp only))) | fail "no step"))
local macro_rules | `(tactic| walk_at "RngPost") => `(tactic| (dsimp only [RngPost]))
local macro_rules | `(tactic| walk_at "MYSTEPS5") => `(tactic| repeat' (first | ((fail_if_success (with_reducible show wpAny _ _ (exec (Stmt.While _ _ _ _) _) _ _ _)); (fail_if_success (with_reducible show wpAny _ _ (exec (Stmt.For _ _ _ _ _) _) _ _ _)); (fail_if_success (with_reducible show wpAny _ _ (pyIter _) (fun it s₂ => LoopAtV _ _ _ _ _ _ _ _ _ it s₂) _ _)); (fail_if_success (with_reducible show KswEnd _ _ _ _ _ _ _ _ _ _ _ _)); (fail_if_success (with_reducible show RngEnd _ _ _ _ _ _ _ _ _ _ _ _ _)); (fail_if_success (with_reducible show PyProof.Rows.LCg.CompEnd _ _ _ _ _ _ _ _ _ _ _ _ _ _)); (fail_if_success (with_reducible show SrcRg _ _ _ _ _ _ _ _ _ _ _ _ _ _)); (fail_if_success (with_reducible show PyProof.Rows.LCg.CompSrc _ _ _ _ _ _ _ _ _ _ _ _ _ _)); (fail_if_success (with_reducible show wpAny _ _ (exec (Stmt.If _ _ _ _) _) _ _ _)); (first | (k_unfold; (try dsimp only)) | (k_end; wrow_close) | walk1 | (dsimp only; walk1) | (leave1; walk_say "STEP leave1"; try dsimp only))) | fail "no step"))
theorem draw_c {w : World} {mean : ExcName → Option Value} {mg mb : Str → Option Value} {news : Led} {nb : Addr} {Nm : Ns} {k1 : Nat} (hnb : (nb, listOf (NV Nm).toArray k1) ∈ news) (hl : 14 ≤ Nm.length) (hl2 : Nm.length ≤ 100) :
    Does w mean mg mb 182 8 200 news [.ref nb] (fun news' v => ∃ (l : Addr) (vs : List Value) (k : Nat), v = .ref l ∧ (l, listOf vs.toArray k) ∈ news' ∧ 4 ≤ vs.length ∧ vs.length ≤ 9 ∧ (∀ v ∈ vs, GoodRow news' v) ∧ (∀ p ∈ news, p ∈ news')) := by
  unfold Does
  k_fill
  intro dp un gd cn cs a ccd cl outer A₀ base h₀ L m s Q E B F X N T hk hd hu hret
  refine wpAny_call ?_
  k_dflt (walk_at "MYENTERC")
  rename_i g1 L1 hA tkA FG FF NN BB XX TT l1 oa ob da db
  walk_at "MYSTEPS5"
  rename_i fi ft hB oc n1 F1 N1 dc Mc Sc Sc2
  k_fold
  have tail : ∀ (h : Heap) (tk : Nat) (m : Str → Option Value) (led : Led) (o1 o2 : Obj) (rl : Addr) (vs : List Value) (k : Nat), Fr g1 L1 h m → News g1 L1 h led → (L1 + 1, o2) ∈ led → o2.data = .cell (some (.int fi ft)) → (L1 + 1 + 1, o1) ∈ led → o1.data = .cell (some (.ref rl)) →
      (rl, listOf vs.toArray k) ∈ led → (∀ v ∈ vs, GoodRow led v) → 4 ≤ vs.length → vs.length ≤ 9 → (∀ p ∈ news, p ∈ led) → qk .next { s with heap := h, toks := tk } := by
    clear F1 N1
    intro h tk m led o1 o2 rl vs k F1 N1 hm2 hd2 hm1 hd1 hrl hvs hl4 hl9 hS
    k_unfold
    dsimp only
    walk_at "MYSTEPS5"
    k_fold
    have tail2 : ∀ (h : Heap) (tk : Nat) (m : Str → Option Value) (led : Led) (o1 o2 : Obj) (rl : Addr) (vs : List Value) (k : Nat), Fr g1 L1 h m → News g1 L1 h led → (L1 + 1, o2) ∈ led → o2.data = .cell (some (.int fi ft)) → (L1 + 1 + 1, o1) ∈ led → o1.data = .cell (some (.ref rl)) →
        (rl, listOf vs.toArray k) ∈ led → (∀ v ∈ vs, GoodRow led v) → 4 ≤ vs.length → vs.length ≤ 9 → (∀ p ∈ news, p ∈ led) → qk .next { s with heap := h, toks := tk } := by
      clear F1 N1 hm2 hd2 hm1 hd1 hrl hvs hl4 hl9 hS
      intro h tk m led o1 o2 rl vs k F1 N1 hm2 hd2 hm1 hd1 hrl hvs hl4 hl9 hS
      k_unfold
      dsimp only
      walk_at "MYSTEPS5"
      refine LCg.CompSrc.ledger rfl F1 N1 hrl (by rw [List.size_toArray, sizeLine_eq]; omega) fun gg => ?_
      refine comp_rest (fun i ys ledi => (∀ p ∈ led, p ∈ ledi) ∧ (∀ v ∈ ys, GoodRow ledi v) ∧ ys.length = i) vs.toArray.size ?_ ?_ vs.toArray.size 0 [] led (by omega) ⟨fun _ h => h, (fun _ h => nomatch h), rfl⟩
      · rintro i ys ledi hi ⟨hSi, hgi, hli⟩ v I oI C oC D m₂ h2 tk2 E' hP hC hx F2 N2 off hneq
        have hv : v ∈ vs := by
          have : vs[i]? = some v := by simpa using hP
          exact List.mem_of_getElem? this
        obtain ⟨ra, rx, ry, rt, ru, rfl, hrm, hy0, hy4⟩ := hvs v hv
        have hrm' := hSi _ hrm
        have hm2' := hSi _ hm2
        have hrl' := hSi _ hrl
        clear F1 N1
        walk_at "MYSTEPS5"
        rename News _ _ _ _ => N4
        rename _ ∧ _ => l4
        refine comp_end1 (by assumption) N4 off l4 (.inr ⟨_, .tail _ hrl', rfl, _, rfl⟩) ⟨fun p hp => .tail _ (hSi p hp), ?_, by simp [hli]⟩
        intro v hv
        rcases List.mem_append.mp hv with q | q
        · exact (hgi v q).sub fun p hp => .tail _ hp
        · rw [List.mem_singleton.mp q]
          exact ⟨_, _, _, _, _, rfl, .head _, hy0, hy4⟩
      · rintro ys ledi ⟨hSi, hgi, hli⟩ D h' tk' F5 N5 ho
        dsimp only
        walk_at "MYSTEPS5"
        have hlen : ys.length = vs.length := by simpa using hli
        exact hret _ _ _ _ (by k_asm) (by k_asm) ⟨_, ys, _, rfl, .head _, by omega, by omega, fun v hv => (hgi v hv).sub fun p hp => .tail _ hp, fun p hp => .tail _ (hSi p (hS p hp))⟩
    clear_value qk
    walk_at "MYSTEPS4"
    · rename IsRange _ _ _ _ _ _ _ _ => hr
      rename Fr _ _ _ _ => F3
      rename News _ _ _ _ => N3
      refine ⟨_, _, _, _, _, _, _, vs.length, led, rfl, rfl, F3, N3, hr, small_down (by omega) (by omega) (by omega) (by omega), (by rw [rangeSize_downNat]; omega), (by rw [sizeLine_eq]; omega), fun gg => ?_⟩
      refine comp_rest (fun i ys ledi => ledi = led ∧ (∀ v ∈ ys, v ∈ vs) ∧ ys.length = i) vs.length ?_ ?_ vs.length 0 [] led (by omega) ⟨rfl, (fun _ h => nomatch h), rfl⟩
      · rintro i ys ledi hi ⟨rfl, hgi, hli⟩ v I oI C oC D m₂ h2 tk2 E' ⟨t, rfl⟩ hC hx F2 N2 off hneq
        obtain ⟨kN, hkN, hkN2⟩ : ∃ kN : Nat, ((vs.length : Int) - 1 + (i : Int) * (-1)) = (kN : Int) ∧ kN < vs.length := ⟨vs.length - 1 - i, by omega, by omega⟩
        rw [hkN] at hx
        clear F3 N3 hr
        walk_at "MYSTEPS4"
        rename vs[_]? = _ => hve
        refine comp_end0 (by assumption) (by assumption) off trivial ⟨rfl, ?_, by simp [hli]⟩
        intro v hv
        rcases List.mem_append.mp hv with q | q
        · exact hgi v q
        · rw [List.mem_singleton.mp q]
          exact List.mem_of_getElem? hve
      · rintro ys ledi ⟨rfl, hgi, hli⟩ D h' tk' F5 N5 ho
        dsimp only
        clear F3 N3 hr
        walk_at "MYSTEPS4"
        rename ∀ p : Addr × Obj, p ∈ (_ : List (Addr × Obj)) → (∀ v : Option Value, p.2.data ≠ Data.cell v) → p ∈ (_ : List (Addr × Obj)) => S2
        rename ∀ p : Addr × Obj, p ∈ (_ : List (Addr × Obj)) → p.1 ≠ L1 + 1 + 1 → p ∈ (_ : List (Addr × Obj)) => S1
        exact tail2 _ _ _ _ _ o2 D ys _ (by k_asm) (by k_asm) (S1 _ (.tail _ hm2) (neN (by omega))) hd2 (by assumption) (by assumption) (S2 _ (.head _) (fun _ z => by cases z)) (fun v hv => ((hvs v (hgi v hv)).sub fun p hp => .tail _ hp).cell S2) (by omega) (by omega) (fun p hp => S1 _ (.tail _ (hS p hp)) (neN (by have := ltN (TT p hp); omega)))
    · exact tail2 _ _ _ _ o1 o2 rl vs k F1 N1 hm2 hd2 hm1 hd1 hrl hvs hl4 hl9 hS
  clear_value qk
  walk_at "MYSTEPS4"
  · rename Fr _ _ _ _ => F3
    rename News _ _ _ _ => N3
    have hh1 : 0 ≤ (fi.fdiv 2).fmod 6 := Int.fmod_nonneg_of_pos _ (by omega)
    have hh2 : (fi.fdiv 2).fmod 6 < 6 := Int.fmod_lt_of_pos _ (by omega)
    rename_i DD hC l1D
    generalize hvn : (List.take ((5 + (fi.fdiv 2).fmod 6).toNat - 1) (List.drop 1 Nm)) = Ns1 at *
    have hNl : Ns1.length = (5 + (fi.fdiv 2).fmod 6).toNat - 1 := by rw [← hvn, List.length_take, List.length_drop]; omega
    refine LCg.CompSrc.ledger rfl F3 N3 (.head _) (by simp only [List.size_toArray, List.length_map, sizeLine_eq]; omega) fun gg => ?_
    refine comp_rest (fun i ys ledi => (∀ p ∈ (DD, listOf (NV Ns1).toArray 0) :: n1, p ∈ ledi) ∧ (∀ v ∈ ys, GoodRow ledi v) ∧ ys.length = i) (NV Ns1).toArray.size ?_ ?_ (NV Ns1).toArray.size 0 [] _ (by omega) ⟨fun _ h => h, (fun _ h => nomatch h), rfl⟩
    · rintro i ys ledi hi ⟨hSi, hgi, hli⟩ v I oI C oC D m₂ h2 tk2 E' hP hC hx F2 N2 off hneq
      obtain ⟨vi, vt, rfl⟩ : ∃ vi vt, v = .int vi vt := by
        have h3 : (NV Ns1)[i]? = some v := by simpa using hP
        rw [List.getElem?_map] at h3
        obtain ⟨q, _, rfl⟩ := Option.map_eq_some_iff.mp h3
        exact ⟨_, _, rfl⟩
      have hsrc := hSi _ (.head _)
      clear F3 N3
      walk_at "MYSTEPS4"
      rename News _ _ _ _ => N4
      rename _ ∧ _ => l4
      refine comp_end1 (by assumption) N4 off l4 (.inr ⟨_, .tail _ hsrc, rfl, _, rfl⟩) ⟨fun p hp => .tail _ (hSi p hp), ?_, by simp [hli]⟩
      intro v hv
      rcases List.mem_append.mp hv with q | q
      · exact (hgi v q).sub fun p hp => .tail _ hp
      · rw [List.mem_singleton.mp q]
        have g1 := Int.fmod_nonneg_of_pos (vi.fdiv 5) (show (0 : Int) < 5 by omega)
        have g2 := Int.fmod_lt_of_pos (vi.fdiv 5) (show (0 : Int) < 5 by omega)
        exact ⟨_, _, _, _, _, rfl, .head _, g1, by omega⟩
    · rintro ys ledi ⟨hSi, hgi, hli⟩ D h' tk' F5 N5 ho
      dsimp only
      clear F3 N3
      have hr1 : (L1 + 1 + 1, l1) ∈ (D, LCg.lst ys) :: ledi := .tail _ (hSi _ (.tail _ (Sc _ (.head _) (neN (by omega)))))
      walk_at "MYSTEPS4"
      rename ∀ p : Addr × Obj, p ∈ (_ : List (Addr × Obj)) → (∀ v : Option Value, p.2.data ≠ Data.cell v) → p ∈ (_ : List (Addr × Obj)) => S2
      rename ∀ p : Addr × Obj, p ∈ (_ : List (Addr × Obj)) → p.1 ≠ L1 + 1 + 1 → p ∈ (_ : List (Addr × Obj)) => S1
      have hyl : ys.length = Ns1.length := by simpa using hli
      exact tail _ _ _ _ _ oc D ys _ (by k_asm) (by k_asm) (S1 _ (.tail _ (hSi _ (.tail _ Mc))) (neN (by omega))) dc (by assumption) (by assumption) (S2 _ (.head _) (fun _ z => by cases z)) (fun v hv => ((hgi v hv).sub fun p hp => .tail _ hp).cell S2) (by omega) (by omega)
        (fun p hp => S1 _ (.tail _ (hSi _ (.tail _ (Sc _ (.tail _ (.tail _ hp)) (neN (by have := ltN (TT p hp); omega)))))) (neN (by have := ltN (TT p hp); omega)))
  · rename_i hodd n9 h9 tk9 rl9 vs9 k9 m9 q9 g9 S9 ne9 D h1 lD h2 o3 n3 F3 N3 d3 M3 S3 S4
    have hh1 : 0 ≤ (fi.fdiv 2).fmod 4 := Int.fmod_nonneg_of_pos _ (by omega)
    have hh2 : (fi.fdiv 2).fmod 4 < 4 := Int.fmod_lt_of_pos _ (by omega)
    have hD1 : @LT.lt Nat _ (L1 + 1) D := lD _ (S9 _ Mc)
    have hD2 : @LT.lt Nat _ (L1 + 1 + 1) D := lD _ (S9 _ (Sc _ (.head _) (neN (by omega))))
    generalize hvs1 : List.take (5 + (fi.fdiv 2).fmod 4).toNat vs9 = vs1 at *
    have hvl : vs1.length = (5 + (fi.fdiv 2).fmod 4).toNat := by rw [← hvs1, List.length_take]; omega
    have hv1 : ∀ v ∈ vs1, GoodRow n3 v := fun v hv => ((g9 v (by rw [← hvs1] at hv; exact List.mem_of_mem_take hv)).sub fun p hp => .tail _ hp).cell S4
    have hm1 : (L1 + 1, oc) ∈ n3 := S3 _ (.tail _ (S9 _ Mc)) (neN (by omega))
    have hmD : (D, listOf vs1.toArray 0) ∈ n3 := S4 _ (.head _) (fun _ z => by cases z)
    have hmS : ∀ p ∈ news, p ∈ n3 := fun p hp => S3 _ (.tail _ (S9 _ (Sc _ (.tail _ (.tail _ hp)) (neN (by have := ltN (TT p hp); omega))))) (neN (by have := ltN (TT p hp); omega))
    have hmN := hmS _ hnb
    clear S3 S4 g9 q9 m9 ne9 S9 Sc Sc2 hvs1 da ob
    with_unfolding_all refine' For_invVF F3 ?k1 ?k2 ?_
    case k1 => exact rfl
    case k2 => exact rfl
    walk_at "MYSTEPS4"
    rename_i DD hC F4 N4 l4
    have hD3 : @LT.lt Nat _ D DD := l4 _ hmD
    generalize hNs : List.take ((1 + (fi.fdiv 8).fmod 4).toNat - 1) (List.drop 1 Nm) = Ns2 at *
    have hDD1 : @LT.lt Nat _ (L1 + 1) DD := Nat.lt_trans hD1 hD3
    refine lst_loop (σ := Led × List Value) (fun c => c.1) (fun _ => []) (fun c => (DD, listOf (NV Ns2).toArray 0) ∈ c.1 ∧ (D, listOf c.2.toArray 0) ∈ c.1 ∧ (L1 + 1, oc) ∈ c.1 ∧ (L1 + 1 + 1, o3) ∈ c.1 ∧ (∀ v ∈ c.2, GoodRow c.1 v) ∧ c.2.length = vs1.length ∧ (∀ p ∈ news, p ∈ c.1))
      [Str.ofString "at", Str.ofString "other", Str.ofString "keep"] (fun _ _ => True) (_, vs1) rfl (fun c hc => hc.1) F4 N4 ⟨.head _, .tail _ hmD, .tail _ hm1, .tail _ M3, fun v hv => (hv1 v hv).sub fun p hp => .tail _ hp, rfl, fun p hp => .tail _ (hmS p hp)⟩ (fun _ h => nomatch h) trivial ?_ ?_
    · rintro ⟨led, vs2⟩ i v u3 h3 tk3 Ia oI hvi hcls hIa ⟨f1, f2, f3, f4, f5, f6, f7⟩ - F5 N5
      dsimp only at hIa f1 f2 f3 f4 f5 f6 f7 F5 N5
      obtain ⟨vi, vt, rfl⟩ : ∃ vi vt, v = .int vi vt := by
        rw [List.getElem?_map] at hvi
        obtain ⟨q, _, rfl⟩ := Option.map_eq_some_iff.mp hvi
        exact ⟨_, _, rfl⟩
      k_fold
      clear F4 N4
      walk_at "MYSTEPS4"
      rename_i va ea hva vb eb hvb nA MA SA SA2 hB' nB FB' NB' MB SB SB2
      have hoI : ∀ its n, oI ≠ listOf its n := fun its n z => by rw [z] at hcls; simp at hcls
      have K1 : ∀ p ∈ led, p.1 ≠ D → p ∈ nB.filter (fun p => p.1 != Ia) := fun p hp hne => List.mem_filter.mpr ⟨SB _ (SA _ (.tail _ hp) hne) hne, by simpa using hIa p hp⟩
      have K2 : ∀ p ∈ led, (∀ its n, p.2 ≠ listOf its n) → p ∈ nB.filter (fun p => p.1 != Ia) := fun p hp hne => List.mem_filter.mpr ⟨SB2 _ (SA2 _ (.tail _ hp) hne) hne, by simpa using hIa p hp⟩
      refine rng_end (⟨nB.filter (fun p => p.1 != Ia), _⟩ : Led × List Value) FB' NB' (fun p hp => (List.mem_filter.mp hp).1) (SB2 _ (SA2 _ (.head _) hoI) hoI) (fun p hp => by simpa using (List.mem_filter.mp hp).2)
        ⟨K1 _ f1 (neN (by omega)), List.mem_filter.mpr ⟨MB, by simpa using hIa _ f2⟩, K1 _ f3 (neN (by omega)), K1 _ f4 (neN (by omega)), ?_, by simp [f6], fun p hp => K1 p (f7 p hp) (neN (by have := ltN (TT p hp); omega))⟩ (fun _ h => nomatch h) ?_ trivial
      · intro v hv
        have hv2 : v ∈ vs2 := by
          rcases List.mem_or_eq_of_mem_set hv with q | q
          · rcases List.mem_or_eq_of_mem_set q with q | q
            · exact q
            · rw [q]; exact List.mem_of_getElem? eb
          · rw [q]; exact List.mem_of_getElem? ea
        exact (f5 v hv2).lst K2
      · intro z h1 h2 h3
        simp only [List.contains_cons, List.contains_nil, Bool.or_false, Bool.or_eq_false_iff, beq_eq_false_iff_ne, ne_eq] at h3
        simp [h1, h3, kstB]
    · rintro ⟨led, vs2⟩ u3 h3 tk3 ⟨f1, f2, f3, f4, f5, f6, f7⟩ - F5 N5
      dsimp only at f1 f2 f3 f4 f5 f6 f7 F5 N5
      clear F4 N4
      dsimp only
      walk_at "MYSTEPS4"
      exact tail _ _ _ _ o3 oc D vs2 0 F5 N5 f3 dc f4 d3 f2 f5 (by omega) (by omega) f7
end Mine
end

section
open PySem PySem.W PySem.Calls PyProof.Rows
set_option Elab.async false
set_option maxRecDepth 100000
set_option maxHeartbeats 8000000
set_option linter.all false
namespace Mine
theorem more_c {p : Params} {h : Heap} (X : (hd.heap_39 p).In h) : ∃ Nm : Ns, Nm.length = 14 ∧ h.IsList 135 (NV Nm).toArray := by
  suffices h : (PySem.Challenge.rw_et5009_01 = PySem.Challenge.rw_et5009_01) → (hd.heap_39 p).In h → ∃ Nm : Ns, Nm.length = 14 ∧ h.IsList 135 (NV Nm).toArray from h rfl X
  clear X
  k_fill
  intro _ X
  have hX := X 135 _ (by k_is)
  exact ⟨[(23, 361), (3, 362), (22, 363), (5, 364), (9, 365), (14, 366), (1, 367), (20, 368), (7, 369), (12, 370), (24, 371), (2, 372), (16, 373), (8, 374)], by decide, _, hX, rfl, 0, rfl⟩
theorem nv_of {vs : List Value} {ns : List Int} (h : IntsAre vs ns) : ∃ N : Ns, vs = NV N ∧ N.length = ns.length := by
  induction h with
  | nil => exact ⟨[], rfl, rfl⟩
  | cons n t _ ih => obtain ⟨N, rfl, e⟩ := ih; exact ⟨(n, t) :: N, rfl, by simp [e]⟩
theorem nums_add {prog : Program} {w : World} {A : Around} {E : Value → Shared → Prop} {s : Shared} {h₀ : Heap} {L l b : Addr} {m : Str → Option Value} {news : Led} {N1 N2 : Ns} {k : Nat} {Q : Value → Shared → Prop}
    (F : Fr h₀ L s.heap m) (Nw : News h₀ L s.heap news) (hm : (l, listOf (NV N1).toArray k) ∈ news) (hb : h₀.IsList b (NV N2).toArray) (hz : N1.length + N2.length ≤ 1000)
    (h : ∀ D h', Fr h₀ L h' m → News h₀ L h' ((D, listOf (NV (N1 ++ N2)).toArray 0) :: news) → (∀ p ∈ news, p.1 < D) → Q (.ref D) { s with heap := h' }) :
    wpAny (model prog w) A (binaryOp .Add (.ref l) (.ref b)) Q E s := by
  refine add_lists F Nw (Nw.isList hm) (F.lst hb) (fun h' F' N' => h _ _ F' ?_ fun p hp => Heap.lt_size (Nw p hp).1) (by simp only [List.length_map, sizeLine_eq]; omega)
  rw [show NV (N1 ++ N2) = NV N1 ++ NV N2 from List.map_append ..]
  exact N'
theorem rows_of {vs : List Value} {led : Led} (h : ∀ v ∈ vs, GoodRow led v) : ∃ xs ys tx ty ra, vs = RowVs ra vs.length ∧ RowsIn xs ys tx ty ra vs.length led ∧ SmallYs ys vs.length := by
  have h2 : ∀ k : Nat, ∃ q : Addr × Int × Int × Tok × Tok, ∀ hk : k < vs.length, vs[k] = .ref q.1 ∧ (q.1, tupO [.int q.2.1 q.2.2.2.1, .int q.2.2.1 q.2.2.2.2]) ∈ led ∧ 0 ≤ q.2.2.1 ∧ q.2.2.1 ≤ 4 := by
    intro k
    by_cases hk : k < vs.length
    · obtain ⟨a, x, y, t, u, e, m, r⟩ := h vs[k] (List.getElem_mem hk)
      exact ⟨(a, x, y, t, u), fun _ => ⟨e, m, r⟩⟩
    · exact ⟨(0, 0, 0, 0, 0), fun h => absurd h hk⟩
  obtain ⟨f, hf⟩ := Classical.axiomOfChoice h2
  refine ⟨fun k => (f k).2.1, fun k => (f k).2.2.1, fun k => (f k).2.2.2.1, fun k => (f k).2.2.2.2, fun k => (f k).1, ?_, fun k hk => (hf k hk).2.1, fun k hk => (hf k hk).2.2⟩
  apply List.ext_getElem
  · simp [RowVs]
  · intro i h1 h3
    rw [(hf i h1).1]
    simp [RowVs]
open PyProof.Rows.LCg in
theorem comp_end2 {h₀ : Heap} {L I C D t t2 : Addr} {m : Str → Option Value} {s₁ : Shared} {oI oC oD o o2 : Obj} {S : Led → Prop} {rest : Value → Led → Prop} {y : Value} {h' : Heap} {tk : Nat} {led : Led}
    (F : Fr h₀ L h' m) (N : News h₀ L h' ((t, o) :: (t2, o2) :: (I, oI) :: (C, oC) :: (D, oD) :: led)) (off : Off3 I C D led) (l : (@LT.lt Nat _ I t) ∧ (@LT.lt Nat _ C t) ∧ (@LT.lt Nat _ D t)) (l2 : (@LT.lt Nat _ I t2) ∧ (@LT.lt Nat _ C t2) ∧ (@LT.lt Nat _ D t2)) (hS : S ((t, o) :: (t2, o2) :: led)) (r : rest y ((t, o) :: (t2, o2) :: led)) :
    CompEnd h₀ L m s₁ I oI C oC D oD S rest y { s₁ with heap := h', toks := tk } := by
  refine CompEnd.intro F N ((t, o) :: (t2, o2) :: led) ?_ ⟨⟨Nat.ne_of_gt l.1, Nat.ne_of_gt l.2.1, Nat.ne_of_gt l.2.2⟩, ⟨Nat.ne_of_gt l2.1, Nat.ne_of_gt l2.2.1, Nat.ne_of_gt l2.2.2⟩, off⟩ hS r
  intro p hp
  simp only [List.mem_cons] at hp ⊢
  rcases hp with q | q | q | q | q | q <;> simp [q]
theorem point_new {PP : PPar} {k : Nat} {news : Led} (hP : PointsIn PP k news) (x d : Addr) (X Y : Int) (tx ty t0 t1 : Tok) (h0 h1 : Int) :
    ∃ PP' : PPar, PP'.xs = (fun j => if j = k then X else PP.xs j) ∧ PP'.ys = (fun j => if j = k then Y else PP.ys j) ∧ PP'.pt = (fun j => if j = k then x else PP.pt j) ∧
      PointsIn PP' (k + 1) ((x, instObj 31 d) :: (d, dictOf [⟨h0, .str (Str.ofString "x") t0, .int X tx⟩, ⟨h1, .str (Str.ofString "y") t1, .int Y ty⟩] 2) :: news) := by
  refine ⟨{ pt := fun j => if j = k then x else PP.pt j, pd := fun j => if j = k then d else PP.pd j, xs := fun j => if j = k then X else PP.xs j, ys := fun j => if j = k then Y else PP.ys j, tx := fun j => if j = k then tx else PP.tx j, ty := fun j => if j = k then ty else PP.ty j, kh := fun j i => if j = k then [h0, h1].getD i 0 else PP.kh j i, kt := fun j i => if j = k then [t0, t1].getD i 0 else PP.kt j i }, rfl, rfl, rfl, ?_⟩
  intro j hj
  by_cases e : j = k
  · subst e
    simp [PPar.ent]
  · have := hP j (by omega)
    simp only [PPar.ent, if_neg e]
    exact ⟨.tail _ (.tail _ this.1), .tail _ (.tail _ this.2)⟩
/-- the whole ring of i nodes -/
def stR (i : Nat) : St := { pv := fun k => if k = 0 then i - 1 else k - 1, nx := fun k => if k + 1 = i then 0 else k + 1 }
theorem NodesIn.eqv {P : Par} {n : Nat} {st st' : St} {news : Led} (h : NodesIn P n st news) (e : ∀ k, k < n → st.pv k = st'.pv k ∧ st.nx k = st'.nx k) : NodesIn P n st' news := fun k hk => by
  have := h k hk
  rw [(e k hk).1, (e k hk).2] at this
  exact this
theorem stR_closed {i : Nat} (h : 0 < i) : Closed i (stR i) := fun k hk => by
  unfold stR; dsimp only
  constructor <;> split <;> omega
theorem stR_ins {i : Nat} (h : 0 < i) : ∀ k, k < i + 1 → ((stR i).ins i (i - 1)).pv k = (stR (i + 1)).pv k ∧ ((stR i).ins i (i - 1)).nx k = (stR (i + 1)).nx k := fun k hk => by
  unfold St.ins St.put St.setPv St.setNx stR
  dsimp only
  constructor <;> (repeat' split) <;> omega
theorem head_ex {h₀ h : Heap} {L a : Addr} {o : Obj} {r : Led} (_N : News h₀ L h ((a, o) :: r)) : ∃ a', a' = a := ⟨a, rfl⟩
end Mine
end

section
open PySem PySem.W PySem.Calls PyProof.Rows
set_option linter.all false
namespace Mine
theorem area_cross (P : Par) (p q r : Nat) : areaZ P p q r = - crossZ P.xs P.ys p q r := by unfold areaZ crossZ; grind
theorem sgn_neg {a : Int} (h : a < 0) : sgn a = -1 := by unfold sgn; rw [if_pos h]
theorem sgn_pos {a : Int} (h : 0 < a) : sgn a = 1 := by unfold sgn; rw [if_neg (by omega), if_pos h]
theorem sgn_zero : sgn 0 = 0 := rfl
theorem sgn_eq0 {a : Int} : sgn a = 0 ↔ a = 0 := by unfold sgn; constructor <;> intro h <;> (repeat' split at *) <;> omega
theorem sgn_ne {a b : Int} : sgn a ≠ sgn b ↔ (a < 0 ∧ 0 ≤ b) ∨ (b < 0 ∧ 0 ≤ a) ∨ (a = 0 ∧ b ≠ 0) ∨ (a ≠ 0 ∧ b = 0) := by
  unfold sgn; (repeat' split) <;> omega
/-- a zero turning at one end, the point in the box: the other two straddle -/
theorem box_mul {d e t u v w : Int} (h1 : d * e = - (t * u)) (h : 0 < t) (hu : u ≠ 0) : True := trivial
theorem sign_of_mul {a d u dn : Int} (h : a * d = - (dn * u)) (hd : 0 < dn) (hpos : 0 < d) (hu : 0 ≤ u) : a ≤ 0 := by
  have h1 : 0 ≤ dn * u := Int.mul_nonneg (Int.le_of_lt hd) hu
  apply Decidable.byContradiction
  intro hn
  have : 0 < a * d := Int.mul_pos (by omega) hpos
  omega
theorem sign_of_mul' {a d u dn : Int} (h : a * d = - (dn * u)) (hd : 0 < dn) (hneg : d < 0) (hu : u ≤ 0) : a ≤ 0 := by
  refine sign_of_mul (d := -d) (u := -u) (dn := dn) ?_ hd (by omega) (by omega)
  rw [Int.mul_neg, Int.mul_neg, h]
/-- points 1 2 3 (3 on the line of 1 and 2, in its box), 4: the turnings at 3 -> 4 of 1 and 2 part -/
theorem straddle {x1 y1 x2 y2 x3 y3 x4 y4 : Int} (h0 : (x2 - x1) * (y3 - y1) - (y2 - y1) * (x3 - x1) = 0)
    (hx : (x3 ≤ x1 ∨ x3 ≤ x2) ∧ (x1 ≤ x3 ∨ x2 ≤ x3)) (hy : (y3 ≤ y1 ∨ y3 ≤ y2) ∧ (y1 ≤ y3 ∨ y2 ≤ y3)) (hd : 0 < (x2 - x1) * (y4 - y3) - (y2 - y1) * (x4 - x3)) :
    - ((x4 - x3) * (y1 - y3) - (y4 - y3) * (x1 - x3)) ≤ 0 ∧ 0 ≤ - ((x4 - x3) * (y2 - y3) - (y4 - y3) * (x2 - x3)) := by
  have e1 : (- ((x4 - x3) * (y1 - y3) - (y4 - y3) * (x1 - x3))) * (x2 - x1) = - (((x2 - x1) * (y4 - y3) - (y2 - y1) * (x4 - x3)) * (x3 - x1)) := by grind
  have e2 : (- ((x4 - x3) * (y1 - y3) - (y4 - y3) * (x1 - x3))) * (y2 - y1) = - (((x2 - x1) * (y4 - y3) - (y2 - y1) * (x4 - x3)) * (y3 - y1)) := by grind
  have e3 : ((x4 - x3) * (y2 - y3) - (y4 - y3) * (x2 - x3)) * (x2 - x1) = - (((x2 - x1) * (y4 - y3) - (y2 - y1) * (x4 - x3)) * (x2 - x3)) := by grind
  have e4 : ((x4 - x3) * (y2 - y3) - (y4 - y3) * (x2 - x3)) * (y2 - y1) = - (((x2 - x1) * (y4 - y3) - (y2 - y1) * (x4 - x3)) * (y2 - y3)) := by grind
  rcases Int.lt_trichotomy x1 x2 with c | c | c
  · exact ⟨sign_of_mul e1 hd (by omega) (by omega), by have := sign_of_mul e3 hd (by omega) (by omega); omega⟩
  · rcases Int.lt_trichotomy y1 y2 with k | k | k
    · exact ⟨sign_of_mul e2 hd (by omega) (by omega), by have := sign_of_mul e4 hd (by omega) (by omega); omega⟩
    · subst c k
      simp only [Int.sub_self, Int.zero_mul] at hd
      omega
    · exact ⟨sign_of_mul' e2 hd (by omega) (by omega), by have := sign_of_mul' e4 hd (by omega) (by omega); omega⟩
  · exact ⟨sign_of_mul' e1 hd (by omega) (by omega), by have := sign_of_mul' e3 hd (by omega) (by omega); omega⟩
theorem straddleZ {xs ys : Nat → Int} {a b c d : Nat} (h0 : crossZ xs ys a b c = 0) (hx : (xs c ≤ xs a ∨ xs c ≤ xs b) ∧ (xs a ≤ xs c ∨ xs b ≤ xs c)) (hy : (ys c ≤ ys a ∨ ys c ≤ ys b) ∧ (ys a ≤ ys c ∨ ys b ≤ ys c))
    (hd : 0 < downZ xs ys a b c d) : 0 ≤ crossZ xs ys c d a ∧ crossZ xs ys c d b ≤ 0 := by
  have := straddle (x4 := xs d) (y4 := ys d) h0 hx hy hd
  unfold crossZ
  omega
theorem cross_sw {xs ys : Nat → Int} (a b c : Nat) : crossZ xs ys b a c = - crossZ xs ys a b c := by unfold crossZ; grind
theorem down_1 {xs ys : Nat → Int} (a b c d : Nat) : downZ xs ys a b c d = crossZ xs ys a b d - crossZ xs ys a b c := by unfold downZ crossZ; grind
theorem down_2 {xs ys : Nat → Int} (a b c d : Nat) : downZ xs ys a b c d = crossZ xs ys c d a - crossZ xs ys c d b := by unfold downZ crossZ; grind
theorem upper_1 {xs ys : Nat → Int} (a c d : Nat) : upperZ xs ys a c d = crossZ xs ys c d a := by unfold upperZ crossZ; grind
theorem meet_core {c1 c2 c3 c4 : Int} {B1 B2 B3 B4 : Prop} (e : c2 - c1 = c3 - c4)
    (q1 : c1 = 0 → B1 → (0 < c2 - c1 → 0 ≤ c3 ∧ c4 ≤ 0) ∧ (c2 - c1 < 0 → 0 ≤ c4 ∧ c3 ≤ 0))
    (q2 : c2 = 0 → B2 → (0 < c2 - c1 → 0 ≤ c3 ∧ c4 ≤ 0) ∧ (c2 - c1 < 0 → 0 ≤ c4 ∧ c3 ≤ 0))
    (q3 : c3 = 0 → B3 → (0 < c2 - c1 → 0 ≤ c2 ∧ c1 ≤ 0) ∧ (c2 - c1 < 0 → 0 ≤ c1 ∧ c2 ≤ 0))
    (q4 : c4 = 0 → B4 → (0 < c2 - c1 → 0 ≤ c2 ∧ c1 ≤ 0) ∧ (c2 - c1 < 0 → 0 ≤ c1 ∧ c2 ≤ 0)) :
    ((((-c1 < 0 ∧ 0 ≤ -c2) ∨ (-c2 < 0 ∧ 0 ≤ -c1) ∨ (-c1 = 0 ∧ -c2 ≠ 0) ∨ (-c1 ≠ 0 ∧ -c2 = 0)) ∧ ((-c3 < 0 ∧ 0 ≤ -c4) ∨ (-c4 < 0 ∧ 0 ≤ -c3) ∨ (-c3 = 0 ∧ -c4 ≠ 0) ∨ (-c3 ≠ 0 ∧ -c4 = 0))) ∨
      (-c1 = 0 ∧ B1) ∨ (-c2 = 0 ∧ B2) ∨ (-c3 = 0 ∧ B3) ∨ (-c4 = 0 ∧ B4)) ↔
    ((c2 - c1 = 0 ∧ ((c1 = 0 ∧ B1) ∨ (c2 = 0 ∧ B2) ∨ (c3 = 0 ∧ B3) ∨ (c4 = 0 ∧ B4))) ∨
      (c2 - c1 < 0 ∧ c2 - c1 ≤ c3 ∧ c3 ≤ 0 ∧ c2 - c1 ≤ c1 * -1 ∧ c1 * -1 ≤ 0) ∨ (0 < c2 - c1 ∧ 0 ≤ c3 ∧ c3 ≤ c2 - c1 ∧ 0 ≤ c1 * -1 ∧ c1 * -1 ≤ c2 - c1)) := by
  constructor
  · rintro (h | ⟨h, b⟩ | ⟨h, b⟩ | ⟨h, b⟩ | ⟨h, b⟩)
    · omega
    · have := q1 (by omega) b
      rcases Int.lt_trichotomy (c2 - c1) 0 with c | c | c
      · have := this.2 c; right; left; omega
      · left; exact ⟨c, .inl ⟨by omega, b⟩⟩
      · have := this.1 c; right; right; omega
    · have := q2 (by omega) b
      rcases Int.lt_trichotomy (c2 - c1) 0 with c | c | c
      · have := this.2 c; right; left; omega
      · left; exact ⟨c, .inr (.inl ⟨by omega, b⟩)⟩
      · have := this.1 c; right; right; omega
    · have := q3 (by omega) b
      rcases Int.lt_trichotomy (c2 - c1) 0 with c | c | c
      · have := this.2 c; right; left; omega
      · left; exact ⟨c, .inr (.inr (.inl ⟨by omega, b⟩))⟩
      · have := this.1 c; right; right; omega
    · have := q4 (by omega) b
      rcases Int.lt_trichotomy (c2 - c1) 0 with c | c | c
      · have := this.2 c; right; left; omega
      · left; exact ⟨c, .inr (.inr (.inr ⟨by omega, b⟩))⟩
      · have := this.1 c; right; right; omega
  · rintro (⟨_, h⟩ | h | h)
    · rcases h with ⟨h, b⟩ | ⟨h, b⟩ | ⟨h, b⟩ | ⟨h, b⟩
      · exact .inr (.inl ⟨by omega, b⟩)
      · exact .inr (.inr (.inl ⟨by omega, b⟩))
      · exact .inr (.inr (.inr (.inl ⟨by omega, b⟩)))
      · exact .inr (.inr (.inr (.inr ⟨by omega, b⟩)))
    · left; omega
    · left; omega
theorem inters_meet (P : Par) (i j k l : Nat) : Inters P i j k l ↔ MeetZ P.xs P.ys i j k l := by
  unfold Inters MeetZ OnZ OnSeg
  rw [sgn_ne, sgn_ne, sgn_eq0, sgn_eq0, sgn_eq0, sgn_eq0]
  simp only [area_cross]
  have e2 : crossZ P.xs P.ys i j l - crossZ P.xs P.ys i j k = crossZ P.xs P.ys k l i - crossZ P.xs P.ys k l j := by rw [← down_1, down_2]
  rw [upper_1, down_1]
  have w1 := cross_sw (xs := P.xs) (ys := P.ys) i j k
  have w2 := cross_sw (xs := P.xs) (ys := P.ys) i j l
  have w3 := cross_sw (xs := P.xs) (ys := P.ys) k l i
  have w4 := cross_sw (xs := P.xs) (ys := P.ys) k l j
  have h := meet_core
    (B1 := (P.xs i ≤ P.xs k ∨ P.xs j ≤ P.xs k) ∧ (P.xs k ≤ P.xs i ∨ P.xs k ≤ P.xs j) ∧ (P.ys i ≤ P.ys k ∨ P.ys j ≤ P.ys k) ∧ (P.ys k ≤ P.ys i ∨ P.ys k ≤ P.ys j))
    (B2 := (P.xs i ≤ P.xs l ∨ P.xs j ≤ P.xs l) ∧ (P.xs l ≤ P.xs i ∨ P.xs l ≤ P.xs j) ∧ (P.ys i ≤ P.ys l ∨ P.ys j ≤ P.ys l) ∧ (P.ys l ≤ P.ys i ∨ P.ys l ≤ P.ys j))
    (B3 := (P.xs k ≤ P.xs i ∨ P.xs l ≤ P.xs i) ∧ (P.xs i ≤ P.xs k ∨ P.xs i ≤ P.xs l) ∧ (P.ys k ≤ P.ys i ∨ P.ys l ≤ P.ys i) ∧ (P.ys i ≤ P.ys k ∨ P.ys i ≤ P.ys l))
    (B4 := (P.xs k ≤ P.xs j ∨ P.xs l ≤ P.xs j) ∧ (P.xs j ≤ P.xs k ∨ P.xs j ≤ P.xs l) ∧ (P.ys k ≤ P.ys j ∨ P.ys l ≤ P.ys j) ∧ (P.ys j ≤ P.ys k ∨ P.ys j ≤ P.ys l)) e2 ?_ ?_ ?_ ?_
  · rw [← h]
    have sw : ∀ {A B C D : Prop}, (A ∧ B ∧ C ∧ D) ↔ (B ∧ A ∧ D ∧ C) := fun {A B C D} => ⟨fun ⟨a, b, c, d⟩ => ⟨b, a, d, c⟩, fun ⟨a, b, c, d⟩ => ⟨b, a, d, c⟩⟩
    constructor
    · rintro (q | ⟨z, q⟩ | ⟨z, q⟩ | ⟨z, q⟩ | ⟨z, q⟩)
      · exact .inl q
      · exact .inr (.inl ⟨z, sw.mp q⟩)
      · exact .inr (.inr (.inl ⟨z, sw.mp q⟩))
      · exact .inr (.inr (.inr (.inl ⟨z, sw.mp q⟩)))
      · exact .inr (.inr (.inr (.inr ⟨z, sw.mp q⟩)))
    · rintro (q | ⟨z, q⟩ | ⟨z, q⟩ | ⟨z, q⟩ | ⟨z, q⟩)
      · exact .inl q
      · exact .inr (.inl ⟨z, sw.mp q⟩)
      · exact .inr (.inr (.inl ⟨z, sw.mp q⟩))
      · exact .inr (.inr (.inr (.inl ⟨z, sw.mp q⟩)))
      · exact .inr (.inr (.inr (.inr ⟨z, sw.mp q⟩)))
  · intro z ⟨b1, b2, b3, b4⟩
    refine ⟨fun d => straddleZ z ⟨b2, b1⟩ ⟨b4, b3⟩ (by rw [down_1]; omega), fun d => ?_⟩
    exact straddleZ (a := j) (b := i) (by omega) ⟨b2.symm, b1.symm⟩ ⟨b4.symm, b3.symm⟩ (by rw [down_1]; omega)
  · intro z ⟨b1, b2, b3, b4⟩
    refine ⟨fun d => ?_, fun d => ?_⟩
    · have := straddleZ (a := j) (b := i) (c := l) (d := k) (xs := P.xs) (ys := P.ys) (by omega) ⟨b2.symm, b1.symm⟩ ⟨b4.symm, b3.symm⟩ (by rw [down_1]; omega)
      omega
    · have := straddleZ (a := i) (b := j) (c := l) (d := k) (xs := P.xs) (ys := P.ys) (by omega) ⟨b2, b1⟩ ⟨b4, b3⟩ (by rw [down_1]; omega)
      omega
  · intro z ⟨b1, b2, b3, b4⟩
    refine ⟨fun d => ?_, fun d => ?_⟩
    · have := straddleZ (a := l) (b := k) (c := i) (d := j) (xs := P.xs) (ys := P.ys) (by omega) ⟨b2.symm, b1.symm⟩ ⟨b4.symm, b3.symm⟩ (by rw [down_1]; omega)
      omega
    · have := straddleZ (a := k) (b := l) (c := i) (d := j) (xs := P.xs) (ys := P.ys) (by omega) ⟨b2, b1⟩ ⟨b4, b3⟩ (by rw [down_1]; omega)
      omega
  · intro z ⟨b1, b2, b3, b4⟩
    refine ⟨fun d => ?_, fun d => ?_⟩
    · have := straddleZ (a := k) (b := l) (c := j) (d := i) (xs := P.xs) (ys := P.ys) (by omega) ⟨b2, b1⟩ ⟨b4, b3⟩ (by rw [down_1]; omega)
      omega
    · have := straddleZ (a := l) (b := k) (c := j) (d := i) (xs := P.xs) (ys := P.ys) (by omega) ⟨b2.symm, b1.symm⟩ ⟨b4.symm, b3.symm⟩ (by rw [down_1]; omega)
      omega
theorem inside_within (P : Par) (st : St) (a b : Nat) : Inside P st a b ↔ WithinZ P.xs P.ys (st.pv a) a (st.nx a) b := by
  unfold Inside WithinZ
  simp only [area_cross]
  have e1 : crossZ P.xs P.ys a (st.nx a) (st.pv a) = crossZ P.xs P.ys (st.pv a) a (st.nx a) := by unfold crossZ; grind
  have e2 : crossZ P.xs P.ys a (st.nx a) b = - crossZ P.xs P.ys a b (st.nx a) := by unfold crossZ; grind
  have e3 : crossZ P.xs P.ys a b (st.pv a) = - crossZ P.xs P.ys a (st.pv a) b := by unfold crossZ; grind
  omega
end Mine
end

section
set_option linter.all false
namespace Mine
abbrev Pt := Int × Int
def turn (a p b : Pt) : Int := (p.1 - a.1) * (b.2 - a.2) - (p.2 - a.2) * (b.1 - a.1)
/-- turned about: the same ring begun elsewhere -/
def Rota {α : Type} (l l' : List α) : Prop := ∃ a b, l = a ++ b ∧ l' = b ++ a
theorem Rota.refl {α : Type} (l : List α) : Rota l l := ⟨l, [], by simp, by simp⟩
theorem Rota.symm {α : Type} {l l' : List α} (h : Rota l l') : Rota l' l := let ⟨a, b, e, f⟩ := h; ⟨b, a, f, e⟩
theorem append_split {α : Type} : ∀ {a b c d : List α}, a ++ b = c ++ d → (∃ t, c = a ++ t ∧ b = t ++ d) ∨ (∃ t, a = c ++ t ∧ d = t ++ b)
  | [], b, c, d, h => .inl ⟨c, rfl, h⟩
  | x :: a, b, [], d, h => .inr ⟨x :: a, rfl, h.symm⟩
  | x :: a, b, y :: c, d, h => by
    simp only [List.cons_append, List.cons.injEq] at h
    obtain ⟨rfl, h⟩ := h
    rcases append_split h with ⟨t, e, f⟩ | ⟨t, e, f⟩
    · exact .inl ⟨t, by rw [e]; rfl, f⟩
    · exact .inr ⟨t, by rw [e]; rfl, f⟩
theorem Rota.trans {α : Type} {l m r : List α} (h : Rota l m) (k : Rota m r) : Rota l r := by
  obtain ⟨a, b, rfl, rfl⟩ := h
  obtain ⟨c, d, e, rfl⟩ := k
  rcases append_split e with ⟨t, rfl, rfl⟩ | ⟨t, rfl, rfl⟩
  · exact ⟨t, d ++ b, by simp, by simp⟩
  · exact ⟨a ++ c, t, by simp, by simp⟩
theorem Rota.length {α : Type} {l m : List α} (h : Rota l m) : l.length = m.length := by
  obtain ⟨a, b, rfl, rfl⟩ := h
  simp only [List.length_append]; omega
theorem Rota.mem {α : Type} {l m : List α} (h : Rota l m) {x : α} (hx : x ∈ m) : x ∈ l := by
  obtain ⟨a, b, rfl, rfl⟩ := h
  simp only [List.mem_append] at *; exact hx.symm
theorem Rota.map {α β : Type} (f : α → β) {l m : List α} (h : Rota l m) : Rota (l.map f) (m.map f) := by
  obtain ⟨a, b, rfl, rfl⟩ := h
  exact ⟨a.map f, b.map f, by simp, by simp⟩
/-- p stands behind the last and ahead of the first of l, with no turning -/
def Flat (p : Pt) (l : List Pt) : Prop := ∃ a b, l.getLast? = some a ∧ l.head? = some b ∧ turn a p b = 0
/-- one point without turning is dropped out of a ring of three or more -/
def Drop1 (C C' : List Pt) : Prop := ∃ p l, Rota C (p :: l) ∧ 2 ≤ l.length ∧ Flat p l ∧ Rota l C'
inductive Drops : List Pt → List Pt → Prop
  | rota {C D} : Rota C D → Drops C D
  | step {C C' D} : Drop1 C C' → Drops C' D → Drops C D
def Norm (C : List Pt) : Prop := C.length ≤ 2 ∨ ∀ C', ¬ Drop1 C C'
def Like (C D : List Pt) : Prop := Rota C D ∨ (C.length ≤ 2 ∧ D.length ≤ 2)
theorem Like.symm {C D : List Pt} (h : Like C D) : Like D C := h.elim (fun r => .inl r.symm) fun q => .inr q.symm
theorem Like.trans {C D E : List Pt} (h : Like C D) (k : Like D E) : Like C E := by
  rcases h with h | h <;> rcases k with k | k
  · exact .inl (h.trans k)
  · exact .inr ⟨by rw [h.length]; exact k.1, k.2⟩
  · exact .inr ⟨h.1, by rw [← k.length]; exact h.2⟩
  · exact .inr ⟨h.1, k.2⟩
theorem Drop1.rota {C C0 D : List Pt} (r : Rota C0 C) (h : Drop1 C D) : Drop1 C0 D := by
  obtain ⟨p, l, r', h2, hf, e⟩ := h
  exact ⟨p, l, r.trans r', h2, hf, e⟩
theorem Drop1.len {C D : List Pt} (h : Drop1 C D) : D.length < C.length := by
  obtain ⟨p, l, r, h2, hf, e⟩ := h
  rw [r.length, ← e.length]; simp
theorem Drops.rota_l {C C0 D : List Pt} (r : Rota C0 C) (h : Drops C D) : Drops C0 D := by
  cases h with
  | rota r' => exact .rota (r.trans r')
  | step s t => exact .step (s.rota r) t
theorem Drops.trans {C D E : List Pt} (h : Drops C D) (k : Drops D E) : Drops C E := by
  induction h with
  | rota r => exact k.rota_l r
  | step s _ ih => exact .step s (ih k)
theorem norm_ex : ∀ (n : Nat) (C : List Pt), C.length ≤ n → ∃ D, Drops C D ∧ Norm D
  | 0, C, h => ⟨C, .rota (.refl C), .inl (by omega)⟩
  | n + 1, C, h => by
    by_cases q : ∃ C', Drop1 C C'
    · obtain ⟨C', s⟩ := q
      have := s.len
      obtain ⟨D, d, nd⟩ := norm_ex n C' (by omega)
      exact ⟨D, .step s d, nd⟩
    · exact ⟨C, .rota (.refl C), .inr fun C' s => q ⟨C', s⟩⟩
theorem turn_cyc (a b c : Pt) : turn a b c = turn b c a := by unfold turn; grind
theorem ends_ne {l : List Pt} (h : l ≠ []) : ∃ a b, l.getLast? = some a ∧ l.head? = some b := by
  cases l with
  | nil => exact absurd rfl h
  | cons x r => exact ⟨_, _, List.getLast?_eq_some_getLast (by simp), rfl⟩
/-- a, p, q and p, q, b on a line, p not q: so are a, q, b -/
theorem col_three {a p q b : Pt} (h1 : turn a p q = 0) (h2 : turn p q b = 0) (h : p ≠ q) : turn a q b = 0 := by
  unfold turn at *
  have h3 : p.1 ≠ q.1 ∨ p.2 ≠ q.2 := by
    by_cases e : p.1 = q.1
    · right; intro f; exact h (Prod.ext e f)
    · exact .inl e
  rcases h3 with h3 | h3
  · have : (p.1 - q.1) * ((q.1 - a.1) * (b.2 - a.2) - (q.2 - a.2) * (b.1 - a.1)) = 0 := by grind
    rcases Int.mul_eq_zero.mp this with e | e
    · omega
    · exact e
  · have : (p.2 - q.2) * ((q.1 - a.1) * (b.2 - a.2) - (q.2 - a.2) * (b.1 - a.1)) = 0 := by grind
    rcases Int.mul_eq_zero.mp this with e | e
    · omega
    · exact e
theorem col_three' {a p q b : Pt} (h1 : turn a p q = 0) (h2 : turn p q b = 0) (h : p ≠ q) : turn a p b = 0 := by
  have := col_three (a := b) (p := q) (q := p) (b := a) (by unfold turn at *; grind) (by unfold turn at *; grind) (fun e => h e.symm)
  unfold turn at *; grind
/-- the two ways join -/
def Joins (C D : List Pt) : Prop := Like C D ∨ ∃ E, (Drop1 C E ∨ Rota C E) ∧ (Drop1 D E ∨ Rota D E)
theorem adj {p q : Pt} {m : List Pt} (hm : m ≠ []) (h1 : Flat p (q :: m)) (h2 : Flat q (m ++ [p])) : Joins (q :: m) (p :: m) := by
  obtain ⟨a, b, ea, eb⟩ := ends_ne hm
  have g1 : turn a p q = 0 := by
    obtain ⟨a', b', x, y, z⟩ := h1
    have : (q :: m).getLast? = m.getLast? := by cases m with
      | nil => exact absurd rfl hm
      | cons u v => simp [List.getLast?_cons_cons]
    rw [this, ea] at x
    simp only [List.head?_cons, Option.some.injEq] at x y
    rw [x, y]; exact z
  have g2 : turn p q b = 0 := by
    obtain ⟨a', b', x, y, z⟩ := h2
    rw [List.head?_append, eb] at y
    simp only [List.getLast?_append, List.getLast?_singleton, Option.some_or, Option.or_some, Option.some.injEq] at x y
    rw [x, y]; exact z
  by_cases e : p = q
  · subst e; exact .inl (.inl (.refl _))
  · by_cases hl : m.length = 1
    · exact .inl (.inr (by simp [hl]))
    · have h2 : 2 ≤ m.length := by
        cases m with
        | nil => exact absurd rfl hm
        | cons u v => simp only [List.length_cons] at hl ⊢; omega
      exact .inr ⟨m, .inl ⟨q, m, .refl _, h2, ⟨a, b, ea, eb, col_three g1 g2 e⟩, .refl _⟩, .inl ⟨p, m, .refl _, h2, ⟨a, b, ea, eb, col_three' g1 g2 e⟩, .refl _⟩⟩
theorem Joins.symm {C D : List Pt} (h : Joins C D) : Joins D C := h.elim (fun q => .inl q.symm) fun ⟨E, x, y⟩ => .inr ⟨E, y, x⟩
theorem Joins.rota {C D C' D' : List Pt} (h : Joins C D) (r : Rota C' C) (s : Rota D' D) : Joins C' D' := by
  rcases h with h | ⟨E, x, y⟩
  · exact .inl ((Like.trans (.inl r) h).trans (.inl s.symm))
  · exact .inr ⟨E, x.elim (fun q => .inl (q.rota r)) fun q => .inr (r.trans q), y.elim (fun q => .inl (q.rota s)) fun q => .inr (s.trans q)⟩
theorem local_conf {C C1 C2 : List Pt} (h1 : Drop1 C C1) (h2 : Drop1 C C2) : Joins C1 C2 := by
  obtain ⟨p, l, r1, n1, f1, k1⟩ := h1
  obtain ⟨q, l', r2, n2, f2, k2⟩ := h2
  refine Joins.rota (C := l) (D := l') ?_ k1.symm k2.symm
  obtain ⟨a, b, e1, e2⟩ := r1.symm.trans r2
  rcases a with _ | ⟨p', a⟩
  · simp only [List.nil_append, List.append_nil] at e1 e2
    rw [← e1] at e2
    injection e2 with e3 e4
    rw [e4]; exact .inl (.inl (.refl _))
  rcases b with _ | ⟨q', b⟩
  · simp only [List.nil_append, List.append_nil] at e1 e2
    rw [← e1] at e2
    injection e2 with e3 e4
    rw [e4]; exact .inl (.inl (.refl _))
  simp only [List.cons_append, List.cons.injEq] at e1 e2
  obtain ⟨rfl, e1⟩ := e1
  obtain ⟨rfl, e2⟩ := e2
  subst e1 e2
  rcases a with _ | ⟨x, a⟩
  · -- q stands behind p
    have hb : b ≠ [] := by intro e; subst e; simp at n1
    exact (adj hb f1 f2).rota (.refl _) ⟨b, [p], by simp, by simp⟩
  rcases b with _ | ⟨y, b⟩
  · have ha : (x :: a) ≠ [] := by simp
    exact ((adj ha f2 f1).rota (C' := p :: x :: a) (D' := x :: a ++ [q]) (.refl _) ⟨x :: a, [q], by simp, by simp⟩).symm
  · -- apart
    refine .inr ⟨(y :: b) ++ (x :: a), .inl ⟨q, (y :: b) ++ (x :: a), ⟨x :: a, q :: y :: b, rfl, by simp⟩, by simp only [List.length_append, List.length_cons]; omega, ?_, .refl _⟩, .inl ?_⟩
    · obtain ⟨u, v, hu, hv, hz⟩ := f2
      refine ⟨u, v, ?_, ?_, hz⟩
      · rw [List.getLast?_append] at *
        rw [List.getLast?_cons_cons] at hu
        exact hu
      · simpa using hv
    · have fp : Flat p ((x :: a) ++ (y :: b)) := by
        obtain ⟨u, v, hu, hv, hz⟩ := f1
        refine ⟨u, v, ?_, ?_, hz⟩
        · rw [List.getLast?_append] at *
          rw [List.getLast?_cons_cons] at hu
          exact hu
        · simpa using hv
      exact ⟨p, (x :: a) ++ (y :: b), ⟨y :: b, p :: x :: a, rfl, by simp⟩, by simp only [List.length_append, List.length_cons]; omega, fp, ⟨x :: a, y :: b, rfl, rfl⟩⟩
theorem Norm.rota {C D : List Pt} (h : Norm C) (r : Rota C D) : Norm D := h.elim (fun q => .inl (by rw [← r.length]; exact q)) fun q => .inr fun C' s => q C' (s.rota r)
theorem Drops.of_norm {C D : List Pt} (h : Norm C) (d : Drops C D) : Like C D := by
  rcases h with h | h
  · have : D.length ≤ C.length := by
      clear h
      induction d with
      | rota r => rw [r.length]; exact Nat.le_refl _
      | step s _ ih => exact Nat.le_trans ih (Nat.le_of_lt s.len)
    exact .inr ⟨h, by omega⟩
  · cases d with
    | rota r => exact .inl r
    | step s _ => exact absurd s (h _)
theorem confluent : ∀ (n : Nat) {C D D' : List Pt}, C.length ≤ n → Drops C D → Drops C D' → Norm D → Norm D' → Like D D'
  | 0, C, D, D', hn, h, h', _, _ => (Drops.of_norm (.inl (by omega)) h).symm.trans (Drops.of_norm (.inl (by omega)) h')
  | n + 1, C, D, D', hn, h, h', nd, nd' => by
    cases h with
    | rota r => exact (Like.symm (.inl r)).trans (Drops.of_norm (nd.rota r.symm) h')
    | @step _ C1 _ s t =>
      cases h' with
      | rota r => exact (Drops.of_norm (nd'.rota r.symm) (.step s t)).symm.trans (.inl r)
      | @step _ C2 _ s' t' =>
        have l1 := s.len
        have l2 := s'.len
        rcases local_conf s s' with (j | ⟨j1, j2⟩) | ⟨E, j1, j2⟩
        · exact confluent n (by omega) t (t'.rota_l j) nd nd'
        · exact ((Drops.of_norm (.inl j1) t).symm.trans (.inr ⟨j1, j2⟩)).trans (Drops.of_norm (.inl j2) t')
        · obtain ⟨N, hN, nN⟩ := norm_ex E.length E (Nat.le_refl _)
          have d1 : Drops C1 N := j1.elim (fun q => .step q hN) fun q => hN.rota_l q
          have d2 : Drops C2 N := j2.elim (fun q => .step q hN) fun q => hN.rota_l q
          exact (confluent n (by omega) t d1 nd nN).trans (confluent n (by omega) t' d2 nd' nN).symm
end Mine
end

section
open PySem PySem.W PySem.Calls PyProof.Rows
set_option linter.all false
namespace Mine
abbrev pl (l : List Nat) (j : Nat) : Nat := l.getD j 0
theorem pl_get {l : List Nat} {j : Nat} (h : j < l.length) : pl l j = l[j] := by simp [pl, List.getD_eq_getElem?_getD, h]
theorem pl_mem {l : List Nat} {j : Nat} (h : j < l.length) : pl l j ∈ l := by rw [pl_get h]; exact List.getElem_mem h
theorem pl_inj {l : List Nat} (nd : l.Nodup) {i j : Nat} (hi : i < l.length) (hj : j < l.length) (e : pl l i = pl l j) : i = j := by
  rw [pl_get hi, pl_get hj] at e
  exact (List.getElem_inj nd).mp e
theorem pl_rota {a b : List Nat} {k : Nat} (hk : k < (a ++ b).length) : pl (b ++ a) k = pl (a ++ b) ((k + a.length) % (a ++ b).length) := by
  rw [List.length_append] at *
  by_cases h : k < b.length
  · rw [Nat.mod_eq_of_lt (by omega)]
    unfold pl
    rw [List.getD_eq_getElem?_getD, List.getD_eq_getElem?_getD, List.getElem?_append_left h, List.getElem?_append_right (by omega), show k + a.length - a.length = k by omega]
  · have : (k + a.length) % (a.length + b.length) = k - b.length := by
      rw [show k + a.length = (k - b.length) + (a.length + b.length) by omega, Nat.add_mod_right, Nat.mod_eq_of_lt (by omega)]
    rw [this]
    unfold pl
    rw [List.getD_eq_getElem?_getD, List.getD_eq_getElem?_getD, List.getElem?_append_right (by omega), List.getElem?_append_left (by omega)]
/-- the links of st run round l -/
def RingOf (st : St) (l : List Nat) : Prop := l.Nodup ∧ l ≠ [] ∧ ∀ k, k < l.length → st.nx (pl l k) = pl l ((k + 1) % l.length) ∧ st.pv (pl l ((k + 1) % l.length)) = pl l k
theorem RingOf.pos {st : St} {l : List Nat} (h : RingOf st l) : 0 < l.length := List.length_pos_iff.mpr h.2.1
theorem Rota.nodup {α : Type} {l l' : List α} (r : Rota l l') (h : l.Nodup) : l'.Nodup := by
  obtain ⟨a, b, rfl, rfl⟩ := r
  rw [List.nodup_append] at *
  exact ⟨h.2.1, h.1, fun x hx y hy e => h.2.2 y hy x hx e.symm⟩
theorem RingOf.rota {st : St} {l l' : List Nat} (h : RingOf st l) (r : Rota l l') : RingOf st l' := by
  have hp := h.pos
  have hl := r.length
  refine ⟨r.nodup h.1, fun e => by have := congrArg List.length e; simp only [List.length_nil] at this; omega, ?_⟩
  obtain ⟨a, b, rfl, rfl⟩ := r
  intro k hk
  have hk' : k < (a ++ b).length := by rw [hl]; exact hk
  have h1 := h.2.2 ((k + a.length) % (a ++ b).length) (Nat.mod_lt _ hp)
  rw [← hl, pl_rota hk', pl_rota (Nat.mod_lt _ hp)]
  rw [Nat.mod_add_mod, show k + 1 + a.length = k + a.length + 1 by omega]
  rw [Nat.mod_add_mod] at h1
  exact h1
def rotN (l : List Nat) : List Nat := l.drop 1 ++ l.take 1
theorem rota_rotN (l : List Nat) : Rota l (rotN l) := ⟨l.take 1, l.drop 1, (List.take_append_drop 1 l).symm, rfl⟩
theorem rotN_len (l : List Nat) : (rotN l).length = l.length := (rota_rotN l).length.symm
theorem rotN_pl {l : List Nat} {k : Nat} (hk : k < l.length) : pl (rotN l) k = pl l ((k + 1) % l.length) := by
  have h := pl_rota (a := l.take 1) (b := l.drop 1) (k := k) (by rw [List.take_append_drop]; exact hk)
  rw [List.take_append_drop, List.length_take, Nat.min_eq_left (by omega)] at h
  exact h
theorem ring_nx {st : St} {l : List Nat} (h : RingOf st l) {k : Nat} (hk : k < l.length) : st.nx (pl l k) = pl l ((k + 1) % l.length) := (h.2.2 k hk).1
theorem ring_pv {st : St} {l : List Nat} (h : RingOf st l) {k : Nat} (hk : k < l.length) : st.pv (pl l k) = pl l (if k = 0 then l.length - 1 else k - 1) := by
  by_cases e : k = 0
  · subst e
    have := (h.2.2 (l.length - 1) (by omega)).2
    rw [show l.length - 1 + 1 = l.length by omega, Nat.mod_self] at this
    exact this
  · have := (h.2.2 (k - 1) (by omega)).2
    rw [show k - 1 + 1 = k by omega, Nat.mod_eq_of_lt hk] at this
    rw [this, if_neg e]
theorem ring_unique {st : St} {l l' : List Nat} (h : RingOf st l) (h' : RingOf st l') (e : pl l 0 = pl l' 0) : l = l' := by
  have key : ∀ j, j < l.length → j < l'.length → pl l j = pl l' j := by
    intro j
    induction j with
    | zero => intro _ _; exact e
    | succ j ih =>
      intro a b
      have x := ring_nx h (show j < l.length by omega)
      have y := ring_nx h' (show j < l'.length by omega)
      rw [Nat.mod_eq_of_lt a] at x
      rw [Nat.mod_eq_of_lt b] at y
      rw [← x, ← y, ih (by omega) (by omega)]
  have no : ∀ {m m' : List Nat}, RingOf st m → RingOf st m' → pl m 0 = pl m' 0 → (∀ j, j < m.length → j < m'.length → pl m j = pl m' j) → ¬ m.length < m'.length := by
    intro m m' hm hm' e k lt
    have p := hm.pos
    have x := ring_nx hm (show m.length - 1 < m.length by omega)
    have y := ring_nx hm' (show m.length - 1 < m'.length by omega)
    rw [show m.length - 1 + 1 = m.length by omega] at x y
    rw [Nat.mod_self] at x
    rw [Nat.mod_eq_of_lt lt, ← k _ (by omega) (by omega), x, e] at y
    have := pl_inj hm'.1 (by omega) lt y
    omega
  have hl : l.length = l'.length := by
    have a := no h h' e key
    have b := no h' h e.symm (fun j x y => (key j y x).symm)
    omega
  apply List.ext_getElem hl
  intro i h1 h2
  have := key i h1 h2
  rwa [pl_get h1, pl_get h2] at this
/-- e stands i places on -/
def At (l : List Nat) (e i : Nat) : Prop := 1 ≤ i ∧ i ≤ l.length ∧ pl l (i % l.length) = e
theorem At.inj {l : List Nat} (nd : l.Nodup) {e i j : Nat} (h : At l e i) (k : At l e j) : i = j := by
  obtain ⟨a, b, c⟩ := h
  obtain ⟨a', b', c'⟩ := k
  have := pl_inj nd (Nat.mod_lt _ (by omega)) (Nat.mod_lt _ (by omega)) (c.trans c'.symm)
  by_cases x : i = l.length <;> by_cases y : j = l.length
  · omega
  · rw [x, Nat.mod_self, Nat.mod_eq_of_lt (by omega)] at this; omega
  · rw [y, Nat.mod_self, Nat.mod_eq_of_lt (by omega)] at this; omega
  · rw [Nat.mod_eq_of_lt (by omega), Nat.mod_eq_of_lt (by omega)] at this; omega
theorem At.head {l : List Nat} (h : 0 < l.length) : At l (pl l 0) l.length := ⟨h, Nat.le_refl _, by rw [Nat.mod_self]⟩
theorem At.one {l : List Nat} (nd : l.Nodup) {e i : Nat} (h : At l e i) : pl (rotN l) 0 = e ↔ i = 1 := by
  obtain ⟨a, b, c⟩ := h
  rw [rotN_pl (by omega)]
  constructor
  · intro q
    exact At.inj nd ⟨a, b, c⟩ ⟨Nat.le_refl _, by omega, q⟩
  · intro q; subst q; exact c
theorem At.rot {l : List Nat} {e i : Nat} (h : At l e i) (hi : i ≠ 1) : At (rotN l) e (i - 1) := by
  obtain ⟨a, b, c⟩ := h
  refine ⟨by omega, by rw [rotN_len]; omega, ?_⟩
  rw [rotN_len, rotN_pl (Nat.mod_lt _ (by omega)), Nat.mod_add_mod, show i - 1 + 1 = i by omega]
  exact c
open Classical in
noncomputable def muL (l : List Nat) (e : Nat) : Nat := if h : ∃ i, At l e i then 100 * l.length + choose h else 0
theorem muL_eq {l : List Nat} (nd : l.Nodup) {e i : Nat} (h : At l e i) : muL l e = 100 * l.length + i := by
  unfold muL
  rw [dif_pos ⟨i, h⟩]
  have := At.inj nd (Classical.choose_spec (⟨i, h⟩ : ∃ i, At l e i)) h
  rw [this]
open Classical in
noncomputable def muS (st : St) (p e : Nat) : Nat := if h : ∃ l, RingOf st l ∧ pl l 0 = p then muL (choose h) e else 0
theorem muS_eq {st : St} {l : List Nat} (h : RingOf st l) {e i : Nat} (k : At l e i) : muS st (pl l 0) e = 100 * l.length + i := by
  unfold muS
  have ex : ∃ l', RingOf st l' ∧ pl l' 0 = pl l 0 := ⟨l, h, rfl⟩
  rw [dif_pos ex]
  have := Classical.choose_spec ex
  rw [ring_unique this.1 h this.2]
  exact muL_eq h.1 k
theorem remove_nx (st : St) (p k : Nat) : (st.remove p).nx k = if k = st.pv p then st.nx p else st.nx k := by
  
  unfold St.remove St.setPv St.setNx; dsimp only
  simp only [ite_self]
theorem remove_pv (st : St) (p k : Nat) : (st.remove p).pv k = if k = st.nx p then st.pv p else st.pv k := by
  unfold St.remove St.setPv St.setNx; dsimp only
theorem pl_drop {l : List Nat} {i k : Nat} : pl (l.drop i) k = pl l (i + k) := by simp [pl, List.getD_eq_getElem?_getD, List.getElem?_drop]
theorem ring_remove {st : St} {l : List Nat} (h : RingOf st l) (h2 : 2 ≤ l.length) : RingOf (st.remove (pl l 0)) (l.drop 1) := by
  have hl : (l.drop 1).length = l.length - 1 := List.length_drop
  have e1 : st.pv (pl l 0) = pl l (l.length - 1) := by rw [ring_pv h (by omega), if_pos rfl]
  have e2 : st.nx (pl l 0) = pl l 1 := by rw [ring_nx h (by omega), Nat.mod_eq_of_lt (by omega)]
  refine ⟨h.1.sublist (List.drop_sublist 1 l), fun e => by have := congrArg List.length e; simp only [List.length_nil] at this; omega, fun k hk => ?_⟩
  rw [hl] at *
  rw [remove_nx, remove_pv, e1, e2, pl_drop, pl_drop]
  by_cases e : k + 1 = l.length - 1
  · rw [e, Nat.mod_self, if_pos (by rw [show 1 + k = k + 1 by omega, e]), show 1 + 0 = 1 by rfl, if_pos rfl, show 1 + k = k + 1 by omega, e]
    exact ⟨rfl, rfl⟩
  · rw [Nat.mod_eq_of_lt (show k + 1 < l.length - 1 by omega)]
    have a := h.2.2 (1 + k) (by omega)
    rw [Nat.mod_eq_of_lt (by omega)] at a
    rw [if_neg (fun q => by have := pl_inj h.1 (by omega) (by omega) q; omega), if_neg (fun q => by have := pl_inj h.1 (by omega) (by omega) q; omega)]
    exact a
abbrev ix (R : Rg) : List Nat := R.map Prod.fst
theorem at_ix (R : Rg) (j : Nat) : R.at j = pl (ix R) j := by
  unfold Rg.at pl
  rw [List.getD_eq_getElem?_getD, List.getD_eq_getElem?_getD, List.getElem?_map]
  cases R[j]? <;> rfl
theorem ix_len (R : Rg) : (ix R).length = R.length := List.length_map ..
theorem ix_rot (R : Rg) : ix (rot R) = rotN (ix R) := by unfold rot rotN ix; simp [List.map_drop, List.map_take]
theorem ix_drop (R : Rg) (k : Nat) : ix (R.drop k) = (ix R).drop k := by simp [ix, List.map_drop]
def WC (xs ys : Nat → Int) (l : List Nat) : Prop :=
  ¬ (xs (pl l (l.length - 1)) = xs (pl l (2 % l.length)) ∧ ys (pl l (l.length - 1)) = ys (pl l (2 % l.length))) ∧
  MeetZ xs ys (pl l (l.length - 1)) (pl l 0) (pl l (1 % l.length)) (pl l (2 % l.length)) ∧
  WithinZ xs ys (pl l ((l.length - 2) % l.length)) (pl l (l.length - 1)) (pl l 0) (pl l (2 % l.length)) ∧
  WithinZ xs ys (pl l (1 % l.length)) (pl l (2 % l.length)) (pl l (3 % l.length)) (pl l (l.length - 1))
theorem wc_ix {xs ys : Nat → Int} {R : Rg} : WCond xs ys R ↔ WC xs ys (ix R) := by
  unfold WCond WC
  simp only [at_ix, ix_len]
theorem cross_same {xs ys : Nat → Int} (a b : Nat) : crossZ xs ys a b b = 0 ∧ crossZ xs ys a b a = 0 := by unfold crossZ; grind
theorem wc_four {xs ys : Nat → Int} {l : List Nat} (h2 : 2 ≤ l.length) (h : WC xs ys l) : 4 ≤ l.length := by
  apply Decidable.byContradiction
  intro hn
  obtain ⟨h1, _, h3, _⟩ := h
  have : l.length = 2 ∨ l.length = 3 := by omega
  rcases this with e | e
  · rw [e] at h3
    simp only [Nat.sub_self, Nat.mod_self, Nat.zero_mod, Nat.reduceSub] at h3
    have := cross_same (xs := xs) (ys := ys) (pl l 1) (pl l 0)
    unfold WithinZ at h3
    omega
  · rw [e] at h1
    exact h1 ⟨rfl, rfl⟩
theorem cond_wc {P : Par} {st : St} {l : List Nat} (h : RingOf st l) (h2 : 2 ≤ l.length) : Cond P st (pl l 0) ↔ WC P.xs P.ys l := by
  have e1 : st.nx (pl l 0) = pl l (1 % l.length) := ring_nx h (by omega)
  have e2 : st.nx (pl l (1 % l.length)) = pl l (2 % l.length) := by rw [ring_nx h (Nat.mod_lt _ (by omega)), Nat.mod_add_mod]
  have e3 : st.nx (pl l (2 % l.length)) = pl l (3 % l.length) := by rw [ring_nx h (Nat.mod_lt _ (by omega)), Nat.mod_add_mod]
  have e4 : st.pv (pl l 0) = pl l (l.length - 1) := by rw [ring_pv h (by omega), if_pos rfl]
  have e5 : st.pv (pl l (l.length - 1)) = pl l ((l.length - 2) % l.length) := by rw [ring_pv h (by omega), if_neg (by omega), Nat.mod_eq_of_lt (by omega)]; rfl
  have e6 : st.nx (pl l (l.length - 1)) = pl l 0 := by rw [ring_nx h (by omega), show l.length - 1 + 1 = l.length by omega, Nat.mod_self]
  have e7 : st.pv (pl l (2 % l.length)) = pl l (1 % l.length) := by rw [← e2]; exact (h.2.2 (1 % l.length) (Nat.mod_lt _ (by omega))).2 |> fun q => by rw [e2]; rwa [Nat.mod_add_mod] at q
  unfold Cond WC SamePt
  rw [inters_meet, inside_within, inside_within, e1, e2, e3, e4, e5, e6, e7]
abbrev C3 := Nat × Nat × Nat
/-- the plain list that turns, from a ring, a point to stop at and the cuts so far -/
inductive Run (xs ys : Nat → Int) : List Nat → Nat → List C3 → List Nat → List C3 → Prop
  | cut {l e cs F G} : WC xs ys l → Run xs ys (rotN (l.drop 2)) (pl l 2) (cs ++ [(pl l (l.length - 1), pl l 0, pl l 2)]) F G → Run xs ys l e cs F G
  | stop {l e cs} : ¬ WC xs ys l → pl (rotN l) 0 = e → Run xs ys l e cs (rotN l) cs
  | go {l e cs F G} : ¬ WC xs ys l → pl (rotN l) 0 ≠ e → Run xs ys (rotN l) e cs F G → Run xs ys l e cs F G
theorem cut_ring {st : St} {l : List Nat} (h : RingOf st l) (h4 : 4 ≤ l.length) : RingOf (st.cut (pl l 0)) (l.drop 2) := by
  have r1 := ring_remove h (by omega)
  have r2 := ring_remove r1 (by rw [List.length_drop]; omega)
  rw [List.drop_drop] at r2
  unfold St.cut
  have e : (st.remove (pl l 0)).nx (pl l 0) = pl (l.drop 1) 0 := by
    rw [remove_nx, pl_drop, ring_pv h (by omega), if_pos rfl, ring_nx h (by omega), Nat.mod_eq_of_lt (by omega)]
    rw [if_neg (fun q => by have := pl_inj h.1 (by omega) (by omega) q; omega)]
  rw [e]
  exact r2
theorem drop2_len {l : List Nat} : (l.drop 2).length = l.length - 2 := List.length_drop
theorem cut_at {l : List Nat} (h4 : 4 ≤ l.length) : At (rotN (l.drop 2)) (pl l 2) (l.length - 3) := by
  have a := At.head (l := l.drop 2) (by rw [drop2_len]; omega)
  rw [pl_drop, drop2_len] at a
  have b := a.rot (by omega)
  exact b
theorem cut_off {l : List Nat} (nd : l.Nodup) (h4 : 4 ≤ l.length) : pl (rotN (l.drop 2)) 0 ≠ pl l 2 := by
  intro q
  have a := At.head (l := l.drop 2) (by rw [drop2_len]; omega)
  rw [pl_drop, drop2_len] at a
  have := (At.one (nd.sublist (List.drop_sublist 2 l)) a).mp q
  omega
end Mine
end

section
open PySem PySem.W PySem.Calls PyProof.Rows
set_option linter.all false
namespace Mine
abbrev c3 (c : SC) : C3 := (c.2.1.1, c.2.2.1.1, c.2.2.2.1)
def Fit (l : List Nat) (n : Nat) : Prop := l.Nodup ∧ 2 ≤ l.length ∧ l.length ≤ 9 ∧ ∀ x ∈ l, x < n
theorem Fit.rota {l l' : List Nat} {n : Nat} (h : Fit l n) (r : Rota l l') : Fit l' n := ⟨r.nodup h.1, by rw [← r.length]; exact h.2.1, by rw [← r.length]; exact h.2.2.1, fun x hx => h.2.2.2 x (r.mem hx)⟩
theorem Fit.drop {l : List Nat} {n : Nat} (h : Fit l n) (h4 : 4 ≤ l.length) : Fit (l.drop 2) n := ⟨h.1.sublist (List.drop_sublist 2 l), by rw [drop2_len]; omega, by rw [drop2_len]; have := h.2.2.1; omega, fun x hx => h.2.2.2 x (List.mem_of_mem_drop hx)⟩
theorem fit_lt {R : Rg} {n : Nat} (h : Fit (ix R) n) : RLt R n := fun q hq => h.2.2.2 q.1 (List.mem_map.mpr ⟨q, hq, rfl⟩)
theorem sweep_plain {w : World} {mean : ExcName → Option Value} {mg mb : Str → Option Value} {news : Led} {xs ys : Nat → Int} {tx ty : Nat → Tok} {ra : Nat → Addr} {n : Nat} {rw rg : Addr} {k1 k2 : Nat} {R : Rg} (hR : RowsIn xs ys tx ty ra n news) (hY : SmallYs ys n) (hn : n ≤ 9) (hrw : (rw, listOf (RowVs ra n).toArray k1) ∈ news) (hrg : (rg, listOf (RV R).toArray k2) ∈ news) (hf : Fit (ix R) n) :
    Does w mean mg mb 170 8 200 news [.ref rw, .ref rg] (fun news' v => ∃ t rg' k R' cl k' cs, v = .ref t ∧ (t, tupO [.ref rg', .ref cl]) ∈ news' ∧ (rg', listOf (RV R').toArray k) ∈ news' ∧ CutsIn cl k' cs news' ∧ (∀ p ∈ news, p ∈ news') ∧
      (Fit (ix R') n ∧ cs.length ≤ 9 ∧ Run xs ys (ix R) (pl (ix R) 0) [] (ix R') (cs.map c3))) := by
  refine sweep_c hR hY hn hrw hrg (fun R1 e cs => Fit (ix R1) n ∧ 2 * cs.length + R1.length ≤ 9 ∧ (∃ i, At (ix R1) e i) ∧ ∀ F G, Run xs ys (ix R1) e (cs.map c3) F G → Run xs ys (ix R) (pl (ix R) 0) [] F G)
    (fun R1 e => muL (ix R1) e) (fun R1 cs => Fit (ix R1) n ∧ cs.length ≤ 9 ∧ Run xs ys (ix R) (pl (ix R) 0) [] (ix R1) (cs.map c3)) ?_ ?_ ?_ ?_
  · refine ⟨hf, by have := hf.2.2.1; rw [ix_len] at this; simp only [List.length_nil]; omega, ⟨(ix R).length, ?_⟩, fun F G h => ?_⟩
    · rw [at_ix]; exact At.head (by have := hf.2.1; omega)
    · rw [at_ix] at h; exact h
  · rintro R1 e cs ⟨h1, h2, h3, h4⟩
    have := h1.2.1; have := h1.2.2.1
    rw [ix_len] at *
    exact ⟨by omega, by omega, fit_lt h1, by omega⟩
  · rintro R1 e cs t ta tp tb ⟨h1, h2, ⟨i, h3⟩, h4⟩ hw
    have hw' := wc_ix.mp hw
    have four := wc_four h1.2.1 hw'
    have e1 : ix (rot (R1.drop 2)) = rotN ((ix R1).drop 2) := by rw [ix_rot, ix_drop]
    have hl : (ix R1).length = R1.length := ix_len R1
    refine ⟨by omega, fun q => ?_, fun q => ?_⟩
    · rw [at_ix, at_ix, e1] at q
      exact absurd q (cut_off h1.1 four)
    · refine ⟨⟨?_, ?_, ⟨(ix R1).length - 3, ?_⟩, ?_⟩, ?_⟩
      · rw [e1]; exact (h1.drop four).rota (rota_rotN _)
      · have : (rot (R1.drop 2)).length = R1.length - 2 := by rw [← ix_len, e1, rotN_len, drop2_len, ix_len]
        simp only [List.length_append, List.length_cons, List.length_nil]; omega
      · rw [e1, at_ix]; exact cut_at four
      · intro F G h
        refine h4 F G (.cut hw' ?_)
        rw [e1] at h
        simpa [at_ix, ix_len] using h
      · rw [e1, at_ix, muL_eq ((h1.drop four).rota (rota_rotN _)).1 (cut_at four), muL_eq h1.1 h3, rotN_len, drop2_len]
        omega
  · rintro R1 e cs ⟨h1, h2, ⟨i, h3⟩, h4⟩ hw
    have hw' : ¬ WC xs ys (ix R1) := fun q => hw (wc_ix.mpr q)
    rw [at_ix, ix_rot]
    refine ⟨fun q => ⟨h1.rota (rota_rotN _), by omega, ?_⟩, fun q => ⟨⟨h1.rota (rota_rotN _), ?_, ⟨_, h3.rot ?_⟩, fun F G h => h4 F G (.go hw' q h)⟩, ?_⟩⟩
    · exact h4 _ _ (.stop hw' q)
    · have : (rot R1).length = R1.length := by rw [← ix_len, ix_rot, rotN_len, ix_len]
      omega
    · exact fun z => q ((At.one h1.1 h3).mpr z)
    · have ne : i ≠ 1 := fun z => q ((At.one h1.1 h3).mpr z)
      rw [muL_eq (h1.rota (rota_rotN _)).1 (h3.rot ne), muL_eq h1.1 h3, rotN_len]
      have := h3.1
      omega
end Mine
end

section
open PySem PySem.W PySem.Calls PyProof.Rows
set_option linter.all false
namespace Mine
def predI (l : List Nat) (j : Nat) : Nat := if j = 0 then l.length - 1 else j - 1
abbrev rest (l : List Nat) (j : Nat) : List Nat := l.drop (j + 1) ++ l.take j
theorem rest_rota {T : List Nat} {j : Nat} (hj : j < T.length) : Rota T (pl T j :: rest T j) := by
  refine ⟨T.take j, T.drop j, (List.take_append_drop j T).symm, ?_⟩
  rw [pl_get hj, List.drop_eq_getElem_cons hj]; rfl
theorem rest_erase {T : List Nat} {j : Nat} : Rota (T.eraseIdx j) (rest T j) := ⟨T.take j, T.drop (j + 1), List.eraseIdx_eq_take_drop_succ .., rfl⟩
theorem rest_len {T : List Nat} {j : Nat} (hj : j < T.length) : (rest T j).length = T.length - 1 := by
  rw [List.length_append, List.length_drop, List.length_take]; omega
theorem rest_get {T : List Nat} {j k : Nat} (hj : j < T.length) (hk : k < T.length - 1) : (rest T j)[k]? = some (pl T ((k + 1 + j) % T.length)) := by
  have h := pl_rota (a := T.take j) (b := T.drop j) (k := k + 1) (by rw [List.take_append_drop]; omega)
  rw [List.take_append_drop, List.length_take, Nat.min_eq_left (by omega), List.drop_eq_getElem_cons hj, List.cons_append] at h
  rw [← h, List.getElem?_eq_getElem (by rw [rest_len hj]; exact hk)]
  unfold pl
  rw [List.getD_cons_succ, List.getD_eq_getElem?_getD, List.getElem?_eq_getElem (by rw [rest_len hj]; exact hk)]
  rfl
theorem rest_ends {T : List Nat} {j : Nat} (hj : j < T.length) (h2 : 2 ≤ T.length) : (rest T j).getLast? = some (pl T (predI T j)) ∧ (rest T j).head? = some (pl T ((j + 1) % T.length)) := by
  constructor
  · rw [List.getLast?_eq_getElem?, rest_len hj, rest_get hj (by omega)]
    unfold predI
    by_cases e : j = 0
    · rw [if_pos e, Nat.mod_eq_of_lt (by omega)]; congr 2; omega
    · rw [if_neg e, show T.length - 1 - 1 + 1 + j = (j - 1) + T.length by omega, Nat.add_mod_right, Nat.mod_eq_of_lt (by omega)]
  · rw [List.head?_eq_getElem?, rest_get hj (by omega), show 0 + 1 + j = j + 1 by omega]
section
variable {xs ys : Nat → Int}
def cpt (xs ys : Nat → Int) (k : Nat) : Pt := (xs k, ys k)
abbrev co (xs ys : Nat → Int) (l : List Nat) : List Pt := l.map (cpt xs ys)
theorem drop1_of {T : List Nat} {j : Nat} (hj : j < T.length) (h3 : 3 ≤ T.length) (hz : crossZ xs ys (pl T (predI T j)) (pl T j) (pl T ((j + 1) % T.length)) = 0) {X : List Nat} (hX : Rota (rest T j) X) : Drop1 (co xs ys T) (co xs ys X) := by
  obtain ⟨a, b⟩ := rest_ends hj (by omega)
  refine ⟨cpt xs ys (pl T j), co xs ys (rest T j), (rest_rota hj).map _, by rw [List.length_map, rest_len hj]; omega, ⟨cpt xs ys (pl T (predI T j)), cpt xs ys (pl T ((j + 1) % T.length)), ?_, ?_, hz⟩, hX.map _⟩
  · rw [List.getLast?_map, a]; rfl
  · rw [List.head?_map, b]; rfl
theorem drop1_inv {T : List Nat} {X : List Pt} (h : Drop1 (co xs ys T) X) : ∃ j, j < T.length ∧ 3 ≤ T.length ∧ crossZ xs ys (pl T (predI T j)) (pl T j) (pl T ((j + 1) % T.length)) = 0 := by
  obtain ⟨p, l, r, n2, ⟨u, v, hu, hv, hz⟩, _⟩ := h
  have hl := r.length
  rw [List.length_map, List.length_cons] at hl
  have key : ∃ j, j < T.length ∧ p = cpt xs ys (pl T j) ∧ l = co xs ys (rest T j) := by
    obtain ⟨a, b, e1, e2⟩ := r
    obtain ⟨l₁, l₂, rfl, rfl, rfl⟩ := List.map_eq_append_iff.mp e1
    cases l₂ with
    | nil =>
      cases l₁ with
      | nil => simp at e2
      | cons x l₁ =>
        simp only [List.map_nil, List.nil_append, List.map_cons, List.cons.injEq] at e2
        refine ⟨0, by simp, e2.1, ?_⟩
        rw [e2.2]; simp
    | cons x l₂ =>
      simp only [List.map_cons, List.cons_append, List.cons.injEq] at e2
      refine ⟨l₁.length, by simp, ?_, ?_⟩
      · rw [e2.1]; simp [pl, List.getD_eq_getElem?_getD]
      · rw [e2.2]; simp [List.drop_append]
  obtain ⟨j, hj, rfl, rfl⟩ := key
  obtain ⟨a, b⟩ := rest_ends hj (by omega)
  rw [List.getLast?_map, a] at hu
  rw [List.head?_map, b] at hv
  simp only [Option.map_some, Option.some.injEq] at hu hv
  subst hu hv
  exact ⟨j, hj, by omega, hz⟩
theorem norm_of {T : List Nat} (h : ∀ j, j < T.length → crossZ xs ys (pl T (predI T j)) (pl T j) (pl T ((j + 1) % T.length)) ≠ 0) : Norm (co xs ys T) := .inr fun C' s => by
  obtain ⟨j, hj, _, hz⟩ := drop1_inv s
  exact h j hj hz
end
def FR (P : Par) (l : List Nat) (st' : St) (q : Nat) : Prop :=
  ∃ T, RingOf st' T ∧ pl T 0 = q ∧ (∀ x ∈ T, x ∈ l) ∧ ((T.length = 1 ∧ ∃ D, Drops (co P.xs P.ys l) D ∧ D.length ≤ 2) ∨ (3 ≤ T.length ∧ Drops (co P.xs P.ys l) (co P.xs P.ys T) ∧ Norm (co P.xs P.ys T)))
theorem area_ring {P : Par} {st : St} {T : List Nat} (h : RingOf st T) {j : Nat} (hj : j < T.length) :
    areaZ P (st.pv (pl T j)) (pl T j) (st.nx (pl T j)) = - crossZ P.xs P.ys (pl T (predI T j)) (pl T j) (pl T ((j + 1) % T.length)) := by
  rw [area_cross, ring_pv h hj, ring_nx h hj]; rfl
theorem filter_plain {w : World} {mean : ExcName → Option Value} {mg mb : Str → Option Value} {news : Led} {P : Par} {n : Nat} {st : St} {l : List Nat} (hN : NodesIn P n st news) (hY : SmallY P n) (hr : RingOf st l) (h2 : 2 ≤ l.length) (h9 : l.length ≤ 9) (hn : ∀ x ∈ l, x < n) (hC : Closed n st) :
    Does w mean mg mb 113 4 32 news [.ref (P.nd (pl l 0))] (fun news' v => ∃ st' q, NodesIn P n st' news' ∧ Kept P n news news' ∧ q < n ∧ FR P l st' q ∧ v = .ref (P.nd q)) := by
  refine filter_c hN hY (hn _ (pl_mem (by omega))) (fun st p e => ∃ T i, RingOf st T ∧ pl T 0 = p ∧ 2 ≤ T.length ∧ T.length ≤ 9 ∧ Closed n st ∧ (∀ x ∈ T, x ∈ l) ∧ Drops (co P.xs P.ys l) (co P.xs P.ys T) ∧ At T e i ∧
      ∀ j, i ≤ j → j < T.length → crossZ P.xs P.ys (pl T (predI T j)) (pl T j) (pl T ((j + 1) % T.length)) ≠ 0)
    muS (FR P l) ?_ ?_ ?_ ?_
  · exact ⟨l, l.length, hr, rfl, h2, h9, hC, fun x h => h, .rota (.refl _), At.head (by omega), fun j a b => by omega⟩
  · rintro st p e ⟨T, i, hT, rfl, t2, t9, hC, hs, hd, ⟨a1, a2, a3⟩, hz⟩
    exact ⟨hC, hn _ (hs _ (pl_mem (by omega))), by rw [← a3]; exact hn _ (hs _ (pl_mem (Nat.mod_lt _ (by omega))))⟩
  · rintro st p e ⟨T, i, hT, rfl, t2, t9, hC, hs, hd, hA, hz⟩ ht
    have hp : pl T 0 < n := hn _ (hs _ (pl_mem (by omega)))
    have hz0 : crossZ P.xs P.ys (pl T (predI T 0)) (pl T 0) (pl T ((0 + 1) % T.length)) = 0 := by
      have h0 := area_ring (P := P) hT (show 0 < T.length by omega)
      rcases ht with ⟨x, y⟩ | z
      · rw [ring_nx hT (by omega)] at x y
        unfold crossZ
        rw [← x, ← y]
        grind
      · omega
    have e1 : st.pv (pl T 0) = pl T (T.length - 1) := by rw [ring_pv hT (by omega), if_pos rfl]
    have e2 : st.nx (pl T 0) = pl T 1 := by rw [ring_nx hT (by omega), Nat.mod_eq_of_lt (by omega)]
    have e3 : (st.remove (pl T 0)).pv (pl T 0) = pl T (T.length - 1) := by rw [remove_pv, e1]; simp only [ite_self]
    have e4 : (st.remove (pl T 0)).nx (pl T (T.length - 1)) = pl T 1 := by rw [remove_nx, e1, if_pos rfl, e2]
    have hU := ring_remove hT t2
    have hUl : (T.drop 1).length = T.length - 1 := List.length_drop
    have hUs : ∀ x ∈ T.drop 1, x ∈ l := fun x hx => hs x (List.mem_of_mem_drop hx)
    rw [e3, e4]
    constructor
    · intro q
      have := pl_inj hT.1 (by omega) (by omega) q
      refine ⟨T.drop 1, hU, ?_, hUs, .inl ⟨by omega, _, hd, by rw [List.length_map]; omega⟩⟩
      rw [pl_drop, q]
    · intro q
      have t3 : 3 ≤ T.length := by
        apply Decidable.byContradiction
        intro h
        exact q (by congr 1; omega)
      have hr' : Rota (T.drop 1) ((T.drop 1).drop (T.length - 2) ++ (T.drop 1).take (T.length - 2)) := ⟨_, _, (List.take_append_drop (T.length - 2) (T.drop 1)).symm, rfl⟩
      have h0 : pl ((T.drop 1).drop (T.length - 2) ++ (T.drop 1).take (T.length - 2)) 0 = pl T (T.length - 1) := by
        have := pl_rota (a := (T.drop 1).take (T.length - 2)) (b := (T.drop 1).drop (T.length - 2)) (k := 0) (by rw [List.take_append_drop]; omega)
        rw [List.take_append_drop, List.length_take, hUl, Nat.min_eq_left (by omega), Nat.mod_eq_of_lt (by omega), pl_drop] at this
        rw [this]; congr 1; omega
      generalize hT' : (T.drop 1).drop (T.length - 2) ++ (T.drop 1).take (T.length - 2) = T' at hr' h0
      have hl' := hr'.length
      rw [hUl] at hl'
      have hA' : At T' (pl T (T.length - 1)) T'.length := by
        have := At.head (l := T') (by omega)
        rwa [h0] at this
      have d1 : Drop1 (co P.xs P.ys T) (co P.xs P.ys T') := drop1_of (j := 0) (by omega) t3 hz0 (by show Rota (T.drop (0 + 1) ++ T.take 0) T'; rw [List.take_zero, List.append_nil]; exact hr')
      refine ⟨⟨T', T'.length, hU.rota hr', h0, by omega, by omega, hC.remove hp, fun x hx => hUs x (hr'.mem hx), hd.trans (.step d1 (.rota (.refl _))), hA', fun j a b => by omega⟩, ?_⟩
      rw [muS_eq hT hA]
      have := muS_eq (hU.rota hr') hA'
      rw [h0] at this
      rw [this]
      have := hA.1
      omega
  · rintro st p e ⟨T, i, hT, rfl, t2, t9, hC, hs, hd, hA, hz⟩ ht
    have hz0 : crossZ P.xs P.ys (pl T (predI T 0)) (pl T 0) (pl T ((0 + 1) % T.length)) ≠ 0 := by
      intro h
      have h0 := area_ring (P := P) hT (show 0 < T.length by omega)
      exact ht (.inr (by omega))
    have e2 : st.nx (pl T 0) = pl (rotN T) 0 := by rw [ring_nx hT (by omega), rotN_pl (by omega)]
    rw [e2]
    constructor
    · intro q
      have i1 := (At.one hT.1 hA).mp q
      subst i1
      have hz' : ∀ j, j < T.length → crossZ P.xs P.ys (pl T (predI T j)) (pl T j) (pl T ((j + 1) % T.length)) ≠ 0 := by
        intro j hj
        by_cases e : j = 0
        · subst e; exact hz0
        · exact hz j (by omega) hj
      have t3 : 3 ≤ T.length := by
        apply Decidable.byContradiction
        intro h
        have hl : T.length = 2 := by omega
        apply hz0
        rw [hl]
        have := (cross_same (xs := P.xs) (ys := P.ys) (pl T 1) (pl T 0)).2
        simpa [predI, hl] using this
      have e3 : pl (rotN T) 0 = e := q
      refine ⟨rotN T, hT.rota (rota_rotN T), e3, fun x hx => hs x ((rota_rotN T).mem hx), .inr ⟨by rw [rotN_len]; exact t3, hd.trans (.rota ((rota_rotN T).map _)), (norm_of hz').rota ((rota_rotN T).map _)⟩⟩
    · intro q
      have ne : i ≠ 1 := fun z => q ((At.one hT.1 hA).mpr z)
      refine ⟨⟨rotN T, i - 1, hT.rota (rota_rotN T), rfl, by rw [rotN_len]; exact t2, by rw [rotN_len]; exact t9, hC, fun x hx => hs x ((rota_rotN T).mem hx), hd.trans (.rota ((rota_rotN T).map _)), hA.rot ne, ?_⟩, ?_⟩
      · intro j a b
        have hA1 := hA.1
        rw [rotN_len] at b
        have hR := area_ring (P := P) (hT.rota (rota_rotN T)) (j := j) (by rw [rotN_len]; exact b)
        intro hh
        rw [hh] at hR
        rw [rotN_pl b] at hR
        have hR2 := area_ring (P := P) hT (j := (j + 1) % T.length) (Nat.mod_lt _ (by omega))
        rw [hR2] at hR
        have : crossZ P.xs P.ys (pl T (predI T ((j + 1) % T.length))) (pl T ((j + 1) % T.length)) (pl T (((j + 1) % T.length + 1) % T.length)) = 0 := by omega
        by_cases e : j + 1 = T.length
        · rw [e, Nat.mod_self] at this; exact hz0 this
        · rw [Nat.mod_eq_of_lt (by omega)] at this; exact hz (j + 1) (by omega) (by omega) this
      · have e5 := muS_eq (hT.rota (rota_rotN T)) (hA.rot ne)
        rw [e5, muS_eq hT hA, rotN_len]
        have := hA.1
        omega
end Mine
end

section
open PySem PySem.W PySem.Calls PyProof.Rows
set_option linter.all false
namespace Mine
theorem does_mono {w : World} {mean : ExcName → Option Value} {mg mb : Str → Option Value} {f : Addr} {dd du : Nat} {news : Led} {vs : List Value} {post post' : Led → Value → Prop} (D : Does w mean mg mb f dd du news vs post) (h : ∀ n v, post n v → post' n v) : Does w mean mg mb f dd du news vs post' := by
  intro dp un gd cn cs a ccd cl outer A₀ base h₀ L m s Q E B F X N T hk hd hu ret
  exact D dp un gd cn cs a ccd cl outer A₀ base h₀ L m s Q E B F X N T hk hd hu fun r news' h' tk' F' N' p => ret r news' h' tk' F' N' (h _ _ p)
theorem run_cut {xs ys : Nat → Int} {l : List Nat} {e : Nat} {cs : List C3} {F : List Nat} {G : List C3} (h : Run xs ys l e cs F G) (hw : WC xs ys l) : Run xs ys (rotN (l.drop 2)) (pl l 2) (cs ++ [(pl l (l.length - 1), pl l 0, pl l 2)]) F G := by
  cases h with
  | cut _ r => exact r
  | stop n _ => exact absurd hw n
  | go n _ _ => exact absurd hw n
theorem run_stop {xs ys : Nat → Int} {l : List Nat} {e : Nat} {cs : List C3} {F : List Nat} {G : List C3} (h : Run xs ys l e cs F G) (hw : ¬ WC xs ys l) (q : pl (rotN l) 0 = e) : rotN l = F ∧ cs = G := by
  cases h with
  | cut y _ => exact absurd y hw
  | stop _ _ => exact ⟨rfl, rfl⟩
  | go _ n _ => exact absurd q n
theorem run_go {xs ys : Nat → Int} {l : List Nat} {e : Nat} {cs : List C3} {F : List Nat} {G : List C3} (h : Run xs ys l e cs F G) (hw : ¬ WC xs ys l) (q : pl (rotN l) 0 ≠ e) : Run xs ys (rotN l) e cs F G := by
  cases h with
  | cut y _ => exact absurd y hw
  | stop _ n => exact absurd n q
  | go _ _ r => exact r
theorem cure_plain {w : World} {mean : ExcName → Option Value} {mg mb : Str → Option Value} {news : Led} {P : Par} {n : Nat} {st : St} {tri : Addr} {v0 : Value} {k₀ : Nat} {l F : List Nat} {G : List C3} (hN : NodesIn P n st news) (hY : SmallY P n) (hT : TriIn P n tri v0 k₀ [] news)
    (hr : RingOf st l) (hf : Fit l n) (hC : Closed n st) (hrun : Run P.xs P.ys l (pl l 0) [] F G) :
    Does w mean mg mb 120 8 64 news [.ref (P.nd (pl l 0)), .ref tri] (fun news' v => ∃ st' q k cs, NodesIn P n st' news' ∧ Kept2 P n tri news news' ∧ q < n ∧ (FR P F st' q ∧ cs.map Prod.snd = G) ∧ TriIn P n tri v0 k cs news' ∧ v = .ref (P.nd q)) := by
  refine cure_c hN hY (hf.2.2.2 _ (pl_mem (by have := hf.2.1; omega))) hT
    (fun st p e cs => ∃ l i, RingOf st l ∧ pl l 0 = p ∧ Fit l n ∧ 2 * cs.length + l.length ≤ 9 ∧ At l e i ∧ Closed n st ∧ Run P.xs P.ys l e (cs.map Prod.snd) F G) muS
    (fun st p cs => RingOf st F ∧ pl F 0 = p ∧ Fit F n ∧ Closed n st ∧ cs.map Prod.snd = G)
    (fun st q cs => FR P F st q ∧ cs.map Prod.snd = G) ?_ ?_ ?_ ?_ ?_
  · exact ⟨l, l.length, hr, rfl, hf, by have := hf.2.2.1; simp only [List.length_nil]; omega, At.head (by have := hf.2.1; omega), hC, hrun⟩
  · rintro st p e cs ⟨l, i, hr, rfl, hf, hl, ⟨a1, a2, a3⟩, hC, hrun⟩
    have := hf.2.1
    exact ⟨hC, hf.2.2.2 _ (pl_mem (by omega)), by rw [← a3]; exact hf.2.2.2 _ (pl_mem (Nat.mod_lt _ (by omega))), by omega⟩
  · rintro st p e cs t ⟨l, i, hr, rfl, hf, hl, hA, hC, hrun⟩ hc
    have h2 := hf.2.1
    have hw := (cond_wc hr h2).mp hc
    have h4 := wc_four h2 hw
    have e0 : st.pv (pl l 0) = pl l (l.length - 1) := by rw [ring_pv hr (by omega), if_pos rfl]
    have e1 : st.nx (st.nx (pl l 0)) = pl l 2 := by
      rw [ring_nx hr (by omega), Nat.mod_eq_of_lt (by omega), ring_nx hr (by omega), Nat.mod_eq_of_lt (by omega)]
    have hU := cut_ring hr h4
    have hfU := hf.drop h4
    have hlU := drop2_len (l := l)
    have e2 : (st.cut (pl l 0)).nx (pl l 2) = pl (rotN (l.drop 2)) 0 := by
      have := ring_nx hU (k := 0) (by omega)
      rw [pl_drop] at this
      rw [rotN_pl (by omega)]; exact this
    have e3 : CutC P st (pl l 0) t = (t, pl l (l.length - 1), pl l 0, pl l 2) := by unfold CutC; rw [e0, e1]
    rw [e1, e2]
    refine ⟨fun q => absurd q (cut_off hf.1 h4), fun q => ⟨⟨rotN (l.drop 2), l.length - 3, hU.rota (rota_rotN _), rfl, hfU.rota (rota_rotN _), ?_, cut_at h4, ?_, ?_⟩, ?_⟩⟩
    · rw [rotN_len, hlU]; simp only [List.length_append, List.length_cons, List.length_nil]; omega
    · have hp : pl l 0 < n := hf.2.2.2 _ (pl_mem (by omega))
      unfold St.cut
      exact (hC.remove hp).remove ((hC.remove hp).nx hp)
    · rw [List.map_append, e3]
      exact run_cut hrun hw
    · have := muS_eq (hU.rota (rota_rotN _)) (cut_at h4)
      rw [this, muS_eq hr hA, rotN_len, hlU]
      omega
  · rintro st p e cs ⟨l, i, hr, rfl, hf, hl, hA, hC, hrun⟩ hc
    have h2 := hf.2.1
    have hw : ¬ WC P.xs P.ys l := fun q => hc ((cond_wc hr h2).mpr q)
    have e2 : st.nx (pl l 0) = pl (rotN l) 0 := by rw [ring_nx hr (by omega), rotN_pl (by omega)]
    rw [e2]
    constructor
    · intro q
      obtain ⟨rfl, rfl⟩ := run_stop hrun hw q
      exact ⟨hr.rota (rota_rotN _), rfl, hf.rota (rota_rotN _), hC, rfl⟩
    · intro q
      have ne : i ≠ 1 := fun z => q ((At.one hf.1 hA).mpr z)
      refine ⟨⟨rotN l, i - 1, hr.rota (rota_rotN _), rfl, hf.rota (rota_rotN _), by rw [rotN_len]; exact hl, hA.rot ne, hC, run_go hrun hw q⟩, ?_⟩
      have := muS_eq (hr.rota (rota_rotN _)) (hA.rot ne)
      rw [this, muS_eq hr hA, rotN_len]
      have := hA.1
      omega
  · rintro st p cs news ⟨hr, rfl, hf, hC, hG⟩ hN
    refine does_mono (filter_plain hN hY hr hf.2.1 hf.2.2.1 hf.2.2.2 hC) ?_
    rintro n' v ⟨st', q, a, b, c, d, e⟩
    exact ⟨st', q, a, b, c, ⟨d, hG⟩, e⟩
theorem reduce_plain {w : World} {mean : ExcName → Option Value} {mg mb : Str → Option Value} {news : Led} {xs ys : Nat → Int} {tx ty : Nat → Tok} {ra : Nat → Addr} {n : Nat} {rw rg : Addr} {k1 k2 : Nat} {R : Rg} (hR : RowsIn xs ys tx ty ra n news) (hY : SmallYs ys n) (hn : n ≤ 9) (hrw : (rw, listOf (RowVs ra n).toArray k1) ∈ news) (hrg : (rg, listOf (RV R).toArray k2) ∈ news) (hf : Fit (ix R) n) :
    Does w mean mg mb 177 8 200 news [.ref rg, .ref rw] (fun news' v => ∃ l k R', v = .ref l ∧ (l, listOf (RV R').toArray k) ∈ news' ∧ (∀ p ∈ news, p ∈ news') ∧ (2 ≤ R'.length ∧ R'.length ≤ 9 ∧ RLt R' n ∧ Drops (co xs ys (ix R)) (co xs ys (ix R')) ∧ Norm (co xs ys (ix R')))) := by
  have colz : ∀ (R' : Rg) j, Col xs ys R' j ↔ crossZ xs ys (pl (ix R') (predI (ix R') j)) (pl (ix R') j) (pl (ix R') ((j + 1) % (ix R').length)) = 0 := by
    intro R' j
    unfold Col predI
    simp only [at_ix, ix_len]
  refine does_mono (reduce_c hR hY hn hrw hrg (fun R' => 2 ≤ R'.length ∧ R'.length ≤ 9 ∧ RLt R' n ∧ Drops (co xs ys (ix R)) (co xs ys (ix R'))) ?_ ?_ ?_) ?_
  · have := hf.2.1; have := hf.2.2.1
    rw [ix_len] at *
    exact ⟨by omega, by omega, fit_lt hf, .rota (.refl _)⟩
  · rintro R' ⟨a, b, c, d⟩
    exact ⟨b, c⟩
  · rintro R' j ⟨a, b, c, d⟩ h2 hj hc
    have hl : (R'.eraseIdx j).length = R'.length - 1 := List.length_eraseIdx_of_lt hj
    have e : ix (R'.eraseIdx j) = (ix R').eraseIdx j := by
      unfold ix; rw [List.eraseIdx_eq_take_drop_succ, List.eraseIdx_eq_take_drop_succ, List.map_append, List.map_take, List.map_drop]
    refine ⟨by omega, by omega, fun q hq => c q (List.mem_of_mem_eraseIdx hq), d.trans (.step ?_ (.rota (.refl _)))⟩
    rw [e]
    exact drop1_of (by rw [ix_len]; exact hj) (by rw [ix_len]; omega) ((colz R' j).mp hc) rest_erase.symm
  · rintro n' v ⟨l, k, R', e, m, S, ⟨a, b, c, d⟩, h⟩
    refine ⟨l, k, R', e, m, S, a, b, c, d, ?_⟩
    rcases h with h | h
    · exact .inl (by rw [List.length_map, List.length_map]; exact h)
    · exact norm_of fun j hj hz => h j (by rw [ix_len] at hj; exact hj) ((colz R' j).mpr hz)
theorem same_end {P : Par} {F left : List Nat} {st' : St} {q : Nat} (h : FR P F st' q) (d : Drops (co P.xs P.ys F) (co P.xs P.ys left)) (nl : Norm (co P.xs P.ys left)) :
    ∃ T, RingOf st' T ∧ pl T 0 = q ∧ (∀ x ∈ T, x ∈ F) ∧ T.length = (if 2 < left.length then left.length else 1) ∧ (left.length < 3 ∨ ∃ k, k < T.length ∧ (co P.xs P.ys T).drop k ++ (co P.xs P.ys T).take k = co P.xs P.ys left) := by
  obtain ⟨T, hT, h0, hs, h⟩ := h
  refine ⟨T, hT, h0, hs, ?_⟩
  rcases h with ⟨h1, D, hD, h2⟩ | ⟨h3, hD, hN⟩
  · have := confluent _ (Nat.le_refl _) hD d (.inl h2) nl
    have hl : left.length ≤ 2 := by
      rcases this with r | r
      · have := r.length; rw [List.length_map] at this; omega
      · have := r.2; rwa [List.length_map] at this
    exact ⟨by rw [if_neg (by omega)]; exact h1, .inl (by omega)⟩
  · have := confluent _ (Nat.le_refl _) hD d hN nl
    rcases this with r | r
    · have hl := r.length
      rw [List.length_map, List.length_map] at hl
      refine ⟨by rw [if_pos (by omega)]; exact hl, .inr ?_⟩
      obtain ⟨a, b, e1, e2⟩ := r
      by_cases hb : b = []
      · subst hb
        refine ⟨0, by omega, ?_⟩
        rw [List.drop_zero, List.take_zero, List.append_nil, e1, e2]; simp
      · refine ⟨a.length, ?_, ?_⟩
        · have := congrArg List.length e1
          rw [List.length_map, List.length_append] at this
          have := List.length_pos_iff.mpr hb
          omega
        · rw [e1, e2]; simp
    · have := r.1; rw [List.length_map] at this; omega
end Mine
end

section
open PySem PySem.W PySem.Calls PyProof.Rows
set_option linter.all false
set_option maxHeartbeats 200000
namespace Mine
theorem pts_at {PP : PPar} {n i : Nat} {zs : List Value} {v : Value} (h : zs = (List.range n).map fun j => Value.ref (PP.pt j)) (hi : i < n) (e : zs[i]? = some v) : v = .ref (PP.pt i) := by
  subst h
  rw [List.getElem?_map, List.getElem?_range hi] at e
  simpa using e.symm
theorem PointsIn.old {PP : PPar} {n : Nat} {a b : Led} (h : PointsIn PP n a) (S : ∀ p ∈ a, (∀ es, p.2 ≠ dictOf es 10) → p ∈ b) : PointsIn PP n b := fun k hk =>
  ⟨S _ (h k hk).1 (fun es z => by simp at z), S _ (h k hk).2 (fun es z => by simp at z)⟩
theorem PointsIn.sub {PP : PPar} {n : Nat} {a b : Led} (h : PointsIn PP n a) (S : ∀ p ∈ a, p ∈ b) : PointsIn PP n b := fun k hk => ⟨S _ (h k hk).1, S _ (h k hk).2⟩
theorem ring_stR {n : Nat} (h : 0 < n) : RingOf (stR n) (List.range n) := by
  refine ⟨List.nodup_range, by intro e; have := congrArg List.length e; simp at this; omega, fun k hk => ?_⟩
  rw [List.length_range] at *
  have e : ∀ j, j < n → pl (List.range n) j = j := fun j hj => by rw [pl_get (by rw [List.length_range]; exact hj)]; simp
  rw [e k hk, e _ (Nat.mod_lt _ h)]
  unfold stR
  dsimp only
  by_cases q : k + 1 = n
  · rw [q, Nat.mod_self]; simp; omega
  · rw [Nat.mod_eq_of_lt (by omega), if_neg q, if_neg (by omega)]; simp
/-- the ring from b on -/
def fromB (n b : Nat) : List Nat := (List.range n).drop b ++ (List.range n).take b
theorem rota_from (n b : Nat) : Rota (List.range n) (fromB n b) := ⟨(List.range n).take b, (List.range n).drop b, (List.take_append_drop ..).symm, rfl⟩
theorem from_head {n b : Nat} (h : b < n) : pl (fromB n b) 0 = b := by
  unfold fromB
  rw [List.drop_eq_getElem_cons (by rw [List.length_range]; exact h)]
  simp [pl]
theorem from_fit {n b : Nat} (h4 : 2 ≤ n) (h9 : n ≤ 9) : Fit (fromB n b) n := by
  refine Fit.rota ⟨List.nodup_range, by rw [List.length_range]; exact h4, by rw [List.length_range]; exact h9, fun x hx => List.mem_range.mp hx⟩ (rota_from n b)
theorem allLt_mem {d : Addr} {l : Led} (h : AllLt d l) : ∀ p ∈ l, @LT.lt Nat _ p.1 d := by
  induction l with
  | nil => intro p hp; exact nomatch hp
  | cons q r ih =>
    intro p hp
    rcases List.mem_cons.mp hp with e | e
    · rw [e]; exact h.1
    · exact ih h.2 p e
theorem ins_keep {P : Par} {k : Nat} {st : St} {a b : Led} {h₀ h : Heap} {L : Addr} (N : News h₀ L h a) (hN : NodesIn P k st a) (K : Kept P k a b) {p : Addr × Obj} (hp : p ∈ a) (hne : ∀ es, p.2 ≠ dictOf es 10) : p ∈ b :=
  K p.1 p.2 hp fun j hj => news_ne N hp (hN j hj).2 (hne _)
theorem turn_facts {h₀ h : Heap} {L ml Ia : Addr} {n9 old : Led} {km m : Nat} {oI : Obj} {PP : PPar} {P' : Par} (N9 : News h₀ L h n9) (hcls : oI.cls = .type "range_iterator")
    (f1 : (ml, listOf ((List.range m).map fun j => Value.ref (P'.nd j)).toArray km) ∈ n9) (hI : (Ia, oI) ∈ n9) (hS : ∀ p ∈ old, (∀ es, p.2 ≠ dictOf es 10) → p ∈ n9) (hml : ∀ p ∈ old, p.1 ≠ ml) (hIa : ∀ p ∈ old, (∀ es, p.2 ≠ dictOf es 10) → p.1 ≠ Ia)
    (hA : Agr PP P') (hM : NodesIn P' (m + 1) (stR (m + 1)) n9) :
    ∃ l' : Led, (∀ p ∈ l', p ∈ setL ml (listOf (((List.range m).map fun j => Value.ref (P'.nd j)) ++ [Value.ref (P'.nd m)]).toArray (km + 1)) n9) ∧ (Ia, oI) ∈ setL ml (listOf (((List.range m).map fun j => Value.ref (P'.nd j)) ++ [Value.ref (P'.nd m)]).toArray (km + 1)) n9 ∧
      (∀ p ∈ l', p.1 ≠ Ia) ∧ (∃ k, (ml, listOf ((List.range (m + 1)).map fun j => Value.ref (P'.nd j)).toArray k) ∈ l') ∧ (∀ p ∈ old, (∀ es, p.2 ≠ dictOf es 10) → p ∈ l') ∧ (0 < m + 1 → Agr PP P' ∧ NodesIn P' (m + 1) (stR (m + 1)) l') := by
  have hmI : ml ≠ Ia := news_ne N9 f1 hI (fun e => by rw [← e] at hcls; simp at hcls)
  generalize hoo : listOf (((List.range m).map fun j => Value.ref (P'.nd j)) ++ [Value.ref (P'.nd m)]).toArray (km + 1) = oo
  have put : ∀ {a : Addr} {o : Obj}, (a, o) ∈ n9 → a ≠ ml → a ≠ Ia → (a, o) ∈ (setL ml oo n9).filter (fun p => p.1 != Ia) := by
    intro a o h1 h2 h3
    exact List.mem_filter.mpr ⟨mem_setL h1 h2, bne_iff_ne.mpr h3⟩
  refine ⟨(setL ml oo n9).filter (fun p => p.1 != Ia), fun p hp => (List.mem_filter.mp hp).1, mem_setL hI hmI.symm, fun p hp => bne_iff_ne.mp (List.mem_filter.mp hp).2, ⟨km + 1, ?_⟩, ?_, fun _ => ⟨hA, fun k hk => ⟨?_, ?_⟩⟩⟩
  · have e : listOf ((List.range (m + 1)).map fun j => Value.ref (P'.nd j)).toArray (km + 1) = oo := by rw [← hoo, List.range_succ, List.map_append]; rfl
    rw [e]
    exact List.mem_filter.mpr ⟨mem_setL_self f1, bne_iff_ne.mpr hmI⟩
  · intro p hp hne
    exact put (hS p hp hne) (hml p hp) (hIa p hp hne)
  · have := (hM k hk).1
    refine put this (news_ne N9 this f1 ?_) (news_ne N9 this hI ?_)
    · intro z; simp at z
    · intro e; rw [← e] at hcls; simp at hcls
  · have := (hM k hk).2
    refine put this (news_ne N9 this f1 ?_) (news_ne N9 this hI ?_)
    · intro z; simp at z
    · intro e; rw [← e] at hcls; simp at hcls
theorem one_node {P : Par} {a : Led} (h : NodesIn P 1 ⟨fun _ => 0, fun _ => 0⟩ a) : NodesIn P (0 + 1) (stR (0 + 1)) a := h.eqv fun k hk => by
  have e : k = 0 := by omega
  subst e; exact ⟨rfl, rfl⟩
theorem cells_next {x1 x2 o1 o2 o3 : Obj} {D1 D2 c1 c2 c3 : Addr} {n9 : Led} (S : ∀ p ∈ [(D1, x1), (D2, x2), (c3, o3), (c2, o2), (c1, o1)], p ∈ n9) : (c3, o3) ∈ n9 ∧ (c2, o2) ∈ n9 := ⟨S _ (.tail _ (.tail _ (.head _))), S _ (.tail _ (.tail _ (.tail _ (.head _))))⟩
theorem not_d10 {o : Obj} {v : Option Value} (d : o.data = .cell v) : ∀ es, o ≠ dictOf es 10 := fun es z => by rw [z] at d; cases d
theorem rg_of {vs : List Value} {ns : List Int} (h : IntsAre vs ns) : ∀ l : List Nat, ns = l.map (fun (k : Nat) => (k : Int)) → ∃ R : Rg, vs = RV R ∧ ix R = l := by
  induction h with
  | nil => intro l e; cases l with
    | nil => exact ⟨[], rfl, rfl⟩
    | cons x r => simp at e
  | cons n t _ ih =>
    intro l e
    cases l with
    | nil => simp at e
    | cons x r =>
      simp only [List.map_cons, List.cons.injEq] at e
      obtain ⟨R, rfl, e2⟩ := ih r e.2
      obtain ⟨rfl, _⟩ := e
      exact ⟨(x, t) :: R, rfl, by rw [← e2]; rfl⟩
theorem node_at {P : Par} {n b : Nat} {v : Value} (h : ((List.range n).map fun j => Value.ref (P.nd j))[b]? = some v) (hb : b < n) : v = .ref (P.nd b) := by
  rw [List.getElem?_map, List.getElem?_range hb] at h
  simpa using h.symm
theorem cure_keep {P : Par} {n : Nat} {st : St} {l d : Addr} {o1 o2 : Obj} {n8 : Led} {h₀ h : Heap} {L : Addr} (N : News h₀ L h ((l, o1) :: (d, o2) :: n8)) (hN : NodesIn P n st n8) (lt : (@LT.lt Nat _ d l) ∧ AllLt l n8) (h2 : ∀ es, o2 ≠ dictOf es 10) (n9 : Led) (K : Kept2 P n l ((l, o1) :: (d, o2) :: n8) n9) :
    (∀ p ∈ n8, (∀ es, p.2 ≠ dictOf es 10) → p ∈ n9) ∧ (d, o2) ∈ n9 := by
  constructor
  · intro p hp hne
    exact K p.1 p.2 (.tail _ (.tail _ hp)) (fun k hk => news_ne N (.tail _ (.tail _ hp)) (.tail _ (.tail _ (hN k hk).2)) (hne _)) (Nat.ne_of_lt (allLt_mem lt.2 p hp))
  · exact K d o2 (.tail _ (.head _)) (fun k hk => news_ne N (.tail _ (.head _)) (.tail _ (.tail _ (hN k hk).2)) (h2 _)) (Nat.ne_of_lt lt.1)
theorem tri_new {P : Par} {n : Nat} {st : St} {l d : Addr} {o2 : Obj} {n8 : Led} {h₀ h : Heap} {L : Addr} (_N : News h₀ L h ((l, listOf #[Value.ref d] 0) :: (d, o2) :: n8)) (hN : NodesIn P n st n8) (lt : (@LT.lt Nat _ d l) ∧ AllLt l n8) : TriIn P n l (.ref d) 0 [] ((l, listOf #[.ref d] 0) :: (d, o2) :: n8) :=
  ⟨.head _, fun c hc => (nomatch hc), fun j hj => (Nat.ne_of_gt (allLt_mem lt.2 _ (hN j hj).2)), fun c hc => (nomatch hc)⟩
section
variable {prog : Program} {w : World} {A : Around} {E : Value → Shared → Prop} {s : Shared} {h₀ : Heap} {L r : Addr} {m : Str → Option Value} {news : Led} {b : Int} {t₀ u₀ v₀ : Tok} {n : Nat} {Q : Value → Shared → Prop}
theorem at_eq {l : Addr} {value slice : PySem.Expr} {v : Value} {vs : List Value} {k : Nat} {idx : Int} {u : Tok} (Nw : News h₀ L s.heap news) (hm : (l, listOf vs.toArray k) ∈ news) (hl : vs.length ≤ 1000) (j : Nat) (hj : idx = (j : Int)) (e : vs[j]? = some v) (h : Q v s)
    (hs : subscripted slice false (.ref l) (.int idx u) = operate [.ref l, .int idx u] (getItem (.ref l) (.int idx u))) (hg : ∀ r, letTemporaryGo value (.ref l) r = pure ()) :
    wpAny (model prog w) A (subscriptTail value slice (.ref l) (.int idx u)) Q E s :=
  gen_at Nw hm hl j hj (by apply Decidable.byContradiction; intro h; rw [List.getElem?_eq_none (by omega)] at e; cases e) (fun v' e' => by rw [e] at e'; rw [← Option.some.inj e']; exact h) hs hg
theorem isi_tup {a : Addr} {vs : List Value} (Nw : News h₀ L s.heap news) (hm : (a, tupO vs) ∈ news) (h : Q (.bool true) s) : wpAny (model prog w) A (call (.builtin "isinstance") [.ref a, .type "tuple"]) Q E s :=
  IsiPair.tuple_tuple (Nw _ hm).1 rfl h
theorem len_tup3 {a : Addr} {x y z : Value} (Nw : News h₀ L s.heap news) (hm : (a, tupO [x, y, z]) ∈ news) (h : ∀ t tk, Q (.int 3 t) { s with toks := tk }) : wpAny (model prog w) A (call (.builtin "len") [.ref a]) Q E s :=
  PyProof.Rows.len_tuple (Nw.isTup hm) (by simp) (h _ _)
theorem last_eq {l : Addr} {value slice : PySem.Expr} {v : Value} {vs : List Value} {k : Nat} {u : Tok} (Nw : News h₀ L s.heap news) (hm : (l, listOf vs.toArray k) ∈ news) (e : vs[vs.length - 1]? = some v) (hl : vs.length ≤ 1000) (h : Q v s)
    (hs : subscripted slice false (.ref l) (.int (-1) u) = operate [.ref l, .int (-1) u] (getItem (.ref l) (.int (-1) u))) :
    wpAny (model prog w) A (subscriptTail value slice (.ref l) (.int (-1) u)) Q E s := by
  have hb : 0 < vs.length := by
    apply Decidable.byContradiction
    intro h
    rw [List.getElem?_eq_none (by omega)] at e; cases e
  refine kde_neg (Nw.isList hm) (by decide) (by decide) (j := vs.length - 1) ?_ (v := v) ?_ h hs
  · unfold seqIndex?
    have e : (-1 : Int) + (vs.length : Int) = ((vs.length - 1 : Nat) : Int) := by omega
    first
    | (simp [e]; omega)
    | skip
  · simpa using e
theorem rv_ints (R : Rg) : IntsAre (RV R) (R.map fun q => (q.1 : Int)) := by
  induction R with
  | nil => exact .nil
  | cons q r ih => exact .cons _ _ ih
theorem notin_ring {l : Addr} {R : Rg} {k x : Nat} {t : Tok} (Nw : News h₀ L s.heap news) (hm : (l, listOf (RV R).toArray k) ∈ news) (hx : x ∈ ix R) (h : Q (.bool false) s) : wpAny (model prog w) A (compareOp .NotIn (.int (x : Int) t) (.ref l)) Q E s := by
  refine notin_list_ints (Nw.isList hm) (rv_ints R) ?_
  have e : ((R.map fun q => (q.1 : Int)).any (· == (x : Int))) = true := by
    obtain ⟨q, hq, rfl⟩ := List.mem_map.mp hx
    exact List.any_eq_true.mpr ⟨(q.1 : Int), List.mem_map.mpr ⟨q, hq, rfl⟩, by simp⟩
  rw [e]
  exact h
theorem cons_at0 {l : Addr} {value slice : PySem.Expr} {v0 : Value} {vs : List Value} {k : Nat} {u : Tok} (Nw : News h₀ L s.heap news) (hm : (l, listOf (v0 :: vs).toArray k) ∈ news) (hl : vs.length ≤ 900) (h : Q v0 s)
    (hs : subscripted slice false (.ref l) (.int 0 u) = operate [.ref l, .int 0 u] (getItem (.ref l) (.int 0 u))) (hg : ∀ r, letTemporaryGo value (.ref l) r = pure ()) :
    wpAny (model prog w) A (subscriptTail value slice (.ref l) (.int 0 u)) Q E s :=
  gen_at Nw hm (by simp only [List.length_cons]; omega) 0 rfl (by simp) (fun v e => by simp only [List.getElem?_cons_zero, Option.some.injEq] at e; rw [← e]; exact h) hs hg
theorem ring_range (hh : A.handled = none) (F : Fr h₀ L s.heap m) (N : News h₀ L s.heap news) (hr : IsRange s.heap r 0 b 1 t₀ u₀ v₀) (hb : b = (n : Int)) (hn : n ≤ 100)
    (h : ∀ D R c h' tk, Fr h₀ L h' m → News h₀ L h' ((D, listOf (RV R).toArray c) :: news) → (∀ p ∈ news, p.1 < D) → ix R = List.range n → Q (.ref D) { s with heap := h', toks := tk }) :
    wpAny (model prog w) A (call (.type "list") [.ref r]) Q E s := by
  subst hb
  refine kll_range hh F N hr (small_one (by omega) (by omega) (by omega) (by omega)) (rangeSize_nat _ _) (by omega) fun D us c h' tk F' N' l hI => ?_
  obtain ⟨R, rfl, e⟩ := rg_of hI (List.range n) (by unfold rangeKs; apply List.map_congr_left; intro k _; omega)
  exact h D R c h' tk F' N' l e
end
theorem law_cure {w : World} {mean : ExcName → Option Value} {mg mb : Str → Option Value} {news : Led} {P : Par} {n b : Nat} {tri : Addr} {v0 : Value} {k₀ : Nat} {F : List Nat} {G : List C3} (hN : NodesIn P n (stR n) news) (hY : SmallYs P.ys n) (hT : TriIn P n tri v0 k₀ [] news) (h4 : 4 ≤ n) (h9 : n ≤ 9) (hb : b < n)
    (hrun : Run P.xs P.ys (fromB n b) b [] F G) :
    Does w mean mg mb 120 8 64 news [.ref (P.nd b), .ref tri] (fun news' v => ∃ st' q k cs, NodesIn P n st' news' ∧ Kept2 P n tri news news' ∧ q < n ∧ (FR P F st' q ∧ cs.map Prod.snd = G) ∧ TriIn P n tri v0 k cs news' ∧ v = .ref (P.nd q)) := by
  have C := cure_plain (w := w) (mean := mean) (mg := mg) (mb := mb) (l := fromB n b) (F := F) (G := G) hN hY hT ((ring_stR (by omega)).rota (rota_from n b)) (from_fit (by omega) h9) (stR_closed (by omega))
  rw [from_head hb] at C
  exact C hrun
theorem run_lt {xs ys : Nat → Int} {l : List Nat} {e : Nat} {cs : List C3} {F : List Nat} {G : List C3} {n : Nat} (h : Run xs ys l e cs F G) : Fit l n → (∀ c ∈ cs, c.1 < n ∧ c.2.1 < n ∧ c.2.2 < n) → ∀ c ∈ G, c.1 < n ∧ c.2.1 < n ∧ c.2.2 < n := by
  induction h with
  | @cut l e cs F G hw _ ih =>
    intro hf hc
    have h4 := wc_four hf.2.1 hw
    refine ih ((hf.drop h4).rota (rota_rotN _)) fun c hcm => ?_
    rcases List.mem_append.mp hcm with q | q
    · exact hc c q
    · rw [List.mem_singleton.mp q]
      exact ⟨hf.2.2.2 _ (pl_mem (by omega)), hf.2.2.2 _ (pl_mem (by omega)), hf.2.2.2 _ (pl_mem (by omega))⟩
  | stop _ _ => intro _ hc; exact hc
  | go _ _ _ ih => intro hf hc; exact ih (hf.rota (rota_rotN _)) hc
theorem cut_pair {P : Par} {PP : PPar} {n : Nat} {tri : Addr} {v0 : Value} {kt : Nat} {cs' : List Cut} {cl : Addr} {kc : Nat} {cs : List SC} {news : Led} {i : Nat} (hT : TriIn P n tri v0 kt cs' news) (hC : CutsIn cl kc cs news) (hcs : cs'.map Prod.snd = cs.map c3) (hA : Agr PP P) (hi : i < cs.length)
    (hb : ∀ c ∈ cs.map c3, c.1 < n ∧ c.2.1 < n ∧ c.2.2 < n) :
    ∃ (x y : Addr) (a p b : Nat) (ta tp tb : Tok), (cs.map fun c => Value.ref c.1)[i]? = some (.ref x) ∧ (v0 :: cs'.map fun c => Value.ref c.1)[i + 1]? = some (.ref y) ∧ (x, tupO [.int (a : Int) ta, .int (p : Int) tp, .int (b : Int) tb]) ∈ news ∧
      (y, tupO [.ref (PP.pt a), .ref (PP.pt p), .ref (PP.pt b)]) ∈ news ∧ a < n ∧ p < n ∧ b < n := by
  have hl : cs'.length = cs.length := by have := congrArg List.length hcs; simpa using this
  have hi' : i < cs'.length := by omega
  have e : cs'[i].2 = c3 cs[i] := by
    have h1 : (cs'.map Prod.snd)[i]? = (cs.map c3)[i]? := by rw [hcs]
    rw [List.getElem?_map, List.getElem?_map, List.getElem?_eq_getElem hi, List.getElem?_eq_getElem hi'] at h1
    simpa using h1
  have h2 := hT.2.1 _ (List.getElem_mem hi')
  have h3 := hC.2 _ (List.getElem_mem hi)
  have h4 := hb _ (List.mem_map.mpr ⟨_, List.getElem_mem hi, rfl⟩)
  rw [e, hA.1] at h2
  refine ⟨cs[i].1, cs'[i].1, _, _, _, _, _, _, ?_, ?_, h3, h2, h4.1, h4.2.1, h4.2.2⟩
  · rw [List.getElem?_map, List.getElem?_eq_getElem hi]; rfl
  · rw [List.getElem?_cons_succ, List.getElem?_map, List.getElem?_eq_getElem hi']; rfl
theorem pts_get {PP : PPar} {n j : Nat} {zs : List Value} (h : zs = (List.range n).map fun j => Value.ref (PP.pt j)) (hj : j < n) : zs[j]? = some (.ref (PP.pt j)) := by
  subst h
  rw [List.getElem?_map, List.getElem?_range hj]; rfl
theorem TriIn.cons {P : Par} {n : Nat} {tri : Addr} {v0 : Value} {k : Nat} {cs : List Cut} {news : Led} {q : Addr × Obj} (h : TriIn P n tri v0 k cs news) : TriIn P n tri v0 k cs (q :: news) := ⟨.tail _ h.1, fun c hc => .tail _ (h.2.1 c hc), h.2.2⟩
theorem CutsIn.cons {cl : Addr} {k : Nat} {cs : List SC} {news : Led} {q : Addr × Obj} (h : CutsIn cl k cs news) : CutsIn cl k cs (q :: news) := ⟨.tail _ h.1, fun c hc => .tail _ (h.2 c hc)⟩
theorem drops_len {C D : List Pt} (h : Drops C D) : D.length ≤ C.length := by
  induction h with
  | rota r => rw [r.length]; exact Nat.le_refl _
  | step s _ ih => exact Nat.le_trans ih (Nat.le_of_lt s.len)
theorem run_len {xs ys : Nat → Int} {l : List Nat} {e : Nat} {cs : List C3} {F : List Nat} {G : List C3} (h : Run xs ys l e cs F G) : F.length ≤ l.length := by
  induction h with
  | cut _ _ ih => rw [rotN_len, drop2_len] at ih; omega
  | stop _ _ => rw [rotN_len]; exact Nat.le_refl _
  | go _ _ _ ih => rw [rotN_len] at ih; exact ih
/-- the first j nodes of the ring -/
abbrev nv (P : Par) (T : List Nat) (j : Nat) : List Value := (List.range j).map fun i => Value.ref (P.nd (pl T i))
theorem nv_len (P : Par) (T : List Nat) (j : Nat) : (nv P T j).length = j := by simp
theorem nv_last (P : Par) (T : List Nat) (j : Nat) (h : 1 ≤ j) : (nv P T j)[(nv P T j).length - 1]? = some (.ref (P.nd (pl T (j - 1)))) := by
  rw [nv_len, List.getElem?_map, List.getElem?_range (by omega)]; rfl
theorem nv_at (P : Par) (T : List Nat) {j i : Nat} (h : i < j) : (nv P T j)[i]? = some (.ref (P.nd (pl T i))) := by
  rw [List.getElem?_map, List.getElem?_range h]; rfl
theorem nv_snoc (P : Par) (T : List Nat) (j : Nat) : nv P T j ++ [Value.ref (P.nd (pl T j))] = nv P T (j + 1) := by
  rw [nv, nv, List.range_succ, List.map_append]; rfl
theorem told_ring {P : Par} {R7 R8 : Rg} {st' : St} {q n b e : Nat} {G : List C3} (h : FR P (ix R7) st' q) (d : Drops (co P.xs P.ys (ix R7)) (co P.xs P.ys (ix R8))) (nl : Norm (co P.xs P.ys (ix R8))) (hrun : Run P.xs P.ys (fromB n b) e [] (ix R7) G) (hf : Fit (ix R7) n) :
    ∃ T, RingOf st' T ∧ pl T 0 = q ∧ (∀ j, j < T.length → pl T j ∈ ix R7) ∧ T.length = (if 2 < R8.length then R8.length else 1) ∧ (R8.length < 3 ∨ ∃ k, k < T.length ∧ (co P.xs P.ys T).drop k ++ (co P.xs P.ys T).take k = co P.xs P.ys (ix R8)) ∧ 0 < T.length ∧ T.length ≤ n ∧ (∀ j, j < T.length → pl T j < n) := by
  obtain ⟨T, hT, hT0, hTs, hTl, hTf⟩ := same_end h d nl
  rw [ix_len] at hTl hTf
  refine ⟨T, hT, hT0, fun j hj => hTs _ (pl_mem hj), hTl, hTf, hT.pos, ?_, fun j hj => hf.2.2.2 _ (hTs _ (pl_mem hj))⟩
  have h1 := drops_len d
  have h2 := run_len hrun
  simp only [List.length_map] at h1
  have hl7 := ix_len R7
  have h3 := (rota_from n b).length
  rw [List.length_range] at h3
  have h4 := hf.2.1
  split at hTl <;> omega
theorem ring_more {T : List Nat} {j : Nat} (h : pl T (j % T.length) ≠ pl T 0) (h2 : j ≤ T.length) : j < T.length := by
  rcases Nat.lt_or_ge j T.length with q | q
  · exact q
  · have e : j = T.length := by omega
    rw [e, Nat.mod_self] at h
    exact absurd rfl h
theorem ring_done {st : St} {T : List Nat} {j : Nat} (hT : RingOf st T) (h : pl T (j % T.length) = pl T 0) (h1 : 1 ≤ j) (h2 : j ≤ T.length) : j = T.length := by
  have hp := hT.pos
  have := pl_inj hT.1 (Nat.mod_lt _ hp) hp h
  rcases Nat.lt_or_ge j T.length with q | q
  · rw [Nat.mod_eq_of_lt q] at this; omega
  · omega
end Mine
end

section
open PySem PySem.W PySem.Calls PyProof.Rows PySem.SeqAt
set_option linter.all false
namespace Mine
theorem rows_snoc {zs : List Value} {aa : Nat → Addr} {i : Nat} {xs ys : Nat → Int} {tx ty : Nat → Tok} {led : Led} {t : Addr} (hz : zs = RowVs aa i) (hR : RowsIn xs ys tx ty aa i led) :
    ∃ aa', zs ++ [Value.ref t] = RowVs aa' (i + 1) ∧ RowsIn xs ys tx ty aa' (i + 1) ((t, tupO [.int (xs i) (tx i), .int (ys i) (ty i)]) :: led) := by
  refine ⟨fun j => if j = i then t else aa j, ?_, ?_⟩
  · rw [RowVs, List.range_succ, List.map_append, hz]
    congr 1
    · apply List.map_congr_left
      intro j hj
      have := List.mem_range.mp hj
      simp only [if_neg (show j ≠ i by omega)]
    · simp
  · intro k hk
    by_cases e : k = i
    · subst e; simp
    · simp only [if_neg e]; exact .tail _ (hR k (by omega))
theorem rv_at {R : Rg} {i : Nat} {v : Value} (h : (RV R).toArray[i]? = some v) : i < R.length ∧ ∃ t, v = .int ((pl (ix R) i : Nat) : Int) t := by
  have h1 : (RV R)[i]? = some v := by simpa using h
  rw [List.getElem?_map] at h1
  obtain ⟨q, hq, rfl⟩ := Option.map_eq_some_iff.mp h1
  have hl : i < R.length := by
    apply Decidable.byContradiction; intro h; rw [List.getElem?_eq_none (by omega)] at hq; cases hq
  refine ⟨hl, q.2, ?_⟩
  have : pl (ix R) i = q.1 := by rw [← at_ix]; unfold Rg.at; rw [List.getD_eq_getElem?_getD, hq]; rfl
  rw [this]
theorem nv_arr {P : Par} {T : List Nat} {j i : Nat} {v : Value} (h : (nv P T j).toArray[i]? = some v) (hi : i < j) : v = .ref (P.nd (pl T i)) := by
  have h1 : (nv P T j)[i]? = some v := by simpa using h
  rw [nv_at P T hi] at h1
  exact (Option.some.inj h1).symm
theorem rowvs_snoc {aa : Nat → Addr} {i : Nat} {zs : List Value} (h : zs = RowVs aa i) : zs ++ [Value.ref (aa i)] = RowVs aa (i + 1) := by
  rw [h, RowVs, RowVs, List.range_succ, List.map_append]; rfl
section
variable {prog : Program} {w : World} {A : Around} {E : Value → Shared → Prop} {s : Shared} {h₀ : Heap} {L l l2 : Addr} {m : Str → Option Value} {news : Led} {value slice : PySem.Expr} {vs vs2 : List Value} {k k2 : Nat} {Q : Value → Shared → Prop}
theorem gen_from {lo : Int} {tl : Tok} (F : Fr h₀ L s.heap m) (N : News h₀ L s.heap news) (hm : (l, listOf vs.toArray k) ∈ news) (hl : vs.length ≤ 1000) (j : Nat) (hj : lo = (j : Int))
    (h : ∀ D h', Fr h₀ L h' m → News h₀ L h' ((D, listOf (vs.drop j).toArray 0) :: news) → (∀ p ∈ news, p.1 < D) → Q (.ref D) { s with heap := h' })
    (hs : subscripted slice false (.ref l) (.ref s.heap.objs.size) = operate [.ref s.heap.objs.size, .ref l] (getItem (.ref l) (.ref s.heap.objs.size))) (ht : ∀ r, letTemporaryGo value (.ref l) r = pure ()) :
    wpAny (model prog w) A (subscriptTail value slice (.ref l) (.ref s.heap.objs.size)) Q E { s with heap := s.heap.push { cls := .type "slice", data := .fields #[.int lo tl, .none, .none] } } := by
  subst hj
  exact kmk_slice_lit F N (N.isList hm) (.int _ _) .none (by rw [pick_from]) h hs ht (by simp only [List.size_toArray, sizeLine_eq]; omega)
theorem gen_to {hi : Int} {tl : Tok} (F : Fr h₀ L s.heap m) (N : News h₀ L s.heap news) (hm : (l, listOf vs.toArray k) ∈ news) (hl : vs.length ≤ 1000) (j : Nat) (hj : hi = (j : Int))
    (h : ∀ D h', Fr h₀ L h' m → News h₀ L h' ((D, listOf (vs.take j).toArray 0) :: news) → (∀ p ∈ news, p.1 < D) → Q (.ref D) { s with heap := h' })
    (hs : subscripted slice false (.ref l) (.ref s.heap.objs.size) = operate [.ref s.heap.objs.size, .ref l] (getItem (.ref l) (.ref s.heap.objs.size))) (ht : ∀ r, letTemporaryGo value (.ref l) r = pure ()) :
    wpAny (model prog w) A (subscriptTail value slice (.ref l) (.ref s.heap.objs.size)) Q E { s with heap := s.heap.push { cls := .type "slice", data := .fields #[.none, .int hi tl, .none] } } := by
  subst hj
  exact kmk_slice_lit F N (N.isList hm) .none (.int _ _) (by rw [pick_upto]) h hs ht (by simp only [List.size_toArray, sizeLine_eq]; omega)
theorem gen_add (F : Fr h₀ L s.heap m) (N : News h₀ L s.heap news) (hm : (l, listOf vs.toArray k) ∈ news) (hm2 : (l2, listOf vs2.toArray k2) ∈ news) (hl : vs.length ≤ 1000) (hl2 : vs2.length ≤ 1000)
    (h : ∀ D h', Fr h₀ L h' m → News h₀ L h' ((D, listOf (vs ++ vs2).toArray 0) :: news) → (∀ p ∈ news, p.1 < D) → Q (.ref D) { s with heap := h' }) :
    wpAny (model prog w) A (binaryOp .Add (.ref l) (.ref l2)) Q E s :=
  add_lists F N (N.isList hm) (N.isList hm2) (fun h' F' N' => h _ h' F' N' fun p hp => Heap.lt_size (N p hp).1) (by simp only [sizeLine_eq]; omega)
end
/-- the tuples of a list, as data -/
abbrev ptD (p : Pt) : PyData := .tuple [.int p.1, .int p.2]
theorem pts_lay : ∀ (C : List Pt), PyData.canLayAll0 (C.map ptD) = true
  | [] => rfl
  | p :: C => by
    have := pts_lay C
    simp only [List.map_cons, PyData.canLayAll0, this, Bool.and_true]
    rfl
theorem pts_depth : ∀ (C : List Pt), PyData.depthAll (C.map ptD) ≤ 1
  | [] => Nat.zero_le _
  | p :: C => by
    have := pts_depth C
    simp only [List.map_cons, PyData.depthAll, PyData.depth]
    omega
theorem pts_shaped (C : List Pt) : shaped (.list (C.map ptD)) = true := by
  unfold shaped
  rw [Bool.and_eq_true, decide_eq_true_eq]
  refine ⟨by rw [PyData.canLay0]; exact pts_lay C, ?_⟩
  rw [PyData.depth]
  have := pts_depth C
  omega
inductive PtsIn (news : Led) : List Value → List Pt → Prop
  | nil : PtsIn news [] []
  | cons {a : Addr} {x y : Int} {t u : Tok} {vs : List Value} {C : List Pt} : (a, tupO [.int x t, .int y u]) ∈ news → PtsIn news vs C → PtsIn news (.ref a :: vs) ((x, y) :: C)
theorem PtsIn.append {news : Led} {vs vs2 : List Value} {C D : List Pt} (h : PtsIn news vs C) (k : PtsIn news vs2 D) : PtsIn news (vs ++ vs2) (C ++ D) := by
  induction h with
  | nil => exact k
  | cons m _ ih => exact .cons m ih
theorem PtsIn.sub {a b : Led} {vs : List Value} {C : List Pt} (h : PtsIn a vs C) (S : ∀ p ∈ a, p ∈ b) : PtsIn b vs C := by
  induction h with
  | nil => exact .nil
  | cons m _ ih => exact .cons (S _ m) ih
theorem PtsIn.drop {news : Led} {vs : List Value} {C : List Pt} (h : PtsIn news vs C) (j : Nat) : PtsIn news (vs.drop j) (C.drop j) := by
  induction h generalizing j with
  | nil => simp only [List.drop_nil]; exact .nil
  | cons m h ih => cases j with
    | zero => exact .cons m h
    | succ j => exact ih j
theorem PtsIn.take {news : Led} {vs : List Value} {C : List Pt} (h : PtsIn news vs C) (j : Nat) : PtsIn news (vs.take j) (C.take j) := by
  induction h generalizing j with
  | nil => simp only [List.take_nil]; exact .nil
  | cons m h ih => cases j with
    | zero => exact .nil
    | succ j => exact .cons m (ih j)
theorem PtsIn.rows {aa : Nat → Addr} {xs ys : Nat → Int} {tx ty : Nat → Tok} {news : Led} : ∀ {n : Nat}, RowsIn xs ys tx ty aa n news → PtsIn news (RowVs aa n) ((List.range n).map fun j => (xs j, ys j))
  | 0, _ => .nil
  | n + 1, h => by
    rw [RowVs, List.range_succ, List.map_append, List.map_append]
    exact (PtsIn.rows (n := n) fun k hk => h k (by omega)).append (.cons (h n (by omega)) .nil)
theorem PtsIn.reads {news : Led} {h₀ h : Heap} {L : Addr} {vs : List Value} {C : List Pt} (p : PtsIn news vs C) (N : News h₀ L h news) : ReadsAll h vs (C.map ptD) [] := by
  induction p with
  | nil => exact .nil
  | cons m _ ih => exact .cons (as := []) (reads_tuple_at (News.get N m) rfl rfl (ReadsAll.cons (Reads.int _ _) (ReadsAll.cons (Reads.int _ _) ReadsAll.nil))) ih
theorem co_range (xs ys : Nat → Int) (T : List Nat) : ((List.range T.length).map fun j => (xs (pl T j), ys (pl T j))) = co xs ys T := by
  apply List.ext_getElem
  · simp
  · intro i h1 h2
    have hi : i < T.length := by simpa using h1
    simp only [List.getElem_map, List.getElem_range, cpt, pl_get hi]
theorem nv_reads {h : Heap} : ∀ (N : Ns), ReadsAll h (NV N) (N.map fun q => PyData.int q.1) []
  | [] => .nil
  | q :: N => .cons (as := []) (Reads.int _ _) (nv_reads N)
theorem nv_shaped : ∀ (N : Ns), PyData.canLayAll0 (N.map fun q => PyData.int q.1) = true ∧ PyData.depthAll (N.map fun q => PyData.int q.1) = 0
  | [] => ⟨rfl, rfl⟩
  | q :: N => by
    have := nv_shaped N
    simp only [List.map_cons, PyData.canLayAll0, PyData.canLay0, PyData.depthAll, PyData.depth, this]
    decide
section
variable {prog : Program} {w : World} {A : Around} {E : Value → Shared → Prop} {s : Shared} {h₀ : Heap} {L l l2 : Addr} {m : Str → Option Value} {news : Led} {vs vs2 : List Value} {k k2 : Nat} {Q : Value → Shared → Prop}
theorem eq_rows {C D : List Pt} (N : News h₀ L s.heap news) (hm : (l, listOf vs.toArray k) ∈ news) (hm2 : (l2, listOf vs2.toArray k2) ∈ news) (hC : PtsIn news vs C) (hD : PtsIn news vs2 D) (hu : A.units + 64 < cLine)
    (h : ∀ b : Bool, (C = D → b = true) → Q (.bool b) s) : wpAny (model prog w) A (compareOp .Eq (.ref l) (.ref l2)) Q E s := by
  refine eq_dataH (reads_list_at (News.get N hm) rfl rfl (hC.reads N)) (reads_list_at (News.get N hm2) rfl rfl (hD.reads N)) (pts_shaped C) (pts_shaped D) hu (h _ fun e => ?_)
  rw [e]
  exact eqv_refl _ (canLay_of_shaped (pts_shaped D))
theorem ne_nil {N1 : Ns} (N : News h₀ L s.heap news) (hm : (l, listOf (NV N1).toArray k) ∈ news) (hm2 : (l2, listOf #[] k2) ∈ news) (hne : N1 ≠ []) (hu : A.units + 64 < cLine)
    (h : Q (.bool true) s) : wpAny (model prog w) A (compareOp .NotEq (.ref l) (.ref l2)) Q E s := by
  have sh : shaped (.list (N1.map fun q => PyData.int q.1)) = true := by
    unfold shaped
    rw [Bool.and_eq_true, decide_eq_true_eq, PyData.canLay0, PyData.depth]
    have := nv_shaped N1
    exact ⟨this.1, by omega⟩
  refine ne_dataH (reads_list_at (News.get N hm) rfl rfl (nv_reads N1)) (reads_list_at (xs := []) (News.get N hm2) rfl rfl ReadsAll.nil) sh rfl hu ?_
  cases N1 with
  | nil => exact absurd rfl hne
  | cons q r =>
    have e : PyData.eqv (.list ((q :: r).map fun q => PyData.int q.1)) (.list []) = false := by
      rw [PyData.eqv, List.map_cons, PyData.eqvAll]
    rw [e]; exact h
end
open PyProof.Rows.LCg PyProof.Rows.LCt in
theorem comp_restT {prog : Program} {w : World} {A : Around} {h₀ : Heap} {L : Addr} {m : Str → Option Value} {env : Env} {ct elt : Expr} {x : Str} {scope : Scope} {cl : List (Str × Addr)} {s : Shared} {S : Led → Prop} {P : Nat → Value → Prop}
    {Fin : List Value → Led → Prop} (J : Nat → List Value → Led → Prop) (n : Nat)
    (step : ∀ i ys news, i < n → J i ys news → ∀ v I oI C oC D m₂ h tk (E' : Value → Shared → Prop), P i v → NsObj oC m₂ → m₂ x = some v → Fr h₀ L h m → News h₀ L h ((I, oI) :: (C, oC) :: (D, lst ys) :: news) → Off3 I C D news → ((@Ne Nat I C) ∧ (@Ne Nat I D) ∧ (@Ne Nat C D)) →
      wpAny (model prog w) A (isTrue ct (compEnvC scope cl C env) (eval ct (compEnvC scope cl C env))) (fun ok s' => if ok = true then
        wpAny (model prog w) A (eval elt (compEnvC scope cl C env)) (CompEnd h₀ L m { s with heap := h, toks := tk } I oI C oC D (lst ys) S (fun y news' => J (i + 1) (ys ++ [y]) news')) E' s'
        else CompEnd h₀ L m { s with heap := h, toks := tk } I oI C oC D (lst ys) S (fun _ news' => J (i + 1) ys news') Value.none s') E' { s with heap := h, toks := tk })
    (fin : ∀ ys news, J n ys news → Fin ys news) : ∀ (k i : Nat) (ys : List Value) (news : Led), i + k = n → J i ys news → CompRestT prog w A h₀ L m env ct elt x scope cl s S P Fin k i ys news := by
  intro k
  induction k with
  | zero =>
    intro i ys news hi hJ
    obtain rfl : i = n := by omega
    exact CompRestT.zero (fin _ _ hJ)
  | succ k ih =>
    intro i ys news hi hJ
    refine CompRestT.succ ?_
    intro v I oI C oC D m₂ h tk E' hP hC hx F N off hne
    refine wpAny_mono (step i ys news (by omega) hJ v I oI C oC D m₂ h tk E' hP hC hx F N off hne) (fun b s₂ hq => ?_) fun _ _ e => e
    cases b with
    | true =>
      simp only [if_true] at hq ⊢
      refine wpAny_mono hq (fun y s₃ hr => ?_) fun _ _ e => e
      obtain ⟨h', tk', news', e, F', N', off', hS, hJ'⟩ := hr
      exact ⟨h', tk', news', e, F', N', off', hS, ih (i + 1) _ _ (by omega) hJ'⟩
    | false =>
      simp only [Bool.false_eq_true, if_false] at hq ⊢
      obtain ⟨h', tk', news', e, F', N', off', hS, hJ'⟩ := hq
      exact ⟨h', tk', news', e, F', N', off', hS, ih (i + 1) _ _ (by omega) hJ'⟩
end Mine
namespace Mine
open PySem PySem.W PySem.Calls PyProof.Rows
theorem row_get {vs : List Value} {ra : Nat → Addr} {n j : Nat} (h : vs = RowVs ra n) (hj : j < n) : vs[j]? = some (.ref (ra j)) := by
  rw [h, List.getElem?_map, List.getElem?_range hj]; rfl
theorem rlt_pl {R : Rg} {n i : Nat} (h : RLt R n) (hi : i < R.length) : pl (ix R) i < n := by rw [← at_ix]; exact h.get hi
end Mine
namespace Mine
open PySem PySem.W PySem.Calls PyProof.Rows
theorem due_pts {aa : Nat → Addr} {xs ys : Nat → Int} {tx ty : Nat → Tok} {news : Led} {R : Rg} (h : RowsIn (fun j => xs (pl (ix R) j)) (fun j => ys (pl (ix R) j)) tx ty aa R.length news) : PtsIn news (RowVs aa R.length) (co xs ys (ix R)) := by
  have := PtsIn.rows h
  rw [← co_range xs ys (ix R), ix_len]
  exact this
theorem seen_pts {aa : Nat → Addr} {xs ys : Nat → Int} {tx ty : Nat → Tok} {news : Led} {T : List Nat} (h : RowsIn (fun j => xs (pl T j)) (fun j => ys (pl T j)) tx ty aa T.length news) : PtsIn news (RowVs aa T.length) (co xs ys T) := by
  have := PtsIn.rows h
  rw [← co_range xs ys T]
  exact this
theorem nv_push (N1 : Ns) (i : Int) (t : Tok) : NV N1 ++ [Value.int i t] = NV (N1 ++ [(i, t)]) := by simp
end Mine
end

section
open PySem PySem.W PySem.Calls PyProof.Rows
namespace Mine
theorem calmG5 {w : World} {A : Around} {e : Env} {Q : Flow → Shared → Prop} {E : Value → Shared → Prop} {s : Shared}
    (h : wpAny (model PySem.Challenge.rw_et5009_01.row.prog w) A (execs [] e) Q E s) : wpAny (model PySem.Challenge.rw_et5009_01.row.prog w) A (execs [] e) Q E s := by
  w_top off
  first
    | (walk1; fail "calm")
    | exact h
end Mine
end

section
open PySem PySem.W PySem.Calls PyProof.Rows
set_option Elab.async false
set_option maxRecDepth 100000
set_option maxHeartbeats 8000000
set_option linter.all false
namespace Mine

local macro_rules | `(tactic| walk_at "MYMEM") => `(tactic| first | with_reducible assumption | (with_reducible refine List.mem_cons_of_mem _ ?_; walk_at "MYMEM") | with_reducible exact List.mem_cons_self | (refine' sub_mem ?S ?_; (case S => with_reducible assumption); walk_at "MYMEM") | (refine' sub_cell ?S ?h ?n; (case S => with_reducible assumption); (case h => walk_at "MYMEM"); (case n => (intro v z; cases z))) | (refine' sub_ne ?S ?h ?n; (case S => with_reducible assumption); (case h => walk_at "MYMEM"); (case n => omega)) | (refine' sub_lst ?S ?h ?n; (case S => with_reducible assumption); (case h => walk_at "MYMEM"); (case n => first | (intro _ _ z; simp at z; done) | (refine' not_list ?d; (case d => with_reducible assumption)))))
local macro_rules | `(tactic| k_mem) => `(tactic| walk_at "MYMEM")
local macro_rules | `(tactic| walk_at "eval Call") => `(tactic| (k_here; (with_reducible show wpAny _ _ (eval (Expr.Call (Expr.Name _ _) _ [] _) _) _ _ _); k_dflt (refine Call_ ?_)))
local macro_rules | `(tactic| walk_at "storeName") => `(tactic| (k_here; k_dflt (refine' store_cell ?F ?N ?c ?m ?d ?_ ?a ?b; (case a => rfl); (case b => rfl); (case F => k_asm); (case N => k_asm); (case c => rfl); (case m => walk_at "MYMEM"); (case d => with_reducible assumption); k_whole; intro h' o' n' F' N' d' M' S' S2'; (try k_sweep))))
local macro_rules | `(tactic| walk_at "MYSUB") => `(tactic| first
  | (refine' item_tupleT ?t ?a ?b ?c ?d ?_; (case t => (refine' News.isTup ?N ?m; (case N => k_asm); (case m => walk_at "MYMEM"))); (case a => decide); (case b => decide); (case c => rfl); (case d => rfl); k_whole)
  | ((with_reducible show wpAny _ _ (subscriptTail _ _ (Value.ref _) (Value.int 0 _)) _ _ _); refine' num_at ?N ?m ?l ?b ?_ ?s ?g; (case N => k_asm); (case m => walk_at "MYMEM"); (case l => omega); (case b => omega); (case s => with_unfolding_all rfl); (case g => (intro _; with_unfolding_all rfl)); k_whole; intro f' t')
  | (refine' gen_at ?N ?m ?l _ ?j ?b ?_ ?s ?g; (case N => k_asm); (case m => walk_at "MYMEM"); (case l => omega); (case j => exact rfl); (case b => omega); (case s => with_unfolding_all rfl); (case g => (intro _; with_unfolding_all rfl)); k_whole; intro v' e'))
local macro_rules | `(tactic| walk_at "subscriptTail") => `(tactic| (k_here; (with_reducible show wpAny _ _ (subscriptTail _ _ (Value.ref _) (Value.int _ _)) _ _ _); k_dflt (walk_at "MYSUB")))
local macro_rules | `(tactic| walk_at "subscriptTail Name") => `(tactic| (k_here; (with_reducible show wpAny _ _ (subscriptTail _ _ (Value.ref _) (Value.int _ _)) _ _ _); k_dflt (walk_at "MYSUB")))
local macro_rules | `(tactic| walk_at "subscriptTail Name Constant ref int") => `(tactic| (k_here; (with_reducible show wpAny _ _ (subscriptTail _ _ (Value.ref _) (Value.int _ _)) _ _ _); k_dflt (walk_at "MYSUB")))
local macro_rules | `(tactic| walk_at "subscriptTail Name Slice ref ref") => `(tactic| (k_here; k_dflt (refine' gen_upto ?F ?N ?m ?l ?o ?_ ?s ?t; (case F => k_asm); (case N => k_asm); (case m => walk_at "MYMEM"); (case l => omega); (case o => first | omega | exact le5 _ | exact le51 _ | exact le54 _); (case s => with_unfolding_all rfl); (case t => (intro _; with_unfolding_all rfl)); k_whole); intro D' h' F' N' l1; (try k_lt l1); (try k_sweep)))
local macro_rules | `(tactic| walk_at "subscriptTail Name Slice ref ref") => `(tactic| (k_here; k_dflt (refine' num_slice ?F ?N ?m ?l ?o ?_ ?s ?t; (case F => k_asm); (case N => k_asm); (case m => walk_at "MYMEM"); (case l => omega); (case o => first | omega | exact le5 _ | exact le51 _ | exact le54 _); (case s => with_unfolding_all rfl); (case t => (intro _; with_unfolding_all rfl)); k_whole); intro D' h' F' N' l1; (try k_lt l1); (try k_sweep)))
local macro_rules | `(tactic| walk_at "call builtin:len") => `(tactic| (k_here; k_dflt (refine' gen_len ?N ?m ?l ?_; (case N => k_asm); (case m => walk_at "MYMEM"); (case l => omega); k_whole); intro t' tk'))
local macro_rules | `(tactic| walk_at "eval ListComp") => `(tactic| (k_here; k_dflt (refine PyProof.Rows.LCg.ListComp_U (F₀ := by k_asm) (by rfl) (by decide) (by rfl) (by decide) (by rfl) ?_)))
local macro_rules | `(tactic| walk_at "exec Assign cons ListComp") => `(tactic| (k_here; k_dflt (refine PyProof.Rows.LCg.Assign_ListComp_U (F₀ := by k_asm) (by rfl) (by with_unfolding_all rfl) (by rfl) (by decide) (by rfl) (by decide) (by rfl) (by rfl) (by rfl) ?_)))
local macro_rules | `(tactic| walk_at "eval ListComp") => `(tactic| (k_here; (with_reducible show wpAny _ _ (eval (Expr.ListComp _ [⟨Expr.Name _ _, Expr.Call _ _ _ _, [], _⟩] _ _) _) _ _ _); k_dflt (refine comp_range (F₀ := by k_asm) (by rfl) (by decide) (by rfl) (by decide) (by rfl) ?_)))
local macro_rules | `(tactic| walk_at "MYSTEPS4") => `(tactic| repeat' (first | ((fail_if_success (with_reducible show wpAny _ _ (exec (Stmt.While _ _ _ _) _) _ _ _)); (fail_if_success (with_reducible show wpAny _ _ (exec (Stmt.For _ _ _ _ _) _) _ _ _)); (fail_if_success (with_reducible show wpAny _ _ (pyIter _) (fun it s₂ => LoopAtV _ _ _ _ _ _ _ _ _ it s₂) _ _)); (fail_if_success (with_reducible show KswEnd _ _ _ _ _ _ _ _ _ _ _ _)); (fail_if_success (with_reducible show RngEnd _ _ _ _ _ _ _ _ _ _ _ _ _)); (fail_if_success (with_reducible show PyProof.Rows.LCg.CompEnd _ _ _ _ _ _ _ _ _ _ _ _ _ _)); (fail_if_success (with_reducible show SrcRg _ _ _ _ _ _ _ _ _ _ _ _ _ _)); (fail_if_success (with_reducible show PyProof.Rows.LCg.CompSrc _ _ _ _ _ _ _ _ _ _ _ _ _ _)); (first | (k_unfold; (try dsimp only)) | (k_end; wrow_close) | walk1 | (dsimp only; walk1) | (leave1; walk_say "STEP leave1"; try dsimp only))) | fail "no step"))
local macro_rules | `(tactic| walk_at "RngPost") => `(tactic| (dsimp only [RngPost]))
local macro_rules | `(tactic| walk_at "MYSTEPS5") => `(tactic| repeat' (first | ((fail_if_success (with_reducible show wpAny _ _ (exec (Stmt.While _ _ _ _) _) _ _ _)); (fail_if_success (with_reducible show wpAny _ _ (exec (Stmt.For _ _ _ _ _) _) _ _ _)); (fail_if_success (with_reducible show wpAny _ _ (pyIter _) (fun it s₂ => LoopAtV _ _ _ _ _ _ _ _ _ it s₂) _ _)); (fail_if_success (with_reducible show KswEnd _ _ _ _ _ _ _ _ _ _ _ _)); (fail_if_success (with_reducible show RngEnd _ _ _ _ _ _ _ _ _ _ _ _ _)); (fail_if_success (with_reducible show PyProof.Rows.LCg.CompEnd _ _ _ _ _ _ _ _ _ _ _ _ _ _)); (fail_if_success (with_reducible show SrcRg _ _ _ _ _ _ _ _ _ _ _ _ _ _)); (fail_if_success (with_reducible show PyProof.Rows.LCg.CompSrc _ _ _ _ _ _ _ _ _ _ _ _ _ _)); (fail_if_success (with_reducible show wpAny _ _ (exec (Stmt.If _ _ _ _) _) _ _ _)); (first | (k_unfold; (try dsimp only)) | (k_end; wrow_close) | walk1 | (dsimp only; walk1) | (leave1; walk_say "STEP leave1"; try dsimp only))) | fail "no step"))
local macro_rules | `(tactic| walk_at "MYUSE") => `(tactic| ((case B => k_asm); (case F => k_asm); (case X => k_asm); (try (case N => k_asm)); (case T => k_asm); (case kk => first | exact rfl | assumption); (case d => ktr_room); (case u => ktr_units)))
local macro_rules | `(tactic| walk_at "MYENTER") => `(tactic| (refine' code_def ?k1 ?k2 ?k3 ?k4 ?k5 ?kA ?kF ?kK ?k6 ?k7 ?k8 ?k9 ?kB ?_ ?c2 ?c3 ?c4 ?c5; (case kA => exact rfl); (case kF => exact rfl); (case kK => first | exact rfl | assumption); (case k1 => k_asm); (case k2 => k_asm); (case k3 => k_asm); (case k4 => k_asm); (case k5 => k_asm); (case k6 => k_is); (case k7 => k_is); (case k8 => ktr_room); (case k9 => first | exact BindsTo.of_eq rfl | exact binds_K (by k_in) rfl (by k_is) rfl rfl rfl); (case c5 => decide); (case kB => exact locs rfl); (case c2 => exact rfl); (case c3 => exact rfl); (case c4 => exact rfl); k_whole; intro g' L' h' FG' F' N' B' X' T'; (try dsimp only); (try k_fold)))
local macro_rules | `(tactic| walk_at "call ref") => `(tactic| (k_here; k_dflt (refine' call_cls ?k1 ?k2 ?k3 ?k4 ?k5 ?k6 ?_; (case k1 => k_asm); (case k2 => k_asm); (case k3 => k_asm); (case k4 => k_is); (case k5 => k_is); (case k6 => k_is); k_whole; intro x' d' h' F' N' l1 l2; (try k_lt l1); (try k_lt2 l2); (try k_sweep); walk_at "MYENTER")))
local macro_rules | `(tactic| walk_at "call ref") => `(tactic| (k_here; k_dflt (first
  | ((refine' does_use (draw_c ?q0 ?q1 ?q2) ?B ?F ?X ?N ?T ?kk ?d ?u ?_; (case N => k_asm); (case q0 => walk_at "MYMEM"); (case q1 => omega); (case q2 => omega); (walk_at "MYUSE")); (intro r9 n9 h9 tk9 F9 N9 p9; obtain ⟨rl9, vs9, k9, e9, m9, q9, q9', g9, S9⟩ := p9; subst e9; (try dsimp only); (try k_sweep))))))

local macro_rules | `(tactic| walk_at "MYSTEPS0") => `(tactic| repeat' (first | ((fail_if_success (with_reducible show wpAny _ _ (exec (Stmt.While _ _ _ _) _) _ _ _)); (fail_if_success (with_reducible show wpAny _ _ (exec (Stmt.For _ _ _ _ _) _) _ _ _)); (fail_if_success (with_reducible show wpAny _ _ (pyIter _) (fun it s₂ => LoopAtV _ _ _ _ _ _ _ _ _ it s₂) _ _)); (fail_if_success (with_reducible show KswEnd _ _ _ _ _ _ _ _ _ _ _ _)); (fail_if_success (with_reducible show RngEnd _ _ _ _ _ _ _ _ _ _ _ _ _)); (fail_if_success (with_reducible show PyProof.Rows.LCg.CompEnd _ _ _ _ _ _ _ _ _ _ _ _ _ _)); (fail_if_success (with_reducible show SrcRg _ _ _ _ _ _ _ _ _ _ _ _ _ _)); (fail_if_success (with_reducible show PyProof.Rows.LCg.CompSrc _ _ _ _ _ _ _ _ _ _ _ _ _ _)); (fail_if_success (with_reducible show wpAny _ _ (binaryOp Operator.Add (Value.ref _) (Value.ref _)) _ _ _)); (first | (k_unfold; (try dsimp only)) | (k_end; wrow_close) | walk1 | (dsimp only; walk1) | (leave1; walk_say "STEP leave1"; try dsimp only))) | fail "no step"))
local macro_rules | `(tactic| walk_at "binaryOp Mod int int") => `(tactic| (k_here; (with_reducible show wpAny _ _ (binaryOp _ (Value.int _ _) (Value.int (Nat.cast _) _)) _ _ _); k_dflt (refine' mod_any _ ?j ?_; (case j => omega); k_whole); intro i' t' tk' hi'))
local macro_rules | `(tactic| walk_at "MYSTEPS6") => `(tactic| repeat' (first | ((fail_if_success (with_reducible show wpAny _ _ (exec (Stmt.While _ _ _ _) _) _ _ _)); (fail_if_success (with_reducible show wpAny _ _ (exec (Stmt.For _ _ _ _ _) _) _ _ _)); (fail_if_success (with_reducible show wpAny _ _ (pyIter _) (fun it s₂ => LoopAtV _ _ _ _ _ _ _ _ _ it s₂) _ _)); (fail_if_success (with_reducible show KswEnd _ _ _ _ _ _ _ _ _ _ _ _)); (fail_if_success (with_reducible show RngEnd _ _ _ _ _ _ _ _ _ _ _ _ _)); (fail_if_success (with_reducible show PyProof.Rows.LCg.CompEnd _ _ _ _ _ _ _ _ _ _ _ _ _ _)); (fail_if_success (with_reducible show SrcRg _ _ _ _ _ _ _ _ _ _ _ _ _ _)); (fail_if_success (with_reducible show PyProof.Rows.LCg.CompSrc _ _ _ _ _ _ _ _ _ _ _ _ _ _)); (fail_if_success (with_reducible show wpAny _ _ (call (Value.ref 98) _) _ _ _)); (fail_if_success (with_reducible show wpAny _ _ (call (Value.ref 170) _) _ _ _)); (fail_if_success (with_reducible show wpAny _ _ (call (Value.ref 177) _) _ _ _)); (fail_if_success (with_reducible show wpAny _ _ (call (Value.ref 120) _) _ _ _)); (first | (k_unfold; (try dsimp only)) | (k_end; wrow_close) | walk1 | (dsimp only; walk1) | (leave1; walk_say "STEP leave1"; try dsimp only))) | fail "no step"))
local macro_rules | `(tactic| walk_at "MYPS") => `(tactic| (intro q hq; simp only [List.mem_cons, List.not_mem_nil, or_false] at hq; (first | (subst hq; rfl) | (rcases hq with e | e <;> (subst e; rfl)) | (rcases hq with e | e | e <;> (subst e; rfl)) | (rcases hq with e | e | e | e <;> (subst e; rfl)) | (rcases hq with e | e | e | e | e <;> (subst e; rfl)))))
local macro_rules | `(tactic| walk_at "MYSAME") => `(tactic| (intro z h2 h3; simp only [List.forall_mem_cons, List.not_mem_nil, false_implies, implies_true, and_true, ne_eq] at h2; simp only [List.contains_cons, List.contains_nil, Bool.or_false, Bool.or_eq_false_iff, beq_eq_false_iff_ne, ne_eq] at h3; simp [h2, h3, kstB]; done))
local macro_rules | `(tactic| walk_at "MYSAME2") => `(tactic| (intro z h1 h2 h3; simp only [List.forall_mem_cons, List.not_mem_nil, false_implies, implies_true, and_true, ne_eq] at h2; (try simp only [List.contains_cons, List.contains_nil, Bool.or_false, Bool.or_eq_false_iff, beq_eq_false_iff_ne, ne_eq] at h3); simp [h1, h2, h3, kstB]; done))
local macro_rules | `(tactic| walk_at "MYSTEPS7") => `(tactic| repeat' (first | ((fail_if_success (with_reducible show wpAny _ _ (exec (Stmt.While _ _ _ _) _) _ _ _)); (fail_if_success (with_reducible show wpAny _ _ (exec (Stmt.For _ _ _ _ _) _) _ _ _)); (fail_if_success (with_reducible show wpAny _ _ (pyIter _) (fun it s₂ => LoopAtV _ _ _ _ _ _ _ _ _ it s₂) _ _)); (fail_if_success (with_reducible show KswEnd _ _ _ _ _ _ _ _ _ _ _ _)); (fail_if_success (with_reducible show RngEnd _ _ _ _ _ _ _ _ _ _ _ _ _)); (fail_if_success (with_reducible show PyProof.Rows.LCg.CompEnd _ _ _ _ _ _ _ _ _ _ _ _ _ _)); (fail_if_success (with_reducible show SrcRg _ _ _ _ _ _ _ _ _ _ _ _ _ _)); (fail_if_success (with_reducible show PyProof.Rows.LCg.CompSrc _ _ _ _ _ _ _ _ _ _ _ _ _ _)); (fail_if_success (with_reducible show wpAny _ _ (call (Value.ref 98) _) _ _ _)); (fail_if_success (with_reducible show wpAny _ _ (call (Value.ref 170) _) _ _ _)); (fail_if_success (with_reducible show wpAny _ _ (call (Value.ref 177) _) _ _ _)); (fail_if_success (with_reducible show wpAny _ _ (call (Value.ref 120) _) _ _ _)); (fail_if_success (with_reducible show wpAny _ _ (binaryOp Operator.Add (Value.ref _) (Value.ref _)) _ _ _)); (fail_if_success (with_reducible show wpAny _ _ (call (Value.type "list") [Value.ref _]) _ _ _)); (fail_if_success (with_reducible show wpAny _ _ (subscriptTail _ (Expr.Slice _ _ _ _) _ _) _ _ _)); (first | (k_unfold; (try dsimp only)) | (k_end; wrow_close) | walk1 | (dsimp only; walk1) | (leave1; walk_say "STEP leave1"; try dsimp only))) | fail "no step"))
local macro_rules | `(tactic| walk_at "MYSTEPS11") => `(tactic| repeat' (first | ((fail_if_success (with_reducible show wpAny _ _ (exec (Stmt.While _ _ _ _) _) _ _ _)); (fail_if_success (with_reducible show wpAny _ _ (exec (Stmt.For _ _ _ _ _) _) _ _ _)); (fail_if_success (with_reducible show wpAny _ _ (pyIter _) (fun it s₂ => LoopAtV _ _ _ _ _ _ _ _ _ it s₂) _ _)); (fail_if_success (with_reducible show KswEnd _ _ _ _ _ _ _ _ _ _ _ _)); (fail_if_success (with_reducible show RngEnd _ _ _ _ _ _ _ _ _ _ _ _ _)); (fail_if_success (with_reducible show PyProof.Rows.LCg.CompEnd _ _ _ _ _ _ _ _ _ _ _ _ _ _)); (fail_if_success (with_reducible show SrcRg _ _ _ _ _ _ _ _ _ _ _ _ _ _)); (fail_if_success (with_reducible show PyProof.Rows.LCg.CompSrc _ _ _ _ _ _ _ _ _ _ _ _ _ _)); (fail_if_success (with_reducible show wpAny _ _ (call (Value.ref 98) _) _ _ _)); (fail_if_success (with_reducible show wpAny _ _ (call (Value.ref 170) _) _ _ _)); (fail_if_success (with_reducible show wpAny _ _ (call (Value.ref 177) _) _ _ _)); (fail_if_success (with_reducible show wpAny _ _ (call (Value.ref 120) _) _ _ _)); (fail_if_success (with_reducible show wpAny _ _ (binaryOp Operator.Add (Value.ref _) (Value.ref _)) _ _ _)); (fail_if_success (with_reducible show wpAny _ _ (call (Value.type "list") [Value.ref _]) _ _ _)); (fail_if_success (with_reducible show wpAny _ _ (subscriptTail _ (Expr.Slice _ _ _ _) _ _) _ _ _)); (first | (k_unfold; (try dsimp only)) | walk1 | (dsimp only; walk1) | (leave1; walk_say "STEP leave1"; try dsimp only))) | fail "no step"))
local macro_rules | `(tactic| walk_at "MYSTEPS10") => `(tactic| repeat' (first | ((fail_if_success (with_reducible show wpAny _ _ (exec (Stmt.While _ _ _ _) _) _ _ _)); (fail_if_success (with_reducible show wpAny _ _ (exec (Stmt.For _ _ _ _ _) _) _ _ _)); (fail_if_success (with_reducible show wpAny _ _ (pyIter _) (fun it s₂ => LoopAtV _ _ _ _ _ _ _ _ _ it s₂) _ _)); (fail_if_success (with_reducible show KswEnd _ _ _ _ _ _ _ _ _ _ _ _)); (fail_if_success (with_reducible show RngEnd _ _ _ _ _ _ _ _ _ _ _ _ _)); (fail_if_success (with_reducible show PyProof.Rows.LCg.CompEnd _ _ _ _ _ _ _ _ _ _ _ _ _ _)); (fail_if_success (with_reducible show SrcRg _ _ _ _ _ _ _ _ _ _ _ _ _ _)); (fail_if_success (with_reducible show PyProof.Rows.LCg.CompSrc _ _ _ _ _ _ _ _ _ _ _ _ _ _)); (fail_if_success (with_reducible show wpAny _ _ (call (Value.ref 98) _) _ _ _)); (fail_if_success (with_reducible show wpAny _ _ (call (Value.ref 170) _) _ _ _)); (fail_if_success (with_reducible show wpAny _ _ (call (Value.ref 177) _) _ _ _)); (fail_if_success (with_reducible show wpAny _ _ (call (Value.ref 120) _) _ _ _)); (fail_if_success (with_reducible show wpAny _ _ (binaryOp Operator.Add (Value.ref _) (Value.ref _)) _ _ _)); (fail_if_success (with_reducible show wpAny _ _ (call (Value.type "list") [Value.ref _]) _ _ _)); (fail_if_success (with_reducible show wpAny _ _ (subscriptTail _ (Expr.Slice _ _ _ _) _ _) _ _ _)); (fail_if_success (with_reducible show wpAny _ _ (eval (Expr.ListComp _ _ _ _) _) _ _ _)); (fail_if_success (with_reducible show PyProof.Rows.LCt.CompSrcT _ _ _ _ _ _ _ _ _ _ _ _ _ _ _)); (fail_if_success (with_reducible show wpAny _ _ (compareOp _ (Value.ref _) (Value.ref _)) _ _ _)); (first | (k_unfold; (try dsimp only)) | (k_end; wrow_close) | walk1 | (dsimp only; walk1) | (leave1; walk_say "STEP leave1"; try dsimp only))) | fail "no step"))
local macro_rules | `(tactic| walk_at "MYQ") => `(tactic| first | with_reducible assumption | (with_reducible refine List.mem_cons_of_mem _ ?_; walk_at "MYQ"))
local macro_rules | `(tactic| walk_at "MYSUB") => `(tactic| first
  | (refine' gen_at ?N ?m ?l _ ?j ?b ?_ ?s ?g; (case N => k_asm); (case m => walk_at "MYQ"); (case l => first | omega | (simp only [List.length_map, List.length_range]; omega)); (case j => exact rfl); (case b => first | omega | (simp only [List.length_map, List.length_range]; omega)); (case s => with_unfolding_all rfl); (case g => (intro _; with_unfolding_all rfl)); k_whole; intro v' e')
  | (refine' gen_at ?N ?m ?l 0 ?j ?b ?_ ?s ?g; (case N => k_asm); (case m => walk_at "MYQ"); (case l => first | omega | (simp only [List.length_map, List.length_range]; omega)); (case j => exact rfl); (case b => first | omega | (simp only [List.length_map, List.length_range]; omega)); (case s => with_unfolding_all rfl); (case g => (intro _; with_unfolding_all rfl)); k_whole; intro v' e'))
local macro_rules | `(tactic| walk_at "MYSUB") => `(tactic| ((with_reducible show wpAny _ _ (subscriptTail _ _ (Value.ref _) (Value.int 0 _)) _ _ _); refine' cons_at0 ?N ?m ?l ?_ ?s ?g; (case N => k_asm); (case m => walk_at "MYQ"); (case l => simp only [List.length_map]; omega); (case s => with_unfolding_all rfl); (case g => (intro _; with_unfolding_all rfl)); k_whole))
local macro_rules | `(tactic| walk_at "call builtin:len") => `(tactic| (k_here; k_dflt (refine' gen_len ?N ?m ?l ?_; (case N => k_asm); (case m => walk_at "MYQ"); (case l => first | omega | (simp only [List.length_map, List.length_cons, List.length_range]; omega)); k_whole); intro t' tk'))
local macro_rules | `(tactic| walk_at "MYSTEPS8") => `(tactic| repeat' (first | ((fail_if_success (with_reducible show wpAny _ _ (exec (Stmt.While _ _ _ _) _) _ _ _)); (fail_if_success (with_reducible show wpAny _ _ (exec (Stmt.For _ _ _ _ _) _) _ _ _)); (fail_if_success (with_reducible show wpAny _ _ (pyIter _) (fun it s₂ => LoopAtV _ _ _ _ _ _ _ _ _ it s₂) _ _)); (fail_if_success (with_reducible show KswEnd _ _ _ _ _ _ _ _ _ _ _ _)); (fail_if_success (with_reducible show RngEnd _ _ _ _ _ _ _ _ _ _ _ _ _)); (fail_if_success (with_reducible show PyProof.Rows.LCg.CompEnd _ _ _ _ _ _ _ _ _ _ _ _ _ _)); (fail_if_success (with_reducible show SrcRg _ _ _ _ _ _ _ _ _ _ _ _ _ _)); (fail_if_success (with_reducible show PyProof.Rows.LCg.CompSrc _ _ _ _ _ _ _ _ _ _ _ _ _ _)); (fail_if_success (with_reducible show wpAny _ _ (call (Value.ref 98) _) _ _ _)); (fail_if_success (with_reducible show wpAny _ _ (call (Value.ref 170) _) _ _ _)); (fail_if_success (with_reducible show wpAny _ _ (call (Value.ref 177) _) _ _ _)); (fail_if_success (with_reducible show wpAny _ _ (call (Value.ref 120) _) _ _ _)); (fail_if_success (with_reducible show wpAny _ _ (binaryOp Operator.Add (Value.ref _) (Value.ref _)) _ _ _)); (fail_if_success (with_reducible show wpAny _ _ (call (Value.type "list") [Value.ref _]) _ _ _)); (fail_if_success (with_reducible show wpAny _ _ (subscriptTail _ (Expr.Slice _ _ _ _) _ _) _ _ _)); (fail_if_success (with_reducible show wpAny _ _ (exec (Stmt.Return _ _) _) _ _ _)); (first | (k_unfold; (try dsimp only)) | (k_end; wrow_close) | walk1 | (dsimp only; walk1) | (leave1; walk_say "STEP leave1"; try dsimp only))) | fail "no step"))
local macro_rules | `(tactic| walk_at "MYSTEPS9") => `(tactic| repeat' (first | ((fail_if_success (with_reducible show wpAny _ _ (exec (Stmt.While _ _ _ _) _) _ _ _)); (fail_if_success (with_reducible show wpAny _ _ (exec (Stmt.For _ _ _ _ _) _) _ _ _)); (fail_if_success (with_reducible show wpAny _ _ (pyIter _) (fun it s₂ => LoopAtV _ _ _ _ _ _ _ _ _ it s₂) _ _)); (fail_if_success (with_reducible show KswEnd _ _ _ _ _ _ _ _ _ _ _ _)); (fail_if_success (with_reducible show RngEnd _ _ _ _ _ _ _ _ _ _ _ _ _)); (fail_if_success (with_reducible show PyProof.Rows.LCg.CompEnd _ _ _ _ _ _ _ _ _ _ _ _ _ _)); (fail_if_success (with_reducible show SrcRg _ _ _ _ _ _ _ _ _ _ _ _ _ _)); (fail_if_success (with_reducible show PyProof.Rows.LCg.CompSrc _ _ _ _ _ _ _ _ _ _ _ _ _ _)); (fail_if_success (with_reducible show wpAny _ _ (call (Value.ref 98) _) _ _ _)); (fail_if_success (with_reducible show wpAny _ _ (call (Value.ref 170) _) _ _ _)); (fail_if_success (with_reducible show wpAny _ _ (call (Value.ref 177) _) _ _ _)); (fail_if_success (with_reducible show wpAny _ _ (call (Value.ref 120) _) _ _ _)); (fail_if_success (with_reducible show wpAny _ _ (binaryOp Operator.Add (Value.ref _) (Value.ref _)) _ _ _)); (fail_if_success (with_reducible show wpAny _ _ (call (Value.type "list") [Value.ref _]) _ _ _)); (fail_if_success (with_reducible show wpAny _ _ (subscriptTail _ (Expr.Slice _ _ _ _) _ _) _ _ _)); (fail_if_success (with_reducible show wpAny _ _ (exec (Stmt.Return _ _) _) _ _ _)); (fail_if_success (with_reducible show wpAny _ _ (exec (Stmt.If _ _ _ _) _) _ _ _)); (first | (k_unfold; (try dsimp only)) | (k_end; wrow_close) | walk1 | (dsimp only; walk1) | (leave1; walk_say "STEP leave1"; try dsimp only))) | fail "no step"))
local macro_rules | `(tactic| walk_at "MYSUB") => `(tactic| (refine' at_eq ?N ?m ?l _ ?j ?e ?_ ?s ?g; (case N => k_asm); (case m => walk_at "MYQ"); (case j => first | with_reducible exact succ_cast | with_reducible exact rfl); (case e => with_reducible assumption); (case l => first | omega | (simp only [List.length_map, List.length_cons, List.length_range]; omega)); (case s => with_unfolding_all rfl); (case g => (intro _; with_unfolding_all rfl)); k_whole))
local macro_rules | `(tactic| walk_at "call builtin:isinstance") => `(tactic| (k_here; (with_reducible show wpAny _ _ (call _ [Value.ref _, Value.type _]) _ _ _); k_dflt (refine' isi_tup ?N ?m ?_; (case N => k_asm); (case m => walk_at "MYQ"); k_whole)))
local macro_rules | `(tactic| walk_at "call builtin:len") => `(tactic| (k_here; k_dflt (refine' len_tup3 ?N ?m ?_; (case N => k_asm); (case m => walk_at "MYQ"); k_whole); intro t' tk'))
local macro_rules | `(tactic| walk_at "MYSUB") => `(tactic| ((with_reducible show wpAny _ _ (subscriptTail _ _ (Value.ref _) (Value.int (-1) _)) _ _ _); refine' last_eq ?N ?m ?e ?l ?_ ?s; (case N => k_asm); (case m => walk_at "MYQ"); (case e => with_reducible assumption); (case l => first | omega | (simp only [List.length_map, List.length_cons, List.length_range]; omega)); (case s => with_unfolding_all rfl); k_whole))
local macro_rules | `(tactic| walk_at "compareOp IsNot ref ref") => `(tactic| (k_here; k_dflt (refine' isNot_node ?N ?M ?i ?j ?_; (case N => k_asm); (case M => with_reducible assumption); (case i => with_reducible assumption); (case j => with_reducible assumption); k_whole)))
local macro_rules | `(tactic| walk_at "compareOp IsNot ref ref") => `(tactic| (k_here; (with_reducible show wpAny _ _ (compareOp CmpOp.IsNot (Value.ref _) (Value.ref _)) _ _ _); (with_reducible refine wpAny_isNot_ref_self ?_); k_whole))
local macro_rules | `(tactic| walk_at "execs nil") => `(tactic| (k_here; (with_reducible refine wpAny_execs_nil ?_)))
local macro_rules | `(tactic| walk_at "binaryOp Mod int int") => `(tactic| (k_here; k_dflt (refine' mod_nat _ _ ?a ?b ?c ?_; (case a => with_reducible exact succ_cast); (case b => with_reducible exact rfl); (case c => omega); k_whole); intro t' tk'))
local macro_rules | `(tactic| walk_at "compareOp NotIn int ref") => `(tactic| (k_here; k_dflt (refine' notin_ring ?N ?m ?x ?_; (case N => k_asm); (case m => walk_at "MYQ"); (case x => with_reducible assumption); k_whole)))
theorem main_t : PySem.Challenge.rw_et5009_01.Holds := hd (by
  k_go0
  k_fold
  walk_at "MYSTEPS0"
  rename Frag.In _ _ => KX
  rename IntsAre _ _ => hI
  rename Fr _ _ _ _ => F
  rename News _ _ _ _ => N
  have hm := more_c KX
  have hn := nv_of hI
  obtain ⟨N1, e1, hl1⟩ := hn
  obtain ⟨N2, hl2, hM⟩ := hm
  have hlen : N1.length ≤ 63 := by omega
  rw [e1] at N
  refine nums_add F N (.head _) hM (by omega) ?_
  clear F N
  intro DA hA FA NA lA
  have hN14 : 14 ≤ (N1 ++ N2).length := by rw [List.length_append]; omega
  have hN77 : (N1 ++ N2).length ≤ 77 := by rw [List.length_append]; omega
  generalize (N1 ++ N2) = Nm at *
  (try k_lt lA)
  (try k_sweep)
  dsimp only
  walk_at "MYSTEPS4"
  rename Fr _ _ _ _ => F1
  rename News _ _ _ _ => N1
  rename_i rl vs k1 m9 q4 q9 g9 S9 hB oB led0 dB MB SB SB2 tkB fB tB tB2 tkB2 b tb tkb hb hC
  obtain ⟨xs, ys, tx, ty, ra, evs, hR0, hY⟩ := rows_of g9
  obtain ⟨mc3, mc2⟩ := cells_next S9
  have mc3 := SB _ mc3 (by show @Ne Nat _ _; dsimp only; omega)
  have mc2 := SB _ mc2 (by show @Ne Nat _ _; dsimp only; omega)
  have hR1 : RowsIn xs ys tx ty ra vs.length led0 := fun k hk => SB2 _ (hR0 k hk) (fun v z => by cases z)
  have hrw : (rl, listOf vs.toArray k1) ∈ led0 := SB2 _ m9 (fun v z => by cases z)
  refine LCg.CompSrc.ledger rfl F1 N1 hrw (by rw [List.size_toArray, sizeLine_eq]; omega) fun gg => ?_
  refine comp_rest (fun i zs ledi => (∀ p ∈ led0, p ∈ ledi) ∧ ∃ PP : PPar, (∀ j, j < i → PP.xs j = xs j ∧ PP.ys j = ys j) ∧ PointsIn PP i ledi ∧ zs = (List.range i).map fun j => Value.ref (PP.pt j)) vs.toArray.size ?_ ?_ vs.toArray.size 0 [] led0 (by omega) ⟨fun _ h => h, ⟨fun _ => 0, fun _ => 0, fun _ => 0, fun _ => 0, fun _ => 0, fun _ => 0, fun _ _ => 0, fun _ _ => 0⟩, (fun _ h => nomatch h), (fun _ h => nomatch h), rfl⟩
  · rintro i zs ledi hi ⟨hSi, PP, hxy, hPI, hzs⟩ v I oI C oC D m₂ h2 tk2 E' hP hC hx F2 N2 off hneq
    have hi' : i < vs.length := by simpa using hi
    have hv : v = .ref (ra i) := by
      have h1 : vs[i]? = some v := by simpa using hP
      rw [evs, List.getElem?_map, List.getElem?_range hi'] at h1
      simpa using h1.symm
    subst hv
    have hri := hSi _ (hR1 i hi')
    clear F1 N1
    walk_at "MYSTEPS6"
    rename_i x5 d5 h5 F5 N5 l5 l6 g6 L6 h6 FG6 z1 z2 z3 h7 h8 F8 N8 kF kN z4 z5
    obtain ⟨PP', e1, e2, e3, hPI'⟩ := point_new hPI x5 d5 (xs i) (ys i) (tx i) (ty i) _ _ _ _
    refine comp_end2 kF kN off ⟨ltN (Nat.lt_trans l5.1 l6), ltN (Nat.lt_trans l5.2.1 l6), ltN (Nat.lt_trans l5.2.2.1 l6)⟩ ⟨l5.1, l5.2.1, l5.2.2.1⟩ (.inr ⟨_, .tail _ (.tail _ (hSi _ hrw)), rfl, _, rfl⟩) ⟨fun p hp => .tail _ (.tail _ (hSi p hp)), PP', ?_, hPI', ?_⟩
    · intro j hj
      rw [e1, e2]
      by_cases e : j = i
      · subst e; simp
      · simp only [if_neg e]; exact hxy j (by omega)
    · rw [hzs, List.range_succ, List.map_append, e3]
      congr 1
      · apply List.map_congr_left
        intro j hj
        have := List.mem_range.mp hj
        simp only [if_neg (show j ≠ i by omega)]
      · simp
  · rintro zs ledi ⟨hSi, PP, hxy, hPI, hzs⟩ D h' tk' F5 N5 ho
    have hsz : vs.toArray.size = vs.length := by simp
    rw [hsz] at hxy hPI hzs
    dsimp only
    walk_at "MYSTEPS6"
    rename Fr _ _ _ _ => F1'
    rename News _ _ _ _ => N1'
    have hzl : zs.length = vs.length := by rw [hzs]; simp
    with_unfolding_all refine' For_invVF F1' ?k1 ?k2 ?_
    case k1 => exact rfl
    case k2 => exact rfl
    walk_at "MYSTEPS6"
    rename IsRange _ _ _ _ _ _ _ _ => hr
    rename Fr _ _ _ _ => F2
    rename News _ _ _ _ => N2
    obtain ⟨ml, eml⟩ := head_ex N2
    subst eml
    rename @LT.lt Nat _ D _ ∧ AllLt _ _ => hlt
    have hml : ∀ p ∈ (D, LCg.lst zs) :: ledi, p.1 ≠ ml := fun p hp => by
      rcases List.mem_cons.mp hp with q | q
      · rw [q]; exact Nat.ne_of_lt hlt.1
      · exact Nat.ne_of_lt (allLt_mem hlt.2 p q)
    refine rng_loop (σ := Mine.Led × Par × Nat) (n := zs.length) (fun c => c.1) (fun c => [(Str.ofString "last", if c.2.2 = 0 then Value.none else .ref (c.2.1.nd (c.2.2 - 1)))])
      (fun c => (∃ k, (ml, listOf ((List.range c.2.2).map fun j => Value.ref (c.2.1.nd j)).toArray k) ∈ c.1) ∧ (∀ p ∈ (D, LCg.lst zs) :: ledi, (∀ es, p.2 ≠ dictOf es 10) → p ∈ c.1) ∧ (0 < c.2.2 → Agr PP c.2.1 ∧ NodesIn c.2.1 c.2.2 (stR c.2.2) c.1))
      [] (fun i c => c.2.2 = i) (_, PP.par, 0) rfl hr (small_one (by omega) (by omega) (by omega) (by omega)) (rangeSize_nat _ _) F2 N2 ⟨⟨_, .head _⟩, fun p hp _ => .tail _ hp, fun h => absurd h (Nat.lt_irrefl 0)⟩ ?pp rfl ?_ ?_
    case pp =>
      intro q hq
      rw [List.mem_singleton.mp hq]
      rfl
    · rintro ⟨led, P, m⟩ i t u2 h2 tk2 Ia oI hi hcls hIa ⟨⟨km, f1⟩, f2, f3⟩ hm F3 N3
      dsimp only at hIa f1 f2 f3 hm F3 N3
      subst hm
      clear hr F2 N2
      have hIm : Ia ≠ ml := fun e => hIa _ f1 e.symm
      have hzsm := f2 _ (.head _) (fun es z => by simp at z)
      rw [show (0 : Int) + ((m : Nat) : Int) * 1 = ((m : Nat) : Int) by omega] at F3
      cases m with
      | zero =>
        walk_at "MYSTEPS6"
        rename zs[_]? = _ => hve
        have hv' := pts_at hzs (by omega) hve
        subst hv'
        refine' does_use (insert0_c (PP:=PP) (n:=vs.length) ?q0 ?q1) ?B ?F ?X ?N ?T ?kk ?d ?u ?_
        case N => k_asm
        case q0 => exact hPI.old fun p hp hne => .tail _ (f2 p (.tail _ hp) hne)
        case q1 => omega
        walk_at "MYUSE"
        intro r9 n9 h9 tk9 F9 N9 p9
        obtain ⟨P', hA', hM', hS', e9⟩ := p9
        subst e9
        have f1' := hS' _ (.tail _ f1)
        obtain ⟨l', g1, g2, g3, g4, g5, g6⟩ := turn_facts (P' := P') (m := 0) (km := km) N9 hcls f1' (hS' _ (.head _)) (fun p hp hne => hS' _ (.tail _ (f2 p hp hne))) hml (fun p hp hne => hIa p (f2 p hp hne)) hA' (one_node hM')
        dsimp only
        walk_at "MYSTEPS6"
        k_dflt (refine' append_gen ?gF ?gN f1' ?gl ?_)
        case gF => k_asm
        case gN => k_asm
        case gl => simp
        intro h8 F8 N8
        walk_at "MYSTEPS6"
        exact rng_end (⟨l', P', 0 + 1⟩ : Mine.Led × Par × Nat) (by k_asm) (by k_asm) g1 g2 g3 ⟨g4, g5, g6⟩ (by walk_at "MYPS") (by walk_at "MYSAME2") rfl
      | succ m' =>
        obtain ⟨hA, hN⟩ := f3 (Nat.succ_pos m')
        have hN0 : NodesIn P (m' + 1) (stR (m' + 1)) ((Ia, oI) :: led) := fun k hk => ⟨.tail _ (hN k hk).1, .tail _ (hN k hk).2⟩
        have keep : ∀ b, Kept P (m' + 1) ((Ia, oI) :: led) b → ∀ p ∈ (Ia, oI) :: led, (∀ es, p.2 ≠ dictOf es 10) → p ∈ b := fun b K p hp hne => ins_keep N3 hN0 K hp hne
        rw [if_neg (Nat.succ_ne_zero m'), Nat.add_sub_cancel] at F3
        walk_at "MYSTEPS6"
        rename zs[_]? = _ => hve
        have hv' := pts_at hzs (by omega) hve
        subst hv'
        refine' does_use (insert1_c (PP:=PP) (P:=P) (st:=stR (m'+1)) (n:=vs.length) (k:=m'+1) (j:=m') ?q0 ?q1 hA hN0 ?q2 ?q3) ?B ?F ?X ?N ?T ?kk ?d ?u ?_
        case N => k_asm
        case q0 => exact hPI.old fun p hp hne => .tail _ (f2 p (.tail _ hp) hne)
        case q1 => omega
        case q2 => exact stR_closed (Nat.succ_pos m')
        case q3 => omega
        walk_at "MYUSE"
        intro r9 n9 h9 tk9 F9 N9 p9
        obtain ⟨P', hA', hE', hM', hK', e9⟩ := p9
        subst e9
        have hS' := keep n9 hK'
        have eqm : (List.range (m' + 1)).map (fun j => Value.ref (P.nd j)) = (List.range (m' + 1)).map (fun j => Value.ref (P'.nd j)) := List.map_congr_left fun j hj => by
          rw [(hE' j (by have := List.mem_range.mp hj; omega)).1]
        rw [eqm] at f1
        have f1' := hS' _ (.tail _ f1) (fun es z => by simp at z)
        obtain ⟨l', g1, g2, g3, g4, g5, g6⟩ := turn_facts (P' := P') (m := m' + 1) (km := km) N9 hcls f1' (hS' _ (.head _) (fun es z => by have z' : oI = dictOf es 10 := z; rw [z'] at hcls; simp at hcls)) (fun p hp hne => hS' _ (.tail _ (f2 p hp hne)) hne) hml (fun p hp hne => hIa p (f2 p hp hne)) hA' (hM'.eqv (stR_ins (Nat.succ_pos m')))
        dsimp only
        walk_at "MYSTEPS6"
        k_dflt (refine' append_gen ?gF ?gN f1' ?gl ?_)
        case gF => k_asm
        case gN => k_asm
        case gl => simp; omega
        intro h8 F8 N8
        walk_at "MYSTEPS6"
        exact rng_end (⟨l', P', m' + 1 + 1⟩ : Mine.Led × Par × Nat) (by k_asm) (by k_asm) g1 g2 g3 ⟨g4, g5, g6⟩ (by walk_at "MYPS") (by walk_at "MYSAME2") rfl
    · rintro ⟨led, P, m⟩ u2 h2 tk2 ⟨⟨km, f1⟩, f2, f3⟩ hm F3 N3
      dsimp only at f1 f2 f3 hm F3 N3
      rw [hzl] at hm
      subst hm
      obtain ⟨hA, hN⟩ := f3 (by omega)
      rw [if_neg (show ¬ vs.length = 0 by omega)] at F3
      clear f3 hr F2 N2 hlt
      have hzsm := f2 _ (.head _) (fun es z => by simp at z)
      have hrwm := f2 _ (.tail _ (hSi _ hrw)) (fun es z => by simp at z)
      have hc1 := f2 _ (.tail _ (hSi _ MB)) (not_d10 dB)
      have hc2 := f2 _ (.tail _ (hSi _ mc2)) (not_d10 (by assumption))
      have hc3 := f2 _ (.tail _ (hSi _ mc3)) (not_d10 (by assumption))
      have hRm : RowsIn xs ys tx ty ra vs.length led := fun k hk => f2 _ (.tail _ (hSi _ (hR1 k hk))) (fun es z => by simp at z)
      have hPm := hPI.old fun p hp hne => f2 p (.tail _ hp) hne
      clear f2
      dsimp only
      walk_at "MYSTEPS7"
      rename IsRange _ _ _ _ _ _ _ _ => hrg
      k_dflt (refine' ring_range (n := vs.length) ?rA ?rF ?rN hrg rfl (by omega) ?_)
      case rA => exact rfl
      case rF => k_asm
      case rN => k_asm
      intro D1 R0 c1 h3 tk3 F3 N3 l3 eR0
      have hR0l : R0.length = vs.length := by rw [← ix_len, eR0, List.length_range]
      dsimp only
      (try k_lt l3)
      (try k_sweep)
      walk_at "MYSTEPS7"
      k_dflt (refine' ring_from (R := R0) ?sF ?sN ?sm ?sl b ?sj ?_ ?ss ?st)
      case sF => k_asm
      case sN => k_asm
      case sm => walk_at "MYMEM"
      case sl => omega
      case sj => exact rfl
      case ss => with_unfolding_all rfl
      case st => (intro _; with_unfolding_all rfl)
      intro D2 h4 F4 N4 l4
      (try k_lt l4)
      (try k_sweep)
      dsimp only
      walk_at "MYSTEPS7"
      k_dflt (refine' ring_upto (R := R0) ?uF ?uN ?um ?ul b ?uj ?_ ?us ?ut)
      case uF => k_asm
      case uN => k_asm
      case um => walk_at "MYMEM"
      case ul => omega
      case uj => exact rfl
      case us => with_unfolding_all rfl
      case ut => (intro _; with_unfolding_all rfl)
      intro D3 h5 F5 N5 l5
      (try k_lt l5)
      (try k_sweep)
      dsimp only
      walk_at "MYSTEPS7"
      k_dflt (refine' ring_add (R := R0.drop b) (R' := R0.take b) ?aF ?aN ?am ?ao ?al ?ap ?_)
      case aF => k_asm
      case aN => k_asm
      case am => walk_at "MYMEM"
      case ao => walk_at "MYMEM"
      case al => rw [List.length_drop]; omega
      case ap => rw [List.length_take]; omega
      intro D4 h6 F6 N6 l6
      (try k_lt l6)
      (try k_sweep)
      dsimp only
      have eR1 : ix (R0.drop b ++ R0.take b) = fromB vs.length b := by unfold fromB; rw [← eR0]; simp only [ix, List.map_append, List.map_drop, List.map_take]
      walk_at "MYSTEPS7"
      have hRm1 : RowsIn PP.xs PP.ys tx ty ra vs.length led := fun k hk => by rw [(hxy k hk).1, (hxy k hk).2]; exact hRm k hk
      have hYm : SmallYs PP.ys vs.length := fun k hk => by rw [(hxy k hk).2]; exact hY k hk
      have hrwm1 : (rl, listOf (RowVs ra vs.length).toArray k1) ∈ led := by rw [← evs]; exact hrwm
      refine' does_use (sweep_plain (xs := PP.xs) (ys := PP.ys) (tx := tx) (ty := ty) (ra := ra) (n := vs.length) (R := R0.drop b ++ R0.take b) ?q0 hYm (by omega) ?q1 ?q2 ?q3) ?B ?F ?X ?N ?T ?kk ?d ?u ?_
      case N => k_asm
      case q0 => exact fun k hk => .tail _ (.tail _ (.tail _ (.tail _ (hRm1 k hk))))
      case q1 => exact .tail _ (.tail _ (.tail _ (.tail _ hrwm1)))
      case q2 => exact .head _
      case q3 => rw [eR1]; exact from_fit (by omega) (by omega)
      walk_at "MYUSE"
      intro r7 n7 h7 tk7 F7 N7 p7
      obtain ⟨t7, rg, k7, R7, cl, kc, cs, e7, mT, mR, mC, S7, hFit, hcl, hrun⟩ := p7
      subst e7
      rw [eR1, from_head hb] at hrun
      dsimp only
      have S7' : ∀ p ∈ led, p ∈ n7 := fun p hp => S7 p (.tail _ (.tail _ (.tail _ (.tail _ hp))))
      clear S7 l3 l4 l5 l6
      walk_at "MYSTEPS7"
      refine' does_use (reduce_plain (xs := PP.xs) (ys := PP.ys) (tx := tx) (ty := ty) (ra := ra) (n := vs.length) (R := R7) ?q0 hYm (by omega) ?q1 mR hFit) ?B ?F ?X ?N ?T ?kk ?d ?u ?_
      case N => k_asm
      case q0 => exact fun k hk => S7' _ (hRm1 k hk)
      case q1 => exact S7' _ hrwm1
      walk_at "MYUSE"
      intro r8 n8 h8 tk8 F8 N8 p8
      obtain ⟨lf, k8, R8, e8, mL, S8, l82, l89, hlt8, hdr, hnm⟩ := p8
      subst e8
      dsimp only
      have hS8 : ∀ p ∈ led, p ∈ n8 := fun p hp => S8 p (S7' p hp)
      replace mR := S8 _ mR
      replace mC : CutsIn cl kc cs n8 := ⟨S8 _ mC.1, fun c hc => S8 _ (mC.2 c hc)⟩
      replace hzsm := hS8 _ hzsm
      replace f1 := hS8 _ f1
      replace hrwm := hS8 _ hrwm
      replace hc1 := hS8 _ hc1
      replace hc2 := hS8 _ hc2
      replace hc3 := hS8 _ hc3
      replace hRm := fun k hk => hS8 _ (hRm k hk)
      replace hPm := hPm.sub hS8
      replace hN : NodesIn P vs.length (stR vs.length) n8 := fun k hk => ⟨hS8 _ (hN k hk).1, hS8 _ (hN k hk).2⟩
      clear S7' S8 mT hS8 hRm1 hrwm1 hSi S9 SB SB2
      walk_at "MYSTEPS7"
      rename _[b]? = some _ => hv1
      have hv1 := node_at hv1 hb
      subst hv1
      rename News _ _ _ _ => N8'
      rename @LT.lt Nat _ _ _ ∧ AllLt _ n8 => lt8
      have keep := cure_keep N8' hN lt8 (fun es z => by simp at z)
      have hT0 := tri_new N8' hN lt8
      have eX : P.xs = PP.xs := hA.2.1
      have eY : P.ys = PP.ys := hA.2.2.1
      rw [← eX, ← eY] at hrun hdr hnm
      rw [← eY] at hYm
      refine' does_use (law_cure ?q0 hYm hT0 q4 q9 hb hrun) ?B ?F ?X ?N ?T ?kk ?d ?u ?_
      case N => k_asm
      case q0 => exact fun k hk => ⟨.tail _ (.tail _ (hN k hk).1), .tail _ (.tail _ (hN k hk).2)⟩
      walk_at "MYUSE"
      intro r9 n9 h9 tk9 F9 N9 p9
      obtain ⟨st', q, kt, cs', hN9, hK9, hq, ⟨hFR, hcs⟩, hT9, e9⟩ := p9
      subst e9
      obtain ⟨hS9, hmk⟩ := keep n9 hK9
      replace hzsm := hS9 _ hzsm (fun es z => by simp at z)
      replace f1 := hS9 _ f1 (fun es z => by simp at z)
      replace hrwm := hS9 _ hrwm (fun es z => by simp at z)
      replace hc1 := hS9 _ hc1 (not_d10 dB)
      replace hc2 := hS9 _ hc2 (not_d10 (by assumption))
      replace hc3 := hS9 _ hc3 (not_d10 (by assumption))
      replace hRm := fun k hk => hS9 _ (hRm k hk) (fun es z => by simp at z)
      replace hPm := hPm.old hS9
      replace mR := hS9 _ mR (fun es z => by simp at z)
      replace mL := hS9 _ mL (fun es z => by simp at z)
      replace mC : CutsIn cl kc cs n9 := ⟨hS9 _ mC.1 (fun es z => by simp at z), fun c hc => hS9 _ (mC.2 c hc) (fun es z => by simp at z)⟩
      clear hS9 keep lt8 hT0 hK9 hv1 N8' hN
      have mCl := mC.1
      have hTl := hT9.lst
      have hcl' : cs'.length = cs.length := by have := congrArg List.length hcs; simpa using this
      have hlC : (cs.map fun c => Value.ref c.1).length = cs.length := List.length_map ..
      have hlT : (cs'.map fun c => Value.ref c.1).length = cs.length := (List.length_map ..).trans hcl'
      dsimp only
      walk_at "MYSTEPS8"
      · exfalso
        rename _ ≠ _ => z
        rw [List.length_cons] at z
        omega
      have hlt3 := run_lt hrun (from_fit (by omega) (by omega)) (fun c hc => nomatch hc)
      rename Fr _ _ _ _ => F1'
      rename News _ _ _ _ => N1'
      with_unfolding_all refine' For_invVF F1' ?k1 ?k2 ?_
      case k1 => exact rfl
      case k2 => exact rfl
      walk_at "MYSTEPS8"
      rename IsRange _ _ _ _ _ _ _ _ => hr
      rename Fr _ _ _ _ => F2
      rename News _ _ _ _ => N2
      rw [hlC] at hr
      refine rng_loop (σ := Unit) (n := cs.length) (fun _ => n9) (fun _ => []) (fun _ => True) [Str.ofString "one"] (fun _ _ => True) () rfl hr (small_one (by omega) (by omega) (by omega) (by omega)) (rangeSize_nat _ _) F2 N2 trivial (fun _ hp => nomatch hp) trivial ?_ ?_
      · rintro ⟨⟩ i t u2 h2 tk2 Ia oI hi hcls hIa - - F3 N3
        (try dsimp only at F3)
        rw [show (0 : Int) + ((i : Nat) : Int) * 1 = ((i : Nat) : Int) by omega] at F3
        clear hr F2 N2
        obtain ⟨x, y, a, p, b', ta, tp, tb, ex, ey, mx, my, la, lp, lb⟩ := cut_pair hT9.cons mC.cons hcs hA hi hlt3
        have za := pts_get hzs la
        have zp := pts_get hzs lp
        have zb := pts_get hzs lb
        walk_at "MYSTEPS8"
        exact rng_end () (by k_asm) (by k_asm) (fun p hp => .tail _ hp) (.head _) hIa trivial (fun _ hp => nomatch hp) (by walk_at "MYSAME2") trivial
      · rintro ⟨⟩ u2 h2 tk2 - - F3 N3
        (try dsimp only at F3)
        clear hr F2 N2
        obtain ⟨T, hT, hT0, hTs, hTl, hTf, hTp, hTn, hTm⟩ := told_ring hFR hdr hnm hrun hFit
        subst hT0
        clear hFR hlt3
        walk_at "MYSTEPS8"
        rename Fr _ _ _ _ => F5
        rename News _ _ _ _ => N5
        rename (∀ p ∈ n9, p.1 < _) => hltn
        obtain ⟨nl, enl⟩ := head_ex N5
        subst enl
        refine ksw_while (σ := Mine.Led × Nat × Nat) (fun c => c.1) (fun c => [(Str.ofString "nodes", .ref nl)]) (fun c => (nl, listOf (nv P T c.2.1).toArray c.2.2) ∈ c.1 ∧ ∀ p ∈ n9, p ∈ c.1) [] (fun c => 1 ≤ c.2.1 ∧ c.2.1 ≤ T.length) (fun c => T.length - c.2.1) (_, 1, 0) F5 N5 ⟨.head _, fun p hp => .tail _ hp⟩ ?pp ⟨Nat.le_refl _, hTp⟩ ?_
        case pp => walk_at "MYPS"
        rintro ⟨led1, j, kj⟩ u5 h5 tk5 ⟨hnl, hS1⟩ ⟨hj1, hj2⟩ F6 N6
        dsimp only at hnl hS1 hj1 hj2 F6 N6
        have eL := nv_last P T j hj1
        have lL := nv_len P T j
        have hx := hTm (j - 1) (by omega)
        have hxi := hS1 _ (hN9 _ hx).1
        have hxd := hS1 _ (hN9 _ hx).2
        have enx : st'.nx (pl T (j - 1)) = pl T (j % T.length) := by rw [ring_nx hT (by omega), show j - 1 + 1 = j by omega]
        rw [enx] at hxd
        have hx1 := hTm (j % T.length) (Nat.mod_lt _ hTp)
        have hx0 := hTm 0 hTp
        have hNj : NodesIn P vs.length st' led1 := fun k hk => ⟨hS1 _ (hN9 k hk).1, hS1 _ (hN9 k hk).2⟩
        have hrw1 := hS1 _ hrwm
        have hcc1 := hS1 _ hc1
        have hnn : ∀ p ∈ n9, p.1 ≠ nl := fun p hp => Nat.ne_of_lt (hltn p hp)
        as_aux_lemma =>
          walk_at "MYSTEPS9"
          · rename ¬ (pl T (j % T.length) = pl T 0) => hne
            have hjl := ring_more hne hj2
            have hjm : j % T.length = j := Nat.mod_eq_of_lt hjl
            k_dflt (refine' append_gen ?gF ?gN hnl ?gl ?_)
            case gF => k_asm
            case gN => k_asm
            case gl => rw [nv_len]; omega
            intro h8 F8 N8
            rw [hjm, nv_snoc] at N8
            walk_at "MYSTEPS9"
            exact ksw_end (⟨_, j + 1, kj + 1⟩ : Mine.Led × Nat × Nat) (by k_asm) (by k_asm) (fun _ h => h) ⟨mem_setL_self hnl, fun p hp => mem_setL (hS1 p hp) (hnn p hp)⟩ (by walk_at "MYPS") (by first | walk_at "MYSAME" | (intro z h2 h3; simp only [List.forall_mem_cons, List.not_mem_nil, false_implies, implies_true, and_true, ne_eq] at h2; simp [h2, kstB])) ⟨Nat.succ_le_succ (Nat.zero_le j), hjl⟩ (by dsimp only; omega)
          rename ¬ (pl T (j % T.length) ≠ pl T 0) => he0
          have he := Decidable.not_not.mp he0
          have hjT := ring_done hT he hj1 hj2
          subst hjT
          clear he he0 enx hxd hxi hx1 eL
          have hc21 := hS1 _ hc2
          have hc31 := hS1 _ hc3
          have mL1 := hS1 _ mL
          have mR1 := hS1 _ mR
          have f11 := hS1 _ f1
          have hRm1 := fun k hk => hS1 _ (hRm k hk)
          have hRVl : (RV R8).length = R8.length := List.length_map ..
          clear hS1 hnn
          rcases Nat.lt_or_ge 2 R8.length with h3 | h3
          · rw [if_pos h3] at hTl
            walk_at "MYSTEPS8"
            · exfalso
              rename _ ≠ _ => z
              omega
            rename Fr _ _ _ _ => F1'
            rename News _ _ _ _ => N1'
            with_unfolding_all refine' For_invVF F1' ?k1 ?k2 ?_
            case k1 => exact rfl
            case k2 => exact rfl
            walk_at "MYSTEPS8"
            rename IsRange _ _ _ _ _ _ _ _ => hr
            rename Fr _ _ _ _ => F2
            rename News _ _ _ _ => N2
            rw [nv_len] at hr
            refine rng_loop (σ := Unit) (n := T.length) (fun _ => led1) (fun _ => []) (fun _ => True) [Str.ofString "one", Str.ofString "two"] (fun _ _ => True) () rfl hr (small_one (by omega) (by omega) (by omega) (by omega)) (rangeSize_nat _ _) F2 N2 trivial (fun _ hp => nomatch hp) trivial ?_ ?_
            · rintro ⟨⟩ i t u2 h2 tk2 Ia oI hi hcls hIa - - F3 N3
              (try dsimp only at F3)
              rw [show (0 : Int) + ((i : Nat) : Int) * 1 = ((i : Nat) : Int) by omega] at F3
              clear hr F2 N2
              have hb1 := hTm i hi
              have hm2 := Nat.mod_lt (i + 1) hTp
              have hb2 := hTm _ hm2
              have m1 : (P.nd (pl T i), instObj 59 (P.dd (pl T i))) ∈ (Ia, oI) :: led1 := .tail _ (hNj _ hb1).1
              have m2 := List.mem_cons_of_mem (Ia, oI) (hNj _ hb1).2
              have m3 : (P.nd (pl T ((i + 1) % T.length)), instObj 59 (P.dd (pl T ((i + 1) % T.length)))) ∈ (Ia, oI) :: led1 := .tail _ (hNj _ hb2).1
              have m4 := List.mem_cons_of_mem (Ia, oI) (hNj _ hb2).2
              rw [ring_nx hT hi] at m2
              rw [(hT.2.2 i hi).2] at m4
              have a1 := nv_at P T hi
              have a2 : (nv P T T.length)[(i + 1) % (nv P T T.length).length]? = some (.ref (P.nd (pl T ((i + 1) % T.length)))) := by rw [nv_len]; exact nv_at P T hm2
              have a3 : ((List.range vs.length).map fun j => Value.ref (P.nd j))[pl T i]? = some (.ref (P.nd (pl T i))) := by rw [List.getElem?_map, List.getElem?_range hb1]; rfl
              have a4 := hTs i hi
              walk_at "MYSTEPS8"
              exact rng_end () (by k_asm) (by k_asm) (fun p hp => .tail _ hp) (.head _) hIa trivial (fun _ hp => nomatch hp) (by walk_at "MYSAME2") trivial
            · rintro ⟨⟩ u7 h7 tk7 - - F7 N7
              (try dsimp only at F7)
              clear hr F2 N2
              walk_at "MYSTEPS8"
              rename Fr _ _ _ _ => F8
              rename News _ _ _ _ => N8
              refine LCg.CompSrc.ledger rfl F8 N8 hnl (by rw [List.size_toArray, nv_len, sizeLine_eq]; omega) fun gg => ?_
              refine comp_rest (fun i zs2 led => (∀ p ∈ led1, p ∈ led) ∧ ∃ aa : Nat → Addr, zs2 = RowVs aa i ∧ RowsIn (fun j => P.xs (pl T j)) (fun j => P.ys (pl T j)) (fun j => P.tx (pl T j)) (fun j => P.ty (pl T j)) aa i led) (nv P T T.length).toArray.size ?_ ?_ (nv P T T.length).toArray.size 0 [] led1 (Nat.zero_add _) ⟨fun _ h => h, fun _ => 0, rfl, fun k hk => absurd hk (Nat.not_lt_zero k)⟩
              · rintro i zs2 ledi2 hi ⟨hSi2, aa, hzz, hRR⟩ v I oI C oC D2 m₂ h2 tk2 E' hP hC hx F9 N9 off hneq
                have hi' : i < T.length := by rw [List.size_toArray, nv_len] at hi; exact hi
                have hv := nv_arr hP hi'
                subst hv
                have hb1 := hTm i hi'
                have m1 := hSi2 _ (hNj _ hb1).1
                have m2 := hSi2 _ (hNj _ hb1).2
                clear F8 N8
                walk_at "MYSTEPS8"
                rename News _ _ _ _ => N4
                rename _ ∧ _ => l4
                refine comp_end1 (by assumption) N4 off l4 (.inr ⟨_, .tail _ (hSi2 _ hnl), rfl, _, rfl⟩) ⟨fun p hp => .tail _ (hSi2 p hp), rows_snoc hzz hRR⟩
              · rintro zs2 ledi2 ⟨hSi2, aa, hzz, hRR⟩ D5 h' tk' F9 N9 ho2
                rw [List.size_toArray, nv_len] at hzz hRR
                have c1 := hSi2 _ hcc1
                have c2 := hSi2 _ hc21
                have c3' := hSi2 _ hc31
                have l1' := hSi2 _ mL1
                have r1 := hSi2 _ hrw1
                have R1 := fun k hk => hSi2 _ (hRm1 k hk)
                clear F8 N8
                dsimp only
                walk_at "MYSTEPS8"
                rename ∀ p : Addr × Obj, p ∈ (_ : List (Addr × Obj)) → (∀ v : Option Value, p.2.data ≠ Data.cell v) → p ∈ (_ : List (Addr × Obj)) => S2
                rename ∀ p : Addr × Obj, p ∈ (_ : List (Addr × Obj)) → p.1 ≠ _ → p ∈ (_ : List (Addr × Obj)) => S1
                rename (_, _) ∈ _ => M1
                rename Fr _ _ _ _ => F10
                rename News _ _ _ _ => N10
                have c1 := S1 _ (.tail _ c1) (by show @Ne Nat _ _; dsimp only; omega)
                have c3' := S1 _ (.tail _ c3') (by show @Ne Nat _ _; dsimp only; omega)
                have l2' := S2 _ (.tail _ l1') (fun v z => by cases z)
                have r2 := S2 _ (.tail _ r1) (fun v z => by cases z)
                have R2 := fun k hk => S2 _ (.tail _ (R1 k hk)) (fun v z => by cases z)
                have sl := S2 _ (.head _) (fun v z => by cases z)
                have st := fun k hk => S2 _ (.tail _ (hRR k hk)) (fun v z => by cases z)
                clear S1 S2 r1 l1' c2 hSi2
                refine LCg.CompSrc.ledger rfl F10 N10 l2' (by rw [List.size_toArray, hRVl, sizeLine_eq]; omega) fun gg2 => ?_
                refine comp_rest (fun i zs3 led => led = _ ∧ zs3 = RowVs (fun j => ra (pl (ix R8) j)) i) (RV R8).toArray.size ?_ ?_ (RV R8).toArray.size 0 [] _ (Nat.zero_add _) ⟨rfl, rfl⟩
                · rintro i zs3 ledi3 hi ⟨hl3, hzz3⟩ v I oI C oC D2 m₂ h2 tk2 E' hP hC hx F11 N11 off hneq
                  subst hl3
                  obtain ⟨hiR, tq, hv⟩ := rv_at hP
                  subst hv
                  have hx9 := rlt_pl hlt8 hiR
                  have ev := row_get evs hx9
                  clear F10 N10
                  walk_at "MYSTEPS8"
                  refine comp_end0 (by assumption) (by assumption) off (.inr ⟨_, l2', rfl, _, rfl⟩) ⟨rfl, rowvs_snoc hzz3⟩
                · rintro zs3 ledi3 ⟨hl3, hzz3⟩ D6 h'6 tk6 F11 N11 ho3
                  subst hl3
                  rw [List.size_toArray, hRVl] at hzz3
                  clear F10 N10
                  dsimp only
                  walk_at "MYSTEPS8"
                  rename ∀ p : Addr × Obj, p ∈ (_ : List (Addr × Obj)) → (∀ v : Option Value, p.2.data ≠ Data.cell v) → p ∈ (_ : List (Addr × Obj)) => S4
                  rename ∀ p : Addr × Obj, p ∈ (_ : List (Addr × Obj)) → p.1 ≠ _ → p ∈ (_ : List (Addr × Obj)) => S3
                  rename (_, _) ∈ _ => M4
                  rename List (Addr × Obj) => n12
                  rename Fr _ _ _ _ => F12
                  rename News _ _ _ _ => N12
                  have M2 := S3 _ (.tail _ M1) (by show @Ne Nat _ _; dsimp only; omega)
                  have sl2 := S4 _ (.tail _ sl) (fun v z => by cases z)
                  have dl2 := S4 _ (.head _) (fun v z => by cases z)
                  have st2 := fun k hk => S4 _ (.tail _ (st k hk)) (fun v z => by cases z)
                  have R3 := fun k hk => S4 _ (.tail _ (R2 k hk)) (fun v z => by cases z)
                  have l3' := S4 _ (.tail _ l2') (fun v z => by cases z)
                  clear S3 S4
                  have hs1 := seen_pts st2
                  have hd1 := due_pts (xs := P.xs) (ys := P.ys) (R := R8) (tx := fun j => tx (pl (ix R8) j)) (ty := fun j => ty (pl (ix R8) j)) (aa := fun j => ra (pl (ix R8) j)) fun j hj => by
                    have h := rlt_pl hlt8 hj
                    dsimp only
                    rw [eX, eY, (hxy _ h).1, (hxy _ h).2]
                    exact R3 _ h
                  obtain ⟨k0, hk0, ek0⟩ := hTf.resolve_left (by omega)
                  rw [hzz] at sl2
                  rw [hzz3] at dl2
                  walk_at "MYSTEPS10"
                  have hrl : (RowVs aa T.length).length = T.length := by simp
                  refine PyProof.Rows.LCt.ListComp_T (F₀ := by k_asm) (by rfl) (by decide) (by rfl) (by decide) (by rfl) ?_
                  walk_at "MYSTEPS10"
                  rename IsRange _ _ _ _ _ _ _ _ => hr
                  rename Fr _ _ _ _ => F13
                  rename News _ _ _ _ => N13
                  rw [hrl] at hr
                  refine PyProof.Rows.LCt.CompSrcT.range (n := T.length) rfl F13 N13 hr (small_one (by omega) (by omega) (by omega) (by omega)) (rangeSize_nat _ _) (by rw [sizeLine_eq]; omega) fun gg3 => ?_
                  refine comp_restT (fun i ys led => (∀ p ∈ n12, p ∈ led) ∧ ∃ N1 : Ns, ys = NV N1 ∧ (k0 < i → N1 ≠ [])) T.length ?_ ?_ T.length 0 [] n12 (Nat.zero_add _) ⟨fun _ h => h, [], rfl, fun h => absurd h (Nat.not_lt_zero _)⟩
                  · rintro i ys ledi4 hi ⟨hS4, N1, hys, hne⟩ v I oI C oC D7 m₂ h2 tk2 E' ⟨tq, hv⟩ hC hx F14 N14 off hneq
                    subst hv
                    rw [show (0 : Int) + ((i : Nat) : Int) = ((i : Nat) : Int) by omega] at hx
                    have M3 := hS4 _ M2
                    have M5 := hS4 _ M4
                    have sl3 := hS4 _ sl2
                    have dl3 := hS4 _ dl2
                    clear F13 N13 hr
                    walk_at "MYSTEPS10"
                    k_dflt (refine' gen_from (vs := RowVs aa T.length) ?sF ?sN ?sm ?sl i ?sj ?_ ?ss ?st)
                    case sF => k_asm
                    case sN => k_asm
                    case sm => walk_at "MYQ"
                    case sl => rw [hrl]; omega
                    case sj => exact rfl
                    case ss => with_unfolding_all rfl
                    case st => (intro _; with_unfolding_all rfl)
                    intro Da ha Fa Na la
                    (try k_lt la)
                    (try k_sweep)
                    dsimp only
                    walk_at "MYSTEPS10"
                    k_dflt (refine' gen_to (vs := RowVs aa T.length) ?sF ?sN ?sm ?sl i ?sj ?_ ?ss ?st)
                    case sF => k_asm
                    case sN => k_asm
                    case sm => walk_at "MYQ"
                    case sl => rw [hrl]; omega
                    case sj => exact rfl
                    case ss => with_unfolding_all rfl
                    case st => (intro _; with_unfolding_all rfl)
                    intro Db' hb' Fb' Nb' lb'
                    (try k_lt lb')
                    (try k_sweep)
                    dsimp only
                    walk_at "MYSTEPS10"
                    k_dflt (refine' gen_add (vs := (RowVs aa T.length).drop i) (vs2 := (RowVs aa T.length).take i) ?aF ?aN ?am ?ao ?al ?ap ?_)
                    case aF => k_asm
                    case aN => k_asm
                    case am => walk_at "MYMEM"
                    case ao => walk_at "MYMEM"
                    case al => rw [List.length_drop]; omega
                    case ap => rw [List.length_take]; omega
                    intro Dc' hc' Fc' Nc' lc'
                    (try k_lt lc')
                    (try k_sweep)
                    dsimp only
                    walk_at "MYSTEPS10"
                    have hs3 := hs1.sub (b := ledi4) hS4
                    have hd3 := hd1.sub (b := ledi4) hS4
                    k_dflt (refine' eq_rows (C := (co P.xs P.ys T).drop i ++ (co P.xs P.ys T).take i) (D := co P.xs P.ys (ix R8)) ?eN ?em ?em2 ?eC ?eD ?eu ?_)
                    case eN => k_asm
                    case em => exact .head _
                    case em2 => walk_at "MYQ"
                    case eC => exact ((hs3.drop i).append (hs3.take i)).sub fun p hp => .tail _ (.tail _ (.tail _ (.tail _ (.tail _ (.tail _ hp)))))
                    case eD => exact hd3.sub fun p hp => .tail _ (.tail _ (.tail _ (.tail _ (.tail _ (.tail _ hp)))))
                    case eu => k_units
                    intro bq hbq
                    cases bq
                    · walk_at "MYSTEPS10"
                      refine PyProof.Rows.LCg.CompEnd.intro (by k_asm) (by k_asm) ledi4 (fun p hp => .tail _ (.tail _ (.tail _ hp))) off trivial ⟨hS4, N1, hys, fun hlt => ?_⟩
                      rcases Nat.lt_or_ge k0 i with q | q
                      · exact hne q
                      · have e : i = k0 := Nat.le_antisymm q (Nat.le_of_lt_succ hlt)
                        rw [e] at hbq
                        exact absurd (hbq ek0) (by decide)
                    · walk_at "MYSTEPS10"
                      refine PyProof.Rows.LCg.CompEnd.intro (by k_asm) (by k_asm) ledi4 (fun p hp => .tail _ (.tail _ (.tail _ hp))) off trivial ⟨hS4, N1 ++ [((i : Int), tq)], by rw [hys, nv_push], fun _ => by simp⟩
                  · rintro ys ledi4 ⟨hS4, N1, hys, hne⟩ D8 h'8 tk8 F15 N15 ho8
                    subst hys
                    have hne' := hne hk0
                    clear F13 N13 hr
                    dsimp only
                    walk_at "MYSTEPS10"
                    k_dflt (refine' ne_nil (N1 := N1) ?eN ?em ?em2 hne' ?eu ?_)
                    case eN => k_asm
                    case em => exact .tail _ (.head _)
                    case em2 => exact .head _
                    case eu => k_units
                    walk_at "MYSTEPS11"
                    k_end
                    kc_bool
                    refine goodW_bool (by with_reducible assumption) (by with_reducible assumption) (raisesW_false ?_) ?_
                    · wrow_none_raised
                    · refine postW_of (by wrow_shape) (w_eq_bool (w_res rfl) w_lit) ?_
                      first | rfl | trivial | simp
          · rw [if_neg (Nat.not_lt.mpr h3)] at hTl
            walk_at "MYSTEPS8"
            · exfalso
              rename _ ≠ _ => z
              omega
            rename Fr _ _ _ _ => F1'
            rename News _ _ _ _ => N1'
            with_unfolding_all refine' For_invVF F1' ?k1 ?k2 ?_
            case k1 => exact rfl
            case k2 => exact rfl
            walk_at "MYSTEPS8"
            rename IsRange _ _ _ _ _ _ _ _ => hr
            rename Fr _ _ _ _ => F2
            rename News _ _ _ _ => N2
            rw [nv_len] at hr
            refine rng_loop (σ := Unit) (n := T.length) (fun _ => led1) (fun _ => []) (fun _ => True) [Str.ofString "one", Str.ofString "two"] (fun _ _ => True) () rfl hr (small_one (by omega) (by omega) (by omega) (by omega)) (rangeSize_nat _ _) F2 N2 trivial (fun _ hp => nomatch hp) trivial ?_ ?_
            · rintro ⟨⟩ i t u2 h2 tk2 Ia oI hi hcls hIa - - F3 N3
              (try dsimp only at F3)
              rw [show (0 : Int) + ((i : Nat) : Int) * 1 = ((i : Nat) : Int) by omega] at F3
              clear hr F2 N2
              have hb1 := hTm i hi
              have hm2 := Nat.mod_lt (i + 1) hTp
              have hb2 := hTm _ hm2
              have m1 : (P.nd (pl T i), instObj 59 (P.dd (pl T i))) ∈ (Ia, oI) :: led1 := .tail _ (hNj _ hb1).1
              have m2 := List.mem_cons_of_mem (Ia, oI) (hNj _ hb1).2
              have m3 : (P.nd (pl T ((i + 1) % T.length)), instObj 59 (P.dd (pl T ((i + 1) % T.length)))) ∈ (Ia, oI) :: led1 := .tail _ (hNj _ hb2).1
              have m4 := List.mem_cons_of_mem (Ia, oI) (hNj _ hb2).2
              rw [ring_nx hT hi] at m2
              rw [(hT.2.2 i hi).2] at m4
              have a1 := nv_at P T hi
              have a2 : (nv P T T.length)[(i + 1) % (nv P T T.length).length]? = some (.ref (P.nd (pl T ((i + 1) % T.length)))) := by rw [nv_len]; exact nv_at P T hm2
              have a3 : ((List.range vs.length).map fun j => Value.ref (P.nd j))[pl T i]? = some (.ref (P.nd (pl T i))) := by rw [List.getElem?_map, List.getElem?_range hb1]; rfl
              have a4 := hTs i hi
              walk_at "MYSTEPS8"
              exact rng_end () (by k_asm) (by k_asm) (fun p hp => .tail _ hp) (.head _) hIa trivial (fun _ hp => nomatch hp) (by walk_at "MYSAME2") trivial
            · rintro ⟨⟩ u7 h7 tk7 - - F7 N7
              (try dsimp only at F7)
              clear hr F2 N2
              walk_at "MYSTEPS8"
              rename Fr _ _ _ _ => F8
              rename News _ _ _ _ => N8
              refine LCg.CompSrc.ledger rfl F8 N8 hnl (by rw [List.size_toArray, nv_len, sizeLine_eq]; omega) fun gg => ?_
              refine comp_rest (fun i zs2 led => (∀ p ∈ led1, p ∈ led) ∧ ∃ aa : Nat → Addr, zs2 = RowVs aa i ∧ RowsIn (fun j => P.xs (pl T j)) (fun j => P.ys (pl T j)) (fun j => P.tx (pl T j)) (fun j => P.ty (pl T j)) aa i led) (nv P T T.length).toArray.size ?_ ?_ (nv P T T.length).toArray.size 0 [] led1 (Nat.zero_add _) ⟨fun _ h => h, fun _ => 0, rfl, fun k hk => absurd hk (Nat.not_lt_zero k)⟩
              · rintro i zs2 ledi2 hi ⟨hSi2, aa, hzz, hRR⟩ v I oI C oC D2 m₂ h2 tk2 E' hP hC hx F9 N9 off hneq
                have hi' : i < T.length := by rw [List.size_toArray, nv_len] at hi; exact hi
                have hv := nv_arr hP hi'
                subst hv
                have hb1 := hTm i hi'
                have m1 := hSi2 _ (hNj _ hb1).1
                have m2 := hSi2 _ (hNj _ hb1).2
                clear F8 N8
                walk_at "MYSTEPS8"
                rename News _ _ _ _ => N4
                rename _ ∧ _ => l4
                refine comp_end1 (by assumption) N4 off l4 (.inr ⟨_, .tail _ (hSi2 _ hnl), rfl, _, rfl⟩) ⟨fun p hp => .tail _ (hSi2 p hp), rows_snoc hzz hRR⟩
              · rintro zs2 ledi2 ⟨hSi2, aa, hzz, hRR⟩ D5 h' tk' F9 N9 ho2
                rw [List.size_toArray, nv_len] at hzz hRR
                have c1 := hSi2 _ hcc1
                have c2 := hSi2 _ hc21
                have c3' := hSi2 _ hc31
                have l1' := hSi2 _ mL1
                have r1 := hSi2 _ hrw1
                have R1 := fun k hk => hSi2 _ (hRm1 k hk)
                clear F8 N8
                dsimp only
                walk_at "MYSTEPS8"
                rename ∀ p : Addr × Obj, p ∈ (_ : List (Addr × Obj)) → (∀ v : Option Value, p.2.data ≠ Data.cell v) → p ∈ (_ : List (Addr × Obj)) => S2
                rename ∀ p : Addr × Obj, p ∈ (_ : List (Addr × Obj)) → p.1 ≠ _ → p ∈ (_ : List (Addr × Obj)) => S1
                rename Fr _ _ _ _ => F10
                rename News _ _ _ _ => N10
                have c1 := S1 _ (.tail _ c1) (by show @Ne Nat _ _; dsimp only; omega)
                have c3' := S1 _ (.tail _ c3') (by show @Ne Nat _ _; dsimp only; omega)
                have l2' := S2 _ (.tail _ l1') (fun v z => by cases z)
                have r2 := S2 _ (.tail _ r1) (fun v z => by cases z)
                have R2 := fun k hk => S2 _ (.tail _ (R1 k hk)) (fun v z => by cases z)
                have sl := S2 _ (.head _) (fun v z => by cases z)
                have st := fun k hk => S2 _ (.tail _ (hRR k hk)) (fun v z => by cases z)
                clear S1 S2 r1 l1' c2 hSi2
                refine LCg.CompSrc.ledger rfl F10 N10 l2' (by rw [List.size_toArray, hRVl, sizeLine_eq]; omega) fun gg2 => ?_
                refine comp_rest (fun i zs3 led => led = _ ∧ zs3 = RowVs (fun j => ra (pl (ix R8) j)) i) (RV R8).toArray.size ?_ ?_ (RV R8).toArray.size 0 [] _ (Nat.zero_add _) ⟨rfl, rfl⟩
                · rintro i zs3 ledi3 hi ⟨hl3, hzz3⟩ v I oI C oC D2 m₂ h2 tk2 E' hP hC hx F11 N11 off hneq
                  subst hl3
                  obtain ⟨hiR, tq, hv⟩ := rv_at hP
                  subst hv
                  have hx9 := rlt_pl hlt8 hiR
                  have ev := row_get evs hx9
                  clear F10 N10
                  walk_at "MYSTEPS8"
                  refine comp_end0 (by assumption) (by assumption) off (.inr ⟨_, l2', rfl, _, rfl⟩) ⟨rfl, rowvs_snoc hzz3⟩
                · rintro zs3 ledi3 ⟨hl3, hzz3⟩ D6 h'6 tk6 F11 N11 ho3
                  subst hl3
                  rw [List.size_toArray, hRVl] at hzz3
                  clear F10 N10
                  dsimp only
                  walk_at "MYSTEPS8"
                  walk_at "MYSTEPS11"
                  have e3 : decide (((RV R8).length : Int) < 3) = true := decide_eq_true (by omega)
                  k_end
                  kc_bool
                  refine goodW_bool (by with_reducible assumption) (by with_reducible assumption) (raisesW_false ?_) ?_
                  · wrow_none_raised
                  · refine postW_of (by wrow_shape) (w_eq_bool (w_res rfl) w_lit) ?_
                    rw [e3]
                    rfl)
end Mine
end

set_option maxRecDepth 100000 in
set_option maxHeartbeats 8000000 in
theorem PySem.Challenge.cw_et5009_01_holds : PySem.Challenge.rw_et5009_01.Holds := by
  exact Mine.main_t
