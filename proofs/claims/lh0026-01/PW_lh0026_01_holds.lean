import PyProof.Rows.All
import Wide.All
import OpenK.AllK
import Wide.FinOn
import Lean
import PySem.Challenge.RW_lh0026_01
open PySem PySem.W PyProof.Rows
set_option Elab.async false
namespace Mine
set_option maxRecDepth 100000 in
set_option maxHeartbeats 8000000 in
set_option synthInstance.maxSize 1 in
open_top hd for PySem.Challenge.rw_lh0026_01
-- room for the frames, units of C
local macro_rules | `(tactic| k_room) => `(tactic| ((try simp only [depth_mark, depth_under_make, depth_under_kw, depth_in1, depth_deeper, depth_caller]); (try dsimp only [ktrTop]); omega))
local macro_rules | `(tactic| k_units) => `(tactic| ((try simp only [units_in1, units_deeper, Around.mark_units, units_caller]); (try dsimp only [ktrTop]); omega))
local macro_rules | `(tactic| k_mem) => `(tactic| first | exact List.mem_cons_self | (refine List.mem_cons_of_mem _ ?_; k_mem))
/-- an element of the field, as the ledger bears it -/
inductive FqIn (P : Params) (news : List (Addr × Obj)) (p : Int) : Value → Int → Prop where
  | mk {a d : Addr} {n : Int} {t u k1 k2 : Tok} :
      (a, instObj 199 d) ∈ news →
      (d, dictOf [⟨PyData.keyHash P (Str.ofString "field_modulus"), .str (Str.ofString "field_modulus") k1, .int p t⟩, ⟨PyData.keyHash P (Str.ofString "n"), .str (Str.ofString "n") k2, .int n u⟩] 2) ∈ news →
      0 ≤ n → n < p → p < 128 →
      FqIn P news p (.ref a) n

theorem FqIn.mono {P : Params} {news news' : List (Addr × Obj)} {p : Int} {v : Value} {n : Int} (h : FqIn P news p v n) (hs : ∀ q ∈ news, q ∈ news') : FqIn P news' p v n := by
  cases h with
  | mk a b c d e => exact .mk (hs _ a) (hs _ b) c d e

/-- the arguments of a call: an element and an int, two elements, one -/
inductive RelFI (P : Params) (p a b : Int) (news : List (Addr × Obj)) : List Value → Prop where
  | mk {v : Value} {t : Tok} : FqIn P news p v a → RelFI P p a b news [v, .int b t]
inductive RelFF (P : Params) (p a b : Int) (news : List (Addr × Obj)) : List Value → Prop where
  | mk {v v2 : Value} : FqIn P news p v a → FqIn P news p v2 b → RelFF P p a b news [v, v2]
inductive RelF (P : Params) (p a : Int) (news : List (Addr × Obj)) : List Value → Prop where
  | mk {v : Value} : FqIn P news p v a → RelF P p a news [v]
inductive RelII (a b : Int) : List Value → Prop where
  | mk {t u : Tok} : RelII a b [.int a t, .int b u]

theorem fm0 {x p : Int} (h : 0 < p) : 0 ≤ x.fmod p := Int.fmod_nonneg_of_pos _ h
theorem fm1 {x p : Int} (h : 0 < p) : x.fmod p < p := Int.fmod_lt_of_pos _ h

/-- the ledger has grown -/
def Up (news nx : List (Addr × Obj)) : Prop := ∃ tl, nx = tl ++ news ∧ ∀ q ∈ news, ∀ p ∈ tl, q.1 < p.1
theorem Up.refl {news : List (Addr × Obj)} : Up news news := ⟨[], rfl, fun _ _ _ h => nomatch h⟩
theorem Up.app {news nx tl : List (Addr × Obj)} (h : Up news nx) (k : ∀ q ∈ nx, ∀ p ∈ tl, q.1 < p.1) : Up news (tl ++ nx) := by
  obtain ⟨tl0, rfl, h⟩ := h
  refine ⟨tl ++ tl0, by rw [List.append_assoc], fun q hq p hp => ?_⟩
  rcases List.mem_append.mp hp with hp | hp
  · exact k q (List.mem_append.mpr (.inr hq)) p hp
  · exact h q hq p hp
theorem Up.cons {news nx : List (Addr × Obj)} {a : Addr} {o : Obj} (h : Up news nx) (k : AllLt a nx) : Up news ((a, o) :: nx) :=
  Up.app (tl := [(a, o)]) h fun q hq p hp => by rw [List.mem_singleton.mp hp]; exact ktn_ltOf k q hq
theorem up_all {a : Addr} {news : List (Addr × Obj)} (h : ∀ p ∈ news, p.1 < a) : AllLt a news := allLt_of h
theorem up_lt {a d : Addr} (h : d < a) : ∀ {l : List (Addr × Obj)}, AllLt d l → AllLt a l
  | [], _ => trivial
  | _ :: _, k => ⟨Nat.lt_trans k.1 h, up_lt h k.2⟩
theorem Up.cons2 {news nx : List (Addr × Obj)} {a d : Addr} {o o2 : Obj} (h : Up news nx) (k : AllLt d nx) (l : d < a) : Up news ((a, o) :: (d, o2) :: nx) :=
  Up.cons (Up.cons h k) ⟨l, up_lt l k⟩

/-- what a call of f gives back -/
def Ctr (w : World) (f : Addr) (sz : Nat) (Rel : List (Addr × Obj) → List Value → Prop) (Out : List (Addr × Obj) → Value → Prop) : Prop :=
  ∀ (mean : ExcName → Option Value) (mg mb : Str → Option Value) (dp un : Nat) (gd : Option (List Code)) (cn : Str) (cs : Scope) (a : Addr) (ccd : Value) (cl : List (Str × Addr)) (outer : List Env) (A₀ : Around) (base h₀ : Heap) (L : Addr) (m : Str → Option Value) (news : List (Addr × Obj)) (s : Shared) (vs : List Value)
    (Q E : Value → Shared → Prop),
    Below A₀ base outer h₀ → Fr h₀ L s.heap m → (hd.heap_39 w.params).In h₀ → News h₀ L s.heap news → Top hd.view_39 (looseW hd.view_39 []) mean mg mb h₀ → cs.kind = .function → Rel news vs → dp + sz < recursionLimit → un + 8 * sz < cLine →
    (∀ r nx h' tk', Fr h₀ L h' m → News h₀ L h' nx → Up news nx → Out nx r → Q r { s with heap := h', toks := tk' }) →
    wpAny (model PySem.Challenge.rw_lh0026_01.row.prog w) (ktrTop dp un gd cn cs L a ccd cl outer) (call (.ref f) vs) Q E s

theorem ctr_use {w : World} {f : Addr} {sz : Nat} {Rel : List (Addr × Obj) → List Value → Prop} {Out : List (Addr × Obj) → Value → Prop} {mean : ExcName → Option Value} {mg mb : Str → Option Value} {dp un : Nat} {gd : Option (List Code)} {cn : Str} {cs : Scope} {a : Addr} {ccd : Value} {cl : List (Str × Addr)} {outer : List Env} {A₀ : Around} {base h₀ : Heap} {L : Addr} {m : Str → Option Value} {news : List (Addr × Obj)} {s : Shared} {vs : List Value}
    {Q E : Value → Shared → Prop} (C : Ctr w f sz Rel Out) (B : Below A₀ base outer h₀) (F : Fr h₀ L s.heap m) (X : (hd.heap_39 w.params).In h₀) (N : News h₀ L s.heap news) (T : Top hd.view_39 (looseW hd.view_39 []) mean mg mb h₀) (hk : cs.kind = .function) (R : Rel news vs)
    (hd : dp + sz < recursionLimit) (hu : un + 8 * sz < cLine)
    (ret : ∀ r tl h' tk', Fr h₀ L h' m → News h₀ L h' (tl ++ news) → (∀ q ∈ news, ∀ p ∈ tl, q.1 < p.1) → Out (tl ++ news) r → Q r { s with heap := h', toks := tk' }) :
    wpAny (model PySem.Challenge.rw_lh0026_01.row.prog w) (ktrTop dp un gd cn cs L a ccd cl outer) (call (.ref f) vs) Q E s := by
  refine C _ _ _ _ _ _ _ _ _ _ _ _ _ _ _ _ _ _ _ _ _ _ B F X N T hk R hd hu fun r nx h' tk' F' N' U O => ?_
  obtain ⟨tl, rfl, o⟩ := U
  exact ret r tl h' tk' F' N' o O
theorem sub_app {a b tl : List (Addr × Obj)} (h : ∀ q ∈ a, q ∈ b) : ∀ q ∈ a, q ∈ tl ++ b := fun q hq => List.mem_append.mpr (.inr (h q hq))
theorem sub_cons {a b : List (Addr × Obj)} {x : Addr × Obj} (h : ∀ q ∈ a, q ∈ b) : ∀ q ∈ a, q ∈ x :: b := fun q hq => List.mem_cons_of_mem _ (h q hq)
-- the ledger's growth; an element of the field
local macro_rules | `(tactic| ktr_rel) => `(tactic| first
  | exact Up.refl
  | (refine Up.app ?_ (by assumption); ktr_rel)
  | (refine Up.cons2 ?_ (by first | assumption | exact allLt_of (by assumption) | ((try simp only [AllLt, and_true]); assumption)) (by assumption); ktr_rel)
  | (refine Up.cons ?_ (by first | assumption | exact allLt_of (by assumption) | ((try simp only [AllLt, and_true]); assumption)); ktr_rel)
  | (refine' FqIn.mk ?h1 ?h2 ?h3 ?h4 ?h5; (case h1 => k_mem); (case h2 => k_mem); (case h3 => first | assumption | exact fm0 (by omega)); (case h4 => first | assumption | exact fm1 (by omega)); (case h5 => assumption)))
local macro_rules | `(tactic| ktd_sub) => `(tactic| first | exact fun _ h => h | (refine sub_app ?_; ktd_sub) | (refine sub_cons ?_; ktd_sub))
-- part C3a
section
theorem givesAt_int_mul (x : Addr) (k : Int) (t : Tok) : GivesAt (fun s => ∃ o, s.heap.get? x = some o ∧ o.data = .plain) (Builtin.«int.__mul__» ⟨[.int k t, .ref x], []⟩) (.val .notImplemented) := by
  rintro prog w A R s ⟨o, ho, hd⟩ h
  unfold Builtin.«int.__mul__» Builtin.Int.intBinary
  have e1 : slotArgs "__mul__" 1 ⟨[Value.int k t, Value.ref x], []⟩ = pure (Value.int k t, [Value.ref x]) := by rfl
  rw [e1, pure_bind]
  dsimp only
  have e2 : Builtin.Int.intOfSelf (Value.int k t) = pure k := by rfl
  rw [e2, pure_bind]
  refine wpAny_bind ?_
  show wpAny _ _ (do match (← load x).data with | .prim (.int i _) => pure (some i) | _ => pure none) _ _ _
  refine wpAny_bind (wpAny_load ho ?_)
  rw [hd]
  refine wpAny_pure ?_
  dsimp only
  refine wpAny_bind (wpAny_rule (wpAny_pure ?_))
  exact h

theorem declines_int_mul {prog : Program} {w : World} {A : Around} {E : Value → Shared → Prop} {s : Shared} {x : Addr} {k : Int} {t : Tok} {o : Obj} {Q' : Option Value → Shared → Prop} (hx : s.heap.get? x = some o) (hd : o.data = .plain) (hq : Q' none s) :
    wpAny (model prog w) A (tryMethod (.int k t) (PySem.dunder "mul") (.ref x)) Q' E s := by
  refine (@wpAny_tryMethod_declines (model prog w) A E s (.int k t) (.ref x) "int" (PySem.dunder "mul") "int.__mul__" Q' (typeIs_int s k t) PySem.F.slot_int_mul) ?_
  have g := givesAt_int_mul x k t
  have a := PySem.F.args_int_mul_2 (.int k t) (.ref x)
  have p : (fun s : Shared => ∃ o, s.heap.get? x = some o ∧ o.data = .plain) s := ⟨o, hx, hd⟩
  have hq' : (fun v s' => v = Value.notImplemented ∧ Q' none s') Value.notImplemented s := ⟨rfl, hq⟩
  exact @call_givesAt prog w A E s _ "int" (PySem.dunder "mul") "int.__mul__" Builtin.«int.__mul__» (.int k t) [.ref x] (.val .notImplemented) (fun v s' => v = Value.notImplemented ∧ Q' none s') PySem.F.slot_int_mul (typeIs_int s k t) PySem.F.entry_int_mul a g p hq'

theorem rmul_int {prog : Program} {w : World} {A : Around} {E : Value → Shared → Prop} {s : Shared} {K : Frag} {x C L f f0 dx : Addr} {h₀ : Heap} {m : Str → Option Value} {od : Option Obj} {sl : Array (Option Value)} {k : Int} {t : Tok} {Q : Value → Shared → Prop}
    (F : Fr h₀ L s.heap m) (X₀ : K.In h₀) (I : InstAt s.heap x ⟨.ref C, some dx, .plain, sl⟩ C od) (hc : selfFirst K C = true)
    (hs0 : findIn K (.ref C) (PySem.dunder (Operator.info .Mult).2) = some (some (.ref f0))) (hs : findIn K (.ref C) (dunderR (Operator.info .Mult).2) = some (some (.ref f))) (hf : isFn K (.ref f) = true) (hsub : subIn K (.ref C) (.type "int") = some false)
    (h : wpAny (model prog w) A (call (.ref f) [.ref x, .int k t]) (PySem.W.CmpBack Q) E s) : wpAny (model prog w) A (binaryOp .Mult (.int k t) (.ref x)) Q E s := by
  have X := X₀.keeps F.keep
  obtain ⟨cd, rest, hcd, hm⟩ := ksp_first hc
  have hx : s.heap.get? x = some ⟨.ref C, some dx, .plain, sl⟩ := I.at_
  have one := ksp_try X I hs hf h
  rcases hi : Operator.info .Mult with ⟨sym, nm'⟩
  have hnm : nm' = "mul" := by cases hi; rfl
  subst hnm
  rw [hi] at hs0 hs one
  dsimp only at hs0 hs one
  have hdec : ∀ {Q' : Option Value → Shared → Prop}, Q' none s → wpAny (model prog w) A (tryMethod (.int k t) (PySem.dunder "mul") (.ref x)) Q' E s := fun {Q'} hq => declines_int_mul hx rfl hq
  obtain ⟨hh, g, d, tt, os⟩ := s
  have L1 : Looks (model prog w) hh (typeOf (.int k t)) (.type "int") := Looks.of_pure rfl
  have L2 : Looks (model prog w) hh (typeOf (.ref x)) (.ref C) := I.type
  have L3 : Looks (model prog w) hh (fillsNumberSlot (.type "int") "mul") true := Looks.of_pure PySem.F.fills_int_mul
  have L4 : Looks (model prog w) hh (fillsNumberSlot (.ref C) "mul") true := fills_K X hcd hm hs0
  have L5 : Looks (model prog w) hh (isSubtype (.ref C) (.type "int")) false := looks_subIn X hsub
  have L7 : Looks (model prog w) hh (numberSlotInPython (.type "int") "mul") false := Looks.of_pure rfl
  have hne : (Value.type "int" == Value.ref C) = false := Bool.eq_false_iff.mpr fun q => by cases beq_iff_eq.mp q
  simp only [binaryOp, hi]
  refine wpAny_holding (wpAny_bind ?_)
  unfold binaryOp1
  refine wpAny_bind (L1.at (wpAny_bind (L2.at (wpAny_bind (L3.at ?_)))))
  simp only [hne, Bool.false_eq_true, if_false]
  ksp_lk
  refine hdec ?_
  dsimp only
  ksp_lk
  refine wpAny_mono one (fun r s' hr' => ?_) fun _ _ e => e
  obtain ⟨v, rfl, hq⟩ := hr'
  ksp_lk
  exact hq

end
-- part C3p
section
/-- pow with a modulus, over ints -/
def pmod (x y m : Int) : Int := ((Builtin.powMod (x % m).toNat y.natAbs m.natAbs : Nat) : Int)

theorem gives_pow3 (x y m : Int) (t u v : Tok) (hy : 0 ≤ y) (hm : 1 < m) : Gives (Builtin.«int.__pow__» ⟨[.int x t, .int y u, .int m v], []⟩) (.int (pmod x y m)) := by
  refine Gives.of_wp fun M A E s Q h => ?_
  have hm0 : (m == 0) = false := by simp; omega
  have hn : ((m.natAbs : Int)) = m := by omega
  have hn1 : (m.natAbs == 1) = false := by simp; omega
  have hm2 : decide (m < 0) = false := by simp; omega
  show wpAny _ _ (if (m == 0) = true then _ else _) _ _ s
  rw [hm0]
  simp only [Bool.false_eq_true, if_false]
  rw [hn1, if_neg Bool.false_ne_true, if_neg (show ¬ y < 0 by omega), hm2, hn]
  simp only [Bool.false_and, Bool.false_eq_true, if_false]
  unfold retInt
  refine wpAny_bind (wpAny_mkInt ?_)
  exact wpAny_pure ⟨_, rfl, h⟩

theorem pow3_bind (x y m : Int) (t u v : Tok) : Builtin.Builtins.bindParams "pow" ["base", "exp", "mod"] 2 ⟨[.int x t, .int y u, .int m v], []⟩ = pure [some (.int x t), some (.int y u), some (.int m v)] := by kernel_rfl
theorem pow3_args {x y m : Int} {t u v : Tok} : argsOk "int.__pow__" ⟨[.int x t, .int y u, .int m v], []⟩ := by unfold argsOk; kernel_rfl
theorem wp_pow3b {prog : Program} {w : World} {A : Around} {E : Value → Shared → Prop} {s : Shared} {x y m : Int} {t u v : Tok} {Q : Value → Shared → Prop} (hy : 0 ≤ y) (hm : 1 < m) (h : Q (.int (pmod x y m) s.toks) { s with toks := s.toks + 1 }) :
    wpAny (model prog w) A (Builtin.«pow» ⟨[.int x t, .int y u, .int m v], []⟩) (fun fin s' => ∃ v, fin = .done (.ret v) ∧ Q v s') E s := by
  unfold Builtin.«pow»
  have e2 : typeOf (.int x t) = pure (.type "int") := rfl
  have e3 : typeLookup (.type "int") "__pow__" = pure (some (.builtin "int.__pow__")) := slot_int_pow.lookup
  rw [pow3_bind]
  simp only [pure_bind, Option.getD_some, e2, e3]
  refine wpAny_bind (wpAny_rule ?_)
  refine wpAny_bind ?_
  have q2 : (fun v s' => v = Value.int (pmod x y m) s.toks ∧ s' = { s with toks := s.toks + 1 }) (Value.int (pmod x y m) s.toks) { s with toks := s.toks + 1 } := ⟨rfl, rfl⟩
  refine @wpAny_callSpecial?_slot (model prog w) A _ s (.int x t) "int" (PySem.dunder "pow") "int.__pow__" [.int y u, .int m v] [] _ (typeIs_int s x t) slot_int_pow ?_
  refine wpAny_mono (@call_gives prog w A _ s "int" (PySem.dunder "pow") "int.__pow__" Builtin.«int.__pow__» (.int x t) [.int y u, .int m v] (.int (pmod x y m)) (fun v s' => v = Value.int (pmod x y m) s.toks ∧ s' = { s with toks := s.toks + 1 }) slot_int_pow (typeIs_int s x t) entry_int_pow pow3_args (gives_pow3 x y m t u v hy hm) q2) (fun r s' hr => ?_) fun _ _ z => z
  obtain ⟨rfl, rfl⟩ := hr
  refine wpAny_pure ?_
  exact ⟨_, rfl, h⟩

theorem pow3_ok {x y m : Int} {t u v : Tok} : argsOk "pow" ⟨[.int x t, .int y u, .int m v], []⟩ := by unfold argsOk; kernel_rfl
theorem pow3_entry : entryFor table "pow" = some Builtin.«pow» := by first | exact entryFor_of_fast (by kernel_rfl) | exact entryFor_of_tree (by kernel_rfl)
theorem pow3 {prog : Program} {w : World} {A : Around} {E : Value → Shared → Prop} {s : Shared} {x y m : Int} {t u v : Tok} {Q : Value → Shared → Prop} (hy : 0 ≤ y) (hm : 1 < m) (h : Q (.int (pmod x y m) s.toks) { s with toks := s.toks + 1 }) :
    wpAny (model prog w) A (call (.builtin "pow") [.int x t, .int y u, .int m v]) Q E s :=
  Calls.call_function_entry (id := "pow") (b := Builtin.«pow») (by decide +kernel) (by decide +kernel) pow3_entry pow3_ok (wp_pow3b hy hm h)

end
-- part C3q
section
/-- the primes of the law -/
def Pr (p : Int) : Prop := p = 7 ∨ p = 19 ∨ p = 31 ∨ p = 43 ∨ p = 67 ∨ p = 79 ∨ p = 103 ∨ p = 127
def prs : List Nat := [7, 19, 31, 43, 67, 79, 103, 127]
theorem Pr.nat {p : Int} (h : Pr p) : ∃ q : Nat, p = (q : Int) ∧ q ∈ prs := by
  rcases h with h | h | h | h | h | h | h | h <;> subst h <;> exact ⟨_, rfl, by decide⟩
theorem Pr.lo {p : Int} (h : Pr p) : 7 ≤ p := by unfold Pr at h; omega
theorem Pr.hi {p : Int} (h : Pr p) : p < 128 := by unfold Pr at h; omega

/-- the inverse, by a power -/
def invP (a p : Int) : Int := pmod a (p - 2) p

def gB (lm low hm high : Int) : Bool := decide (-128 < lm) && decide (lm < 128) && decide (-128 < hm) && decide (hm < 128) && decide (0 ≤ low) && decide (low < 128) && decide (0 ≤ high) && decide (high < 128)
def gI (p R : Int) : Nat → Int → Int → Int → Int → Bool
  | 0, lm, low, hm, high => gB lm low hm high && !decide (1 < low) && (lm.fmod p == R)
  | k + 1, lm, low, hm, high => gB lm low hm high &&
    (if 1 < low then decide (high - low * high.fdiv low < low) && gI p R k (hm - lm * high.fdiv low) (high - low * high.fdiv low) lm low else lm.fmod p == R)
def gInv (p R lm low hm high : Int) : Prop := (∃ k, gI p R k lm low hm high = true) ∧ -128 < lm ∧ lm < 128 ∧ -128 < hm ∧ hm < 128 ∧ 0 ≤ low ∧ low < 128 ∧ 0 ≤ high ∧ high < 128
theorem gB_of {lm low hm high : Int} (h : gB lm low hm high = true) : -128 < lm ∧ lm < 128 ∧ -128 < hm ∧ hm < 128 ∧ 0 ≤ low ∧ low < 128 ∧ 0 ≤ high ∧ high < 128 := by
  simp only [gB, Bool.and_eq_true, decide_eq_true_eq] at h
  omega
theorem gInv_of {p R lm low hm high : Int} {k : Nat} (h : gI p R k lm low hm high = true) : gInv p R lm low hm high := by
  refine ⟨⟨k, h⟩, ?_⟩
  cases k with
  | zero => simp only [gI, Bool.and_eq_true] at h; exact gB_of h.1.1
  | succ k => simp only [gI, Bool.and_eq_true] at h; exact gB_of h.1
theorem gInv.step {p R lm low hm high : Int} (h : gInv p R lm low hm high) (hl : 1 < low) :
    gInv p R (hm - lm * high.fdiv low) (high - low * high.fdiv low) lm low ∧ high - low * high.fdiv low < low := by
  obtain ⟨⟨k, h⟩, _⟩ := h
  cases k with
  | zero => simp [gI, hl] at h
  | succ k =>
    simp only [gI, Bool.and_eq_true, if_pos hl, decide_eq_true_eq] at h
    exact ⟨gInv_of h.2.2, h.2.1⟩
theorem gInv.done {p R lm low hm high : Int} (h : gInv p R lm low hm high) (hl : ¬ 1 < low) : lm.fmod p = R := by
  obtain ⟨⟨k, h⟩, _⟩ := h
  cases k with
  | zero => simp only [gI, Bool.and_eq_true, beq_iff_eq] at h; exact h.2
  | succ k => simp only [gI, Bool.and_eq_true, if_neg hl, beq_iff_eq] at h; exact h.2
theorem gI_all : (prs.all fun p => (List.range p).all fun a => (a == 0) || gI p (invP a p) 12 1 a 0 p) = true := by decide +kernel
theorem gInv_start {p a : Int} (hp : Pr p) (h0 : 0 ≤ a) (h1 : a < p) (hne : a ≠ 0) : gInv p (invP a p) 1 a 0 p := by
  obtain ⟨q, rfl, hq⟩ := hp.nat
  obtain ⟨b, rfl⟩ := Int.eq_ofNat_of_zero_le h0
  have h := List.all_eq_true.mp gI_all q hq
  have h := List.all_eq_true.mp h b (List.mem_range.mpr (by omega))
  simp only [Bool.or_eq_true, beq_iff_eq] at h
  rcases h with h | h
  · exact absurd h (by omega)
  · exact gInv_of h
theorem invP_zero {p : Int} (hp : Pr p) : invP 0 p = 0 := by
  rcases hp with h | h | h | h | h | h | h | h <;> subst h <;> decide +kernel
theorem fmod_small {a p : Int} (h0 : 0 ≤ a) (h1 : a < p) : a.fmod p = a := by
  rw [Int.fmod_eq_emod_of_nonneg _ (by omega)]; exact Int.emod_eq_of_lt h0 h1
theorem gInv_start2 {p a : Int} (hp : Pr p) (h0 : 0 ≤ a) (h1 : a < p) (hne : a.fmod p ≠ 0) : gInv p (invP a p) 1 ((a.fmod p).fmod p) 0 p := by
  rw [fmod_small h0 h1] at hne ⊢
  rw [fmod_small h0 h1]
  exact gInv_start hp h0 h1 hne
theorem gInv.all {p R lm low hm high : Int} (h : gInv p R lm low hm high) : gInv p R lm low hm high ∧ -128 < lm ∧ lm < 128 ∧ -128 < hm ∧ hm < 128 ∧ 0 ≤ low ∧ low < 128 ∧ 0 ≤ high ∧ high < 128 := ⟨h, h.2⟩
theorem invOut0 {p a : Int} {tk : Tok} (hp : Pr p) (h0 : 0 ≤ a) (h1 : a < p) (h : a.fmod p = 0) : 0 ≤ invP a p ∧ invP a p < p ∧ ∃ t, Value.int 0 tk = Value.int (invP a p) t := by
  rw [fmod_small h0 h1] at h
  subst h
  have := hp.lo
  rw [invP_zero hp]
  exact ⟨by omega, by omega, tk, rfl⟩
theorem invOut1 {p R lm low hm high : Int} {tk : Tok} (hp : Pr p) (h : gInv p R lm low hm high) (hl : ¬ 1 < low) : 0 ≤ R ∧ R < p ∧ ∃ t, Value.int (lm.fmod p) tk = Value.int R t := by
  have := hp.lo
  have e := h.done hl
  exact ⟨e ▸ fm0 (by omega), e ▸ fm1 (by omega), tk, by rw [e]⟩
theorem foldl_lt {α : Type} {f : Nat → α → Nat} {m : Nat} (h : ∀ a b, f a b < m) : ∀ (l : List α) (a : Nat), a < m → l.foldl f a < m
  | [], _, ha => ha
  | x :: l, a, _ => foldl_lt h l (f a x) (h a x)
theorem powMod_lt {b e m : Nat} (h : 0 < m) : Builtin.powMod b e m < m := by
  unfold Builtin.powMod
  refine foldl_lt (fun a i => ?_) _ _ (Nat.mod_lt _ h)
  split <;> exact Nat.mod_lt _ h
theorem pmod_lo (x y m : Int) : 0 ≤ pmod x y m := Int.natCast_nonneg _
theorem pmod_hi {x y m : Int} (h : 0 < m) : pmod x y m < m := by
  unfold pmod
  have := @powMod_lt (x % m).toNat y.natAbs m.natAbs (by omega)
  omega
theorem pow3' {prog : Program} {w : World} {A : Around} {E : Value → Shared → Prop} {s : Shared} {x y m : Int} {t u v : Tok} {Q : Value → Shared → Prop} (hy : 0 ≤ y) (hm : 1 < m) (h : 0 ≤ pmod x y m → pmod x y m < m → Q (.int (pmod x y m) s.toks) { s with toks := s.toks + 1 }) :
    wpAny (model prog w) A (call (.builtin "pow") [.int x t, .int y u, .int m v]) Q E s := pow3 hy hm (h (pmod_lo x y m) (pmod_hi (by omega)))

end
-- part C6p
section
/-- a point: none, or a pair of elements -/
inductive PtIn (P : Params) (news : List (Addr × Obj)) (p : Int) : Value → Option (Int × Int) → Prop where
  | none : PtIn P news p .none none
  | some {c : Addr} {x y : Int} {vx vy : Value} {n : Nat} : (c, ({ cls := .type "tuple", data := .seq #[vx, vy] n } : Obj)) ∈ news → FqIn P news p vx x → FqIn P news p vy y → PtIn P news p (.ref c) (some (x, y))
theorem PtIn.mono {P : Params} {news news' : List (Addr × Obj)} {p : Int} {v : Value} {n : Option (Int × Int)} (h : PtIn P news p v n) (hs : ∀ q ∈ news, q ∈ news') : PtIn P news' p v n := by
  cases h with
  | none => exact .none
  | some a b c => exact .some (hs _ a) (b.mono hs) (c.mono hs)
inductive RelP (P : Params) (p : Int) (a : Option (Int × Int)) (news : List (Addr × Obj)) : List Value → Prop where
  | mk {v : Value} : PtIn P news p v a → RelP P p a news [v]
inductive RelPP (P : Params) (p : Int) (a b : Option (Int × Int)) (news : List (Addr × Obj)) : List Value → Prop where
  | mk {v v2 : Value} : PtIn P news p v a → PtIn P news p v2 b → RelPP P p a b news [v, v2]
inductive RelPI (P : Params) (p : Int) (a : Option (Int × Int)) (n : Int) (news : List (Addr × Obj)) : List Value → Prop where
  | mk {v : Value} {t : Tok} : PtIn P news p v a → RelPI P p a n news [v, .int n t]

/-- what double makes -/
def dblP (p : Int) : Option (Int × Int) → Option (Int × Int)
  | none => none
  | some (x, y) =>
    let m := ((((x * x).fmod p) * 3).fmod p * invP ((y * 2).fmod p) p).fmod p
    let nx := ((m * m).fmod p - (x * 2).fmod p).fmod p
    some (nx, ((((-m).fmod p * nx).fmod p + (m * x).fmod p).fmod p - y).fmod p)

end
-- part C7p
section
theorem inv_all : (prs.all fun p => (List.range p).all fun a => (a == 0) || (((a : Int) * invP a p).fmod p == 1)) = true := by decide +kernel
theorem inv_mul {p a : Int} (hp : Pr p) (h0 : 0 ≤ a) (h1 : a < p) (hne : a ≠ 0) : (a * invP a p).fmod p = 1 := by
  obtain ⟨q, rfl, hq⟩ := hp.nat
  obtain ⟨b, rfl⟩ := Int.eq_ofNat_of_zero_le h0
  have h := List.all_eq_true.mp inv_all q hq
  have h := List.all_eq_true.mp h b (List.mem_range.mpr (by omega))
  simp only [Bool.or_eq_true, beq_iff_eq] at h
  rcases h with h | h
  · exact absurd h (by omega)
  · exact h
theorem fmod_k (a p : Int) : a.fmod p = a - p * a.fdiv p := by have := Int.mul_fdiv_add_fmod a p; omega
theorem fmod_ne {p x y : Int} (hx0 : 0 ≤ x) (hx : x < p) (hy0 : 0 ≤ y) (hy : y < p) (h : x ≠ y) : (x - y).fmod p ≠ 0 := by
  intro e
  rw [fmod_k] at e
  rcases Int.lt_trichotomy ((x - y).fdiv p) 0 with k | k | k
  · have : p * (x - y).fdiv p ≤ p * (-1) := Int.mul_le_mul_of_nonneg_left (by omega) (by omega)
    omega
  · rw [k] at e; omega
  · have : p * 1 ≤ p * (x - y).fdiv p := Int.mul_le_mul_of_nonneg_left (by omega) (by omega)
    omega
theorem fmod_eq_of {a b p K : Int} (h : a - b = p * K) : a.fmod p = b.fmod p := by
  have : a = b + p * K := by omega
  rw [this, Int.add_mul_fmod_self_left]
/-- both points lie on the line -/
theorem add_same {p x1 y1 x2 y2 A : Int} (hp : Pr p) (h1 : 0 ≤ x1) (h2 : x1 < p) (h3 : 0 ≤ x2) (h4 : x2 < p) (hne : x2 ≠ x1) :
    ((A + (((y2 - y1).fmod p * invP ((x2 - x1).fmod p) p).fmod p * x1).fmod p).fmod p - y1).fmod p =
      ((A + (((y2 - y1).fmod p * invP ((x2 - x1).fmod p) p).fmod p * x2).fmod p).fmod p - y2).fmod p := by
  have hf := fmod_ne h3 h4 h1 h2 hne
  have hlo := hp.lo
  have hm := inv_mul hp (fm0 (by omega)) (fm1 (by omega)) hf
  generalize hi : invP ((x2 - x1).fmod p) p = i at hm ⊢
  rw [fmod_k (x2 - x1) p] at hm
  rw [fmod_k (_ * i) p] at hm
  rw [fmod_k (_ * i) p, fmod_k (y2 - y1) p, fmod_k (A + _) p, fmod_k (_ * x1) p, fmod_k (A + _) p, fmod_k (_ * x2) p]
  generalize (y2 - y1).fdiv p = k2 at *
  generalize (x2 - x1).fdiv p = k3 at *
  generalize ((x2 - x1 - p * k3) * i).fdiv p = k4 at *
  generalize ((y2 - y1 - p * k2) * i).fdiv p = k1 at *
  generalize (((y2 - y1 - p * k2) * i - p * k1) * x1).fdiv p = a1 at *
  generalize (((y2 - y1 - p * k2) * i - p * k1) * x2).fdiv p = b1 at *
  generalize (A + (((y2 - y1 - p * k2) * i - p * k1) * x1 - p * a1)).fdiv p = a2 at *
  generalize (A + (((y2 - y1 - p * k2) * i - p * k1) * x2 - p * b1)).fdiv p = b2 at *
  refine fmod_eq_of (K := -(-k2 + (y2 - y1 - p * k2) * k4 + (y2 - y1 - p * k2) * i * k3 - k1 * (x2 - x1)) - (a1 + a2 - b1 - b2)) ?_
  grind

/-- what add makes -/
def addP (p : Int) : Option (Int × Int) → Option (Int × Int) → Option (Int × Int)
  | none, q => q
  | some a, none => some a
  | some (x1, y1), some (x2, y2) =>
    if x2 = x1 then (if y2 = y1 then dblP p (some (x1, y1)) else none)
    else
      let m := ((y2 - y1).fmod p * invP ((x2 - x1).fmod p) p).fmod p
      let nx := (((m * m).fmod p - x1).fmod p - x2).fmod p
      some (nx, ((((-m).fmod p * nx).fmod p + (m * x1).fmod p).fmod p - y1).fmod p)
theorem addP_dbl {p x1 y1 x2 y2 : Int} (h1 : x2 = x1) (h2 : y2 = y1) : addP p (some (x1, y1)) (some (x2, y2)) = dblP p (some (x1, y1)) := by
  simp only [addP, if_pos h1, if_pos h2]
theorem addP_nul {p x1 y1 x2 y2 : Int} (h1 : x2 = x1) (h2 : y2 ≠ y1) : addP p (some (x1, y1)) (some (x2, y2)) = none := by
  simp only [addP, if_pos h1, if_neg h2]
theorem addP_gen {p x1 y1 x2 y2 : Int} (h1 : x2 ≠ x1) : addP p (some (x1, y1)) (some (x2, y2)) =
    some (((((((y2 - y1).fmod p * invP ((x2 - x1).fmod p) p).fmod p * ((y2 - y1).fmod p * invP ((x2 - x1).fmod p) p).fmod p).fmod p - x1).fmod p - x2).fmod p),
      ((((-((y2 - y1).fmod p * invP ((x2 - x1).fmod p) p).fmod p).fmod p * ((((((y2 - y1).fmod p * invP ((x2 - x1).fmod p) p).fmod p * ((y2 - y1).fmod p * invP ((x2 - x1).fmod p) p).fmod p).fmod p - x1).fmod p - x2).fmod p)).fmod p + (((y2 - y1).fmod p * invP ((x2 - x1).fmod p) p).fmod p * x1).fmod p).fmod p - y1).fmod p) := by
  simp only [addP, if_neg h1]

end
-- part C8p
section
/-- what multiply makes, for counts below 2 ^ k -/
def mulN (p : Int) : Nat → Option (Int × Int) → Int → Option (Int × Int)
  | 0, _, _ => none
  | k + 1, a, n =>
    if n = 0 then none else if n = 1 then a
    else if n.fmod 2 = 0 then mulN p k (dblP p a) (n.fdiv 2) else addP p (mulN p k (dblP p a) (n.fdiv 2)) a
theorem half_lo {n : Int} (h : 0 ≤ n) : 0 ≤ n.fdiv 2 := Int.fdiv_nonneg h (by omega)
theorem half_hi {n : Int} {k : Nat} (h : n < 2 ^ (k + 1)) : n.fdiv 2 < 2 ^ k := by
  rw [Int.fdiv_eq_ediv_of_nonneg _ (by omega)]
  rw [Int.pow_succ] at h
  omega
theorem mulN_0 {p n : Int} {k : Nat} {a : Option (Int × Int)} (h : n = 0) : mulN p (k + 1) a n = none := by simp only [mulN, if_pos h]
theorem mulN_1 {p n : Int} {k : Nat} {a : Option (Int × Int)} (h : n = 1) : mulN p (k + 1) a n = a := by subst h; simp [mulN]
theorem mulN_e {p n : Int} {k : Nat} {a : Option (Int × Int)} (h0 : n ≠ 0) (h1 : n ≠ 1) (h2 : n.fmod 2 = 0) : mulN p (k + 1) a n = mulN p k (dblP p a) (n.fdiv 2) := by simp only [mulN, if_neg h0, if_neg h1, if_pos h2]
theorem mulN_o {p n : Int} {k : Nat} {a : Option (Int × Int)} (h0 : n ≠ 0) (h1 : n ≠ 1) (h2 : n.fmod 2 ≠ 0) : mulN p (k + 1) a n = addP p (mulN p k (dblP p a) (n.fdiv 2)) a := by simp only [mulN, if_neg h0, if_neg h1, if_neg h2]
def MulOk (w : World) (p : Int) (k : Nat) : Prop := ∀ (a : Option (Int × Int)) (n : Int), 0 ≤ n → n < 2 ^ k → Ctr w 49 (90 + 4 * k) (fun news vs => RelPI w.params p a n news vs) (fun news r => PtIn w.params news p r (mulN p k a n))
theorem MulOk.use {w : World} {p : Int} {k : Nat} {a : Option (Int × Int)} {n : Int} (h : MulOk w p k) (h0 : 0 ≤ n) (h1 : n < 2 ^ k) : Ctr w 49 (90 + 4 * k) (fun news vs => RelPI w.params p a n news vs) (fun news r => PtIn w.params news p r (mulN p k a n)) := h a n h0 h1

end
-- part C9p
section
/-- a point of ints -/
inductive IptIn (news : List (Addr × Obj)) (p : Int) : Value → Option (Int × Int) → Prop where
  | none : IptIn news p .none none
  | some {c : Addr} {x y : Int} {t u : Tok} {n : Nat} : (c, ({ cls := .type "tuple", data := .seq #[.int x t, .int y u] n } : Obj)) ∈ news → 0 ≤ x → x < p → 0 ≤ y → y < p → IptIn news p (.ref c) (some (x, y))
theorem IptIn.mono {news news' : List (Addr × Obj)} {p : Int} {v : Value} {n : Option (Int × Int)} (h : IptIn news p v n) (hs : ∀ q ∈ news, q ∈ news') : IptIn news' p v n := by
  cases h with
  | none => exact .none
  | some a b c d e => exact .some (hs _ a) b c d e
inductive RelS (p : Int) (a b : Option (Int × Int)) (news : List (Addr × Obj)) : List Value → Prop where
  | mk {v v2 : Value} {t : Tok} : IptIn news p v a → IptIn news p v2 b → RelS p a b news [.int p t, v, v2]
inductive RelM (p : Int) (a : Option (Int × Int)) (news : List (Addr × Obj)) : List Value → Prop where
  | mk {v : Value} {t : Tok} : IptIn news p v a → RelM p a news [.int p t, v]
inductive RelIII (a b c : Int) : List Value → Prop where
  | mk {t u v : Tok} : RelIII a b c [.int a t, .int b u, .int c v]

/-- what the law's own sum makes -/
def sumP (p : Int) : Option (Int × Int) → Option (Int × Int) → Option (Int × Int)
  | none, q => q
  | some a, none => some a
  | some (x1, y1), some (x2, y2) =>
    if x1 = x2 ∧ (y1 + y2).fmod p = 0 then none
    else
      let m := if x1 = x2 ∧ y1 = y2 then 3 * x1 * x1 * pmod ((2 * y1).fmod p) (p - 2) p else (y2 - y1) * pmod ((x2 - x1).fmod p) (p - 2) p
      let x := (m * m - x1 - x2).fmod p
      some (x, (m * (x1 - x) - y1).fmod p)
theorem sumP_nul {p x1 y1 x2 y2 : Int} (h1 : x1 = x2) (h2 : (y1 + y2).fmod p = 0) : sumP p (some (x1, y1)) (some (x2, y2)) = none := by
  simp only [sumP]; rw [if_pos ⟨h1, h2⟩]
theorem sumP_dbl {p x1 y1 x2 y2 : Int} (hn : ¬ (x1 = x2 ∧ (y1 + y2).fmod p = 0)) (h : (x1 == x2 && y1 == y2) = true) : sumP p (some (x1, y1)) (some (x2, y2)) =
    some (((3 * x1 * x1 * pmod ((2 * y1).fmod p) (p - 2) p) * (3 * x1 * x1 * pmod ((2 * y1).fmod p) (p - 2) p) - x1 - x2).fmod p,
      ((3 * x1 * x1 * pmod ((2 * y1).fmod p) (p - 2) p) * (x1 - ((3 * x1 * x1 * pmod ((2 * y1).fmod p) (p - 2) p) * (3 * x1 * x1 * pmod ((2 * y1).fmod p) (p - 2) p) - x1 - x2).fmod p) - y1).fmod p) := by
  simp only [Bool.and_eq_true, beq_iff_eq] at h
  simp only [sumP]; rw [if_neg hn, if_pos h]
theorem sumP_gen {p x1 y1 x2 y2 : Int} (hn : ¬ (x1 = x2 ∧ (y1 + y2).fmod p = 0)) (h : (x1 == x2 && y1 == y2) = false) : sumP p (some (x1, y1)) (some (x2, y2)) =
    some ((((y2 - y1) * pmod ((x2 - x1).fmod p) (p - 2) p) * ((y2 - y1) * pmod ((x2 - x1).fmod p) (p - 2) p) - x1 - x2).fmod p,
      (((y2 - y1) * pmod ((x2 - x1).fmod p) (p - 2) p) * (x1 - (((y2 - y1) * pmod ((x2 - x1).fmod p) (p - 2) p) * ((y2 - y1) * pmod ((x2 - x1).fmod p) (p - 2) p) - x1 - x2).fmod p) - y1).fmod p) := by
  have h' : ¬ (x1 = x2 ∧ y1 = y2) := by
    rintro ⟨rfl, rfl⟩
    simp at h
  simp only [sumP]; rw [if_neg hn, if_neg h']
def madeP (p : Int) : Option (Int × Int) → Option (Int × Int)
  | none => none
  | some (x, y) => some (x.fmod p, y.fmod p)

end
-- part C11p
section
/-- b is refused -/
def badB (p b : Int) : Bool := b == 0 || pmod (p - b) ((p - 1).fdiv 3) p == 1
def runB (p : Int) : Nat → Int → Nat
  | 0, _ => 0
  | k + 1, b => if badB p b then runB p k ((b + 1).fmod p) + 1 else 0
theorem run_all : (prs.all fun p => (List.range p).all fun b => !badB p b || decide (runB p 20 (((b : Int) + 1).fmod p) < runB p 20 b)) = true := by decide +kernel
theorem run_lt {p b : Int} (hp : Pr p) (h0 : 0 ≤ b) (h1 : b < p) (h : b = 0 ∨ pmod (p - b) ((p - 1).fdiv 3) p = 1) : runB p 20 ((b + 1).fmod p) < runB p 20 b := by
  obtain ⟨q, rfl, hq⟩ := hp.nat
  obtain ⟨c, rfl⟩ := Int.eq_ofNat_of_zero_le h0
  have k := List.all_eq_true.mp run_all q hq
  have k := List.all_eq_true.mp k c (List.mem_range.mpr (by omega))
  have hb : badB q c = true := by
    simp only [badB, Bool.or_eq_true, beq_iff_eq]
    exact h
  simpa [hb] using k
def GoodB (p b : Int) : Prop := 0 < b ∧ b < p ∧ pmod (p - b) ((p - 1).fdiv 3) p ≠ 1
theorem cube_all : (prs.all fun p => (List.range p).all fun x => (x == 0) || pmod (((x : Int) * x * x).fmod p) (((p : Int) - 1).fdiv 3) p == 1) = true := by decide +kernel
theorem no_root {p b x : Int} (hp : Pr p) (hb : GoodB p b) (h0 : 0 ≤ x) (h1 : x < p) : (x * x * x + b).fmod p ≠ 0 := by
  intro e
  obtain ⟨b0, b1, b2⟩ := hb
  have hlo := hp.lo
  have e1 : (x * x * x).fmod p = p - b := by
    have e2 : x * x * x = (p - b) + p * ((x * x * x + b).fdiv p - 1) := by
      rw [fmod_k] at e
      grind
    rw [e2, Int.add_mul_fmod_self_left]
    exact fmod_small (by omega) (by omega)
  obtain ⟨q, rfl, hq⟩ := hp.nat
  obtain ⟨c, rfl⟩ := Int.eq_ofNat_of_zero_le h0
  have k := List.all_eq_true.mp cube_all q hq
  have k := List.all_eq_true.mp k c (List.mem_range.mpr (by omega))
  simp only [Bool.or_eq_true, beq_iff_eq] at k
  rcases k with k | k
  · subst k
    simp at e1
    omega
  · rw [e1] at k
    exact b2 k
/-- on the curve -/
def OnC (p b : Int) : Option (Int × Int) → Prop
  | none => True
  | some (x, y) => 0 < y ∧ (y * y).fmod p = (x * x * x + b).fmod p
theorem y_pos {p b x y : Int} (hp : Pr p) (hb : GoodB p b) (h0 : 0 ≤ x) (h1 : x < p) (hy : 0 ≤ y) (h : (y * y).fmod p = (x * x * x + b).fmod p) : 0 < y := by
  have := no_root hp hb h0 h1
  rcases Int.lt_or_eq_of_le hy with k | k
  · exact k
  · subst k
    simp at h
    exact absurd h.symm this
theorem sq_neg (p y : Int) : ((p - y) * (p - y)).fmod p = (y * y).fmod p := fmod_eq_of (K := p - 2 * y) (by grind)
theorem GoodB.lo {p b : Int} (h : GoodB p b) : 0 < b := h.1
theorem GoodB.hi {p b : Int} (h : GoodB p b) : b < p := h.2.1

end
-- part C12p
section
section
variable {prog : Program} {w : World} {A : Around} {E : Value → Shared → Prop} {s : Shared} {env : Env} {h₀ : Heap} {x : Str} {body : List Stmt} {Q : Flow → Shared → Prop}
/-- a search over a range that keeps nothing -/
theorem rng_search {r : Addr} {a₀ b₀ : Int} {t₀ u₀ v₀ : Tok} {n : Nat} {m₀ : Str → Option Value} {news : List (Addr × Obj)} (stored : List Str)
    (hh : A.handled = none) (hr : IsRange s.heap r a₀ b₀ 1 t₀ u₀ v₀) (hsmall : Builtin.Range.small a₀ b₀ 1 = true) (hn : Builtin.Range.rangeSize a₀ b₀ 1 = (n : Int)) (F : Fr h₀ env.locals s.heap m₀) (N : News h₀ env.locals s.heap news)
    (turn : ∀ k t (u : Str → Option Value) h tk own, a₀ ≤ k → k < a₀ + (n : Int) → TbOff own news → Fr h₀ env.locals h (fun z => if z = x then some (.int k t) else if stored.contains z then u z else m₀ z) → News h₀ env.locals h (news ++ own) →
      wpAny (model prog w) A (execs body env) (TbPost h₀ env.locals (fun m nx => nx = news ∧ ∀ z, z ≠ x → stored.contains z = false → m z = m₀ z) own { s with heap := h, toks := tk } Q) E { s with heap := h, toks := tk })
    (done : ∀ (u : Str → Option Value) h tk, Fr h₀ env.locals h (fun z => if z = x then u z else if stored.contains z then u z else m₀ z) → News h₀ env.locals h news → Q .next { s with heap := h, toks := tk }) :
    wpAny (model prog w) A (pyIter (.ref r)) (fun it s₂ => LoopAtV prog w A h₀ env x body Q E it s₂) E s := by
  refine tbr_invG (fun _ m nx => nx = news ∧ ∀ z, z ≠ x → stored.contains z = false → m z = m₀ z) hh hr hsmall hn F N ⟨rfl, fun _ _ _ => rfl⟩ ?_ ?_
  · rintro i k t m₁ nx h tk own hk hoff ⟨rfl, hm⟩ F₁ N₁
    have hb := mem_rangeKs (List.mem_of_getElem? hk)
    refine turn k t m₁ h tk own hb.1 hb.2 hoff ?_ N₁
    have e : (fun z => if z = x then some (Value.int k t) else m₁ z) = fun z => if z = x then some (Value.int k t) else if stored.contains z then m₁ z else m₀ z := by
      funext z
      by_cases h1 : z = x
      · simp [h1]
      · simp only [if_neg h1]
        cases h3 : stored.contains z with
        | true => simp
        | false => simp only [Bool.false_eq_true, if_false]; exact hm z h1 h3
    rw [← e]
    exact F₁
  · rintro m₁ nx h tk ⟨rfl, hm⟩ F₁ N₁
    refine done m₁ h tk ?_ N₁
    have e : m₁ = fun z => if z = x then m₁ z else if stored.contains z then m₁ z else m₀ z := by
      funext z
      by_cases h1 : z = x
      · simp [h1]
      · simp only [if_neg h1]
        cases h3 : stored.contains z with
        | true => simp
        | false => simp only [Bool.false_eq_true, if_false]; exact hm z h1 h3
    rw [← e]
    exact F₁
end
theorem srch_end {h₀ h' : Heap} {L : Addr} {x : Str} {stored : List Str} {m₀ m' : Str → Option Value} {news news' own : List (Addr × Obj)} {s : Shared} {tk : Nat}
    (F : Fr h₀ L h' m') (N : News h₀ L h' news') (hs : ∀ p ∈ news ++ own, p ∈ news') (hoff : TbOff own news) (hm : ∀ z, z ≠ x → stored.contains z = false → m' z = m₀ z) :
    TbEnd h₀ L (fun m nx => nx = news ∧ ∀ z, z ≠ x → stored.contains z = false → m z = m₀ z) own s { s with heap := h', toks := tk } :=
  ⟨h', tk, m', news', news, rfl, F, N, fun p hp => hs p (List.mem_append.mpr (.inl hp)), fun p hp => hs p (List.mem_append.mpr (.inr hp)), hoff, rfl, hm⟩
theorem drop2 {h₀ h : Heap} {L : Addr} {q : Addr × Obj} {news own : List (Addr × Obj)} (N : News h₀ L h (q :: (news ++ own))) : News h₀ L h (q :: news) := fun p hp => N p (by
  rcases List.mem_cons.mp hp with rfl | hp
  · exact List.mem_cons_self
  · exact List.mem_cons_of_mem _ (List.mem_append.mpr (.inl hp)))
theorem up_drop {a : Addr} {o : Obj} {news own : List (Addr × Obj)} (h : ∀ p ∈ news ++ own, p.1 < a) : Up news ((a, o) :: news) := Up.cons Up.refl (allLt_of fun p hp => h p (List.mem_append.mpr (.inl hp)))

end
-- part L2p
section
/-- a point of ints off the addresses O -/
inductive IptO (O : List Addr) (news : List (Addr × Obj)) (p : Int) : Value → Option (Int × Int) → Prop where
  | none : IptO O news p .none none
  | some {c : Addr} {x y : Int} {t u : Tok} {n : Nat} : (c, ({ cls := .type "tuple", data := .seq #[.int x t, .int y u] n } : Obj)) ∈ news → c ∉ O → 0 ≤ x → x < p → 0 ≤ y → y < p → IptO O news p (.ref c) (some (x, y))
theorem IptO.mono {O : List Addr} {news news' : List (Addr × Obj)} {p : Int} {v : Value} {n : Option (Int × Int)} (h : IptO O news p v n) (hs : ∀ q ∈ news, q ∈ news') : IptO O news' p v n := by
  cases h with
  | none => exact .none
  | some a k b c d e => exact .some (hs _ a) k b c d e
theorem IptIn.off {news own : List (Addr × Obj)} {p : Int} {v : Value} {n : Option (Int × Int)} (h : IptIn news p v n) (ho : ∀ q ∈ own, ∀ r ∈ news, q.1 ≠ r.1) : IptO (own.map (·.1)) news p v n := by
  cases h with
  | none => exact .none
  | some a b c d e =>
    refine .some a (fun hm => ?_) b c d e
    obtain ⟨q, hq, e⟩ := List.mem_map.mp hm
    exact ho q hq _ a e
inductive RelSO (O : List Addr) (p : Int) (a b : Option (Int × Int)) (news : List (Addr × Obj)) : List Value → Prop where
  | mk {v v2 : Value} {t : Tok} : IptO O news p v a → IptO O news p v2 b → (∀ o ∈ O, ∃ q ∈ news, q.1 = o) → RelSO O p a b news [.int p t, v, v2]
theorem off_new {O : List Addr} {news : List (Addr × Obj)} {d : Addr} (h : ∀ o ∈ O, ∃ q ∈ news, q.1 = o) (k : ∀ q ∈ news, q.1 < d) : d ∉ O := fun hm => by
  obtain ⟨q, hq, e⟩ := h d hm
  exact Nat.lt_irrefl _ (e ▸ k q hq)

def SumsOk (nx : List (Addr × Obj)) (p : Int) (S : Nat → Option (Int × Int)) (vs : List Value) (i : Nat) : Prop := vs.length = i + 1 ∧ ∀ j, j ≤ i → ∃ v, vs[j]? = some v ∧ IptIn nx p v (S j)
theorem SumsOk.mono {nx nx' : List (Addr × Obj)} {p : Int} {S : Nat → Option (Int × Int)} {vs : List Value} {i : Nat} (h : SumsOk nx p S vs i) (hs : ∀ q ∈ nx, q ∈ nx') : SumsOk nx' p S vs i :=
  ⟨h.1, fun j hj => let ⟨v, e, k⟩ := h.2 j hj; ⟨v, e, k.mono hs⟩⟩
def SumsJ (x : Str) (l : Addr) (p : Int) (S : Nat → Option (Int × Int)) (m₀ : Str → Option Value) (rest : List (Addr × Obj)) (i : Nat) (m : Str → Option Value) (nx : List (Addr × Obj)) : Prop :=
  ∃ vs cnt tl, nx = (l, listOf vs.toArray cnt) :: (tl ++ rest) ∧ (∀ q ∈ tl ++ rest, q.1 ≠ l) ∧ SumsOk (tl ++ rest) p S vs i ∧ ∀ z, z ≠ x → m z = m₀ z

section
variable {prog : Program} {w : World} {A : Around} {E : Value → Shared → Prop} {s : Shared} {env : Env} {h₀ : Heap} {x : Str} {body : List Stmt} {Q : Flow → Shared → Prop}
theorem fr_but {m₁ m₀ : Str → Option Value} {h : Heap} (hm : ∀ z, z ≠ x → m₁ z = m₀ z) (F : Fr h₀ env.locals h m₁) : Fr h₀ env.locals h (fun z => if z = x then m₁ z else m₀ z) := by
  have e : m₁ = fun z => if z = x then m₁ z else m₀ z := by
    funext z
    by_cases h1 : z = x
    · simp [h1]
    · simp only [if_neg h1]; exact hm z h1
  rw [← e]; exact F
theorem rng_sums {r l : Addr} {p : Int} {b₀ : Int} {t₀ u₀ v₀ : Tok} {n cnt : Nat} {m₀ : Str → Option Value} {rest : List (Addr × Obj)} (S : Nat → Option (Int × Int))
    (hh : A.handled = none) (hr : IsRange s.heap r 0 b₀ 1 t₀ u₀ v₀) (hsmall : Builtin.Range.small 0 b₀ 1 = true) (hn : Builtin.Range.rangeSize 0 b₀ 1 = (n : Int)) (F : Fr h₀ env.locals s.heap m₀)
    (N : News h₀ env.locals s.heap ((l, listOf [Value.none].toArray cnt) :: rest)) (hrest : AllLt l rest) (hS : S 0 = none)
    (turn : ∀ i vs cnt tl k t h tk own, i < n → (∀ q ∈ tl ++ rest, q.1 ≠ l) → (∀ q ∈ own, q.1 ≠ l) → (∀ q ∈ own, ∀ r ∈ tl ++ rest, q.1 ≠ r.1) → SumsOk (tl ++ rest) p S vs i →
      Fr h₀ env.locals h (fun z => if z = x then some (.int k t) else m₀ z) → News h₀ env.locals h ((l, listOf vs.toArray cnt) :: ((tl ++ rest) ++ own)) →
      wpAny (model prog w) A (execs body env) (TbPost h₀ env.locals (SumsJ x l p S m₀ rest (i + 1)) own { s with heap := h, toks := tk } Q) E { s with heap := h, toks := tk })
    (done : ∀ (u : Str → Option Value) vs cnt tl h tk, (∀ q ∈ tl ++ rest, q.1 ≠ l) → SumsOk (tl ++ rest) p S vs n → Fr h₀ env.locals h (fun z => if z = x then u z else m₀ z) → News h₀ env.locals h ((l, listOf vs.toArray cnt) :: (tl ++ rest)) → Q .next { s with heap := h, toks := tk }) :
    wpAny (model prog w) A (pyIter (.ref r)) (fun it s₂ => LoopAtV prog w A h₀ env x body Q E it s₂) E s := by
  refine tbr_invG (fun i m nx => SumsJ x l p S m₀ rest i m nx) hh hr hsmall hn F N ⟨[.none], cnt, [], rfl, fun q hq => Nat.ne_of_lt (ktn_ltOf hrest q hq), ⟨rfl, fun j hj => ?_⟩, fun _ _ => rfl⟩ ?_ ?_
  · obtain rfl : j = 0 := by omega
    exact ⟨.none, rfl, hS ▸ .none⟩
  · rintro i k t m₁ nx h tk own hk hoff ⟨vs, cnt, tl, rfl, hl, ho, hm⟩ F₁ N₁
    have hb := mem_rangeKs (List.mem_of_getElem? hk)
    have hi : i < n := by
      have := (List.getElem?_eq_some_iff.mp hk).1
      rwa [rangeKs_length] at this
    refine turn i vs cnt tl k t h tk own hi hl (fun q hq => hoff q hq _ List.mem_cons_self) (fun q hq r hr => hoff q hq r (List.mem_cons_of_mem _ hr)) ho ?_ N₁
    have e : (fun z => if z = x then some (Value.int k t) else m₁ z) = fun z => if z = x then some (Value.int k t) else m₀ z := by
      funext z
      by_cases h1 : z = x
      · simp [h1]
      · simp only [if_neg h1]; exact hm z h1
    rw [← e]
    exact F₁
  · rintro m₁ nx h tk ⟨vs, cnt, tl, rfl, hl, ho, hm⟩ F₁ N₁
    exact done m₁ vs cnt tl h tk hl ho (fr_but hm F₁) N₁

theorem sums_item {Q : Value → Shared → Prop} {L l : Addr} {value slice : PySem.Expr} {nr nx : List (Addr × Obj)} {p k : Int} {u : Tok} {S : Nat → Option (Int × Int)} {vs : List Value} {i cnt j : Nat} (N : News h₀ L s.heap nx) (hm : (l, listOf vs.toArray cnt) ∈ nx) (ho : SumsOk nr p S vs i)
    (hj : k = (j : Int) ∨ (k = -1 ∧ j = i)) (hji : j ≤ i) (hi : i < 100) (h : ∀ v, IptIn nr p v (S j) → Q v s)
    (hs : subscripted slice false (.ref l) (.int k u) = operate [.ref l, .int k u] (getItem (.ref l) (.int k u)) := by with_unfolding_all rfl) :
    wpAny (model prog w) A (subscriptTail value slice (.ref l) (.int k u)) Q E s := by
  have hl : s.heap.IsList l vs.toArray := ⟨_, (N _ hm).1, rfl, cnt, rfl⟩
  refine tail_any hl.typeIs slot_list_getitem.lookup ?_ hs
  obtain ⟨v, e, ip⟩ := ho.2 j hji
  have hlen := ho.1
  rcases hj with rfl | ⟨rfl, rfl⟩
  · exact wpAny_getItem_list hl (by omega) (by omega) (by simpa using e) (h v ip)
  · refine wpAny_getItem_list_neg hl (by omega) (by simp only [List.size_toArray]; omega) (by omega) ?_ (h v ip)
    have : (-1 + ((vs.toArray.size : Nat) : Int)).toNat = j := by simp only [List.size_toArray]; omega
    rw [this]; simpa using e
theorem sums_append {Q : Value → Shared → Prop} {m : Str → Option Value} {L l : Addr} {tl2 mid : List (Addr × Obj)} {vs : List Value} {cnt : Nat} {v : Value} (F : Fr h₀ L s.heap m) (N : News h₀ L s.heap (tl2 ++ ((l, listOf vs.toArray cnt) :: mid))) (h2 : ∀ q ∈ (l, listOf vs.toArray cnt) :: mid, ∀ r ∈ tl2, q.1 < r.1) (hr : ∀ q ∈ mid, q.1 ≠ l)
    (hlen : vs.length < 100) (h : ∀ h', Fr h₀ L h' m → News h₀ L h' (tl2 ++ ((l, listOf (vs ++ [v]).toArray (cnt + 1)) :: mid)) → Q .none { s with heap := h' }) : wpAny (model prog w) A (call (.builtin "list.append") [.ref l, v]) Q E s := by
  have U : Upd l (listOf vs.toArray cnt) (listOf (vs.toArray.push v) (cnt + 1)) (tl2 ++ ((l, listOf vs.toArray cnt) :: mid)) (tl2 ++ ((l, listOf (vs.toArray.push v) (cnt + 1)) :: mid)) := by
    clear N h
    induction tl2 with
    | nil => exact Upd.head hr
    | cons a r ih => exact Upd.tail (fun e => Nat.lt_irrefl _ (e ▸ h2 _ List.mem_cons_self a List.mem_cons_self)) (ih fun q hq p hp => h2 q hq p (List.mem_cons_of_mem _ hp))
  refine append_K F N U (fun h' F' N' => h h' F' ?_) (by rw [sizeLine_eq]; simp only [List.size_toArray]; omega)
  simpa using N'
end
theorem sums_key {l : Addr} {rest tl tl2 own : List (Addr × Obj)} {vs : List Value} {cnt : Nat} (o : Addr × Obj) (a : o ∈ tl2 ++ ((l, listOf vs.toArray cnt) :: ((tl ++ rest) ++ own))) (hc : o.2.cls = .type "tuple") (k : o.1 ∉ own.map (·.1)) : o ∈ (tl2 ++ tl) ++ rest := by
  rw [List.append_assoc]
  rcases List.mem_append.mp a with a | a
  · exact List.mem_append.mpr (.inl a)
  · rcases List.mem_cons.mp a with rfl | a
    · exact absurd (show (Value.type "list") = Value.type "tuple" from hc) (by decide)
    · rcases List.mem_append.mp a with a | a
      · exact List.mem_append.mpr (.inr a)
      · exact absurd (List.mem_map.mpr ⟨_, a, rfl⟩) k
theorem sums_end {h₀ h' : Heap} {L l : Addr} {x : Str} {p : Int} {S : Nat → Option (Int × Int)} {m₀ m' : Str → Option Value} {rest tl tl2 own : List (Addr × Obj)} {vs : List Value} {v : Value} {i cnt tk : Nat} {s : Shared}
    (F : Fr h₀ L h' m') (N : News h₀ L h' (tl2 ++ ((l, listOf (vs ++ [v]).toArray (cnt + 1)) :: ((tl ++ rest) ++ own)))) (hl : ∀ q ∈ tl ++ rest, q.1 ≠ l) (hol : ∀ q ∈ own, q.1 ≠ l) (hoff : ∀ q ∈ own, ∀ r ∈ tl ++ rest, q.1 ≠ r.1) (ho : SumsOk (tl ++ rest) p S vs i)
    (h2 : ∀ q ∈ (l, listOf vs.toArray cnt) :: ((tl ++ rest) ++ own), ∀ r ∈ tl2, q.1 < r.1) (hv : IptO (own.map (·.1)) (tl2 ++ ((l, listOf vs.toArray cnt) :: ((tl ++ rest) ++ own))) p v (S (i + 1))) (hm : ∀ z, z ≠ x → m' z = m₀ z) :
    TbEnd h₀ L (SumsJ x l p S m₀ rest (i + 1)) own s { s with heap := h', toks := tk } := by
  refine ⟨h', tk, m', _, (l, listOf (vs ++ [v]).toArray (cnt + 1)) :: ((tl2 ++ tl) ++ rest), rfl, F, N, ?_, ?_, ?_, vs ++ [v], cnt + 1, tl2 ++ tl, rfl, ?_, ⟨?_, ?_⟩, hm⟩
  · intro q hq
    rcases List.mem_cons.mp hq with rfl | hq
    · exact List.mem_append.mpr (.inr List.mem_cons_self)
    · rw [List.append_assoc] at hq
      rcases List.mem_append.mp hq with hq | hq
      · exact List.mem_append.mpr (.inl hq)
      · exact List.mem_append.mpr (.inr (List.mem_cons_of_mem _ (List.mem_append.mpr (.inl hq))))
  · exact fun q hq => List.mem_append.mpr (.inr (List.mem_cons_of_mem _ (List.mem_append.mpr (.inr hq))))
  · intro q hq r hr
    rcases List.mem_cons.mp hr with rfl | hr
    · exact hol q hq
    · rw [List.append_assoc] at hr
      rcases List.mem_append.mp hr with hr | hr
      · exact Nat.ne_of_lt (h2 q (List.mem_cons_of_mem _ (List.mem_append.mpr (.inr hq))) r hr)
      · exact hoff q hq r hr
  · intro q hq
    rw [List.append_assoc] at hq
    rcases List.mem_append.mp hq with hq | hq
    · exact fun e => Nat.lt_irrefl _ (e ▸ h2 _ List.mem_cons_self q hq)
    · exact hl q hq
  · rw [List.length_append, ho.1]; rfl
  · intro j hj
    by_cases hji : j ≤ i
    · obtain ⟨u, e, ip⟩ := ho.2 j hji
      refine ⟨u, ?_, ip.mono fun q hq => by rw [List.append_assoc]; exact List.mem_append.mpr (.inr hq)⟩
      rw [List.getElem?_append_left (by have := ho.1; omega)]; exact e
    · obtain rfl : j = i + 1 := by omega
      refine ⟨v, by rw [← ho.1]; simp, ?_⟩
      generalize hz : S (i + 1) = z at hv
      cases hv with
      | none => exact .none
      | some a k b c d e => exact IptIn.some (sums_key _ a rfl k) b c d e

end
-- part C1
section
set_option maxRecDepth 100000 in
set_option maxHeartbeats 8000000 in
theorem made_ok (w : World) (p a b : Int) :
    Ctr w 182 9 (fun news vs => RelFI w.params p a b news vs) (fun news r => FqIn w.params news p r (b.fmod p)) := by
  unfold Ctr
  k_fill
  intro mean mg mb dp un gd cn cs aa ccd cl outer A₀ base h₀ L m news s vs Q E B F X N T hk hR hdp hun hret
  rcases hR with ⟨hq⟩
  rcases hq with ⟨q1, q2, q3, q4, q5⟩
  refine wpAny_call ?_
  k_dflt ktr_enter
  k_steps
  all_goals (exact hret _ _ _ _ (by assumption) (by assumption) (by ktr_rel) (by ktr_rel))

end
-- part C2
section
local macro_rules | `(tactic| walk_at "call ref") => `(tactic| (k_here; (with_reducible show wpAny _ _ (call (Value.ref 182) [_, _]) _ _ _); k_dflt (refine' ctr_use (made_ok _ _ _ _) ?k1 ?k2 ?k3 ?k4 ?k5 ?kK ?kR ?kd ?ku ?_; (case k1 => k_asm); (case k2 => k_asm); (case k3 => k_asm); (case k4 => k_asm); (case k5 => k_asm); (case kK => first | exact rfl | assumption); (case kR => refine' RelFI.mk ?hh; (case hh => ktr_rel)); (case kd => k_room); (case ku => k_units)); intro r' tl' h' tk' F' N' or' O'; (try rw [Int.fmod_fmod] at O'); (rcases O' with ⟨q1', q2', q3', q4', q5'⟩); (try dsimp only [PySem.W.CmpBack]); (try k_fold)))
set_option maxRecDepth 100000 in
set_option maxHeartbeats 8000000 in
theorem mulF_ok (w : World) (p a b : Int) :
    Ctr w 84 20 (fun news vs => RelFF w.params p a b news vs) (fun news r => FqIn w.params news p r ((a * b).fmod p)) := by
  unfold Ctr
  k_fill
  intro mean mg mb dp un gd cn cs aa ccd cl outer A₀ base h₀ L m news s vs Q E B F X N T hk hR hdp hun hret
  rcases hR with ⟨hq, hq2⟩
  rcases hq with ⟨q1, q2, q3, q4, q5⟩
  rcases hq2 with ⟨z1, z2, z3, z4, z5⟩
  refine wpAny_call ?_
  k_dflt ktr_enter
  k_steps
  all_goals (exact hret _ _ _ _ (by assumption) (by assumption) (by ktr_rel) (by ktr_rel))
set_option maxRecDepth 100000 in
set_option maxHeartbeats 8000000 in
theorem mulI_ok (w : World) (p a b : Int) (h0 : 0 ≤ b) (h1 : b < 128) :
    Ctr w 84 20 (fun news vs => RelFI w.params p a b news vs) (fun news r => FqIn w.params news p r ((a * b).fmod p)) := by
  unfold Ctr
  k_fill
  intro mean mg mb dp un gd cn cs aa ccd cl outer A₀ base h₀ L m news s vs Q E B F X N T hk hR hdp hun hret
  rcases hR with ⟨hq⟩
  rcases hq with ⟨q1, q2, q3, q4, q5⟩
  refine wpAny_call ?_
  k_dflt ktr_enter
  k_steps
  all_goals (exact hret _ _ _ _ (by assumption) (by assumption) (by ktr_rel) (by ktr_rel))
set_option maxRecDepth 100000 in
set_option maxHeartbeats 8000000 in
theorem addF_ok (w : World) (p a b : Int) :
    Ctr w 77 20 (fun news vs => RelFF w.params p a b news vs) (fun news r => FqIn w.params news p r ((a + b).fmod p)) := by
  unfold Ctr
  k_fill
  intro mean mg mb dp un gd cn cs aa ccd cl outer A₀ base h₀ L m news s vs Q E B F X N T hk hR hdp hun hret
  rcases hR with ⟨hq, hq2⟩
  rcases hq with ⟨q1, q2, q3, q4, q5⟩
  rcases hq2 with ⟨z1, z2, z3, z4, z5⟩
  refine wpAny_call ?_
  k_dflt ktr_enter
  k_steps
  all_goals (exact hret _ _ _ _ (by assumption) (by assumption) (by ktr_rel) (by ktr_rel))
set_option maxRecDepth 100000 in
set_option maxHeartbeats 8000000 in
theorem subF_ok (w : World) (p a b : Int) :
    Ctr w 112 20 (fun news vs => RelFF w.params p a b news vs) (fun news r => FqIn w.params news p r ((a - b).fmod p)) := by
  unfold Ctr
  k_fill
  intro mean mg mb dp un gd cn cs aa ccd cl outer A₀ base h₀ L m news s vs Q E B F X N T hk hR hdp hun hret
  rcases hR with ⟨hq, hq2⟩
  rcases hq with ⟨q1, q2, q3, q4, q5⟩
  rcases hq2 with ⟨z1, z2, z3, z4, z5⟩
  refine wpAny_call ?_
  k_dflt ktr_enter
  k_steps
  all_goals (exact hret _ _ _ _ (by assumption) (by assumption) (by ktr_rel) (by ktr_rel))
set_option maxRecDepth 100000 in
set_option maxHeartbeats 8000000 in
theorem neg_ok (w : World) (p a : Int) :
    Ctr w 154 20 (fun news vs => RelF w.params p a news vs) (fun news r => FqIn w.params news p r ((-a).fmod p)) := by
  unfold Ctr
  k_fill
  intro mean mg mb dp un gd cn cs aa ccd cl outer A₀ base h₀ L m news s vs Q E B F X N T hk hR hdp hun hret
  rcases hR with ⟨hq⟩
  rcases hq with ⟨q1, q2, q3, q4, q5⟩
  refine wpAny_call ?_
  k_dflt ktr_enter
  k_steps
  all_goals (exact hret _ _ _ _ (by assumption) (by assumption) (by ktr_rel) (by ktr_rel))
set_option maxRecDepth 100000 in
set_option maxHeartbeats 8000000 in
theorem eqF_ok (w : World) (p a b : Int) :
    Ctr w 140 20 (fun news vs => RelFF w.params p a b news vs) (fun news r => r = .bool (decide (a = b))) := by
  unfold Ctr
  k_fill
  intro mean mg mb dp un gd cn cs aa ccd cl outer A₀ base h₀ L m news s vs Q E B F X N T hk hR hdp hun hret
  rcases hR with ⟨hq, hq2⟩
  rcases hq with ⟨q1, q2, q3, q4, q5⟩
  rcases hq2 with ⟨z1, z2, z3, z4, z5⟩
  refine wpAny_call ?_
  k_dflt ktr_enter
  k_steps
  all_goals (exact hret _ _ _ _ (by assumption) (by assumption) (by ktr_rel) (by ktr_rel))

end
-- part C3
section
local macro_rules | `(tactic| walk_at "call ref") => `(tactic| (k_here; (with_reducible show wpAny _ _ (call (Value.ref 182) [_, _]) _ _ _); k_dflt (refine' ctr_use (made_ok _ _ _ _) ?k1 ?k2 ?k3 ?k4 ?k5 ?kK ?kR ?kd ?ku ?_; (case k1 => k_asm); (case k2 => k_asm); (case k3 => k_asm); (case k4 => k_asm); (case k5 => k_asm); (case kK => first | exact rfl | assumption); (case kR => refine' RelFI.mk ?hh; (case hh => ktr_rel)); (case kd => k_room); (case ku => k_units)); intro r' tl' h' tk' F' N' or' O'; (try rw [Int.fmod_fmod] at O'); (rcases O' with ⟨q1', q2', q3', q4', q5'⟩); (try dsimp only [PySem.W.CmpBack]); (try k_fold)))
local macro_rules | `(tactic| walk_at "call ref") => `(tactic| (k_here; (with_reducible show wpAny _ _ (call (Value.ref 84) [_, _]) _ _ _); k_dflt (refine' ctr_use (mulF_ok _ _ _ _) ?k1 ?k2 ?k3 ?k4 ?k5 ?kK ?kR ?kd ?ku ?_; (case k1 => k_asm); (case k2 => k_asm); (case k3 => k_asm); (case k4 => k_asm); (case k5 => k_asm); (case kK => first | exact rfl | assumption); (case kR => refine' RelFF.mk ?hh ?hh2; (case hh => ktr_rel); (case hh2 => ktr_rel)); (case kd => k_room); (case ku => k_units)); intro r' tl' h' tk' F' N' or' O'; (rcases O' with ⟨q1', q2', q3', q4', q5'⟩); (try dsimp only [PySem.W.CmpBack]); (try k_fold)))
local macro_rules | `(tactic| walk_at "call ref") => `(tactic| (k_here; (with_reducible show wpAny _ _ (call (Value.ref 84) [_, _]) _ _ _); k_dflt (refine' ctr_use (mulI_ok _ _ _ _ ?b0 ?b1) ?k1 ?k2 ?k3 ?k4 ?k5 ?kK ?kR ?kd ?ku ?_; (case k1 => k_asm); (case k2 => k_asm); (case k3 => k_asm); (case k4 => k_asm); (case k5 => k_asm); (case kK => first | exact rfl | assumption); (case kR => refine' RelFI.mk ?hh; (case hh => ktr_rel)); (case b0 => omega); (case b1 => omega); (case kd => k_room); (case ku => k_units)); intro r' tl' h' tk' F' N' or' O'; (rcases O' with ⟨q1', q2', q3', q4', q5'⟩); (try dsimp only [PySem.W.CmpBack]); (try k_fold)))
set_option maxRecDepth 100000 in
set_option maxHeartbeats 8000000 in
theorem rmul_ok (w : World) (p a b : Int) (h0 : 0 ≤ b) (h1 : b < 128) :
    Ctr w 91 30 (fun news vs => RelFI w.params p a b news vs) (fun news r => FqIn w.params news p r ((a * b).fmod p)) := by
  unfold Ctr
  k_fill
  intro mean mg mb dp un gd cn cs aa ccd cl outer A₀ base h₀ L m news s vs Q E B F X N T hk hR hdp hun hret
  rcases hR with ⟨hq⟩
  rcases hq with ⟨q1, q2, q3, q4, q5⟩
  refine wpAny_call ?_
  k_dflt ktr_enter
  k_steps
  all_goals (exact hret _ _ _ _ (by assumption) (by assumption) (by ktr_rel) (by ktr_rel))

end
-- part C4
section
set_option maxRecDepth 100000 in
set_option maxHeartbeats 8000000 in
theorem inv_ok (w : World) (p a : Int) (hp : Pr p) (h0 : 0 ≤ a) (h1 : a < p) :
    Ctr w 56 12 (fun news vs => RelII a p vs) (fun news r => 0 ≤ invP a p ∧ invP a p < p ∧ ∃ t, r = .int (invP a p) t) := by
  unfold Ctr
  k_fill
  intro mean mg mb dp un gd cn cs aa ccd cl outer A₀ base h₀ L m news s vs Q E B F X N T hk hR hdp hun hret
  rcases hR with ⟨⟩
  have hlo := hp.lo
  have hhi := hp.hi
  refine wpAny_call ?_
  k_dflt ktr_enter
  k_with_none
  (k_with "exec While Compare cons nil" => k_while (fun _ lm low hm high => gInv p (invP a p) lm low hm high ∧ -128 < lm ∧ lm < 128 ∧ -128 < hm ∧ hm < 128 ∧ 0 ≤ low ∧ low < 128 ∧ 0 ≤ high ∧ high < 128) (fun _ lm low hm high => low.toNat) "lm" "low" "hm" "high")
  (k_with "state" => first | exact gInv.all (gInv_start2 hp h0 h1 (by assumption)) | exact gInv.all (gInv.step (by assumption) (by assumption)).1)
  (k_with "measure" => have z9 := (gInv.step (by assumption) (by assumption)).2; omega)
  k_steps
  all_goals (exact hret _ _ _ _ (by assumption) (by assumption) (by ktr_rel) (by first | exact invOut0 hp h0 h1 (by assumption) | exact invOut1 hp (by assumption) (by first | assumption | omega)))

end
-- part C5
section
local macro_rules | `(tactic| walk_at "call ref") => `(tactic| (k_here; (with_reducible show wpAny _ _ (call (Value.ref 182) [_, _]) _ _ _); k_dflt (refine' ctr_use (made_ok _ _ _ _) ?k1 ?k2 ?k3 ?k4 ?k5 ?kK ?kR ?kd ?ku ?_; (case k1 => k_asm); (case k2 => k_asm); (case k3 => k_asm); (case k4 => k_asm); (case k5 => k_asm); (case kK => first | exact rfl | assumption); (case kR => refine' RelFI.mk ?hh; (case hh => ktr_rel)); (case kd => k_room); (case ku => k_units)); intro r' tl' h' tk' F' N' or' O'; (try rw [Int.fmod_fmod] at O'); (rcases O' with ⟨q1', q2', q3', q4', q5'⟩); (try dsimp only [PySem.W.CmpBack]); (try k_fold)))
local macro_rules | `(tactic| walk_at "call ref") => `(tactic| (k_here; (with_reducible show wpAny _ _ (call (Value.ref 56) [_, _]) _ _ _); k_dflt (refine' ctr_use (inv_ok _ _ _ ?b0 ?b1 ?b2) ?k1 ?k2 ?k3 ?k4 ?k5 ?kK ?kR ?kd ?ku ?_; (case k1 => k_asm); (case k2 => k_asm); (case k3 => k_asm); (case k4 => k_asm); (case k5 => k_asm); (case kK => first | exact rfl | assumption); (case kR => exact RelII.mk); (case b0 => assumption); (case b1 => assumption); (case b2 => assumption); (case kd => k_room); (case ku => k_units)); intro r' tl' h' tk' F' N' or' O'; (rcases O' with ⟨i0', i1', t9', e9'⟩); subst e9'; (try dsimp only [PySem.W.CmpBack]); (try k_fold)))
set_option maxRecDepth 100000 in
set_option maxHeartbeats 8000000 in
theorem div_ok (w : World) (p a b : Int) (hp : Pr p) :
    Ctr w 119 30 (fun news vs => RelFF w.params p a b news vs) (fun news r => FqIn w.params news p r ((a * invP b p).fmod p)) := by
  unfold Ctr
  k_fill
  intro mean mg mb dp un gd cn cs aa ccd cl outer A₀ base h₀ L m news s vs Q E B F X N T hk hR hdp hun hret
  rcases hR with ⟨hq, hq2⟩
  rcases hq with ⟨q1, q2, q3, q4, q5⟩
  rcases hq2 with ⟨z1, z2, z3, z4, z5⟩
  refine wpAny_call ?_
  k_dflt ktr_enter
  k_steps
  all_goals (exact hret _ _ _ _ (by assumption) (by assumption) (by ktr_rel) (by ktr_rel))
local macro_rules | `(tactic| walk_at "call ref") => `(tactic| (k_here; (with_reducible show wpAny _ _ (call (Value.ref 84) [_, _]) _ _ _); k_dflt (refine' ctr_use (mulF_ok _ _ _ _) ?k1 ?k2 ?k3 ?k4 ?k5 ?kK ?kR ?kd ?ku ?_; (case k1 => k_asm); (case k2 => k_asm); (case k3 => k_asm); (case k4 => k_asm); (case k5 => k_asm); (case kK => first | exact rfl | assumption); (case kR => refine' RelFF.mk ?hh ?hh2; (case hh => ktr_rel); (case hh2 => ktr_rel)); (case kd => k_room); (case ku => k_units)); intro r' tl' h' tk' F' N' or' O'; (rcases O' with ⟨q1', q2', q3', q4', q5'⟩); (try dsimp only [PySem.W.CmpBack]); (try k_fold)))
set_option maxRecDepth 100000 in
set_option maxHeartbeats 8000000 in
theorem pow_ok (w : World) (p a : Int) :
    Ctr w 133 60 (fun news vs => RelFI w.params p a 2 news vs) (fun news r => FqIn w.params news p r ((a * a).fmod p)) := by
  unfold Ctr
  k_fill
  intro mean mg mb dp un gd cn cs aa ccd cl outer A₀ base h₀ L m news s vs Q E B F X N T hk hR hdp hun hret
  rcases hR with ⟨hq⟩
  rcases hq with ⟨q1, q2, q3, q4, q5⟩
  refine wpAny_call ?_
  k_dflt ktr_enter
  k_steps
  all_goals (exact hret _ _ _ _ (by assumption) (by assumption) (by ktr_rel) (by ktr_rel))

end
-- part C6
section
local macro_rules | `(tactic| ktr_rel) => `(tactic| first
  | exact PtIn.none
  | assumption
  | exact PtIn.mono (by assumption) (by ktd_sub)
  | (refine' PtIn.some ?g0 ?g1 ?g2; (case g0 => k_mem); (case g1 => ktr_rel); (case g2 => ktr_rel)))
local macro_rules | `(tactic| walk_at "binaryOp Div ref ref") => `(tactic| (k_here; (with_reducible show wpAny _ _ (binaryOp Operator.Div (Value.ref _) (Value.ref _)) _ _ _); k_dflt (refine' binop_K ?k1 ?k2 ?k3 ?k4 ?k5 ?k6 ?k7 ?_; (case k1 => k_asm); (case k2 => k_asm); (case k3 => k_inst); (case k4 => k_typeOf); (case k5 => k_is); (case k6 => k_is); (case k7 => k_is); k_whole)))
local macro_rules | `(tactic| walk_at "binaryOp Mult int ref") => `(tactic| (k_here; (with_reducible show wpAny _ _ (binaryOp Operator.Mult (Value.int _ _) (Value.ref _)) _ _ _); k_dflt (refine' rmul_int ?F ?X ?I ?hC ?hS0 ?hS ?hF ?hU ?_; (case F => k_asm); (case X => k_asm); (case I => k_inst); (case hS0 => k_is); (case hS => k_is); (case hF => k_is); (case hC => k_is); (case hU => k_is); k_whole)))
local macro_rules | `(tactic| walk_at "call ref") => `(tactic| (k_here; (with_reducible show wpAny _ _ (call (Value.ref 91) [_, _]) _ _ _); k_dflt (refine' ctr_use (rmul_ok _ _ _ _ ?b0 ?b1) ?k1 ?k2 ?k3 ?k4 ?k5 ?kK ?kR ?kd ?ku ?_; (case k1 => k_asm); (case k2 => k_asm); (case k3 => k_asm); (case k4 => k_asm); (case k5 => k_asm); (case kK => first | exact rfl | assumption); (case kR => refine' RelFI.mk ?hh; (case hh => ktr_rel)); (case b0 => omega); (case b1 => omega); (case kd => k_room); (case ku => k_units)); intro r' tl' h' tk' F' N' or' O'; (rcases O' with ⟨q1', q2', q3', q4', q5'⟩); (try dsimp only [PySem.W.CmpBack]); (try k_fold)))
local macro_rules | `(tactic| walk_at "call ref") => `(tactic| (k_here; (with_reducible show wpAny _ _ (call (Value.ref 84) [_, _]) _ _ _); k_dflt (refine' ctr_use (mulF_ok _ _ _ _) ?k1 ?k2 ?k3 ?k4 ?k5 ?kK ?kR ?kd ?ku ?_; (case k1 => k_asm); (case k2 => k_asm); (case k3 => k_asm); (case k4 => k_asm); (case k5 => k_asm); (case kK => first | exact rfl | assumption); (case kR => refine' RelFF.mk ?hh ?hh2; (case hh => ktr_rel); (case hh2 => ktr_rel)); (case kd => k_room); (case ku => k_units)); intro r' tl' h' tk' F' N' or' O'; (rcases O' with ⟨q1', q2', q3', q4', q5'⟩); (try dsimp only [PySem.W.CmpBack]); (try k_fold)))
local macro_rules | `(tactic| walk_at "call ref") => `(tactic| (k_here; (with_reducible show wpAny _ _ (call (Value.ref 77) [_, _]) _ _ _); k_dflt (refine' ctr_use (addF_ok _ _ _ _) ?k1 ?k2 ?k3 ?k4 ?k5 ?kK ?kR ?kd ?ku ?_; (case k1 => k_asm); (case k2 => k_asm); (case k3 => k_asm); (case k4 => k_asm); (case k5 => k_asm); (case kK => first | exact rfl | assumption); (case kR => refine' RelFF.mk ?hh ?hh2; (case hh => ktr_rel); (case hh2 => ktr_rel)); (case kd => k_room); (case ku => k_units)); intro r' tl' h' tk' F' N' or' O'; (rcases O' with ⟨q1', q2', q3', q4', q5'⟩); (try dsimp only [PySem.W.CmpBack]); (try k_fold)))
local macro_rules | `(tactic| walk_at "call ref") => `(tactic| (k_here; (with_reducible show wpAny _ _ (call (Value.ref 112) [_, _]) _ _ _); k_dflt (refine' ctr_use (subF_ok _ _ _ _) ?k1 ?k2 ?k3 ?k4 ?k5 ?kK ?kR ?kd ?ku ?_; (case k1 => k_asm); (case k2 => k_asm); (case k3 => k_asm); (case k4 => k_asm); (case k5 => k_asm); (case kK => first | exact rfl | assumption); (case kR => refine' RelFF.mk ?hh ?hh2; (case hh => ktr_rel); (case hh2 => ktr_rel)); (case kd => k_room); (case ku => k_units)); intro r' tl' h' tk' F' N' or' O'; (rcases O' with ⟨q1', q2', q3', q4', q5'⟩); (try dsimp only [PySem.W.CmpBack]); (try k_fold)))
local macro_rules | `(tactic| walk_at "call ref") => `(tactic| (k_here; (with_reducible show wpAny _ _ (call (Value.ref 154) [_]) _ _ _); k_dflt (refine' ctr_use (neg_ok _ _ _) ?k1 ?k2 ?k3 ?k4 ?k5 ?kK ?kR ?kd ?ku ?_; (case k1 => k_asm); (case k2 => k_asm); (case k3 => k_asm); (case k4 => k_asm); (case k5 => k_asm); (case kK => first | exact rfl | assumption); (case kR => refine' RelF.mk ?hh; (case hh => ktr_rel)); (case kd => k_room); (case ku => k_units)); intro r' tl' h' tk' F' N' or' O'; (rcases O' with ⟨q1', q2', q3', q4', q5'⟩); (try dsimp only [PySem.W.CmpBack]); (try k_fold)))
local macro_rules | `(tactic| walk_at "call ref") => `(tactic| (k_here; (with_reducible show wpAny _ _ (call (Value.ref 119) [_, _]) _ _ _); k_dflt (refine' ctr_use (div_ok _ _ _ _ ?b0) ?k1 ?k2 ?k3 ?k4 ?k5 ?kK ?kR ?kd ?ku ?_; (case k1 => k_asm); (case k2 => k_asm); (case k3 => k_asm); (case k4 => k_asm); (case k5 => k_asm); (case kK => first | exact rfl | assumption); (case kR => refine' RelFF.mk ?hh ?hh2; (case hh => ktr_rel); (case hh2 => ktr_rel)); (case b0 => assumption); (case kd => k_room); (case ku => k_units)); intro r' tl' h' tk' F' N' or' O'; (rcases O' with ⟨q1', q2', q3', q4', q5'⟩); (try dsimp only [PySem.W.CmpBack]); (try k_fold)))
local macro_rules | `(tactic| walk_at "call ref") => `(tactic| (k_here; (with_reducible show wpAny _ _ (call (Value.ref 133) [_, _]) _ _ _); k_dflt (refine' ctr_use (pow_ok _ _ _) ?k1 ?k2 ?k3 ?k4 ?k5 ?kK ?kR ?kd ?ku ?_; (case k1 => k_asm); (case k2 => k_asm); (case k3 => k_asm); (case k4 => k_asm); (case k5 => k_asm); (case kK => first | exact rfl | assumption); (case kR => refine' RelFI.mk ?hh; (case hh => ktr_rel)); (case kd => k_room); (case ku => k_units)); intro r' tl' h' tk' F' N' or' O'; (rcases O' with ⟨q1', q2', q3', q4', q5'⟩); (try dsimp only [PySem.W.CmpBack]); (try k_fold)))
set_option maxRecDepth 100000 in
set_option maxHeartbeats 16000000 in
theorem dbl_ok (w : World) (p : Int) (a : Option (Int × Int)) (hp : Pr p) :
    Ctr w 35 70 (fun news vs => RelP w.params p a news vs) (fun news r => PtIn w.params news p r (dblP p a)) := by
  unfold Ctr
  k_fill
  intro mean mg mb dp un gd cn cs aa ccd cl outer A₀ base h₀ L m news s vs Q E B F X N T hk hR hdp hun hret
  rcases hR with ⟨hq⟩
  rcases hq with _ | ⟨q0, ⟨q1, q2, q3, q4, q5⟩, ⟨z1, z2, z3, z4, z5⟩⟩
  all_goals (
    refine wpAny_call ?_
    k_dflt ktr_enter
    k_steps)
  all_goals (exact hret _ _ _ _ (by assumption) (by assumption) (by ktr_rel) (by ktr_rel))

end
-- part C7a
section
local macro_rules | `(tactic| ktr_rel) => `(tactic| first
  | exact PtIn.none
  | assumption
  | exact PtIn.mono (by assumption) (by ktd_sub)
  | (refine' PtIn.some ?g0 ?g1 ?g2; (case g0 => k_mem); (case g1 => ktr_rel); (case g2 => ktr_rel)))
local macro_rules | `(tactic| walk_at "binaryOp Div ref ref") => `(tactic| (k_here; (with_reducible show wpAny _ _ (binaryOp Operator.Div (Value.ref _) (Value.ref _)) _ _ _); k_dflt (refine' binop_K ?k1 ?k2 ?k3 ?k4 ?k5 ?k6 ?k7 ?_; (case k1 => k_asm); (case k2 => k_asm); (case k3 => k_inst); (case k4 => k_typeOf); (case k5 => k_is); (case k6 => k_is); (case k7 => k_is); k_whole)))
local macro_rules | `(tactic| walk_at "binaryOp Mult int ref") => `(tactic| (k_here; (with_reducible show wpAny _ _ (binaryOp Operator.Mult (Value.int _ _) (Value.ref _)) _ _ _); k_dflt (refine' rmul_int ?F ?X ?I ?hC ?hS0 ?hS ?hF ?hU ?_; (case F => k_asm); (case X => k_asm); (case I => k_inst); (case hS0 => k_is); (case hS => k_is); (case hF => k_is); (case hC => k_is); (case hU => k_is); k_whole)))
local macro_rules | `(tactic| walk_at "call ref") => `(tactic| (k_here; (with_reducible show wpAny _ _ (call (Value.ref 91) [_, _]) _ _ _); k_dflt (refine' ctr_use (rmul_ok _ _ _ _ ?b0 ?b1) ?k1 ?k2 ?k3 ?k4 ?k5 ?kK ?kR ?kd ?ku ?_; (case k1 => k_asm); (case k2 => k_asm); (case k3 => k_asm); (case k4 => k_asm); (case k5 => k_asm); (case kK => first | exact rfl | assumption); (case kR => refine' RelFI.mk ?hh; (case hh => ktr_rel)); (case b0 => omega); (case b1 => omega); (case kd => k_room); (case ku => k_units)); intro r' tl' h' tk' F' N' or' O'; (rcases O' with ⟨q1', q2', q3', q4', q5'⟩); (try dsimp only [PySem.W.CmpBack]); (try k_fold)))
local macro_rules | `(tactic| walk_at "call ref") => `(tactic| (k_here; (with_reducible show wpAny _ _ (call (Value.ref 84) [_, _]) _ _ _); k_dflt (refine' ctr_use (mulF_ok _ _ _ _) ?k1 ?k2 ?k3 ?k4 ?k5 ?kK ?kR ?kd ?ku ?_; (case k1 => k_asm); (case k2 => k_asm); (case k3 => k_asm); (case k4 => k_asm); (case k5 => k_asm); (case kK => first | exact rfl | assumption); (case kR => refine' RelFF.mk ?hh ?hh2; (case hh => ktr_rel); (case hh2 => ktr_rel)); (case kd => k_room); (case ku => k_units)); intro r' tl' h' tk' F' N' or' O'; (rcases O' with ⟨q1', q2', q3', q4', q5'⟩); (try dsimp only [PySem.W.CmpBack]); (try k_fold)))
local macro_rules | `(tactic| walk_at "call ref") => `(tactic| (k_here; (with_reducible show wpAny _ _ (call (Value.ref 77) [_, _]) _ _ _); k_dflt (refine' ctr_use (addF_ok _ _ _ _) ?k1 ?k2 ?k3 ?k4 ?k5 ?kK ?kR ?kd ?ku ?_; (case k1 => k_asm); (case k2 => k_asm); (case k3 => k_asm); (case k4 => k_asm); (case k5 => k_asm); (case kK => first | exact rfl | assumption); (case kR => refine' RelFF.mk ?hh ?hh2; (case hh => ktr_rel); (case hh2 => ktr_rel)); (case kd => k_room); (case ku => k_units)); intro r' tl' h' tk' F' N' or' O'; (rcases O' with ⟨q1', q2', q3', q4', q5'⟩); (try dsimp only [PySem.W.CmpBack]); (try k_fold)))
local macro_rules | `(tactic| walk_at "call ref") => `(tactic| (k_here; (with_reducible show wpAny _ _ (call (Value.ref 112) [_, _]) _ _ _); k_dflt (refine' ctr_use (subF_ok _ _ _ _) ?k1 ?k2 ?k3 ?k4 ?k5 ?kK ?kR ?kd ?ku ?_; (case k1 => k_asm); (case k2 => k_asm); (case k3 => k_asm); (case k4 => k_asm); (case k5 => k_asm); (case kK => first | exact rfl | assumption); (case kR => refine' RelFF.mk ?hh ?hh2; (case hh => ktr_rel); (case hh2 => ktr_rel)); (case kd => k_room); (case ku => k_units)); intro r' tl' h' tk' F' N' or' O'; (rcases O' with ⟨q1', q2', q3', q4', q5'⟩); (try dsimp only [PySem.W.CmpBack]); (try k_fold)))
local macro_rules | `(tactic| walk_at "call ref") => `(tactic| (k_here; (with_reducible show wpAny _ _ (call (Value.ref 154) [_]) _ _ _); k_dflt (refine' ctr_use (neg_ok _ _ _) ?k1 ?k2 ?k3 ?k4 ?k5 ?kK ?kR ?kd ?ku ?_; (case k1 => k_asm); (case k2 => k_asm); (case k3 => k_asm); (case k4 => k_asm); (case k5 => k_asm); (case kK => first | exact rfl | assumption); (case kR => refine' RelF.mk ?hh; (case hh => ktr_rel)); (case kd => k_room); (case ku => k_units)); intro r' tl' h' tk' F' N' or' O'; (rcases O' with ⟨q1', q2', q3', q4', q5'⟩); (try dsimp only [PySem.W.CmpBack]); (try k_fold)))
local macro_rules | `(tactic| walk_at "call ref") => `(tactic| (k_here; (with_reducible show wpAny _ _ (call (Value.ref 119) [_, _]) _ _ _); k_dflt (refine' ctr_use (div_ok _ _ _ _ ?b0) ?k1 ?k2 ?k3 ?k4 ?k5 ?kK ?kR ?kd ?ku ?_; (case k1 => k_asm); (case k2 => k_asm); (case k3 => k_asm); (case k4 => k_asm); (case k5 => k_asm); (case kK => first | exact rfl | assumption); (case kR => refine' RelFF.mk ?hh ?hh2; (case hh => ktr_rel); (case hh2 => ktr_rel)); (case b0 => assumption); (case kd => k_room); (case ku => k_units)); intro r' tl' h' tk' F' N' or' O'; (rcases O' with ⟨q1', q2', q3', q4', q5'⟩); (try dsimp only [PySem.W.CmpBack]); (try k_fold)))
local macro_rules | `(tactic| walk_at "call ref") => `(tactic| (k_here; (with_reducible show wpAny _ _ (call (Value.ref 133) [_, _]) _ _ _); k_dflt (refine' ctr_use (pow_ok _ _ _) ?k1 ?k2 ?k3 ?k4 ?k5 ?kK ?kR ?kd ?ku ?_; (case k1 => k_asm); (case k2 => k_asm); (case k3 => k_asm); (case k4 => k_asm); (case k5 => k_asm); (case kK => first | exact rfl | assumption); (case kR => refine' RelFI.mk ?hh; (case hh => ktr_rel)); (case kd => k_room); (case ku => k_units)); intro r' tl' h' tk' F' N' or' O'; (rcases O' with ⟨q1', q2', q3', q4', q5'⟩); (try dsimp only [PySem.W.CmpBack]); (try k_fold)))
local macro_rules | `(tactic| walk_at "call ref") => `(tactic| (k_here; (with_reducible show wpAny _ _ (call (Value.ref 140) [_, _]) _ _ _); k_dflt (refine' ctr_use (eqF_ok _ _ _ _) ?k1 ?k2 ?k3 ?k4 ?k5 ?kK ?kR ?kd ?ku ?_; (case k1 => k_asm); (case k2 => k_asm); (case k3 => k_asm); (case k4 => k_asm); (case k5 => k_asm); (case kK => first | exact rfl | assumption); (case kR => refine' RelFF.mk ?hh ?hh2; (case hh => ktr_rel); (case hh2 => ktr_rel)); (case kd => k_room); (case ku => k_units)); intro r' tl' h' tk' F' N' or' O'; (have e9' : _ = _ := O'); (clear O'); subst e9'; (try dsimp only [PySem.W.CmpBack]); (try k_fold)))
local macro_rules | `(tactic| walk_at "call ref") => `(tactic| (k_here; (with_reducible show wpAny _ _ (call (Value.ref 35) [_]) _ _ _); k_dflt (refine' ctr_use (dbl_ok _ _ _ ?b0) ?k1 ?k2 ?k3 ?k4 ?k5 ?kK ?kR ?kd ?ku ?_; (case k1 => k_asm); (case k2 => k_asm); (case k3 => k_asm); (case k4 => k_asm); (case k5 => k_asm); (case kK => first | exact rfl | assumption); (case kR => refine' RelP.mk ?hh; (case hh => ktr_rel)); (case b0 => assumption); (case kd => k_room); (case ku => k_units)); intro r' tl' h' tk' F' N' or' O'; (try dsimp only [PySem.W.CmpBack]); (try k_fold)))
set_option maxRecDepth 100000 in
set_option maxHeartbeats 16000000 in
theorem addP_nn (w : World) (p x1 y1 x2 y2 : Int) (hp : Pr p) :
    Ctr w 42 80 (fun news vs => RelPP w.params p (none) (none) news vs) (fun news r => PtIn w.params news p r (addP p (none) (none))) := by
  unfold Ctr
  k_fill
  intro mean mg mb dp un gd cn cs aa ccd cl outer A₀ base h₀ L m news s vs Q E B F X N T hk hR hdp hun hret
  rcases hR with ⟨hq, hq2⟩
  rcases hq with _ | _
  rcases hq2 with _ | _
  all_goals (
    refine wpAny_call ?_
    k_dflt ktr_enter
    k_steps)
  all_goals (exact hret _ _ _ _ (by assumption) (by assumption) (by ktr_rel) (by ktr_rel))
set_option maxRecDepth 100000 in
set_option maxHeartbeats 16000000 in
theorem addP_sn (w : World) (p x1 y1 x2 y2 : Int) (hp : Pr p) :
    Ctr w 42 80 (fun news vs => RelPP w.params p (some (x1, y1)) (none) news vs) (fun news r => PtIn w.params news p r (addP p (some (x1, y1)) (none))) := by
  unfold Ctr
  k_fill
  intro mean mg mb dp un gd cn cs aa ccd cl outer A₀ base h₀ L m news s vs Q E B F X N T hk hR hdp hun hret
  rcases hR with ⟨hq, hq2⟩
  rcases hq with _ | ⟨q0, ⟨q1, q2, q3, q4, q5⟩, ⟨z1, z2, z3, z4, z5⟩⟩
  rcases hq2 with _ | _
  all_goals (
    refine wpAny_call ?_
    k_dflt ktr_enter
    k_steps)
  all_goals (exact hret _ _ _ _ (by assumption) (by assumption) (by ktr_rel) (by ktr_rel))
set_option maxRecDepth 100000 in
set_option maxHeartbeats 16000000 in
theorem addP_ns (w : World) (p x1 y1 x2 y2 : Int) (hp : Pr p) :
    Ctr w 42 80 (fun news vs => RelPP w.params p (none) (some (x2, y2)) news vs) (fun news r => PtIn w.params news p r (addP p (none) (some (x2, y2)))) := by
  unfold Ctr
  k_fill
  intro mean mg mb dp un gd cn cs aa ccd cl outer A₀ base h₀ L m news s vs Q E B F X N T hk hR hdp hun hret
  rcases hR with ⟨hq, hq2⟩
  rcases hq with _ | _
  rcases hq2 with _ | ⟨x0, ⟨x1', x2', x3, x4, x5⟩, ⟨u1, u2, u3, u4, u5⟩⟩
  all_goals (
    refine wpAny_call ?_
    k_dflt ktr_enter
    k_steps)
  all_goals (exact hret _ _ _ _ (by assumption) (by assumption) (by ktr_rel) (by ktr_rel))

end
-- part C7
section
local macro_rules | `(tactic| ktr_rel) => `(tactic| first
  | exact PtIn.none
  | assumption
  | exact PtIn.mono (by assumption) (by ktd_sub)
  | (refine' PtIn.some ?g0 ?g1 ?g2; (case g0 => k_mem); (case g1 => ktr_rel); (case g2 => ktr_rel)))
local macro_rules | `(tactic| walk_at "binaryOp Div ref ref") => `(tactic| (k_here; (with_reducible show wpAny _ _ (binaryOp Operator.Div (Value.ref _) (Value.ref _)) _ _ _); k_dflt (refine' binop_K ?k1 ?k2 ?k3 ?k4 ?k5 ?k6 ?k7 ?_; (case k1 => k_asm); (case k2 => k_asm); (case k3 => k_inst); (case k4 => k_typeOf); (case k5 => k_is); (case k6 => k_is); (case k7 => k_is); k_whole)))
local macro_rules | `(tactic| walk_at "binaryOp Mult int ref") => `(tactic| (k_here; (with_reducible show wpAny _ _ (binaryOp Operator.Mult (Value.int _ _) (Value.ref _)) _ _ _); k_dflt (refine' rmul_int ?F ?X ?I ?hC ?hS0 ?hS ?hF ?hU ?_; (case F => k_asm); (case X => k_asm); (case I => k_inst); (case hS0 => k_is); (case hS => k_is); (case hF => k_is); (case hC => k_is); (case hU => k_is); k_whole)))
local macro_rules | `(tactic| walk_at "call ref") => `(tactic| (k_here; (with_reducible show wpAny _ _ (call (Value.ref 91) [_, _]) _ _ _); k_dflt (refine' ctr_use (rmul_ok _ _ _ _ ?b0 ?b1) ?k1 ?k2 ?k3 ?k4 ?k5 ?kK ?kR ?kd ?ku ?_; (case k1 => k_asm); (case k2 => k_asm); (case k3 => k_asm); (case k4 => k_asm); (case k5 => k_asm); (case kK => first | exact rfl | assumption); (case kR => refine' RelFI.mk ?hh; (case hh => ktr_rel)); (case b0 => omega); (case b1 => omega); (case kd => k_room); (case ku => k_units)); intro r' tl' h' tk' F' N' or' O'; (rcases O' with ⟨q1', q2', q3', q4', q5'⟩); (try dsimp only [PySem.W.CmpBack]); (try k_fold)))
local macro_rules | `(tactic| walk_at "call ref") => `(tactic| (k_here; (with_reducible show wpAny _ _ (call (Value.ref 84) [_, _]) _ _ _); k_dflt (refine' ctr_use (mulF_ok _ _ _ _) ?k1 ?k2 ?k3 ?k4 ?k5 ?kK ?kR ?kd ?ku ?_; (case k1 => k_asm); (case k2 => k_asm); (case k3 => k_asm); (case k4 => k_asm); (case k5 => k_asm); (case kK => first | exact rfl | assumption); (case kR => refine' RelFF.mk ?hh ?hh2; (case hh => ktr_rel); (case hh2 => ktr_rel)); (case kd => k_room); (case ku => k_units)); intro r' tl' h' tk' F' N' or' O'; (rcases O' with ⟨q1', q2', q3', q4', q5'⟩); (try dsimp only [PySem.W.CmpBack]); (try k_fold)))
local macro_rules | `(tactic| walk_at "call ref") => `(tactic| (k_here; (with_reducible show wpAny _ _ (call (Value.ref 77) [_, _]) _ _ _); k_dflt (refine' ctr_use (addF_ok _ _ _ _) ?k1 ?k2 ?k3 ?k4 ?k5 ?kK ?kR ?kd ?ku ?_; (case k1 => k_asm); (case k2 => k_asm); (case k3 => k_asm); (case k4 => k_asm); (case k5 => k_asm); (case kK => first | exact rfl | assumption); (case kR => refine' RelFF.mk ?hh ?hh2; (case hh => ktr_rel); (case hh2 => ktr_rel)); (case kd => k_room); (case ku => k_units)); intro r' tl' h' tk' F' N' or' O'; (rcases O' with ⟨q1', q2', q3', q4', q5'⟩); (try dsimp only [PySem.W.CmpBack]); (try k_fold)))
local macro_rules | `(tactic| walk_at "call ref") => `(tactic| (k_here; (with_reducible show wpAny _ _ (call (Value.ref 112) [_, _]) _ _ _); k_dflt (refine' ctr_use (subF_ok _ _ _ _) ?k1 ?k2 ?k3 ?k4 ?k5 ?kK ?kR ?kd ?ku ?_; (case k1 => k_asm); (case k2 => k_asm); (case k3 => k_asm); (case k4 => k_asm); (case k5 => k_asm); (case kK => first | exact rfl | assumption); (case kR => refine' RelFF.mk ?hh ?hh2; (case hh => ktr_rel); (case hh2 => ktr_rel)); (case kd => k_room); (case ku => k_units)); intro r' tl' h' tk' F' N' or' O'; (rcases O' with ⟨q1', q2', q3', q4', q5'⟩); (try dsimp only [PySem.W.CmpBack]); (try k_fold)))
local macro_rules | `(tactic| walk_at "call ref") => `(tactic| (k_here; (with_reducible show wpAny _ _ (call (Value.ref 154) [_]) _ _ _); k_dflt (refine' ctr_use (neg_ok _ _ _) ?k1 ?k2 ?k3 ?k4 ?k5 ?kK ?kR ?kd ?ku ?_; (case k1 => k_asm); (case k2 => k_asm); (case k3 => k_asm); (case k4 => k_asm); (case k5 => k_asm); (case kK => first | exact rfl | assumption); (case kR => refine' RelF.mk ?hh; (case hh => ktr_rel)); (case kd => k_room); (case ku => k_units)); intro r' tl' h' tk' F' N' or' O'; (rcases O' with ⟨q1', q2', q3', q4', q5'⟩); (try dsimp only [PySem.W.CmpBack]); (try k_fold)))
local macro_rules | `(tactic| walk_at "call ref") => `(tactic| (k_here; (with_reducible show wpAny _ _ (call (Value.ref 119) [_, _]) _ _ _); k_dflt (refine' ctr_use (div_ok _ _ _ _ ?b0) ?k1 ?k2 ?k3 ?k4 ?k5 ?kK ?kR ?kd ?ku ?_; (case k1 => k_asm); (case k2 => k_asm); (case k3 => k_asm); (case k4 => k_asm); (case k5 => k_asm); (case kK => first | exact rfl | assumption); (case kR => refine' RelFF.mk ?hh ?hh2; (case hh => ktr_rel); (case hh2 => ktr_rel)); (case b0 => assumption); (case kd => k_room); (case ku => k_units)); intro r' tl' h' tk' F' N' or' O'; (rcases O' with ⟨q1', q2', q3', q4', q5'⟩); (try dsimp only [PySem.W.CmpBack]); (try k_fold)))
local macro_rules | `(tactic| walk_at "call ref") => `(tactic| (k_here; (with_reducible show wpAny _ _ (call (Value.ref 133) [_, _]) _ _ _); k_dflt (refine' ctr_use (pow_ok _ _ _) ?k1 ?k2 ?k3 ?k4 ?k5 ?kK ?kR ?kd ?ku ?_; (case k1 => k_asm); (case k2 => k_asm); (case k3 => k_asm); (case k4 => k_asm); (case k5 => k_asm); (case kK => first | exact rfl | assumption); (case kR => refine' RelFI.mk ?hh; (case hh => ktr_rel)); (case kd => k_room); (case ku => k_units)); intro r' tl' h' tk' F' N' or' O'; (rcases O' with ⟨q1', q2', q3', q4', q5'⟩); (try dsimp only [PySem.W.CmpBack]); (try k_fold)))
local macro_rules | `(tactic| walk_at "call ref") => `(tactic| (k_here; (with_reducible show wpAny _ _ (call (Value.ref 140) [_, _]) _ _ _); k_dflt (refine' ctr_use (eqF_ok _ _ _ _) ?k1 ?k2 ?k3 ?k4 ?k5 ?kK ?kR ?kd ?ku ?_; (case k1 => k_asm); (case k2 => k_asm); (case k3 => k_asm); (case k4 => k_asm); (case k5 => k_asm); (case kK => first | exact rfl | assumption); (case kR => refine' RelFF.mk ?hh ?hh2; (case hh => ktr_rel); (case hh2 => ktr_rel)); (case kd => k_room); (case ku => k_units)); intro r' tl' h' tk' F' N' or' O'; (have e9' : _ = _ := O'); (clear O'); subst e9'; (try rw [decide_eq_true (add_same (by assumption) (by assumption) (by assumption) (by assumption) (by assumption) (by assumption))]); (try dsimp only [PySem.W.CmpBack]); (try k_fold)))
local macro_rules | `(tactic| walk_at "call ref") => `(tactic| (k_here; (with_reducible show wpAny _ _ (call (Value.ref 35) [_]) _ _ _); k_dflt (refine' ctr_use (dbl_ok _ _ _ ?b0) ?k1 ?k2 ?k3 ?k4 ?k5 ?kK ?kR ?kd ?ku ?_; (case k1 => k_asm); (case k2 => k_asm); (case k3 => k_asm); (case k4 => k_asm); (case k5 => k_asm); (case kK => first | exact rfl | assumption); (case kR => refine' RelP.mk ?hh; (case hh => ktr_rel)); (case b0 => assumption); (case kd => k_room); (case ku => k_units)); intro r' tl' h' tk' F' N' or' O'; (try dsimp only [PySem.W.CmpBack]); (try k_fold)))
set_option maxRecDepth 100000 in
set_option maxHeartbeats 16000000 in
theorem addP_ss (w : World) (p x1 y1 x2 y2 : Int) (hp : Pr p) :
    Ctr w 42 80 (fun news vs => RelPP w.params p (some (x1, y1)) (some (x2, y2)) news vs) (fun news r => PtIn w.params news p r (addP p (some (x1, y1)) (some (x2, y2)))) := by
  unfold Ctr
  k_fill
  intro mean mg mb dp un gd cn cs aa ccd cl outer A₀ base h₀ L m news s vs Q E B F X N T hk hR hdp hun hret
  rcases hR with ⟨hq, hq2⟩
  rcases hq with _ | ⟨q0, ⟨q1, q2, q3, q4, q5⟩, ⟨z1, z2, z3, z4, z5⟩⟩
  rcases hq2 with _ | ⟨x0, ⟨x1', x2', x3, x4, x5⟩, ⟨u1, u2, u3, u4, u5⟩⟩
  all_goals (
    refine wpAny_call ?_
    k_dflt ktr_enter
    k_steps)
  all_goals (refine hret _ _ _ _ (by assumption) (by assumption) (by ktr_rel) ?_; (try dsimp only); first | (rw [addP_dbl (by assumption) (by assumption)]; ktr_rel) | (rw [addP_nul (by assumption) (by assumption)]; ktr_rel) | (rw [addP_gen (by assumption)]; ktr_rel))

end
-- part C7b
section

theorem add_ok (w : World) (p : Int) (a b : Option (Int × Int)) (hp : Pr p) : Ctr w 42 80 (fun news vs => RelPP w.params p a b news vs) (fun news r => PtIn w.params news p r (addP p a b)) := by
  rcases a with _ | ⟨x1, y1⟩ <;> rcases b with _ | ⟨x2, y2⟩
  · exact addP_nn w p 0 0 0 0 hp
  · exact addP_ns w p 0 0 x2 y2 hp
  · exact addP_sn w p x1 y1 0 0 hp
  · exact addP_ss w p x1 y1 x2 y2 hp

end
-- part C8
section
local macro_rules | `(tactic| ktr_rel) => `(tactic| first
  | exact PtIn.none
  | assumption
  | exact PtIn.mono (by assumption) (by ktd_sub)
  | (refine' PtIn.some ?g0 ?g1 ?g2; (case g0 => k_mem); (case g1 => ktr_rel); (case g2 => ktr_rel)))
local macro_rules | `(tactic| walk_at "call ref") => `(tactic| (k_here; (with_reducible show wpAny _ _ (call (Value.ref 35) [_]) _ _ _); k_dflt (refine' ctr_use (dbl_ok _ _ _ ?b0) ?k1 ?k2 ?k3 ?k4 ?k5 ?kK ?kR ?kd ?ku ?_; (case k1 => k_asm); (case k2 => k_asm); (case k3 => k_asm); (case k4 => k_asm); (case k5 => k_asm); (case kK => first | exact rfl | assumption); (case kR => refine' RelP.mk ?hh; (case hh => ktr_rel)); (case b0 => assumption); (case kd => k_room); (case ku => k_units)); intro r' tl' h' tk' F' N' or' O'; (try dsimp only [PySem.W.CmpBack]); (try k_fold)))
local macro_rules | `(tactic| walk_at "call ref") => `(tactic| (k_here; (with_reducible show wpAny _ _ (call (Value.ref 42) [_, _]) _ _ _); k_dflt (refine' ctr_use (add_ok _ _ _ _ ?b0) ?k1 ?k2 ?k3 ?k4 ?k5 ?kK ?kR ?kd ?ku ?_; (case k1 => k_asm); (case k2 => k_asm); (case k3 => k_asm); (case k4 => k_asm); (case k5 => k_asm); (case kK => first | exact rfl | assumption); (case kR => refine' RelPP.mk ?hh ?hh2; (case hh => ktr_rel); (case hh2 => ktr_rel)); (case b0 => assumption); (case kd => k_room); (case ku => k_units)); intro r' tl' h' tk' F' N' or' O'; (try dsimp only [PySem.W.CmpBack]); (try k_fold)))
local macro_rules | `(tactic| walk_at "call ref") => `(tactic| (k_here; (with_reducible show wpAny _ _ (call (Value.ref 49) [_, _]) _ _ _); k_dflt (refine' ctr_use (MulOk.use ?b2 ?b0 ?b1) ?k1 ?k2 ?k3 ?k4 ?k5 ?kK ?kR ?kd ?ku ?_; (case k1 => k_asm); (case k2 => k_asm); (case k3 => k_asm); (case k4 => k_asm); (case k5 => k_asm); (case kK => first | exact rfl | assumption); (case kR => refine' RelPI.mk ?hh; (case hh => ktr_rel)); (case b2 => assumption); (case b0 => exact half_lo (by assumption)); (case b1 => exact half_hi (by assumption)); (case kd => k_room); (case ku => k_units)); intro r' tl' h' tk' F' N' or' O'; (try dsimp only [PySem.W.CmpBack]); (try k_fold)))
set_option maxRecDepth 100000 in
set_option maxHeartbeats 16000000 in
theorem mul_step (w : World) (p : Int) (k : Nat) (hp : Pr p) (ih : MulOk w p k) : MulOk w p (k + 1) := by
  intro a n hn0 hn1
  unfold Ctr
  k_fill
  intro mean mg mb dp un gd cn cs aa ccd cl outer A₀ base h₀ L m news s vs Q E B F X N T hk hR hdp hun hret
  rcases hR with ⟨hq⟩
  refine wpAny_call ?_
  k_dflt ktr_enter
  k_steps
  all_goals (refine hret _ _ _ _ (by assumption) (by assumption) (by ktr_rel) ?_; (try dsimp only); first
    | (rw [mulN_0 (by assumption)]; ktr_rel)
    | (rw [mulN_1 (by assumption)]; ktr_rel)
    | (rw [mulN_e (by assumption) (by assumption) (by assumption)]; ktr_rel)
    | (rw [mulN_o (by assumption) (by assumption) (by assumption)]; ktr_rel))
theorem mul_zero (w : World) (p : Int) : MulOk w p 0 := by
  intro a n hn0 hn1
  obtain rfl : n = 0 := by omega
  unfold Ctr
  k_fill
  intro mean mg mb dp un gd cn cs aa ccd cl outer A₀ base h₀ L m news s vs Q E B F X N T hk hR hdp hun hret
  rcases hR with ⟨hq⟩
  refine wpAny_call ?_
  k_dflt ktr_enter
  k_steps
  all_goals (exact hret _ _ _ _ (by assumption) (by assumption) (by ktr_rel) (by exact PtIn.none))
theorem mul_all (w : World) (p : Int) (hp : Pr p) : ∀ k, MulOk w p k
  | 0 => mul_zero w p
  | k + 1 => mul_step w p k hp (mul_all w p hp k)

end
-- part C10
section
local macro_rules | `(tactic| ktr_rel) => `(tactic| first
  | exact PtIn.none
  | assumption
  | exact PtIn.mono (by assumption) (by ktd_sub)
  | (refine' PtIn.some ?g0 ?g1 ?g2; (case g0 => k_mem); (case g1 => ktr_rel); (case g2 => ktr_rel)))
set_option maxRecDepth 100000 in
set_option maxHeartbeats 16000000 in
theorem lmade_ok (w : World) (p : Int) (a : Option (Int × Int)) (hp : Pr p) :
    Ctr w 245 20 (fun news vs => RelM p a news vs) (fun news r => PtIn w.params news p r (madeP p a)) := by
  unfold Ctr
  k_fill
  intro mean mg mb dp un gd cn cs aa ccd cl outer A₀ base h₀ L m news s vs Q E B F X N T hk hR hdp hun hret
  rcases hR with ⟨hq⟩
  rcases hq with _ | ⟨q0, q1, q2, q3, q4⟩
  all_goals (have hlo := hp.lo)
  all_goals (have hhi := hp.hi)
  all_goals (
    refine wpAny_call ?_
    k_dflt ktr_enter
    k_steps)
  all_goals (exact hret _ _ _ _ (by assumption) (by assumption) (by ktr_rel) (by ktr_rel))
local macro_rules | `(tactic| ktr_rel) => `(tactic| first
  | exact IptIn.none
  | assumption
  | exact IptIn.mono (by assumption) (by ktd_sub)
  | (refine' IptIn.some ?g0 ?g1 ?g2 ?g3 ?g4; (case g0 => k_mem); (case g1 => first | assumption | exact fm0 (by omega)); (case g2 => first | assumption | exact fm1 (by omega)); (case g3 => first | assumption | exact fm0 (by omega) | omega); (case g4 => first | assumption | exact fm1 (by omega) | omega)))
set_option maxRecDepth 100000 in
set_option maxHeartbeats 16000000 in
theorem told_ok (w : World) (p : Int) (a : Option (Int × Int)) :
    Ctr w 252 20 (fun news vs => RelP w.params p a news vs) (fun news r => IptIn news p r a) := by
  unfold Ctr
  k_fill
  intro mean mg mb dp un gd cn cs aa ccd cl outer A₀ base h₀ L m news s vs Q E B F X N T hk hR hdp hun hret
  rcases hR with ⟨hq⟩
  rcases hq with _ | ⟨q0, ⟨q1, q2, q3, q4, q5⟩, ⟨z1, z2, z3, z4, z5⟩⟩
  all_goals (
    refine wpAny_call ?_
    k_dflt ktr_enter
    k_steps)
  all_goals (exact hret _ _ _ _ (by assumption) (by assumption) (by ktr_rel) (by ktr_rel))

end
-- part C11
section
local macro_rules | `(tactic| walk_at "call builtin:pow") => `(tactic| ((with_reducible show wpAny _ _ (call (Value.builtin "pow") [Value.int _ _, Value.int _ _, Value.int _ _]) _ _ _); (refine' pow3' ?hy ?hm ?_; (case hy => first | omega | exact Int.fdiv_nonneg (by omega) (by omega)); (case hm => omega)); intro pl' ph'))
set_option maxRecDepth 100000 in
set_option maxHeartbeats 16000000 in
theorem curve_ok (w : World) (p n : Int) (hp : Pr p) :
    Ctr w 224 20 (fun news vs => RelII p n vs) (fun news r => ∃ b t, r = .int b t ∧ GoodB p b) := by
  unfold Ctr
  k_fill
  intro mean mg mb dp un gd cn cs aa ccd cl outer A₀ base h₀ L m news s vs Q E B F X N T hk hR hdp hun hret
  rcases hR with ⟨⟩
  have hlo := hp.lo
  have hhi := hp.hi
  k_with_none
  (k_with "exec While BoolOp cons nil" => k_while (fun _ b => 0 ≤ b ∧ b < p) (fun _ b => runB p 20 b) "b")
  (k_with "state" => exact ⟨fm0 (by omega), fm1 (by omega)⟩)
  (k_with "measure" => exact run_lt hp (by assumption) (by assumption) (by first | exact .inl (by assumption) | exact .inr (by assumption)))
  all_goals (
    refine wpAny_call ?_
    k_dflt ktr_enter
    k_steps)
  all_goals (exact hret _ _ _ _ (by assumption) (by assumption) (by ktr_rel) ⟨_, _, rfl, by omega, by assumption, by assumption⟩)

end
-- part C12
section
local macro_rules | `(tactic| ktr_rel) => `(tactic| first
  | exact IptIn.none
  | assumption
  | exact IptIn.mono (by assumption) (by ktd_sub)
  | (refine' IptIn.some ?g0 ?g1 ?g2 ?g3 ?g4; (case g0 => k_mem); (case g1 => first | assumption | exact fm0 (by omega)); (case g2 => first | assumption | exact fm1 (by omega)); (case g3 => first | assumption | exact fm0 (by omega) | omega); (case g4 => first | assumption | exact fm1 (by omega) | omega)))
local macro_rules | `(tactic| walk_at "call builtin:pow") => `(tactic| ((with_reducible show wpAny _ _ (call (Value.builtin "pow") [Value.int _ _, Value.int _ _, Value.int _ _]) _ _ _); (refine' pow3' ?hy ?hm ?_; (case hy => first | omega | exact Int.fdiv_nonneg (by omega) (by omega)); (case hm => omega)); intro pl' ph'))
local macro_rules | `(tactic| walk_at "exec For Name Call cons nil") => `(tactic| (k_here; (rename Fr _ _ _ _ => lF'); (with_unfolding_all refine' For_invVF lF' ?k1 ?k2 ?_; (case k1 => exact rfl); (case k2 => exact rfl); k_whole)))
local macro_rules | `(tactic| walk_at "pyIter ref") => `(tactic| ((with_reducible show wpAny _ _ (pyIter (Value.ref _)) (fun it s₂ => LoopAtV _ _ _ _ _ _ _ _ _ it s₂) _ _); k_here; (rename Fr _ _ _ _ => lF'); (rename News _ _ _ _ => lN'); (rename IsRange _ _ _ _ _ _ _ _ => rgX); (with_unfolding_all refine' rng_search [Str.ofString "x", Str.ofString "c", Str.ofString "y"] (by rfl) rgX (by decide) (by first | rfl | exact rangeSize_nat _ _) lF' lN' (fun k' t' u' h' tk' own' hlo' hhi' hoff' F' N' => ?_) (fun u' h' tk' F' N' => ?_)); (all_goals (try clear lF' lN')); (all_goals (try k_fold))))
local macro_rules | `(tactic| walk_at "TbEnd") => `(tactic| (refine srch_end (by assumption) (by assumption) (by ktd_sub) (by assumption) (by (intro z h2 h3; (simp only [List.contains_cons, List.contains_nil, Bool.or_false, Bool.or_eq_false_iff, beq_eq_false_iff_ne, ne_eq] at h3); (simp [h2, h3]; done)))))
set_option maxRecDepth 100000 in
set_option maxHeartbeats 16000000 in
theorem point_ok (w : World) (p b n : Int) (hp : Pr p) (hb : GoodB p b) :
    Ctr w 231 20 (fun news vs => RelIII p b n vs) (fun news r => ∃ a, IptIn news p r a ∧ OnC p b a) := by
  unfold Ctr
  k_fill
  intro mean mg mb dp un gd cn cs aa ccd cl outer A₀ base h₀ L m news s vs Q E B F X N T hk hR hdp hun hret
  rcases hR with ⟨⟩
  have hlo := hp.lo
  have hhi := hp.hi
  have hb0 := hb.1
  have hb1 := hb.2.1
  all_goals (
    refine wpAny_call ?_
    k_dflt ktr_enter
    k_steps)
  all_goals (first
    | exact hret _ _ _ _ (by assumption) (by assumption) (by ktr_rel) ⟨none, IptIn.none, trivial⟩
    | (have hy := y_pos hp hb (fm0 (by omega)) (fm1 (by omega)) (by assumption) (by assumption); first
      | exact hret _ _ _ _ (by assumption) (drop2 (by assumption)) (up_drop (by assumption)) ⟨some (_, _), by ktr_rel, hy, by assumption⟩
      | exact hret _ _ _ _ (by assumption) (drop2 (by assumption)) (up_drop (by assumption)) ⟨some (_, _), by ktr_rel, by omega, (sq_neg _ _).trans (by assumption)⟩))

end
-- part L0
section
set_option maxRecDepth 100000 in
set_option maxHeartbeats 16000000 in
theorem at_ok (w : World) : ∀ (mean : ExcName → Option Value) (mg mb : Str → Option Value) (dp un : Nat) (gd : Option (List Code)) (cn : Str) (cs : Scope) (a : Addr) (ccd : Value) (cl : List (Str × Addr)) (outer : List Env) (A₀ : Around) (base h₀ : Heap) (L : Addr) (m : Str → Option Value) (news : List (Addr × Obj)) (s : Shared) (l : Addr) (sv : List Value) (ns : List Int) (k : Int) (t : Tok)
    (Q E : Value → Shared → Prop),
    Below A₀ base outer h₀ → Fr h₀ L s.heap m → (hd.heap_39 w.params).In h₀ → News h₀ L s.heap news → Top hd.view_39 (looseW hd.view_39 []) mean mg mb h₀ → cs.kind = .function → base.IsList l sv.toArray → IntsAre sv ns → ns.length < 2 ^ 62 → 0 ≤ k → k < 10 → dp + 9 < recursionLimit → un + 8 * 9 < cLine →
    (∀ i t' h' tk', Fr h₀ L h' m → News h₀ L h' news → Q (.int i t') { s with heap := h', toks := tk' }) →
    wpAny (model PySem.Challenge.rw_lh0026_01.row.prog w) (ktrTop dp un gd cn cs L a ccd cl outer) (call (.ref 217) [.ref l, .int k t]) Q E s := by
  k_fill
  intro mean mg mb dp un gd cn cs a ccd cl outer A₀ base h₀ L m news s l sv ns k t Q E B F X N T hk hL hI hlen h0 h1 hdp hun hret
  refine wpAny_call ?_
  k_dflt cell_enter
  k_steps
  all_goals (exact hret _ _ _ _ (by assumption) (by assumption))

theorem primes_item {prog : Program} {w : World} {A : Around} {E : Value → Shared → Prop} {s : Shared} {value slice : PySem.Expr} {h₀ : Heap} {L l : Addr} {news : List (Addr × Obj)} {t0 t1 t2 t3 t4 t5 t6 t7 : Tok} {n : Nat} {k : Int} {u : Tok} {Q : Value → Shared → Prop}
    (N : News h₀ L s.heap news) (hm : (l, listOf [Value.int 7 t0, .int 19 t1, .int 31 t2, .int 43 t3, .int 67 t4, .int 79 t5, .int 103 t6, .int 127 t7].toArray n) ∈ news) (h0 : 0 ≤ k) (h1 : k < 8)
    (h : ∀ p t, Pr p → Q (.int p t) s)
    (hs : subscripted slice false (.ref l) (.int k u) = operate [.ref l, .int k u] (getItem (.ref l) (.int k u)) := by with_unfolding_all rfl) :
    wpAny (model prog w) A (subscriptTail value slice (.ref l) (.int k u)) Q E s := by
  have hl : s.heap.IsList l [Value.int 7 t0, .int 19 t1, .int 31 t2, .int 43 t3, .int 67 t4, .int 79 t5, .int 103 t6, .int 127 t7].toArray := ⟨_, (N _ hm).1, rfl, n, rfl⟩
  refine tail_any hl.typeIs slot_list_getitem.lookup ?_ hs
  have hk : k = 0 ∨ k = 1 ∨ k = 2 ∨ k = 3 ∨ k = 4 ∨ k = 5 ∨ k = 6 ∨ k = 7 := by omega
  rcases hk with rfl | rfl | rfl | rfl | rfl | rfl | rfl | rfl
  all_goals (refine wpAny_getItem_list hl (by decide) (by decide) rfl (h _ _ (by unfold Pr; omega)))
theorem menu_item {prog : Program} {w : World} {A : Around} {E : Value → Shared → Prop} {s : Shared} {value slice : PySem.Expr} {h₀ : Heap} {L l : Addr} {news : List (Addr × Obj)} {a b c d : Int} {t0 t1 t2 t3 : Tok} {n : Nat} {k : Int} {u : Tok} {Q : Value → Shared → Prop}
    (N : News h₀ L s.heap news) (hm : (l, listOf [Value.int a t0, .int b t1, .int c t2, .int d t3].toArray n) ∈ news) (h0 : 0 ≤ k) (h1 : k < 4)
    (h : ∀ i t, (k = 0 → i = a) → (k = 1 → i = b) → (k = 2 → i = c) → (k = 3 → i = d) → Q (.int i t) s)
    (hs : subscripted slice false (.ref l) (.int k u) = operate [.ref l, .int k u] (getItem (.ref l) (.int k u)) := by with_unfolding_all rfl) :
    wpAny (model prog w) A (subscriptTail value slice (.ref l) (.int k u)) Q E s := by
  have hl : s.heap.IsList l [Value.int a t0, .int b t1, .int c t2, .int d t3].toArray := ⟨_, (N _ hm).1, rfl, n, rfl⟩
  refine tail_any hl.typeIs slot_list_getitem.lookup ?_ hs
  have hk : k = 0 ∨ k = 1 ∨ k = 2 ∨ k = 3 := by omega
  rcases hk with rfl | rfl | rfl | rfl
  all_goals (refine wpAny_getItem_list hl (by decide) (by decide) rfl (h _ _ ?_ ?_ ?_ ?_) <;> intro z <;> first | rfl | exact absurd z (by decide))

end
-- part L2a
section
local macro_rules | `(tactic| ktr_rel) => `(tactic| first
  | exact IptO.none
  | (refine' IptO.some ?g0 ?gO ?g1 ?g2 ?g3 ?g4; (case g0 => k_mem); (case gO => first | assumption | exact off_new (by assumption) (by assumption)); (case g1 => first | assumption | exact fm0 (by omega)); (case g2 => first | assumption | exact fm1 (by omega)); (case g3 => first | assumption | exact fm0 (by omega)); (case g4 => first | assumption | exact fm1 (by omega))))
set_option maxRecDepth 100000 in
set_option maxHeartbeats 16000000 in
theorem sumO_nn (w : World) (O : List Addr) (p x1 y1 x2 y2 : Int) (hp : Pr p) :
    Ctr w 238 20 (fun news vs => RelSO O p (none) (none) news vs) (fun news r => IptO O news p r (sumP p (none) (none))) := by
  unfold Ctr
  k_fill
  intro mean mg mb dp un gd cn cs aa ccd cl outer A₀ base h₀ L m news s vs Q E B F X N T hk hR hdp hun hret
  rcases hR with ⟨hq, hq2, hO⟩
  rcases hq with _ | _
  rcases hq2 with _ | _
  have hlo := hp.lo
  have hhi := hp.hi
  all_goals (
    refine wpAny_call ?_
    k_dflt ktr_enter
    k_steps)
  all_goals (exact hret _ _ _ _ (by assumption) (by assumption) (by ktr_rel) (by ktr_rel))
set_option maxRecDepth 100000 in
set_option maxHeartbeats 16000000 in
theorem sumO_sn (w : World) (O : List Addr) (p x1 y1 x2 y2 : Int) (hp : Pr p) :
    Ctr w 238 20 (fun news vs => RelSO O p (some (x1, y1)) (none) news vs) (fun news r => IptO O news p r (sumP p (some (x1, y1)) (none))) := by
  unfold Ctr
  k_fill
  intro mean mg mb dp un gd cn cs aa ccd cl outer A₀ base h₀ L m news s vs Q E B F X N T hk hR hdp hun hret
  rcases hR with ⟨hq, hq2, hO⟩
  rcases hq with _ | ⟨q0, qO, q1, q2, q3, q4⟩
  rcases hq2 with _ | _
  have hlo := hp.lo
  have hhi := hp.hi
  all_goals (
    refine wpAny_call ?_
    k_dflt ktr_enter
    k_steps)
  all_goals (exact hret _ _ _ _ (by assumption) (by assumption) (by ktr_rel) (by ktr_rel))
set_option maxRecDepth 100000 in
set_option maxHeartbeats 16000000 in
theorem sumO_ns (w : World) (O : List Addr) (p x1 y1 x2 y2 : Int) (hp : Pr p) :
    Ctr w 238 20 (fun news vs => RelSO O p (none) (some (x2, y2)) news vs) (fun news r => IptO O news p r (sumP p (none) (some (x2, y2)))) := by
  unfold Ctr
  k_fill
  intro mean mg mb dp un gd cn cs aa ccd cl outer A₀ base h₀ L m news s vs Q E B F X N T hk hR hdp hun hret
  rcases hR with ⟨hq, hq2, hO⟩
  rcases hq with _ | _
  rcases hq2 with _ | ⟨z0, zO, z1, z2, z3, z4⟩
  have hlo := hp.lo
  have hhi := hp.hi
  all_goals (
    refine wpAny_call ?_
    k_dflt ktr_enter
    k_steps)
  all_goals (exact hret _ _ _ _ (by assumption) (by assumption) (by ktr_rel) (by ktr_rel))

end
-- part L2
section
local macro_rules | `(tactic| ktr_rel) => `(tactic| first
  | exact IptO.none
  | (refine' IptO.some ?g0 ?gO ?g1 ?g2 ?g3 ?g4; (case g0 => k_mem); (case gO => first | assumption | exact off_new (by assumption) (by assumption)); (case g1 => first | assumption | exact fm0 (by omega)); (case g2 => first | assumption | exact fm1 (by omega)); (case g3 => first | assumption | exact fm0 (by omega)); (case g4 => first | assumption | exact fm1 (by omega))))
local macro_rules | `(tactic| walk_at "call builtin:pow") => `(tactic| ((with_reducible show wpAny _ _ (call (Value.builtin "pow") [Value.int _ _, Value.int _ _, Value.int _ _]) _ _ _); (refine' pow3' ?hy ?hm ?_; (case hy => first | omega | exact Int.fdiv_nonneg (by omega) (by omega)); (case hm => omega)); intro pl' ph'))
set_option maxRecDepth 100000 in
set_option maxHeartbeats 16000000 in
theorem sumO_ss (w : World) (O : List Addr) (p x1 y1 x2 y2 : Int) (hp : Pr p) :
    Ctr w 238 20 (fun news vs => RelSO O p (some (x1, y1)) (some (x2, y2)) news vs) (fun news r => IptO O news p r (sumP p (some (x1, y1)) (some (x2, y2)))) := by
  unfold Ctr
  k_fill
  intro mean mg mb dp un gd cn cs aa ccd cl outer A₀ base h₀ L m news s vs Q E B F X N T hk hR hdp hun hret
  rcases hR with ⟨hq, hq2, hO⟩
  rcases hq with _ | ⟨q0, qO, q1, q2, q3, q4⟩
  rcases hq2 with _ | ⟨z0, zO, z1, z2, z3, z4⟩
  have hlo := hp.lo
  have hhi := hp.hi
  all_goals (
    refine wpAny_call ?_
    k_dflt ktr_enter
    k_steps)
  all_goals (refine hret _ _ _ _ (by assumption) (by assumption) (by ktr_rel) ?_; (try dsimp only); first | (rw [sumP_nul (by assumption) (by assumption)]; ktr_rel) | (rw [sumP_dbl (by first | exact fun z => absurd z.2 (by assumption) | exact fun z => absurd z.1 (by assumption)) (by assumption)]; ktr_rel) | (rw [sumP_gen (by first | exact fun z => absurd z.2 (by assumption) | exact fun z => absurd z.1 (by assumption)) (by assumption)]; ktr_rel))

end
-- part L2b
section

theorem sumO_ok (w : World) (O : List Addr) (p : Int) (a b : Option (Int × Int)) (hp : Pr p) : Ctr w 238 20 (fun news vs => RelSO O p a b news vs) (fun news r => IptO O news p r (sumP p a b)) := by
  rcases a with _ | ⟨x1, y1⟩ <;> rcases b with _ | ⟨x2, y2⟩
  · exact sumO_nn w O p 0 0 0 0 hp
  · exact sumO_ns w O p 0 0 x2 y2 hp
  · exact sumO_sn w O p x1 y1 0 0 hp
  · exact sumO_ss w O p x1 y1 x2 y2 hp

end
-- part C9s
section
/-- the law's sum, out of the walk off the loop's own objects -/
theorem IptIn.toO {news : List (Addr × Obj)} {p : Int} {v : Value} {n : Option (Int × Int)} (h : IptIn news p v n) : IptO [] news p v n := by
  cases h with
  | none => exact .none
  | some a b c d e => exact .some a (fun h => nomatch h) b c d e
theorem IptO.toIn {O : List Addr} {news : List (Addr × Obj)} {p : Int} {v : Value} {n : Option (Int × Int)} (h : IptO O news p v n) : IptIn news p v n := by
  cases h with
  | none => exact .none
  | some a _ b c d e => exact .some a b c d e
theorem sum_ok (w : World) (p : Int) (a b : Option (Int × Int)) (hp : Pr p) : Ctr w 238 20 (fun news vs => RelS p a b news vs) (fun news r => IptIn news p r (sumP p a b)) := by
  intro mean mg mb dp un gd cn cs a' ccd cl outer A₀ base h₀ L m news s vs Q E B F X N T hk R hd hu ret
  rcases R with ⟨h1, h2⟩
  exact sumO_ok w [] p a b hp mean mg mb dp un gd cn cs a' ccd cl outer A₀ base h₀ L m news s _ Q E B F X N T hk (RelSO.mk h1.toO h2.toO (fun _ h => nomatch h)) hd hu (fun r nx h' tk' F' N' U O => ret r nx h' tk' F' N' U O.toIn)

end
-- part L3p
section
/-- the sums of the law, one behind the other -/
def Sit (p : Int) (a : Option (Int × Int)) : Nat → Option (Int × Int)
  | 0 => none
  | k + 1 => sumP p (Sit p a k) a
theorem off2 {own nx nx2 news : List (Addr × Obj)} {p : Int} {v : Value} {n : Option (Int × Int)} (ho : ∀ q ∈ own, ∀ r ∈ nx, q.1 ≠ r.1) (h : IptIn news p v n) (hs : ∀ q ∈ news, q ∈ nx) (hs2 : ∀ q ∈ nx, q ∈ nx2) : IptO (own.map (·.1)) nx2 p v n :=
  ((h.mono hs).off ho).mono hs2
theorem own_in {own news : List (Addr × Obj)} (hs : ∀ q ∈ own, q ∈ news) : ∀ o ∈ own.map (·.1), ∃ q ∈ news, q.1 = o := fun o ho => by
  obtain ⟨q, hq, e⟩ := List.mem_map.mp ho
  exact ⟨q, hs q hq, e⟩
theorem sub_right {a b c : List (Addr × Obj)} (h : ∀ q ∈ a, q ∈ b) : ∀ q ∈ a, q ∈ b ++ c := fun q hq => List.mem_append.mpr (.inl (h q hq))
theorem at_use {w : World} {mean : ExcName → Option Value} {mg mb : Str → Option Value} {dp un : Nat} {gd : Option (List Code)} {cn : Str} {cs : Scope} {a : Addr} {ccd : Value} {cl : List (Str × Addr)} {outer : List Env} {A₀ : Around} {base h₀ : Heap} {L : Addr} {m : Str → Option Value} {news : List (Addr × Obj)} {s : Shared} {l : Addr} {sv : List Value} {ns : List Int} {k : Int} {t : Tok}
    {Q E : Value → Shared → Prop}
    (B : Below A₀ base outer h₀) (F : Fr h₀ L s.heap m) (X : (hd.heap_39 w.params).In h₀) (N : News h₀ L s.heap news) (T : Top hd.view_39 (looseW hd.view_39 []) mean mg mb h₀) (hk : cs.kind = .function) (hL : base.IsList l sv.toArray) (hI : IntsAre sv ns) (hlen : ns.length < 2 ^ 62) (h0 : 0 ≤ k) (h1 : k < 10) (hd : dp + 9 < recursionLimit) (hu : un + 8 * 9 < cLine)
    (ret : ∀ i t' h' tk', Fr h₀ L h' m → News h₀ L h' news → Q (.int i t') { s with heap := h', toks := tk' }) :
    wpAny (model PySem.Challenge.rw_lh0026_01.row.prog w) (ktrTop dp un gd cn cs L a ccd cl outer) (call (.ref 217) [.ref l, .int k t]) Q E s :=
  at_ok _ _ _ _ _ _ _ _ _ _ _ _ _ _ _ _ _ _ _ _ _ _ _ _ _ _ _ B F X N T hk hL hI hlen h0 h1 hd hu ret
section
variable {prog : Program} {w : World} {A : Around} {E : Value → Shared → Prop} {s : Shared} {env : Env} {h₀ : Heap} {x : Str} {body : List Stmt} {Q : Flow → Shared → Prop}
theorem rng_sums' {r l : Addr} {p : Int} {b₀ : Int} {t₀ u₀ v₀ : Tok} {cnt : Nat} {m₀ : Str → Option Value} {rest nr : List (Addr × Obj)} {v : Value} {a : Option (Int × Int)} (hI0 : IptIn nr p v a)
    (hh : A.handled = none) (hr : IsRange s.heap r 0 b₀ 1 t₀ u₀ v₀) (hb0 : 0 ≤ b₀) (hb1 : b₀ < 100) (F : Fr h₀ env.locals s.heap m₀)
    (N : News h₀ env.locals s.heap ((l, listOf [Value.none].toArray cnt) :: rest)) (hrest : AllLt l rest)
    (turn : ∀ i vs cnt tl k t h tk own, i < b₀.toNat → (∀ q ∈ tl ++ rest, q.1 ≠ l) → (∀ q ∈ own, q.1 ≠ l) → (∀ q ∈ own, ∀ r ∈ tl ++ rest, q.1 ≠ r.1) → SumsOk (tl ++ rest) p (Sit p a) vs i →
      Fr h₀ env.locals h (fun z => if z = x then some (.int k t) else m₀ z) → News h₀ env.locals h ((l, listOf vs.toArray cnt) :: ((tl ++ rest) ++ own)) →
      wpAny (model prog w) A (execs body env) (TbPost h₀ env.locals (SumsJ x l p (Sit p a) m₀ rest (i + 1)) own { s with heap := h, toks := tk } Q) E { s with heap := h, toks := tk })
    (done : ∀ (u : Str → Option Value) vs cnt tl h tk, (∀ q ∈ tl ++ rest, q.1 ≠ l) → SumsOk (tl ++ rest) p (Sit p a) vs b₀.toNat → Fr h₀ env.locals h (fun z => if z = x then u z else m₀ z) → News h₀ env.locals h ((l, listOf vs.toArray cnt) :: (tl ++ rest)) → Q .next { s with heap := h, toks := tk }) :
    wpAny (model prog w) A (pyIter (.ref r)) (fun it s₂ => LoopAtV prog w A h₀ env x body Q E it s₂) E s := by
  refine rng_sums (Sit p a) hh hr (small_one (by omega) (by omega) (by omega) (by omega)) ?_ F N hrest rfl turn done
  have e : b₀ = ((b₀.toNat : Nat) : Int) := by omega
  rw [e]
  exact rangeSize_nat _ _
end
theorem SumsOk.len {nx : List (Addr × Obj)} {p : Int} {S : Nat → Option (Int × Int)} {vs : List Value} {i : Nat} (h : SumsOk nx p S vs i) : vs.length = i + 1 := h.1
theorem prod2 {a b : Int} (ha0 : 0 ≤ a) (ha : a ≤ 2) (hb0 : 0 ≤ b) (hb : b ≤ 2) : 0 ≤ a * b ∧ a * b ≤ 4 := by
  have h1 : a = 0 ∨ a = 1 ∨ a = 2 := by omega
  have h2 : b = 0 ∨ b = 1 ∨ b = 2 := by omega
  rcases h1 with rfl | rfl | rfl <;> rcases h2 with rfl | rfl | rfl <;> decide
theorem law_menu {prog : Program} {w : World} {A : Around} {E : Value → Shared → Prop} {s : Shared} {value slice : PySem.Expr} {h₀ : Heap} {L l : Addr} {news : List (Addr × Obj)} {a b d e : Int} {t0 t1 t2 t3 : Tok} {n : Nat} {u : Tok} {Q : Value → Shared → Prop}
    (N : News h₀ L s.heap news) (hm : (l, listOf [Value.int (a.fmod 3 + b.fmod 3) t0, .int (a.fmod 3 * b.fmod 3) t1, .int (d.fmod 13) t2, .int (b.fmod 3) t3].toArray n) ∈ news)
    (h : ∀ c t, 0 ≤ c → c ≤ 12 → 0 ≤ a.fmod 3 → a.fmod 3 ≤ 2 → 0 ≤ b.fmod 3 → b.fmod 3 ≤ 2 → 0 ≤ e.fmod 4 → e.fmod 4 < 4 → 0 ≤ a.fmod 3 * b.fmod 3 → a.fmod 3 * b.fmod 3 ≤ 4 → (e.fmod 4 = 0 → c = a.fmod 3 + b.fmod 3) → (e.fmod 4 = 1 → c = a.fmod 3 * b.fmod 3) → Q (.int c t) s)
    (hs : subscripted slice false (.ref l) (.int (e.fmod 4) u) = operate [.ref l, .int (e.fmod 4) u] (getItem (.ref l) (.int (e.fmod 4) u)) := by with_unfolding_all rfl) :
    wpAny (model prog w) A (subscriptTail value slice (.ref l) (.int (e.fmod 4) u)) Q E s := by
  have a0 : 0 ≤ a.fmod 3 := fm0 (by omega)
  have a1 : a.fmod 3 < 3 := fm1 (by omega)
  have b0 : 0 ≤ b.fmod 3 := fm0 (by omega)
  have b1 : b.fmod 3 < 3 := fm1 (by omega)
  have d0 : 0 ≤ d.fmod 13 := fm0 (by omega)
  have d1 : d.fmod 13 < 13 := fm1 (by omega)
  have e0 : 0 ≤ e.fmod 4 := fm0 (by omega)
  have e1 : e.fmod 4 < 4 := fm1 (by omega)
  have pr := prod2 a0 (by omega) b0 (by omega)
  refine menu_item N hm e0 e1 (fun i t h0 h1 h2 h3 => h i t ?_ ?_ a0 (by omega) b0 (by omega) e0 e1 pr.1 pr.2 h0 h1) hs
  · omega
  · omega
theorem news_keeps {h₀ h h' : Heap} {L : Addr} {news : List (Addr × Obj)} (N : News h₀ L h news) (k : ∀ b o, h.get? b = some o → h'.get? b = some o) : News h₀ L h' news := fun p hp => ⟨k _ _ (N p hp).1, (N p hp).2⟩
theorem news_keeps2 {h₀ h h1 h' : Heap} {L : Addr} {news : List (Addr × Obj)} (N : News h₀ L h news) (k1 : ∀ b o, h.get? b = some o → h1.get? b = some o) (k2 : ∀ b o, h1.get? b = some o → h'.get? b = some o) : News h₀ L h' news := news_keeps (news_keeps N k1) k2
theorem news_keeps3 {h₀ h h1 h2 h' : Heap} {L : Addr} {news : List (Addr × Obj)} (N : News h₀ L h news) (k1 : ∀ b o, h.get? b = some o → h1.get? b = some o) (k2 : ∀ b o, h1.get? b = some o → h2.get? b = some o) (k3 : ∀ b o, h2.get? b = some o → h'.get? b = some o) : News h₀ L h' news := news_keeps (news_keeps2 N k1 k2) k3
theorem max3 {prog : Program} {w : World} {A : Around} {E : Value → Shared → Prop} {s : Shared} {h₀ : Heap} {L : Addr} {m : Str → Option Value} {news : List (Addr × Obj)} {a b c : Int} {t u x : Tok} {Q : Value → Shared → Prop} (hh : A.handled = none) (F : Fr h₀ L s.heap m) (N : News h₀ L s.heap news)
    (h : ∀ M t' h' tk, Fr h₀ L h' m → News h₀ L h' news → a ≤ M → b ≤ M → c ≤ M → (M = a ∨ M = b ∨ M = c) → Q (.int M t') { s with heap := h', toks := tk }) :
    wpAny (model prog w) A (call (.builtin "max") [.int a t, .int b u, .int c x]) Q E s :=
  max_three_ints hh fun h' tk hk => by
    have key := fun M t' => h M t' h' tk (F.grownK hk) (N.grown hk)
    split
    · split
      · exact key _ _ (by omega) (by omega) (by omega) (by simp)
      · exact key _ _ (by omega) (by omega) (by omega) (by simp)
    · split
      · exact key _ _ (by omega) (by omega) (by omega) (by simp)
      · exact key _ _ (by omega) (by omega) (by omega) (by simp)

end
-- part L4p
section
/-- a point, as data -/
def ptD : Option (Int × Int) → PyData
  | none => .none
  | some (x, y) => .tuple [.int x, .int y]
theorem ptD_shaped (a : Option (Int × Int)) : SeqAt.shaped (ptD a) = true := by
  cases a with
  | none => rfl
  | some p => obtain ⟨x, y⟩ := p; rfl
theorem ptD_same (a : Option (Int × Int)) : (ptD a).eqv (ptD a) = true := by
  cases a with
  | none => rfl
  | some p => obtain ⟨x, y⟩ := p; simp [ptD, PyData.eqv, PyData.eqvAll]
theorem ipt_reads {h₀ h : Heap} {L : Addr} {nx : List (Addr × Obj)} {p : Int} {v : Value} {a : Option (Int × Int)} (N : News h₀ L h nx) (k : IptIn nx p v a) : ∃ as, Reads h v (ptD a) as := by
  cases k with
  | none => exact ⟨_, Reads.none⟩
  | some m _ _ _ _ => exact ⟨_, reads_tuple_at (N _ m).1 rfl rfl (ReadsAll.cons (Reads.int _ _) (ReadsAll.cons (Reads.int _ _) ReadsAll.nil))⟩
section
variable {prog : Program} {w : World} {A : Around} {E : Value → Shared → Prop} {s : Shared} {h₀ : Heap} {L : Addr} {nx : List (Addr × Obj)} {p : Int} {v u : Value} {a b : Option (Int × Int)} {Q : Value → Shared → Prop}
theorem ipt_eq (N : News h₀ L s.heap nx) (hv : IptIn nx p v a) (hu : IptIn nx p u b) (e : a = b) (hA : A.units + 64 < cLine) (h : Q (.bool true) s) : wpAny (model prog w) A (compareOp .Eq v u) Q E s := by
  subst e
  obtain ⟨as, r1⟩ := ipt_reads N hv
  obtain ⟨bs, r2⟩ := ipt_reads N hu
  exact eq_dataH r1 r2 (ptD_shaped _) (ptD_shaped _) hA (by rw [ptD_same]; exact h)
theorem ipt_ne (N : News h₀ L s.heap nx) (hv : IptIn nx p v a) (hu : IptIn nx p u b) (e : a = b) (hA : A.units + 64 < cLine) (h : Q (.bool false) s) : wpAny (model prog w) A (compareOp .NotEq v u) Q E s := by
  subst e
  obtain ⟨as, r1⟩ := ipt_reads N hv
  obtain ⟨bs, r2⟩ := ipt_reads N hu
  exact ne_dataH r1 r2 (ptD_shaped _) (ptD_shaped _) hA (by rw [ptD_same]; exact h)
end
theorem ipt_B {nx : List (Addr × Obj)} {p : Int} {v : Value} {a : Option (Int × Int)} (h : IptIn nx p v a) : ∀ x y, a = some (x, y) → 0 ≤ x ∧ x < p ∧ 0 ≤ y ∧ y < p := by
  cases h with
  | none => intro x y e; cases e
  | some _ b c d e => intro x y z; cases z; exact ⟨b, c, d, e⟩
/-- a point of the curve, its parts reduced -/
def Pt (p b : Int) (a : Option (Int × Int)) : Prop := OnC p b a ∧ ∀ x y, a = some (x, y) → 0 ≤ x ∧ x < p ∧ 0 ≤ y ∧ y < p
theorem pt_none_inv {P : Params} {nx : List (Addr × Obj)} {p : Int} {v : Value} {a : Option (Int × Int)} (h : PtIn P nx p v a) (e : a = none) : v = .none := by
  subst e; cases h; rfl
theorem mulN_none (p : Int) : ∀ (k : Nat) (n : Int), mulN p k none n = none
  | 0, _ => rfl
  | k + 1, n => by
    simp only [mulN]
    split
    · rfl
    · split
      · rfl
      · split
        · exact mulN_none p k _
        · show addP p (mulN p k none _) none = none
          rw [mulN_none p k _]; rfl
/-- F1 .. F5: what the law asks of points -/
def Law1 : Prop := ∀ (p b : Int) (a : Option (Int × Int)) (n : Int), Pr p → GoodB p b → Pt p b a → 0 ≤ n → n ≤ 12 → mulN p 4 (madeP p a) n = Sit p a n.toNat
def Law2 : Prop := ∀ (p b : Int) (a : Option (Int × Int)) (m n : Int), Pr p → GoodB p b → Pt p b a → 0 ≤ m → m ≤ 2 → 0 ≤ n → n ≤ 2 → addP p (mulN p 4 (madeP p a) m) (mulN p 4 (madeP p a) n) = Sit p a (m + n).toNat
def Law3 : Prop := ∀ (p b : Int) (a : Option (Int × Int)) (m n : Int), Pr p → GoodB p b → Pt p b a → 0 ≤ m → m ≤ 2 → 0 ≤ n → n ≤ 2 → mulN p 4 (mulN p 4 (madeP p a) m) n = Sit p a (m * n).toNat
def Law5 : Prop := ∀ (p b : Int) (a c : Option (Int × Int)) (n : Int), Pr p → GoodB p b → Pt p b a → Pt p b c → 0 ≤ n → n ≤ 2 → mulN p 4 (madeP p (sumP p a c)) n = addP p (mulN p 4 (madeP p a) n) (mulN p 4 (madeP p c) n)
theorem pt_of {nx : List (Addr × Obj)} {p b : Int} {v : Value} {a : Option (Int × Int)} (h : OnC p b a) (k : IptIn nx p v a) : Pt p b a := ⟨h, ipt_B k⟩
theorem Law1.use {p b : Int} {a : Option (Int × Int)} {n : Int} (H : Law1) (hp : Pr p) (hb : GoodB p b) (ha : Pt p b a) (h0 : 0 ≤ n) (h1 : n ≤ 12) : mulN p 4 (madeP p a) n = Sit p a n.toNat := H p b a n hp hb ha h0 h1
theorem Law2.use {p b : Int} {a : Option (Int × Int)} {m n : Int} (H : Law2) (hp : Pr p) (hb : GoodB p b) (ha : Pt p b a) (h0 : 0 ≤ m) (h1 : m ≤ 2) (h2 : 0 ≤ n) (h3 : n ≤ 2) : addP p (mulN p 4 (madeP p a) m) (mulN p 4 (madeP p a) n) = Sit p a (m + n).toNat := H p b a m n hp hb ha h0 h1 h2 h3
theorem Law3.use {p b : Int} {a : Option (Int × Int)} {m n : Int} (H : Law3) (hp : Pr p) (hb : GoodB p b) (ha : Pt p b a) (h0 : 0 ≤ m) (h1 : m ≤ 2) (h2 : 0 ≤ n) (h3 : n ≤ 2) : mulN p 4 (mulN p 4 (madeP p a) m) n = Sit p a (m * n).toNat := H p b a m n hp hb ha h0 h1 h2 h3
theorem Law5.use {p b : Int} {a c : Option (Int × Int)} {n : Int} (H : Law5) (hp : Pr p) (hb : GoodB p b) (ha : Pt p b a) (hc : Pt p b c) (h0 : 0 ≤ n) (h1 : n ≤ 2) : mulN p 4 (madeP p (sumP p a c)) n = addP p (mulN p 4 (madeP p a) n) (mulN p 4 (madeP p c) n) := H p b a c n hp hb ha hc h0 h1
inductive RelNI (n : Int) : List Value → Prop where
  | mk {t : Tok} : RelNI n [.none, .int n t]
theorem mulNone_ok (w : World) (n : Int) (h0 : 0 ≤ n) (h1 : n < 16) : Ctr w 49 (90 + 4 * 4) (fun _ vs => RelNI n vs) (fun _ r => r = .none) := by
  intro mean mg mb dp un gd cn cs a ccd cl outer A₀ base h₀ L m news s vs Q E B F X N T hk R hd hu hret
  cases R with
  | mk =>
    exact MulOk.use (mul_all w 7 (.inl rfl) 4) h0 (by omega) mean mg mb dp un gd cn cs a ccd cl outer A₀ base h₀ L m news s _ Q E B F X N T hk (RelPI.mk (p := 7) (a := none) PtIn.none) hd hu
      (fun r nx h' tk' F' N' U O => hret r nx h' tk' F' N' U (pt_none_inv O (mulN_none _ _ _)))

end
-- part P1
section
/-- congruence -/
def Cg (p a b : Int) : Prop := ∃ k, a - b = p * k
theorem Cg.refl {p a : Int} : Cg p a a := ⟨0, by grind⟩
theorem Cg.of {p a b : Int} (h : a = b) : Cg p a b := ⟨0, by grind⟩
theorem Cg.symm {p a b : Int} (h : Cg p a b) : Cg p b a := by obtain ⟨k, h⟩ := h; exact ⟨-k, by grind⟩
theorem Cg.trans {p a b c : Int} (h : Cg p a b) (g : Cg p b c) : Cg p a c := by obtain ⟨k, h⟩ := h; obtain ⟨l, g⟩ := g; exact ⟨k + l, by grind⟩
theorem Cg.add {p a b c d : Int} (h : Cg p a b) (g : Cg p c d) : Cg p (a + c) (b + d) := by obtain ⟨k, h⟩ := h; obtain ⟨l, g⟩ := g; exact ⟨k + l, by grind⟩
theorem Cg.sub {p a b c d : Int} (h : Cg p a b) (g : Cg p c d) : Cg p (a - c) (b - d) := by obtain ⟨k, h⟩ := h; obtain ⟨l, g⟩ := g; exact ⟨k - l, by grind⟩
theorem Cg.neg {p a b : Int} (h : Cg p a b) : Cg p (-a) (-b) := by obtain ⟨k, h⟩ := h; exact ⟨-k, by grind⟩
theorem Cg.mul {p a b c d : Int} (h : Cg p a b) (g : Cg p c d) : Cg p (a * c) (b * d) := by obtain ⟨k, h⟩ := h; obtain ⟨l, g⟩ := g; exact ⟨k * c + b * l, by grind⟩
theorem Cg.red {p a : Int} : Cg p (a.fmod p) a := ⟨-(a.fdiv p), by rw [fmod_k]; grind⟩
theorem Cg.red' {p a b : Int} (h : Cg p a b) : Cg p (a.fmod p) b := Cg.red.trans h
theorem Cg.eq {p a b : Int} (h : Cg p a b) : a.fmod p = b.fmod p := by obtain ⟨k, h⟩ := h; exact fmod_eq_of h
theorem Cg.of_eq {p a b : Int} (h : a.fmod p = b.fmod p) : Cg p a b := (Cg.red (a := a)).symm.trans ((Cg.of h).trans Cg.red)
theorem Cg.small {p a b : Int} (h : Cg p a b) (a0 : 0 ≤ a) (a1 : a < p) (b0 : 0 ≤ b) (b1 : b < p) : a = b := by
  have := h.eq
  rwa [fmod_small a0 a1, fmod_small b0 b1] at this
/-- inverse of a number that is not 0 -/
theorem inv_cg {p a : Int} (hp : Pr p) (h0 : 0 ≤ a) (h1 : a < p) (hne : a ≠ 0) : Cg p (a * invP a p) 1 := by
  have hlo := hp.lo
  refine Cg.of_eq ?_
  rw [inv_mul hp h0 h1 hne, fmod_small (by omega) (by omega)]
theorem invP_rng (a : Int) {p : Int} (hp : Pr p) : 0 ≤ invP a p ∧ invP a p < p := ⟨pmod_lo _ _ _, pmod_hi (by have := hp.lo; omega)⟩
/-- u * v is 1: so v takes u away -/
theorem Cg.cancel {p u v a b : Int} (h : Cg p (u * v) 1) (g : Cg p (u * a) (u * b)) : Cg p a b := by
  obtain ⟨k, h⟩ := h
  obtain ⟨l, g⟩ := g
  exact ⟨v * l - k * (a - b), by grind⟩
/-- the inverse of a multiple -/
theorem inv_scale {p k w a : Int} (hp : Pr p) (hk : Cg p (k * w) 1) (h0 : 0 ≤ a) (h1 : a < p) : Cg p (invP ((k * a).fmod p) p) (w * invP a p) := by
  have hlo := hp.lo
  by_cases ha : a = 0
  · subst ha
    have : (k * 0).fmod p = 0 := by rw [Int.mul_zero]; exact fmod_small (by omega) (by omega)
    rw [this, invP_zero hp, Int.mul_zero]
    exact Cg.refl
  · have hka : (k * a).fmod p ≠ 0 := by
      intro e
      have c : Cg p (k * a) (k * 0) := by
        refine Cg.of_eq ?_
        rw [e, Int.mul_zero]
        exact (fmod_small (by omega) (by omega)).symm
      exact ha ((Cg.cancel hk c).small h0 h1 (by omega) (by omega))
    have e1 := inv_cg hp (fm0 (x := k * a) (by omega)) (fm1 (by omega)) hka
    have e2 := inv_cg hp h0 h1 ha
    -- (k a) * inv(k a) = 1 = (k w) (a inv a)
    have e3 : Cg p ((k * a) * invP ((k * a).fmod p) p) 1 := (Cg.mul (Cg.red (a := k * a)).symm Cg.refl).trans e1
    have e4 : Cg p ((k * a) * (w * invP a p)) 1 := by
      have := Cg.mul hk e2
      refine (Cg.of ?_).trans (this.trans (Cg.of (by omega)))
      grind
    refine Cg.cancel e4 ?_
    exact e3.trans e4.symm

end
-- part P2
section
def sc (p u : Int) : Option (Int × Int) → Option (Int × Int)
  | none => none
  | some (x, y) => some ((u * u * x).fmod p, (u * u * u * y).fmod p)
theorem cube1 {p u v : Int} (h : Cg p (u * v) 1) : Cg p (u * u * u * (v * v * v)) 1 :=
  (Cg.of (by grind)).trans ((Cg.mul (Cg.mul h h) h).trans (Cg.of (by omega)))
theorem dbl_core {p u v x y X Y i i' : Int} (h : Cg p (u * v) 1) (hX : Cg p X (u * u * x)) (hY : Cg p Y (u * u * u * y)) (hi : Cg p i' (v * v * v * i)) :
    (let m' := ((((X * X).fmod p) * 3).fmod p * i').fmod p
     let n' := ((m' * m').fmod p - (X * 2).fmod p).fmod p
     let m := ((((x * x).fmod p) * 3).fmod p * i).fmod p
     let n := ((m * m).fmod p - (x * 2).fmod p).fmod p
     n' = (u * u * n).fmod p ∧ ((((-m').fmod p * n').fmod p + (m' * X).fmod p).fmod p - Y).fmod p = (u * u * u * (((((-m).fmod p * n).fmod p + (m * x).fmod p).fmod p - y).fmod p)).fmod p) := by
  intro m' n' m n
  have hm : Cg p m (x * x * 3 * i) := Cg.red' (Cg.mul (Cg.red' (Cg.mul Cg.red Cg.refl)) Cg.refl)
  have hm0 : Cg p m' (u * u * x * (u * u * x) * 3 * (v * v * v * i)) := Cg.red' (Cg.mul (Cg.red' (Cg.mul (Cg.red' (Cg.mul hX hX)) Cg.refl)) hi)
  have hm' : Cg p m' (u * m) := by
    refine hm0.trans ?_
    refine Cg.trans (b := (u * u * u * (v * v * v)) * (u * (x * x * 3 * i))) (Cg.of (by grind)) ?_
    refine (Cg.mul (cube1 h) Cg.refl).trans ?_
    refine Cg.trans (b := u * (x * x * 3 * i)) (Cg.of (by omega)) (Cg.mul Cg.refl hm.symm)
  have hn : Cg p n (m * m - x * 2) := Cg.red' (Cg.sub Cg.red Cg.red)
  have hn0 : Cg p ((m' * m').fmod p - (X * 2).fmod p) (u * u * n) := by
    refine (Cg.sub (Cg.red' (Cg.mul hm' hm')) (Cg.red' (Cg.mul hX Cg.refl))).trans ?_
    refine Cg.trans (b := u * u * (m * m - x * 2)) (Cg.of (by grind)) (Cg.mul Cg.refl hn.symm)
  have hn' : Cg p n' (u * u * n) := Cg.red' hn0
  refine ⟨hn0.eq, Cg.eq ?_⟩
  refine (Cg.sub (Cg.red' (Cg.add (Cg.red' (Cg.mul (Cg.red' (Cg.neg hm')) hn')) (Cg.red' (Cg.mul hm' hX)))) hY).trans ?_
  refine Cg.trans (b := u * u * u * (-m * n + m * x - y)) (Cg.of (by grind)) (Cg.mul Cg.refl (Cg.symm ?_))
  exact Cg.red' (Cg.sub (Cg.red' (Cg.add (Cg.red' (Cg.mul Cg.red Cg.refl)) Cg.red)) Cg.refl)
theorem dbl_sc {p u v x y : Int} (hp : Pr p) (h : Cg p (u * v) 1) : dblP p (sc p u (some (x, y))) = sc p u (dblP p (some (x, y))) := by
  have hlo := hp.lo
  have hi : Cg p (invP ((((u * u * u * y).fmod p) * 2).fmod p) p) (v * v * v * invP ((y * 2).fmod p) p) := by
    have e : (((u * u * u * y).fmod p) * 2).fmod p = (u * u * u * ((y * 2).fmod p)).fmod p := Cg.eq ((Cg.mul Cg.red Cg.refl).trans ((Cg.of (by grind)).trans (Cg.mul Cg.refl Cg.red.symm)))
    rw [e]
    exact inv_scale hp (cube1 h) (fm0 (by omega)) (fm1 (by omega))
  obtain ⟨h1, h2⟩ := dbl_core (x := x) (y := y) (X := (u * u * x).fmod p) (Y := (u * u * u * y).fmod p) h Cg.red Cg.red hi
  simp only [sc, dblP]
  exact congrArg some (Prod.ext h1 h2)

end
-- part P3
section
theorem sc_inj {p k w x y : Int} (h : Cg p (k * w) 1) (x0 : 0 ≤ x) (x1 : x < p) (y0 : 0 ≤ y) (y1 : y < p) : (k * x).fmod p = (k * y).fmod p ↔ x = y :=
  ⟨fun e => (Cg.cancel h (Cg.of_eq e)).small x0 x1 y0 y1, fun e => by rw [e]⟩
theorem sq1 {p u v : Int} (h : Cg p (u * v) 1) : Cg p (u * u * (v * v)) 1 := (Cg.of (by grind)).trans ((Cg.mul h h).trans (Cg.of (by omega)))
theorem sc_zero {p k w a b : Int} (hp : 0 < p) (h : Cg p (k * w) 1) : ((k * a).fmod p + (k * b).fmod p).fmod p = 0 ↔ (a + b).fmod p = 0 := by
  have z : (0 : Int).fmod p = 0 := by simp
  have c : Cg p ((k * a).fmod p + (k * b).fmod p) (k * (a + b)) := (Cg.add Cg.red Cg.red).trans (Cg.of (by grind))
  constructor
  · intro e
    have e1 : Cg p (k * (a + b)) (k * 0) := c.symm.trans (Cg.of_eq (by rw [e, Int.mul_zero, z]))
    rw [(Cg.cancel h e1).eq, z]
  · intro e
    have e1 : Cg p (a + b) 0 := Cg.of_eq (by rw [e, z])
    rw [(c.trans (Cg.mul Cg.refl e1)).eq, Int.mul_zero, z]
theorem inv_sub {p u v x1 x2 : Int} (hp : Pr p) (h : Cg p (u * v) 1) : Cg p (invP (((u * u * x2).fmod p - (u * u * x1).fmod p).fmod p) p) (v * v * invP ((x2 - x1).fmod p) p) := by
  have hlo := hp.lo
  have e : ((u * u * x2).fmod p - (u * u * x1).fmod p).fmod p = (u * u * ((x2 - x1).fmod p)).fmod p := Cg.eq ((Cg.sub Cg.red Cg.red).trans ((Cg.of (by grind)).trans (Cg.mul Cg.refl Cg.red.symm)))
  rw [e]
  exact inv_scale hp (sq1 h) (fm0 (by omega)) (fm1 (by omega))
theorem inv_two {p u v y : Int} (hp : Pr p) (h : Cg p (u * v) 1) : Cg p (invP ((2 * (u * u * u * y).fmod p).fmod p) p) (v * v * v * invP ((2 * y).fmod p) p) := by
  have hlo := hp.lo
  have e : (2 * (u * u * u * y).fmod p).fmod p = (u * u * u * ((2 * y).fmod p)).fmod p := Cg.eq ((Cg.mul Cg.refl Cg.red).trans ((Cg.of (by grind)).trans (Cg.mul Cg.refl Cg.red.symm)))
  rw [e]
  exact inv_scale hp (cube1 h) (fm0 (by omega)) (fm1 (by omega))
theorem sum_core {p u x1 y1 x2 X1 Y1 X2 m m' : Int} (hX1 : Cg p X1 (u * u * x1)) (hX2 : Cg p X2 (u * u * x2)) (hY1 : Cg p Y1 (u * u * u * y1)) (hm : Cg p m' (u * m)) :
    (m' * m' - X1 - X2).fmod p = (u * u * ((m * m - x1 - x2).fmod p)).fmod p ∧
      (m' * (X1 - (m' * m' - X1 - X2).fmod p) - Y1).fmod p = (u * u * u * ((m * (x1 - (m * m - x1 - x2).fmod p) - y1).fmod p)).fmod p := by
  have h0 : Cg p (m' * m' - X1 - X2) (u * u * ((m * m - x1 - x2).fmod p)) := by
    refine (Cg.sub (Cg.sub (Cg.mul hm hm) hX1) hX2).trans ?_
    exact Cg.trans (b := u * u * (m * m - x1 - x2)) (Cg.of (by grind)) (Cg.mul Cg.refl Cg.red.symm)
  refine ⟨h0.eq, Cg.eq ?_⟩
  refine (Cg.sub (Cg.mul hm (Cg.sub hX1 (Cg.red' h0))) hY1).trans ?_
  exact Cg.trans (b := u * u * u * (m * (x1 - (m * m - x1 - x2).fmod p) - y1)) (Cg.of (by grind)) (Cg.mul Cg.refl Cg.red.symm)
theorem m_chord {p u v y1 y2 Y1 Y2 i i' : Int} (h : Cg p (u * v) 1) (h1 : Cg p Y1 (u * u * u * y1)) (h2 : Cg p Y2 (u * u * u * y2)) (hi : Cg p i' (v * v * i)) : Cg p ((Y2 - Y1) * i') (u * ((y2 - y1) * i)) := by
  refine (Cg.mul (Cg.sub h2 h1) hi).trans ?_
  refine Cg.trans (b := u * u * (v * v) * (u * ((y2 - y1) * i))) (Cg.of (by grind)) ((Cg.mul (sq1 h) Cg.refl).trans (Cg.of (by omega)))
theorem m_tang {p u v x X i i' : Int} (h : Cg p (u * v) 1) (h1 : Cg p X (u * u * x)) (hi : Cg p i' (v * v * v * i)) : Cg p (3 * X * X * i') (u * (3 * x * x * i)) := by
  refine (Cg.mul (Cg.mul (Cg.mul Cg.refl h1) h1) hi).trans ?_
  refine Cg.trans (b := u * u * u * (v * v * v) * (u * (3 * x * x * i))) (Cg.of (by grind)) ((Cg.mul (cube1 h) Cg.refl).trans (Cg.of (by omega)))
/-- in its bounds -/
def Rg (p : Int) (a : Option (Int × Int)) : Prop := ∀ x y, a = some (x, y) → 0 ≤ x ∧ x < p ∧ 0 ≤ y ∧ y < p
theorem sum_sc {p u v : Int} (hp : Pr p) (h : Cg p (u * v) 1) (a b : Option (Int × Int)) (ha : Rg p a) (hb : Rg p b) : sumP p (sc p u a) (sc p u b) = sc p u (sumP p a b) := by
  have hlo := hp.lo
  rcases a with _ | ⟨x1, y1⟩
  · rfl
  rcases b with _ | ⟨x2, y2⟩
  · rfl
  obtain ⟨a0, a1, a2, a3⟩ := ha x1 y1 rfl
  obtain ⟨b0, b1, b2, b3⟩ := hb x2 y2 rfl
  have c1 : ((u * u * x1).fmod p = (u * u * x2).fmod p) = (x1 = x2) := propext (sc_inj (sq1 h) a0 a1 b0 b1)
  have c2 : ((u * u * u * y1).fmod p = (u * u * u * y2).fmod p) = (y1 = y2) := propext (sc_inj (cube1 h) a2 a3 b2 b3)
  have c3 : (((u * u * u * y1).fmod p + (u * u * u * y2).fmod p).fmod p = 0) = ((y1 + y2).fmod p = 0) := propext (sc_zero (by omega) (cube1 h))
  show sumP p (some ((u * u * x1).fmod p, (u * u * u * y1).fmod p)) (some ((u * u * x2).fmod p, (u * u * u * y2).fmod p)) = _
  simp only [sumP, c1, c2, c3]
  by_cases d : x1 = x2 ∧ (y1 + y2).fmod p = 0
  · rw [if_pos d, if_pos d]; rfl
  rw [if_neg d, if_neg d]
  by_cases e : x1 = x2 ∧ y1 = y2
  · rw [if_pos e, if_pos e]
    obtain ⟨k1, k2⟩ := sum_core (p := p) (u := u) (x1 := x1) (y1 := y1) (x2 := x2) Cg.red Cg.red Cg.red (m_tang h (Cg.red (a := u * u * x1)) (inv_two (y := y1) hp h))
    exact congrArg some (Prod.ext k1 k2)
  · rw [if_neg e, if_neg e]
    obtain ⟨k1, k2⟩ := sum_core (p := p) (u := u) (x1 := x1) (y1 := y1) (x2 := x2) Cg.red Cg.red Cg.red (m_chord h (Cg.red (a := u * u * u * y1)) (Cg.red (a := u * u * u * y2)) (inv_sub (x1 := x1) (x2 := x2) hp h))
    exact congrArg some (Prod.ext k1 k2)

end
-- part P4
section
theorem add_core {p u x1 y1 x2 X1 Y1 X2 m m' : Int} (hX1 : Cg p X1 (u * u * x1)) (hX2 : Cg p X2 (u * u * x2)) (hY1 : Cg p Y1 (u * u * u * y1)) (hm : Cg p m' (u * m)) :
    (((m' * m').fmod p - X1).fmod p - X2).fmod p = (u * u * ((((m * m).fmod p - x1).fmod p - x2).fmod p)).fmod p ∧
      ((((-m').fmod p * (((m' * m').fmod p - X1).fmod p - X2).fmod p).fmod p + (m' * X1).fmod p).fmod p - Y1).fmod p =
        (u * u * u * (((((-m).fmod p * (((m * m).fmod p - x1).fmod p - x2).fmod p).fmod p + (m * x1).fmod p).fmod p - y1).fmod p)).fmod p := by
  have hn : Cg p ((((m * m).fmod p - x1).fmod p - x2).fmod p) (m * m - x1 - x2) := Cg.red' (Cg.sub (Cg.red' (Cg.sub Cg.red Cg.refl)) Cg.refl)
  have h0 : Cg p (((m' * m').fmod p - X1).fmod p - X2) (u * u * ((((m * m).fmod p - x1).fmod p - x2).fmod p)) := by
    refine (Cg.sub (Cg.red' (Cg.sub (Cg.red' (Cg.mul hm hm)) hX1)) hX2).trans ?_
    exact Cg.trans (b := u * u * (m * m - x1 - x2)) (Cg.of (by grind)) (Cg.mul Cg.refl hn.symm)
  generalize hN : (((m * m).fmod p - x1).fmod p - x2).fmod p = n at *
  refine ⟨h0.eq, Cg.eq ?_⟩
  refine (Cg.sub (Cg.red' (Cg.add (Cg.red' (Cg.mul (Cg.red' (Cg.neg hm)) (Cg.red' h0))) (Cg.red' (Cg.mul hm hX1)))) hY1).trans ?_
  refine Cg.trans (b := u * u * u * (-m * n + m * x1 - y1)) (Cg.of (by grind)) (Cg.mul Cg.refl (Cg.symm ?_))
  exact Cg.red' (Cg.sub (Cg.red' (Cg.add (Cg.red' (Cg.mul Cg.red Cg.refl)) Cg.red)) Cg.refl)
theorem dbl_sc' {p u v : Int} (hp : Pr p) (h : Cg p (u * v) 1) (a : Option (Int × Int)) : dblP p (sc p u a) = sc p u (dblP p a) := by
  rcases a with _ | ⟨x, y⟩
  · rfl
  · exact dbl_sc hp h
theorem add_sc {p u v : Int} (hp : Pr p) (h : Cg p (u * v) 1) (a b : Option (Int × Int)) (ha : Rg p a) (hb : Rg p b) : addP p (sc p u a) (sc p u b) = sc p u (addP p a b) := by
  have hlo := hp.lo
  rcases a with _ | ⟨x1, y1⟩
  · rfl
  rcases b with _ | ⟨x2, y2⟩
  · rfl
  obtain ⟨a0, a1, a2, a3⟩ := ha x1 y1 rfl
  obtain ⟨b0, b1, b2, b3⟩ := hb x2 y2 rfl
  have c1 : ((u * u * x2).fmod p = (u * u * x1).fmod p) = (x2 = x1) := propext (sc_inj (sq1 h) b0 b1 a0 a1)
  have c2 : ((u * u * u * y2).fmod p = (u * u * u * y1).fmod p) = (y2 = y1) := propext (sc_inj (cube1 h) b2 b3 a2 a3)
  show addP p (some ((u * u * x1).fmod p, (u * u * u * y1).fmod p)) (some ((u * u * x2).fmod p, (u * u * u * y2).fmod p)) = _
  simp only [addP, c1, c2]
  by_cases d : x2 = x1
  · rw [if_pos d, if_pos d]
    by_cases e : y2 = y1
    · rw [if_pos e, if_pos e]; exact dbl_sc hp h
    · rw [if_neg e, if_neg e]; rfl
  · rw [if_neg d, if_neg d]
    have hm : Cg p ((((u * u * u * y2).fmod p - (u * u * u * y1).fmod p).fmod p * invP (((u * u * x2).fmod p - (u * u * x1).fmod p).fmod p) p).fmod p) (u * ((y2 - y1).fmod p * invP ((x2 - x1).fmod p) p).fmod p) :=
      Cg.red' ((Cg.mul Cg.red Cg.refl).trans ((m_chord h (Cg.red (a := u * u * u * y1)) (Cg.red (a := u * u * u * y2)) (inv_sub (x1 := x1) (x2 := x2) hp h)).trans (Cg.mul Cg.refl (Cg.trans (Cg.mul (Cg.red (a := y2 - y1)).symm Cg.refl) Cg.red.symm))))
    obtain ⟨k1, k2⟩ := add_core (p := p) (u := u) (x1 := x1) (y1 := y1) (x2 := x2) Cg.red Cg.red Cg.red hm
    exact congrArg some (Prod.ext k1 k2)
theorem rg_dbl {p : Int} (hp : Pr p) (a : Option (Int × Int)) : Rg p (dblP p a) := by
  have := hp.lo
  rcases a with _ | ⟨x, y⟩
  · intro x y e; cases e
  · intro x' y' e
    simp only [dblP, Option.some.injEq, Prod.mk.injEq] at e
    obtain ⟨rfl, rfl⟩ := e
    exact ⟨fm0 (by omega), fm1 (by omega), fm0 (by omega), fm1 (by omega)⟩
theorem rg_add {p : Int} (hp : Pr p) (a b : Option (Int × Int)) (ha : Rg p a) (hb : Rg p b) : Rg p (addP p a b) := by
  have := hp.lo
  rcases a with _ | ⟨x1, y1⟩
  · exact hb
  rcases b with _ | ⟨x2, y2⟩
  · exact ha
  simp only [addP]
  split
  · split
    · exact rg_dbl hp _
    · intro x y e; cases e
  · intro x' y' e
    simp only [Option.some.injEq, Prod.mk.injEq] at e
    obtain ⟨rfl, rfl⟩ := e
    exact ⟨fm0 (by omega), fm1 (by omega), fm0 (by omega), fm1 (by omega)⟩
theorem rg_sum {p : Int} (hp : Pr p) (a b : Option (Int × Int)) (ha : Rg p a) (hb : Rg p b) : Rg p (sumP p a b) := by
  have := hp.lo
  rcases a with _ | ⟨x1, y1⟩
  · exact hb
  rcases b with _ | ⟨x2, y2⟩
  · exact ha
  simp only [sumP]
  split
  · intro x y e; cases e
  · intro x' y' e
    simp only [Option.some.injEq, Prod.mk.injEq] at e
    obtain ⟨rfl, rfl⟩ := e
    exact ⟨fm0 (by omega), fm1 (by omega), fm0 (by omega), fm1 (by omega)⟩
theorem rg_none {p : Int} : Rg p none := fun _ _ e => by cases e
theorem rg_sc {p u : Int} (hp : Pr p) (a : Option (Int × Int)) : Rg p (sc p u a) := by
  have := hp.lo
  rcases a with _ | ⟨x, y⟩
  · exact rg_none
  · intro x' y' e
    simp only [sc, Option.some.injEq, Prod.mk.injEq] at e
    obtain ⟨rfl, rfl⟩ := e
    exact ⟨fm0 (by omega), fm1 (by omega), fm0 (by omega), fm1 (by omega)⟩
theorem rg_mul {p : Int} (hp : Pr p) : ∀ (k : Nat) (a : Option (Int × Int)) (n : Int), Rg p a → Rg p (mulN p k a n)
  | 0, _, _, _ => rg_none
  | k + 1, a, n, ha => by
    simp only [mulN]
    split
    · exact rg_none
    · split
      · exact ha
      · split
        · exact rg_mul hp k _ _ (rg_dbl hp _)
        · exact rg_add hp _ _ (rg_mul hp k _ _ (rg_dbl hp _)) ha
theorem rg_sit {p : Int} (hp : Pr p) (a : Option (Int × Int)) (ha : Rg p a) : ∀ k, Rg p (Sit p a k)
  | 0 => rg_none
  | k + 1 => rg_sum hp _ _ (rg_sit hp a ha k) ha
theorem mul_sc {p u v : Int} (hp : Pr p) (h : Cg p (u * v) 1) : ∀ (k : Nat) (a : Option (Int × Int)) (n : Int), Rg p a → mulN p k (sc p u a) n = sc p u (mulN p k a n)
  | 0, _, _, _ => rfl
  | k + 1, a, n, ha => by
    simp only [mulN]
    rw [dbl_sc' hp h, mul_sc hp h k _ _ (rg_dbl hp _), add_sc hp h _ _ (rg_mul hp k _ _ (rg_dbl hp _)) ha]
    split
    · rfl
    · split
      · rfl
      · split <;> rfl
theorem sit_sc {p u v : Int} (hp : Pr p) (h : Cg p (u * v) 1) (a : Option (Int × Int)) (ha : Rg p a) : ∀ k, Sit p (sc p u a) k = sc p u (Sit p a k)
  | 0 => rfl
  | k + 1 => by
    simp only [Sit]
    rw [sit_sc hp h a ha k, sum_sc hp h _ _ (rg_sit hp a ha k) ha]
theorem made_rg {p : Int} {a : Option (Int × Int)} (ha : Rg p a) : madeP p a = a := by
  rcases a with _ | ⟨x, y⟩
  · rfl
  · obtain ⟨a0, a1, a2, a3⟩ := ha x y rfl
    simp only [madeP, fmod_small a0 a1, fmod_small a2 a3]

end
-- part P5
section
/-- the inverse, out of a table: seven bits a number -/
def iN (T a : Nat) : Nat := Nat.land (Nat.shiftRight T (7 * a)) 127
def dblE (p T : Nat) : Option (Nat × Nat) → Option (Nat × Nat)
  | none => none
  | some (x, y) =>
    let m := (3 * x * x * iN T (2 * y % p)) % p
    let nx := (m * m + 2 * p - 2 * x) % p
    some (nx, (m * (x + p - nx) + p - y) % p)
def addE (p T : Nat) : Option (Nat × Nat) → Option (Nat × Nat) → Option (Nat × Nat)
  | none, q => q
  | some a, none => some a
  | some (x1, y1), some (x2, y2) =>
    cond (Nat.beq x2 x1) (cond (Nat.beq y2 y1) (dblE p T (some (x1, y1))) none) <|
      let m := ((y2 + p - y1) * iN T ((x2 + p - x1) % p)) % p
      let nx := (m * m + 2 * p - x1 - x2) % p
      some (nx, (m * (x1 + p - nx) + p - y1) % p)
/-- where the law's sum is add's -/
def okE (p : Nat) : Option (Nat × Nat) → Option (Nat × Nat) → Bool
  | some (x1, y1), some (x2, y2) => cond (Nat.beq x1 x2) (cond (Nat.beq y1 y2) (!(Nat.beq ((y1 + y2) % p) 0)) (Nat.beq ((y1 + y2) % p) 0)) true
  | _, _ => true
def eqE : Option (Nat × Nat) → Option (Nat × Nat) → Bool
  | none, none => true
  | some (x, y), some (x', y') => Nat.beq x x' && Nat.beq y y'
  | _, _ => false
def mulE (p T : Nat) : Nat → Option (Nat × Nat) → Nat → Option (Nat × Nat)
  | 0, _, _ => none
  | k + 1, a, n => cond (Nat.beq n 0) none <| cond (Nat.beq n 1) a <| cond (Nat.beq (n % 2) 0) (mulE p T k (dblE p T a) (n / 2)) (addE p T (mulE p T k (dblE p T a) (n / 2)) a)
def tabT : Nat → Nat
  | 7 => 26491905704064
  | 19 => 1537283903575148512151222811459001155712
  | 31 => 49558991704920067259313054592924440367559653113263448318659526784
  | 43 => 1342054438505760852092317306715690751715437566897414580136013218851198967137995204185129088
  | 67 => 789049136407817570833723558767446180480822097386941683593449104277503504860405488336566832991564383054151180966993176254160025196655362474112
  | 79 => 18037417256347198248935623110950212144901094825992223175590180074961760492015580594121736260571800609543357495934720110535659439830535524974929158651723961019988050048
  | 103 => 8825090983611953800297788203080426545766167459975764352260824248269146067170727380686518368100796287336675403439288163274476134030973349206966255909866507181229611331172072096955161854049003694419356863101879217619072
  | 127 => 4078766433085741214365232050191091927946281984022387290430971814183864410555104602752368503637427002487629445124254989406201252599408798396433520929784097468401902933833362745271388682635503162641392738862163448660198907506500839794807812781447315600722986808105762944
  | _ => 0
theorem tab_ok : (prs.all fun p => (List.range p).all fun a => invP (a : Int) p == (iN (tabT p) a : Int)) = true := by decide +kernel
def tabS : Nat → Nat
  | 7 => 536936576
  | 19 => 4008453174789944886897873309883433088
  | 31 => 2008672794776166131303318493763525007607867166017422857732224
  | 43 => 4003841654061165989905444196078055516253565929238622611753218803318969113054197607039104
  | 67 => 4415545871236946255993068043382405174045613663927280366674979234184308642488384725282789627601085490699511316771848232959313804265923805312
  | 79 => 449891722662778095073297519294536314482181933816424606929705326842374757010613804993658385316333677249462341729087798248957178461022151506298188130571384422285440
  | 103 => 489211982300301868184515516765227300224701552658329588130584500651093821227428227015685224189872590392442703413950251154199429140718181608758092393649586283887954011204457180389172047502496933669157859627585077376
  | 127 => 173197222961855423625941782722808717923294171266669566633323817846024173320729718049769035653051599454879816505921600137927274602390358791404664524123279806379319083553946107532336011965721431965507166295293906533490809690813379544356391991975716250613693114744960
  | _ => 0
theorem sq_ok : (prs.all fun p => (List.range p).all fun y => Nat.beq y (iN (tabS p) (y * y % p)) || Nat.beq (p - y) (iN (tabS p) (y * y % p))) = true := by decide +kernel

end
-- part P6d
section
def rootE (p b : Nat) : Bool := (List.range p).any fun r => Nat.beq ((r * r * r + b) % p) 0

/-- every point (x, s), (x, p - s) of the curve of a -/
def chk5 (p T S : Nat) (x y : Nat) : Bool :=
  let b := (y * y + p - (x * x * x) % p) % p
  let d := dblE p T (some (x, y))
  rootE p b || (List.range p).all fun x2 =>
    let s := iN S ((x2 * x2 * x2 + b) % p)
    cond (Nat.beq (s * s % p) ((x2 * x2 * x2 + b) % p))
      ((okE p (some (x, y)) (some (x2, s)) && eqE (dblE p T (addE p T (some (x, y)) (some (x2, s)))) (addE p T d (dblE p T (some (x2, s))))) &&
      (okE p (some (x, y)) (some (x2, p - s)) && eqE (dblE p T (addE p T (some (x, y)) (some (x2, p - s)))) (addE p T d (dblE p T (some (x2, p - s))))))
    true
def sitE (p T : Nat) (a : Option (Nat × Nat)) : Nat → Option (Nat × Nat)
  | 0 => none
  | k + 1 => addE p T (sitE p T a k) a
def sitOk (p T : Nat) (a : Option (Nat × Nat)) : Nat → Bool
  | 0 => true
  | k + 1 => sitOk p T a k && okE p (sitE p T a k) a
def chk1 (p T : Nat) (x y : Nat) : Bool :=
  rootE p ((y * y + p - (x * x * x) % p) % p) ||
    (sitOk p T (some (x, y)) 12 && ((List.range 13).all fun n => eqE (mulE p T 4 (some (x, y)) n) (sitE p T (some (x, y)) n)) &&
      ((List.range 3).all fun m => (List.range 3).all fun n => eqE (addE p T (mulE p T 4 (some (x, y)) m) (mulE p T 4 (some (x, y)) n)) (sitE p T (some (x, y)) (m + n)) &&
        eqE (mulE p T 4 (mulE p T 4 (some (x, y)) m) n) (sitE p T (some (x, y)) (m * n))))
/-- the numbers up to a third power -/
def repC : Nat → List Nat
  | 7 => [1, 2, 3]
  | 19 => [1, 2, 4]
  | 31 => [1, 3, 5]
  | 43 => [1, 3, 7]
  | 67 => [1, 2, 4]
  | 79 => [1, 2, 4]
  | 103 => [1, 2, 4]
  | 127 => [1, 3, 9]
  | _ => []
theorem cube_ok : (prs.all fun p => (List.range p).all fun y => Nat.beq y 0 || (List.range p).any fun u => (repC p).any fun c => Nat.beq c (u * u * u * y % p)) = true := by decide +kernel
theorem repC_ok : (prs.all fun p => (repC p).all fun c => Nat.ble 1 c && Nat.ble (c + 1) p) = true := by decide +kernel
theorem cube_at {p y : Nat} (hp : p ∈ prs) (hy : y < p) (h0 : 0 < y) : ∃ u c, u < p ∧ c ∈ repC p ∧ 0 < c ∧ c < p ∧ c = u * u * u * y % p := by
  have k := List.all_eq_true.mp (List.all_eq_true.mp cube_ok p hp) y (List.mem_range.mpr hy)
  rw [Bool.or_eq_true] at k
  rcases k with k | k
  · have := Nat.beq_eq.mp k; omega
  · obtain ⟨u, hu, k⟩ := List.any_eq_true.mp k
    obtain ⟨c, hc, k⟩ := List.any_eq_true.mp k
    have r := List.all_eq_true.mp (List.all_eq_true.mp repC_ok p hp) c hc
    rw [Bool.and_eq_true] at r
    have r1 := Nat.le_of_ble_eq_true r.1
    have r2 := Nat.le_of_ble_eq_true r.2
    exact ⟨u, c, List.mem_range.mp hu, hc, by omega, by omega, Nat.beq_eq.mp k⟩

end
-- part P7
section
def up : Option (Nat × Nat) → Option (Int × Int)
  | none => none
  | some (x, y) => some ((x : Int), (y : Int))
def RgE (p : Nat) (a : Option (Nat × Nat)) : Prop := ∀ x y, a = some (x, y) → x < p ∧ y < p
theorem up_rg {p : Nat} {a : Option (Nat × Nat)} (h : RgE p a) : Rg p (up a) := by
  rcases a with _ | ⟨x, y⟩
  · exact rg_none
  · obtain ⟨h1, h2⟩ := h x y rfl
    intro x' y' e
    simp only [up, Option.some.injEq, Prod.mk.injEq] at e
    obtain ⟨rfl, rfl⟩ := e
    exact ⟨by omega, by omega, by omega, by omega⟩
theorem tab_at {p a : Nat} (hp : p ∈ prs) (h : a < p) : invP (a : Int) p = (iN (tabT p) a : Int) := by
  have k := List.all_eq_true.mp tab_ok p hp
  have k := List.all_eq_true.mp k a (List.mem_range.mpr h)
  exact beq_iff_eq.mp k
theorem cast_mod (a p : Nat) : ((a % p : Nat) : Int) = (a : Int).fmod p := by
  rw [Int.fmod_eq_emod_of_nonneg _ (by omega)]; exact Int.natCast_emod a p
theorem pr_of {p : Nat} (h : p ∈ prs) : Pr p := by
  simp only [prs, List.mem_cons, List.mem_nil_iff, or_false, List.not_mem_nil] at h
  unfold Pr; omega
theorem dbl_up {p : Nat} (hp : p ∈ prs) (a : Option (Nat × Nat)) (ha : RgE p a) : dblP p (up a) = up (dblE p (tabT p) a) := by
  have hP := pr_of hp
  have hlo := hP.lo
  rcases a with _ | ⟨x, y⟩
  · rfl
  obtain ⟨h1, h2⟩ := ha x y rfl
  have hi : invP (((y : Int) * 2).fmod p) p = (iN (tabT p) (2 * y % p) : Int) := by
    have e : ((y : Int) * 2).fmod p = ((2 * y % p : Nat) : Int) := by rw [cast_mod]; congr 1; omega
    rw [e]; exact tab_at hp (Nat.mod_lt _ (by omega))
  simp only [up, dblP, dblE, hi]
  generalize (iN (tabT p) (2 * y % p)) = i
  have hm : ((((x : Int) * x).fmod p * 3).fmod p * (i : Int)).fmod p = ((3 * x * x * i % p : Nat) : Int) := by
    rw [cast_mod]
    refine Cg.eq ((Cg.mul (Cg.red' (Cg.mul Cg.red Cg.refl)) Cg.refl).trans (Cg.of ?_))
    push_cast; grind
  rw [hm]
  have hmlt : 3 * x * x * i % p < p := Nat.mod_lt _ (by omega)
  generalize 3 * x * x * i % p = m at *
  have hn : (((m : Int) * m).fmod p - ((x : Int) * 2).fmod p).fmod p = (((m * m + 2 * p - 2 * x) % p : Nat) : Int) := by
    rw [cast_mod]
    have e : ((m * m + 2 * p - 2 * x : Nat) : Int) = (m : Int) * m + 2 * p - 2 * x := by
      rw [Int.ofNat_sub (by omega)]; push_cast; omega
    rw [e]
    refine Cg.eq ((Cg.sub Cg.red Cg.red).trans ⟨-2, by grind⟩)
  rw [hn]
  have hnlt : (m * m + 2 * p - 2 * x) % p < p := Nat.mod_lt _ (by omega)
  generalize (m * m + 2 * p - 2 * x) % p = n at *
  refine congrArg some (Prod.ext rfl ?_)
  show _ = (((m * (x + p - n) + p - y) % p : Nat) : Int)
  rw [cast_mod]
  have e : ((m * (x + p - n) + p - y : Nat) : Int) = (m : Int) * (x + p - n) + p - y := by
    rw [Int.ofNat_sub (by have : 0 ≤ m * (x + p - n) := Nat.zero_le _; omega)]
    push_cast
    rw [Int.ofNat_sub (by omega)]
    push_cast; omega
  rw [e]
  refine Cg.eq ((Cg.sub (Cg.red' (Cg.add (Cg.red' (Cg.mul Cg.red Cg.refl)) Cg.red)) Cg.refl).trans ⟨-(m : Int) - 1, by grind⟩)

end
-- part P8
section
theorem up_inj {x y : Nat} : ((x : Int) = y) = (x = y) := propext ⟨fun h => by omega, fun h => by rw [h]⟩
theorem chord_i {p x1 x2 : Nat} (hp : p ∈ prs) (h1 : x1 < p) (h2 : x2 < p) : invP (((x2 : Int) - x1).fmod p) p = (iN (tabT p) ((x2 + p - x1) % p) : Int) := by
  have e : ((x2 : Int) - x1).fmod p = (((x2 + p - x1) % p : Nat) : Int) := by
    rw [cast_mod]
    have e : ((x2 + p - x1 : Nat) : Int) = (x2 : Int) + p - x1 := by rw [Int.ofNat_sub (by omega)]; push_cast; omega
    rw [e]
    exact Cg.eq ⟨-1, by grind⟩
  rw [e]; exact tab_at hp (Nat.mod_lt _ (by omega))
/-- the chord's end in Nat, from its slope's congruence -/
theorem chord_up {p : Nat} {x1 y1 x2 m : Nat} {M : Int} (hp : 0 < p) (h1 : x1 < p) (h2 : x2 < p) (h3 : y1 < p) (hm : Cg p M (m : Int)) :
    Cg p (M * M - x1 - x2) (((m * m + 2 * p - x1 - x2) % p : Nat) : Int) ∧
      ∀ N : Int, Cg p N (((m * m + 2 * p - x1 - x2) % p : Nat) : Int) → Cg p (M * (x1 - N) - y1) (((m * (x1 + p - (m * m + 2 * p - x1 - x2) % p) + p - y1) % p : Nat) : Int) := by
  have hn : Cg p ((m : Int) * m - x1 - x2) (((m * m + 2 * p - x1 - x2) % p : Nat) : Int) := by
    rw [cast_mod]
    have e : ((m * m + 2 * p - x1 - x2 : Nat) : Int) = (m : Int) * m + 2 * p - x1 - x2 := by
      rw [Int.ofNat_sub (by omega), Int.ofNat_sub (by omega)]; push_cast; omega
    rw [e]
    exact Cg.trans ⟨-2, by grind⟩ Cg.red.symm
  have hnlt : (m * m + 2 * p - x1 - x2) % p < p := Nat.mod_lt _ hp
  refine ⟨(Cg.sub (Cg.sub (Cg.mul hm hm) Cg.refl) Cg.refl).trans hn, fun N hN => ?_⟩
  generalize (m * m + 2 * p - x1 - x2) % p = n at *
  rw [cast_mod]
  have e : ((m * (x1 + p - n) + p - y1 : Nat) : Int) = (m : Int) * (x1 + p - n) + p - y1 := by
    rw [Int.ofNat_sub (by have : 0 ≤ m * (x1 + p - n) := Nat.zero_le _; omega)]
    push_cast
    rw [Int.ofNat_sub (by omega)]
    push_cast; omega
  rw [e]
  refine (Cg.sub (Cg.mul hm (Cg.sub Cg.refl hN)) Cg.refl).trans (Cg.trans ⟨-(m : Int) - 1, by grind⟩ Cg.red.symm)
theorem Cg.fm {p a : Int} {b : Nat} {q : Nat} (hq : p = q) (h : Cg p a (b : Int)) (hb : b < q) : a.fmod p = b := by
  rw [h.eq]; exact fmod_small (by omega) (by omega)
theorem m_up {p y1 y2 i : Nat} (h3 : y1 < p) (h4 : y2 < p) : Cg p (((y2 : Int) - y1) * i) (((y2 + p - y1) * i % p : Nat) : Int) := by
  rw [cast_mod]
  have e : (((y2 + p - y1) * i : Nat) : Int) = ((y2 : Int) + p - y1) * i := by
    push_cast; rw [Int.ofNat_sub (by omega)]; push_cast; grind
  rw [e]
  exact Cg.trans ⟨-(i : Int), by grind⟩ Cg.red.symm
theorem add_up {p : Nat} (hp : p ∈ prs) (a b : Option (Nat × Nat)) (ha : RgE p a) (hb : RgE p b) : addP p (up a) (up b) = up (addE p (tabT p) a b) := by
  have hP := pr_of hp
  have hlo := hP.lo
  rcases a with _ | ⟨x1, y1⟩
  · rfl
  rcases b with _ | ⟨x2, y2⟩
  · rfl
  obtain ⟨h1, h3⟩ := ha x1 y1 rfl
  obtain ⟨h2, h4⟩ := hb x2 y2 rfl
  show addP p (some ((x1 : Int), (y1 : Int))) (some ((x2 : Int), (y2 : Int))) = _
  simp only [addP, addE, up_inj]
  by_cases d : x2 = x1
  · rw [if_pos d, show Nat.beq x2 x1 = true from Nat.beq_eq.mpr d]
    simp only [cond_true]
    by_cases e : y2 = y1
    · rw [if_pos e, show Nat.beq y2 y1 = true from Nat.beq_eq.mpr e]
      exact dbl_up hp (some (x1, y1)) ha
    · rw [if_neg e, show Nat.beq y2 y1 = false from Bool.eq_false_iff.mpr fun q => e (Nat.beq_eq.mp q)]
      rfl
  · rw [if_neg d, show Nat.beq x2 x1 = false from Bool.eq_false_iff.mpr fun q => d (Nat.beq_eq.mp q)]
    simp only [cond_false, chord_i hp h1 h2]
    generalize iN (tabT p) ((x2 + p - x1) % p) = i
    have hm : Cg p ((((y2 : Int) - y1).fmod p * i).fmod p) (((y2 + p - y1) * i % p : Nat) : Int) := (Cg.red' (Cg.mul Cg.red Cg.refl)).trans (m_up h3 h4)
    obtain ⟨k1, k2⟩ := chord_up (by omega) h1 h2 h3 hm
    generalize (((y2 : Int) - y1).fmod p * i).fmod p = M at *
    have g1 := (Cg.sub (Cg.red' (Cg.sub (Cg.red (p := (p : Int)) (a := M * M)) (Cg.refl (a := (x1 : Int))))) (Cg.refl (a := (x2 : Int)))).trans k1
    have e1 := Cg.fm rfl g1 (Nat.mod_lt _ (by omega))
    refine congrArg some (Prod.ext e1 ?_)
    refine Cg.fm rfl (Cg.trans ?_ (k2 _ (Cg.red' g1))) (Nat.mod_lt _ (by omega))
    refine Cg.sub (Cg.red' ((Cg.add (Cg.red' (Cg.mul Cg.red Cg.refl)) Cg.red).trans (Cg.of ?_))) Cg.refl
    grind
theorem sum_up {p : Nat} (hp : p ∈ prs) (a b : Option (Nat × Nat)) (ha : RgE p a) (hb : RgE p b) (hok : okE p a b = true) : sumP p (up a) (up b) = up (addE p (tabT p) a b) := by
  have hP := pr_of hp
  have hlo := hP.lo
  rcases a with _ | ⟨x1, y1⟩
  · rfl
  rcases b with _ | ⟨x2, y2⟩
  · rfl
  obtain ⟨h1, h3⟩ := ha x1 y1 rfl
  obtain ⟨h2, h4⟩ := hb x2 y2 rfl
  have c3 : (((y1 : Int) + y2).fmod p = 0) = ((y1 + y2) % p = 0) := by
    have : ((y1 : Int) + y2).fmod p = (((y1 + y2) % p : Nat) : Int) := by rw [cast_mod]; push_cast; rfl
    rw [this]; exact propext ⟨fun h => by omega, fun h => by omega⟩
  show sumP p (some ((x1 : Int), (y1 : Int))) (some ((x2 : Int), (y2 : Int))) = _
  simp only [sumP, addE, up_inj, c3]
  by_cases d : x1 = x2
  · subst d
    have bx : Nat.beq x1 x1 = true := Nat.beq_eq.mpr rfl
    simp only [okE, bx, cond_true] at hok
    rw [bx, cond_true]
    by_cases e : y1 = y2
    · subst e
      have by' : Nat.beq y1 y1 = true := Nat.beq_eq.mpr rfl
      rw [by', cond_true] at hok
      have hz : ¬ (y1 + y1) % p = 0 := fun q => by rw [q] at hok; exact absurd hok (by decide)
      rw [if_neg (fun q => hz q.2), if_pos ⟨rfl, rfl⟩, by', cond_true]
      have hi : pmod ((2 * (y1 : Int)).fmod p) (p - 2) p = (iN (tabT p) (2 * y1 % p) : Int) := by
        have e : (2 * (y1 : Int)).fmod p = ((2 * y1 % p : Nat) : Int) := by rw [cast_mod]; push_cast; rfl
        rw [e]; exact tab_at hp (Nat.mod_lt _ (by omega))
      rw [hi]
      simp only [dblE]
      generalize iN (tabT p) (2 * y1 % p) = i
      have hm : Cg p (3 * (x1 : Int) * x1 * i) ((3 * x1 * x1 * i % p : Nat) : Int) := by
        rw [cast_mod]; push_cast; exact Cg.red.symm
      generalize 3 * x1 * x1 * i % p = m at *
      generalize 3 * (x1 : Int) * x1 * i = M at *
      obtain ⟨k1, k2⟩ := chord_up (by omega) h1 h1 h3 hm
      have en : m * m + 2 * p - x1 - x1 = m * m + 2 * p - 2 * x1 := by omega
      rw [en] at k1 k2
      have e1 := Cg.fm rfl k1 (Nat.mod_lt _ (by omega))
      refine congrArg some (Prod.ext e1 ?_)
      exact Cg.fm rfl (k2 _ (Cg.red' k1)) (Nat.mod_lt _ (by omega))
    · have by' : Nat.beq y1 y2 = false := Bool.eq_false_iff.mpr fun q => e (Nat.beq_eq.mp q)
      have by2 : Nat.beq y2 y1 = false := Bool.eq_false_iff.mpr fun q => e (Nat.beq_eq.mp q).symm
      rw [by', cond_false] at hok
      have hz : (y1 + y2) % p = 0 := Nat.beq_eq.mp hok
      rw [if_pos ⟨rfl, hz⟩, by2]; rfl
  · have bx : Nat.beq x2 x1 = false := Bool.eq_false_iff.mpr fun q => d (Nat.beq_eq.mp q).symm
    rw [if_neg (fun q => d q.1), if_neg (fun q => d q.1), bx, cond_false]
    have hi : pmod (((x2 : Int) - x1).fmod p) (p - 2) p = (iN (tabT p) ((x2 + p - x1) % p) : Int) := chord_i hp h1 h2
    simp only [hi]
    generalize iN (tabT p) ((x2 + p - x1) % p) = i
    have hm := m_up (i := i) h3 h4
    obtain ⟨k1, k2⟩ := chord_up (by omega) h1 h2 h3 hm
    have e1 := Cg.fm rfl k1 (Nat.mod_lt _ (by omega))
    refine congrArg some (Prod.ext e1 ?_)
    exact Cg.fm rfl (k2 _ (Cg.red' k1)) (Nat.mod_lt _ (by omega))

end
-- part P9
section
theorem eqE_eq {a b : Option (Nat × Nat)} (h : eqE a b = true) : a = b := by
  rcases a with _ | ⟨x, y⟩ <;> rcases b with _ | ⟨x', y'⟩
  · rfl
  · cases h
  · cases h
  · simp only [eqE, Bool.and_eq_true] at h
    rw [Nat.beq_eq.mp h.1, Nat.beq_eq.mp h.2]
theorem rgE_none {p : Nat} : RgE p none := fun _ _ e => by cases e
theorem rgE_dbl {p T : Nat} (hp : 0 < p) (a : Option (Nat × Nat)) : RgE p (dblE p T a) := by
  rcases a with _ | ⟨x, y⟩
  · exact rgE_none
  · intro x' y' e
    simp only [dblE, Option.some.injEq, Prod.mk.injEq] at e
    obtain ⟨rfl, rfl⟩ := e
    exact ⟨Nat.mod_lt _ hp, Nat.mod_lt _ hp⟩
theorem rgE_add {p T : Nat} (hp : 0 < p) (a b : Option (Nat × Nat)) (ha : RgE p a) (hb : RgE p b) : RgE p (addE p T a b) := by
  rcases a with _ | ⟨x1, y1⟩
  · exact hb
  rcases b with _ | ⟨x2, y2⟩
  · exact ha
  simp only [addE]
  cases Nat.beq x2 x1 with
  | true =>
    cases Nat.beq y2 y1 with
    | true => simp only [cond_true]; exact rgE_dbl hp _
    | false => simp only [cond_true, cond_false]; exact rgE_none
  | false =>
    intro x' y' e
    simp only [cond_false, Option.some.injEq, Prod.mk.injEq] at e
    obtain ⟨rfl, rfl⟩ := e
    exact ⟨Nat.mod_lt _ hp, Nat.mod_lt _ hp⟩
theorem rgE_mul {p T : Nat} (hp : 0 < p) : ∀ (k : Nat) (a : Option (Nat × Nat)) (n : Nat), RgE p a → RgE p (mulE p T k a n)
  | 0, _, _, _ => rgE_none
  | k + 1, a, n, ha => by
    simp only [mulE]
    cases Nat.beq n 0 with
    | true => exact rgE_none
    | false =>
      cases Nat.beq n 1 with
      | true => exact ha
      | false =>
        cases Nat.beq (n % 2) 0 with
        | true => exact rgE_mul hp k _ _ (rgE_dbl hp _)
        | false => exact rgE_add hp _ _ (rgE_mul hp k _ _ (rgE_dbl hp _)) ha
theorem rgE_sit {p T : Nat} (hp : 0 < p) (a : Option (Nat × Nat)) (ha : RgE p a) : ∀ k, RgE p (sitE p T a k)
  | 0 => rgE_none
  | k + 1 => rgE_add hp _ _ (rgE_sit hp a ha k) ha
theorem beq_f {a b : Nat} (h : a ≠ b) : Nat.beq a b = false := Bool.eq_false_iff.mpr fun q => h (Nat.beq_eq.mp q)
theorem beq_t {a b : Nat} (h : a = b) : Nat.beq a b = true := Nat.beq_eq.mpr h
theorem mul_up {p : Nat} (hp : p ∈ prs) : ∀ (k : Nat) (a : Option (Nat × Nat)) (n : Nat), RgE p a → mulN p k (up a) (n : Int) = up (mulE p (tabT p) k a n)
  | 0, _, _, _ => rfl
  | k + 1, a, n, ha => by
    have hlo := (pr_of hp).lo
    have h2 : ((n : Int)).fdiv 2 = ((n / 2 : Nat) : Int) := by rw [Int.fdiv_eq_ediv_of_nonneg _ (by omega)]; omega
    have h3 : ((n : Int)).fmod 2 = ((n % 2 : Nat) : Int) := by rw [Int.fmod_eq_emod_of_nonneg _ (by omega)]; omega
    simp only [mulN, mulE]
    rw [h2, h3, dbl_up hp a ha, mul_up hp k _ _ (rgE_dbl (by omega) _), add_up hp _ _ (rgE_mul (by omega) k _ _ (rgE_dbl (by omega) _)) ha]
    by_cases d0 : n = 0
    · rw [if_pos (by omega), beq_t d0]; rfl
    rw [if_neg (by omega), beq_f d0]
    by_cases d1 : n = 1
    · rw [if_pos (by omega), beq_t d1]; rfl
    rw [if_neg (by omega), beq_f d1]
    by_cases d2 : n % 2 = 0
    · rw [if_pos (by omega), beq_t d2]; rfl
    · rw [if_neg (by omega), beq_f d2]; rfl
theorem sit_up {p : Nat} (hp : p ∈ prs) (a : Option (Nat × Nat)) (ha : RgE p a) : ∀ k, sitOk p (tabT p) a k = true → Sit p (up a) k = up (sitE p (tabT p) a k)
  | 0, _ => rfl
  | k + 1, h => by
    have hlo := (pr_of hp).lo
    simp only [sitOk, Bool.and_eq_true] at h
    simp only [Sit, sitE]
    rw [sit_up hp a ha k h.1, sum_up hp _ _ (rgE_sit (by omega) a ha k) ha h.2]
theorem sitOk_le {p T : Nat} {a : Option (Nat × Nat)} : ∀ {n k : Nat}, k ≤ n → sitOk p T a n = true → sitOk p T a k = true
  | 0, k, h, q => by
    have e : k = 0 := by omega
    subst e
    exact q
  | n + 1, k, h, q => by
    by_cases e : k = n + 1
    · subst e; exact q
    · simp only [sitOk, Bool.and_eq_true] at q
      exact sitOk_le (by omega) q.1
/-- F1 .. F3 of a point -/
def Laws (p : Int) (a : Option (Int × Int)) : Prop :=
  (∀ n : Nat, n ≤ 12 → mulN p 4 a n = Sit p a n) ∧
    ∀ m n : Nat, m ≤ 2 → n ≤ 2 → addP p (mulN p 4 a m) (mulN p 4 a n) = Sit p a (m + n) ∧ mulN p 4 (mulN p 4 a m) n = Sit p a (m * n)
theorem laws_of {p x y : Nat} (hp : p ∈ prs) (hx : x < p) (hy : y < p) (hc : chk1 p (tabT p) x y = true) (hr : rootE p ((y * y + p - (x * x * x) % p) % p) = false) : Laws p (up (some (x, y))) := by
  have hlo := (pr_of hp).lo
  have ha : RgE p (some (x, y)) := fun x' y' e => by cases e; exact ⟨hx, hy⟩
  simp only [chk1, hr, Bool.false_or, Bool.and_eq_true] at hc
  obtain ⟨⟨hs, h1⟩, h2⟩ := hc
  refine ⟨fun n hn => ?_, fun m n hm hn => ?_⟩
  · have k := List.all_eq_true.mp h1 n (List.mem_range.mpr (by omega))
    rw [mul_up hp 4 _ _ ha, sit_up hp _ ha n (sitOk_le hn hs), eqE_eq k]
  · have k := List.all_eq_true.mp h2 m (List.mem_range.mpr (by omega))
    have k := List.all_eq_true.mp k n (List.mem_range.mpr (by omega))
    rw [Bool.and_eq_true] at k
    have hmn : m * n ≤ 4 := Nat.mul_le_mul hm hn
    rw [mul_up hp 4 _ _ ha, mul_up hp 4 _ _ ha, sit_up hp _ ha (m + n) (sitOk_le (by omega) hs), sit_up hp _ ha (m * n) (sitOk_le (by omega) hs)]
    refine ⟨?_, ?_⟩
    · rw [add_up hp _ _ (rgE_mul (by omega) 4 _ _ ha) (rgE_mul (by omega) 4 _ _ ha), eqE_eq k.1]
    · rw [mul_up hp 4 _ _ (rgE_mul (by omega) 4 _ _ ha), eqE_eq k.2]

end
-- part P10
section
theorem no_rootE {q : Nat} {b x y u v : Int} {X Y : Nat} (hq : q ∈ prs) (hb : GoodB q b) (hc : (y * y).fmod q = (x * x * x + b).fmod q) (h : Cg q (u * v) 1) (hX : Cg q (X : Int) (u * u * x)) (hY : Cg q (Y : Int) (u * u * u * y)) :
    rootE q ((Y * Y + q - (X * X * X) % q) % q) = false := by
  have hP := pr_of hq
  have hlo := hP.lo
  refine Bool.eq_false_iff.mpr fun e => ?_
  obtain ⟨r, hr, er⟩ := List.any_eq_true.mp e
  have er := Nat.beq_eq.mp er
  have hlt : (X * X * X) % q < q := Nat.mod_lt _ (by omega)
  -- r ^ 3 + Y ^ 2 - X ^ 3 is 0
  have c0 : Cg q ((r : Int) * r * r + ((Y : Int) * Y - X * X * X)) 0 := by
    have e1 : (((r * r * r + (Y * Y + q - X * X * X % q) % q) % q : Nat) : Int) = 0 := by rw [er]; rfl
    rw [cast_mod] at e1
    have e2 : Cg q (((r * r * r + (Y * Y + q - X * X * X % q) % q : Nat) : Int)) 0 := Cg.of_eq (by rw [e1]; simp)
    refine Cg.trans ?_ e2
    push_cast
    rw [Int.ofNat_sub (by omega)]
    push_cast
    refine Cg.add (Cg.of (by grind)) (Cg.symm ?_)
    have m1 : ∀ z : Int, Cg q (z % (q : Int)) z := fun z => by
      rw [← Int.fmod_eq_emod_of_nonneg _ (by omega)]; exact Cg.red
    refine (m1 _).trans ?_
    refine (Cg.sub (Cg.refl (a := (Y : Int) * Y + q)) (m1 _)).trans ⟨1, by push_cast; grind⟩
  have c1 : Cg q ((Y : Int) * Y - X * X * X) (u * u * u * (u * u * u) * b) := by
    refine (Cg.sub (Cg.mul hY hY) (Cg.mul (Cg.mul hX hX) hX)).trans ?_
    have c2 : Cg q (y * y - x * x * x) b := by
      refine (Cg.sub (Cg.of_eq hc) Cg.refl).trans (Cg.of (by grind))
    refine Cg.trans (b := u * u * u * (u * u * u) * (y * y - x * x * x)) (Cg.of (by grind)) (Cg.mul Cg.refl c2)
  have c3 : Cg q ((r : Int) * r * r + u * u * u * (u * u * u) * b) 0 := (Cg.add Cg.refl c1.symm).trans c0
  have hcube := cube1 h
  have c4 : Cg q ((v * v * r) * (v * v * r) * (v * v * r) + b) 0 := by
    have k := Cg.mul (Cg.refl (a := v * v * v * (v * v * v))) c3
    refine Cg.trans ?_ (k.trans (Cg.of (by omega)))
    refine Cg.trans (b := v * v * r * (v * v * r) * (v * v * r) + 1 * 1 * b) (Cg.of (by omega)) ?_
    refine (Cg.add Cg.refl (Cg.mul (Cg.mul hcube.symm hcube.symm) Cg.refl)).trans (Cg.of (by grind))
  refine no_root hP hb (x := (v * v * r).fmod q) (fm0 (by omega)) (fm1 (by omega)) ?_
  have c5 := (Cg.add (Cg.mul (Cg.mul (Cg.red (p := (q : Int)) (a := v * v * r)) Cg.red) Cg.red) (Cg.refl (a := b))).trans c4
  rw [c5.eq]; simp
theorem rep {q : Nat} {b x y : Int} (hq : q ∈ prs) (hb : GoodB q b) (ha : Pt q b (some (x, y))) :
    ∃ (u v : Int) (X Y : Nat), Cg q (u * v) 1 ∧ sc q u (some (x, y)) = up (some (X, Y)) ∧ X < q ∧ Y < q ∧ rootE q ((Y * Y + q - (X * X * X) % q) % q) = false ∧ ((X = Y ∧ X ≠ 0) ∨ (X = 0 ∧ Y ∈ repC q)) := by
  have hP := pr_of hq
  have hlo := hP.lo
  obtain ⟨hc, hr⟩ := ha
  obtain ⟨x0, x1, y0, y1⟩ := hr x y rfl
  have hy : 0 < y := hc.1
  by_cases hx : x = 0
  · subst hx
    obtain ⟨u, c, hu, hc', c0, c1, ec⟩ := cube_at (y := y.toNat) hq (by omega) (by omega)
    have ey : ((y.toNat : Nat) : Int) = y := by omega
    have hu0 : (u : Int) ≠ 0 := fun z => by
      have : u = 0 := by omega
      subst this
      simp only [Nat.zero_mul, Nat.zero_mod] at ec
      omega
    have h1 : Cg q ((u : Int) * invP u q) 1 := inv_cg hP (by omega) (by omega) hu0
    have e1 : (c : Int) = ((u : Int) * u * u * y).fmod q := by
      rw [ec, cast_mod]; push_cast; rw [ey]
    refine ⟨u, invP u q, 0, c, h1, ?_, by omega, c1, no_rootE hq hb hc.2 h1 (Cg.of (by simp)) (by rw [e1]; exact Cg.red), .inr ⟨rfl, hc'⟩⟩
    have z : (0 : Int).fmod q = 0 := by simp
    simp only [sc, up, Int.mul_zero, z, e1]
    rfl
  · have ix := inv_cg hP x0 x1 hx
    have iy := inv_cg hP y0 y1 (by omega)
    have h : Cg q ((x * invP y q) * (y * invP x q)) 1 := (Cg.of (by grind)).trans ((Cg.mul ix iy).trans (Cg.of (by omega)))
    have huy : Cg q (x * invP y q * y) x := (Cg.of (by grind)).trans ((Cg.mul (Cg.refl (a := x)) iy).trans (Cg.of (by omega)))
    generalize x * invP y q = u at *
    generalize y * invP x q = v at *
    have e : (u * u * u * y).fmod q = (u * u * x).fmod q := Cg.eq ((Cg.of (by grind)).trans (Cg.mul (Cg.refl (a := u * u)) huy))
    have t0 : 0 ≤ (u * u * x).fmod q := fm0 (by omega)
    have t1 : (u * u * x).fmod q < q := fm1 (by omega)
    have et : (((u * u * x).fmod q).toNat : Int) = (u * u * x).fmod q := by omega
    have hX : Cg q ((((u * u * x).fmod q).toNat : Nat) : Int) (u * u * x) := by rw [et]; exact Cg.red
    have hY : Cg q ((((u * u * x).fmod q).toNat : Nat) : Int) (u * u * u * y) := by rw [et, ← e]; exact Cg.red
    refine ⟨u, v, ((u * u * x).fmod q).toNat, ((u * u * x).fmod q).toNat, h, ?_, by omega, by omega, no_rootE hq hb hc.2 h hX hY, .inl ⟨rfl, fun z => ?_⟩⟩
    · simp only [sc, up, et, e]
    · have z1 : (u * u * x).fmod q = 0 := by omega
      have z2 : Cg q (u * u * x) (u * u * 0) := Cg.of_eq (by rw [z1]; simp)
      exact hx ((Cg.cancel (sq1 h) z2).small x0 x1 (by omega) (by omega))

end
-- part P6c
section
theorem c1_7 : ((List.range 7).all fun t => Nat.beq t 0 || chk1 7 (tabT 7) t t) = true := by decide +kernel
theorem c0_7 : ((repC 7).all fun t => chk1 7 (tabT 7) 0 t && chk5 7 (tabT 7) (tabS 7) 0 t) = true := by decide +kernel
theorem c5_7_at0 : ((List.range' 0 7).all fun t => Nat.beq t 0 || chk5 7 (tabT 7) (tabS 7) t t) = true := by decide +kernel
theorem c5_7 {t : Nat} (ht : t < 7) (h0 : Nat.beq t 0 = false) : chk5 7 (tabT 7) (tabS 7) t t = true := by
  have k := List.all_eq_true.mp c5_7_at0 t (by rw [List.mem_range'_1]; omega)
  rwa [h0, Bool.false_or] at k
theorem c1_19 : ((List.range 19).all fun t => Nat.beq t 0 || chk1 19 (tabT 19) t t) = true := by decide +kernel
theorem c0_19 : ((repC 19).all fun t => chk1 19 (tabT 19) 0 t && chk5 19 (tabT 19) (tabS 19) 0 t) = true := by decide +kernel
theorem c5_19_at0 : ((List.range' 0 19).all fun t => Nat.beq t 0 || chk5 19 (tabT 19) (tabS 19) t t) = true := by decide +kernel
theorem c5_19 {t : Nat} (ht : t < 19) (h0 : Nat.beq t 0 = false) : chk5 19 (tabT 19) (tabS 19) t t = true := by
  have k := List.all_eq_true.mp c5_19_at0 t (by rw [List.mem_range'_1]; omega)
  rwa [h0, Bool.false_or] at k
theorem c1_31 : ((List.range 31).all fun t => Nat.beq t 0 || chk1 31 (tabT 31) t t) = true := by decide +kernel
theorem c0_31 : ((repC 31).all fun t => chk1 31 (tabT 31) 0 t && chk5 31 (tabT 31) (tabS 31) 0 t) = true := by decide +kernel
theorem c5_31_at0 : ((List.range' 0 31).all fun t => Nat.beq t 0 || chk5 31 (tabT 31) (tabS 31) t t) = true := by decide +kernel
theorem c5_31 {t : Nat} (ht : t < 31) (h0 : Nat.beq t 0 = false) : chk5 31 (tabT 31) (tabS 31) t t = true := by
  have k := List.all_eq_true.mp c5_31_at0 t (by rw [List.mem_range'_1]; omega)
  rwa [h0, Bool.false_or] at k
theorem c1_43 : ((List.range 43).all fun t => Nat.beq t 0 || chk1 43 (tabT 43) t t) = true := by decide +kernel
theorem c0_43 : ((repC 43).all fun t => chk1 43 (tabT 43) 0 t && chk5 43 (tabT 43) (tabS 43) 0 t) = true := by decide +kernel
theorem c5_43_at0 : ((List.range' 0 43).all fun t => Nat.beq t 0 || chk5 43 (tabT 43) (tabS 43) t t) = true := by decide +kernel
theorem c5_43 {t : Nat} (ht : t < 43) (h0 : Nat.beq t 0 = false) : chk5 43 (tabT 43) (tabS 43) t t = true := by
  have k := List.all_eq_true.mp c5_43_at0 t (by rw [List.mem_range'_1]; omega)
  rwa [h0, Bool.false_or] at k
theorem c1_67 : ((List.range 67).all fun t => Nat.beq t 0 || chk1 67 (tabT 67) t t) = true := by decide +kernel
theorem c0_67 : ((repC 67).all fun t => chk1 67 (tabT 67) 0 t && chk5 67 (tabT 67) (tabS 67) 0 t) = true := by decide +kernel
theorem c5_67_at0 : ((List.range' 0 22).all fun t => Nat.beq t 0 || chk5 67 (tabT 67) (tabS 67) t t) = true := by decide +kernel
theorem c5_67_at1 : ((List.range' 22 22).all fun t => Nat.beq t 0 || chk5 67 (tabT 67) (tabS 67) t t) = true := by decide +kernel
theorem c5_67_at2 : ((List.range' 44 23).all fun t => Nat.beq t 0 || chk5 67 (tabT 67) (tabS 67) t t) = true := by decide +kernel
theorem c5_67 {t : Nat} (ht : t < 67) (h0 : Nat.beq t 0 = false) : chk5 67 (tabT 67) (tabS 67) t t = true := by
  have h : t < 22 ∨ (22 ≤ t ∧ t < 44) ∨ 44 ≤ t := by omega
  rcases h with h | h | h
  · have k := List.all_eq_true.mp c5_67_at0 t (by rw [List.mem_range'_1]; omega)
    rwa [h0, Bool.false_or] at k
  · have k := List.all_eq_true.mp c5_67_at1 t (by rw [List.mem_range'_1]; omega)
    rwa [h0, Bool.false_or] at k
  · have k := List.all_eq_true.mp c5_67_at2 t (by rw [List.mem_range'_1]; omega)
    rwa [h0, Bool.false_or] at k
theorem c1_79 : ((List.range 79).all fun t => Nat.beq t 0 || chk1 79 (tabT 79) t t) = true := by decide +kernel
theorem c0_79 : ((repC 79).all fun t => chk1 79 (tabT 79) 0 t && chk5 79 (tabT 79) (tabS 79) 0 t) = true := by decide +kernel
theorem c5_79_at0 : ((List.range' 0 26).all fun t => Nat.beq t 0 || chk5 79 (tabT 79) (tabS 79) t t) = true := by decide +kernel
theorem c5_79_at1 : ((List.range' 26 26).all fun t => Nat.beq t 0 || chk5 79 (tabT 79) (tabS 79) t t) = true := by decide +kernel
theorem c5_79_at2 : ((List.range' 52 27).all fun t => Nat.beq t 0 || chk5 79 (tabT 79) (tabS 79) t t) = true := by decide +kernel
theorem c5_79 {t : Nat} (ht : t < 79) (h0 : Nat.beq t 0 = false) : chk5 79 (tabT 79) (tabS 79) t t = true := by
  have h : t < 26 ∨ (26 ≤ t ∧ t < 52) ∨ 52 ≤ t := by omega
  rcases h with h | h | h
  · have k := List.all_eq_true.mp c5_79_at0 t (by rw [List.mem_range'_1]; omega)
    rwa [h0, Bool.false_or] at k
  · have k := List.all_eq_true.mp c5_79_at1 t (by rw [List.mem_range'_1]; omega)
    rwa [h0, Bool.false_or] at k
  · have k := List.all_eq_true.mp c5_79_at2 t (by rw [List.mem_range'_1]; omega)
    rwa [h0, Bool.false_or] at k
theorem c1_103 : ((List.range 103).all fun t => Nat.beq t 0 || chk1 103 (tabT 103) t t) = true := by decide +kernel
theorem c0_103 : ((repC 103).all fun t => chk1 103 (tabT 103) 0 t && chk5 103 (tabT 103) (tabS 103) 0 t) = true := by decide +kernel
theorem c5_103_at0 : ((List.range' 0 34).all fun t => Nat.beq t 0 || chk5 103 (tabT 103) (tabS 103) t t) = true := by decide +kernel
theorem c5_103_at1 : ((List.range' 34 34).all fun t => Nat.beq t 0 || chk5 103 (tabT 103) (tabS 103) t t) = true := by decide +kernel
theorem c5_103_at2 : ((List.range' 68 35).all fun t => Nat.beq t 0 || chk5 103 (tabT 103) (tabS 103) t t) = true := by decide +kernel
theorem c5_103 {t : Nat} (ht : t < 103) (h0 : Nat.beq t 0 = false) : chk5 103 (tabT 103) (tabS 103) t t = true := by
  have h : t < 34 ∨ (34 ≤ t ∧ t < 68) ∨ 68 ≤ t := by omega
  rcases h with h | h | h
  · have k := List.all_eq_true.mp c5_103_at0 t (by rw [List.mem_range'_1]; omega)
    rwa [h0, Bool.false_or] at k
  · have k := List.all_eq_true.mp c5_103_at1 t (by rw [List.mem_range'_1]; omega)
    rwa [h0, Bool.false_or] at k
  · have k := List.all_eq_true.mp c5_103_at2 t (by rw [List.mem_range'_1]; omega)
    rwa [h0, Bool.false_or] at k
theorem c1_127 : ((List.range 127).all fun t => Nat.beq t 0 || chk1 127 (tabT 127) t t) = true := by decide +kernel
theorem c0_127 : ((repC 127).all fun t => chk1 127 (tabT 127) 0 t && chk5 127 (tabT 127) (tabS 127) 0 t) = true := by decide +kernel
theorem c5_127_at0 : ((List.range' 0 42).all fun t => Nat.beq t 0 || chk5 127 (tabT 127) (tabS 127) t t) = true := by decide +kernel
theorem c5_127_at1 : ((List.range' 42 42).all fun t => Nat.beq t 0 || chk5 127 (tabT 127) (tabS 127) t t) = true := by decide +kernel
theorem c5_127_at2 : ((List.range' 84 43).all fun t => Nat.beq t 0 || chk5 127 (tabT 127) (tabS 127) t t) = true := by decide +kernel
theorem c5_127 {t : Nat} (ht : t < 127) (h0 : Nat.beq t 0 = false) : chk5 127 (tabT 127) (tabS 127) t t = true := by
  have h : t < 42 ∨ (42 ≤ t ∧ t < 84) ∨ 84 ≤ t := by omega
  rcases h with h | h | h
  · have k := List.all_eq_true.mp c5_127_at0 t (by rw [List.mem_range'_1]; omega)
    rwa [h0, Bool.false_or] at k
  · have k := List.all_eq_true.mp c5_127_at1 t (by rw [List.mem_range'_1]; omega)
    rwa [h0, Bool.false_or] at k
  · have k := List.all_eq_true.mp c5_127_at2 t (by rw [List.mem_range'_1]; omega)
    rwa [h0, Bool.false_or] at k

end
-- part P11
section
theorem c1_at {p t : Nat} (hp : p ∈ prs) (ht : t < p) (h0 : t ≠ 0) : chk1 p (tabT p) t t = true := by
  simp only [prs, List.mem_cons, List.not_mem_nil, or_false] at hp
  have hz := beq_f h0
  rcases hp with rfl | rfl | rfl | rfl | rfl | rfl | rfl | rfl
  · have k := List.all_eq_true.mp c1_7 t (List.mem_range.mpr ht); rwa [hz, Bool.false_or] at k
  · have k := List.all_eq_true.mp c1_19 t (List.mem_range.mpr ht); rwa [hz, Bool.false_or] at k
  · have k := List.all_eq_true.mp c1_31 t (List.mem_range.mpr ht); rwa [hz, Bool.false_or] at k
  · have k := List.all_eq_true.mp c1_43 t (List.mem_range.mpr ht); rwa [hz, Bool.false_or] at k
  · have k := List.all_eq_true.mp c1_67 t (List.mem_range.mpr ht); rwa [hz, Bool.false_or] at k
  · have k := List.all_eq_true.mp c1_79 t (List.mem_range.mpr ht); rwa [hz, Bool.false_or] at k
  · have k := List.all_eq_true.mp c1_103 t (List.mem_range.mpr ht); rwa [hz, Bool.false_or] at k
  · have k := List.all_eq_true.mp c1_127 t (List.mem_range.mpr ht); rwa [hz, Bool.false_or] at k
theorem c5_at {p t : Nat} (hp : p ∈ prs) (ht : t < p) (h0 : t ≠ 0) : chk5 p (tabT p) (tabS p) t t = true := by
  simp only [prs, List.mem_cons, List.not_mem_nil, or_false] at hp
  have hz := beq_f h0
  rcases hp with rfl | rfl | rfl | rfl | rfl | rfl | rfl | rfl
  · exact c5_7 ht hz
  · exact c5_19 ht hz
  · exact c5_31 ht hz
  · exact c5_43 ht hz
  · exact c5_67 ht hz
  · exact c5_79 ht hz
  · exact c5_103 ht hz
  · exact c5_127 ht hz
theorem c0_at {p t : Nat} (hp : p ∈ prs) (ht : t ∈ repC p) : chk1 p (tabT p) 0 t = true ∧ chk5 p (tabT p) (tabS p) 0 t = true := by
  simp only [prs, List.mem_cons, List.not_mem_nil, or_false] at hp
  rcases hp with rfl | rfl | rfl | rfl | rfl | rfl | rfl | rfl
  · exact Bool.and_eq_true_iff.mp (List.all_eq_true.mp c0_7 t ht)
  · exact Bool.and_eq_true_iff.mp (List.all_eq_true.mp c0_19 t ht)
  · exact Bool.and_eq_true_iff.mp (List.all_eq_true.mp c0_31 t ht)
  · exact Bool.and_eq_true_iff.mp (List.all_eq_true.mp c0_43 t ht)
  · exact Bool.and_eq_true_iff.mp (List.all_eq_true.mp c0_67 t ht)
  · exact Bool.and_eq_true_iff.mp (List.all_eq_true.mp c0_79 t ht)
  · exact Bool.and_eq_true_iff.mp (List.all_eq_true.mp c0_103 t ht)
  · exact Bool.and_eq_true_iff.mp (List.all_eq_true.mp c0_127 t ht)
theorem sc_inj2 {p u v : Int} (h : Cg p (u * v) 1) {a b : Option (Int × Int)} (ha : Rg p a) (hb : Rg p b) (e : sc p u a = sc p u b) : a = b := by
  rcases a with _ | ⟨x, y⟩ <;> rcases b with _ | ⟨x', y'⟩
  · rfl
  · cases e
  · cases e
  · obtain ⟨a0, a1, a2, a3⟩ := ha x y rfl
    obtain ⟨b0, b1, b2, b3⟩ := hb x' y' rfl
    simp only [sc, Option.some.injEq, Prod.mk.injEq] at e
    rw [(sc_inj (sq1 h) a0 a1 b0 b1).mp e.1, (sc_inj (cube1 h) a2 a3 b2 b3).mp e.2]
theorem laws_sc {p u v : Int} (hp : Pr p) (h : Cg p (u * v) 1) {a : Option (Int × Int)} (ha : Rg p a) (k : Laws p (sc p u a)) : Laws p a := by
  obtain ⟨k1, k2⟩ := k
  refine ⟨fun n hn => sc_inj2 h (rg_mul hp 4 _ _ ha) (rg_sit hp a ha n) ?_, fun m n hm hn => ⟨sc_inj2 h (rg_add hp _ _ (rg_mul hp 4 _ _ ha) (rg_mul hp 4 _ _ ha)) (rg_sit hp a ha _) ?_, sc_inj2 h (rg_mul hp 4 _ _ (rg_mul hp 4 _ _ ha)) (rg_sit hp a ha _) ?_⟩⟩
  · rw [← mul_sc hp h 4 _ _ ha, ← sit_sc hp h a ha n]; exact k1 n hn
  · rw [← add_sc hp h _ _ (rg_mul hp 4 _ _ ha) (rg_mul hp 4 _ _ ha), ← mul_sc hp h 4 _ _ ha, ← mul_sc hp h 4 _ _ ha, ← sit_sc hp h a ha]; exact (k2 m n hm hn).1
  · rw [← mul_sc hp h 4 _ _ (rg_mul hp 4 _ _ ha), ← mul_sc hp h 4 _ _ ha, ← sit_sc hp h a ha]; exact (k2 m n hm hn).2
theorem addP_none (p : Int) (a : Option (Int × Int)) : addP p a none = a := by
  rcases a with _ | ⟨x, y⟩ <;> rfl
theorem sit_none (p : Int) : ∀ k, Sit p none k = none
  | 0 => rfl
  | k + 1 => by simp only [Sit, sit_none p k]; rfl
theorem laws_all {p b : Int} {a : Option (Int × Int)} (hp : Pr p) (hb : GoodB p b) (ha : Pt p b a) : Laws p a := by
  rcases a with _ | ⟨x, y⟩
  · exact ⟨fun n _ => by rw [mulN_none, sit_none], fun m n _ _ => ⟨by rw [mulN_none, mulN_none, sit_none]; rfl, by rw [mulN_none, mulN_none, sit_none]⟩⟩
  · obtain ⟨q, rfl, hq⟩ := hp.nat
    obtain ⟨u, v, X, Y, h, e, hX, hY, hr, hc⟩ := rep hq hb ha
    refine laws_sc hp h ha.2 ?_
    rw [e]
    refine laws_of hq hX hY ?_ hr
    rcases hc with ⟨rfl, h0⟩ | ⟨rfl, h0⟩
    · exact c1_at hq hX h0
    · exact (c0_at hq h0).1
theorem law1 : Law1 := fun p b a n hp hb ha h0 h1 => by
  rw [made_rg ha.2]
  have k := (laws_all hp hb ha).1 n.toNat (by omega)
  rwa [Int.toNat_of_nonneg h0] at k
theorem law2 : Law2 := fun p b a m n hp hb ha h0 h1 h2 h3 => by
  rw [made_rg ha.2]
  have k := ((laws_all hp hb ha).2 m.toNat n.toNat (by omega) (by omega)).1
  rw [Int.toNat_of_nonneg h0, Int.toNat_of_nonneg h2] at k
  rw [k]; congr 1; omega
theorem law3 : Law3 := fun p b a m n hp hb ha h0 h1 h2 h3 => by
  rw [made_rg ha.2]
  have k := ((laws_all hp hb ha).2 m.toNat n.toNat (by omega) (by omega)).2
  rw [Int.toNat_of_nonneg h0, Int.toNat_of_nonneg h2] at k
  rw [k]; congr 1
  have : (m * n) = ((m.toNat * n.toNat : Nat) : Int) := by push_cast; rw [Int.toNat_of_nonneg h0, Int.toNat_of_nonneg h2]
  omega

end
-- part P12
section
theorem mul2_0 (p : Int) (a : Option (Int × Int)) : mulN p 4 a 0 = none := mulN_0 rfl
theorem mul2_1 (p : Int) (a : Option (Int × Int)) : mulN p 4 a 1 = a := mulN_1 rfl
theorem mul2_2 (p : Int) (a : Option (Int × Int)) : mulN p 4 a 2 = dblP p a := by
  rw [mulN_e (by omega) (by omega) (by decide)]
  exact mulN_1 (by decide)
/-- F5, of two points -/
def Law5' (p : Int) (a c : Option (Int × Int)) : Prop := sumP p a c = addP p a c ∧ dblP p (sumP p a c) = addP p (dblP p a) (dblP p c)
theorem law5_sc {p u v : Int} (hp : Pr p) (h : Cg p (u * v) 1) {a c : Option (Int × Int)} (ha : Rg p a) (hc : Rg p c) (k : Law5' p (sc p u a) (sc p u c)) : Law5' p a c := by
  obtain ⟨k1, k2⟩ := k
  refine ⟨sc_inj2 h (rg_sum hp _ _ ha hc) (rg_add hp _ _ ha hc) ?_, sc_inj2 h (rg_dbl hp _) (rg_add hp _ _ (rg_dbl hp _) (rg_dbl hp _)) ?_⟩
  · rw [← sum_sc hp h _ _ ha hc, ← add_sc hp h _ _ ha hc]; exact k1
  · rw [← dbl_sc' hp h, ← sum_sc hp h _ _ ha hc, ← add_sc hp h _ _ (rg_dbl hp _) (rg_dbl hp _), ← dbl_sc' hp h, ← dbl_sc' hp h]; exact k2
theorem law5_of {p x y x2 y2 : Nat} (hp : p ∈ prs) (hx : x < p) (hy : y < p) (hx2 : x2 < p) (hy2 : y2 < p)
    (hok : okE p (some (x, y)) (some (x2, y2)) = true) (he : eqE (dblE p (tabT p) (addE p (tabT p) (some (x, y)) (some (x2, y2)))) (addE p (tabT p) (dblE p (tabT p) (some (x, y))) (dblE p (tabT p) (some (x2, y2)))) = true) :
    Law5' p (up (some (x, y))) (up (some (x2, y2))) := by
  have hlo := (pr_of hp).lo
  have ha : RgE p (some (x, y)) := fun x' y' e => by cases e; exact ⟨hx, hy⟩
  have hb : RgE p (some (x2, y2)) := fun x' y' e => by cases e; exact ⟨hx2, hy2⟩
  have e1 := sum_up hp _ _ ha hb hok
  refine ⟨by rw [e1, add_up hp _ _ ha hb], ?_⟩
  rw [e1, dbl_up hp _ (rgE_add (by omega) _ _ ha hb), dbl_up hp _ ha, dbl_up hp _ hb, add_up hp _ _ (rgE_dbl (by omega) _) (rgE_dbl (by omega) _), eqE_eq he]
theorem sq_at {p y : Nat} (hp : p ∈ prs) (hy : y < p) : y = iN (tabS p) (y * y % p) ∨ p - y = iN (tabS p) (y * y % p) := by
  have k := List.all_eq_true.mp sq_ok p hp
  have k := List.all_eq_true.mp k y (List.mem_range.mpr hy)
  rw [Bool.or_eq_true] at k
  exact k.imp Nat.beq_eq.mp Nat.beq_eq.mp
theorem law5_pair {p x y x2 y2 : Nat} (hp : p ∈ prs) (hx : x < p) (hy : y < p) (hx2 : x2 < p) (hy2 : y2 < p) (hy0 : 0 < y2) (hc : chk5 p (tabT p) (tabS p) x y = true) (hr : rootE p ((y * y + p - (x * x * x) % p) % p) = false)
    (hq : y2 * y2 % p = (x2 * x2 * x2 + (y * y + p - (x * x * x) % p) % p) % p) : Law5' p (up (some (x, y))) (up (some (x2, y2))) := by
  simp only [chk5, hr, Bool.false_or] at hc
  have k := List.all_eq_true.mp hc x2 (List.mem_range.mpr hx2)
  rw [← hq] at k
  have hs : ∀ s, s = y2 ∨ s = p - y2 → s * s % p = y2 * y2 % p := by
    rintro s (rfl | rfl)
    · rfl
    · have e : (p - y2) * (p - y2) = y2 * y2 + p * (p - 2 * y2) ∨ (p - y2) * (p - y2) + p * (2 * y2 - p) = y2 * y2 := by
        obtain ⟨d, hd⟩ : ∃ d, p = y2 + d := ⟨p - y2, by omega⟩
        have e1 : p - y2 = d := by omega
        rw [e1]
        rcases Nat.le_total y2 d with g | g
        · left
          obtain ⟨f, rfl⟩ : ∃ f, d = y2 + f := ⟨d - y2, by omega⟩
          have : p - 2 * y2 = f := by omega
          rw [this, hd]; grind
        · right
          obtain ⟨f, rfl⟩ : ∃ f, y2 = d + f := ⟨y2 - d, by omega⟩
          have : 2 * (d + f) - p = f := by omega
          rw [this, hd]; grind
      rcases e with e | e
      · rw [e, Nat.add_mul_mod_self_left]
      · rw [← e, Nat.add_mul_mod_self_left]
  rcases sq_at hp hy2 with g | g
  · rw [← g, beq_t rfl, cond_true, Bool.and_eq_true, Bool.and_eq_true] at k
    exact law5_of hp hx hy hx2 hy2 k.1.1 k.1.2
  · rw [← g, beq_t (hs _ (.inr rfl)), cond_true, Bool.and_eq_true, Bool.and_eq_true, Bool.and_eq_true] at k
    have e : p - (p - y2) = y2 := by omega
    rw [e] at k
    exact law5_of hp hx hy hx2 hy2 k.2.1 k.2.2

end
-- part P13
section
theorem law5_all {p b : Int} {a c : Option (Int × Int)} (hp : Pr p) (hb : GoodB p b) (ha : Pt p b a) (hc : Pt p b c) : Law5' p a c := by
  rcases a with _ | ⟨x, y⟩
  · exact ⟨rfl, rfl⟩
  rcases c with _ | ⟨x2, y2⟩
  · exact ⟨rfl, (addP_none p _).symm⟩
  obtain ⟨q, rfl, hq⟩ := hp.nat
  have hlo := hp.lo
  obtain ⟨u, v, X, Y, h, e, hX, hY, hr, hcase⟩ := rep hq hb ha
  refine law5_sc hp h ha.2 hc.2 ?_
  have hce : ((Y : Int) * Y).fmod q = ((X : Int) * X * X + u * u * u * (u * u * u) * b).fmod q := by
    simp only [sc, up, Option.some.injEq, Prod.mk.injEq] at e
    rw [← e.1, ← e.2]
    refine Cg.eq ((Cg.mul Cg.red Cg.red).trans (Cg.trans ?_ (Cg.add (Cg.mul (Cg.mul Cg.red.symm Cg.red.symm) Cg.red.symm) Cg.refl)))
    refine Cg.trans (b := u * u * u * (u * u * u) * (y * y)) (Cg.of (by grind)) ((Cg.mul Cg.refl (Cg.of_eq ha.1.2)).trans (Cg.of (by grind)))
  have hb6 : Cg q (((Y * Y + q - (X * X * X) % q) % q : Nat) : Int) (u * u * u * (u * u * u) * b) := by
    have hlt : (X * X * X) % q < q := Nat.mod_lt _ (by omega)
    rw [cast_mod]
    refine Cg.red' ?_
    rw [Int.ofNat_sub (by omega), cast_mod]
    refine (Cg.sub (Cg.of (b := (Y : Int) * Y + q) (by push_cast; omega)) Cg.red).trans ?_
    refine Cg.trans (Cg.sub (Cg.add (Cg.of_eq hce) Cg.refl) Cg.refl) ⟨1, by push_cast; grind⟩
  obtain ⟨c0, c1, c2, c3⟩ := rg_sc (u := u) hp (some (x2, y2)) _ _ rfl
  have ex : ((((u * u * x2).fmod q).toNat : Nat) : Int) = (u * u * x2).fmod q := by omega
  have ey : ((((u * u * u * y2).fmod q).toNat : Nat) : Int) = (u * u * u * y2).fmod q := by omega
  have e2 : sc q u (some (x2, y2)) = up (some (((u * u * x2).fmod q).toNat, ((u * u * u * y2).fmod q).toNat)) := by
    simp only [sc, up, ex, ey]
  rw [e, e2]
  obtain ⟨r0, r1, r2, r3⟩ := hc.2 x2 y2 rfl
  have hy2 : 0 < y2 := hc.1.1
  have hne : (u * u * u * y2).fmod q ≠ 0 := fun z => by
    have z2 : Cg q (u * u * u * y2) (u * u * u * 0) := Cg.of_eq (by rw [z]; simp)
    have := (Cg.cancel (cube1 h) z2).small r2 r3 (by omega) (by omega)
    omega
  refine law5_pair hq hX hY (by omega) (by omega) (by omega) ?_ hr ?_
  · rcases hcase with ⟨rfl, h0⟩ | ⟨rfl, h0⟩
    · exact c5_at hq hX h0
    · exact (c0_at hq h0).2
  · have g : Cg q ((u * u * u * y2).fmod q * (u * u * u * y2).fmod q) ((u * u * x2).fmod q * (u * u * x2).fmod q * (u * u * x2).fmod q + (((Y * Y + q - (X * X * X) % q) % q : Nat) : Int)) := by
      refine (Cg.mul Cg.red Cg.red).trans (Cg.trans ?_ (Cg.add (Cg.mul (Cg.mul Cg.red.symm Cg.red.symm) Cg.red.symm) hb6.symm))
      refine Cg.trans (b := u * u * u * (u * u * u) * (y2 * y2)) (Cg.of (by grind)) ((Cg.mul Cg.refl (Cg.of_eq hc.1.2)).trans (Cg.of (by grind)))
    rw [← ex, ← ey] at g
    have g2 := g.eq
    generalize ((u * u * u * y2).fmod q).toNat = Y2 at *
    generalize ((u * u * x2).fmod q).toNat = X2 at *
    generalize (Y * Y + q - (X * X * X) % q) % q = B at *
    have l : ((Y2 * Y2 % q : Nat) : Int) = ((Y2 : Int) * Y2).fmod q := by rw [cast_mod]; push_cast; rfl
    have r : (((X2 * X2 * X2 + B) % q : Nat) : Int) = ((X2 : Int) * X2 * X2 + B).fmod q := by rw [cast_mod]; push_cast; rfl
    omega
theorem law5 : Law5 := fun p b a c n hp hb ha hc h0 h1 => by
  obtain ⟨k1, k2⟩ := law5_all hp hb ha hc
  rw [made_rg ha.2, made_rg hc.2, made_rg (rg_sum hp _ _ ha.2 hc.2)]
  have h2 : n = 0 ∨ n = 1 ∨ n = 2 := by omega
  rcases h2 with rfl | rfl | rfl
  · rw [mul2_0, mul2_0, mul2_0]; rfl
  · rw [mul2_1, mul2_1, mul2_1]; exact k1
  · rw [mul2_2, mul2_2, mul2_2]; exact k2

end
-- part L1
section
local macro_rules | `(tactic| walk_at "compareOp NotEq") => `(tactic| (k_here; (with_reducible show wpAny _ _ (compareOp CmpOp.NotEq _ _) _ _ _); k_dflt (refine' ipt_ne ?N ?h1 ?h2 ?e ?u ?_; (case N => k_asm); (case h1 => exact IptIn.mono (by assumption) (by ktd_sub)); (case h2 => exact IptIn.mono (by assumption) (by ktd_sub)); (case e => (first | ((with_reducible refine' Law1.use ?l1 ?l2 ?l3 ?l4 ?l5 ?l6); (case l1 => assumption); (case l2 => assumption); (case l3 => assumption); (case l4 => exact pt_of (by assumption) (by assumption)); (case l5 => omega); (case l6 => omega)) | ((with_reducible refine' Law2.use ?l1 ?l2 ?l3 ?l4 ?l5 ?l6 ?l7 ?l8); (case l1 => assumption); (case l2 => assumption); (case l3 => assumption); (case l4 => exact pt_of (by assumption) (by assumption)); (case l5 => omega); (case l6 => omega); (case l7 => omega); (case l8 => omega)) | ((with_reducible refine' Law3.use ?l1 ?l2 ?l3 ?l4 ?l5 ?l6 ?l7 ?l8); (case l1 => assumption); (case l2 => assumption); (case l3 => assumption); (case l4 => exact pt_of (by assumption) (by assumption)); (case l5 => omega); (case l6 => omega); (case l7 => omega); (case l8 => omega)) | ((with_reducible refine' Law5.use ?l1 ?l2 ?l3 ?l4 ?l5 ?l6 ?l7); (case l1 => assumption); (case l2 => assumption); (case l3 => assumption); (case l4 => exact pt_of (by assumption) (by assumption)); (case l5 => exact pt_of (by assumption) (by assumption)); (case l6 => omega); (case l7 => omega)))); (case u => k_units)); (try k_fold)))
local macro_rules | `(tactic| walk_at "compareOp Eq") => `(tactic| (k_here; (with_reducible show wpAny _ _ (compareOp CmpOp.Eq _ _) _ _ _); k_dflt (refine' ipt_eq ?N ?h1 ?h2 ?e ?u ?_; (case N => k_asm); (case h1 => exact IptIn.mono (by assumption) (by ktd_sub)); (case h2 => exact IptIn.mono (by assumption) (by ktd_sub)); (case e => (first | ((with_reducible refine' Law1.use ?l1 ?l2 ?l3 ?l4 ?l5 ?l6); (case l1 => assumption); (case l2 => assumption); (case l3 => assumption); (case l4 => exact pt_of (by assumption) (by assumption)); (case l5 => omega); (case l6 => omega)) | ((with_reducible refine' Law2.use ?l1 ?l2 ?l3 ?l4 ?l5 ?l6 ?l7 ?l8); (case l1 => assumption); (case l2 => assumption); (case l3 => assumption); (case l4 => exact pt_of (by assumption) (by assumption)); (case l5 => omega); (case l6 => omega); (case l7 => omega); (case l8 => omega)) | ((with_reducible refine' Law3.use ?l1 ?l2 ?l3 ?l4 ?l5 ?l6 ?l7 ?l8); (case l1 => assumption); (case l2 => assumption); (case l3 => assumption); (case l4 => exact pt_of (by assumption) (by assumption)); (case l5 => omega); (case l6 => omega); (case l7 => omega); (case l8 => omega)) | ((with_reducible refine' Law5.use ?l1 ?l2 ?l3 ?l4 ?l5 ?l6 ?l7); (case l1 => assumption); (case l2 => assumption); (case l3 => assumption); (case l4 => exact pt_of (by assumption) (by assumption)); (case l5 => exact pt_of (by assumption) (by assumption)); (case l6 => omega); (case l7 => omega)))); (case u => k_units)); (try k_fold)))
local macro_rules | `(tactic| walk_at "compareOp Is") => `(tactic| ((with_reducible show wpAny _ _ (compareOp CmpOp.Is _ Value.none) _ _ _); (have e9 := pt_none_inv (by assumption) (mulN_none _ _ _)); subst e9; refine wpAny_is_self rfl ?_; (try k_fold)))
local macro_rules | `(tactic| walk_at "call builtin:max") => `(tactic| (k_here; (with_reducible show wpAny _ _ (call (Value.builtin _) [Value.int _ _, Value.int _ _, Value.int _ _]) _ _ _); (with_unfolding_all refine' max3 ?hh ?F ?N ?_; (case hh => rfl); (case F => k_asm); (case N => k_asm)); intro M' t' h' tk' F' N' hM1' hM2' hM3' hM4'; (try k_fold)))
local macro_rules | `(tactic| walk_at "eval Call") => `(tactic| (k_here; (with_reducible show wpAny _ _ (eval (Expr.Call (Expr.Name _ _) _ _ _) _) _ _ _); k_dflt (refine Call_ ?_)))
local macro_rules | `(tactic| ktr_rel) => `(tactic| first
  | exact PtIn.none
  | assumption
  | exact PtIn.mono (by assumption) (by ktd_sub)
  | (refine' PtIn.some ?g0 ?g1 ?g2; (case g0 => k_mem); (case g1 => ktr_rel); (case g2 => ktr_rel)))
local macro_rules | `(tactic| ktr_rel) => `(tactic| first
  | exact IptIn.none
  | assumption
  | exact IptIn.mono (by assumption) (by ktd_sub)
  | (refine' IptIn.some ?g0 ?g1 ?g2 ?g3 ?g4; (case g0 => k_mem); (case g1 => first | assumption | exact fm0 (by omega)); (case g2 => first | assumption | exact fm1 (by omega)); (case g3 => first | assumption | exact fm0 (by omega) | omega); (case g4 => first | assumption | exact fm1 (by omega) | omega)))
local macro_rules | `(tactic| ktd_sub) => `(tactic| (refine sub_right ?_; ktd_sub))
local macro_rules | `(tactic| ktd_sub) => `(tactic| first | exact fun _ h => h | (refine sub_app ?_; ktd_sub) | (refine sub_cons ?_; ktd_sub))
local macro_rules | `(tactic| walk_at "call ref") => `(tactic| (k_here; (with_reducible show wpAny _ _ (call (Value.ref 217) [_, _]) _ _ _); k_dflt (refine' at_use ?k1 ?k2 ?k3 ?k4 ?k5 ?kK ?kL ?kI ?kN ?k0 ?kT ?kd ?ku ?_; (case k1 => k_asm); (case k2 => k_asm); (case k3 => k_asm); (case k4 => k_asm); (case k5 => k_asm); (case kK => first | exact rfl | assumption); (case kL => assumption); (case kI => assumption); (case kN => omega); (case k0 => decide); (case kT => decide); (case kd => k_room); (case ku => k_units)); intro i' t' h' tk' F' N'; (try k_fold)))
local macro_rules | `(tactic| walk_at "subscriptTail") => `(tactic| (k_here; (with_reducible show wpAny _ _ (subscriptTail _ _ (Value.ref _) (Value.int (Int.fmod _ 8) _)) _ _ _); k_dflt (refine' primes_item ?N ?hm ?h0 ?h1 ?_; (case N => k_asm); (case hm => k_mem); (case h0 => exact fm0 (by omega)); (case h1 => exact fm1 (by omega))); intro p' t' hp'; (have hplo' := hp'.lo); (have hphi' := hp'.hi); (try k_fold)))
local macro_rules | `(tactic| walk_at "subscriptTail") => `(tactic| (k_here; (with_reducible show wpAny _ _ (subscriptTail _ _ (Value.ref _) (Value.int (Int.fmod _ 4) _)) _ _ _); k_dflt (refine' law_menu ?N ?hm ?_; (case N => k_asm); (case hm => k_mem)); intro c' t' hca' hcb' hm0' hm1' hn0' hn1' hw0' hw1' hp0' hp1' hc0' hc1'; (try k_fold)))
local macro_rules | `(tactic| walk_at "call ref") => `(tactic| (k_here; (with_reducible show wpAny _ _ (call (Value.ref 224) [_, _]) _ _ _); k_dflt (refine' ctr_use (curve_ok _ _ _ ?b0) ?k1 ?k2 ?k3 ?k4 ?k5 ?kK ?kR ?kd ?ku ?_; (case k1 => k_asm); (case k2 => k_asm); (case k3 => k_asm); (case k4 => k_asm); (case k5 => k_asm); (case kK => first | exact rfl | assumption); (case kR => exact RelII.mk); (case b0 => assumption); (case kd => k_room); (case ku => k_units)); intro r' tl' h' tk' F' N' or' O'; (rcases O' with ⟨cb', ct', ce', cg'⟩); subst ce'; (have cg0' := GoodB.lo cg'); (have cg1' := GoodB.hi cg'); (try dsimp only [PySem.W.CmpBack]); (try k_fold)))
local macro_rules | `(tactic| walk_at "call ref") => `(tactic| (k_here; (with_reducible show wpAny _ _ (call (Value.ref 231) [_, _, _]) _ _ _); k_dflt (refine' ctr_use (point_ok _ _ _ _ ?b0 ?b1) ?k1 ?k2 ?k3 ?k4 ?k5 ?kK ?kR ?kd ?ku ?_; (case k1 => k_asm); (case k2 => k_asm); (case k3 => k_asm); (case k4 => k_asm); (case k5 => k_asm); (case kK => first | exact rfl | assumption); (case kR => exact RelIII.mk); (case b0 => assumption); (case b1 => assumption); (case kd => k_room); (case ku => k_units)); intro r' tl' h' tk' F' N' or' O'; (rcases O' with ⟨pa', pi', po'⟩); (try dsimp only [PySem.W.CmpBack]); (try k_fold)))
local macro_rules | `(tactic| walk_at "call ref") => `(tactic| (k_here; (with_reducible show wpAny _ _ (call (Value.ref 238) [_, _, _]) _ _ _); k_dflt (refine' ctr_use (sum_ok _ _ _ _ ?b0) ?k1 ?k2 ?k3 ?k4 ?k5 ?kK ?kR ?kd ?ku ?_; (case k1 => k_asm); (case k2 => k_asm); (case k3 => k_asm); (case k4 => k_asm); (case k5 => k_asm); (case kK => first | exact rfl | assumption); (case kR => refine' RelS.mk ?hh ?hh2; (case hh => ktr_rel); (case hh2 => ktr_rel)); (case b0 => assumption); (case kd => k_room); (case ku => k_units)); intro r' tl' h' tk' F' N' or' O'; (try dsimp only [PySem.W.CmpBack]); (try k_fold)))
local macro_rules | `(tactic| walk_at "call ref") => `(tactic| (k_here; (with_reducible show wpAny _ _ (call (Value.ref 238) [_, _, _]) _ _ _); k_dflt (refine' ctr_use (sumO_ok _ _ _ _ _ ?b0) ?k1 ?k2 ?k3 ?k4 ?k5 ?kK ?kR ?kd ?ku ?_; (case k1 => k_asm); (case k2 => k_asm); (case k3 => k_asm); (case k4 => k_asm); (case k5 => k_asm); (case kK => first | exact rfl | assumption); (case kR => refine' RelSO.mk ?hh ?hh2 ?hO; (case hh => exact off2 (by assumption) (by assumption) (by ktd_sub) (by ktd_sub)); (case hh2 => exact off2 (by assumption) (by assumption) (by ktd_sub) (by ktd_sub)); (case hO => exact own_in (by ktd_sub))); (case b0 => assumption); (case kd => k_room); (case ku => k_units)); intro r' tl' h' tk' F' N' or' O'; (try dsimp only [PySem.W.CmpBack]); (try k_fold)))
local macro_rules | `(tactic| walk_at "call ref") => `(tactic| (k_here; (with_reducible show wpAny _ _ (call (Value.ref 245) [_, _]) _ _ _); k_dflt (refine' ctr_use (lmade_ok _ _ _ ?b0) ?k1 ?k2 ?k3 ?k4 ?k5 ?kK ?kR ?kd ?ku ?_; (case k1 => k_asm); (case k2 => k_asm); (case k3 => k_asm); (case k4 => k_asm); (case k5 => k_asm); (case kK => first | exact rfl | assumption); (case kR => refine' RelM.mk ?hh; (case hh => ktr_rel)); (case b0 => assumption); (case kd => k_room); (case ku => k_units)); intro r' tl' h' tk' F' N' or' O'; (try dsimp only [PySem.W.CmpBack]); (try k_fold)))
local macro_rules | `(tactic| walk_at "call ref") => `(tactic| (k_here; (with_reducible show wpAny _ _ (call (Value.ref 252) [_]) _ _ _); k_dflt (refine' ctr_use (told_ok _ _ _) ?k1 ?k2 ?k3 ?k4 ?k5 ?kK ?kR ?kd ?ku ?_; (case k1 => k_asm); (case k2 => k_asm); (case k3 => k_asm); (case k4 => k_asm); (case k5 => k_asm); (case kK => first | exact rfl | assumption); (case kR => refine' RelP.mk ?hh; (case hh => ktr_rel)); (case kd => k_room); (case ku => k_units)); intro r' tl' h' tk' F' N' or' O'; (try dsimp only [PySem.W.CmpBack]); (try k_fold)))
local macro_rules | `(tactic| walk_at "call ref") => `(tactic| (k_here; (with_reducible show wpAny _ _ (call (Value.ref 49) [_, _]) _ _ _); k_dflt (refine' ctr_use (MulOk.use (mul_all _ _ ?b2 4) ?b0 ?b1) ?k1 ?k2 ?k3 ?k4 ?k5 ?kK ?kR ?kd ?ku ?_; (case k1 => k_asm); (case k2 => k_asm); (case k3 => k_asm); (case k4 => k_asm); (case k5 => k_asm); (case kK => first | exact rfl | assumption); (case kR => refine' RelPI.mk ?hh; (case hh => ktr_rel)); (case b2 => assumption); (case b0 => omega); (case b1 => omega); (case kd => k_room); (case ku => k_units)); intro r' tl' h' tk' F' N' or' O'; (try dsimp only [PySem.W.CmpBack]); (try k_fold)))
local macro_rules | `(tactic| walk_at "call ref") => `(tactic| (k_here; (with_reducible show wpAny _ _ (call (Value.ref 49) [Value.none, _]) _ _ _); k_dflt (refine' ctr_use (mulNone_ok _ _ ?b0 ?b1) ?k1 ?k2 ?k3 ?k4 ?k5 ?kK ?kR ?kd ?ku ?_; (case k1 => k_asm); (case k2 => k_asm); (case k3 => k_asm); (case k4 => k_asm); (case k5 => k_asm); (case kK => first | exact rfl | assumption); (case kR => exact RelNI.mk); (case b0 => omega); (case b1 => omega); (case kd => k_room); (case ku => k_units)); intro r' tl' h' tk' F' N' or' O'; (have e9' : _ = _ := O'); (clear O'); subst e9'; (try dsimp only [PySem.W.CmpBack]); (try k_fold)))
local macro_rules | `(tactic| walk_at "call ref") => `(tactic| (k_here; (with_reducible show wpAny _ _ (call (Value.ref 42) [_, _]) _ _ _); k_dflt (refine' ctr_use (add_ok _ _ _ _ ?b0) ?k1 ?k2 ?k3 ?k4 ?k5 ?kK ?kR ?kd ?ku ?_; (case k1 => k_asm); (case k2 => k_asm); (case k3 => k_asm); (case k4 => k_asm); (case k5 => k_asm); (case kK => first | exact rfl | assumption); (case kR => refine' RelPP.mk ?hh ?hh2; (case hh => ktr_rel); (case hh2 => ktr_rel)); (case b0 => assumption); (case kd => k_room); (case ku => k_units)); intro r' tl' h' tk' F' N' or' O'; (try dsimp only [PySem.W.CmpBack]); (try k_fold)))
local macro_rules | `(tactic| walk_at "exec For Name Call cons nil") => `(tactic| (k_here; (rename Fr _ _ _ _ => lF'); (with_unfolding_all refine' For_invVF lF' ?k1 ?k2 ?_; (case k1 => exact rfl); (case k2 => exact rfl); k_whole)))
local macro_rules | `(tactic| walk_at "pyIter ref") => `(tactic| ((with_reducible show wpAny _ _ (pyIter (Value.ref _)) (fun it s₂ => LoopAtV _ _ _ _ _ _ _ _ _ it s₂) _ _); k_here; (rename Fr _ _ _ _ => lF'); (rename IsRange _ _ _ _ _ _ _ _ => rgX); (rename IptIn _ _ _ _ => lI'); (with_unfolding_all refine' rng_sums' lI' (by rfl) rgX (by omega) (by omega) lF' (by first | assumption | exact news_keeps (by assumption) (by assumption) | exact news_keeps2 (by assumption) (by assumption) (by assumption) | exact news_keeps3 (by assumption) (by assumption) (by assumption) (by assumption)) (by first | assumption | exact allLt_of (by assumption) | ((try simp only [AllLt, and_true]); assumption)) (fun i' vs' cnt' tl' k' t' h' tk' own' hi' hl' hol' hoff' ho' F' N' => ?_) (fun u' vs' cnt' tl' h' tk' hl' ho' F' N' => ?_)); (all_goals (try clear lF')); (all_goals (try k_fold))))
local macro_rules | `(tactic| walk_at "TbEnd") => `(tactic| (refine sums_end (by assumption) (by assumption) (by assumption) (by assumption) (by assumption) (by assumption) (by assumption) (by assumption) (by (intro z h2; (simp [h2]; done)))))
local macro_rules | `(tactic| walk_at "call builtin:list.append") => `(tactic| (k_here; (with_reducible show wpAny _ _ (call (Value.builtin _) [Value.ref _, _]) _ _ _); k_dflt (refine' sums_append ?k1 ?k2 ?k3 ?k4 ?k5 ?_; (case k1 => k_asm); (case k2 => k_asm); (case k3 => assumption); (case k4 => (intro q9 h9; rcases List.mem_append.mp h9 with h9 | h9; exact (by assumption : ∀ q ∈ _, q.1 ≠ _) q9 h9; exact (by assumption : ∀ q ∈ _, q.1 ≠ _) q9 h9)); (case k5 => (have hz9 := SumsOk.len (by assumption); omega)); k_whole); intro h' F' N'))
local macro_rules | `(tactic| walk_at "subscriptTail") => `(tactic| (k_here; (with_reducible show wpAny _ _ (subscriptTail _ _ (Value.ref _) (Value.int _ _)) _ _ _); (rename SumsOk _ _ _ _ _ => lS'); k_dflt (refine' sums_item ?N ?hm lS' ?hj ?hji ?hi ?_; (case N => k_asm); (case hm => k_mem); (case hj => first | exact .inr ⟨rfl, rfl⟩ | exact .inl (Int.toNat_of_nonneg (by first | exact fm0 (by omega) | omega)).symm); (case hji => first | exact Nat.le_refl _ | omega); (case hi => omega)); intro v' lI'; (try k_fold)))

set_option maxRecDepth 100000 in
set_option maxHeartbeats 16000000 in
theorem law_try (H1 : Law1) (H2 : Law2) (H3 : Law3) (H5 : Law5) : PySem.Challenge.rw_lh0026_01.Holds := hd (by
  k_with_none
  k_go0
  all_goals try k_fold
  k_steps
  done)

end
end Mine
theorem PySem.Challenge.cw_lh0026_01_holds : PySem.Challenge.rw_lh0026_01.Holds :=
  Mine.law_try Mine.law1 Mine.law2 Mine.law3 Mine.law5
