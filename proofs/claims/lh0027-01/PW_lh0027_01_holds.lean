import PyProof.Rows.All
import Wide.All
import OpenK.AllK
import Wide.FinOn
import PySem.Challenge.RW_lh0027_01
open PySem PySem.W PyProof.Rows
set_option Elab.async false
set_option linter.all false
set_option maxRecDepth 100000
set_option maxHeartbeats 8000000
namespace Mine

open_top hd for PySem.Challenge.rw_lh0027_01


abbrev Led := List (Addr × Obj)

/-- a contract of a tree: over any frame of a def, any ledger that holds `news`, it ends in a value told by R over a longer ledger -/
def Con (w : World) (mean : ExcName → Option Value) (mg mb : Str → Option Value) (dC uC : Nat) (news : Led) (t : Sem Value) (R : Led → Value → Prop) : Prop :=
  ∀ (dp un : Nat) (gd : Option (List Code)) (cn : Str) (cs : Scope) (a : Addr) (ccd : Value) (cl : List (Str × Addr)) (outer : List Env) (A₀ : Around) (base h₀ : Heap) (L : Addr) (m : Str → Option Value) (s : Shared) (Q E : Value → Shared → Prop),
    Below A₀ base outer h₀ → Fr h₀ L s.heap m → (hd.heap_39 w.params).In h₀ → News h₀ L s.heap news → Top hd.view_39 (looseW hd.view_39 []) mean mg mb h₀ → cs.kind = .function → dp + dC < recursionLimit → un + uC < cLine →
    (∀ r tl h' tk', Fr h₀ L h' m → News h₀ L h' (tl ++ news) → R (tl ++ news) r → Q r { s with heap := h', toks := tk' }) →
    wpAny (model Challenge.rw_lh0027_01.row.prog w) (ktrTop dp un gd cn cs L a ccd cl outer) t Q E s

section
variable {w : World} {mean : ExcName → Option Value} {mg mb : Str → Option Value} {dC uC : Nat} {news : Led} {t : Sem Value} {R : Led → Value → Prop}
theorem Con.use {dp un : Nat} {gd : Option (List Code)} {cn : Str} {cs : Scope} {a : Addr} {ccd : Value} {cl : List (Str × Addr)} {outer : List Env} {A₀ : Around} {base h₀ : Heap} {L : Addr} {m : Str → Option Value} {s : Shared} {Q E : Value → Shared → Prop}
    (B : Below A₀ base outer h₀) (F : Fr h₀ L s.heap m) (X : (hd.heap_39 w.params).In h₀) (N : News h₀ L s.heap news) (T : Top hd.view_39 (looseW hd.view_39 []) mean mg mb h₀) (hk : cs.kind = .function) (C : Con w mean mg mb dC uC news t R)
    (hd : dp + dC < recursionLimit) (hu : un + uC < cLine)
    (ret : ∀ r tl h' tk', Fr h₀ L h' m → News h₀ L h' (tl ++ news) → R (tl ++ news) r → Q r { s with heap := h', toks := tk' }) :
    wpAny (model Challenge.rw_lh0027_01.row.prog w) (ktrTop dp un gd cn cs L a ccd cl outer) t Q E s := C _ _ _ _ _ _ _ _ _ _ _ _ _ _ _ _ _ B F X N T hk hd hu ret
end


local macro_rules | `(tactic| k_room) => `(tactic| ((try simp only [depth_under_make, depth_under_kw, depth_in1, depth_deeper, ktrTop]); omega))
local macro_rules | `(tactic| k_units) => `(tactic| ((try simp only [units_in1, units_deeper, Around.mark_units, units_caller, ktrTop]); omega))
local macro_rules | `(tactic| k_mem) => `(tactic| ((fail_if_success ktn_app); first | (refine List.mem_append.mpr (Or.inl ?_); k_mem) | (refine List.mem_append.mpr (Or.inr ?_); k_mem)))
local macro_rules | `(tactic| k_mem) => `(tactic| assumption)

noncomputable def primes : List Nat := [7, 19, 31, 43, 67, 79, 103, 127]
def Pr (p : Int) : Prop := ∃ q ∈ primes, p = (q : Int)
theorem Pr.lo {p : Int} (h : Pr p) : 7 ≤ p := by
  obtain ⟨q, hq, rfl⟩ := h
  have : ∀ q ∈ primes, 7 ≤ q := by decide
  have := this q hq; omega
theorem Pr.hi {p : Int} (h : Pr p) : p ≤ 127 := by
  obtain ⟨q, hq, rfl⟩ := h
  have : ∀ q ∈ primes, q ≤ 127 := by decide
  have := this q hq; omega
theorem fmodE {p : Int} (hp : 0 < p) (a : Int) : a.fmod p = a % p := Int.fmod_eq_emod_of_nonneg a (Int.le_of_lt hp)
theorem emod_in {p : Int} (hpr : Pr p) (a : Int) : 0 ≤ a % p ∧ a % p < p := ⟨Int.emod_nonneg _ (by have := hpr.lo; omega), Int.emod_lt_of_pos _ (by have := hpr.lo; omega)⟩

/-- the entries of an FQ's own dict -/
noncomputable def fqD (w : World) (p v : Int) (t1 t2 t3 t4 : Nat) : Obj :=
  dictOf [⟨PyData.keyHash w.params (Str.ofString "field_modulus"), .str (Str.ofString "field_modulus") t1, .int p t2⟩, ⟨PyData.keyHash w.params (Str.ofString "n"), .str (Str.ofString "n") t3, .int v t4⟩] 2
/-- the ledger bears at x an FQ of n = v over p -/
def FqIn (w : World) (news : Led) (x : Addr) (p v : Int) : Prop :=
  ∃ dx t1 t2 t3 t4, (x, instObj 206 dx) ∈ news ∧ (dx, fqD w p v t1 t2 t3 t4) ∈ news
/-- an FQ of the ledger with its number in range -/
def Fq (w : World) (news : Led) (x : Addr) (p u : Int) : Prop := FqIn w news x p u ∧ 0 ≤ u ∧ u < p
abbrev FqOut (w : World) (p c : Int) : Led → Value → Prop := fun nx r => ∃ z c', r = .ref z ∧ Fq w nx z p c' ∧ c' = c
section
variable {w : World} {news : Led} {x : Addr} {p u : Int}
theorem FqIn.sub {news' : Led} (h : FqIn w news x p u) (hs : ∀ q ∈ news, q ∈ news') : FqIn w news' x p u := by
  obtain ⟨dx, t1, t2, t3, t4, a, b⟩ := h
  exact ⟨dx, t1, t2, t3, t4, hs _ a, hs _ b⟩
theorem Fq.sub {news' : Led} (h : Fq w news x p u) (hs : ∀ q ∈ news, q ∈ news') : Fq w news' x p u := ⟨h.1.sub hs, h.2⟩
theorem Fq.app {tl : Led} (h : Fq w news x p u) : Fq w (tl ++ news) x p u := h.sub fun _ k => List.mem_append.mpr (.inr k)
end

theorem fq_end {w : World} {nx : Led} {x dx : Addr} {p v : Int} {t1 t2 t3 t4 : Nat} (hpr : Pr p) (h1 : (x, instObj 206 dx) ∈ nx) (h2 : (dx, fqD w p (v.fmod p) t1 t2 t3 t4) ∈ nx) : FqOut w p (v % p) nx (.ref x) := by
  rw [fmodE (by have := hpr.lo; omega)] at h2
  exact ⟨x, _, rfl, ⟨⟨dx, _, _, _, _, h1, h2⟩, emod_in hpr v⟩, rfl⟩
theorem c_new {w : World} {mean} {mg mb} {news : Led} {v p : Int} {t u : Tok} (hpr : Pr p) :
    Con w mean mg mb 5 40 news (call (.ref 206) [.int v t, .int p u]) (FqOut w p (v % p)) := by
  have hp : 0 < p := by have := hpr.lo; omega
  have hp2 : p < 1000 := by have := hpr.hi; omega
  k_with_none
  unfold Con
  k_fill
  w_on
  intro dp un gd cn cs a ccd cl outer A₀ base h₀ L m s Q E B F X N T hk hd hu ret
  obtain ⟨ck, cnm, cg, cc, cmr⟩ := cs
  dsimp only at hk; subst hk
  k_steps
  all_goals (exact ret _ [_, _] _ _ (by assumption) (by assumption) (fq_end hpr (.head _) (.tail _ (.head _))))
theorem fq_done {w : World} {news nx : Led} {p c c' : Int} {h₀ h' : Heap} {L z : Addr} {m : Str → Option Value} {s : Shared} {Q : Value → Shared → Prop} {tk' : Nat}
    (ret : ∀ r tl h' tk', Fr h₀ L h' m → News h₀ L h' (tl ++ news) → (∃ z c', r = .ref z ∧ Fq w (tl ++ news) z p c' ∧ c' = c) → Q r { s with heap := h', toks := tk' }) (F : Fr h₀ L h' m) (N : News h₀ L h' nx) (hs : ∀ q ∈ news, q ∈ nx)
    (h : Fq w nx z p c') (e : c' = c) : Q (.ref z) { s with heap := h', toks := tk' } :=
  ret _ nx _ _ F (fun q hq => N q ((List.mem_append.mp hq).elim id (hs q))) ⟨z, c', rfl, h.sub fun _ k => List.mem_append.mpr (.inl k), e⟩
local macro_rules | `(tactic| walk_at "rel") => `(tactic| first | with_reducible assumption | (with_reducible apply Fq.app; walk_at "rel") | omega | with_unfolding_all rfl)
local macro_rules | `(tactic| walk_at "use") => `(tactic| (k_here; k_dflt (refine' Con.use ?B ?F ?X ?N ?T ?hk ?C ?hd ?hu ?_; (case B => k_asm); (case F => k_asm); (case X => k_asm); (case N => k_asm); (case T => k_asm); (case hk => rfl); (case C => walk_at "con"); (case hd => k_room); (case hu => k_units); k_whole; intro r' tl' h' tk' F' N' hR'; (try dsimp only at hR'); (obtain ⟨z', c', e', k', v'⟩ := hR'; subst e'); (try dsimp only); (try k_fold))))
local macro_rules | `(tactic| walk_at "con") => `(tactic| first | (with_reducible apply c_new <;> walk_at "rel"))
local macro_rules | `(tactic| walk_at "call ref") => `(tactic| walk_at "use")

theorem c_made {w : World} {mean} {mg mb} {news : Led} {x : Addr} {v p u : Int} {t : Tok} (hpr : Pr p) (hx : Fq w news x p u) :
    Con w mean mg mb 8 60 news (call (.ref 189) [.ref x, .int v t]) (FqOut w p (v % p)) := by
  obtain ⟨⟨dx, t1, t2, t3, t4, hx1, hx2⟩, hu⟩ := hx
  unfold fqD at hx2
  k_with_none
  unfold Con
  k_fill
  w_on
  intro dp un gd cn cs a ccd cl outer A₀ base h₀ L m s Q E B F X N T hk hd hu ret
  obtain ⟨ck, cnm, cg, cc, cmr⟩ := cs
  dsimp only at hk; subst hk
  k_steps
  all_goals (refine fq_done ret (by assumption) (by assumption) (by intro q9 h9; simp only [List.mem_cons, List.mem_append, h9, or_true, true_or]) (by assumption) (by assumption))

section
open PySem.Calls

noncomputable def pw (b e m : Int) : Int := (Builtin.powMod b.toNat e.natAbs m.natAbs : Nat)

theorem pw_kind : builtinKind "pow" = none := by decide +kernel
theorem pw_plain : plainId "pow" = true := by decide +kernel
theorem pw_entry : entryFor table "pow" = some Builtin.«pow» := entryFor_of_fast (by kernel_rfl)
theorem pw_args (a b c : Value) : argsOk "pow" ⟨[a, b, c], []⟩ := by unfold argsOk; kernel_rfl
theorem pw_iargs (a b c : Value) : argsOk "int.__pow__" ⟨[a, b, c], []⟩ := by unfold argsOk; kernel_rfl

theorem gives_int_pow3 (b e m : Int) (t u v : Tok) (hb : 0 ≤ b) (hb2 : b < m) (he : 0 ≤ e) (hm : 2 ≤ m) : Gives (Builtin.«int.__pow__» ⟨[.int b t, .int e u, .int m v], []⟩) (.int (pw b e m)) := by
  refine .of_wp fun M A E s Q h => ?_
  obtain ⟨hp, g, d, tk, os⟩ := s
  wp_walk
  have h0 : (m == 0) = false := by simp; omega
  have h1 : (m.natAbs == 1) = false := by simp; omega
  have h2 : ¬ e < 0 := by omega
  have h3 : (decide (m < 0)) = false := by simp; omega
  have h4 : b % (m.natAbs : Int) = b := Int.emod_eq_of_lt hb (by omega)
  simp only [h0, h1, if_neg h2, h3, h4, Bool.false_and, Bool.false_eq_true, if_false]
  wp_walk
  exact ⟨_, rfl, h⟩

theorem call_pow3 {prog : Program} {w : World} {A : Around} {E : Value → Shared → Prop} {s : Shared} {Q : Value → Shared → Prop} {b e m : Int} {t u v : Tok} (hb : 0 ≤ b) (hb2 : b < m) (he : 0 ≤ e) (hm : 2 ≤ m) (h : ∀ t' tk', Q (.int (pw b e m) t') { s with toks := tk' }) :
    wpAny (model prog w) A (call (.builtin "pow") [.int b t, .int e u, .int m v]) Q E s := by
  refine call_function_entry pw_kind pw_plain pw_entry (pw_args _ _ _) ?_
  obtain ⟨hp, g, d, tk, os⟩ := s
  have hT : (⟨hp, g, d, tk, os⟩ : Shared).TypeIs (.int b t) "int" := rfl
  have ed : PySem.dunder "pow" = Str.ofString "__pow__" := by decide +kernel
  have f3 := F.slot_int_pow.lookup
  rw [ed] at f3
  have f4 := F.slot_int_pow.bind (.int b t)
  repeat (any_goals (first | assumption | ((with_reducible show wpAny _ _ (call (Value.builtin "int.__pow__") _ _) _ _ _); refine call_gives F.slot_int_pow hT F.entry_int_pow (pw_iargs _ _ _) (gives_int_pow3 b e m t u v hb hb2 he hm) ?_; dsimp only [Made.post]) | wp_step))
  exact ⟨_, rfl, h _ _⟩
end



noncomputable def eStep (q : Int × Int × Int × Int) : Int × Int × Int × Int := (q.2.1 - q.1 * (q.2.2.2.fdiv q.2.2.1), q.1, q.2.2.2 - q.2.2.1 * (q.2.2.2.fdiv q.2.2.1), q.2.2.1)
/-- the states (lm, hm, low, high) of the loop from q on -/
noncomputable def orb : Nat → Int × Int × Int × Int → List (Int × Int × Int × Int)
  | 0, q => [q]
  | n + 1, q => if q.2.2.1 > 1 then q :: orb n (eStep q) else [q]
noncomputable def orbOf (p a : Nat) : List (Int × Int × Int × Int) := orb 12 (1, 0, a, p)
noncomputable def orbOk (p a : Nat) (q : Int × Int × Int × Int) : Bool :=
  decide (-1000 ≤ q.1) && decide (q.1 ≤ 1000) && decide (-1000 ≤ q.2.1) && decide (q.2.1 ≤ 1000) && decide (1 ≤ q.2.2.1) && decide (q.2.2.1 ≤ 1000) && decide (1 ≤ q.2.2.2) && decide (q.2.2.2 ≤ 1000) &&
  (if q.2.2.1 > 1 then (orbOf p a).contains (eStep q) && decide ((eStep q).2.2.1 < q.2.2.1) else decide (q.1 % (p : Int) = pw a (p - 2) p))
theorem orb_all : (primes.all fun p => (List.range p).all fun a => a == 0 || (orbOf p a).all (orbOk p a)) = true := by decide +kernel

def Orb (p a : Int) (q : Int × Int × Int × Int) : Prop := q ∈ orbOf p.toNat a.toNat
theorem Orb.ok {p a : Int} {q : Int × Int × Int × Int} (hp : Pr p) (ha : 0 < a) (ha2 : a < p) (h : Orb p a q) : orbOk p.toNat a.toNat q = true := by
  obtain ⟨n, hn, rfl⟩ := hp
  have h1 := List.all_eq_true.mp orb_all n hn
  have h2 := List.all_eq_true.mp h1 a.toNat (List.mem_range.mpr (by omega))
  have h3 : (a.toNat == 0) = false := by simp; omega
  rw [h3, Bool.false_or] at h2
  rw [Int.toNat_natCast]
  exact List.all_eq_true.mp h2 q (by simpa [Orb] using h)
def OB (lm hm low high : Int) : Prop := -1000 ≤ lm ∧ lm ≤ 1000 ∧ -1000 ≤ hm ∧ hm ≤ 1000 ∧ 1 ≤ low ∧ low ≤ 1000 ∧ 1 ≤ high ∧ high ≤ 1000
theorem Orb.bounds {p a lm hm low high : Int} (hp : Pr p) (ha : 0 < a) (ha2 : a < p) (h : Orb p a (lm, hm, low, high)) : OB lm hm low high := by
  have := h.ok hp ha ha2
  unfold orbOk at this
  simp only [Bool.and_eq_true, decide_eq_true_eq] at this
  obtain ⟨⟨⟨⟨⟨⟨⟨⟨a, b⟩, c⟩, d⟩, e⟩, f⟩, g⟩, i⟩, -⟩ := this
  exact ⟨a, b, c, d, e, f, g, i⟩
theorem Orb.step {p a lm hm low high : Int} (hp : Pr p) (ha : 0 < a) (ha2 : a < p) (h : Orb p a (lm, hm, low, high)) (hl : 1 < low) :
    Orb p a (hm - lm * high.fdiv low, lm, high - low * high.fdiv low, low) ∧ high - low * high.fdiv low < low := by
  have := h.ok hp ha ha2
  unfold orbOk at this
  simp only [Bool.and_eq_true, decide_eq_true_eq] at this
  obtain ⟨-, t⟩ := this
  rw [if_pos (by simpa using hl)] at t
  simp only [Bool.and_eq_true, decide_eq_true_eq, List.contains_iff_mem] at t
  exact t
theorem Orb.last {p a lm hm low high : Int} (hp : Pr p) (ha : 0 < a) (ha2 : a < p) (h : Orb p a (lm, hm, low, high)) (hl : ¬ 1 < low) : lm % p = pw a (p - 2) p := by
  have := h.ok hp ha ha2
  unfold orbOk at this
  simp only [Bool.and_eq_true, decide_eq_true_eq] at this
  obtain ⟨-, t⟩ := this
  rw [if_neg (by simpa using hl)] at t
  have hp0 := hp.lo
  have e1 : (p.toNat : Int) = p := Int.toNat_of_nonneg (by omega)
  have e2 : (a.toNat : Int) = a := Int.toNat_of_nonneg (by omega)
  simpa only [e1, e2, decide_eq_true_eq] using t
theorem Orb.start {p a : Int} (hp : Pr p) (ha : 0 < a) : Orb p a (1, 0, a, p) := by
  have hp0 := hp.lo
  have e1 : (p.toNat : Int) = p := Int.toNat_of_nonneg (by omega)
  have e2 : (a.toNat : Int) = a := Int.toNat_of_nonneg (by omega)
  unfold Orb orbOf
  rw [e1, e2]
  show _ ∈ (if _ then _ else _)
  split
  · exact .head _
  · exact .head _

/-- the inverse modulo n, 0 where there is none -/
noncomputable def iv (n a : Int) : Int := if a % n = 0 then 0 else pw (a % n) (n - 2) n

theorem powMod_lt (b e : Nat) {m : Nat} (hm : 0 < m) : Builtin.powMod b e m < m := by
  unfold Builtin.powMod
  have h1 : 1 % m < m := Nat.mod_lt _ hm
  generalize (List.range (Builtin.Int.intBits (e : Int))).reverse = l
  generalize 1 % m = x at h1
  induction l generalizing x with
  | nil => exact h1
  | cons i r ih =>
    rw [List.foldl_cons]
    apply ih
    split <;> exact Nat.mod_lt _ hm
theorem pw_lo (b e m : Int) : 0 ≤ pw b e m := Int.natCast_nonneg _
theorem pw_hi (b e : Int) {m : Int} (hm : 0 < m) : pw b e m < m := by
  have := powMod_lt b.toNat e.natAbs (m := m.natAbs) (by omega)
  unfold pw
  omega
theorem iv_bd {p : Int} (hp : 0 < p) (v : Int) : 0 ≤ iv p v ∧ iv p v < p := by
  unfold iv
  split
  · exact ⟨Int.le_refl _, hp⟩
  · exact ⟨pw_lo _ _ _, pw_hi _ _ hp⟩

theorem inv_start {p v : Int} (hpr : Pr p) (h : v.fmod p ≠ 0) : OB 1 0 ((v.fmod p).fmod p) p ∧ Orb p (v % p) (1, 0, (v.fmod p).fmod p, p) := by
  have h1 := hpr.lo
  have e : v.fmod p = v % p := Int.fmod_eq_emod_of_nonneg _ (by omega)
  have e2 : (v.fmod p).fmod p = v % p := by rw [Int.fmod_eq_emod_of_nonneg _ (by omega), e, Int.emod_emod]
  have h2 : 0 ≤ v % p := Int.emod_nonneg _ (by omega)
  have h3 : v % p < p := Int.emod_lt_of_pos _ (by omega)
  rw [e2]
  rw [e] at h
  have k := Orb.start (a := v % p) hpr (by omega)
  exact ⟨k.bounds hpr (by omega) (by omega), k⟩
theorem inv_turn {p v lm hm low high : Int} (hpr : Pr p) (h : v.fmod p ≠ 0) (k : Orb p (v % p) (lm, hm, low, high)) (hl : 1 < low) :
    (OB (hm - lm * high.fdiv low) lm (high - low * high.fdiv low) low ∧ Orb p (v % p) (hm - lm * high.fdiv low, lm, high - low * high.fdiv low, low)) ∧ (high - low * high.fdiv low).toNat < low.toNat := by
  have h1 := hpr.lo
  have e : v.fmod p = v % p := Int.fmod_eq_emod_of_nonneg _ (by omega)
  have h2 : 0 ≤ v % p := Int.emod_nonneg _ (by omega)
  have h3 : v % p < p := Int.emod_lt_of_pos _ (by omega)
  rw [e] at h
  have s := k.step hpr (by omega) (by omega) hl
  exact ⟨⟨s.1.bounds hpr (by omega) (by omega), s.1⟩, by have := s.2; omega⟩
theorem inv_end {p v lm hm low high : Int} (hpr : Pr p) (h : v.fmod p ≠ 0) (k : Orb p (v % p) (lm, hm, low, high)) (hl : ¬ 1 < low) : lm.fmod p = iv p v := by
  have h1 := hpr.lo
  have e : v.fmod p = v % p := Int.fmod_eq_emod_of_nonneg _ (by omega)
  have h2 : 0 ≤ v % p := Int.emod_nonneg _ (by omega)
  have h3 : v % p < p := Int.emod_lt_of_pos _ (by omega)
  rw [e] at h
  rw [Int.fmod_eq_emod_of_nonneg _ (by omega), k.last hpr (by omega) (by omega) hl, iv, if_neg h]
theorem inv_zero {p v : Int} (hpr : Pr p) (h : v.fmod p = 0) : 0 = iv p v := by
  have h1 := hpr.lo
  have e : v.fmod p = v % p := Int.fmod_eq_emod_of_nonneg _ (by omega)
  rw [e] at h
  rw [iv, if_pos h]

theorem c_inv (w : World) (mean) (mg mb) (news : Led) (v p : Int) (t u : Tok) (hpr : Pr p) (hv : -(2 ^ 62) < v ∧ v < 2 ^ 62) :
    Con w mean mg mb 5 40 news (call (.ref 63) [.int v t, .int p u]) (fun nx r => ∃ z t', r = .int z t' ∧ z = iv p v ∧ 0 ≤ z ∧ z < p) := by
  have hp1 := hpr.lo
  have hp2 := hpr.hi
  k_with_none
  unfold Con
  k_fill
  w_on
  intro dp un gd cn cs a ccd cl outer A₀ base h₀ L m s Q E B F X N T hk hd hu ret
  obtain ⟨ck, cnm, cg, cc, cmr⟩ := cs
  dsimp only at hk; subst hk
  k_with "state" => k_dflt (first | exact inv_start hpr (by assumption) | (refine (inv_turn hpr (by assumption) (by assumption) ?_).1; omega))
  k_with "measure" => k_dflt (refine (inv_turn hpr (by assumption) (by assumption) ?_).2; omega)
  k_with "exec While Compare cons nil" => k_while (fun (_ : List Int) lm hm low high => (-1000 ≤ lm ∧ lm ≤ 1000 ∧ -1000 ≤ hm ∧ hm ≤ 1000 ∧ 1 ≤ low ∧ low ≤ 1000 ∧ 1 ≤ high ∧ high ≤ 1000) ∧ Orb p (v % p) (lm, hm, low, high)) (fun _ lm hm low high => low.toNat) "lm" "hm" "low" "high"
  k_steps
  · exact ret _ [] _ _ (by assumption) (by assumption) ⟨_, _, rfl, inv_zero hpr (by assumption), by omega, by omega⟩
  · have he := inv_end hpr (by assumption) (by assumption) (by omega)
    refine ret _ [_, _] _ _ (by assumption) (by assumption) ⟨_, _, rfl, he, ?_⟩
    rw [he]
    exact iv_bd (by omega) v

section
open PySem.Calls
theorem int_mul_inst (a : Int) (t : Tok) (x C dx : Addr) :
    Meets (Builtin.«int.__mul__» ⟨[.int a t, .ref x], []⟩) (fun _ R s => s.heap.get? x = some (instObj C dx) ∧ R (.ok (.ret Value.notImplemented)) s) :=
  .of_wp fun prog w A R s h => by obtain ⟨hp, g, d, tk, os⟩ := s; obtain ⟨hl, h⟩ := h; wp_walk; exact ⟨_, rfl, h⟩
theorem rmul_K {prog : Program} {w : World} {A : Around} {E : Value → Shared → Prop} {s : Shared} {K : Frag} {x C L f g dx : Addr} {h₀ : Heap} {m : Str → Option Value} {od : Obj} {n : Int} {t : Tok} {news : List (Addr × Obj)} {Q : Value → Shared → Prop}
    (Fm : Fr h₀ L s.heap m) (X₀ : K.In h₀) (N : News h₀ L s.heap news) (h1 : (x, instObj C dx) ∈ news) (h2 : (dx, od) ∈ news) (hc : selfFirst K C = true)
    (hs : findIn K (.ref C) (PySem.dunder "mul") = some (some (.ref f))) (hr : findIn K (.ref C) (dunderR "mul") = some (some (.ref g))) (hf : isFn K (.ref g) = true) (hsub : subIn K (.ref C) (.type "int") = some false)
    (h : wpAny (model prog w) A (call (.ref g) [.ref x, .int n t]) (W.CmpBack Q) E s) : wpAny (model prog w) A (binaryOp .Mult (.int n t) (.ref x)) Q E s := by
  have X := X₀.keeps Fm.keep
  obtain ⟨cd, rest, hcd, hm⟩ := ksp_first hc
  have I := InstAt.of_news N h1 h2
  have ho := (N _ h1).1
  have one := ksp_try X I hr hf h
  obtain ⟨hh, gg, d, tt, os⟩ := s
  have L1 : Looks (model prog w) hh (typeOf (.int n t)) (.type "int") := Looks.of_pure rfl
  have L2 : Looks (model prog w) hh (typeOf (.ref x)) (.ref C) := I.type
  have L3 : Looks (model prog w) hh (fillsNumberSlot (.type "int") "mul") true := Looks.of_pure F.fills_int_mul
  have L4 : Looks (model prog w) hh (fillsNumberSlot (.ref C) "mul") true := fills_K X hcd hm hs
  have L5 : Looks (model prog w) hh (isSubtype (.ref C) (.type "int")) false := looks_subIn X hsub
  have L6 : Looks (model prog w) hh (numberSlotInPython (.type "int") "mul") false := Looks.of_pure rfl
  have hne : (Value.type "int" == Value.ref C) = false := Bool.eq_false_iff.mpr fun q => by cases beq_iff_eq.mp q
  have hi : (Operator.Mult).info = ("*", "mul") := rfl

  refine wpAny_holding (wpAny_bind ?_)
  unfold binaryOp1
  refine wpAny_bind (L1.at (wpAny_bind (L2.at (wpAny_bind (L3.at ?_)))))
  rw [hne]
  ksp_lk
  have hT : (⟨hh, gg, d, tt, os⟩ : Shared).TypeIs (.int n t) "int" := rfl
  with_reducible refine wpAny_tryMethod_declines hT F.slot_int_mul ?_
  apply call_meets F.slot_int_mul (typeIs_int _ _ _) F.entry_int_mul (F.args_int_mul_2 _ _) (int_mul_inst n t x C dx)
  apply And.intro ho
  show _ ∧ _
  apply And.intro rfl
  ksp_lk
  refine wpAny_mono one (fun r s' hr' => ?_) fun _ _ e => e
  obtain ⟨v, rfl, hq⟩ := hr'
  ksp_lk
  exact hq
end


local macro_rules | `(tactic| walk_at "con") => `(tactic| first | (with_reducible apply c_made <;> walk_at "rel") | (with_reducible apply c_inv <;> walk_at "rel"))

theorem d_add {w : World} {mean} {mg mb} {news : Led} {x y : Addr} {p u v : Int} (hpr : Pr p) (hx : Fq w news x p u) (hy : Fq w news y p v) :
    Con w mean mg mb 10 80 news (binaryOp .Add (.ref x) (.ref y)) (FqOut w p ((u + v) % p)) := by
  have hp : 0 < p := by have := hpr.lo; omega
  have hp2 : p < 1000 := by have := hpr.hi; omega
  have hx0 := hx
  obtain ⟨⟨dx, t1, t2, t3, t4, hx1, hx2⟩, hu9⟩ := hx
  unfold fqD at hx2
  have hy0 := hy
  obtain ⟨⟨dy, t5, t6, t7, t8, hy1, hy2⟩, hv9⟩ := hy
  unfold fqD at hy2
  k_with_none
  unfold Con
  k_fill
  w_on
  intro dp un gd cn cs a ccd cl outer A₀ base h₀ L m s Q E B F X N T hk hd hu ret
  obtain ⟨ck, cnm, cg, cc, cmr⟩ := cs
  dsimp only at hk; subst hk
  k_steps
  all_goals (refine fq_done ret (by assumption) (by assumption) (by intro q9 h9; simp only [List.mem_cons, List.mem_append, h9, or_true, true_or]) (by assumption) (by subst_vars; simp only [fmodE hp, Int.emod_emod]))

theorem d_sub {w : World} {mean} {mg mb} {news : Led} {x y : Addr} {p u v : Int} (hpr : Pr p) (hx : Fq w news x p u) (hy : Fq w news y p v) :
    Con w mean mg mb 10 80 news (binaryOp .Sub (.ref x) (.ref y)) (FqOut w p ((u - v) % p)) := by
  have hp : 0 < p := by have := hpr.lo; omega
  have hp2 : p < 1000 := by have := hpr.hi; omega
  have hx0 := hx
  obtain ⟨⟨dx, t1, t2, t3, t4, hx1, hx2⟩, hu9⟩ := hx
  unfold fqD at hx2
  have hy0 := hy
  obtain ⟨⟨dy, t5, t6, t7, t8, hy1, hy2⟩, hv9⟩ := hy
  unfold fqD at hy2
  k_with_none
  unfold Con
  k_fill
  w_on
  intro dp un gd cn cs a ccd cl outer A₀ base h₀ L m s Q E B F X N T hk hd hu ret
  obtain ⟨ck, cnm, cg, cc, cmr⟩ := cs
  dsimp only at hk; subst hk
  k_steps
  all_goals (refine fq_done ret (by assumption) (by assumption) (by intro q9 h9; simp only [List.mem_cons, List.mem_append, h9, or_true, true_or]) (by assumption) (by subst_vars; simp only [fmodE hp, Int.emod_emod]))

theorem d_mul {w : World} {mean} {mg mb} {news : Led} {x y : Addr} {p u v : Int} (hpr : Pr p) (hx : Fq w news x p u) (hy : Fq w news y p v) :
    Con w mean mg mb 10 80 news (binaryOp .Mult (.ref x) (.ref y)) (FqOut w p ((u * v) % p)) := by
  have hp : 0 < p := by have := hpr.lo; omega
  have hp2 : p < 1000 := by have := hpr.hi; omega
  have hx0 := hx
  obtain ⟨⟨dx, t1, t2, t3, t4, hx1, hx2⟩, hu9⟩ := hx
  unfold fqD at hx2
  have hy0 := hy
  obtain ⟨⟨dy, t5, t6, t7, t8, hy1, hy2⟩, hv9⟩ := hy
  unfold fqD at hy2
  k_with_none
  unfold Con
  k_fill
  w_on
  intro dp un gd cn cs a ccd cl outer A₀ base h₀ L m s Q E B F X N T hk hd hu ret
  obtain ⟨ck, cnm, cg, cc, cmr⟩ := cs
  dsimp only at hk; subst hk
  k_steps
  all_goals (refine fq_done ret (by assumption) (by assumption) (by intro q9 h9; simp only [List.mem_cons, List.mem_append, h9, or_true, true_or]) (by assumption) (by subst_vars; simp only [fmodE hp, Int.emod_emod]))

theorem d_div {w : World} {mean} {mg mb} {news : Led} {x y : Addr} {p u v : Int} (hpr : Pr p) (hx : Fq w news x p u) (hy : Fq w news y p v) :
    Con w mean mg mb 10 80 news (binaryOp .Div (.ref x) (.ref y)) (FqOut w p ((u * iv p v) % p)) := by
  have hp : 0 < p := by have := hpr.lo; omega
  have hp2 : p < 1000 := by have := hpr.hi; omega
  have hx0 := hx
  obtain ⟨⟨dx, t1, t2, t3, t4, hx1, hx2⟩, hu9⟩ := hx
  unfold fqD at hx2
  have hy0 := hy
  obtain ⟨⟨dy, t5, t6, t7, t8, hy1, hy2⟩, hv9⟩ := hy
  unfold fqD at hy2
  k_with_none
  unfold Con
  k_fill
  w_on
  intro dp un gd cn cs a ccd cl outer A₀ base h₀ L m s Q E B F X N T hk hd hu ret
  obtain ⟨ck, cnm, cg, cc, cmr⟩ := cs
  dsimp only at hk; subst hk
  k_with "binaryOp Div ref ref" => (k_here; (with_reducible show wpAny _ _ (binaryOp _ (Value.ref _) (Value.ref _)) _ _ _); k_dflt (refine' binop_K ?zk1 ?zk2 ?zk3 ?zk4 ?zk5 ?zk6 ?zk7 ?_; (case zk1 => k_asm); (case zk2 => k_asm); (case zk3 => k_inst); (case zk4 => k_typeOf); (case zk5 => k_is); (case zk6 => k_is); (case zk7 => k_is); k_whole))
  k_steps
  all_goals (refine fq_done ret (by assumption) (by assumption) (by intro q9 h9; simp only [List.mem_cons, List.mem_append, h9, or_true, true_or]) (by assumption) (by subst_vars; simp only [fmodE hp, Int.emod_emod]))

theorem d_neg {w : World} {mean} {mg mb} {news : Led} {x : Addr} {p u : Int} (hpr : Pr p) (hx : Fq w news x p u) :
    Con w mean mg mb 10 80 news (unaryOp .USub (.ref x)) (FqOut w p ((-u) % p)) := by
  have hp : 0 < p := by have := hpr.lo; omega
  have hp2 : p < 1000 := by have := hpr.hi; omega
  have hx0 := hx
  obtain ⟨⟨dx, t1, t2, t3, t4, hx1, hx2⟩, hu9⟩ := hx
  unfold fqD at hx2
  k_with_none
  unfold Con
  k_fill
  w_on
  intro dp un gd cn cs a ccd cl outer A₀ base h₀ L m s Q E B F X N T hk hd hu ret
  obtain ⟨ck, cnm, cg, cc, cmr⟩ := cs
  dsimp only at hk; subst hk
  k_steps
  all_goals (refine fq_done ret (by assumption) (by assumption) (by intro q9 h9; simp only [List.mem_cons, List.mem_append, h9, or_true, true_or]) (by assumption) (by subst_vars; simp only [fmodE hp, Int.emod_emod]))

theorem d_rmul {w : World} {mean} {mg mb} {news : Led} {x : Addr} {t : Tok} {k : Int} {p u : Int} (hpr : Pr p) (hx : Fq w news x p u) (hk9 : 0 ≤ k ∧ k < 10) :
    Con w mean mg mb 10 80 news (binaryOp .Mult (.int k t) (.ref x)) (FqOut w p ((u * k) % p)) := by
  have hp : 0 < p := by have := hpr.lo; omega
  have hp2 : p < 1000 := by have := hpr.hi; omega
  have hx0 := hx
  obtain ⟨⟨dx, t1, t2, t3, t4, hx1, hx2⟩, hu9⟩ := hx
  unfold fqD at hx2
  k_with_none
  unfold Con
  k_fill
  w_on
  intro dp un gd cn cs a ccd cl outer A₀ base h₀ L m s Q E B F X N T hk hd hu ret
  obtain ⟨ck, cnm, cg, cc, cmr⟩ := cs
  dsimp only at hk; subst hk
  k_with "binaryOp Mult int ref" => (k_here; (with_reducible show wpAny _ _ (binaryOp Operator.Mult (Value.int _ _) (Value.ref _)) _ _ _); k_dflt (refine' rmul_K ?zk1 ?zk2 ?zk3 ?zk4 ?zk5 ?zk6 ?zk7 ?zk8 ?zk9 ?zk0 ?_; (case zk1 => k_asm); (case zk2 => k_asm); (case zk3 => k_asm); (case zk4 => k_mem); (case zk5 => k_mem); (case zk6 => k_is); (case zk7 => k_is); (case zk8 => k_is); (case zk9 => k_is); (case zk0 => k_is); k_whole))
  k_steps
  all_goals (refine fq_done ret (by assumption) (by assumption) (by intro q9 h9; simp only [List.mem_cons, List.mem_append, h9, or_true, true_or]) (by assumption) (by subst_vars; simp only [fmodE hp, Int.emod_emod]))

theorem d_pow1 {w : World} {mean} {mg mb} {news : Led} {x : Addr} {t : Tok} {k : Int} {p u : Int} (hpr : Pr p) (hx : Fq w news x p u) (hk9 : k = 1) :
    Con w mean mg mb 10 80 news (binaryOp .Pow (.ref x) (.int k t)) (FqOut w p (u % p)) := by
  subst hk9
  have hp : 0 < p := by have := hpr.lo; omega
  have hp2 : p < 1000 := by have := hpr.hi; omega
  have hx0 := hx
  obtain ⟨⟨dx, t1, t2, t3, t4, hx1, hx2⟩, hu9⟩ := hx
  unfold fqD at hx2
  k_with_none
  unfold Con
  k_fill
  w_on
  intro dp un gd cn cs a ccd cl outer A₀ base h₀ L m s Q E B F X N T hk hd hu ret
  obtain ⟨ck, cnm, cg, cc, cmr⟩ := cs
  dsimp only at hk; subst hk
  k_steps
  all_goals (refine fq_done ret (by assumption) (by assumption) (by intro q9 h9; simp only [List.mem_cons, List.mem_append, h9, or_true, true_or]) (by assumption) (by subst_vars; simp only [fmodE hp, Int.emod_emod]))
local macro_rules | `(tactic| walk_at "con") => `(tactic| first | (with_reducible apply d_mul <;> walk_at "rel") | (with_reducible apply d_pow1 <;> walk_at "rel"))
local macro_rules | `(tactic| walk_at "binaryOp Mult ref ref") => `(tactic| walk_at "use")
local macro_rules | `(tactic| walk_at "binaryOp Pow ref int") => `(tactic| walk_at "use")

theorem d_pow2 {w : World} {mean} {mg mb} {news : Led} {x : Addr} {t : Tok} {p u : Int} (hpr : Pr p) (hx : Fq w news x p u) :
    Con w mean mg mb 14 120 news (binaryOp .Pow (.ref x) (.int 2 t)) (FqOut w p ((u * u) % p)) := by
  have hp : 0 < p := by have := hpr.lo; omega
  have hp2 : p < 1000 := by have := hpr.hi; omega
  have hx0 := hx
  obtain ⟨⟨dx, t1, t2, t3, t4, hx1, hx2⟩, hu9⟩ := hx
  unfold fqD at hx2
  k_with_none
  unfold Con
  k_fill
  w_on
  intro dp un gd cn cs a ccd cl outer A₀ base h₀ L m s Q E B F X N T hk hd hu ret
  obtain ⟨ck, cnm, cg, cc, cmr⟩ := cs
  dsimp only at hk; subst hk
  k_steps
  all_goals (refine fq_done ret (by assumption) (by assumption) (by intro q9 h9; simp only [List.mem_cons, List.mem_append, h9, or_true, true_or]) (by assumption) (by subst_vars; simp only [fmodE hp, Int.emod_emod]))

theorem d_pow3 {w : World} {mean} {mg mb} {news : Led} {x : Addr} {t : Tok} {p u : Int} (hpr : Pr p) (hx : Fq w news x p u) :
    Con w mean mg mb 14 120 news (binaryOp .Pow (.ref x) (.int 3 t)) (FqOut w p ((u * u % p * u) % p)) := by
  have hp : 0 < p := by have := hpr.lo; omega
  have hp2 : p < 1000 := by have := hpr.hi; omega
  have hx0 := hx
  obtain ⟨⟨dx, t1, t2, t3, t4, hx1, hx2⟩, hu9⟩ := hx
  unfold fqD at hx2
  k_with_none
  unfold Con
  k_fill
  w_on
  intro dp un gd cn cs a ccd cl outer A₀ base h₀ L m s Q E B F X N T hk hd hu ret
  obtain ⟨ck, cnm, cg, cc, cmr⟩ := cs
  dsimp only at hk; subst hk
  k_steps
  all_goals (refine fq_done ret (by assumption) (by assumption) (by intro q9 h9; simp only [List.mem_cons, List.mem_append, h9, or_true, true_or]) (by assumption) (by subst_vars; simp only [fmodE hp, Int.emod_emod]))

theorem d_eq {w : World} {mean} {mg mb} {news : Led} {x y : Addr} {p u v : Int} (hx : Fq w news x p u) (hy : Fq w news y p v) :
    Con w mean mg mb 10 80 news (compareOp .Eq (.ref x) (.ref y)) (fun nx r => r = .bool (u == v)) := by
  have hx0 := hx
  obtain ⟨⟨dx, t1, t2, t3, t4, hx1, hx2⟩, hu9⟩ := hx
  unfold fqD at hx2
  have hy0 := hy
  obtain ⟨⟨dy, t5, t6, t7, t8, hy1, hy2⟩, hv9⟩ := hy
  unfold fqD at hy2
  k_with_none
  unfold Con
  k_fill
  w_on
  intro dp un gd cn cs a ccd cl outer A₀ base h₀ L m s Q E B F X N T hk hd hu ret
  obtain ⟨ck, cnm, cg, cc, cmr⟩ := cs
  dsimp only at hk; subst hk
  k_steps
  all_goals exact ret _ [] _ _ (by assumption) (by assumption) rfl

open Lean.Grind

section
variable {F : Type} [CommRing F]
theorem t0 {a c : F} (h : c - a = 0) : a = c := by grind
theorem t10 {y : F} (h : y + y = 0) : 2 * y = 0 := by grind
theorem t1 {l x1 x2 x3 w : F} (i2 : x3 - (l * l - x1 - x2) = 0 * w) : l * l - x1 - x2 = x3 := by grind
theorem t2 {l x1 y1 x3 y3 x4 w : F} (i1 : y3 - (y1 + l * (x3 - x1)) = 0 * w) (e : x4 = x3) : (l * (x1 - x4) - y1) + y3 = 0 := by grind
theorem t3 {l x1 y1 y3 x4 : F} (e : (l * (x1 - x4) - y1) + y3 = 0) (k : y3 + (y1 + l * (x4 - x1)) = 0) : 2 * y3 = 0 := by grind
theorem t4 {u iu l x1 y1 x3 y3 x4 : F} (hi : u * iu = 1) (i2 : x3 - x4 = u * (y3 + (y1 + l * (x3 - x1)))) : (iu - l) * (x3 - x4) = y3 - (l * (x1 - x4) - y1) := by grind
theorem t5 {g x3 y3 x4 y4 b : F} (k : g * (x3 - x4) = y3 - y4) (c3 : y3 * y3 = x3 * x3 * x3 + b) (c4 : y4 * y4 = x4 * x4 * x4 + b) :
    (x3 - x4) * (g * (y4 + y3)) = (x3 - x4) * (x4 * x4 + x4 * x3 + x3 * x3) := by grind
theorem e2 {l x1 y1 x2 y2 x3 : F} (s1 : l * (y1 + y2) = x1 * x1 + x1 * x2 + x2 * x2) (s2 : l * (x2 - x1) = y2 - y1) (e : l * l - x1 - x2 = x3) : x1 * x2 + x3 * (x1 + x2) = 2 * (l * l * x1) - 2 * (l * y1) := by
  have h : y2 = y1 + l * (x2 - x1) := by clear s1 e; grind
  clear s2
  subst h e
  grind
theorem t6 {l x1 y1 x2 y2 x3 y3 b : F} (s1 : l * (y1 + y2) = x1 * x1 + x1 * x2 + x2 * x2) (s2 : l * (x2 - x1) = y2 - y1) (e : l * l - x1 - x2 = x3) (k : y3 + (y1 + l * (x3 - x1)) = 0) :
    (x3 - x1) * (x3 - x2) = 3 * (x3 * x3) + 2 * (l * y3) := by
  have k2 := e2 s1 s2 e
  have h : y3 = -(y1 + l * (x3 - x1)) := by clear s1 s2 e k2; grind
  clear s1 s2 k
  subst h
  grind
theorem t7 {u iu l x1 y1 x2 x3 y3 : F} (hi : u * iu = 1) (k5 : (x3 - x1) * (x3 - x2) = 3 * (x3 * x3) + 2 * (l * y3)) (k : y3 + (y1 + l * (x3 - x1)) = 0) (i1 : y3 - (y1 + l * (x3 - x1)) = u * ((x3 - x1) * (x3 - x2))) :
    (iu - l) * (l * (x1 - x3) - y1 + y3) = x3 * x3 + x3 * x3 + x3 * x3 := by grind
theorem t8 {g l x1 x2 x3 x4 : F} (e : l * l - x1 - x2 = x4) : g * g - x4 - x3 = g * g - l * l + x1 + x2 - x3 := by grind
theorem t9 {g x3 y3 x4 y4 X : F} (k : g * (x3 - x4) = y3 - y4) : g * (x4 - X) - y4 = g * (x3 - X) - y3 := by grind
theorem q0 {l m d iu : F} (hi : d * iu = 1) : m - l = ((m - l) * iu) * d := by grind
theorem q1 {l m u x1 y1 x2 y2 x3 y3 : F} (a : l * (x2 - x1) = y2 - y1) (b : m * (x2 - x3) = y2 - y3) (hu : m - l = u * (x3 - x1)) : y3 - (y1 + l * (x3 - x1)) = u * ((x3 - x1) * (x3 - x2)) := by grind
theorem q2 {l m u x1 y1 x2 y2 x3 y3 : F} (a : l * (x2 - x1) = y2 - y1) (b : m * (x2 - x3) = y2 - y3) (hu : m - l = u * (x3 - x1)) : y1 - (y3 + m * (x1 - x3)) = u * ((x1 - x3) * (x1 - x2)) := by grind
theorem q3a {b w x1 x2 x3 y3 x4 : F} (k : (x3 - x1) * (x3 - x2) * (x3 - x4) = x3 * x3 * x3 + b - w * w) (c3 : y3 * y3 = x3 * x3 * x3 + b) :
    (x3 - x1) * ((x3 - x2) * (x3 - x4)) = (y3 - w) * (y3 + w) := by
  have e : (x3 - x1) * ((x3 - x2) * (x3 - x4)) = (x3 - x1) * (x3 - x2) * (x3 - x4) := by clear k c3; grind
  rw [e, k, ← c3]
  clear k c3 e
  grind
theorem q3b {w u x1 x2 x3 y3 : F} : (u * ((x3 - x1) * (x3 - x2))) * (y3 + w) = (x3 - x1) * ((x3 - x2) * (u * (y3 + w))) := by grind
theorem q3 {b l u x1 y1 x2 x3 y3 x4 : F} (k : (x3 - x1) * (x3 - x2) * (x3 - x4) = x3 * x3 * x3 + b - (y1 + l * (x3 - x1)) * (y1 + l * (x3 - x1)))
    (i1 : y3 - (y1 + l * (x3 - x1)) = u * ((x3 - x1) * (x3 - x2))) (c3 : y3 * y3 = x3 * x3 * x3 + b) :
    (x3 - x1) * ((x3 - x2) * (x3 - x4)) = (x3 - x1) * ((x3 - x2) * (u * (y3 + (y1 + l * (x3 - x1))))) := by
  rw [q3a k c3, ← q3b, ← i1]
theorem q4 {m u x1 y1 x3 y3 : F} (b : m * (x1 - x3) = y1 - y3) : y1 - (y3 + m * (x1 - x3)) = u * ((x1 - x3) * (x1 - x1)) := by grind
theorem q5 {l m u x1 y1 x3 y3 : F} (a1 : l * (y1 + y1) = x1 * x1 + x1 * x1 + x1 * x1) (b1 : m * (y3 + y1) = x3 * x3 + x3 * x1 + x1 * x1) (b2 : m * (x1 - x3) = y1 - y3) (hu : m - l = u * (x3 - x1)) :
    (x3 - x1) * (x1 - (m * m - x3 - x1)) = (x3 - x1) * (u * (y1 + (y3 + m * (x1 - x3)))) := by grind
end
section
variable {F : Type} [CommRing F] [DecidableEq F]

/-- the slope l of the chord or the tangent through A and B -/
def IsSl (l x1 y1 x2 y2 : F) : Prop := l * (y1 + y2) = x1 * x1 + x1 * x2 + x2 * x2 ∧ l * (x2 - x1) = y2 - y1

theorem line_id {l x1 y1 x2 y2 b x : F} (h : IsSl l x1 y1 x2 y2) (c1 : y1 * y1 = x1 * x1 * x1 + b) :
    (x - x1) * (x - x2) * (x - (l * l - x1 - x2)) = x * x * x + b - (y1 + l * (x - x1)) * (y1 + l * (x - x1)) := by
  obtain ⟨h1, h2⟩ := h
  grind
theorem IsSl.symm {l x1 y1 x2 y2 : F} (h : IsSl l x1 y1 x2 y2) : IsSl l x2 y2 x1 y1 := by
  obtain ⟨h1, h2⟩ := h
  constructor <;> grind

noncomputable def fsum (inv : F → F) : Option (F × F) → Option (F × F) → Option (F × F)
  | none, q => q
  | some p, none => some p
  | some p, some q =>
    if p.1 = q.1 ∧ p.2 + q.2 = 0 then none
    else
      let l := if p = q then 3 * p.1 * p.1 * inv (2 * p.2) else (q.2 - p.2) * inv (q.1 - p.1)
      let x := l * l - p.1 - q.1
      some (x, l * (p.1 - x) - p.2)
theorem fsum_ss (inv : F → F) (x1 y1 x2 y2 : F) : fsum inv (some (x1, y1)) (some (x2, y2)) = if x1 = x2 ∧ y1 + y2 = 0 then none
    else (fun l : F => some (l * l - x1 - x2, l * (x1 - (l * l - x1 - x2)) - y1)) (if (x1, y1) = (x2, y2) then 3 * x1 * x1 * inv (2 * y1) else (y2 - y1) * inv (x2 - x1)) := rfl
noncomputable def fneg : Option (F × F) → Option (F × F)
  | none => none
  | some p => some (p.1, -p.2)
def fon (b : F) : Option (F × F) → Prop
  | none => True
  | some p => p.2 * p.2 = p.1 * p.1 * p.1 + b

/-- what is asked of the field -/
structure Fld (inv : F → F) : Prop where
  inv : ∀ a, a ≠ 0 → a * inv a = 1
  two : (2 : F) ≠ 0
variable {inv : F → F} (H : Fld inv) {b : F} (hb : ∀ x : F, x * x * x + b ≠ 0)
include H

theorem dom {a c : F} (h : a * c = 0) (ha : a ≠ 0) : c = 0 := by
  have := H.inv a ha
  grind
theorem cancel {a c d : F} (ha : a ≠ 0) (h : a * c = a * d) : c = d := by
  have := dom H (a := a) (c := c - d) (by grind) ha
  grind
theorem two_y {y : F} (hy : y ≠ 0) : 2 * y ≠ 0 := fun h => hy (dom H h H.two)
include hb
omit H in
theorem y_ne {x y : F} (c : y * y = x * x * x + b) : y ≠ 0 := fun h => hb x (by rw [← c, h]; grind)

theorem same_x {x y1 y2 : F} (c1 : y1 * y1 = x * x * x + b) (c2 : y2 * y2 = x * x * x + b) (h : y1 + y2 ≠ 0) : y1 = y2 := by
  have := dom H (a := y1 + y2) (c := y1 - y2) (by grind) h
  grind

/-- the sum by its slope -/
theorem sl_ex {x1 y1 x2 y2 : F} (c1 : y1 * y1 = x1 * x1 * x1 + b) (c2 : y2 * y2 = x2 * x2 * x2 + b) (h : ¬ (x1 = x2 ∧ y1 + y2 = 0)) :
    ∃ l, IsSl l x1 y1 x2 y2 ∧ fsum inv (some (x1, y1)) (some (x2, y2)) = some (l * l - x1 - x2, l * (x1 - (l * l - x1 - x2)) - y1) := by
  rw [fsum_ss, if_neg h]
  by_cases hx : x1 = x2
  · subst hx
    have hy : y1 = y2 := same_x H hb c1 c2 fun e => h ⟨rfl, e⟩
    subst hy
    refine ⟨_, ⟨?_, ?_⟩, rfl⟩
    · rw [if_pos rfl]
      have := H.inv _ (two_y H (y_ne hb c1))
      grind
    · grind
  · have hn : ¬ ((x1, y1) = (x2, y2)) := fun e => hx (Prod.mk.inj e).1
    have hd : x2 - x1 ≠ 0 := by grind
    have hi := H.inv _ hd
    refine ⟨_, ⟨?_, ?_⟩, rfl⟩
    · rw [if_neg hn]
      refine cancel H hd ?_
      grind
    · rw [if_neg hn]
      grind

theorem sl_unique {l l' x1 y1 x2 y2 : F} (c1 : y1 * y1 = x1 * x1 * x1 + b) (c2 : y2 * y2 = x2 * x2 * x2 + b) (h : ¬ (x1 = x2 ∧ y1 + y2 = 0)) (s : IsSl l x1 y1 x2 y2) (s' : IsSl l' x1 y1 x2 y2) : l = l' := by
  by_cases hx : x1 = x2
  · have hy : y1 + y2 ≠ 0 := fun e => h ⟨hx, e⟩
    exact cancel H hy (by have := s.1; have := s'.1; grind)
  · have hd : x2 - x1 ≠ 0 := by grind
    exact cancel H hd (by have := s.2; have := s'.2; grind)

theorem sum_sl {l x1 y1 x2 y2 : F} (c1 : y1 * y1 = x1 * x1 * x1 + b) (c2 : y2 * y2 = x2 * x2 * x2 + b) (h : ¬ (x1 = x2 ∧ y1 + y2 = 0)) (s : IsSl l x1 y1 x2 y2) :
    fsum inv (some (x1, y1)) (some (x2, y2)) = some (l * l - x1 - x2, l * (x1 - (l * l - x1 - x2)) - y1) := by
  obtain ⟨l', s', e⟩ := sl_ex H hb c1 c2 h
  have := sl_unique H hb c1 c2 h s s'
  subst this
  exact e
omit H hb in
theorem sum_opp {x1 y1 x2 y2 : F} (h : x1 = x2 ∧ y1 + y2 = 0) : fsum inv (some (x1, y1)) (some (x2, y2)) = none := by
  rw [fsum_ss, if_pos h]
omit H hb in
theorem on_sl {l x1 y1 x2 y2 : F} (c1 : y1 * y1 = x1 * x1 * x1 + b) (s : IsSl l x1 y1 x2 y2) :
    (l * (x1 - (l * l - x1 - x2)) - y1) * (l * (x1 - (l * l - x1 - x2)) - y1) = (l * l - x1 - x2) * (l * l - x1 - x2) * (l * l - x1 - x2) + b := by
  have := line_id (x := l * l - x1 - x2) s c1
  grind

theorem fsum_on {A B : Option (F × F)} (hA : fon b A) (hB : fon b B) : fon b (fsum inv A B) := by
  match A, B with
  | none, _ => exact hB
  | some p, none => exact hA
  | some (x1, y1), some (x2, y2) =>
    by_cases h : x1 = x2 ∧ y1 + y2 = 0
    · rw [sum_opp h]; trivial
    · obtain ⟨l, s, e⟩ := sl_ex H hb hA hB h
      rw [e]
      exact on_sl hA s
theorem fsum_comm {A B : Option (F × F)} (hA : fon b A) (hB : fon b B) : fsum inv A B = fsum inv B A := by
  match A, B with
  | none, none => rfl
  | none, some _ => rfl
  | some p, none => rfl
  | some (x1, y1), some (x2, y2) =>
    by_cases h : x1 = x2 ∧ y1 + y2 = 0
    · rw [sum_opp h, sum_opp ⟨h.1.symm, by grind⟩]
    · obtain ⟨l, s, e⟩ := sl_ex H hb hA hB h
      rw [e, sum_sl H hb hB hA (by grind) s.symm]
      have := s.2
      congr 2 <;> grind
omit [DecidableEq F] H hb in
theorem fneg_on {A : Option (F × F)} (hA : fon b A) : fon b (fneg A) := by
  match A with
  | none => trivial
  | some (x, y) => unfold fon fneg at *; dsimp only at *; grind
omit H hb in
theorem fneg_opp {x1 y1 x2 y2 : F} (h : x1 = x2 ∧ y1 + y2 = 0) : some (x2, y2) = fneg (some (x1, y1)) := by
  obtain ⟨rfl, h⟩ := h
  unfold fneg
  dsimp only
  congr 2
  grind
omit [DecidableEq F] H hb in
theorem fneg_neg (A : Option (F × F)) : fneg (fneg A) = A := by
  match A with
  | none => rfl
  | some (x, y) => unfold fneg; dsimp only; congr 2; grind

/-- (A + B) - B = A -/
theorem fcancel {A B : Option (F × F)} (hA : fon b A) (hB : fon b B) : fsum inv (fsum inv A B) (fneg B) = A := by
  match A, B with
  | A, none => cases A <;> rfl
  | none, some (x, y) =>
    show fsum inv (some (x, y)) (some (x, -y)) = none
    exact sum_opp ⟨rfl, by grind⟩
  | some (x1, y1), some (x2, y2) =>
    by_cases h : x1 = x2 ∧ y1 + y2 = 0
    · rw [sum_opp h]
      show some (x2, -y2) = some (x1, y1)
      congr 2
      · exact h.1.symm
      · grind
    · obtain ⟨l, s, e⟩ := sl_ex H hb hA hB h
      have hS := on_sl hA s
      rw [e]
      show fsum inv _ (some (x2, -y2)) = _
      have hA' : y1 * y1 = x1 * x1 * x1 + b := hA
      have hB' : y2 * y2 = x2 * x2 * x2 + b := hB
      have s2 := s.2
      have s1 := s.1
      have hB2 : (-y2) * (-y2) = x2 * x2 * x2 + b := by grind
      have hy := two_y H (y_ne hb hB')
      have sl : IsSl (-l) (l * l - x1 - x2) (l * (x1 - (l * l - x1 - x2)) - y1) x2 (-y2) := by
        constructor
        · by_cases hx : l * l - x1 - x2 = x2
          · grind
          · refine cancel H (a := x2 - (l * l - x1 - x2)) (by grind) ?_
            grind
        · grind
      rw [sum_sl H hb hS hB2 ?_ sl]
      · congr 2 <;> grind
      · rintro ⟨e1, e2⟩
        grind

/-- (P + Q) + R by the second difference u -/
theorem triple {l u x1 y1 x2 y2 x3 y3 : F} (c1 : y1 * y1 = x1 * x1 * x1 + b) (c2 : y2 * y2 = x2 * x2 * x2 + b) (c3 : y3 * y3 = x3 * x3 * x3 + b)
    (h : ¬ (x1 = x2 ∧ y1 + y2 = 0)) (s : IsSl l x1 y1 x2 y2) (i1 : y3 - (y1 + l * (x3 - x1)) = u * ((x3 - x1) * (x3 - x2))) (i2 : x3 - (l * l - x1 - x2) = u * (y3 + (y1 + l * (x3 - x1)))) :
    fsum inv (fsum inv (some (x1, y1)) (some (x2, y2))) (some (x3, y3)) = if u = 0 then none else
      some ((inv u - l) * (inv u - l) - l * l + x1 + x2 - x3, (inv u - l) * (x3 - ((inv u - l) * (inv u - l) - l * l + x1 + x2 - x3)) - y3) := by
  rw [sum_sl H hb c1 c2 h s]
  have c4 := on_sl c1 s
  by_cases hu : u = 0
  · rw [if_pos hu]
    subst hu
    have e := t1 i2
    exact sum_opp ⟨e, t2 i1 e⟩
  · rw [if_neg hu]
    have hi := H.inv u hu
    have hy := two_y H (y_ne hb c3)
    generalize e4 : l * l - x1 - x2 = x4 at *
    have hn : ¬ (x4 = x3 ∧ (l * (x1 - x4) - y1) + y3 = 0) := by
      rintro ⟨rfl, e⟩
      have k1 : u * (y3 + (y1 + l * (x4 - x1))) = 0 := by rw [← i2]; exact AddCommGroup.sub_self x4
      exact hy (t3 e (dom H k1 hu))
    have k2 := t4 hi i2
    have sl : IsSl (inv u - l) x4 (l * (x1 - x4) - y1) x3 y3 := by
      refine ⟨?_, k2⟩
      by_cases hx : x4 = x3
      · subst hx
        have k3 : u * (y3 + (y1 + l * (x4 - x1))) = 0 := by rw [← i2]; exact AddCommGroup.sub_self x4
        have k4 := dom H k3 hu
        exact t7 hi (t6 (b := b) s.1 s.2 e4 k4) k4 i1
      · exact cancel H (a := x3 - x4) (fun e => hx (t0 e)) (t5 k2 c3 c4)
    rw [sum_sl H hb c4 c3 hn sl, t9 k2, t8 e4]

/-- both groupings with one u give the same -/
theorem assoc_of {l m u x1 y1 x2 y2 x3 y3 : F} (c1 : y1 * y1 = x1 * x1 * x1 + b) (c2 : y2 * y2 = x2 * x2 * x2 + b) (c3 : y3 * y3 = x3 * x3 * x3 + b)
    (h : ¬ (x1 = x2 ∧ y1 + y2 = 0)) (h' : ¬ (x3 = x2 ∧ y3 + y2 = 0)) (s : IsSl l x1 y1 x2 y2) (s' : IsSl m x3 y3 x2 y2) (hu : m - l = u * (x3 - x1))
    (i1 : y3 - (y1 + l * (x3 - x1)) = u * ((x3 - x1) * (x3 - x2))) (i2 : x3 - (l * l - x1 - x2) = u * (y3 + (y1 + l * (x3 - x1))))
    (j1 : y1 - (y3 + m * (x1 - x3)) = u * ((x1 - x3) * (x1 - x2))) (j2 : x1 - (m * m - x3 - x2) = u * (y1 + (y3 + m * (x1 - x3)))) :
    fsum inv (fsum inv (some (x1, y1)) (some (x2, y2))) (some (x3, y3)) = fsum inv (fsum inv (some (x3, y3)) (some (x2, y2))) (some (x1, y1)) := by
  rw [triple H hb c1 c2 c3 h s i1 i2, triple H hb c3 c2 c1 h' s' j1 j2]
  by_cases h0 : u = 0
  · rw [if_pos h0, if_pos h0]
  · rw [if_neg h0, if_neg h0]
    have hi := H.inv u h0
    generalize inv u = iu at hi
    have e1 : (iu - l) * (iu - l) - l * l + x1 + x2 - x3 = (iu - m) * (iu - m) - m * m + x3 + x2 - x1 := by
      clear i1 i2 j1 j2 c1 c2 c3 s s' h h'
      grind
    rw [← e1]
    have e2 : (iu - l) * (x3 - ((iu - l) * (iu - l) - l * l + x1 + x2 - x3)) - y3 = (iu - m) * (x1 - ((iu - l) * (iu - l) - l * l + x1 + x2 - x3)) - y1 := by
      clear i2 j1 j2 c1 c2 c3 s s' h h' e1
      grind
    rw [e2]

theorem assoc_xyz {x1 y1 x2 y2 x3 y3 : F} (c1 : y1 * y1 = x1 * x1 * x1 + b) (c2 : y2 * y2 = x2 * x2 * x2 + b) (c3 : y3 * y3 = x3 * x3 * x3 + b)
    (h12 : x1 ≠ x2) (h23 : x3 ≠ x2) (h13 : x3 ≠ x1) :
    fsum inv (fsum inv (some (x1, y1)) (some (x2, y2))) (some (x3, y3)) = fsum inv (fsum inv (some (x3, y3)) (some (x2, y2))) (some (x1, y1)) := by
  obtain ⟨l, s, -⟩ := sl_ex H hb c1 c2 fun h => h12 h.1
  obtain ⟨m, s', -⟩ := sl_ex H hb c3 c2 fun h => h23 h.1
  have hd : x3 - x1 ≠ 0 := fun e => h13 (t0 e).symm
  have hd2 : x3 - x2 ≠ 0 := fun e => h23 (t0 e).symm
  have hd3 : x1 - x2 ≠ 0 := fun e => h12 (t0 e).symm
  have hd4 : x1 - x3 ≠ 0 := fun e => h13 (t0 e)
  have hi := H.inv _ hd
  have hu := q0 (l := l) (m := m) hi
  generalize (m - l) * inv (x3 - x1) = u at hu
  have i1 := q1 s.2 s'.2 hu
  have j1 := q2 s.2 s'.2 hu
  refine assoc_of H hb c1 c2 c3 (fun h => h12 h.1) (fun h => h23 h.1) s s' hu i1 ?_ j1 ?_
  · exact cancel H hd2 (cancel H hd (q3 (line_id (x := x3) s c1) i1 c3))
  · exact cancel H hd3 (cancel H hd4 (q3 (line_id (x := x1) s' c3) j1 c1))

theorem assoc_xxz {x1 y1 x3 y3 : F} (c1 : y1 * y1 = x1 * x1 * x1 + b) (c3 : y3 * y3 = x3 * x3 * x3 + b) (h13 : x3 ≠ x1) :
    fsum inv (fsum inv (some (x1, y1)) (some (x1, y1))) (some (x3, y3)) = fsum inv (fsum inv (some (x3, y3)) (some (x1, y1))) (some (x1, y1)) := by
  have hy := two_y H (y_ne hb c1)
  have ho : ¬ (x1 = x1 ∧ y1 + y1 = 0) := fun h => hy (t10 h.2)
  obtain ⟨l, s, -⟩ := sl_ex H hb c1 c1 ho
  obtain ⟨m, s', -⟩ := sl_ex H hb c3 c1 fun h => h13 h.1
  have hd : x3 - x1 ≠ 0 := fun e => h13 (t0 e).symm
  have hd4 : x1 - x3 ≠ 0 := fun e => h13 (t0 e)
  have hi := H.inv _ hd
  have hu := q0 (l := l) (m := m) hi
  generalize (m - l) * inv (x3 - x1) = u at hu
  have i1 := q1 s.2 s'.2 hu
  have j1 := q4 (u := u) s'.2
  refine assoc_of H hb c1 c1 c3 ho (fun h => h13 h.1) s s' hu i1 ?_ j1 ?_
  · exact cancel H hd (cancel H hd (q3 (line_id (x := x3) s c1) i1 c3))
  · exact cancel H hd (q5 s.1 s'.1 s'.2 hu)

theorem fassoc {A B C : Option (F × F)} (hA : fon b A) (hB : fon b B) (hC : fon b C) : fsum inv (fsum inv A B) C = fsum inv A (fsum inv B C) := by
  match A, B, C with
  | none, B, C => rfl
  | some p, none, C => rfl
  | some p, some q, none =>
    show fsum inv (fsum inv (some p) (some q)) none = fsum inv (some p) (some q)
    cases fsum inv (some p) (some q) <;> rfl
  | some (x1, y1), some (x2, y2), some (x3, y3) =>
    have hBC := fsum_on H hb hB hC
    have hAB := fsum_on H hb hA hB
    by_cases o12 : x1 = x2 ∧ y1 + y2 = 0
    · rw [sum_opp o12, fneg_opp o12]
      have := fcancel H hb (A := some (x3, y3)) (B := fneg (some (x1, y1))) hC (fneg_on hA)
      rw [fneg_neg] at this
      rw [fsum_comm H hb (fneg_on hA) hC, fsum_comm H hb hA (fsum_on H hb hC (fneg_on hA)), this]
      rfl
    by_cases o23 : x2 = x3 ∧ y2 + y3 = 0
    · rw [sum_opp o23, fneg_opp o23, fcancel H hb hA hB]
      rfl
    by_cases o13 : x1 = x3 ∧ y1 + y3 = 0
    · rw [fneg_opp o13, fsum_comm H hb hA hB, fcancel H hb hB hA]
      have := fcancel H hb (A := some (x2, y2)) (B := fneg (some (x1, y1))) hB (fneg_on hA)
      rw [fneg_neg] at this
      rw [fsum_comm H hb hA (fsum_on H hb hB (fneg_on hA)), this]
    by_cases e13 : x1 = x3
    · subst e13
      have : y1 = y3 := same_x H hb hA hC fun e => o13 ⟨rfl, e⟩
      subst this
      rw [fsum_comm H hb hAB hA, fsum_comm H hb hB hA]
    by_cases e12 : x1 = x2
    · subst e12
      have : y1 = y2 := same_x H hb hA hB fun e => o12 ⟨rfl, e⟩
      subst this
      rw [assoc_xxz H hb hA hC (fun e => e13 e.symm), fsum_comm H hb hA hBC, fsum_comm H hb hC hA]
    by_cases e23 : x2 = x3
    · subst e23
      have : y2 = y3 := same_x H hb hB hC fun e => o23 ⟨rfl, e⟩
      subst this
      rw [← assoc_xxz H hb hB hA e13, fsum_comm H hb (fsum_on H hb hB hB) hA]
    rw [assoc_xyz H hb hA hB hC e12 (fun e => e23 e.symm) (fun e => e13 e.symm), fsum_comm H hb hA hBC, fsum_comm H hb hC hB]
end

open Lean.Grind

/-- the sum by the chord and the tangent in whole numbers -/
noncomputable def lsum (p : Int) : Option (Int × Int) → Option (Int × Int) → Option (Int × Int)
  | none, q => q
  | some a, none => some a
  | some a, some c =>
    if a.1 = c.1 ∧ (a.2 + c.2) % p = 0 then none
    else (fun m : Int => some ((m * m - a.1 - c.1) % p, (m * (a.1 - (m * m - a.1 - c.1) % p) - a.2) % p))
      (if a = c then 3 * a.1 * a.1 * pw (2 * a.2 % p) (p - 2) p else (c.2 - a.2) * pw ((c.1 - a.1) % p) (p - 2) p)
noncomputable def lneg (p : Int) : Option (Int × Int) → Option (Int × Int)
  | none => none
  | some a => some (a.1, (p - a.2) % p)

def Red (p : Int) : Option (Int × Int) → Prop
  | none => True
  | some a => (0 ≤ a.1 ∧ a.1 < p) ∧ 0 ≤ a.2 ∧ a.2 < p
/-- a point of the curve of b, in whole numbers from 0 to p - 1 -/
def On (p b : Int) : Option (Int × Int) → Prop
  | none => True
  | some a => ((0 ≤ a.1 ∧ a.1 < p) ∧ 0 ≤ a.2 ∧ a.2 < p) ∧ (a.2 * a.2) % p = (a.1 * a.1 * a.1 + b) % p
def Gb (p b : Int) : Prop := (0 < b ∧ b < p) ∧ ∀ x : Int, (x * x * x + b) % p ≠ 0

theorem inv_all : (primes.all fun p => (List.range p).all fun a => a == 0 || decide ((a : Int) * pw a (p - 2) p % p = 1)) = true := by decide +kernel

section
variable {n : Nat} [NeZero n]
noncomputable def cst (n : Nat) [NeZero n] (a : Int) : Fin n := Ring.intCast.intCast a
theorem cst_eq {a c : Int} : cst n a = cst n c ↔ a % n = c % n := IsCharP.intCast_ext_iff n
theorem cst_add (a c : Int) : cst n (a + c) = cst n a + cst n c := Ring.intCast_add a c
theorem cst_sub (a c : Int) : cst n (a - c) = cst n a - cst n c := Ring.intCast_sub a c
theorem cst_mul (a c : Int) : cst n (a * c) = cst n a * cst n c := Ring.intCast_mul a c
theorem cst_neg (a : Int) : cst n (-a) = -cst n a := Ring.intCast_neg a
theorem cst_mod (a : Int) : cst n (a % n) = cst n a := cst_eq.mpr (Int.emod_emod ..)
theorem cst_zero {a : Int} : cst n a = 0 ↔ a % n = 0 := IsCharP.intCast_eq_zero_iff n a
theorem cst_inj {a c : Int} (ha : 0 ≤ a ∧ a < n) (hc : 0 ≤ c ∧ c < n) (h : cst n a = cst n c) : a = c := by
  have := cst_eq.mp h
  rwa [Int.emod_eq_of_lt ha.1 ha.2, Int.emod_eq_of_lt hc.1 hc.2] at this
theorem cst_val (a : Fin n) : cst n (a.val : Int) = a := by
  refine (Ring.intCast_natCast (α := _root_.Fin n) a.val).trans ?_
  exact Fin.ext (Nat.mod_eq_of_lt a.isLt)
theorem val_cst {z : Int} (h : 0 ≤ z ∧ z < n) : ((cst n z).val : Int) = z :=
  cst_inj (n := n) ⟨Int.natCast_nonneg _, by have := (cst n z).isLt; omega⟩ h (cst_val _)
theorem cst_two : cst n 2 = 2 := Ring.intCast_ofNat 2
theorem cst_three : cst n 3 = 3 := Ring.intCast_ofNat 3
theorem cst_one : cst n 1 = 1 := Ring.intCast_ofNat 1

noncomputable def finv (n : Nat) [NeZero n] (a : Fin n) : Fin n := cst n (pw (a.val : Int) (n - 2) n)
theorem finv_cst {z : Int} (h : 0 ≤ z ∧ z < n) : finv n (cst n z) = cst n (pw z (n - 2) n) := by
  unfold finv
  rw [val_cst h]
theorem fld (hn : n ∈ primes) : Fld (finv n) := by
  have h7 : 7 ≤ n := (by decide : ∀ q ∈ primes, 7 ≤ q) n hn
  constructor
  · intro a ha
    have h1 := List.all_eq_true.mp (List.all_eq_true.mp inv_all n hn) a.val (List.mem_range.mpr a.isLt)
    have h0 : (a.val == 0) = false := by
      rw [beq_eq_false_iff_ne]
      intro e
      exact ha (Fin.ext e)
    rw [h0, Bool.false_or, decide_eq_true_eq] at h1
    have h2 : cst n ((a.val : Int) * pw a.val (n - 2) n) = 1 := by
      rw [← cst_one, cst_eq, h1, Int.emod_eq_of_lt] <;> omega
    rw [cst_mul, cst_val] at h2
    exact h2
  · rw [← cst_two]
    intro e
    have := cst_zero.mp e
    rw [Int.emod_eq_of_lt] at this <;> omega

noncomputable def toF (n : Nat) [NeZero n] : Option (Int × Int) → Option (Fin n × Fin n)
  | none => none
  | some a => some (cst n a.1, cst n a.2)
theorem toF_inj {A B : Option (Int × Int)} (hA : Red n A) (hB : Red n B) (h : toF n A = toF n B) : A = B := by
  match A, B with
  | none, none => rfl
  | none, some _ => cases h
  | some _, none => cases h
  | some (a, c), some (d, e) =>
    have h1 : (cst n a, cst n c) = (cst n d, cst n e) := Option.some.inj h
    have h2 := Prod.mk.inj h1
    have e1 := cst_inj hA.1 hB.1 h2.1
    have e2 := cst_inj hA.2 hB.2 h2.2
    dsimp only at e1 e2
    rw [e1, e2]

theorem toF_sum (hn : n ∈ primes) {A B : Option (Int × Int)} (hA : Red n A) (hB : Red n B) : toF n (lsum n A B) = fsum (finv n) (toF n A) (toF n B) := by
  have h7 : 7 ≤ n := (by decide : ∀ q ∈ primes, 7 ≤ q) n hn
  match A, B with
  | none, _ => rfl
  | some _, none => rfl
  | some (x1, y1), some (x2, y2) =>
    show toF n (if x1 = x2 ∧ (y1 + y2) % (n : Int) = 0 then none else _) = fsum (finv n) (some (cst n x1, cst n y1)) (some (cst n x2, cst n y2))
    rw [fsum_ss]
    have e0 : (x1 = x2 ∧ (y1 + y2) % (n : Int) = 0) ↔ (cst n x1 = cst n x2 ∧ cst n y1 + cst n y2 = 0) := by
      rw [← cst_add, cst_zero]
      exact ⟨fun h => ⟨by rw [h.1], h.2⟩, fun h => ⟨cst_inj hA.1 hB.1 h.1, h.2⟩⟩
    by_cases h : x1 = x2 ∧ (y1 + y2) % (n : Int) = 0
    · rw [if_pos h, if_pos (e0.mp h)]
      rfl
    · rw [if_neg h, if_neg (fun k => h (e0.mpr k))]
      have e1 : cst n (if (x1, y1) = (x2, y2) then 3 * x1 * x1 * pw (2 * y1 % n) (n - 2) n else (y2 - y1) * pw ((x2 - x1) % n) (n - 2) n) =
          (if (cst n x1, cst n y1) = (cst n x2, cst n y2) then 3 * cst n x1 * cst n x1 * finv n (2 * cst n y1) else (cst n y2 - cst n y1) * finv n (cst n x2 - cst n x1)) := by
        by_cases hh : (x1, y1) = (x2, y2)
        · have hh' := Prod.mk.inj hh
          rw [if_pos hh, if_pos (by rw [hh'.1, hh'.2]), cst_mul, cst_mul, cst_mul, cst_three, ← finv_cst ⟨Int.emod_nonneg _ (by omega), Int.emod_lt_of_pos _ (by omega)⟩, cst_mod, cst_mul, cst_two]
        · have hk : ¬ ((cst n x1, cst n y1) = (cst n x2, cst n y2)) := fun k => hh (by
            have k1 : x1 = x2 := cst_inj hA.1 hB.1 (Prod.mk.inj k).1
            have k2 : y1 = y2 := cst_inj hA.2 hB.2 (Prod.mk.inj k).2
            rw [k1, k2])
          rw [if_neg hh, if_neg hk, cst_mul, cst_sub, ← finv_cst ⟨Int.emod_nonneg _ (by omega), Int.emod_lt_of_pos _ (by omega)⟩, cst_mod, cst_sub]
      dsimp only at e1 ⊢
      rw [← e1]
      generalize (if (x1, y1) = (x2, y2) then 3 * x1 * x1 * pw (2 * y1 % n) (n - 2) n else (y2 - y1) * pw ((x2 - x1) % n) (n - 2) n) = m
      show some (cst n ((m * m - x1 - x2) % n), cst n ((m * (x1 - (m * m - x1 - x2) % n) - y1) % n)) = _
      simp only [cst_mod, cst_sub, cst_mul]

theorem lsum_red (hn : n ∈ primes) {A B : Option (Int × Int)} (hA : Red n A) (hB : Red n B) : Red n (lsum n A B) := by
  have h7 : 7 ≤ n := (by decide : ∀ q ∈ primes, 7 ≤ q) n hn
  match A, B with
  | none, _ => exact hB
  | some _, none => exact hA
  | some (x1, y1), some (x2, y2) =>
    show Red n (if x1 = x2 ∧ (y1 + y2) % (n : Int) = 0 then none else _)
    by_cases h : x1 = x2 ∧ (y1 + y2) % (n : Int) = 0
    · rw [if_pos h]; trivial
    · rw [if_neg h]
      exact ⟨⟨Int.emod_nonneg _ (by omega), Int.emod_lt_of_pos _ (by omega)⟩, Int.emod_nonneg _ (by omega), Int.emod_lt_of_pos _ (by omega)⟩

theorem On.red {b : Int} {A : Option (Int × Int)} (h : On n b A) : Red n A := by
  match A with
  | none => trivial
  | some _ => exact h.1
theorem on_iff {b : Int} {A : Option (Int × Int)} : On n b A ↔ Red n A ∧ fon (cst n b) (toF n A) := by
  match A with
  | none => exact ⟨fun _ => ⟨trivial, trivial⟩, fun _ => trivial⟩
  | some (x, y) =>
    have e : fon (cst n b) (toF n (some (x, y))) ↔ (y * y) % (n : Int) = (x * x * x + b) % n := by
      rw [← cst_eq, cst_mul, cst_add, cst_mul, cst_mul]
      exact Iff.rfl
    rw [e]
    exact Iff.rfl
theorem Gb.nz {b : Int} (h : Gb n b) (x : Fin n) : x * x * x + cst n b ≠ 0 := by
  intro e
  apply h.2 (x.val : Int)
  rw [← cst_zero, cst_add, cst_mul, cst_mul, cst_val]
  exact e

theorem lsum_on (hn : n ∈ primes) {b : Int} (hb : Gb n b) {A B : Option (Int × Int)} (hA : On n b A) (hB : On n b B) : On n b (lsum n A B) := by
  rw [on_iff]
  refine ⟨lsum_red hn hA.red hB.red, ?_⟩
  rw [toF_sum hn hA.red hB.red]
  exact fsum_on (fld hn) hb.nz (on_iff.mp hA).2 (on_iff.mp hB).2
theorem lsum_comm (hn : n ∈ primes) {b : Int} (hb : Gb n b) {A B : Option (Int × Int)} (hA : On n b A) (hB : On n b B) : lsum n A B = lsum n B A := by
  apply toF_inj (lsum_red hn hA.red hB.red) (lsum_red hn hB.red hA.red)
  rw [toF_sum hn hA.red hB.red, toF_sum hn hB.red hA.red]
  exact fsum_comm (fld hn) hb.nz (on_iff.mp hA).2 (on_iff.mp hB).2
theorem lsum_assoc (hn : n ∈ primes) {b : Int} (hb : Gb n b) {A B C : Option (Int × Int)} (hA : On n b A) (hB : On n b B) (hC : On n b C) : lsum n (lsum n A B) C = lsum n A (lsum n B C) := by
  have hAB := lsum_on hn hb hA hB
  have hBC := lsum_on hn hb hB hC
  apply toF_inj (lsum_red hn hAB.red hC.red) (lsum_red hn hA.red hBC.red)
  rw [toF_sum hn hAB.red hC.red, toF_sum hn hA.red hBC.red, toF_sum hn hA.red hB.red, toF_sum hn hB.red hC.red]
  exact fassoc (fld hn) hb.nz (on_iff.mp hA).2 (on_iff.mp hB).2 (on_iff.mp hC).2
theorem lneg_on (hn : n ∈ primes) {b : Int} {A : Option (Int × Int)} (hA : On n b A) : On n b (lneg n A) := by
  have h7 : 7 ≤ n := (by decide : ∀ q ∈ primes, 7 ≤ q) n hn
  match A with
  | none => trivial
  | some (x, y) =>
    refine ⟨⟨hA.1.1, Int.emod_nonneg _ (by omega), Int.emod_lt_of_pos _ (by omega)⟩, ?_⟩
    have h := hA.2
    dsimp only at h ⊢
    rw [← h, ← cst_eq, cst_mul, cst_mul, cst_mod, cst_sub]
    have : cst n (n : Int) = 0 := cst_zero.mpr (Int.emod_self ..)
    rw [this]
    generalize cst n y = z
    grind
end


theorem Con.mono {w : World} {mean : ExcName → Option Value} {mg mb : Str → Option Value} {dC uC dC' uC' : Nat} {news : Led} {t : Sem Value} {R R' : Led → Value → Prop} (C : Con w mean mg mb dC uC news t R) (h : ∀ nx r, R nx r → R' nx r) (hd : dC ≤ dC') (hu : uC ≤ uC') :
    Con w mean mg mb dC' uC' news t R' := by
  intro dp un gd cn cs a ccd cl outer A₀ base h₀ L m s Q E B F X N T hk hd' hu' ret
  exact C dp un gd cn cs a ccd cl outer A₀ base h₀ L m s Q E B F X N T hk (by omega) (by omega) fun r tl h' tk' F' N' hR => ret r tl h' tk' F' N' (h _ _ hR)

/-- a point of the program's: None, or a tuple of two FQ -/
def FPt (w : World) (news : Led) (p : Int) (v : Value) : Option (Int × Int) → Prop
  | none => v = .none
  | some a => ∃ q x y, v = .ref q ∧ (q, ({ cls := .type "tuple", data := .seq #[.ref x, .ref y] } : Obj)) ∈ news ∧ Fq w news x p a.1 ∧ Fq w news y p a.2
/-- a point of the law's: None, or a tuple of two ints -/
def IPt (news : Led) (p : Int) (v : Value) : Option (Int × Int) → Prop
  | none => v = .none
  | some a => (∃ q t u, v = .ref q ∧ (q, ({ cls := .type "tuple", data := .seq #[.int a.1 t, .int a.2 u] } : Obj)) ∈ news) ∧ (0 ≤ a.1 ∧ a.1 < p) ∧ 0 ≤ a.2 ∧ a.2 < p
section
variable {w : World} {news : Led} {p : Int} {v : Value} {o : Option (Int × Int)}
theorem FPt.sub {news' : Led} (h : FPt w news p v o) (hs : ∀ q ∈ news, q ∈ news') : FPt w news' p v o := by
  match o with
  | none => exact h
  | some a =>
    obtain ⟨q, x, y, e, m, f, g⟩ := h
    exact ⟨q, x, y, e, hs _ m, f.sub hs, g.sub hs⟩
theorem IPt.sub {news' : Led} (h : IPt news p v o) (hs : ∀ q ∈ news, q ∈ news') : IPt news' p v o := by
  match o with
  | none => exact h
  | some a =>
    obtain ⟨⟨q, t, u, e, m⟩, r⟩ := h
    exact ⟨⟨q, t, u, e, hs _ m⟩, r⟩
end

section
variable {w : World} {news nx : Led} {p : Int} {h₀ h' : Heap} {L : Addr} {m : Str → Option Value} {s : Shared} {Q : Value → Shared → Prop} {r : Value} {tk' : Nat} {R : Led → Value → Prop}
theorem con_done (ret : ∀ r tl h' tk', Fr h₀ L h' m → News h₀ L h' (tl ++ news) → R (tl ++ news) r → Q r { s with heap := h', toks := tk' }) (F : Fr h₀ L h' m) (N : News h₀ L h' nx) (hs : ∀ q ∈ news, q ∈ nx) (h : R (nx ++ news) r) : Q r { s with heap := h', toks := tk' } :=
  ret _ nx _ _ F (fun q hq => N q ((List.mem_append.mp hq).elim id (hs q))) h
theorem fpt_done {o : Option (Int × Int)} (ret : ∀ r tl h' tk', Fr h₀ L h' m → News h₀ L h' (tl ++ news) → FPt w (tl ++ news) p r o → Q r { s with heap := h', toks := tk' }) (F : Fr h₀ L h' m) (N : News h₀ L h' nx) (hs : ∀ q ∈ news, q ∈ nx) (h : FPt w nx p r o) : Q r { s with heap := h', toks := tk' } :=
  con_done (R := fun nx r => FPt w nx p r o) ret F N hs (h.sub fun _ k => List.mem_append.mpr (.inl k))
theorem ipt_done {o : Option (Int × Int)} (ret : ∀ r tl h' tk', Fr h₀ L h' m → News h₀ L h' (tl ++ news) → IPt (tl ++ news) p r o → Q r { s with heap := h', toks := tk' }) (F : Fr h₀ L h' m) (N : News h₀ L h' nx) (hs : ∀ q ∈ news, q ∈ nx) (h : IPt nx p r o) : Q r { s with heap := h', toks := tk' } :=
  con_done (R := fun nx r => IPt nx p r o) ret F N hs (h.sub fun _ k => List.mem_append.mpr (.inl k))
theorem fpt_end {o : Option (Int × Int)} {D x y : Addr} {a c : Int} (e : o = some (a, c)) (hm : (D, ({ cls := .type "tuple", data := .seq #[.ref x, .ref y] } : Obj)) ∈ nx) (h1 : Fq w nx x p a) (h2 : Fq w nx y p c) : FPt w nx p (.ref D) o := by
  subst e
  exact ⟨D, x, y, rfl, hm, h1, h2⟩
theorem ipt_end {o : Option (Int × Int)} {D : Addr} {a c : Int} {t u : Tok} (e : o = some (a, c)) (hm : (D, ({ cls := .type "tuple", data := .seq #[.int a t, .int c u] } : Obj)) ∈ nx) (h1 : 0 ≤ a ∧ a < p) (h2 : 0 ≤ c ∧ c < p) : IPt nx p (.ref D) o := by
  subst e
  exact ⟨⟨D, t, u, rfl, hm⟩, h1, h2⟩
end

section
variable {prog : Program} {w : World} {A : Around} {E : Value → Shared → Prop} {s : Shared} {Q : Value → Shared → Prop}
theorem pow_in {b e m : Int} {t u v : Tok} (hb : 0 ≤ b) (hb2 : b < m) (he : 0 ≤ e) (hm : 2 ≤ m) (h : ∀ z t' tk', z = pw b e m → 0 ≤ z → z < m → Q (.int z t') { s with toks := tk' }) :
    wpAny (model prog w) A (call (.builtin "pow") [.int b t, .int e u, .int m v]) Q E s :=
  call_pow3 hb hb2 he hm fun t' tk' => h _ t' tk' rfl (pw_lo _ _ _) (pw_hi _ _ (by omega))
theorem mul_bd {a b A B : Int} (ha : -A ≤ a ∧ a ≤ A) (hb : -B ≤ b ∧ b ≤ B) : -(A * B) ≤ a * b ∧ a * b ≤ A * B := by
  have h1 : a.natAbs ≤ A.natAbs := by omega
  have h2 : b.natAbs ≤ B.natAbs := by omega
  have h3 := Nat.mul_le_mul h1 h2
  rw [← Int.natAbs_mul, ← Int.natAbs_mul] at h3
  have h4 : 0 ≤ A * B := Int.mul_nonneg (by omega) (by omega)
  omega
theorem mul_in {A₁ : Around} {a b A B : Int} {t u : Tok} (ha : -A ≤ a ∧ a ≤ A) (hb : -B ≤ b ∧ b ≤ B) (hB : B < 2 ^ 62) (h : ∀ z t' tk', z = a * b → -(A * B) ≤ z → z ≤ A * B → Q (.int z t') { s with toks := tk' }) :
    wpAny (model prog w) A₁ (binaryOp .Mult (.int a t) (.int b u)) Q E s :=
  mul_int (h _ _ _ rfl (mul_bd ha hb).1 (mul_bd ha hb).2) (IntMulOk.of_right (intBits_le_64 (by omega) (by omega)))
theorem mul_L1 {a b : Int} {t u : Tok} (ha : -1024 ≤ a ∧ a ≤ 1024) (hb : -1024 ≤ b ∧ b ≤ 1024) (h : ∀ z t' tk', z = a * b → -1048576 ≤ z → z ≤ 1048576 → Q (.int z t') { s with toks := tk' }) :
    wpAny (model prog w) A (binaryOp .Mult (.int a t) (.int b u)) Q E s := mul_in ha hb (by decide) h
theorem mul_L2 {a b : Int} {t u : Tok} (ha : -1048576 ≤ a ∧ a ≤ 1048576) (hb : -1024 ≤ b ∧ b ≤ 1024) (h : ∀ z t' tk', z = a * b → -1073741824 ≤ z → z ≤ 1073741824 → Q (.int z t') { s with toks := tk' }) :
    wpAny (model prog w) A (binaryOp .Mult (.int a t) (.int b u)) Q E s := mul_in ha hb (by decide) h
end

section
variable {prog : Program} {w : World} {A : Around} {E : Value → Shared → Prop} {s : Shared} {Q : Value → Shared → Prop}
theorem mod_in {a p : Int} {t u : Tok} (hpr : Pr p) (h : ∀ z t' tk', z = a % p → 0 ≤ z → z < p → Q (.int z t') { s with toks := tk' }) :
    wpAny (model prog w) A (binaryOp .Mod (.int a t) (.int p u)) Q E s :=
  mod_int' (by have := hpr.lo; omega) (by
    rw [fmodE (by have := hpr.lo; omega)]
    exact h _ _ _ rfl (emod_in hpr a).1 (emod_in hpr a).2)
end

open Lean.Grind

section
variable {n : Nat} [NeZero n]
theorem cst_iv (hn : n ∈ primes) {a : Int} (h : cst n a ≠ 0) : cst n (iv n a) = finv n (cst n a) := by
  have h7 : 7 ≤ n := (by decide : ∀ q ∈ primes, 7 ≤ q) n hn
  have h' : ¬ a % (n : Int) = 0 := fun e => h (cst_zero.mpr e)
  unfold iv
  rw [if_neg h', ← finv_cst ⟨Int.emod_nonneg _ (by omega), Int.emod_lt_of_pos _ (by omega)⟩, cst_mod]
theorem mod_of_cst {a c : Int} (h : cst n a = cst n c) : a % n = c % n := cst_eq.mp h

variable {F : Type} [CommRing F]
theorem g1 {X Y M X3 : F} : -M * X3 + M * X - Y = M * (X - X3) - Y := by grind
theorem g2 {M X : F} : M * M - X * 2 = M * M - X - X := by grind
theorem g3 {M X X3 Y X2 Y2 D I : F} (h : D * I = 1) (hD : X2 - X = D) (hM : M = (Y2 - Y) * I) : -M * X3 + M * X - Y = -M * X3 + M * X2 - Y2 := by grind
theorem g4 {X I : F} : X * X * 3 * I = 3 * X * X * I := by grind
theorem g5 {Y : F} : Y + Y = 2 * Y := by grind
theorem g6 {Y : F} : Y * 2 = 2 * Y := by grind

theorem lsum_dbl (hn : n ∈ primes) {b x1 y1 : Int} (hb : Gb n b) (ho : On n b (some (x1, y1))) :
    lsum n (some (x1, y1)) (some (x1, y1)) = (fun m : Int => some ((m * m - x1 - x1) % n, (m * (x1 - (m * m - x1 - x1) % n) - y1) % n)) (3 * x1 * x1 * pw (2 * y1 % n) (n - 2) n) ∧ cst n (2 * y1) ≠ 0 := by
  have hy := two_y (fld hn) (y_ne (b := cst n b) hb.nz (show cst n y1 * cst n y1 = cst n x1 * cst n x1 * cst n x1 + cst n b from (on_iff.mp ho).2))
  have hy2 : cst n (2 * y1) ≠ 0 := by rw [cst_mul, cst_two]; exact hy
  refine ⟨?_, hy2⟩
  show (if x1 = x1 ∧ (y1 + y1) % (n : Int) = 0 then none else _) = _
  rw [if_neg]
  · rw [if_pos rfl]
  · rintro ⟨-, e⟩
    rw [← cst_zero, cst_add, g5] at e
    exact hy e

theorem dblN (hn : n ∈ primes) {b x1 y1 c0 c1 c2 c3 c4 c5 c6 c7 c8 c9 c10 c11 : Int} (hb : Gb n b) (ho : On n b (some (x1, y1)))
    (v0 : c0 = (c1 - y1) % n) (v1 : c1 = (c3 + c2) % n) (v2 : c2 = c8 * x1 % n) (v3 : c3 = c4 * c5 % n) (v4 : c4 = (-c8) % n) (v5 : c5 = (c7 - c6) % n) (v6 : c6 = x1 * 2 % n) (v7 : c7 = c8 * c8 % n)
    (v8 : c8 = c10 * iv n c9 % n) (v9 : c9 = y1 * 2 % n) (v10 : c10 = c11 * 3 % n) (v11 : c11 = x1 * x1 % n) : lsum n (some (x1, y1)) (some (x1, y1)) = some (c5, c0) := by
  have h7 : 7 ≤ n := (by decide : ∀ q ∈ primes, 7 ≤ q) n hn
  obtain ⟨e, hy⟩ := lsum_dbl hn hb ho
  rw [e]
  have k9 : cst n c9 = cst n (2 * y1) := by rw [v9, cst_mod, cst_mul, cst_mul, cst_two, g6]
  have k8 : cst n c8 = cst n (3 * x1 * x1 * pw (2 * y1 % n) (n - 2) n) := by
    rw [v8, cst_mod, cst_mul, cst_iv hn (by rw [k9]; exact hy), k9, v10, cst_mod, v11]
    simp only [cst_mul, cst_three, cst_mod]
    rw [← finv_cst ⟨Int.emod_nonneg _ (by omega), Int.emod_lt_of_pos _ (by omega)⟩, cst_mod, cst_mul, g4]
  generalize 3 * x1 * x1 * pw (2 * y1 % n) (n - 2) n = m at k8
  dsimp only
  have k5 : (m * m - x1 - x1) % (n : Int) = c5 := by
    rw [v5]
    apply mod_of_cst
    rw [cst_sub, cst_sub, cst_mul, cst_sub, v7, cst_mod, cst_mul, v6, cst_mod, cst_mul, cst_two, k8, g2]
  have k0 : (m * (x1 - (m * m - x1 - x1) % n) - y1) % (n : Int) = c0 := by
    rw [k5, v0]
    apply mod_of_cst
    rw [cst_sub, cst_mul, cst_sub, cst_sub, v1, cst_mod, cst_add, v3, cst_mod, cst_mul, v2, cst_mod, cst_mul, v4, cst_mod, cst_neg, k8, g1]
  rw [k0, k5]

theorem lsum_chord (hn : n ∈ primes) {x1 y1 x2 y2 : Int} (h1 : 0 ≤ x1 ∧ x1 < n) (h2 : 0 ≤ x2 ∧ x2 < n) (hx : x2 ≠ x1) :
    lsum n (some (x1, y1)) (some (x2, y2)) = (fun m : Int => some ((m * m - x1 - x2) % n, (m * (x1 - (m * m - x1 - x2) % n) - y1) % n)) ((y2 - y1) * pw ((x2 - x1) % n) (n - 2) n) ∧ cst n (x2 - x1) ≠ 0 := by
  refine ⟨?_, ?_⟩
  · show (if x1 = x2 ∧ (y1 + y2) % (n : Int) = 0 then none else _) = _
    rw [if_neg (fun h => hx h.1.symm), if_neg (fun h => hx (Prod.mk.inj h).1.symm)]
  · intro e
    rw [cst_sub] at e
    exact hx (cst_inj h2 h1 (by have := t0 e; exact this.symm))
theorem chordN (hn : n ∈ primes) {x1 y1 x2 y2 c0 c1 c2 c3 c4 c5 c6 c7 c8 c9 c10 : Int} (h1 : 0 ≤ x1 ∧ x1 < n) (h2 : 0 ≤ x2 ∧ x2 < n) (hx : x2 ≠ x1)
    (v0 : c0 = (c1 - y1) % n) (v1 : c1 = (c3 + c2) % n) (v2 : c2 = c8 * x1 % n) (v3 : c3 = c4 * c5 % n) (v4 : c4 = (-c8) % n) (v5 : c5 = (c6 - x2) % n) (v6 : c6 = (c7 - x1) % n) (v7 : c7 = c8 * c8 % n)
    (v8 : c8 = c10 * iv n c9 % n) (v9 : c9 = (x2 - x1) % n) (v10 : c10 = (y2 - y1) % n) : lsum n (some (x1, y1)) (some (x2, y2)) = some (c5, c0) := by
  have h7 : 7 ≤ n := (by decide : ∀ q ∈ primes, 7 ≤ q) n hn
  obtain ⟨e, hd⟩ := lsum_chord (y1 := y1) (y2 := y2) hn h1 h2 hx
  rw [e]
  have k9 : cst n c9 = cst n (x2 - x1) := by rw [v9, cst_mod]
  have k8 : cst n c8 = cst n ((y2 - y1) * pw ((x2 - x1) % n) (n - 2) n) := by
    rw [v8, cst_mod, cst_mul, cst_iv hn (by rw [k9]; exact hd), k9, v10, cst_mod, cst_mul, ← finv_cst ⟨Int.emod_nonneg _ (by omega), Int.emod_lt_of_pos _ (by omega)⟩, cst_mod]
  generalize (y2 - y1) * pw ((x2 - x1) % n) (n - 2) n = m at k8
  dsimp only
  have k5 : (m * m - x1 - x2) % (n : Int) = c5 := by
    rw [v5]
    apply mod_of_cst
    rw [cst_sub, cst_sub, cst_mul, cst_sub, v6, cst_mod, cst_sub, v7, cst_mod, cst_mul, k8]
  have k0 : (m * (x1 - (m * m - x1 - x2) % n) - y1) % (n : Int) = c0 := by
    rw [k5, v0]
    apply mod_of_cst
    rw [cst_sub, cst_mul, cst_sub, cst_sub, v1, cst_mod, cst_add, v3, cst_mod, cst_mul, v2, cst_mod, cst_mul, v4, cst_mod, cst_neg, k8, g1]
  rw [k0, k5]
/-- what add looks at ere it hands its sum on -/
theorem checkN (hn : n ∈ primes) {x1 y1 x2 y2 c0 c1 c2 c3 c4 c5 c8 c9 c10 d0 d1 d2 d3 d4 : Int} (h1 : 0 ≤ x1 ∧ x1 < n) (h2 : 0 ≤ x2 ∧ x2 < n) (hx : x2 ≠ x1)
    (w0 : d0 = (d1 - y2) % n) (w1 : d1 = (d3 + d2) % n) (w2 : d2 = c8 * x2 % n) (w3 : d3 = d4 * c5 % n) (w4 : d4 = (-c8) % n)
    (v0 : c0 = (c1 - y1) % n) (v1 : c1 = (c3 + c2) % n) (v2 : c2 = c8 * x1 % n) (v3 : c3 = c4 * c5 % n) (v4 : c4 = (-c8) % n)
    (v8 : c8 = c10 * iv n c9 % n) (v9 : c9 = (x2 - x1) % n) (v10 : c10 = (y2 - y1) % n) : c0 = d0 := by
  obtain ⟨e, hd⟩ := lsum_chord (y1 := y1) (y2 := y2) hn h1 h2 hx
  have k9 : cst n c9 = cst n (x2 - x1) := by rw [v9, cst_mod]
  have k8 : cst n c8 = (cst n y2 - cst n y1) * finv n (cst n (x2 - x1)) := by
    rw [v8, cst_mod, cst_mul, cst_iv hn (by rw [k9]; exact hd), k9, v10, cst_mod, cst_sub]
  rw [v0, w0]
  apply mod_of_cst
  rw [cst_sub, cst_sub, v1, w1, cst_mod, cst_mod, cst_add, cst_add, v3, w3, cst_mod, cst_mod, cst_mul, cst_mul, v2, w2, cst_mod, cst_mod, cst_mul, cst_mul, v4, w4, cst_mod, cst_neg]
  exact g3 ((fld hn).inv _ hd) (cst_sub x2 x1).symm k8
end

theorem Pr.nz {p : Int} (h : Pr p) : ∃ n : Nat, p = n ∧ n ∈ primes ∧ n ≠ 0 := by
  obtain ⟨n, hn, e⟩ := h
  exact ⟨n, e, hn, by have h7 : 7 ≤ n := (by decide : ∀ q ∈ primes, 7 ≤ q) n hn; omega⟩
section
variable {p b x1 y1 x2 y2 c0 c1 c2 c3 c4 c5 c6 c7 c8 c9 c10 c11 d0 d1 d2 d3 d4 : Int}
theorem dbl_ok (hp : Pr p) (hb : Gb p b) (ho : On p b (some (x1, y1)))
    (v0 : c0 = (c1 - y1) % p) (v1 : c1 = (c3 + c2) % p) (v2 : c2 = c8 * x1 % p) (v3 : c3 = c4 * c5 % p) (v4 : c4 = (-c8) % p) (v5 : c5 = (c7 - c6) % p) (v6 : c6 = x1 * 2 % p) (v7 : c7 = c8 * c8 % p)
    (v8 : c8 = c10 * iv p c9 % p) (v9 : c9 = y1 * 2 % p) (v10 : c10 = c11 * 3 % p) (v11 : c11 = x1 * x1 % p) : lsum p (some (x1, y1)) (some (x1, y1)) = some (c5, c0) := by
  obtain ⟨n, rfl, hn, h0⟩ := hp.nz
  have : NeZero n := ⟨h0⟩
  exact dblN hn hb ho v0 v1 v2 v3 v4 v5 v6 v7 v8 v9 v10 v11
theorem chord_ok (hp : Pr p) (h1 : On p b (some (x1, y1))) (h2 : On p b (some (x2, y2))) (hx : x2 ≠ x1)
    (v0 : c0 = (c1 - y1) % p) (v1 : c1 = (c3 + c2) % p) (v2 : c2 = c8 * x1 % p) (v3 : c3 = c4 * c5 % p) (v4 : c4 = (-c8) % p) (v5 : c5 = (c6 - x2) % p) (v6 : c6 = (c7 - x1) % p) (v7 : c7 = c8 * c8 % p)
    (v8 : c8 = c10 * iv p c9 % p) (v9 : c9 = (x2 - x1) % p) (v10 : c10 = (y2 - y1) % p) : lsum p (some (x1, y1)) (some (x2, y2)) = some (c5, c0) := by
  obtain ⟨n, rfl, hn, h0⟩ := hp.nz
  have : NeZero n := ⟨h0⟩
  exact chordN hn h1.1.1 h2.1.1 hx v0 v1 v2 v3 v4 v5 v6 v7 v8 v9 v10
theorem check_ok (hp : Pr p) (h1 : On p b (some (x1, y1))) (h2 : On p b (some (x2, y2))) (hx : x2 ≠ x1)
    (w0 : d0 = (d1 - y2) % p) (w1 : d1 = (d3 + d2) % p) (w2 : d2 = c8 * x2 % p) (w3 : d3 = d4 * c5 % p) (w4 : d4 = (-c8) % p)
    (v0 : c0 = (c1 - y1) % p) (v1 : c1 = (c3 + c2) % p) (v2 : c2 = c8 * x1 % p) (v3 : c3 = c4 * c5 % p) (v4 : c4 = (-c8) % p)
    (v8 : c8 = c10 * iv p c9 % p) (v9 : c9 = (x2 - x1) % p) (v10 : c10 = (y2 - y1) % p) : c0 = d0 := by
  obtain ⟨n, rfl, hn, h0⟩ := hp.nz
  have : NeZero n := ⟨h0⟩
  exact checkN hn h1.1.1 h2.1.1 hx w0 w1 w2 w3 w4 v0 v1 v2 v3 v4 v8 v9 v10
/-- one x, not the same y: the sum is the point at infinity -/
theorem opp_ok (hp : Pr p) (hb : Gb p b) (h1 : On p b (some (x1, y1))) (h2 : On p b (some (x1, y2))) (hy : y2 ≠ y1) : lsum p (some (x1, y1)) (some (x1, y2)) = none := by
  obtain ⟨n, rfl, hn, h0⟩ := hp.nz
  have : NeZero n := ⟨h0⟩
  have e : (y1 + y2) % (n : Int) = 0 := by
    rw [← cst_zero, cst_add]
    apply Classical.byContradiction
    intro h
    exact hy (cst_inj h2.1.2 h1.1.2 (same_x (fld hn) hb.nz (x := cst n x1) (on_iff.mp h1).2 (on_iff.mp h2).2 h).symm)
  show (if x1 = x1 ∧ (y1 + y2) % (n : Int) = 0 then none else _) = _
  rw [if_pos ⟨rfl, e⟩]
end



/-- a tree of an expression or a test, over any frame of a def with locals m and any ledger that holds news -/
def Ev (w : World) (mean : ExcName → Option Value) (mg mb : Str → Option Value) (d : Nat) (cn : Str) (cs : Scope) (a : Addr) (ccd : Value) (Z : Heap → Prop) (m : Str → Option Value) (news : Led) {α : Type} (t : Env → Sem α) (R : Led → α → Prop) : Prop :=
  ∀ (nw : Led), (∀ q ∈ news, q ∈ nw) → ∀ (dp un : Nat) (gd : Option (List Code)) (outer : List Env) (A₀ : Around) (base h₀ : Heap) (L : Addr) (s : Shared) (Q : α → Shared → Prop) (E : Value → Shared → Prop),
    Z base → Below A₀ base outer h₀ → Fr h₀ L s.heap m → (hd.heap_39 w.params).In h₀ → News h₀ L s.heap nw → Top hd.view_39 (looseW hd.view_39 []) mean mg mb h₀ → cs.kind = .function → dp + d < recursionLimit → un + 10 * d < cLine →
    (∀ r nx h' tk', (∀ q ∈ nw, q ∈ nx) → Fr h₀ L h' m → News h₀ L h' nx → R nx r → Q r { s with heap := h', toks := tk' }) →
    wpAny (model Challenge.rw_lh0027_01.row.prog w) (ktrTop dp un gd cn cs L a ccd [] outer) (t (envX cn cs L a ccd [])) Q E s
/-- statements: they end in «next» with locals told by RN, or hand back a value told by R -/
def St (w : World) (mean : ExcName → Option Value) (mg mb : Str → Option Value) (d : Nat) (cn : Str) (cs : Scope) (a : Addr) (ccd : Value) (Z : Heap → Prop) (m : Str → Option Value) (news : Led) (ss : List Stmt) (RN : Led → (Str → Option Value) → Prop) (R : Led → Value → Prop) : Prop :=
  ∀ (nw : Led), (∀ q ∈ news, q ∈ nw) → ∀ (dp un : Nat) (gd : Option (List Code)) (outer : List Env) (A₀ : Around) (base h₀ : Heap) (L : Addr) (s : Shared) (Q : Flow → Shared → Prop) (E : Value → Shared → Prop),
    Z base → Below A₀ base outer h₀ → Fr h₀ L s.heap m → (hd.heap_39 w.params).In h₀ → News h₀ L s.heap nw → Top hd.view_39 (looseW hd.view_39 []) mean mg mb h₀ → cs.kind = .function → dp + d < recursionLimit → un + 10 * d < cLine →
    (∀ nx m' h' tk', (∀ q ∈ nw, q ∈ nx) → Fr h₀ L h' m' → News h₀ L h' nx → RN nx m' → Q .next { s with heap := h', toks := tk' }) →
    (∀ r nx m' h' tk', (∀ q ∈ nw, q ∈ nx) → Fr h₀ L h' m' → News h₀ L h' nx → R nx r → Q (.ret r) { s with heap := h', toks := tk' }) →
    wpAny (model Challenge.rw_lh0027_01.row.prog w) (ktrTop dp un gd cn cs L a ccd [] outer) (execs ss (envX cn cs L a ccd [])) Q E s
/-- a relation that outlives a longer ledger -/
def Up {α : Type} (R : Led → α → Prop) : Prop := ∀ n n' v, R n v → (∀ q ∈ n, q ∈ n') → R n' v
abbrev No : Led → (Str → Option Value) → Prop := fun _ _ => False
abbrev Tr (b : Bool) : Led → Bool → Prop := fun _ c => c = b
abbrev Is (v : Value) : Led → Value → Prop := fun _ r => r = v
abbrev FqR (w : World) (p u : Int) : Led → Value → Prop := fun nx r => ∃ z, r = .ref z ∧ Fq w nx z p u

/-- the tuple of two made anew -/
abbrev tup2 (x y : Value) : Obj := { cls := .type "tuple", data := .seq #[x, y] }
section
variable {w : World} {mean : ExcName → Option Value} {mg mb : Str → Option Value} {d : Nat} {cn : Str} {cs : Scope} {a : Addr} {ccd : Value} {Z : Heap → Prop} {m : Str → Option Value} {news : Led}
theorem St.use {ss : List Stmt} {R : Led → Value → Prop} {dp un : Nat} {gd : Option (List Code)} {outer : List Env} {A₀ : Around} {base h₀ : Heap} {L : Addr} {s : Shared} {Q : Flow → Shared → Prop} {E : Value → Shared → Prop}
    (hz : Z base) (B : Below A₀ base outer h₀) (F : Fr h₀ L s.heap m) (X : (hd.heap_39 w.params).In h₀) (N : News h₀ L s.heap news) (T : Top hd.view_39 (looseW hd.view_39 []) mean mg mb h₀) (hk : cs.kind = .function) (C : St w mean mg mb d cn cs a ccd Z m news ss No R) (hd : dp + d < recursionLimit) (hu : un + 10 * d < cLine)
    (ret : ∀ r nx m' h' tk', (∀ q ∈ news, q ∈ nx) → Fr h₀ L h' m' → News h₀ L h' nx → R nx r → Q (.ret r) { s with heap := h', toks := tk' }) :
    wpAny (model Challenge.rw_lh0027_01.row.prog w) (ktrTop dp un gd cn cs L a ccd [] outer) (execs ss (envX cn cs L a ccd [])) Q E s := C _ (fun _ k => k) _ _ _ _ _ _ _ _ _ _ _ hz B F X N T hk hd hu (fun _ _ _ _ _ _ _ h => h.elim) ret
theorem Ev.mono {α : Type} {t : Env → Sem α} {R R' : Led → α → Prop} (C : Ev w mean mg mb d cn cs a ccd Z m news t R) (h : ∀ nx r, R nx r → R' nx r) : Ev w mean mg mb d cn cs a ccd Z m news t R' := by
  intro nw hs dp un gd outer A₀ base h₀ L s Q E hz B F X N T hk hd hu ret
  exact C nw (hs) dp un gd outer A₀ base h₀ L _ _ E hz B F X N T hk hd hu fun r nx h' tk' s1 F1 N1 k => ret r nx h' tk' s1 F1 N1 (h _ _ k)
theorem Ev.loc {x : Str} {v : Value} {pos : Pos} {R : Led → Value → Prop} (hv : m x = some v) (hr : R news v) (up : Up R) (hx : ∀ L, (envX cn cs L a ccd []).kindOf x = some .local := by exact fun _ => rfl) (hdb : (x == ("__debug__" : Str)) = false := by decide) :
    Ev w mean mg mb d cn cs a ccd Z m news (eval (.Name x pos)) R := by
  intro nw hs dp un gd outer A₀ base h₀ L s Q E hz B F X N T hk hd hu ret
  exact nameX_L F hv (ret v nw s.heap s.toks (fun q k => k) F N (up _ _ _ hr hs)) hk (hx L) hdb
theorem Ev.none_ {k} {pos : Pos} : Ev w mean mg mb d cn cs a ccd Z m news (eval (.Constant .none k pos)) (Is .none) := by
  intro nw hs dp un gd outer A₀ base h₀ L s Q E hz B F X N T hk hd hu ret
  exact Constant_none (ret .none nw s.heap s.toks (fun q k => k) F N rfl)
theorem Ev.int_ {i : Int} {k} {pos : Pos} : Ev w mean mg mb d cn cs a ccd Z m news (eval (.Constant (.int i) k pos)) (fun _ r => ∃ t, r = .int i t) := by
  intro nw hs dp un gd outer A₀ base h₀ L s Q E hz B F X N T hk hd hu ret
  exact wpAny_Constant_int (ret _ nw s.heap _ (fun q k => k) F N ⟨_, rfl⟩)
section
variable {dC uC : Nat} {R1 R2 R3 R : Led → Value → Prop} {e1 e2 e3 : PySem.Expr} {pos : Pos} (hdC : dC ≤ d) (huC : uC ≤ 10 * d)
include hdC huC
theorem Ev.una {op : UnaryOp} (h1 : Ev w mean mg mb d cn cs a ccd Z m news (eval e1) R1) (h : ∀ nx, (∀ q ∈ news, q ∈ nx) → ∀ x, R1 nx x → Con w mean mg mb dC uC nx (unaryOp op x) R) : Ev w mean mg mb d cn cs a ccd Z m news (eval (.UnaryOp op e1 pos)) R := by
  intro nw hs dp un gd outer A₀ base h₀ L s Q E hz B F X N T hk hd hu ret
  refine UnaryOp_ ?_
  refine h1 nw (hs) dp un gd outer A₀ base h₀ L _ _ E hz B F X N T hk hd hu fun x n1 h1' tk1 s1 F1 N1 r1 => ?_
  exact h n1 (fun q k => s1 q (hs q k)) x r1 dp un gd cn cs a ccd [] outer A₀ base h₀ L m _ _ E B F1 X N1 T hk (by omega) (by omega) fun r tl h3 tk3 F3 N3 r3 => ret r _ h3 tk3 (fun q k => List.mem_append.mpr (.inr (s1 q k))) F3 N3 r3
variable (u1 : Up R1)
include u1
theorem Ev.bin {op : Operator} (h1 : Ev w mean mg mb d cn cs a ccd Z m news (eval e1) R1) (h2 : Ev w mean mg mb d cn cs a ccd Z m news (eval e2) R2) (h : ∀ nx, (∀ q ∈ news, q ∈ nx) → ∀ x y, R1 nx x → R2 nx y → Con w mean mg mb dC uC nx (binaryOp op x y) R) : Ev w mean mg mb d cn cs a ccd Z m news (eval (.BinOp e1 op e2 pos)) R := by
  intro nw hs dp un gd outer A₀ base h₀ L s Q E hz B F X N T hk hd hu ret
  refine wpAny_BinOp ?_
  refine h1 nw (hs) dp un gd outer A₀ base h₀ L _ _ E hz B F X N T hk hd hu fun x n1 h1' tk1 s1 F1 N1 r1 => ?_
  refine h2 n1 (fun q k => s1 q (hs q k)) dp un gd outer A₀ base h₀ L _ _ E hz B F1 X N1 T hk hd hu fun y n2 h2' tk2 s2 F2 N2 r2 => ?_
  exact h n2 (fun q k => s2 q (s1 q (hs q k))) x y (u1 _ _ _ r1 s2) r2 dp un gd cn cs a ccd [] outer A₀ base h₀ L m _ _ E B F2 X N2 T hk (by omega) (by omega) fun r tl h3 tk3 F3 N3 r3 => ret r _ h3 tk3 (fun q k => List.mem_append.mpr (.inr (s2 q (s1 q k)))) F3 N3 r3
theorem Ev.cmp {op : CmpOp} (h1 : Ev w mean mg mb d cn cs a ccd Z m news (eval e1) R1) (h2 : Ev w mean mg mb d cn cs a ccd Z m news (eval e2) R2) (h : ∀ nx, (∀ q ∈ news, q ∈ nx) → ∀ x y, R1 nx x → R2 nx y → Con w mean mg mb dC uC nx (compareOp op x y) R) (hm : behindInMarks op e2 = false := by with_unfolding_all rfl) : Ev w mean mg mb d cn cs a ccd Z m news (eval (.Compare e1 [op] [e2] pos)) R := by
  intro nw hs dp un gd outer A₀ base h₀ L s Q E hz B F X N T hk hd hu ret
  refine wpAny_Compare1 ?_ hm
  refine h1 nw (hs) dp un gd outer A₀ base h₀ L _ _ E hz B F X N T hk hd hu fun x n1 h1' tk1 s1 F1 N1 r1 => ?_
  refine h2 n1 (fun q k => s1 q (hs q k)) dp un gd outer A₀ base h₀ L _ _ E hz B F1 X N1 T hk hd hu fun y n2 h2' tk2 s2 F2 N2 r2 => ?_
  exact h n2 (fun q k => s2 q (s1 q (hs q k))) x y (u1 _ _ _ r1 s2) r2 dp un gd cn cs a ccd [] outer A₀ base h₀ L m _ _ E B F2 X N2 T hk (by omega) (by omega) fun r tl h3 tk3 F3 N3 r3 => ret r _ h3 tk3 (fun q k => List.mem_append.mpr (.inr (s2 q (s1 q k)))) F3 N3 r3
theorem Ev.tcmp {op : CmpOp} {b : Bool} {wh : Env → Sem Value} (h1 : Ev w mean mg mb d cn cs a ccd Z m news (eval e1) R1) (h2 : Ev w mean mg mb d cn cs a ccd Z m news (eval e2) R2) (h : ∀ nx, (∀ q ∈ news, q ∈ nx) → ∀ x y, R1 nx x → R2 nx y → Con w mean mg mb dC uC nx (compareOp op x y) (fun _ r => r = .bool b)) (hm : behindInMarks op e2 = false := by with_unfolding_all rfl) : Ev w mean mg mb d cn cs a ccd Z m news (fun env => isTrue (.Compare e1 [op] [e2] pos) env (wh env)) (Tr b) := by
  intro nw hs dp un gd outer A₀ base h₀ L s Q E hz B F X N T hk hd hu ret
  refine wpAny_isTrue_Compare1 ?_ hm
  refine h1 nw (hs) dp un gd outer A₀ base h₀ L _ _ E hz B F X N T hk hd hu fun x n1 h1' tk1 s1 F1 N1 r1 => ?_
  refine h2 n1 (fun q k => s1 q (hs q k)) dp un gd outer A₀ base h₀ L _ _ E hz B F1 X N1 T hk hd hu fun y n2 h2' tk2 s2 F2 N2 r2 => ?_
  refine h n2 (fun q k => s2 q (s1 q (hs q k))) x y (u1 _ _ _ r1 s2) r2 dp un gd cn cs a ccd [] outer A₀ base h₀ L m _ _ E B F2 X N2 T hk (by omega) (by omega) fun r tl h3 tk3 F3 N3 r3 => ?_
  subst r3
  exact wpAny_truthy_bool (ret b _ h3 tk3 (fun q k => List.mem_append.mpr (.inr (s2 q (s1 q k)))) F3 N3 rfl)
omit u1
variable {fn : Str} {fa : Addr} {fp : Pos} (hg : nsIn (hd.heap_39 w.params) mainGlobals fn = some (some (.ref fa))) (hkp : keepIn (hd.heap_39 w.params) (.ref fa) = true) (hx : ∀ L, (envX cn cs L a ccd []).kindOf fn = some .globalImplicit) (hdb : (fn == ("__debug__" : Str)) = false)
include hg hkp hx hdb
theorem Ev.call1 (h1 : Ev w mean mg mb d cn cs a ccd Z m news (eval e1) R1) (h : ∀ nx, (∀ q ∈ news, q ∈ nx) → ∀ x, R1 nx x → Con w mean mg mb dC uC nx (call (.ref fa) [x]) R) (hp1 : ∀ L, starEach [e1] (envX cn cs L a ccd []) = (false, eval e1 (envX cn cs L a ccd [])) :: starEach [] (envX cn cs L a ccd []) := by exact fun _ => rfl) : Ev w mean mg mb d cn cs a ccd Z m news (eval (.Call (.Name fn fp) [e1] [] pos)) R := by
  intro nw hs dp un gd outer A₀ base h₀ L s Q E hz B F X N T hk hd hu ret
  refine Call_ ?_
  refine nameX_K F X (by k_asm) hg ?_ hk (hx L) hdb
  refine callWith_K X hkp ?_ (hp1 L) rfl
  refine spliced_more ?_ (hp1 L)
  refine h1 nw (hs) dp un gd outer A₀ base h₀ L _ _ E hz B F X N T hk hd hu fun x n1 h1' tk1 s1 F1 N1 r1 => ?_
  refine spliced_none ?_
  refine ⟨X.keeps F1.keep, ?_⟩
  exact h n1 (fun q k => s1 q (hs q k)) x r1 dp un gd cn cs a ccd [] outer A₀ base h₀ L m _ _ E B F1 X N1 T hk (by omega) (by omega) fun r tl h3 tk3 F3 N3 r3 => ret r _ h3 tk3 (fun q k => List.mem_append.mpr (.inr (s1 q k))) F3 N3 r3
include u1
theorem Ev.call2 (h1 : Ev w mean mg mb d cn cs a ccd Z m news (eval e1) R1) (h2 : Ev w mean mg mb d cn cs a ccd Z m news (eval e2) R2) (h : ∀ nx, (∀ q ∈ news, q ∈ nx) → ∀ x y, R1 nx x → R2 nx y → Con w mean mg mb dC uC nx (call (.ref fa) [x, y]) R) (hp1 : ∀ L, starEach [e1, e2] (envX cn cs L a ccd []) = (false, eval e1 (envX cn cs L a ccd [])) :: starEach [e2] (envX cn cs L a ccd []) := by exact fun _ => rfl)
    (hp2 : ∀ L, starEach [e2] (envX cn cs L a ccd []) = (false, eval e2 (envX cn cs L a ccd [])) :: starEach [] (envX cn cs L a ccd []) := by exact fun _ => rfl) : Ev w mean mg mb d cn cs a ccd Z m news (eval (.Call (.Name fn fp) [e1, e2] [] pos)) R := by
  intro nw hs dp un gd outer A₀ base h₀ L s Q E hz B F X N T hk hd hu ret
  refine Call_ ?_
  refine nameX_K F X (by k_asm) hg ?_ hk (hx L) hdb
  refine callWith_K X hkp ?_ (hp1 L) (by rw [hp2 L]; rfl)
  refine spliced_more ?_ (hp1 L)
  refine h1 nw (hs) dp un gd outer A₀ base h₀ L _ _ E hz B F X N T hk hd hu fun x n1 h1' tk1 s1 F1 N1 r1 => ?_
  refine spliced_more ?_ (hp2 L)
  refine h2 n1 (fun q k => s1 q (hs q k)) dp un gd outer A₀ base h₀ L _ _ E hz B F1 X N1 T hk hd hu fun y n2 h2' tk2 s2 F2 N2 r2 => ?_
  refine spliced_none ?_
  refine ⟨X.keeps F2.keep, ?_⟩
  exact h n2 (fun q k => s2 q (s1 q (hs q k))) x y (u1 _ _ _ r1 s2) r2 dp un gd cn cs a ccd [] outer A₀ base h₀ L m _ _ E B F2 X N2 T hk (by omega) (by omega) fun r tl h3 tk3 F3 N3 r3 => ret r _ h3 tk3 (fun q k => List.mem_append.mpr (.inr (s2 q (s1 q k)))) F3 N3 r3
variable (u2 : Up R2)
include u2
theorem Ev.call3 (h1 : Ev w mean mg mb d cn cs a ccd Z m news (eval e1) R1) (h2 : Ev w mean mg mb d cn cs a ccd Z m news (eval e2) R2) (h3 : Ev w mean mg mb d cn cs a ccd Z m news (eval e3) R3) (h : ∀ nx, (∀ q ∈ news, q ∈ nx) → ∀ x y z, R1 nx x → R2 nx y → R3 nx z → Con w mean mg mb dC uC nx (call (.ref fa) [x, y, z]) R) (hp1 : ∀ L, starEach [e1, e2, e3] (envX cn cs L a ccd []) = (false, eval e1 (envX cn cs L a ccd [])) :: starEach [e2, e3] (envX cn cs L a ccd []) := by exact fun _ => rfl)
    (hp2 : ∀ L, starEach [e2, e3] (envX cn cs L a ccd []) = (false, eval e2 (envX cn cs L a ccd [])) :: starEach [e3] (envX cn cs L a ccd []) := by exact fun _ => rfl)
    (hp3 : ∀ L, starEach [e3] (envX cn cs L a ccd []) = (false, eval e3 (envX cn cs L a ccd [])) :: starEach [] (envX cn cs L a ccd []) := by exact fun _ => rfl) : Ev w mean mg mb d cn cs a ccd Z m news (eval (.Call (.Name fn fp) [e1, e2, e3] [] pos)) R := by
  intro nw hs dp un gd outer A₀ base h₀ L s Q E hz B F X N T hk hd hu ret
  refine Call_ ?_
  refine nameX_K F X (by k_asm) hg ?_ hk (hx L) hdb
  refine callWith_K X hkp ?_ (hp1 L) (by rw [hp2 L, hp3 L]; rfl)
  refine spliced_more ?_ (hp1 L)
  refine h1 nw (hs) dp un gd outer A₀ base h₀ L _ _ E hz B F X N T hk hd hu fun x n1 h1' tk1 s1 F1 N1 r1 => ?_
  refine spliced_more ?_ (hp2 L)
  refine h2 n1 (fun q k => s1 q (hs q k)) dp un gd outer A₀ base h₀ L _ _ E hz B F1 X N1 T hk hd hu fun y n2 h2' tk2 s2 F2 N2 r2 => ?_
  refine spliced_more ?_ (hp3 L)
  refine h3 n2 (fun q k => s2 q (s1 q (hs q k))) dp un gd outer A₀ base h₀ L _ _ E hz B F2 X N2 T hk hd hu fun z n3 h3' tk3 s3 F3 N3 r3 => ?_
  refine spliced_none ?_
  refine ⟨X.keeps F3.keep, ?_⟩
  exact h n3 (fun q k => s3 q (s2 q (s1 q (hs q k)))) x y z (u1 _ _ _ (u1 _ _ _ r1 s2) s3) (u2 _ _ _ r2 s3) r3 dp un gd cn cs a ccd [] outer A₀ base h₀ L m _ _ E B F3 X N3 T hk (by omega) (by omega) fun r tl h4 tk4 F4 N4 r4 => ret r _ h4 tk4 (fun q k => List.mem_append.mpr (.inr (s3 q (s2 q (s1 q k))))) F4 N4 r4
end
section
variable {R : Led → Value → Prop} {e1 e2 : PySem.Expr} {x : PySem.Expr} {es : List PySem.Expr} {pos : Pos} {b : Bool} {wh : Env → Sem Value}
theorem Ev.tval (h : Ev w mean mg mb d cn cs a ccd Z m news (eval x) (Is (.bool b))) (he : ∀ L, isTrue x (envX cn cs L a ccd []) (eval x (envX cn cs L a ccd [])) = (do let v ← eval x (envX cn cs L a ccd []); standAt x.pos; holding [v] (truthy v)) := by exact fun _ => rfl) : Ev w mean mg mb d cn cs a ccd Z m news (fun env => isTrue x env (eval x env)) (Tr b) := by
  intro nw hs dp un gd outer A₀ base h₀ L s Q E hz B F X N T hk hd hu ret
  refine isTrue_plain ?_ (he L)
  refine h nw (hs) dp un gd outer A₀ base h₀ L _ _ E hz B F X N T hk hd hu fun c n1 h1' tk1 s1 F1 N1 r1 => ?_
  subst r1
  exact wpAny_truthy_bool (ret b n1 h1' tk1 s1 F1 N1 rfl)
theorem Ev.not_ (h1 : Ev w mean mg mb d cn cs a ccd Z m news (fun env => isTrue e1 env (eval e1 env)) (Tr true)) : Ev w mean mg mb d cn cs a ccd Z m news (fun env => isTrue (.UnaryOp .Not e1 pos) env (wh env)) (Tr false) := by
  intro nw hs dp un gd outer A₀ base h₀ L s Q E hz B F X N T hk hd hu ret
  refine isTrue_not ?_
  refine h1 nw (hs) dp un gd outer A₀ base h₀ L _ _ E hz B F X N T hk hd hu fun c n1 h1' tk1 s1 F1 N1 r1 => ?_
  subst r1
  exact ret false n1 h1' tk1 s1 F1 N1 rfl
theorem Ev.or_nil : Ev w mean mg mb d cn cs a ccd Z m news (fun env => isTrue (.BoolOp .Or [] pos) env (wh env)) (Tr false) := by
  intro nw hs dp un gd outer A₀ base h₀ L s Q E hz B F X N T hk hd hu ret
  exact isTrue_or_nil (ret false nw s.heap s.toks (fun q k => k) F N rfl)
theorem Ev.and_nil : Ev w mean mg mb d cn cs a ccd Z m news (fun env => isTrue (.BoolOp .And [] pos) env (wh env)) (Tr true) := by
  intro nw hs dp un gd outer A₀ base h₀ L s Q E hz B F X N T hk hd hu ret
  exact isTrue_and_nil (ret true nw s.heap s.toks (fun q k => k) F N rfl)
theorem Ev.or_t (h1 : Ev w mean mg mb d cn cs a ccd Z m news (fun env => isTrue x env (eval x env)) (Tr true)) : Ev w mean mg mb d cn cs a ccd Z m news (fun env => isTrue (.BoolOp .Or (x :: es) pos) env (wh env)) (Tr true) := by
  intro nw hs dp un gd outer A₀ base h₀ L s Q E hz B F X N T hk hd hu ret
  refine isTrue_or ?_
  refine h1 nw (hs) dp un gd outer A₀ base h₀ L _ _ E hz B F X N T hk hd hu fun c n1 h1' tk1 s1 F1 N1 r1 => ?_
  subst r1
  exact ret true n1 h1' tk1 s1 F1 N1 rfl
theorem Ev.or_f (h1 : Ev w mean mg mb d cn cs a ccd Z m news (fun env => isTrue x env (eval x env)) (Tr false)) (h2 : Ev w mean mg mb d cn cs a ccd Z m news (fun env => isTrue (.BoolOp .Or es pos) env (wh env)) (Tr b)) : Ev w mean mg mb d cn cs a ccd Z m news (fun env => isTrue (.BoolOp .Or (x :: es) pos) env (wh env)) (Tr b) := by
  intro nw hs dp un gd outer A₀ base h₀ L s Q E hz B F X N T hk hd hu ret
  refine isTrue_or ?_
  refine h1 nw (hs) dp un gd outer A₀ base h₀ L _ _ E hz B F X N T hk hd hu fun c n1 h1' tk1 s1 F1 N1 r1 => ?_
  subst r1
  exact h2 n1 (fun q k => s1 q (hs q k)) dp un gd outer A₀ base h₀ L _ _ E hz B F1 X N1 T hk hd hu fun c n2 h2' tk2 s2 F2 N2 r2 => ret c n2 h2' tk2 (fun q k => s2 q (s1 q k)) F2 N2 r2
theorem Ev.and_f (h1 : Ev w mean mg mb d cn cs a ccd Z m news (fun env => isTrue x env (eval x env)) (Tr false)) : Ev w mean mg mb d cn cs a ccd Z m news (fun env => isTrue (.BoolOp .And (x :: es) pos) env (wh env)) (Tr false) := by
  intro nw hs dp un gd outer A₀ base h₀ L s Q E hz B F X N T hk hd hu ret
  refine isTrue_and ?_
  refine h1 nw (hs) dp un gd outer A₀ base h₀ L _ _ E hz B F X N T hk hd hu fun c n1 h1' tk1 s1 F1 N1 r1 => ?_
  subst r1
  exact ret false n1 h1' tk1 s1 F1 N1 rfl
theorem Ev.and_t (h1 : Ev w mean mg mb d cn cs a ccd Z m news (fun env => isTrue x env (eval x env)) (Tr true)) (h2 : Ev w mean mg mb d cn cs a ccd Z m news (fun env => isTrue (.BoolOp .And es pos) env (wh env)) (Tr b)) : Ev w mean mg mb d cn cs a ccd Z m news (fun env => isTrue (.BoolOp .And (x :: es) pos) env (wh env)) (Tr b) := by
  intro nw hs dp un gd outer A₀ base h₀ L s Q E hz B F X N T hk hd hu ret
  refine isTrue_and ?_
  refine h1 nw (hs) dp un gd outer A₀ base h₀ L _ _ E hz B F X N T hk hd hu fun c n1 h1' tk1 s1 F1 N1 r1 => ?_
  subst r1
  exact h2 n1 (fun q k => s1 q (hs q k)) dp un gd outer A₀ base h₀ L _ _ E hz B F1 X N1 T hk hd hu fun c n2 h2' tk2 s2 F2 N2 r2 => ret c n2 h2' tk2 (fun q k => s2 q (s1 q k)) F2 N2 r2
theorem Ev.tup {R1 R2 R : Led → Value → Prop} {e1 e2 : PySem.Expr} {k : Nat} {pos : Pos} (u1 : Up R1) (u2 : Up R2) (h1 : Ev w mean mg mb d cn cs a ccd Z m news (eval e1) R1) (h2 : Ev w mean mg mb d cn cs a ccd Z m news (eval e2) R2) (h : ∀ nx, (∀ q ∈ news, q ∈ nx) → ∀ q x y, (q, tup2 x y) ∈ nx → R1 nx x → R2 nx y → R nx (.ref q))
    (hp1 : ∀ L, starEach [e1, e2] (envX cn cs L a ccd []) = (false, eval e1 (envX cn cs L a ccd [])) :: starEach [e2] (envX cn cs L a ccd []) := by exact fun _ => rfl) (hp2 : ∀ L, starEach [e2] (envX cn cs L a ccd []) = (false, eval e2 (envX cn cs L a ccd [])) :: starEach [] (envX cn cs L a ccd []) := by exact fun _ => rfl) : Ev w mean mg mb d cn cs a ccd Z m news (eval (.Tuple [e1, e2] k pos)) R := by
  intro nw hs dp un gd outer A₀ base h₀ L s Q E hz B F X N T hk hd hu ret
  refine Tuple_ (spliced_more ?_ (hp1 L))
  refine h1 nw (hs) dp un gd outer A₀ base h₀ L _ _ E hz B F X N T hk hd hu fun x n1 h1' tk1 s1 F1 N1 r1 => ?_
  refine spliced_more ?_ (hp2 L)
  refine h2 n1 (fun q k => s1 q (hs q k)) dp un gd outer A₀ base h₀ L _ _ E hz B F1 X N1 T hk hd hu fun y n2 h2' tk2 s2 F2 N2 r2 => ?_
  refine spliced_none ?_
  refine kup_newTuple F2 N2 (fun D h3 F3 N3 _ => ?_) (by show 2 ≤ sizeLine; decide +kernel)
  have hin : ∀ q ∈ n2, q ∈ (D, tup2 x y) :: n2 := fun q k => .tail _ k
  exact ret (.ref D) ((D, tup2 x y) :: n2) h3 _ (fun q k => hin q (s2 q (s1 q k))) F3 N3 (h _ (fun q k => hin q (s2 q (s1 q (hs q k)))) D x y (.head _) (u1 _ _ _ r1 (fun q k => hin q (s2 q k))) (u2 _ _ _ r2 hin))
/-- «a and b» as a value, both True -/
theorem Ev.band (h1 : Ev w mean mg mb d cn cs a ccd Z m news (eval e1) (fun _ r => r = .bool true)) (h2 : Ev w mean mg mb d cn cs a ccd Z m news (eval e2) R) : Ev w mean mg mb d cn cs a ccd Z m news (eval (.BoolOp .And [e1, e2] pos)) R := by
  intro nw hs dp un gd outer A₀ base h₀ L s Q E hz B F X N T hk hd hu ret
  refine BoolOp_and ?_
  refine h1 nw (hs) dp un gd outer A₀ base h₀ L _ _ E hz B F X N T hk hd hu fun c n1 h1' tk1 s1 F1 N1 r1 => ?_
  subst r1
  refine wpAny_truthy_bool ?_
  exact BoolOp_one (h2 n1 (fun q k => s1 q (hs q k)) dp un gd outer A₀ base h₀ L _ _ E hz B F1 X N1 T hk hd hu fun c n2 h2' tk2 s2 F2 N2 r2 => ret c n2 h2' tk2 (fun q k => s2 q (s1 q k)) F2 N2 r2)
theorem Ev.if_t {t : PySem.Expr} (ht : Ev w mean mg mb d cn cs a ccd Z m news (fun env => isTrue t env (eval t env)) (Tr true)) (h : Ev w mean mg mb d cn cs a ccd Z m news (eval e1) R) : Ev w mean mg mb d cn cs a ccd Z m news (eval (.IfExp t e1 e2 pos)) R := by
  intro nw hs dp un gd outer A₀ base h₀ L s Q E hz B F X N T hk hd hu ret
  refine IfExp_ ?_
  refine ht nw (hs) dp un gd outer A₀ base h₀ L _ _ E hz B F X N T hk hd hu fun c n1 h1' tk1 s1 F1 N1 r1 => ?_
  subst r1
  exact h n1 (fun q k => s1 q (hs q k)) dp un gd outer A₀ base h₀ L _ _ E hz B F1 X N1 T hk hd hu fun c n2 h2' tk2 s2 F2 N2 r2 => ret c n2 h2' tk2 (fun q k => s2 q (s1 q k)) F2 N2 r2
theorem Ev.if_f {t : PySem.Expr} (ht : Ev w mean mg mb d cn cs a ccd Z m news (fun env => isTrue t env (eval t env)) (Tr false)) (h : Ev w mean mg mb d cn cs a ccd Z m news (eval e2) R) : Ev w mean mg mb d cn cs a ccd Z m news (eval (.IfExp t e1 e2 pos)) R := by
  intro nw hs dp un gd outer A₀ base h₀ L s Q E hz B F X N T hk hd hu ret
  refine IfExp_ ?_
  refine ht nw (hs) dp un gd outer A₀ base h₀ L _ _ E hz B F X N T hk hd hu fun c n1 h1' tk1 s1 F1 N1 r1 => ?_
  subst r1
  exact h n1 (fun q k => s1 q (hs q k)) dp un gd outer A₀ base h₀ L _ _ E hz B F1 X N1 T hk hd hu fun c n2 h2' tk2 s2 F2 N2 r2 => ret c n2 h2' tk2 (fun q k => s2 q (s1 q k)) F2 N2 r2
end
section
variable {R R1 : Led → Value → Prop} {RN RN1 : Led → (Str → Option Value) → Prop} {e t : PySem.Expr} {rest body orelse : List Stmt} {pos p' : Pos} {x : Str}
theorem St.more {ss : List Stmt} {n' : Led} (C : St w mean mg mb d cn cs a ccd Z m news ss RN R) (h : ∀ q ∈ news, q ∈ n') : St w mean mg mb d cn cs a ccd Z m n' ss RN R :=
  fun nw hs => C nw (fun q k => hs q (h q k))
theorem St.nil_ (h : ∀ nx, (∀ q ∈ news, q ∈ nx) → RN nx m) : St w mean mg mb d cn cs a ccd Z m news [] RN R := by
  intro nw hs dp un gd outer A₀ base h₀ L s Q E hz B F X N T hk hd hu next ret
  exact wpAny_execs_nil (next nw m s.heap s.toks (fun q k => k) F N (h nw hs))
theorem St.ret_ (h1 : Ev w mean mg mb d cn cs a ccd Z m news (eval e) R) : St w mean mg mb d cn cs a ccd Z m news (.Return (some e) pos :: rest) RN R := by
  intro nw hs dp un gd outer A₀ base h₀ L s Q E hz B F X N T hk hd hu next ret
  refine wpAny_execs_cons (wpAny_Return_some ?_)
  exact h1 nw (hs) dp un gd outer A₀ base h₀ L _ _ E hz B F X N T hk hd hu fun c n1 h1' tk1 s1 F1 N1 r1 => ret c n1 m h1' tk1 s1 F1 N1 r1
theorem St.asg (h1 : Ev w mean mg mb d cn cs a ccd Z m news (eval e) R1) (h2 : ∀ nx, (∀ q ∈ news, q ∈ nx) → ∀ v, R1 nx v → St w mean mg mb d cn cs a ccd Z (fun y => if y = x then some v else m y) nx rest RN R)
    (hx : ∀ L, (envX cn cs L a ccd []).kindOf x = some .local := by exact fun _ => rfl) (hsw : ∀ L, swapsWith e (some (.Name x p')) pos.line (envX cn cs L a ccd []) = pure false := by exact fun _ => rfl) : St w mean mg mb d cn cs a ccd Z m news (.Assign [.Name x p'] e pos :: rest) RN R := by
  intro nw hs dp un gd outer A₀ base h₀ L s Q E hz B F X N T hk hd hu next ret
  refine wpAny_execs_cons (wpAny_Assign_Name ?_ (hsw L))
  refine h1 nw (hs) dp un gd outer A₀ base h₀ L _ _ E hz B F X N T hk hd hu fun v n1 h1' tk1 s1 F1 N1 r1 => ?_
  refine storeX_L F1 N1 (fun h2' F2 N2 => ?_) hk (hx L)
  exact h2 n1 (fun q k => s1 q (hs q k)) v r1 n1 (fun q k => k) dp un gd outer A₀ base h₀ L _ _ E hz B F2 X N2 T hk hd hu (fun nx m' h3 tk3 s3 F3 N3 r3 => next nx m' h3 tk3 (fun q k => s3 q (s1 q k)) F3 N3 r3) fun r nx m' h3 tk3 s3 F3 N3 r3 => ret r nx m' h3 tk3 (fun q k => s3 q (s1 q k)) F3 N3 r3
theorem St.unp {t : Addr} {y v : Str} {v1 v2 : Value} {p1 p2 p3 tp : Pos} {k : Nat} (hv : m v = some (.ref t)) (ht : (t, tup2 v1 v2) ∈ news) (h2 : St w mean mg mb d cn cs a ccd Z (fun z => if z = y then some v2 else if z = x then some v1 else m z) news rest RN R)
    (hxv : ∀ L, (envX cn cs L a ccd []).kindOf v = some .local := by exact fun _ => rfl) (hdb : (v == ("__debug__" : Str)) = false := by decide) (hx : ∀ L, (envX cn cs L a ccd []).kindOf x = some .local := by exact fun _ => rfl) (hy : ∀ L, (envX cn cs L a ccd []).kindOf y = some .local := by exact fun _ => rfl)
    (h3 : ∀ L, swapsWithSole [.Tuple [.Name x p1, .Name y p2] k tp] (.Name v p3) pos.line (envX cn cs L a ccd []) = pure false := by exact fun _ => rfl) (h4 : ∀ L, swappedStores [.Tuple [.Name x p1, .Name y p2] k tp] (.Name v p3) (envX cn cs L a ccd []) = pure none := by exact fun _ => rfl) : St w mean mg mb d cn cs a ccd Z m news (.Assign [.Tuple [.Name x p1, .Name y p2] k tp] (.Name v p3) pos :: rest) RN R := by
  intro nw hs dp un gd outer A₀ base h₀ L s Q E hz B F X N T hk hd hu next ret
  refine wpAny_execs_cons (Assign_Tuple ?_ (h3 L) (h4 L))
  refine nameX_L F hv ?_ hk (hxv L) hdb
  refine unpackN_ F N (N.isTup (hs _ ht)) rfl rfl rfl fun h1' F1 N1 => ?_
  refine assignInOrder_cons (wpAny_assign_Name ?_)
  refine storeX_L F1 N1 (fun h2' F2 N2 => ?_) hk (hx L)
  refine assignInOrder_cons (wpAny_assign_Name ?_)
  refine storeX_L F2 N2 (fun h3' F3 N3 => ?_) hk (hy L)
  refine assignInOrder_nil ?_
  exact h2 nw hs dp un gd outer A₀ base h₀ L _ _ E hz B F3 X N3 T hk hd hu (fun nx m' h3 tk3 s3 F3 N3 r3 => next nx m' h3 tk3 s3 F3 N3 r3) fun r nx m' h3 tk3 s3 F3 N3 r3 => ret r nx m' h3 tk3 s3 F3 N3 r3
theorem St.asg2 {R2 : Led → Value → Prop} {e2 : PySem.Expr} {y : Str} {p1 p2 p3 tp : Pos} {k k2 : Nat} (u1 : Up R1) (u2 : Up R2) (h1 : Ev w mean mg mb d cn cs a ccd Z m news (eval e) R1) (he2 : Ev w mean mg mb d cn cs a ccd Z m news (eval e2) R2)
    (h2 : ∀ nx, (∀ q ∈ news, q ∈ nx) → ∀ v1 v2, R1 nx v1 → R2 nx v2 → St w mean mg mb d cn cs a ccd Z (fun z => if z = x then some v1 else if z = y then some v2 else m z) nx rest RN R)
    (hp1 : ∀ L, starEach [e, e2] (envX cn cs L a ccd []) = (false, eval e (envX cn cs L a ccd [])) :: starEach [e2] (envX cn cs L a ccd []) := by exact fun _ => rfl) (hp2 : ∀ L, starEach [e2] (envX cn cs L a ccd []) = (false, eval e2 (envX cn cs L a ccd [])) :: starEach [] (envX cn cs L a ccd []) := by exact fun _ => rfl)
    (hx : ∀ L, (envX cn cs L a ccd []).kindOf x = some .local := by exact fun _ => rfl) (hy : ∀ L, (envX cn cs L a ccd []).kindOf y = some .local := by exact fun _ => rfl)
    (h3 : ∀ L, swapsWithSole [.Tuple [.Name x p1, .Name y p2] k tp] (.Tuple [e, e2] k2 p3) pos.line (envX cn cs L a ccd []) = pure false := by exact fun _ => rfl) (h4 : ∀ L, swappedStores [.Tuple [.Name x p1, .Name y p2] k tp] (.Tuple [e, e2] k2 p3) (envX cn cs L a ccd []) = pure (some [x, y]) := by exact fun _ => rfl) : St w mean mg mb d cn cs a ccd Z m news (.Assign [.Tuple [.Name x p1, .Name y p2] k tp] (.Tuple [e, e2] k2 p3) pos :: rest) RN R := by
  intro nw hs dp un gd outer A₀ base h₀ L s Q E hz B F X N T hk hd hu next ret
  refine wpAny_execs_cons (Assign_Tuple_swapped ?_ (h3 L) (h4 L))
  refine (Ev.tup (R := fun nx r => ∃ q x y, r = .ref q ∧ (q, tup2 x y) ∈ nx ∧ R1 nx x ∧ R2 nx y) u1 u2 h1 he2 (fun nx hn q x y k1 k2 k3 => ⟨q, x, y, rfl, k1, k2, k3⟩) hp1 hp2) nw (hs) dp un gd outer A₀ base h₀ L _ _ E hz B F X N T hk hd hu fun v n1 h1' tk1 s1 F1 N1 r1 => ?_
  obtain ⟨q, v1, v2, rfl, hq, r1, r2⟩ := r1
  refine unpackItemsN_ F1 N1 (N1.isTup hq) rfl rfl fun h1' F1 N1 => ?_
  refine assignInOrder_cons (wpAny_bindName ?_)
  refine storeX_L F1 N1 (fun h2' F2 N2 => ?_) hk (hy L)
  refine assignInOrder_cons (wpAny_bindName ?_)
  refine storeX_L F2 N2 (fun h3' F3 N3 => ?_) hk (hx L)
  refine assignInOrder_nil ?_
  exact h2 n1 (fun q k => s1 q (hs q k)) v1 v2 r1 r2 n1 (fun q k => k) dp un gd outer A₀ base h₀ L _ _ E hz B F3 X N3 T hk hd hu (fun nx m' h3 tk3 s3 F3 N3 r3 => next nx m' h3 tk3 (fun q k => s3 q (s1 q k)) F3 N3 r3) fun r nx m' h3 tk3 s3 F3 N3 r3 => ret r nx m' h3 tk3 (fun q k => s3 q (s1 q k)) F3 N3 r3
theorem St.if_ {b : Bool} (ht : Ev w mean mg mb d cn cs a ccd Z m news (fun env => isTrue t env (eval t env)) (Tr b)) (h1 : St w mean mg mb d cn cs a ccd Z m news (if b then body else orelse) RN1 R) (h2 : ∀ nx, (∀ q ∈ news, q ∈ nx) → ∀ m', RN1 nx m' → St w mean mg mb d cn cs a ccd Z m' nx rest RN R) : St w mean mg mb d cn cs a ccd Z m news (.If t body orelse pos :: rest) RN R := by
  intro nw hs dp un gd outer A₀ base h₀ L s Q E hz B F X N T hk hd hu next ret
  refine wpAny_execs_cons (wpAny_If ?_)
  refine ht nw (hs) dp un gd outer A₀ base h₀ L _ _ E hz B F X N T hk hd hu fun c n1 h1' tk1 s1 F1 N1 r1 => ?_
  subst r1
  have key := h1 n1 (fun q k => s1 q (hs q k)) dp un gd outer A₀ base h₀ L { s with heap := h1', toks := tk1 } (fun f s' => match f with | .next => wpAny (model Challenge.rw_lh0027_01.row.prog w) (ktrTop dp un gd cn cs L a ccd [] outer) (execs rest (envX cn cs L a ccd [])) Q E s' | f => Q f s') E hz B F1 X N1 T hk hd hu
    (fun nx m' h3 tk3 s3 F3 N3 r3 => h2 nx (fun q k => s3 q (s1 q (hs q k))) m' r3 nx (fun q k => k) dp un gd outer A₀ base h₀ L _ _ E hz B F3 X N3 T hk hd hu (fun nx' m' h4 tk4 s4 F4 N4 r4 => next nx' m' h4 tk4 (fun q k => s4 q (s3 q (s1 q k))) F4 N4 r4) fun r nx' m' h4 tk4 s4 F4 N4 r4 => ret r nx' m' h4 tk4 (fun q k => s4 q (s3 q (s1 q k))) F4 N4 r4)
    (fun r nx m' h3 tk3 s3 F3 N3 r3 => ret r nx m' h3 tk3 (fun q k => s3 q (s1 q k)) F3 N3 r3)
  cases c
  · exact key
  · exact key
/-- the body hands back -/
theorem St.ifT (ht : Ev w mean mg mb d cn cs a ccd Z m news (fun env => isTrue t env (eval t env)) (Tr true)) (h1 : St w mean mg mb d cn cs a ccd Z m news body No R) : St w mean mg mb d cn cs a ccd Z m news (.If t body orelse pos :: rest) RN R :=
  St.if_ (b := true) (RN1 := No) ht h1 fun _ _ _ h => h.elim
theorem St.ifF (ht : Ev w mean mg mb d cn cs a ccd Z m news (fun env => isTrue t env (eval t env)) (Tr false)) (h1 : St w mean mg mb d cn cs a ccd Z m news rest RN R) : St w mean mg mb d cn cs a ccd Z m news (.If t body [] pos :: rest) RN R :=
  St.if_ (b := false) (RN1 := fun nx m' => m' = m ∧ ∀ q ∈ news, q ∈ nx) ht (St.nil_ fun nx h => ⟨rfl, h⟩) fun nx _ m' h => by obtain ⟨rfl, k⟩ := h; exact h1.more k
end
end

theorem fq_up {w : World} {p u : Int} : Up (FqR w p u) := fun n n' v h hs => by
  obtain ⟨z, e, k⟩ := h
  exact ⟨z, e, k.sub hs⟩
theorem is_up {v : Value} : Up (Is v) := fun n n' v h hs => h
theorem int_up {i : Int} : Up (fun (_ : Led) (r : Value) => ∃ t, r = .int i t) := fun n n' v h hs => h
theorem fpt_up {w : World} {p : Int} {o : Option (Int × Int)} : Up (fun nx r => FPt w nx p r o) := fun n n' v h hs => h.sub hs
theorem ipt_up {p : Int} {o : Option (Int × Int)} : Up (fun nx r => IPt nx p r o) := fun n n' v h hs => h.sub hs
section
variable {w : World} {mean : ExcName → Option Value} {mg mb : Str → Option Value} {d : Nat} {cn : Str} {cs : Scope} {a : Addr} {ccd : Value} {Z : Heap → Prop} {m : Str → Option Value} {news : Led} {e1 e2 : PySem.Expr} {pos : Pos} {p u v : Int} (hd : 14 ≤ d) (hpr : Pr p)
include hd
theorem Sf.loc {x : Str} {z : Addr} (hv : m x = some (.ref z)) (hr : Fq w news z p u) (hx : ∀ L, (envX cn cs L a ccd []).kindOf x = some .local := by exact fun _ => rfl) (hdb : (x == ("__debug__" : Str)) = false := by decide) : Ev w mean mg mb d cn cs a ccd Z m news (eval (.Name x pos)) (FqR w p u) :=
  Ev.loc hv ⟨z, rfl, hr⟩ fq_up hx hdb
theorem Sf.bin {op : Operator} {c : Int} (C : ∀ {nx : Led} {x y : Addr}, Fq w nx x p u → Fq w nx y p v → Con w mean mg mb 10 80 nx (binaryOp op (.ref x) (.ref y)) (FqOut w p c)) (h1 : Ev w mean mg mb d cn cs a ccd Z m news (eval e1) (FqR w p u)) (h2 : Ev w mean mg mb d cn cs a ccd Z m news (eval e2) (FqR w p v)) : Ev w mean mg mb d cn cs a ccd Z m news (eval (.BinOp e1 op e2 pos)) (FqR w p c) :=
  Ev.bin (dC := 10) (uC := 80) (by omega) (by omega) fq_up h1 h2 fun nx hs x y hx hy => by
    obtain ⟨x, rfl, hx⟩ := hx
    obtain ⟨y, rfl, hy⟩ := hy
    exact (C hx hy).mono (fun nx r h => by obtain ⟨z, c', e, k, rfl⟩ := h; exact ⟨z, e, k⟩) (Nat.le_refl _) (Nat.le_refl _)
theorem Sf.int {op : Operator} {c i : Int} {k} {p0 : Pos} (C : ∀ {nx : Led} {x : Addr} {t : Tok}, Fq w nx x p u → Con w mean mg mb 14 120 nx (binaryOp op (.ref x) (.int i t)) (FqOut w p c)) (h1 : Ev w mean mg mb d cn cs a ccd Z m news (eval e1) (FqR w p u)) : Ev w mean mg mb d cn cs a ccd Z m news (eval (.BinOp e1 op (.Constant (.int i) k p0) pos)) (FqR w p c) :=
  Ev.bin (dC := 14) (uC := 120) (by omega) (by omega) fq_up h1 Ev.int_ fun nx hs x y hx hy => by
    obtain ⟨x, rfl, hx⟩ := hx
    obtain ⟨t, rfl⟩ := hy
    exact (C hx).mono (fun nx r h => by obtain ⟨z, c', e, k, rfl⟩ := h; exact ⟨z, e, k⟩) (Nat.le_refl _) (Nat.le_refl _)
include hpr
theorem Sf.add (h1 : Ev w mean mg mb d cn cs a ccd Z m news (eval e1) (FqR w p u)) (h2 : Ev w mean mg mb d cn cs a ccd Z m news (eval e2) (FqR w p v)) : Ev w mean mg mb d cn cs a ccd Z m news (eval (.BinOp e1 .Add e2 pos)) (FqR w p ((u + v) % p)) := Sf.bin hd (fun k1 k2 => d_add hpr k1 k2) h1 h2
theorem Sf.sub (h1 : Ev w mean mg mb d cn cs a ccd Z m news (eval e1) (FqR w p u)) (h2 : Ev w mean mg mb d cn cs a ccd Z m news (eval e2) (FqR w p v)) : Ev w mean mg mb d cn cs a ccd Z m news (eval (.BinOp e1 .Sub e2 pos)) (FqR w p ((u - v) % p)) := Sf.bin hd (fun k1 k2 => d_sub hpr k1 k2) h1 h2
theorem Sf.mul (h1 : Ev w mean mg mb d cn cs a ccd Z m news (eval e1) (FqR w p u)) (h2 : Ev w mean mg mb d cn cs a ccd Z m news (eval e2) (FqR w p v)) : Ev w mean mg mb d cn cs a ccd Z m news (eval (.BinOp e1 .Mult e2 pos)) (FqR w p ((u * v) % p)) := Sf.bin hd (fun k1 k2 => d_mul hpr k1 k2) h1 h2
theorem Sf.div (h1 : Ev w mean mg mb d cn cs a ccd Z m news (eval e1) (FqR w p u)) (h2 : Ev w mean mg mb d cn cs a ccd Z m news (eval e2) (FqR w p v)) : Ev w mean mg mb d cn cs a ccd Z m news (eval (.BinOp e1 .Div e2 pos)) (FqR w p ((u * iv p v) % p)) := Sf.bin hd (fun k1 k2 => d_div hpr k1 k2) h1 h2
theorem Sf.pow2 {k} {p0 : Pos} (h1 : Ev w mean mg mb d cn cs a ccd Z m news (eval e1) (FqR w p u)) : Ev w mean mg mb d cn cs a ccd Z m news (eval (.BinOp e1 .Pow (.Constant (.int 2) k p0) pos)) (FqR w p ((u * u) % p)) := Sf.int hd (fun k1 => d_pow2 hpr k1) h1
theorem Sf.pow3 {k} {p0 : Pos} (h1 : Ev w mean mg mb d cn cs a ccd Z m news (eval e1) (FqR w p u)) : Ev w mean mg mb d cn cs a ccd Z m news (eval (.BinOp e1 .Pow (.Constant (.int 3) k p0) pos)) (FqR w p ((u * u % p * u) % p)) := Sf.int hd (fun k1 => d_pow3 hpr k1) h1
theorem Sf.rmul {i : Int} {k} {p0 : Pos} (hi : 0 ≤ i ∧ i < 10) (h1 : Ev w mean mg mb d cn cs a ccd Z m news (eval e1) (FqR w p u)) : Ev w mean mg mb d cn cs a ccd Z m news (eval (.BinOp (.Constant (.int i) k p0) .Mult e1 pos)) (FqR w p ((u * i) % p)) :=
  Ev.bin (dC := 10) (uC := 80) (by omega) (by omega) int_up Ev.int_ h1 fun nx hs x y hy hx => by
    obtain ⟨x, rfl, hx⟩ := hx
    obtain ⟨t, rfl⟩ := hy
    exact (d_rmul hpr hx hi).mono (fun nx r h => by obtain ⟨z, c', e, k, rfl⟩ := h; exact ⟨z, e, k⟩) (Nat.le_refl _) (Nat.le_refl _)
theorem Sf.neg (h1 : Ev w mean mg mb d cn cs a ccd Z m news (eval e1) (FqR w p u)) : Ev w mean mg mb d cn cs a ccd Z m news (eval (.UnaryOp .USub e1 pos)) (FqR w p ((-u) % p)) :=
  Ev.una (dC := 10) (uC := 80) (by omega) (by omega) h1 fun nx hs x hx => by
    obtain ⟨x, rfl, hx⟩ := hx
    exact (d_neg hpr hx).mono (fun nx r h => by obtain ⟨z, c', e, k, rfl⟩ := h; exact ⟨z, e, k⟩) (Nat.le_refl _) (Nat.le_refl _)
omit hpr
theorem Sf.eq (h1 : Ev w mean mg mb d cn cs a ccd Z m news (eval e1) (FqR w p u)) (h2 : Ev w mean mg mb d cn cs a ccd Z m news (eval e2) (FqR w p v)) {b : Bool} (e : (u == v) = b) (hm : behindInMarks .Eq e2 = false := by with_unfolding_all rfl) {wh : Env → Sem Value} : Ev w mean mg mb d cn cs a ccd Z m news (fun env => isTrue (.Compare e1 [.Eq] [e2] pos) env (wh env)) (Tr b) :=
  Ev.tcmp (dC := 10) (uC := 80) (by omega) (by omega) fq_up h1 h2 (fun nx hs x y hx hy => by
    obtain ⟨x, rfl, hx⟩ := hx
    obtain ⟨y, rfl, hy⟩ := hy
    exact (d_eq hx hy).mono (fun nx r h => by rw [h, e]) (Nat.le_refl _) (Nat.le_refl _)) hm
theorem Sf.eqv (h1 : Ev w mean mg mb d cn cs a ccd Z m news (eval e1) (FqR w p u)) (h2 : Ev w mean mg mb d cn cs a ccd Z m news (eval e2) (FqR w p v)) (hm : behindInMarks .Eq e2 = false := by with_unfolding_all rfl) : Ev w mean mg mb d cn cs a ccd Z m news (eval (.Compare e1 [.Eq] [e2] pos)) (Is (.bool (u == v))) :=
  Ev.cmp (dC := 10) (uC := 80) (by omega) (by omega) fq_up h1 h2 (fun nx hs x y hx hy => by
    obtain ⟨x, rfl, hx⟩ := hx
    obtain ⟨y, rfl, hy⟩ := hy
    exact (d_eq hx hy).mono (fun nx r h => h) (Nat.le_refl _) (Nat.le_refl _)) hm
end



theorem f_isI {w : World} {mean} {mg mb} {news : Led} {p : Int} {v : Value} {o : Option (Int × Int)} (hv : IPt news p v o) :
    Con w mean mg mb 10 100 news (compareOp .Is v .none) (fun nx r => r = .bool (o.isNone)) := by
  match o with
  | none =>
    have e : v = .none := hv
    subst e
    k_with_none
    unfold Con
    k_fill
    w_on
    intro dp un gd cn cs a ccd cl outer A₀ base h₀ L m s Q E B F X N T hk hd hu ret
    obtain ⟨ck, cnm, cg, cc, cmr⟩ := cs
    dsimp only at hk; subst hk
    k_steps
    all_goals (exact ret _ [] _ _ (by assumption) (by assumption) rfl)
  | some (x1, y1) =>
    obtain ⟨⟨q, t, u, e, hq⟩, hx, hy⟩ := hv
    subst e
    k_with_none
    unfold Con
    k_fill
    w_on
    intro dp un gd cn cs a ccd cl outer A₀ base h₀ L m s Q E B F X N T hk hd hu ret
    obtain ⟨ck, cnm, cg, cc, cmr⟩ := cs
    dsimp only at hk; subst hk
    k_steps
    all_goals (exact ret _ [] _ _ (by assumption) (by assumption) rfl)

theorem f_isIn {w : World} {mean} {mg mb} {news : Led} {p : Int} {v : Value} {o : Option (Int × Int)} (hv : IPt news p v o) :
    Con w mean mg mb 10 100 news (compareOp .IsNot v .none) (fun nx r => r = .bool (!o.isNone)) := by
  match o with
  | none =>
    have e : v = .none := hv
    subst e
    k_with_none
    unfold Con
    k_fill
    w_on
    intro dp un gd cn cs a ccd cl outer A₀ base h₀ L m s Q E B F X N T hk hd hu ret
    obtain ⟨ck, cnm, cg, cc, cmr⟩ := cs
    dsimp only at hk; subst hk
    k_steps
    all_goals (exact ret _ [] _ _ (by assumption) (by assumption) rfl)
  | some (x1, y1) =>
    obtain ⟨⟨q, t, u, e, hq⟩, hx, hy⟩ := hv
    subst e
    k_with_none
    unfold Con
    k_fill
    w_on
    intro dp un gd cn cs a ccd cl outer A₀ base h₀ L m s Q E B F X N T hk hd hu ret
    obtain ⟨ck, cnm, cg, cc, cmr⟩ := cs
    dsimp only at hk; subst hk
    k_steps
    all_goals (exact ret _ [] _ _ (by assumption) (by assumption) rfl)

theorem f_isF {w : World} {mean} {mg mb} {news : Led} {p : Int} {v : Value} {o : Option (Int × Int)} (hv : FPt w news p v o) :
    Con w mean mg mb 10 100 news (compareOp .Is v .none) (fun nx r => r = .bool (o.isNone)) := by
  match o with
  | none =>
    have e : v = .none := hv
    subst e
    k_with_none
    unfold Con
    k_fill
    w_on
    intro dp un gd cn cs a ccd cl outer A₀ base h₀ L m s Q E B F X N T hk hd hu ret
    obtain ⟨ck, cnm, cg, cc, cmr⟩ := cs
    dsimp only at hk; subst hk
    k_steps
    all_goals (exact ret _ [] _ _ (by assumption) (by assumption) rfl)
  | some (x1, y1) =>
    obtain ⟨q, x, y, e, hq, hx, hy⟩ := hv
    subst e
    k_with_none
    unfold Con
    k_fill
    w_on
    intro dp un gd cn cs a ccd cl outer A₀ base h₀ L m s Q E B F X N T hk hd hu ret
    obtain ⟨ck, cnm, cg, cc, cmr⟩ := cs
    dsimp only at hk; subst hk
    k_steps
    all_goals (exact ret _ [] _ _ (by assumption) (by assumption) rfl)

section
variable {w : World} {mean : ExcName → Option Value} {mg mb : Str → Option Value} {d : Nat} {cn : Str} {cs : Scope} {a : Addr} {ccd : Value} {Z : Heap → Prop} {m : Str → Option Value} {news : Led} {e1 : PySem.Expr} {pos p2 : Pos} {p : Int} {k : Nat} {o : Option (Int × Int)} (hd : 10 ≤ d)
include hd
theorem Ev.isF (h1 : Ev w mean mg mb d cn cs a ccd Z m news (eval e1) (fun nx r => FPt w nx p r o)) : Ev w mean mg mb d cn cs a ccd Z m news (eval (.Compare e1 [.Is] [.Constant .none k p2] pos)) (Is (.bool o.isNone)) :=
  Ev.cmp (dC := 10) (uC := 100) (by omega) (by omega) fpt_up h1 Ev.none_ fun nx hs x y hx hy => by subst hy; exact f_isF hx
theorem Ev.tisF {wh : Env → Sem Value} (h1 : Ev w mean mg mb d cn cs a ccd Z m news (eval e1) (fun nx r => FPt w nx p r o)) : Ev w mean mg mb d cn cs a ccd Z m news (fun env => isTrue (.Compare e1 [.Is] [.Constant .none k p2] pos) env (wh env)) (Tr o.isNone) :=
  Ev.tcmp (dC := 10) (uC := 100) (by omega) (by omega) fpt_up h1 Ev.none_ fun nx hs x y hx hy => by subst hy; exact f_isF hx
end
theorem val_done {h₀ h' : Heap} {L : Addr} {m : Str → Option Value} {news nx : Led} {s : Shared} {Q : Value → Shared → Prop} {r v : Value} {tk' : Nat} (ret : ∀ r tl h' tk', Fr h₀ L h' m → News h₀ L h' (tl ++ news) → r = v → Q r { s with heap := h', toks := tk' }) (F : Fr h₀ L h' m) (N : News h₀ L h' nx) (hs : ∀ q ∈ news, q ∈ nx) (h : r = v) : Q r { s with heap := h', toks := tk' } :=
  con_done (R := fun _ r => r = v) ret F N hs h

theorem e_inf {w : World} {mean} {mg mb} {news : Led} {p : Int} {v : Value} {o : Option (Int × Int)} (hv : FPt w news p v o) : Con w mean mg mb 15 150 news (call (.ref 28) [v]) (fun nx r => r = .bool o.isNone) := by
  k_with_none
  unfold Con
  k_fill
  w_on
  intro dp un gd cn cs a ccd cl outer A₀ base h₀ L m s Q E B F X N T hk hd hu ret
  obtain ⟨ck, cnm, cg, cc, cmr⟩ := cs
  dsimp only at hk; subst hk
  k_with "execs cons" => (
    (with_reducible show wpAny _ _ (execs [_] _) _ _ _)
    k_dflt (
      refine' St.use (d := 14) (Z := fun _ => True) (R := Is (.bool o.isNone)) ?uz9 ?uB9 ?uF9 ?uX9 ?uN9 ?uT9 ?uk9 ?uC9 ?ud9 ?uu9 ?_
      (case uB9 => k_asm); (case uF9 => k_asm); (case uX9 => k_asm); (case uN9 => k_asm); (case uT9 => k_asm); (case uk9 => rfl); (case uz9 => exact True.intro)
      (case uC9 =>
        exact St.ret_ (Ev.isF (by decide) (Ev.loc rfl hv fpt_up)))
      (case ud9 => k_room); (case uu9 => k_units); k_whole
      intro r' nx' m' h' tk' s' F' N' hR'
      (try dsimp only)
      (try k_fold)))
  k_steps
  all_goals exact val_done ret (by assumption) (by assumption) (by assumption) (by assumption)

theorem g28 (w : World) : nsIn (hd.heap_39 w.params) mainGlobals (Str.ofString "is_inf") = some (some (.ref 28)) := by k_is
theorem k28 (w : World) : keepIn (hd.heap_39 w.params) (.ref 28) = true := by k_is
theorem g35 (w : World) : nsIn (hd.heap_39 w.params) mainGlobals (Str.ofString "is_on_curve") = some (some (.ref 35)) := by k_is
theorem k35 (w : World) : keepIn (hd.heap_39 w.params) (.ref 35) = true := by k_is
theorem g42 (w : World) : nsIn (hd.heap_39 w.params) mainGlobals (Str.ofString "double") = some (some (.ref 42)) := by k_is
theorem k42 (w : World) : keepIn (hd.heap_39 w.params) (.ref 42) = true := by k_is
theorem g49 (w : World) : nsIn (hd.heap_39 w.params) mainGlobals (Str.ofString "add") = some (some (.ref 49)) := by k_is
theorem k49 (w : World) : keepIn (hd.heap_39 w.params) (.ref 49) = true := by k_is
theorem g56 (w : World) : nsIn (hd.heap_39 w.params) mainGlobals (Str.ofString "neg") = some (some (.ref 56)) := by k_is
theorem k56 (w : World) : keepIn (hd.heap_39 w.params) (.ref 56) = true := by k_is
theorem g206 (w : World) : nsIn (hd.heap_39 w.params) mainGlobals (Str.ofString "FQ") = some (some (.ref 206)) := by k_is
theorem k206 (w : World) : keepIn (hd.heap_39 w.params) (.ref 206) = true := by k_is
theorem g231 (w : World) : nsIn (hd.heap_39 w.params) mainGlobals (Str.ofString "_law_curve") = some (some (.ref 231)) := by k_is
theorem k231 (w : World) : keepIn (hd.heap_39 w.params) (.ref 231) = true := by k_is
theorem g238 (w : World) : nsIn (hd.heap_39 w.params) mainGlobals (Str.ofString "_law_point") = some (some (.ref 238)) := by k_is
theorem k238 (w : World) : keepIn (hd.heap_39 w.params) (.ref 238) = true := by k_is
theorem g245 (w : World) : nsIn (hd.heap_39 w.params) mainGlobals (Str.ofString "_law_minus") = some (some (.ref 245)) := by k_is
theorem k245 (w : World) : keepIn (hd.heap_39 w.params) (.ref 245) = true := by k_is
theorem g252 (w : World) : nsIn (hd.heap_39 w.params) mainGlobals (Str.ofString "_law_sum") = some (some (.ref 252)) := by k_is
theorem k252 (w : World) : keepIn (hd.heap_39 w.params) (.ref 252) = true := by k_is
theorem g259 (w : World) : nsIn (hd.heap_39 w.params) mainGlobals (Str.ofString "_law_made") = some (some (.ref 259)) := by k_is
theorem k259 (w : World) : keepIn (hd.heap_39 w.params) (.ref 259) = true := by k_is
theorem g266 (w : World) : nsIn (hd.heap_39 w.params) mainGlobals (Str.ofString "_law_told") = some (some (.ref 266)) := by k_is
theorem k266 (w : World) : keepIn (hd.heap_39 w.params) (.ref 266) = true := by k_is

theorem Ev.inf {w : World} {mean : ExcName → Option Value} {mg mb : Str → Option Value} {d : Nat} {cn : Str} {cs : Scope} {a : Addr} {ccd : Value} {Z : Heap → Prop} {m : Str → Option Value} {news : Led} {e1 : PySem.Expr} {pos fp : Pos} {p : Int} {o : Option (Int × Int)} (hd : 15 ≤ d) (h1 : Ev w mean mg mb d cn cs a ccd Z m news (eval e1) (fun nx r => FPt w nx p r o))
    (hx : ∀ L, (envX cn cs L a ccd []).kindOf (Str.ofString "is_inf") = some .globalImplicit := by exact fun _ => rfl) (hp1 : ∀ L, starEach [e1] (envX cn cs L a ccd []) = (false, eval e1 (envX cn cs L a ccd [])) :: starEach [] (envX cn cs L a ccd []) := by exact fun _ => rfl) :
    Ev w mean mg mb d cn cs a ccd Z m news (eval (.Call (.Name (Str.ofString "is_inf") fp) [e1] [] pos)) (Is (.bool o.isNone)) :=
  Ev.call1 (dC := 15) (uC := 150) (by omega) (by omega) (g28 w) (k28 w) hx (by decide) h1 (fun nx hs x h => e_inf h) hp1



abbrev FPR (w : World) (p : Int) (o : Option (Int × Int)) : Led → Value → Prop := fun nx r => FPt w nx p r o
abbrev IPR (p : Int) (o : Option (Int × Int)) : Led → Value → Prop := fun nx r => IPt nx p r o
abbrev IntR (i : Int) : Led → Value → Prop := fun _ r => ∃ t, r = .int i t
theorem f_eqint {w : World} {mean} {mg mb} {news : Led} {x y : Int} {t u : Tok} : Con w mean mg mb 10 100 news (compareOp .Eq (.int x t) (.int y u)) (fun nx r => r = .bool (x == y)) := by
  intro dp un gd cn cs a ccd cl outer A₀ base h₀ L m s Q E B F X N T hk hd hu ret
  exact eq_int (ret _ [] _ _ F N rfl)
theorem f_addint {w : World} {mean} {mg mb} {news : Led} {x y : Int} {t u : Tok} : Con w mean mg mb 10 100 news (binaryOp .Add (.int x t) (.int y u)) (IntR (x + y)) := by
  intro dp un gd cn cs a ccd cl outer A₀ base h₀ L m s Q E B F X N T hk hd hu ret
  exact add_int (ret _ [] _ _ F N ⟨_, rfl⟩)
theorem f_subint {w : World} {mean} {mg mb} {news : Led} {x y : Int} {t u : Tok} : Con w mean mg mb 10 100 news (binaryOp .Sub (.int x t) (.int y u)) (IntR (x - y)) := by
  intro dp un gd cn cs a ccd cl outer A₀ base h₀ L m s Q E B F X N T hk hd hu ret
  exact sub_int (ret _ [] _ _ F N ⟨_, rfl⟩)
theorem f_mulint {w : World} {mean} {mg mb} {news : Led} {x y : Int} {t u : Tok} (hy : -4611686018427387904 < y ∧ y < 4611686018427387904) : Con w mean mg mb 10 100 news (binaryOp .Mult (.int x t) (.int y u)) (IntR (x * y)) := by
  intro dp un gd cn cs a ccd cl outer A₀ base h₀ L m s Q E B F X N T hk hd hu ret
  exact mul_int (ret _ [] _ _ F N ⟨_, rfl⟩) (IntMulOk.of_right (intBits_le_64 (by omega) (by omega)))
theorem f_modint {w : World} {mean} {mg mb} {news : Led} {x y : Int} {t u : Tok} (hy : y ≠ 0) : Con w mean mg mb 10 100 news (binaryOp .Mod (.int x t) (.int y u)) (IntR (x.fmod y)) := by
  intro dp un gd cn cs a ccd cl outer A₀ base h₀ L m s Q E B F X N T hk hd hu ret
  exact mod_int' hy (ret _ [] _ _ F N ⟨_, rfl⟩)
theorem true_ {w : World} {mean : ExcName → Option Value} {mg mb : Str → Option Value} {d : Nat} {cn : Str} {cs : Scope} {a : Addr} {ccd : Value} {Z : Heap → Prop} {m : Str → Option Value} {news : Led} {pos : Pos} {c : Bool} {k} : Ev w mean mg mb d cn cs a ccd Z m news (eval (.Constant (.bool c) k pos)) (Is (.bool c)) := by
  intro nw hs dp un gd outer A₀ base h₀ L s Q E hz B F X N T hk hd hu ret
  exact Constant_bool (ret _ nw s.heap s.toks (fun q k => k) F N rfl)
theorem bool_done {h₀ h' : Heap} {L : Addr} {m : Str → Option Value} {news nx : Led} {s : Shared} {Q : Value → Shared → Prop} {tk' : Nat} {a c : Bool} (ret : ∀ r tl h' tk', Fr h₀ L h' m → News h₀ L h' (tl ++ news) → r = .bool a → Q r { s with heap := h', toks := tk' }) (F : Fr h₀ L h' m) (N : News h₀ L h' nx) (hs : ∀ q ∈ news, q ∈ nx) (h : c = a) : Q (.bool c) { s with heap := h', toks := tk' } :=
  con_done (R := fun _ r => r = .bool a) ret F N hs (by rw [h])
theorem f_eqtup {w : World} {mean} {mg mb} {news : Led} {q q' : Addr} {x1 y1 x2 y2 : Int} {t u t' u' : Tok} (hq : (q, tup2 (.int x1 t) (.int y1 u)) ∈ news) (hq' : (q', tup2 (.int x2 t') (.int y2 u')) ∈ news) :
    Con w mean mg mb 15 150 news (compareOp .Eq (.ref q) (.ref q')) (fun nx r => r = .bool (x1 == x2 && y1 == y2)) := by
  k_with_none
  unfold Con
  k_fill
  w_on
  intro dp un gd cn cs a ccd cl outer A₀ base h₀ L m s Q E B F X N T hk hd hu ret
  obtain ⟨ck, cnm, cg, cc, cmr⟩ := cs
  dsimp only at hk; subst hk
  k_steps
  all_goals (refine' bool_done ret ?f ?n ?sb ?e; (case f => assumption); (case n => assumption); (case sb => (intro q9 h9; simp only [List.mem_cons, List.mem_append, h9, or_true, true_or])); (case e => first | rfl | simp))
section
variable {w : World} {mean : ExcName → Option Value} {mg mb : Str → Option Value} {d : Nat} {cn : Str} {cs : Scope} {a : Addr} {ccd : Value} {Z : Heap → Prop} {m : Str → Option Value} {news : Led} {e1 e2 e3 : PySem.Expr} {pos : Pos} {x y : Int} (hd : 10 ≤ d)
section
variable {v : Str} {q : Addr} {v1 v2 : Value} {k : Nat} {p1 p2 : Pos} {R : Led → Value → Prop} (hv : m v = some (.ref q)) (hq : (q, tup2 v1 v2) ∈ news) (up : Up R)
include hv hq up
theorem Si.fst0 (hr : R news v1) (hx : ∀ L, (envX cn cs L a ccd []).kindOf v = some .local := by exact fun _ => rfl) (hdb : (v == ("__debug__" : Str)) = false := by decide) : Ev w mean mg mb d cn cs a ccd Z m news (eval (.Subscript (.Name v p1) (.Constant (.int 0) k p2) pos)) R := by
  intro nw hs dp un gd outer A₀ base h₀ L s Q E hz B F X N T hk hd hu ret
  exact Subscript_ (nameX_L F hv (wpAny_Constant_int (item_tupleT (j := 0) (News.isTup (h := s.heap) N (hs _ hq)) (by decide) (by decide) rfl rfl (ret _ nw s.heap _ (fun q k => k) F N (up _ _ _ hr hs)))) hk (hx L) hdb)
theorem Si.snd0 (hr : R news v2) (hx : ∀ L, (envX cn cs L a ccd []).kindOf v = some .local := by exact fun _ => rfl) (hdb : (v == ("__debug__" : Str)) = false := by decide) : Ev w mean mg mb d cn cs a ccd Z m news (eval (.Subscript (.Name v p1) (.Constant (.int 1) k p2) pos)) R := by
  intro nw hs dp un gd outer A₀ base h₀ L s Q E hz B F X N T hk hd hu ret
  exact Subscript_ (nameX_L F hv (wpAny_Constant_int (item_tupleT (j := 1) (News.isTup (h := s.heap) N (hs _ hq)) (by decide) (by decide) rfl rfl (ret _ nw s.heap _ (fun q k => k) F N (up _ _ _ hr hs)))) hk (hx L) hdb)
end
section
variable {v : Str} {q : Addr} {t u : Tok} {k : Nat} {p1 p2 : Pos} (hv : m v = some (.ref q)) (hq : (q, tup2 (.int x t) (.int y u)) ∈ news)
include hv hq
theorem Si.fst (hx : ∀ L, (envX cn cs L a ccd []).kindOf v = some .local := by exact fun _ => rfl) (hdb : (v == ("__debug__" : Str)) = false := by decide) : Ev w mean mg mb d cn cs a ccd Z m news (eval (.Subscript (.Name v p1) (.Constant (.int 0) k p2) pos)) (IntR x) := Si.fst0 hv hq int_up ⟨_, rfl⟩ hx hdb
theorem Si.snd (hx : ∀ L, (envX cn cs L a ccd []).kindOf v = some .local := by exact fun _ => rfl) (hdb : (v == ("__debug__" : Str)) = false := by decide) : Ev w mean mg mb d cn cs a ccd Z m news (eval (.Subscript (.Name v p1) (.Constant (.int 1) k p2) pos)) (IntR y) := Si.snd0 hv hq int_up ⟨_, rfl⟩ hx hdb
end
include hd
theorem Si.eq {wh : Env → Sem Value} {c : Bool} (h1 : Ev w mean mg mb d cn cs a ccd Z m news (eval e1) (IntR x)) (h2 : Ev w mean mg mb d cn cs a ccd Z m news (eval e2) (IntR y)) (hc : (x == y) = c) (hm : behindInMarks .Eq e2 = false := by with_unfolding_all rfl) : Ev w mean mg mb d cn cs a ccd Z m news (fun env => isTrue (.Compare e1 [.Eq] [e2] pos) env (wh env)) (Tr c) :=
  hc ▸ Ev.tcmp (dC := 10) (uC := 100) (by omega) (by omega) int_up h1 h2 (fun nx hs u v hu hv => by obtain ⟨t, rfl⟩ := hu; obtain ⟨t', rfl⟩ := hv; exact f_eqint) hm
theorem Si.bin {op : Operator} {c : Int} (C : ∀ {nx : Led} {t u : Tok}, Con w mean mg mb 10 100 nx (binaryOp op (.int x t) (.int y u)) (IntR c)) (h1 : Ev w mean mg mb d cn cs a ccd Z m news (eval e1) (IntR x)) (h2 : Ev w mean mg mb d cn cs a ccd Z m news (eval e2) (IntR y)) : Ev w mean mg mb d cn cs a ccd Z m news (eval (.BinOp e1 op e2 pos)) (IntR c) :=
  Ev.bin (dC := 10) (uC := 100) (by omega) (by omega) int_up h1 h2 fun nx hs u v hu hv => by obtain ⟨t, rfl⟩ := hu; obtain ⟨t', rfl⟩ := hv; exact C
theorem Si.add (h1 : Ev w mean mg mb d cn cs a ccd Z m news (eval e1) (IntR x)) (h2 : Ev w mean mg mb d cn cs a ccd Z m news (eval e2) (IntR y)) : Ev w mean mg mb d cn cs a ccd Z m news (eval (.BinOp e1 .Add e2 pos)) (IntR (x + y)) := Si.bin hd f_addint h1 h2
theorem Si.sub (h1 : Ev w mean mg mb d cn cs a ccd Z m news (eval e1) (IntR x)) (h2 : Ev w mean mg mb d cn cs a ccd Z m news (eval e2) (IntR y)) : Ev w mean mg mb d cn cs a ccd Z m news (eval (.BinOp e1 .Sub e2 pos)) (IntR (x - y)) := Si.bin hd f_subint h1 h2
theorem Si.mul (hy : -4611686018427387904 < y ∧ y < 4611686018427387904) (h1 : Ev w mean mg mb d cn cs a ccd Z m news (eval e1) (IntR x)) (h2 : Ev w mean mg mb d cn cs a ccd Z m news (eval e2) (IntR y)) : Ev w mean mg mb d cn cs a ccd Z m news (eval (.BinOp e1 .Mult e2 pos)) (IntR (x * y)) := Si.bin hd (f_mulint hy) h1 h2
theorem Si.mod (hy : y ≠ 0) (h1 : Ev w mean mg mb d cn cs a ccd Z m news (eval e1) (IntR x)) (h2 : Ev w mean mg mb d cn cs a ccd Z m news (eval e2) (IntR y)) : Ev w mean mg mb d cn cs a ccd Z m news (eval (.BinOp e1 .Mod e2 pos)) (IntR (x.fmod y)) := Si.bin hd (f_modint hy) h1 h2
omit hd
theorem Si.pow {z : Int} {fp : Pos} (h1 : Ev w mean mg mb d cn cs a ccd Z m news (eval e1) (IntR x)) (h2 : Ev w mean mg mb d cn cs a ccd Z m news (eval e2) (IntR y)) (h3 : Ev w mean mg mb d cn cs a ccd Z m news (eval e3) (IntR z)) (b1 : 0 ≤ x) (b2 : x < z) (b3 : 0 ≤ y) (b4 : 2 ≤ z) (hn : nsIn (Mine.hd.heap_39 w.params) mainGlobals (Str.ofString "pow") = some none) (hb : bootBuiltins (Str.ofString "pow") = some (.builtin "pow")) (hx : ∀ L, (envX cn cs L a ccd []).kindOf (Str.ofString "pow") = some .globalImplicit := by exact fun _ => rfl)
    (hp1 : ∀ L, starEach [e1, e2, e3] (envX cn cs L a ccd []) = (false, eval e1 (envX cn cs L a ccd [])) :: starEach [e2, e3] (envX cn cs L a ccd []) := by exact fun _ => rfl) (hp2 : ∀ L, starEach [e2, e3] (envX cn cs L a ccd []) = (false, eval e2 (envX cn cs L a ccd [])) :: starEach [e3] (envX cn cs L a ccd []) := by exact fun _ => rfl) (hp3 : ∀ L, starEach [e3] (envX cn cs L a ccd []) = (false, eval e3 (envX cn cs L a ccd [])) :: starEach [] (envX cn cs L a ccd []) := by exact fun _ => rfl) : Ev w mean mg mb d cn cs a ccd Z m news (eval (.Call (.Name (Str.ofString "pow") fp) [e1, e2, e3] [] pos)) (IntR (pw x y z)) := by
  intro nw hs dp un gd outer A₀ base h₀ L s Q E hz B F X N T hk hd hu ret
  refine Call_ ?_
  refine nameX_B F X (by k_asm) hn hb (by decide) ?_ hk (hx L) (by decide)
  suffices h : wpAny (model Challenge.rw_lh0027_01.row.prog w) (ktrTop dp un gd cn cs L a ccd [] outer) (spliced (backTo pos (starEach [e1, e2, e3] (envX cn cs L a ccd [])))) (fun vs s₁ => wpAny (model Challenge.rw_lh0027_01.row.prog w) (ktrTop dp un gd cn cs L a ccd [] outer) (call (.builtin "pow") ([] ++ vs)) Q E s₁) E s by
    have hq : (backTo pos (starEach [e1, e2, e3] (envX cn cs L a ccd []))).any (·.1) = false := by rw [hp1 L, hp2 L, hp3 L]; rfl
    rw [hp1 L] at h hq ⊢
    exact Calls.callWith_builtin hq (Calls.evalArgs_plain h)
  refine spliced_more ?_ (hp1 L)
  refine h1 nw hs dp un gd outer A₀ base h₀ L _ _ E hz B F X N T hk hd hu fun v1 n1 h1' tk1 s1 F1 N1 r1 => ?_
  refine spliced_more ?_ (hp2 L)
  refine h2 n1 (fun q k => s1 q (hs q k)) dp un gd outer A₀ base h₀ L _ _ E hz B F1 X N1 T hk hd hu fun v2 n2 h2' tk2 s2 F2 N2 r2 => ?_
  refine spliced_more ?_ (hp3 L)
  refine h3 n2 (fun q k => s2 q (s1 q (hs q k))) dp un gd outer A₀ base h₀ L _ _ E hz B F2 X N2 T hk hd hu fun v3 n3 h3' tk3 s3 F3 N3 r3 => ?_
  refine spliced_none ?_
  obtain ⟨t1, rfl⟩ := r1
  obtain ⟨t2, rfl⟩ := r2
  obtain ⟨t3, rfl⟩ := r3
  exact call_pow3 b1 b2 b3 b4 fun t' tk' => ret _ n3 h3' tk' (fun q k => s3 q (s2 q (s1 q k))) F3 N3 ⟨t', rfl⟩
theorem Si.tisI {p : Int} {k : Nat} {p2 : Pos} {o : Option (Int × Int)} {wh : Env → Sem Value} (hd : 10 ≤ d) (h1 : Ev w mean mg mb d cn cs a ccd Z m news (eval e1) (IPR p o)) : Ev w mean mg mb d cn cs a ccd Z m news (fun env => isTrue (.Compare e1 [.Is] [.Constant .none k p2] pos) env (wh env)) (Tr o.isNone) :=
  Ev.tcmp (dC := 10) (uC := 100) (by omega) (by omega) ipt_up h1 Ev.none_ fun nx hs x y hx hy => by subst hy; exact f_isI hx
theorem Si.fq {p b : Int} {fp : Pos} (hd : 10 ≤ d) (hpr : Pr p) (h1 : Ev w mean mg mb d cn cs a ccd Z m news (eval e1) (IntR b)) (h2 : Ev w mean mg mb d cn cs a ccd Z m news (eval e2) (IntR p)) (hx : ∀ L, (envX cn cs L a ccd []).kindOf (Str.ofString "FQ") = some .globalImplicit := by exact fun _ => rfl) (hp1 : ∀ L, starEach [e1, e2] (envX cn cs L a ccd []) = (false, eval e1 (envX cn cs L a ccd [])) :: starEach [e2] (envX cn cs L a ccd []) := by exact fun _ => rfl) (hp2 : ∀ L, starEach [e2] (envX cn cs L a ccd []) = (false, eval e2 (envX cn cs L a ccd [])) :: starEach [] (envX cn cs L a ccd []) := by exact fun _ => rfl) : Ev w mean mg mb d cn cs a ccd Z m news (eval (.Call (.Name (Str.ofString "FQ") fp) [e1, e2] [] pos)) (FqR w p (b % p)) :=
  Ev.call2 (dC := 5) (uC := 50) (by omega) (by omega) int_up (g206 w) (k206 w) hx (by decide) h1 h2 (fun nx hs x y hx hy => by obtain ⟨t, rfl⟩ := hx; obtain ⟨t', rfl⟩ := hy; exact (c_new hpr).mono (fun nx r h => by obtain ⟨z, c', e, k, rfl⟩ := h; exact ⟨z, e, k⟩) (by omega) (by omega)) hp1 hp2
end
theorem c_n {w : World} {mean} {mg mb} {news : Led} {x : Addr} {p u : Int} (hx : Fq w news x p u) : Con w mean mg mb 10 100 news (getAttr (.ref x) (Str.ofString "n") true) (IntR u) := by
  obtain ⟨⟨dx, t1, t2, t3, t4, hx1, hx2⟩, hu9⟩ := hx
  unfold fqD at hx2
  k_with_none
  unfold Con
  k_fill
  w_on
  intro dp un gd cn cs a ccd cl outer A₀ base h₀ L m s Q E B F X N T hk hd hu ret
  obtain ⟨ck, cnm, cg, cc, cmr⟩ := cs
  dsimp only at hk; subst hk
  k_steps
  all_goals (exact ret _ [] _ _ (by assumption) (by assumption) ⟨_, rfl⟩)
theorem Si.n {w : World} {mean : ExcName → Option Value} {mg mb : Str → Option Value} {d : Nat} {cn : Str} {cs : Scope} {a : Addr} {ccd : Value} {Z : Heap → Prop} {m : Str → Option Value} {news : Led} {e2 e3 : PySem.Expr} {p1 pos : Pos} {p u : Int} (hd9 : 10 ≤ d) (h1 : Ev w mean mg mb d cn cs a ccd Z m news (eval (.Subscript e2 e3 p1)) (FqR w p u)) : Ev w mean mg mb d cn cs a ccd Z m news (eval (.Attribute (.Subscript e2 e3 p1) (Str.ofString "n") pos)) (IntR u) := by
  intro nw hs dp un gd outer A₀ base h₀ L s Q E hz B F X N T hk hd hu ret
  refine Attribute_any_ ?_
  refine h1 nw hs dp un gd outer A₀ base h₀ L _ _ E hz B F X N T hk hd hu fun x n1 h1' tk1 s1 F1 N1 r1 => ?_
  obtain ⟨z, rfl, hx⟩ := r1
  exact c_n hx dp un gd cn cs a ccd [] outer A₀ base h₀ L m _ _ E B F1 X N1 T hk (by omega) (by omega) fun r tl h3 tk3 F3 N3 r3 => ret r _ h3 tk3 (fun q k => List.mem_append.mpr (.inr (s1 q k))) F3 N3 r3
theorem gpow (w : World) : nsIn (hd.heap_39 w.params) mainGlobals (Str.ofString "pow") = some none := by k_is
theorem bpow : bootBuiltins (Str.ofString "pow") = some (.builtin "pow") := by boot_by_name



theorem same_end {w : World} {nx : Led} {p x1 y1 x2 y2 : Int} {r : Value} (e1 : x2 = x1) (e2 : y2 = y1) (h : FPt w nx p r (lsum p (some (x1, y1)) (some (x1, y1)))) : FPt w nx p r (lsum p (some (x1, y1)) (some (x2, y2))) := by
  subst e1 e2
  exact h
theorem opp_end {w : World} {nx : Led} {p b x1 y1 x2 y2 : Int} (hpr : Pr p) (hb : Gb p b) (ho : On p b (some (x1, y1))) (ho' : On p b (some (x2, y2))) (e1 : x2 = x1) (e2 : y2 ≠ y1) : FPt w nx p .none (lsum p (some (x1, y1)) (some (x2, y2))) := by
  subst e1
  rw [opp_ok hpr hb ho ho' e2]
  rfl

theorem e_double {w : World} {mean} {mg mb} {news : Led} {p b : Int} {v : Value} {o : Option (Int × Int)} (hpr : Pr p) (hb : Gb p b) (hv : FPt w news p v o) (ho : On p b o) :
    Con w mean mg mb 20 200 news (call (.ref 42) [v]) (fun nx r => FPt w nx p r (lsum p o o)) := by
  k_with_none
  unfold Con
  k_fill
  w_on
  intro dp un gd cn cs a ccd cl outer A₀ base h₀ L m s Q E B F X N T hk hd hu ret
  obtain ⟨ck, cnm, cg, cc, cmr⟩ := cs
  dsimp only at hk; subst hk
  k_with "execs cons" => (
    (with_reducible show wpAny _ _ (execs [_, _, _, _, _, _] _) _ _ _)
    k_dflt (
      refine' St.use (d := 19) (Z := fun _ => True) (R := fun nx r => FPt w nx p r (lsum p o o)) ?uz9 ?uB9 ?uF9 ?uX9 ?uN9 ?uT9 ?uk9 ?uC9 ?ud9 ?uu9 ?_
      (case uB9 => k_asm); (case uF9 => k_asm); (case uX9 => k_asm); (case uN9 => k_asm); (case uT9 => k_asm); (case uk9 => rfl); (case uz9 => exact True.intro)
      (case uC9 =>
        rcases o with _ | ⟨x1, y1⟩
        · exact St.ifT (Ev.or_t (Ev.tval (Ev.inf (by decide) (Ev.loc rfl hv fpt_up)))) (St.ret_ (Ev.loc rfl hv fpt_up))
        have hv0 := hv
        obtain ⟨q, x, y, rfl, hq, hx, hy⟩ := hv
        refine St.ifF (Ev.or_f (Ev.tval (Ev.inf (by decide) (Ev.loc rfl hv0 fpt_up))) (Ev.or_f (Ev.tisF (by decide) (Ev.loc rfl hv0 fpt_up)) Ev.or_nil)) ?_
        refine St.unp rfl hq ?_
        refine St.asg (Sf.div (by decide) hpr (Sf.rmul (by decide) hpr (by decide) (Sf.pow2 (by decide) hpr (Sf.loc (by decide) rfl hx))) (Sf.rmul (by decide) hpr (by decide) (Sf.loc (by decide) rfl hy))) fun n1 s1 v1 k1 => ?_
        obtain ⟨z1, rfl, k1⟩ := k1
        refine St.asg (Sf.sub (by decide) hpr (Sf.pow2 (by decide) hpr (Sf.loc (by decide) rfl k1)) (Sf.rmul (by decide) hpr (by decide) (Sf.loc (by decide) rfl (hx.sub s1)))) fun n2 s2 v2 k2 => ?_
        obtain ⟨z2, rfl, k2⟩ := k2
        refine St.asg (Sf.sub (by decide) hpr (Sf.add (by decide) hpr (Sf.mul (by decide) hpr (Sf.neg (by decide) hpr (Sf.loc (by decide) rfl (k1.sub s2))) (Sf.loc (by decide) rfl k2)) (Sf.mul (by decide) hpr (Sf.loc (by decide) rfl (k1.sub s2)) (Sf.loc (by decide) rfl ((hx.sub s1).sub s2)))) (Sf.loc (by decide) rfl ((hy.sub s1).sub s2))) fun n3 s3 v3 k3 => ?_
        obtain ⟨z3, rfl, k3⟩ := k3
        refine St.ret_ (Ev.tup fq_up fq_up (Sf.loc (by decide) rfl (k2.sub s3)) (Sf.loc (by decide) rfl k3) fun nx hs q x y hm hx hy => ?_)
        obtain ⟨x, rfl, hx⟩ := hx
        obtain ⟨y, rfl, hy⟩ := hy
        exact fpt_end (dbl_ok hpr hb ho rfl rfl rfl rfl rfl rfl rfl rfl rfl rfl rfl rfl) hm hx hy)
      (case ud9 => k_room); (case uu9 => k_units); k_whole
      intro r' nx' m' h' tk' s' F' N' hR'
      (try dsimp only)
      (try k_fold)))
  k_steps
  all_goals exact fpt_done ret (by assumption) (by assumption) (by assumption) (by assumption)

theorem e_add {w : World} {mean} {mg mb} {news : Led} {p b : Int} {v v' : Value} {o o' : Option (Int × Int)} (hpr : Pr p) (hb : Gb p b) (hv : FPt w news p v o) (hv' : FPt w news p v' o') (ho : On p b o) (ho' : On p b o') :
    Con w mean mg mb 30 300 news (call (.ref 49) [v, v']) (fun nx r => FPt w nx p r (lsum p o o')) := by
  k_with_none
  unfold Con
  k_fill
  w_on
  intro dp un gd cn cs a ccd cl outer A₀ base h₀ L m s Q E B F X N T hk hd hu ret
  obtain ⟨ck, cnm, cg, cc, cmr⟩ := cs
  dsimp only at hk; subst hk
  k_with "execs cons" => (
    (with_reducible show wpAny _ _ (execs [_, _, _, _, _, _, _, _] _) _ _ _)
    k_dflt (
      refine' St.use (d := 29) (Z := fun _ => True) (R := fun nx r => FPt w nx p r (lsum p o o')) ?uz9 ?uB9 ?uF9 ?uX9 ?uN9 ?uT9 ?uk9 ?uC9 ?ud9 ?uu9 ?_
      (case uB9 => k_asm); (case uF9 => k_asm); (case uX9 => k_asm); (case uN9 => k_asm); (case uT9 => k_asm); (case uk9 => rfl); (case uz9 => exact True.intro)
      (case uC9 =>
        rcases o with _ | ⟨x1, y1⟩
        · rcases o' with _ | ⟨x2, y2⟩
          · exact St.ifT (Ev.or_t (Ev.tisF (by decide) (Ev.loc rfl hv fpt_up))) (St.ret_ (Ev.if_t (Ev.tisF (by decide) (Ev.loc rfl hv' fpt_up)) (Ev.loc rfl hv fpt_up)))
          · exact St.ifT (Ev.or_t (Ev.tisF (by decide) (Ev.loc rfl hv fpt_up))) (St.ret_ (Ev.if_f (Ev.tisF (by decide) (Ev.loc rfl hv' fpt_up)) (Ev.loc rfl hv' fpt_up)))
        rcases o' with _ | ⟨x2, y2⟩
        · exact St.ifT (Ev.or_f (Ev.tisF (by decide) (Ev.loc rfl hv fpt_up)) (Ev.or_t (Ev.tisF (by decide) (Ev.loc rfl hv' fpt_up)))) (St.ret_ (Ev.if_t (Ev.tisF (by decide) (Ev.loc rfl hv' fpt_up)) (Ev.loc rfl hv fpt_up)))
        have hv0 := hv
        have hv0' := hv'
        obtain ⟨q, x, y, rfl, hq, hx, hy⟩ := hv
        obtain ⟨q', x', y', rfl, hq', hx', hy'⟩ := hv'
        refine St.ifF (Ev.or_f (Ev.tisF (by decide) (Ev.loc rfl hv0 fpt_up)) (Ev.or_f (Ev.tisF (by decide) (Ev.loc rfl hv0' fpt_up)) Ev.or_nil)) ?_
        refine St.unp rfl hq ?_
        refine St.unp rfl hq' ?_
        by_cases e1 : x2 = x1
        · by_cases e2 : y2 = y1
          · refine St.ifT (Ev.and_t (Sf.eq (by decide) (Sf.loc (by decide) rfl hx') (Sf.loc (by decide) rfl hx) (beq_iff_eq.mpr e1)) (Ev.and_t (Sf.eq (by decide) (Sf.loc (by decide) rfl hy') (Sf.loc (by decide) rfl hy) (beq_iff_eq.mpr e2)) Ev.and_nil)) ?_
            exact St.ret_ (Ev.mono (Ev.call1 (dC := 20) (uC := 200) (by decide) (by decide) (g42 w) (k42 w) (fun _ => rfl) (by decide) (Ev.loc rfl hv0 fpt_up) (fun nx hs v h => e_double hpr hb h ho)) fun nx r h => same_end e1 e2 h)
          · refine St.if_ (b := false) (RN1 := No) (Ev.and_t (Sf.eq (by decide) (Sf.loc (by decide) rfl hx') (Sf.loc (by decide) rfl hx) (beq_iff_eq.mpr e1)) (Ev.and_f (Sf.eq (by decide) (Sf.loc (by decide) rfl hy') (Sf.loc (by decide) rfl hy) (beq_eq_false_iff_ne.mpr e2)))) ?_ fun _ _ _ h => h.elim
            exact St.ifT (Sf.eq (by decide) (Sf.loc (by decide) rfl hx') (Sf.loc (by decide) rfl hx) (beq_iff_eq.mpr e1)) (St.ret_ (Ev.mono Ev.none_ fun nx r h => by subst h; exact opp_end hpr hb ho ho' e1 e2))
        · refine St.if_ (b := false) (RN1 := fun nx m' => (∀ q ∈ news, q ∈ nx) ∧ (∃ z, m' (Str.ofString "m") = some (Value.ref z) ∧ Fq w nx z p (((y2 - y1) % p * iv p ((x2 - x1) % p)) % p)) ∧ m' (Str.ofString "x1") = some (Value.ref x) ∧ m' (Str.ofString "y1") = some (Value.ref y) ∧ m' (Str.ofString "x2") = some (Value.ref x') ∧ m' (Str.ofString "y2") = some (Value.ref y')) (Ev.and_f (Sf.eq (by decide) (Sf.loc (by decide) rfl hx') (Sf.loc (by decide) rfl hx) (beq_eq_false_iff_ne.mpr e1))) (St.if_ (b := false) (RN1 := fun nx m' => (∀ q ∈ news, q ∈ nx) ∧ (∃ z, m' (Str.ofString "m") = some (Value.ref z) ∧ Fq w nx z p (((y2 - y1) % p * iv p ((x2 - x1) % p)) % p)) ∧ m' (Str.ofString "x1") = some (Value.ref x) ∧ m' (Str.ofString "y1") = some (Value.ref y) ∧ m' (Str.ofString "x2") = some (Value.ref x') ∧ m' (Str.ofString "y2") = some (Value.ref y')) (Sf.eq (by decide) (Sf.loc (by decide) rfl hx') (Sf.loc (by decide) rfl hx) (beq_eq_false_iff_ne.mpr e1)) (St.asg (Sf.div (by decide) hpr (Sf.sub (by decide) hpr (Sf.loc (by decide) rfl hy') (Sf.loc (by decide) rfl hy)) (Sf.sub (by decide) hpr (Sf.loc (by decide) rfl hx') (Sf.loc (by decide) rfl hx))) fun n1 s1 v1 k1 => ?_) fun nx hs m' h => St.nil_ ?_) ?_
          · obtain ⟨z1, rfl, k1⟩ := k1
            exact St.nil_ fun nx h => ⟨fun q k => h q (s1 q k), ⟨z1, rfl, k1.sub h⟩, rfl, rfl, rfl, rfl⟩
          · exact fun n2 h2 => ⟨fun q k => h2 q (h.1 q k), ⟨h.2.1.choose, h.2.1.choose_spec.1, h.2.1.choose_spec.2.sub h2⟩, h.2.2⟩
          intro n1 s1 m1 h
          obtain ⟨-, ⟨z1, hm, k1⟩, m1, m2, m3, m4⟩ := h
          refine St.asg (Sf.sub (by decide) hpr (Sf.sub (by decide) hpr (Sf.pow2 (by decide) hpr (Sf.loc (by decide) hm k1)) (Sf.loc (by decide) m1 (hx.sub s1))) (Sf.loc (by decide) m3 (hx'.sub s1))) fun n2 s2 v2 k2 => ?_
          obtain ⟨z2, rfl, k2⟩ := k2
          refine St.asg (Sf.sub (by decide) hpr (Sf.add (by decide) hpr (Sf.mul (by decide) hpr (Sf.neg (by decide) hpr (Sf.loc (by decide) hm (k1.sub s2))) (Sf.loc (by decide) rfl k2)) (Sf.mul (by decide) hpr (Sf.loc (by decide) hm (k1.sub s2)) (Sf.loc (by decide) m1 ((hx.sub s1).sub s2)))) (Sf.loc (by decide) m2 ((hy.sub s1).sub s2))) fun n3 s3 v3 k3 => ?_
          obtain ⟨z3, rfl, k3⟩ := k3
          refine St.ifF (Ev.not_ ?_) ?_
          · refine' Sf.eq (by decide) ?h1 ?h2 ?e
            case h1 => exact (Sf.loc (by decide) rfl k3)
            case h2 => exact (Sf.sub (by decide) hpr (Sf.add (by decide) hpr (Sf.mul (by decide) hpr (Sf.neg (by decide) hpr (Sf.loc (by decide) hm ((k1.sub s2).sub s3))) (Sf.loc (by decide) rfl (k2.sub s3))) (Sf.mul (by decide) hpr (Sf.loc (by decide) hm ((k1.sub s2).sub s3)) (Sf.loc (by decide) m3 (((hx'.sub s1).sub s2).sub s3)))) (Sf.loc (by decide) m4 (((hy'.sub s1).sub s2).sub s3)))
            exact beq_iff_eq.mpr (check_ok hpr ho ho' e1 rfl rfl rfl rfl rfl rfl rfl rfl rfl rfl rfl rfl rfl)
          refine St.ret_ (Ev.tup fq_up fq_up (Sf.loc (by decide) rfl (k2.sub s3)) (Sf.loc (by decide) rfl k3) fun nx hs q x y hm hx hy => ?_)
          obtain ⟨x, rfl, hx⟩ := hx
          obtain ⟨y, rfl, hy⟩ := hy
          exact fpt_end (chord_ok hpr ho ho' e1 rfl rfl rfl rfl rfl rfl rfl rfl rfl rfl rfl) hm hx hy)
      (case ud9 => k_room); (case uu9 => k_units); k_whole
      intro r' nx' m' h' tk' s' F' N' hR'
      (try dsimp only)
      (try k_fold)))
  k_steps
  all_goals exact fpt_done ret (by assumption) (by assumption) (by assumption) (by assumption)



theorem neg_ok {p y : Int} (c : Int) (h : c = (-y) % p) : lneg p (some (x, y)) = some (x, c) := by
  subst h
  show some (x, (p - y) % p) = _
  rw [show p - y = -y + p from by omega, Int.add_emod_right]
theorem e_neg {w : World} {mean} {mg mb} {news : Led} {p : Int} {v : Value} {o : Option (Int × Int)} (hpr : Pr p) (hv : FPt w news p v o) :
    Con w mean mg mb 20 200 news (call (.ref 56) [v]) (fun nx r => FPt w nx p r (lneg p o)) := by
  k_with_none
  unfold Con
  k_fill
  w_on
  intro dp un gd cn cs a ccd cl outer A₀ base h₀ L m s Q E B F X N T hk hd hu ret
  obtain ⟨ck, cnm, cg, cc, cmr⟩ := cs
  dsimp only at hk; subst hk
  k_with "execs cons" => (
    (with_reducible show wpAny _ _ (execs [_, _, _] _) _ _ _)
    k_dflt (
      refine' St.use (d := 19) (Z := fun _ => True) (R := fun nx r => FPt w nx p r (lneg p o)) ?uz9 ?uB9 ?uF9 ?uX9 ?uN9 ?uT9 ?uk9 ?uC9 ?ud9 ?uu9 ?_
      (case uB9 => k_asm); (case uF9 => k_asm); (case uX9 => k_asm); (case uN9 => k_asm); (case uT9 => k_asm); (case uk9 => rfl); (case uz9 => exact True.intro)
      (case uC9 =>
        rcases o with _ | ⟨x1, y1⟩
        · exact St.ifT (Ev.tisF (by decide) (Ev.loc rfl hv fpt_up)) (St.ret_ (Ev.mono Ev.none_ fun nx r h => h))
        have hv0 := hv
        obtain ⟨q, x, y, rfl, hq, hx, hy⟩ := hv
        refine St.ifF (Ev.tisF (by decide) (Ev.loc rfl hv0 fpt_up)) ?_
        refine St.unp rfl hq ?_
        refine St.ret_ (Ev.tup fq_up fq_up (Sf.loc (by decide) rfl hx) (Sf.neg (by decide) hpr (Sf.loc (by decide) rfl hy)) fun nx hs q x y hm hx hy => ?_)
        obtain ⟨x, rfl, hx⟩ := hx
        obtain ⟨y, rfl, hy⟩ := hy
        exact fpt_end (neg_ok _ rfl) hm hx hy)
      (case ud9 => k_room); (case uu9 => k_units); k_whole
      intro r' nx' m' h' tk' s' F' N' hR'
      (try dsimp only)
      (try k_fold)))
  k_steps
  all_goals exact fpt_done ret (by assumption) (by assumption) (by assumption) (by assumption)

theorem made_ok {p x1 y1 c c0 : Int} (h1 : c = x1 % p) (h2 : c0 = y1 % p) (hx : 0 ≤ x1 ∧ x1 < p) (hy : 0 ≤ y1 ∧ y1 < p) : some (x1, y1) = some (c, c0) := by
  rw [h1, h2, Int.emod_eq_of_lt hx.1 hx.2, Int.emod_eq_of_lt hy.1 hy.2]
theorem e_made {w : World} {mean} {mg mb} {news : Led} {p : Int} {v : Value} {o : Option (Int × Int)} (hpr : Pr p) {t : Tok} (hv : IPt news p v o) :
    Con w mean mg mb 20 200 news (call (.ref 259) [.int p t, v]) (fun nx r => FPt w nx p r o) := by
  k_with_none
  unfold Con
  k_fill
  w_on
  intro dp un gd cn cs a ccd cl outer A₀ base h₀ L m s Q E B F X N T hk hd hu ret
  obtain ⟨ck, cnm, cg, cc, cmr⟩ := cs
  dsimp only at hk; subst hk
  k_with "execs cons" => (
    (with_reducible show wpAny _ _ (execs [_] _) _ _ _)
    k_dflt (
      refine' St.use (d := 19) (Z := fun _ => True) (R := fun nx r => FPt w nx p r o) ?uz9 ?uB9 ?uF9 ?uX9 ?uN9 ?uT9 ?uk9 ?uC9 ?ud9 ?uu9 ?_
      (case uB9 => k_asm); (case uF9 => k_asm); (case uX9 => k_asm); (case uN9 => k_asm); (case uT9 => k_asm); (case uk9 => rfl); (case uz9 => exact True.intro)
      (case uC9 =>
        rcases o with _ | ⟨x1, y1⟩
        · exact St.ret_ (Ev.if_t (Si.tisI (by decide) (Ev.loc rfl hv ipt_up)) (Ev.mono Ev.none_ fun nx r h => h))
        have hv0 := hv
        obtain ⟨⟨q, t, u, rfl, hq⟩, hx, hy⟩ := hv
        refine St.ret_ (Ev.if_f (Si.tisI (by decide) (Ev.loc rfl hv0 ipt_up)) (Ev.tup fq_up fq_up (Si.fq (by decide) hpr (Si.fst rfl hq) (Ev.loc rfl ⟨_, rfl⟩ int_up)) (Si.fq (by decide) hpr (Si.snd rfl hq) (Ev.loc rfl ⟨_, rfl⟩ int_up)) fun nx hs q x y hm hx' hy' => ?_))
        obtain ⟨x, rfl, hx'⟩ := hx'
        obtain ⟨y, rfl, hy'⟩ := hy'
        exact fpt_end (made_ok rfl rfl hx hy) hm hx' hy')
      (case ud9 => k_room); (case uu9 => k_units); k_whole
      intro r' nx' m' h' tk' s' F' N' hR'
      (try dsimp only)
      (try k_fold)))
  k_steps
  all_goals exact fpt_done ret (by assumption) (by assumption) (by assumption) (by assumption)

theorem e_told {w : World} {mean} {mg mb} {news : Led} {p : Int} {v : Value} {o : Option (Int × Int)} (hpr : Pr p) (hv : FPt w news p v o) :
    Con w mean mg mb 20 200 news (call (.ref 266) [v]) (fun nx r => IPt nx p r o) := by
  k_with_none
  unfold Con
  k_fill
  w_on
  intro dp un gd cn cs a ccd cl outer A₀ base h₀ L m s Q E B F X N T hk hd hu ret
  obtain ⟨ck, cnm, cg, cc, cmr⟩ := cs
  dsimp only at hk; subst hk
  k_with "execs cons" => (
    (with_reducible show wpAny _ _ (execs [_] _) _ _ _)
    k_dflt (
      refine' St.use (d := 19) (Z := fun _ => True) (R := fun nx r => IPt nx p r o) ?uz9 ?uB9 ?uF9 ?uX9 ?uN9 ?uT9 ?uk9 ?uC9 ?ud9 ?uu9 ?_
      (case uB9 => k_asm); (case uF9 => k_asm); (case uX9 => k_asm); (case uN9 => k_asm); (case uT9 => k_asm); (case uk9 => rfl); (case uz9 => exact True.intro)
      (case uC9 =>
        rcases o with _ | ⟨x1, y1⟩
        · exact St.ret_ (Ev.if_t (Ev.tisF (by decide) (Ev.loc rfl hv fpt_up)) (Ev.mono Ev.none_ fun nx r h => h))
        have hv0 := hv
        obtain ⟨q, x, y, rfl, hq, hx, hy⟩ := hv
        refine St.ret_ (Ev.if_f (Ev.tisF (by decide) (Ev.loc rfl hv0 fpt_up)) (Ev.tup int_up int_up (Si.n (by decide) (Si.fst0 rfl hq fq_up ⟨_, rfl, hx⟩)) (Si.n (by decide) (Si.snd0 rfl hq fq_up ⟨_, rfl, hy⟩)) fun nx hs q x y hm hx' hy' => ?_))
        obtain ⟨t, rfl⟩ := hx'
        obtain ⟨t', rfl⟩ := hy'
        exact ipt_end rfl hm hx.2 hy.2)
      (case ud9 => k_room); (case uu9 => k_units); k_whole
      intro r' nx' m' h' tk' s' F' N' hR'
      (try dsimp only)
      (try k_fold)))
  k_steps
  all_goals exact ipt_done ret (by assumption) (by assumption) (by assumption) (by assumption)

theorem minus_ok {p x1 y1 : Int} (hp : 0 < p) : lneg p (some (x1, y1)) = some (x1, (p - y1).fmod p) := by
  rw [fmodE hp]
  rfl
theorem fm_in {p : Int} (hpr : Pr p) (a : Int) : 0 ≤ a.fmod p ∧ a.fmod p < p := by
  rw [fmodE (by have := hpr.lo; omega)]
  exact emod_in hpr a
theorem e_minus {w : World} {mean} {mg mb} {news : Led} {p : Int} {v : Value} {o : Option (Int × Int)} (hpr : Pr p) {t : Tok} (hv : IPt news p v o) :
    Con w mean mg mb 20 200 news (call (.ref 245) [.int p t, v]) (fun nx r => IPt nx p r (lneg p o)) := by
  have hp1 := hpr.lo
  k_with_none
  unfold Con
  k_fill
  w_on
  intro dp un gd cn cs a ccd cl outer A₀ base h₀ L m s Q E B F X N T hk hd hu ret
  obtain ⟨ck, cnm, cg, cc, cmr⟩ := cs
  dsimp only at hk; subst hk
  k_with "execs cons" => (
    (with_reducible show wpAny _ _ (execs [_] _) _ _ _)
    k_dflt (
      refine' St.use (d := 19) (Z := fun _ => True) (R := fun nx r => IPt nx p r (lneg p o)) ?uz9 ?uB9 ?uF9 ?uX9 ?uN9 ?uT9 ?uk9 ?uC9 ?ud9 ?uu9 ?_
      (case uB9 => k_asm); (case uF9 => k_asm); (case uX9 => k_asm); (case uN9 => k_asm); (case uT9 => k_asm); (case uk9 => rfl); (case uz9 => exact True.intro)
      (case uC9 =>
        rcases o with _ | ⟨x1, y1⟩
        · exact St.ret_ (Ev.if_t (Si.tisI (by decide) (Ev.loc rfl hv ipt_up)) (Ev.mono Ev.none_ fun nx r h => h))
        have hv0 := hv
        obtain ⟨⟨q, t, u, rfl, hq⟩, hx, hy⟩ := hv
        refine St.ret_ (Ev.if_f (Si.tisI (by decide) (Ev.loc rfl hv0 ipt_up)) (Ev.tup int_up int_up (Si.fst rfl hq) (Si.mod (by decide) (show p ≠ 0 by omega) (Si.sub (by decide) (Ev.loc rfl ⟨_, rfl⟩ int_up) (Si.snd rfl hq)) (Ev.loc rfl ⟨_, rfl⟩ int_up)) fun nx hs q x y hm hx' hy' => ?_))
        obtain ⟨t, rfl⟩ := hx'
        obtain ⟨t', rfl⟩ := hy'
        exact ipt_end (minus_ok (by omega)) hm hx (fm_in hpr _))
      (case ud9 => k_room); (case uu9 => k_units); k_whole
      intro r' nx' m' h' tk' s' F' N' hR'
      (try dsimp only)
      (try k_fold)))
  k_steps
  all_goals exact ipt_done ret (by assumption) (by assumption) (by assumption) (by assumption)

theorem og {F : Type} [Lean.Grind.CommRing F] {A B : F} : A + B - A = B := by grind
theorem onN {n : Nat} [NeZero n] {b x1 y1 c c2 c3 : Int} (ho : On n b (some (x1, y1))) (hb : 0 ≤ b ∧ b < n) (v : c = (c2 - c3) % n) (v2 : c2 = y1 * y1 % n) (v3 : c3 = x1 * x1 % n * x1 % n) : c = b := by
  have h : c % n = b % n := by
    rw [v, Int.emod_emod]
    apply mod_of_cst
    have := ho.2
    dsimp only at this
    rw [cst_sub, v2, v3, cst_mod, cst_mod, cst_mul (x1 * x1 % n), cst_mod, ← cst_mul]
    rw [← cst_eq, cst_add] at this
    rw [this]
    exact og
  rw [v, Int.emod_emod, Int.emod_eq_of_lt hb.1 hb.2] at h
  rw [v, h]
theorem on_ok {p b x1 y1 c c2 c3 : Int} (hpr : Pr p) (ho : On p b (some (x1, y1))) (hb : 0 ≤ b ∧ b < p) (v : c = (c2 - c3) % p) (v2 : c2 = y1 * y1 % p) (v3 : c3 = x1 * x1 % p * x1 % p) : c = b := by
  obtain ⟨n, rfl, hn, h0⟩ := hpr.nz
  have : NeZero n := ⟨h0⟩
  exact onN ho hb v v2 v3
theorem e_on {w : World} {mean} {mg mb} {news : Led} {p : Int} {v : Value} {o : Option (Int × Int)} (hpr : Pr p) {q0 : Addr} {b b' : Int} (hv : FPt w news p v o) (hb : Fq w news q0 p b') (ho : On p b o) (hbb : 0 ≤ b ∧ b < p) :
    Con w mean mg mb 20 200 news (call (.ref 35) [v, .ref q0]) (fun nx r => r = .bool (o.isNone || b == b')) := by
  k_with_none
  unfold Con
  k_fill
  w_on
  intro dp un gd cn cs a ccd cl outer A₀ base h₀ L m s Q E B F X N T hk hd hu ret
  obtain ⟨ck, cnm, cg, cc, cmr⟩ := cs
  dsimp only at hk; subst hk
  k_with "execs cons" => (
    (with_reducible show wpAny _ _ (execs [_, _, _] _) _ _ _)
    k_dflt (
      refine' St.use (d := 19) (Z := fun _ => True) (R := Is (.bool (o.isNone || b == b'))) ?uz9 ?uB9 ?uF9 ?uX9 ?uN9 ?uT9 ?uk9 ?uC9 ?ud9 ?uu9 ?_
      (case uB9 => k_asm); (case uF9 => k_asm); (case uX9 => k_asm); (case uN9 => k_asm); (case uT9 => k_asm); (case uk9 => rfl); (case uz9 => exact True.intro)
      (case uC9 =>
        rcases o with _ | ⟨x1, y1⟩
        · exact St.ifT (Ev.or_t (Ev.tval (Ev.inf (by decide) (Ev.loc rfl hv fpt_up)))) (St.ret_ true_)
        have hv0 := hv
        obtain ⟨q, x, y, rfl, hq, hx, hy⟩ := hv
        refine St.ifF (Ev.or_f (Ev.tval (Ev.inf (by decide) (Ev.loc rfl hv0 fpt_up))) (Ev.or_f (Ev.tisF (by decide) (Ev.loc rfl hv0 fpt_up)) Ev.or_nil)) ?_
        refine St.unp rfl hq ?_
        exact St.ret_ (Ev.mono (Sf.eqv (by decide) (Sf.sub (by decide) hpr (Sf.pow2 (by decide) hpr (Sf.loc (by decide) rfl hy)) (Sf.pow3 (by decide) hpr (Sf.loc (by decide) rfl hx))) (Sf.loc (by decide) rfl hb)) fun nx r h => by rw [h, on_ok hpr ho hbb rfl rfl rfl]; rfl))
      (case ud9 => k_room); (case uu9 => k_units); k_whole
      intro r' nx' m' h' tk' s' F' N' hR'
      (try dsimp only)
      (try k_fold)))
  k_steps
  all_goals exact val_done ret (by assumption) (by assumption) (by assumption) (by assumption)

theorem pw_62 {b e p : Int} (h1 : 7 ≤ p) (h2 : p ≤ 127) : -4611686018427387904 < pw b e p ∧ pw b e p < 4611686018427387904 := by
  have := pw_lo b e p
  have := pw_hi b e (m := p) (by omega)
  omega
theorem pw_10 {b e p : Int} (hpr : Pr p) : -1024 ≤ pw b e p ∧ pw b e p ≤ 1024 := by
  have := hpr.lo
  have := hpr.hi
  have := pw_lo b e p
  have := pw_hi b e (m := p) (by omega)
  omega
theorem chd_bd {p y1 y2 b e : Int} (hpr : Pr p) (hy : 0 ≤ y1 ∧ y1 < p) (hy' : 0 ≤ y2 ∧ y2 < p) : -1073741824 ≤ (y2 - y1) * pw b e p ∧ (y2 - y1) * pw b e p ≤ 1073741824 := by
  have := hpr.hi
  have := mul_bd (a := y2 - y1) (A := 1024) (by omega) (pw_10 (b := b) (e := e) hpr)
  omega
theorem dbl_bd {p x1 b e : Int} (hpr : Pr p) (hx : 0 ≤ x1 ∧ x1 < p) : -1073741824 ≤ 3 * x1 * x1 * pw b e p ∧ 3 * x1 * x1 * pw b e p ≤ 1073741824 := by
  have := hpr.hi
  have h1 := mul_bd (a := 3 * x1) (b := x1) (A := 1024) (B := 1024) (by omega) (by omega)
  have := mul_bd h1 (pw_10 (b := b) (e := e) hpr)
  omega
theorem sub_62 {p x1 : Int} (hpr : Pr p) (hx : 0 ≤ x1 ∧ x1 < p) (a : Int) : -4611686018427387904 < x1 - a.fmod p ∧ x1 - a.fmod p < 4611686018427387904 := by
  have := hpr.hi
  have := fm_in hpr a
  omega

theorem sum_cond {p x1 y1 x2 y2 : Int} (hpr : Pr p) (hc : ¬ (x1 = x2 ∧ (y1 + y2).fmod p = 0)) : lsum p (some (x1, y1)) (some (x2, y2)) = (fun m : Int => some ((m * m - x1 - x2) % p, (m * (x1 - (m * m - x1 - x2) % p) - y1) % p))
      (if (x1, y1) = (x2, y2) then 3 * x1 * x1 * pw (2 * y1 % p) (p - 2) p else (y2 - y1) * pw ((x2 - x1) % p) (p - 2) p) := by
  rw [fmodE (by have := hpr.lo; omega)] at hc
  show (if x1 = x2 ∧ (y1 + y2) % p = 0 then none else _) = _
  rw [if_neg hc]
theorem sum_none {p x1 y1 x2 y2 : Int} {nx : Led} (hpr : Pr p) (h1 : x1 = x2) (h2 : (y1 + y2).fmod p = 0) : IPt nx p .none (lsum p (some (x1, y1)) (some (x2, y2))) := by
  rw [fmodE (by have := hpr.lo; omega)] at h2
  show IPt nx p .none (if x1 = x2 ∧ (y1 + y2) % p = 0 then none else _)
  rw [if_pos ⟨h1, h2⟩]
  rfl
theorem sum_dbl {p x1 y1 x2 y2 z0 z1 z2 z3 z4 z5 : Int} (hpr : Pr p) (hc : ¬ (x1 = x2 ∧ (y1 + y2).fmod p = 0)) (hk : (x1 == x2 && y1 == y2) = true)
    (e0 : z0 = z1 * z1) (e1 : z1 = z4 * z2) (e2 : z2 = pw (z3.fmod p) (p - 2) p) (e3 : z3 = 2 * y1) (e4 : z4 = z5 * x1) (e5 : z5 = 3 * x1) :
    lsum p (some (x1, y1)) (some (x2, y2)) = some ((z0 - x1 - x2).fmod p, (z1 * (x1 - (z0 - x1 - x2).fmod p) - y1).fmod p) := by
  have hp : 0 < p := by have := hpr.lo; omega
  rw [sum_cond hpr hc]
  simp only [Bool.and_eq_true, beq_iff_eq] at hk
  obtain ⟨rfl, rfl⟩ := hk
  rw [if_pos rfl]
  simp only [fmodE hp] at *
  subst e5 e3
  subst e4 e2
  subst e1
  subst e0
  rfl
theorem sum_chd {p x1 y1 x2 y2 z0 z1 z2 : Int} (hpr : Pr p) (hc : ¬ (x1 = x2 ∧ (y1 + y2).fmod p = 0)) (hk : (x1 == x2 && y1 == y2) = false)
    (e0 : z0 = z1 * z1) (e1 : z1 = (y2 - y1) * z2) (e2 : z2 = pw ((x2 - x1).fmod p) (p - 2) p) :
    lsum p (some (x1, y1)) (some (x2, y2)) = some ((z0 - x1 - x2).fmod p, (z1 * (x1 - (z0 - x1 - x2).fmod p) - y1).fmod p) := by
  have hp : 0 < p := by have := hpr.lo; omega
  rw [sum_cond hpr hc]
  have hk' : ¬ ((x1, y1) = (x2, y2)) := fun h => by
    have h1 := Prod.mk.inj h
    simp [h1.1, h1.2] at hk
  rw [if_neg hk']
  simp only [fmodE hp] at *
  subst e2
  subst e1
  subst e0
  rfl
theorem opp_or {p b x1 y1 x2 y2 : Int} (hp : Pr p) (hb : Gb p b) (h1 : On p b (some (x1, y1))) (h2 : On p b (some (x2, y2))) : x1 ≠ x2 ∨ (y1 + y2).fmod p = 0 ∨ y1 = y2 := by
  rcases Decidable.em (x1 = x2) with rfl | h
  · rcases Decidable.em (y2 = y1) with e | hy
    · exact .inr (.inr e.symm)
    · have h := opp_ok hp hb h1 h2 hy
      refine .inr (.inl ?_)
      rw [fmodE (by have := hp.lo; omega)]
      refine Decidable.byContradiction fun e => ?_
      have h' : (if x1 = x1 ∧ (y1 + y2) % p = 0 then none else _) = (none : Option (Int × Int)) := h
      rw [if_neg (fun q => e q.2)] at h'
      exact nomatch h'
  · exact .inl h
theorem e_sum {w : World} {mean} {mg mb} {news : Led} {p : Int} {v : Value} {o : Option (Int × Int)} (hpr : Pr p) {v' : Value} {b : Int} {o' : Option (Int × Int)} (hb : Gb p b) (hv : IPt news p v o) (hv' : IPt news p v' o') (ho : On p b o) (ho' : On p b o') :
    Con w mean mg mb 20 200 news (call (.ref 252) [.int p t, v, v']) (fun nx r => IPt nx p r (lsum p o o')) := by
  have hp1 := hpr.lo
  have hp2 := hpr.hi
  k_with_none
  unfold Con
  k_fill
  w_on
  intro dp un gd cn cs a ccd cl outer A₀ base h₀ L m s Q E B F X N T hk hd hu ret
  obtain ⟨ck, cnm, cg, cc, cmr⟩ := cs
  dsimp only at hk; subst hk
  k_with "execs cons" => (
    (with_reducible show wpAny _ _ (execs [_, _, _, _, _] _) _ _ _)
    k_dflt (
      refine' St.use (d := 19) (Z := fun _ => True) (R := fun nx r => IPt nx p r (lsum p o o')) ?uz9 ?uB9 ?uF9 ?uX9 ?uN9 ?uT9 ?uk9 ?uC9 ?ud9 ?uu9 ?_
      (case uB9 => k_asm); (case uF9 => k_asm); (case uX9 => k_asm); (case uN9 => k_asm); (case uT9 => k_asm); (case uk9 => rfl); (case uz9 => exact True.intro)
      (case uC9 =>
        rcases o with _ | ⟨x1, y1⟩
        · rcases o' with _ | ⟨x2, y2⟩
          · exact St.ifT (Ev.or_t (Si.tisI (by decide) (Ev.loc rfl hv ipt_up))) (St.ret_ (Ev.if_t (Si.tisI (by decide) (Ev.loc rfl hv' ipt_up)) (Ev.loc rfl hv ipt_up)))
          · exact St.ifT (Ev.or_t (Si.tisI (by decide) (Ev.loc rfl hv ipt_up))) (St.ret_ (Ev.if_f (Si.tisI (by decide) (Ev.loc rfl hv' ipt_up)) (Ev.loc rfl hv' ipt_up)))
        rcases o' with _ | ⟨x2, y2⟩
        · exact St.ifT (Ev.or_f (Si.tisI (by decide) (Ev.loc rfl hv ipt_up)) (Ev.or_t (Si.tisI (by decide) (Ev.loc rfl hv' ipt_up)))) (St.ret_ (Ev.if_t (Si.tisI (by decide) (Ev.loc rfl hv' ipt_up)) (Ev.loc rfl hv ipt_up)))
        have hv0 := hv
        have hv0' := hv'
        have hor := opp_or hpr hb ho ho'
        have hp0 : p ≠ 0 := by omega
        obtain ⟨⟨q, t, u, rfl, hq⟩, hx, hy⟩ := hv
        obtain ⟨⟨q', t', u', rfl, hq'⟩, hx', hy'⟩ := hv'
        dsimp only at hx hy hx' hy'
        refine St.ifF (Ev.or_f (Si.tisI (by decide) (Ev.loc rfl hv0 ipt_up)) (Ev.or_f (Si.tisI (by decide) (Ev.loc rfl hv0' ipt_up)) Ev.or_nil)) ?_
        by_cases hc : x1 = x2 ∧ (y1 + y2).fmod p = 0
        · refine St.ifT (Ev.and_t (Si.eq (by decide) (Si.fst rfl hq) (Si.fst rfl hq') (beq_iff_eq.mpr hc.1)) (Ev.and_t (Si.eq (by decide) (Si.mod (by decide) hp0 (Si.add (by decide) (Si.snd rfl hq) (Si.snd rfl hq')) (Ev.loc rfl ⟨_, rfl⟩ int_up)) Ev.int_ (beq_iff_eq.mpr hc.2)) Ev.and_nil)) ?_
          exact St.ret_ (Ev.mono Ev.none_ fun nx r h => by subst h; exact sum_none hpr hc.1 hc.2)
        refine St.ifF ?_ ?_
        · by_cases e1 : x1 = x2
          · exact Ev.and_t (Si.eq (by decide) (Si.fst rfl hq) (Si.fst rfl hq') (beq_iff_eq.mpr e1)) (Ev.and_f (Si.eq (by decide) (Si.mod (by decide) hp0 (Si.add (by decide) (Si.snd rfl hq) (Si.snd rfl hq')) (Ev.loc rfl ⟨_, rfl⟩ int_up)) Ev.int_ (beq_eq_false_iff_ne.mpr fun e2 => hc ⟨e1, e2⟩)))
          · exact Ev.and_f (Si.eq (by decide) (Si.fst rfl hq) (Si.fst rfl hq') (beq_eq_false_iff_ne.mpr e1))
        refine St.if_ (RN1 := fun nx m' => ∃ M : Int, (∃ t, m' (Str.ofString "m") = some (.int M t)) ∧ (-1073741824 ≤ M ∧ M ≤ 1073741824) ∧ lsum p (some (x1, y1)) (some (x2, y2)) = some ((M * M - x1 - x2).fmod p, (M * (x1 - (M * M - x1 - x2).fmod p) - y1).fmod p) ∧ m' (Str.ofString "one") = some (.ref q) ∧ m' (Str.ofString "other") = some (.ref q') ∧ ∃ t, m' (Str.ofString "p") = some (.int p t)) (Ev.tcmp (dC := 15) (uC := 150) (R1 := Is (.ref q)) (R2 := Is (.ref q')) (by decide) (by decide) is_up (Ev.loc rfl rfl is_up) (Ev.loc rfl rfl is_up) fun nx hs x y hx hy => by subst hx hy; exact f_eqtup (hs _ hq) (hs _ hq')) ?_ ?_
        · cases hk : (x1 == x2 && y1 == y2)
          · refine St.asg (Si.mul (by decide) (pw_62 hp1 hp2) (Si.sub (by decide) (Si.snd rfl hq') (Si.snd rfl hq)) (Si.pow (Si.mod (by decide) hp0 (Si.sub (by decide) (Si.fst rfl hq') (Si.fst rfl hq)) (Ev.loc rfl ⟨_, rfl⟩ int_up)) (Si.sub (by decide) (Ev.loc rfl ⟨_, rfl⟩ int_up) Ev.int_) (Ev.loc rfl ⟨_, rfl⟩ int_up) (fm_in hpr _).1 (fm_in hpr _).2 (by omega) (by omega) (gpow w) bpow)) fun n1 s1 v1 k1 => ?_
            obtain ⟨tm, rfl⟩ := k1
            exact St.nil_ fun nx hn => ⟨_, ⟨tm, rfl⟩, chd_bd hpr hy hy', sum_chd hpr hc hk rfl rfl rfl, rfl, rfl, _, rfl⟩
          · refine St.asg (Si.mul (by decide) (pw_62 hp1 hp2) (Si.mul (by decide) (by omega) (Si.mul (by decide) (by omega) Ev.int_ (Si.fst rfl hq)) (Si.fst rfl hq)) (Si.pow (Si.mod (by decide) hp0 (Si.mul (by decide) (by omega) Ev.int_ (Si.snd rfl hq)) (Ev.loc rfl ⟨_, rfl⟩ int_up)) (Si.sub (by decide) (Ev.loc rfl ⟨_, rfl⟩ int_up) Ev.int_) (Ev.loc rfl ⟨_, rfl⟩ int_up) (fm_in hpr _).1 (fm_in hpr _).2 (by omega) (by omega) (gpow w) bpow)) fun n1 s1 v1 k1 => ?_
            obtain ⟨tm, rfl⟩ := k1
            exact St.nil_ fun nx hn => ⟨_, ⟨tm, rfl⟩, dbl_bd hpr hx, sum_dbl hpr hc hk rfl rfl rfl rfl rfl rfl, rfl, rfl, _, rfl⟩
        intro n9 hs9 m9 h9
        obtain ⟨M, ⟨tm, em⟩, bM, eM, e1, e2, tp, ep⟩ := h9
        refine St.asg (Si.mod (by decide) hp0 (Si.sub (by decide) (Si.sub (by decide) (Si.mul (by decide) (by omega) (Ev.loc em ⟨tm, rfl⟩ int_up) (Ev.loc em ⟨tm, rfl⟩ int_up)) (Si.fst e1 (hs9 _ hq))) (Si.fst e2 (hs9 _ hq'))) (Ev.loc ep ⟨tp, rfl⟩ int_up)) fun n1 s1 v1 k1 => ?_
        obtain ⟨tx, rfl⟩ := k1
        refine St.ret_ (Ev.tup int_up int_up (Ev.loc rfl ⟨tx, rfl⟩ int_up) (Si.mod (by decide) hp0 (Si.sub (by decide) (Si.mul (by decide) (sub_62 hpr hx _) (Ev.loc em ⟨tm, rfl⟩ int_up) (Si.sub (by decide) (Si.fst e1 (s1 _ (hs9 _ hq))) (Ev.loc rfl ⟨tx, rfl⟩ int_up))) (Si.snd e1 (s1 _ (hs9 _ hq)))) (Ev.loc ep ⟨tp, rfl⟩ int_up)) fun nx hs q x y hm hx' hy' => ?_)
        obtain ⟨t, rfl⟩ := hx'
        obtain ⟨t', rfl⟩ := hy'
        exact ipt_end eM hm (fm_in hpr _) (fm_in hpr _))
      (case ud9 => k_room); (case uu9 => k_units); k_whole
      intro r' nx' m' h' tk' s' F' N' hR'
      (try dsimp only)
      (try k_fold)))
  k_steps
  all_goals exact ipt_done ret (by assumption) (by assumption) (by assumption) (by assumption)


theorem fdiv_nn {a c : Int} (ha : 0 ≤ a) (hc : 0 ≤ c) : 0 ≤ a.fdiv c := by
  rw [Int.fdiv_eq_ediv_of_nonneg a hc]
  exact Int.ediv_nonneg ha hc

theorem pt_on {p b x y x2 x3 yy c z : Int} (e : yy = y * y) (ez : z = yy % p) (hc : z = c) (ec : c = (x3 + b) % p) (e3 : x3 = x2 * x) (e2 : x2 = x * x) (hx : 0 ≤ x ∧ x < p) (hy : 0 ≤ y ∧ y < p) : On p b (some (x, y)) := by
  refine ⟨⟨hx, hy⟩, ?_⟩
  dsimp only
  rw [← e, ← ez, hc, ec, e3, e2]
theorem pt_y {p b x y : Int} (hb : Gb p b) (h : On p b (some (x, y))) : y ≠ 0 := by
  rintro rfl
  have := h.2
  simp only [Int.mul_zero, Int.zero_emod] at this
  exact hb.2 x this.symm
theorem pt_neg {p b x y : Int} (hb : Gb p b) (h : On p b (some (x, y))) : On p b (some (x, p - y)) := by
  have h1 := pt_y hb h
  have h2 := h.1.2
  dsimp only at h2
  refine ⟨⟨h.1.1, by dsimp only; omega, by dsimp only; omega⟩, ?_⟩
  have h3 := h.2
  dsimp only at h3 ⊢
  rw [← h3, show (p - y) * (p - y) = y * y + p * (p - 2 * y) from by grind, Int.add_mul_emod_self_left]
theorem pt_end {b p x y : Int} {nx : Led} {D : Addr} {t u : Tok} (h : On p b (some (x, y))) (hm : (D, ({ cls := .type "tuple", data := .seq #[.int x t, .int y u] } : Obj)) ∈ nx) : ∃ o, IPt nx p (.ref D) o ∧ On p b o :=
  ⟨_, ipt_end rfl hm h.1.1 h.1.2, h⟩
theorem pt_done {news nx : Led} {p b : Int} {h₀ h' : Heap} {L : Addr} {m : Str → Option Value} {s : Shared} {Q : Value → Shared → Prop} {r : Value} {tk' : Nat}
    (ret : ∀ r tl h' tk', Fr h₀ L h' m → News h₀ L h' (tl ++ news) → (∃ o, IPt (tl ++ news) p r o ∧ On p b o) → Q r { s with heap := h', toks := tk' }) (F : Fr h₀ L h' m) (N : News h₀ L h' nx) (hs : ∀ q ∈ news, q ∈ nx) (h : ∃ o, IPt nx p r o ∧ On p b o) : Q r { s with heap := h', toks := tk' } :=
  con_done (R := fun nx r => ∃ o, IPt nx p r o ∧ On p b o) ret F N hs (by
    obtain ⟨o, a, c⟩ := h
    exact ⟨o, a.sub fun _ k => List.mem_append.mpr (.inl k), c⟩)
theorem e_point {w : World} {mean} {mg mb} {news : Led} {p b k : Int} {t u v : Tok} (hpr : Pr p) (hb : Gb p b) (hk : -2000000000 < k ∧ k < 2000000000) :
    Con w mean mg mb 20 200 news (call (.ref 238) [.int p t, .int b u, .int k v]) (fun nx r => ∃ o, IPt nx p r o ∧ On p b o) := by
  have hp1 := hpr.lo
  have hp2 := hpr.hi
  have hb1 := hb.1
  k_with_none
  unfold Con
  k_fill
  w_on
  intro dp un gd cn cs a ccd cl outer A₀ base h₀ L m s Q E B F X N T hk hd hu ret
  obtain ⟨ck, cnm, cg, cc, cmr⟩ := cs
  dsimp only at hk; subst hk
  k_with "call builtin:pow" => ((with_reducible show wpAny _ _ (call (Value.builtin "pow") [Value.int _ _, Value.int _ _, Value.int _ _]) _ _ _); (refine pow_in (by omega) (by omega) (by first | omega | exact fdiv_nn (by omega) (by decide)) (by omega) ?_); intro z' t' tk' ez' z1' z2'; (try dsimp only))
  k_with "binaryOp Mult int int" => (first | (refine mul_L1 (by omega) (by omega) ?_; intro z' t' tk' ez' z1' z2'; (try dsimp only)) | (refine mul_L2 (by omega) (by omega) ?_; intro z' t' tk' ez' z1' z2'; (try dsimp only)))
  k_with "binaryOp Mod int int" => (refine mod_in (by assumption) ?_; intro z' t' tk' ez' z1' z2'; (try dsimp only))
  k_with "pyIter ref" => k_search (fun (pre : List Int) => True)
  k_steps
  all_goals first
    | (refine' pt_done ret ?f ?n ?sb ⟨none, ?r, ?o⟩; (case f => assumption); (case n => assumption); (case r => exact rfl); (case o => exact True.intro); (case sb => (intro q9 h9; simp only [List.mem_cons, List.mem_append, h9, or_true, true_or])))
    | (refine' pt_done ret ?f ?n ?sb (pt_end ?o ?hm); (case f => assumption); (case n => assumption); (case hm => exact .head _); (case sb => (intro q9 h9; simp only [List.mem_cons, List.mem_append, h9, or_true, true_or])); (case o => first | exact pt_on (by assumption) (by assumption) (by assumption) (by assumption) (by assumption) (by assumption) ⟨by assumption, by assumption⟩ ⟨by assumption, by assumption⟩ | exact pt_neg hb (pt_on (by assumption) (by assumption) (by assumption) (by assumption) (by assumption) (by assumption) ⟨by assumption, by assumption⟩ ⟨by assumption, by assumption⟩)))

noncomputable def bad (p : Int) (b : Int) : Bool := b == 0 || pw (p - b) ((p - 1).fdiv 3) p == 1
/-- the turns to the next number that makes a curve -/
noncomputable def turns (p : Int) : Nat → Int → Nat
  | 0, _ => 0
  | f + 1, b => if bad p b then turns p f ((b + 1) % p) + 1 else 0
theorem turns_all : (primes.all fun p => (List.range p).all fun b => !bad p b || decide (turns p 30 ((b + 1 : Int) % p) < turns p 30 b)) = true := by decide +kernel
theorem cubes_all : (primes.all fun p => (List.range p).all fun x => x == 0 || pw ((x : Int) * x * x % p) (((p : Int) - 1).fdiv 3) p == 1) = true := by decide +kernel
theorem turns_less {p b : Int} (hpr : Pr p) (h0 : 0 ≤ b) (h1 : b < p) (hb : bad p b = true) : turns p 30 ((b + 1) % p) < turns p 30 b := by
  obtain ⟨n, hn, rfl⟩ := hpr
  have h2 := List.all_eq_true.mp (List.all_eq_true.mp turns_all n hn) b.toNat (List.mem_range.mpr (by omega))
  rw [Int.toNat_of_nonneg h0, hb] at h2
  simpa using h2
theorem gb_of {p b : Int} (hpr : Pr p) (h0 : 0 ≤ b) (h1 : b < p) (hb : bad p b = false) : Gb p b := by
  unfold bad at hb
  rw [Bool.or_eq_false_iff] at hb
  have hb0 : b ≠ 0 := by simpa using hb.1
  have hb1 : pw (p - b) ((p - 1).fdiv 3) p ≠ 1 := by simpa using hb.2
  refine ⟨⟨by omega, h1⟩, fun x hx => ?_⟩
  obtain ⟨n, hn, rfl⟩ := hpr
  have hn0 : (n : Int) ≠ 0 := by omega
  have y0 := Int.emod_nonneg x hn0
  have y1 : x % n < n := Int.emod_lt_of_pos _ (by omega)
  have e : x * x * x % (n : Int) = (x % n) * (x % n) * (x % n) % n := by
    simp only [Int.mul_emod, Int.emod_emod]
  have hc : (x * x * x % n + b) % (n : Int) = 0 := by
    rw [Int.emod_add_emod]
    exact hx
  have c0 := Int.emod_nonneg (x * x * x) hn0
  have c1 : x * x * x % n < n := Int.emod_lt_of_pos _ (by omega)
  have hc2 : x * x * x % (n : Int) = n - b := by
    have h := Int.mul_ediv_add_emod (x * x * x % n + b) n
    rw [hc] at h
    generalize (x * x * x % (n : Int) + b) / n = q at h
    have hq : q = 1 := by
      rcases Int.lt_trichotomy q 1 with hq | hq | hq
      · have : n * q ≤ n * 0 := Int.mul_le_mul_of_nonneg_left (by omega) (by omega)
        omega
      · exact hq
      · have : n * 2 ≤ n * q := Int.mul_le_mul_of_nonneg_left (by omega) (by omega)
        omega
    subst hq
    omega
  have h2 := List.all_eq_true.mp (List.all_eq_true.mp cubes_all n hn) (x % n).toNat (List.mem_range.mpr (by omega))
  rw [Int.toNat_of_nonneg y0, ← e, hc2] at h2
  have hz : ((x % (n : Int)).toNat == 0) = false := by
    rw [beq_eq_false_iff_ne]
    intro hz
    have hz' : x % (n : Int) = 0 := by omega
    rw [hz'] at e
    simp at e
    omega
  rw [hz, Bool.false_or] at h2
  exact hb1 (by simpa using h2)
theorem less0 {p b z : Int} (hpr : Pr p) (e : z = (b + 1) % p) (h0 : 0 ≤ b) (h1 : b < p) (hb : b = 0) : turns p 30 z < turns p 30 b := by
  subst e
  exact turns_less hpr h0 h1 (by unfold bad; rw [hb]; rfl)
theorem less1 {p b z y : Int} (hpr : Pr p) (e : z = (b + 1) % p) (h0 : 0 ≤ b) (h1 : b < p) (ey : y = pw (p - b) ((p - 1).fdiv 3) p) (hb : y = 1) : turns p 30 z < turns p 30 b := by
  subst e
  refine turns_less hpr h0 h1 ?_
  unfold bad
  rw [← ey, hb, Bool.or_eq_true]
  exact .inr rfl
theorem curve_end {p b y : Int} (hpr : Pr p) (h0 : 0 ≤ b) (h1 : b < p) (ey : y = pw (p - b) ((p - 1).fdiv 3) p) (hy : y ≠ 1) (hb : b ≠ 0) : Gb p b := by
  refine gb_of hpr h0 h1 ?_
  unfold bad
  rw [← ey, Bool.or_eq_false_iff, beq_eq_false_iff_ne, beq_eq_false_iff_ne]
  exact ⟨hb, hy⟩
theorem e_curve {w : World} {mean} {mg mb} {news : Led} {p k : Int} {t v : Tok} (hpr : Pr p) (hk : -2000000000 < k ∧ k < 2000000000) :
    Con w mean mg mb 20 200 news (call (.ref 231) [.int p t, .int k v]) (fun nx r => ∃ b t', r = .int b t' ∧ Gb p b ∧ True) := by
  have hp1 := hpr.lo
  have hp2 := hpr.hi
  k_with_none
  unfold Con
  k_fill
  w_on
  intro dp un gd cn cs a ccd cl outer A₀ base h₀ L m s Q E B F X N T hk hd hu ret
  obtain ⟨ck, cnm, cg, cc, cmr⟩ := cs
  dsimp only at hk; subst hk
  k_with "call builtin:pow" => ((with_reducible show wpAny _ _ (call (Value.builtin "pow") [Value.int _ _, Value.int _ _, Value.int _ _]) _ _ _); (refine pow_in (by omega) (by omega) (by first | omega | exact fdiv_nn (by omega) (by decide)) (by omega) ?_); intro z' t' tk' ez' z1' z2'; (try dsimp only))
  k_with "binaryOp Mult int int" => (first | (refine mul_L1 (by omega) (by omega) ?_; intro z' t' tk' ez' z1' z2'; (try dsimp only)) | (refine mul_L2 (by omega) (by omega) ?_; intro z' t' tk' ez' z1' z2'; (try dsimp only)))
  k_with "binaryOp Mod int int" => (refine mod_in (by assumption) ?_; intro z' t' tk' ez' z1' z2'; (try dsimp only))
  k_with "state" => (refine ⟨?_, ?_⟩ <;> omega)
  k_with "measure" => k_dflt (first | exact less0 hpr (by assumption) (by assumption) (by assumption) (by assumption) | exact less1 hpr (by assumption) (by assumption) (by assumption) (by assumption) (by assumption))
  k_with "exec While BoolOp cons nil" => k_while (fun (_ : List Int) b => 0 ≤ b ∧ b < p) (fun _ b => turns p 30 b) "b"
  k_steps
  all_goals (refine' con_done (R := fun _ r => ∃ b t', r = .int b t' ∧ Gb p b ∧ True) ret ?f ?n ?sb ⟨_, _, rfl, ?g, trivial⟩; (case f => assumption); (case n => assumption); (case sb => (intro q9 h9; simp only [List.mem_cons, List.mem_append, h9, or_true, true_or])); (case g => exact curve_end hpr (by assumption) (by assumption) (by assumption) (by assumption) (by assumption)))



/-- the reader of the script -/
def AtSays (w : World) (mean : ExcName → Option Value) (mg mb : Str → Option Value) (l : Addr) (vs : List Value) (ns : List Int) (k : Int) (t : Tok) (news : Led) : Prop :=
  ∀ (dp un : Nat) (gd : Option (List Code)) (cn : Str) (cs : Scope) (a : Addr) (ccd : Value) (cl : List (Str × Addr)) (outer : List Env) (A₀ : Around) (base h₀ : Heap) (L : Addr) (m : Str → Option Value) (s : Shared) (Q E : Value → Shared → Prop),
    Below A₀ base outer h₀ → Fr h₀ L s.heap m → (hd.heap_39 w.params).In h₀ → News h₀ L s.heap news → Top hd.view_39 (looseW hd.view_39 []) mean mg mb h₀ → cs.kind = .function → dp + 10 < recursionLimit → un + 100 < cLine →
    base.IsList l vs.toArray → IntsAre vs ns → ns.length < 2 ^ 62 →
    (∀ z t h' tk', Fr h₀ L h' m → News h₀ L h' news → -2000000000 < z ∧ z < 2000000000 → Q (.int z t) { s with heap := h', toks := tk' }) →
    wpAny (model Challenge.rw_lh0027_01.row.prog w) (ktrTop dp un gd cn cs L a ccd cl outer) (call (.ref 224) [.ref l, .int k t]) Q E s

theorem fm3 (a : Int) : -2000000000 < a.fmod 1000003 ∧ a.fmod 1000003 < 2000000000 := by
  rw [Int.fmod_eq_emod_of_nonneg _ (by decide)]
  omega
theorem e_at (w : World) (mean : ExcName → Option Value) (mg mb : Str → Option Value) (l : Addr) (vs : List Value) (ns : List Int) (k : Int) (t : Tok) (news : Led) (hk : 0 ≤ k ∧ k < 100) : AtSays w mean mg mb l vs ns k t news := by
  k_with_none
  unfold AtSays
  k_fill
  w_on
  intro dp un gd cn cs a ccd cl outer A₀ base h₀ L m s Q E B F X N T hk' hd hu hl hi hn ret
  obtain ⟨ck, cnm, cg, cc, cmr⟩ := cs
  dsimp only at hk'; subst hk'
  k_with "no cell" => skip
  k_steps
  all_goals exact ret _ _ _ _ (by assumption) (by assumption) (by first | omega | exact fm3 _)


section
variable {p b : Int} {A B C : Option (Int × Int)} (hpr : Pr p) (hb : Gb p b)
include hpr
theorem ln_on (hA : On p b A) : On p b (lneg p A) := by
  obtain ⟨n, rfl, hn, h0⟩ := hpr.nz
  have : NeZero n := ⟨h0⟩
  exact lneg_on hn hA
include hb
theorem ls_on (hA : On p b A) (hB : On p b B) : On p b (lsum p A B) := by
  obtain ⟨n, rfl, hn, h0⟩ := hpr.nz
  have : NeZero n := ⟨h0⟩
  exact lsum_on hn hb hA hB
theorem ls_comm (hA : On p b A) (hB : On p b B) : lsum p A B = lsum p B A := by
  obtain ⟨n, rfl, hn, h0⟩ := hpr.nz
  have : NeZero n := ⟨h0⟩
  exact lsum_comm hn hb hA hB
theorem ls_assoc (hA : On p b A) (hB : On p b B) (hC : On p b C) : lsum p A (lsum p B C) = lsum p (lsum p A B) C := by
  obtain ⟨n, rfl, hn, h0⟩ := hpr.nz
  have : NeZero n := ⟨h0⟩
  exact (lsum_assoc hn hb hA hB hC).symm
theorem ls_neg (hA : On p b A) : lsum p A (lneg p A) = none := by
  match A with
  | none => rfl
  | some (x, y) =>
    show (if x = x ∧ (y + (p - y) % p) % p = 0 then none else _) = _
    rw [if_pos]
    refine ⟨rfl, ?_⟩
    rw [Int.add_emod_emod, show y + (p - y) = p from by omega, Int.emod_self]
omit hpr hb in
theorem ls_none (A : Option (Int × Int)) : lsum p A none = A := by cases A <;> rfl
omit hpr in
theorem b_mod {c : Int} (v : c = b % p) : b = c := by
  rw [v, Int.emod_eq_of_lt (by have := hb.1; omega) hb.1.2]
omit hpr in
theorem b_mod1 {c : Int} (v : c = (b + 1) % p) : b ≠ c := by
  rw [v]
  intro e
  have h1 := hb.1
  by_cases h : b + 1 = p
  · rw [h, Int.emod_self] at e
    omega
  · rw [Int.emod_eq_of_lt (by omega) (by omega)] at e
    omega
end

theorem f_ne {w : World} {mean} {mg mb} {news : Led} {p : Int} {v : Value} {o : Option (Int × Int)} {v' : Value} {o' : Option (Int × Int)} (hv : IPt news p v o) (hv' : IPt news p v' o') (heq : o = o') :
    Con w mean mg mb 20 200 news (compareOp .NotEq v v') (fun nx r => r = .bool false) := by
  subst heq
  match o with
  | none =>
    have e : v = .none := hv
    subst e
    have e : v' = .none := hv'
    subst e
    k_with_none
    unfold Con
    k_fill
    w_on
    intro dp un gd cn cs a ccd cl outer A₀ base h₀ L m s Q E B F X N T hk hd hu ret
    obtain ⟨ck, cnm, cg, cc, cmr⟩ := cs
    dsimp only at hk; subst hk
    k_steps
    all_goals (exact ret _ [] _ _ (by assumption) (by assumption) rfl)
  | some (x1, y1) =>
    obtain ⟨⟨q', t', u', e, hq'⟩, hx', hy'⟩ := hv'
    subst e
    obtain ⟨⟨q, t, u, e, hq⟩, hx, hy⟩ := hv
    subst e
    dsimp only at hx hy hq hx' hy' hq'
    k_with_none
    unfold Con
    k_fill
    w_on
    intro dp un gd cn cs a ccd cl outer A₀ base h₀ L m s Q E B F X N T hk hd hu ret
    obtain ⟨ck, cnm, cg, cc, cmr⟩ := cs
    dsimp only at hk; subst hk
    k_steps
    all_goals (refine' bool_done ret ?f ?n ?sb ?e; (case f => assumption); (case n => assumption); (case sb => intro q9 h9; simp only [List.mem_cons, List.mem_append, h9, or_true, true_or]); (case e => simp))

theorem f_eq {w : World} {mean} {mg mb} {news : Led} {p : Int} {v : Value} {o : Option (Int × Int)} {v' : Value} {o' : Option (Int × Int)} (hv : IPt news p v o) (hv' : IPt news p v' o') (heq : o = o') :
    Con w mean mg mb 20 200 news (compareOp .Eq v v') (fun nx r => r = .bool true) := by
  subst heq
  match o with
  | none =>
    have e : v = .none := hv
    subst e
    have e : v' = .none := hv'
    subst e
    k_with_none
    unfold Con
    k_fill
    w_on
    intro dp un gd cn cs a ccd cl outer A₀ base h₀ L m s Q E B F X N T hk hd hu ret
    obtain ⟨ck, cnm, cg, cc, cmr⟩ := cs
    dsimp only at hk; subst hk
    k_steps
    all_goals (exact ret _ [] _ _ (by assumption) (by assumption) rfl)
  | some (x1, y1) =>
    obtain ⟨⟨q', t', u', e, hq'⟩, hx', hy'⟩ := hv'
    subst e
    obtain ⟨⟨q, t, u, e, hq⟩, hx, hy⟩ := hv
    subst e
    dsimp only at hx hy hq hx' hy' hq'
    k_with_none
    unfold Con
    k_fill
    w_on
    intro dp un gd cn cs a ccd cl outer A₀ base h₀ L m s Q E B F X N T hk hd hu ret
    obtain ⟨ck, cnm, cg, cc, cmr⟩ := cs
    dsimp only at hk; subst hk
    k_steps
    all_goals (refine' bool_done ret ?f ?n ?sb ?e; (case f => assumption); (case n => assumption); (case sb => intro q9 h9; simp only [List.mem_cons, List.mem_append, h9, or_true, true_or]); (case e => simp))

theorem f_neb {w : World} {mean} {mg mb} {news : Led} (a : Bool) :
    Con w mean mg mb 20 200 news (compareOp .NotEq (.bool a) (.bool a)) (fun nx r => r = .bool false) := by
  cases a
  all_goals
    k_with_none
    unfold Con
    k_fill
    w_on
    intro dp un gd cn cs a ccd cl outer A₀ base h₀ L m s Q E B F X N T hk hd hu ret
    obtain ⟨ck, cnm, cg, cc, cmr⟩ := cs
    dsimp only at hk; subst hk
    k_steps
    all_goals (exact ret _ [] _ _ (by assumption) (by assumption) rfl)


/-- the list that _law_primes makes -/
theorem prime_item {prog : Program} {w : World} {A : Around} {E : Value → Shared → Prop} {s : Shared} {value slice : PySem.Expr} {l : Addr} {k : Int} {u t1 t2 t3 t4 t5 t6 t7 t8 : Tok} {Q : Value → Shared → Prop}
    (hl : s.heap.IsList l [Value.int 7 t1, .int 19 t2, .int 31 t3, .int 43 t4, .int 67 t5, .int 79 t6, .int 103 t7, .int 127 t8].toArray) (h0 : 0 ≤ k) (h1 : k < 8)
    (hs : subscripted slice false (.ref l) (.int k u) = operate [.ref l, .int k u] (getItem (.ref l) (.int k u))) (h : ∀ p t, Pr p → Q (.int p t) s) :
    wpAny (model prog w) A (subscriptTail value slice (.ref l) (.int k u)) Q E s := by
  have hk : k = 0 ∨ k = 1 ∨ k = 2 ∨ k = 3 ∨ k = 4 ∨ k = 5 ∨ k = 6 ∨ k = 7 := by omega
  have pr : ∀ q : Nat, q ∈ primes → Pr (q : Int) := fun q hq => ⟨q, hq, rfl⟩
  have hx : ∃ (p : Int) (t : Tok), Pr p ∧ [Value.int 7 t1, .int 19 t2, .int 31 t3, .int 43 t4, .int 67 t5, .int 79 t6, .int 103 t7, .int 127 t8].toArray[k.toNat]? = some (.int p t) := by
    rcases hk with rfl | rfl | rfl | rfl | rfl | rfl | rfl | rfl
    · exact ⟨_, t1, pr 7 (by decide), rfl⟩
    · exact ⟨_, t2, pr 19 (by decide), rfl⟩
    · exact ⟨_, t3, pr 31 (by decide), rfl⟩
    · exact ⟨_, t4, pr 43 (by decide), rfl⟩
    · exact ⟨_, t5, pr 67 (by decide), rfl⟩
    · exact ⟨_, t6, pr 79 (by decide), rfl⟩
    · exact ⟨_, t7, pr 103 (by decide), rfl⟩
    · exact ⟨_, t8, pr 127 (by decide), rfl⟩
  obtain ⟨p, t, hp, hx⟩ := hx
  exact tail_any hl.typeIs slot_list_getitem.lookup (wpAny_getItem_list hl h0 (by omega) hx (h p t hp)) hs
theorem fm8 (a : Int) : 0 ≤ a.fmod 8 ∧ a.fmod 8 < 8 := by
  rw [Int.fmod_eq_emod_of_nonneg _ (by decide)]
  omega
theorem f_on1 {w : World} {mean} {mg mb} {news : Led} {p b c : Int} {v : Value} {o : Option (Int × Int)} {q0 : Addr} (hpr : Pr p) (hb : Gb p b) (hv : FPt w news p v o) (hq : Fq w news q0 p c) (ho : On p b o) (e : b = c) :
    Con w mean mg mb 20 200 news (call (.ref 35) [v, .ref q0]) (fun nx r => r = .bool true) :=
  (e_on hpr hv hq ho ⟨by have := hb.1; omega, hb.1.2⟩).mono (fun nx r h => by rw [h, e]; simp) (by omega) (by omega)
theorem f_on2 {w : World} {mean} {mg mb} {news : Led} {p b c : Int} {v : Value} {o : Option (Int × Int)} {q0 : Addr} (hpr : Pr p) (hb : Gb p b) (hv : FPt w news p v o) (hq : Fq w news q0 p c) (ho : On p b o) (e : b ≠ c) (hn : o.isNone = false) :
    Con w mean mg mb 20 200 news (call (.ref 35) [v, .ref q0]) (fun nx r => r = .bool false) :=
  (e_on hpr hv hq ho ⟨by have := hb.1; omega, hb.1.2⟩).mono (fun nx r h => by rw [h, hn]; simp [e]) (by omega) (by omega)

theorem f_isnb {w : World} {mean} {mg mb} {news : Led} {b : Bool} : Con w mean mg mb 10 100 news (compareOp .IsNot (.bool b) (.bool b)) (fun nx r => r = .bool false) := by
  cases b
  all_goals
    k_with_none
    unfold Con
    k_fill
    w_on
    intro dp un gd cn cs a ccd cl outer A₀ base h₀ L m s Q E B F X N T hk hd hu ret
    obtain ⟨ck, cnm, cg, cc, cmr⟩ := cs
    dsimp only at hk; subst hk
    k_steps
    all_goals (exact ret _ [] _ _ (by assumption) (by assumption) rfl)
section
variable {w : World} {mean : ExcName → Option Value} {mg mb : Str → Option Value} {d : Nat} {cn : Str} {cs : Scope} {a : Addr} {ccd : Value} {Z : Heap → Prop} {m : Str → Option Value} {news : Led} {e1 e2 e3 : PySem.Expr} {pos fp : Pos} {p b : Int} {o o1 o2 : Option (Int × Int)} (hd : 30 ≤ d)
include hd
theorem Lw.ne {wh : Env → Sem Value} (h1 : Ev w mean mg mb d cn cs a ccd Z m news (eval e1) (IPR p o1)) (h2 : Ev w mean mg mb d cn cs a ccd Z m news (eval e2) (IPR p o2)) (he : o1 = o2) (hm : behindInMarks .NotEq e2 = false := by with_unfolding_all rfl) : Ev w mean mg mb d cn cs a ccd Z m news (fun env => isTrue (.Compare e1 [.NotEq] [e2] pos) env (wh env)) (Tr false) :=
  Ev.tcmp (dC := 20) (uC := 200) (by omega) (by omega) ipt_up h1 h2 (fun nx hs u v hu hv => f_ne hu hv he) hm
theorem Lw.eq (h1 : Ev w mean mg mb d cn cs a ccd Z m news (eval e1) (IPR p o1)) (h2 : Ev w mean mg mb d cn cs a ccd Z m news (eval e2) (IPR p o2)) (he : o1 = o2) (hm : behindInMarks .Eq e2 = false := by with_unfolding_all rfl) : Ev w mean mg mb d cn cs a ccd Z m news (eval (.Compare e1 [.Eq] [e2] pos)) (Is (.bool true)) :=
  Ev.cmp (dC := 20) (uC := 200) (by omega) (by omega) ipt_up h1 h2 (fun nx hs u v hu hv => f_eq hu hv he) hm
theorem Lw.neb {c : Bool} {wh : Env → Sem Value} (h1 : Ev w mean mg mb d cn cs a ccd Z m news (eval e1) (Is (.bool c))) (h2 : Ev w mean mg mb d cn cs a ccd Z m news (eval e2) (Is (.bool c))) (hm : behindInMarks .NotEq e2 = false := by with_unfolding_all rfl) : Ev w mean mg mb d cn cs a ccd Z m news (fun env => isTrue (.Compare e1 [.NotEq] [e2] pos) env (wh env)) (Tr false) :=
  Ev.tcmp (dC := 20) (uC := 200) (by omega) (by omega) is_up h1 h2 (fun nx hs u v hu hv => by subst hu hv; exact f_neb c) hm
theorem Lw.isnb {c : Bool} {k} {p2 : Pos} {wh : Env → Sem Value} (h1 : Ev w mean mg mb d cn cs a ccd Z m news (eval e1) (Is (.bool c))) : Ev w mean mg mb d cn cs a ccd Z m news (fun env => isTrue (.Compare e1 [.IsNot] [.Constant (.bool c) k p2] pos) env (wh env)) (Tr false) :=
  Ev.tcmp (dC := 10) (uC := 100) (by omega) (by omega) is_up h1 true_ (fun nx hs u v hu hv => by subst hu hv; exact f_isnb)
theorem Lw.isI {k} {p2 : Pos} (h1 : Ev w mean mg mb d cn cs a ccd Z m news (eval e1) (IPR p o)) : Ev w mean mg mb d cn cs a ccd Z m news (eval (.Compare e1 [.Is] [.Constant .none k p2] pos)) (Is (.bool o.isNone)) :=
  Ev.cmp (dC := 10) (uC := 100) (by omega) (by omega) ipt_up h1 Ev.none_ fun nx hs x y hx hy => by subst hy; exact f_isI hx
theorem Lw.tisIn {k} {p2 : Pos} {wh : Env → Sem Value} {c : Bool} (h1 : Ev w mean mg mb d cn cs a ccd Z m news (eval e1) (IPR p o)) (hc : (!o.isNone) = c) : Ev w mean mg mb d cn cs a ccd Z m news (fun env => isTrue (.Compare e1 [.IsNot] [.Constant .none k p2] pos) env (wh env)) (Tr c) := hc ▸
  Ev.tcmp (dC := 10) (uC := 100) (by omega) (by omega) ipt_up h1 Ev.none_ fun nx hs x y hx hy => by subst hy; exact f_isIn hx
theorem Lw.isF (h1 : Ev w mean mg mb d cn cs a ccd Z m news (eval e1) (FPR w p o)) {k} {p2 : Pos} (he : o = none) : Ev w mean mg mb d cn cs a ccd Z m news (eval (.Compare e1 [.Is] [.Constant .none k p2] pos)) (Is (.bool true)) := by
  subst he
  exact Ev.isF (by omega) h1
variable (hpr : Pr p)
include hpr
theorem Lw.told  (h1 : Ev w mean mg mb d cn cs a ccd Z m news (eval e1) (FPR w p o)) (hx : ∀ L, (envX cn cs L a ccd []).kindOf (Str.ofString "_law_told") = some .globalImplicit := by exact fun _ => rfl) (hp1 : ∀ L, starEach [e1] (envX cn cs L a ccd []) = (false, eval e1 (envX cn cs L a ccd [])) :: starEach [] (envX cn cs L a ccd []) := by exact fun _ => rfl) : Ev w mean mg mb d cn cs a ccd Z m news (eval (.Call (.Name (Str.ofString "_law_told") fp) [e1] [] pos)) (IPR p o) :=
  Ev.call1 (dC := 20) (uC := 200) (by omega) (by omega)  (g266 w) (k266 w) hx (by decide)  h1 (fun nx hs x h => e_told hpr h) hp1
theorem Lw.made  (h1 : Ev w mean mg mb d cn cs a ccd Z m news (eval e1) (IntR p)) (h2 : Ev w mean mg mb d cn cs a ccd Z m news (eval e2) (IPR p o)) (hx : ∀ L, (envX cn cs L a ccd []).kindOf (Str.ofString "_law_made") = some .globalImplicit := by exact fun _ => rfl) (hp1 : ∀ L, starEach [e1, e2] (envX cn cs L a ccd []) = (false, eval e1 (envX cn cs L a ccd [])) :: starEach [e2] (envX cn cs L a ccd []) := by exact fun _ => rfl) (hp2 : ∀ L, starEach [e2] (envX cn cs L a ccd []) = (false, eval e2 (envX cn cs L a ccd [])) :: starEach [] (envX cn cs L a ccd []) := by exact fun _ => rfl) : Ev w mean mg mb d cn cs a ccd Z m news (eval (.Call (.Name (Str.ofString "_law_made") fp) [e1, e2] [] pos)) (FPR w p o) :=
  Ev.call2 (dC := 20) (uC := 200) (by omega) (by omega) int_up (g259 w) (k259 w) hx (by decide)  h1 h2 (fun nx hs x y hx hy => by obtain ⟨t, rfl⟩ := hx; exact e_made hpr hy) hp1 hp2
theorem Lw.minus  (h1 : Ev w mean mg mb d cn cs a ccd Z m news (eval e1) (IntR p)) (h2 : Ev w mean mg mb d cn cs a ccd Z m news (eval e2) (IPR p o)) (hx : ∀ L, (envX cn cs L a ccd []).kindOf (Str.ofString "_law_minus") = some .globalImplicit := by exact fun _ => rfl) (hp1 : ∀ L, starEach [e1, e2] (envX cn cs L a ccd []) = (false, eval e1 (envX cn cs L a ccd [])) :: starEach [e2] (envX cn cs L a ccd []) := by exact fun _ => rfl) (hp2 : ∀ L, starEach [e2] (envX cn cs L a ccd []) = (false, eval e2 (envX cn cs L a ccd [])) :: starEach [] (envX cn cs L a ccd []) := by exact fun _ => rfl) : Ev w mean mg mb d cn cs a ccd Z m news (eval (.Call (.Name (Str.ofString "_law_minus") fp) [e1, e2] [] pos)) (IPR p (lneg p o)) :=
  Ev.call2 (dC := 20) (uC := 200) (by omega) (by omega) int_up (g245 w) (k245 w) hx (by decide)  h1 h2 (fun nx hs x y hx hy => by obtain ⟨t, rfl⟩ := hx; exact e_minus hpr hy) hp1 hp2
theorem Lw.neg  (h1 : Ev w mean mg mb d cn cs a ccd Z m news (eval e1) (FPR w p o)) (hx : ∀ L, (envX cn cs L a ccd []).kindOf (Str.ofString "neg") = some .globalImplicit := by exact fun _ => rfl) (hp1 : ∀ L, starEach [e1] (envX cn cs L a ccd []) = (false, eval e1 (envX cn cs L a ccd [])) :: starEach [] (envX cn cs L a ccd []) := by exact fun _ => rfl) : Ev w mean mg mb d cn cs a ccd Z m news (eval (.Call (.Name (Str.ofString "neg") fp) [e1] [] pos)) (FPR w p (lneg p o)) :=
  Ev.call1 (dC := 20) (uC := 200) (by omega) (by omega)  (g56 w) (k56 w) hx (by decide)  h1 (fun nx hs x h => e_neg hpr h) hp1
theorem Lw.curve  (h1 : Ev w mean mg mb d cn cs a ccd Z m news (eval e1) (IntR p)) (h2 : Ev w mean mg mb d cn cs a ccd Z m news (eval e2) (fun _ r => ∃ k t, r = .int k t ∧ -2000000000 < k ∧ k < 2000000000)) (hx : ∀ L, (envX cn cs L a ccd []).kindOf (Str.ofString "_law_curve") = some .globalImplicit := by exact fun _ => rfl) (hp1 : ∀ L, starEach [e1, e2] (envX cn cs L a ccd []) = (false, eval e1 (envX cn cs L a ccd [])) :: starEach [e2] (envX cn cs L a ccd []) := by exact fun _ => rfl) (hp2 : ∀ L, starEach [e2] (envX cn cs L a ccd []) = (false, eval e2 (envX cn cs L a ccd [])) :: starEach [] (envX cn cs L a ccd []) := by exact fun _ => rfl) : Ev w mean mg mb d cn cs a ccd Z m news (eval (.Call (.Name (Str.ofString "_law_curve") fp) [e1, e2] [] pos)) (fun _ r => ∃ b t, r = .int b t ∧ Gb p b ∧ True) :=
  Ev.call2 (dC := 20) (uC := 200) (by omega) (by omega) int_up (g231 w) (k231 w) hx (by decide)  h1 h2 (fun nx hs x y hx hy => by obtain ⟨t, rfl⟩ := hx; obtain ⟨k, t2, rfl, hk⟩ := hy; exact e_curve hpr hk) hp1 hp2
variable (hb : Gb p b)
include hb
theorem Lw.point  (h1 : Ev w mean mg mb d cn cs a ccd Z m news (eval e1) (IntR p)) (h2 : Ev w mean mg mb d cn cs a ccd Z m news (eval e2) (IntR b)) (h3 : Ev w mean mg mb d cn cs a ccd Z m news (eval e3) (fun _ r => ∃ k t, r = .int k t ∧ -2000000000 < k ∧ k < 2000000000)) (hx : ∀ L, (envX cn cs L a ccd []).kindOf (Str.ofString "_law_point") = some .globalImplicit := by exact fun _ => rfl) (hp1 : ∀ L, starEach [e1, e2, e3] (envX cn cs L a ccd []) = (false, eval e1 (envX cn cs L a ccd [])) :: starEach [e2, e3] (envX cn cs L a ccd []) := by exact fun _ => rfl) (hp2 : ∀ L, starEach [e2, e3] (envX cn cs L a ccd []) = (false, eval e2 (envX cn cs L a ccd [])) :: starEach [e3] (envX cn cs L a ccd []) := by exact fun _ => rfl) (hp3 : ∀ L, starEach [e3] (envX cn cs L a ccd []) = (false, eval e3 (envX cn cs L a ccd [])) :: starEach [] (envX cn cs L a ccd []) := by exact fun _ => rfl) : Ev w mean mg mb d cn cs a ccd Z m news (eval (.Call (.Name (Str.ofString "_law_point") fp) [e1, e2, e3] [] pos)) (fun nx r => ∃ o, IPt nx p r o ∧ On p b o) :=
  Ev.call3 (dC := 20) (uC := 200) (by omega) (by omega) int_up (g238 w) (k238 w) hx (by decide) int_up h1 h2 h3 (fun nx hs x y z hx hy hz => by obtain ⟨t, rfl⟩ := hx; obtain ⟨t', rfl⟩ := hy; obtain ⟨k, t2, rfl, hk⟩ := hz; exact e_point hpr hb hk) hp1 hp2 hp3
theorem Lw.dbl (ho : On p b o) (h1 : Ev w mean mg mb d cn cs a ccd Z m news (eval e1) (FPR w p o)) (hx : ∀ L, (envX cn cs L a ccd []).kindOf (Str.ofString "double") = some .globalImplicit := by exact fun _ => rfl) (hp1 : ∀ L, starEach [e1] (envX cn cs L a ccd []) = (false, eval e1 (envX cn cs L a ccd [])) :: starEach [] (envX cn cs L a ccd []) := by exact fun _ => rfl) : Ev w mean mg mb d cn cs a ccd Z m news (eval (.Call (.Name (Str.ofString "double") fp) [e1] [] pos)) (FPR w p (lsum p o o)) :=
  Ev.call1 (dC := 20) (uC := 200) (by omega) (by omega)  (g42 w) (k42 w) hx (by decide)  h1 (fun nx hs x h => e_double hpr hb h ho) hp1
variable (ho1 : On p b o1) (ho2 : On p b o2)
include ho1
theorem Lw.on1  (h1 : Ev w mean mg mb d cn cs a ccd Z m news (eval e1) (FPR w p o1)) (h2 : Ev w mean mg mb d cn cs a ccd Z m news (eval e2) (FqR w p (b % p))) (hx : ∀ L, (envX cn cs L a ccd []).kindOf (Str.ofString "is_on_curve") = some .globalImplicit := by exact fun _ => rfl) (hp1 : ∀ L, starEach [e1, e2] (envX cn cs L a ccd []) = (false, eval e1 (envX cn cs L a ccd [])) :: starEach [e2] (envX cn cs L a ccd []) := by exact fun _ => rfl) (hp2 : ∀ L, starEach [e2] (envX cn cs L a ccd []) = (false, eval e2 (envX cn cs L a ccd [])) :: starEach [] (envX cn cs L a ccd []) := by exact fun _ => rfl) : Ev w mean mg mb d cn cs a ccd Z m news (eval (.Call (.Name (Str.ofString "is_on_curve") fp) [e1, e2] [] pos)) (Is (.bool true)) :=
  Ev.call2 (dC := 20) (uC := 200) (by omega) (by omega) fpt_up (g35 w) (k35 w) hx (by decide)  h1 h2 (fun nx hs x y hx hy => by obtain ⟨z, rfl, hy⟩ := hy; exact f_on1 hpr hb hx hy ho1 (b_mod hb rfl)) hp1 hp2
theorem Lw.on2 (hn : o1.isNone = false) (h1 : Ev w mean mg mb d cn cs a ccd Z m news (eval e1) (FPR w p o1)) (h2 : Ev w mean mg mb d cn cs a ccd Z m news (eval e2) (FqR w p ((b + 1) % p))) (hx : ∀ L, (envX cn cs L a ccd []).kindOf (Str.ofString "is_on_curve") = some .globalImplicit := by exact fun _ => rfl) (hp1 : ∀ L, starEach [e1, e2] (envX cn cs L a ccd []) = (false, eval e1 (envX cn cs L a ccd [])) :: starEach [e2] (envX cn cs L a ccd []) := by exact fun _ => rfl) (hp2 : ∀ L, starEach [e2] (envX cn cs L a ccd []) = (false, eval e2 (envX cn cs L a ccd [])) :: starEach [] (envX cn cs L a ccd []) := by exact fun _ => rfl) : Ev w mean mg mb d cn cs a ccd Z m news (eval (.Call (.Name (Str.ofString "is_on_curve") fp) [e1, e2] [] pos)) (Is (.bool false)) :=
  Ev.call2 (dC := 20) (uC := 200) (by omega) (by omega) fpt_up (g35 w) (k35 w) hx (by decide)  h1 h2 (fun nx hs x y hx hy => by obtain ⟨z, rfl, hy⟩ := hy; exact f_on2 hpr hb hx hy ho1 (b_mod1 hb rfl) hn) hp1 hp2
include ho2
theorem Lw.sum  (h1 : Ev w mean mg mb d cn cs a ccd Z m news (eval e1) (IntR p)) (h2 : Ev w mean mg mb d cn cs a ccd Z m news (eval e2) (IPR p o1)) (h3 : Ev w mean mg mb d cn cs a ccd Z m news (eval e3) (IPR p o2)) (hx : ∀ L, (envX cn cs L a ccd []).kindOf (Str.ofString "_law_sum") = some .globalImplicit := by exact fun _ => rfl) (hp1 : ∀ L, starEach [e1, e2, e3] (envX cn cs L a ccd []) = (false, eval e1 (envX cn cs L a ccd [])) :: starEach [e2, e3] (envX cn cs L a ccd []) := by exact fun _ => rfl) (hp2 : ∀ L, starEach [e2, e3] (envX cn cs L a ccd []) = (false, eval e2 (envX cn cs L a ccd [])) :: starEach [e3] (envX cn cs L a ccd []) := by exact fun _ => rfl) (hp3 : ∀ L, starEach [e3] (envX cn cs L a ccd []) = (false, eval e3 (envX cn cs L a ccd [])) :: starEach [] (envX cn cs L a ccd []) := by exact fun _ => rfl) : Ev w mean mg mb d cn cs a ccd Z m news (eval (.Call (.Name (Str.ofString "_law_sum") fp) [e1, e2, e3] [] pos)) (IPR p (lsum p o1 o2)) :=
  Ev.call3 (dC := 20) (uC := 200) (by omega) (by omega) int_up (g252 w) (k252 w) hx (by decide) ipt_up h1 h2 h3 (fun nx hs x y z hx hy hz => by obtain ⟨t, rfl⟩ := hx; exact e_sum hpr hb hy hz ho1 ho2) hp1 hp2 hp3
theorem Lw.add  (h1 : Ev w mean mg mb d cn cs a ccd Z m news (eval e1) (FPR w p o1)) (h2 : Ev w mean mg mb d cn cs a ccd Z m news (eval e2) (FPR w p o2)) (hx : ∀ L, (envX cn cs L a ccd []).kindOf (Str.ofString "add") = some .globalImplicit := by exact fun _ => rfl) (hp1 : ∀ L, starEach [e1, e2] (envX cn cs L a ccd []) = (false, eval e1 (envX cn cs L a ccd [])) :: starEach [e2] (envX cn cs L a ccd []) := by exact fun _ => rfl) (hp2 : ∀ L, starEach [e2] (envX cn cs L a ccd []) = (false, eval e2 (envX cn cs L a ccd [])) :: starEach [] (envX cn cs L a ccd []) := by exact fun _ => rfl) : Ev w mean mg mb d cn cs a ccd Z m news (eval (.Call (.Name (Str.ofString "add") fp) [e1, e2] [] pos)) (FPR w p (lsum p o1 o2)) :=
  Ev.call2 (dC := 30) (uC := 300) (by omega) (by omega) fpt_up (g49 w) (k49 w) hx (by decide)  h1 h2 (fun nx hs x y hx hy => e_add hpr hb hx hy ho1 ho2) hp1 hp2
end
theorem g224 (w : World) : nsIn (hd.heap_39 w.params) mainGlobals (Str.ofString "_law_at") = some (some (.ref 224)) := by k_is
theorem k224 (w : World) : keepIn (hd.heap_39 w.params) (.ref 224) = true := by k_is
theorem Lw.at {w : World} {mean : ExcName → Option Value} {mg mb : Str → Option Value} {d : Nat} {cn : Str} {cs : Scope} {a : Addr} {ccd : Value} {m : Str → Option Value} {news : Led} {e1 e2 : PySem.Expr} {pos fp : Pos} {l : Addr} {vs : List Value} {ns : List Int} {k : Int} (hd9 : 10 ≤ d) (hi : IntsAre vs ns) (hn : ns.length < 2 ^ 62) (hk9 : 0 ≤ k ∧ k < 100) (h1 : Ev w mean mg mb d cn cs a ccd (fun base => base.IsList l vs.toArray) m news (eval e1) (Is (.ref l))) (h2 : Ev w mean mg mb d cn cs a ccd (fun base => base.IsList l vs.toArray) m news (eval e2) (IntR k)) (hx : ∀ L, (envX cn cs L a ccd []).kindOf (Str.ofString "_law_at") = some .globalImplicit := by exact fun _ => rfl) (hp1 : ∀ L, starEach [e1, e2] (envX cn cs L a ccd []) = (false, eval e1 (envX cn cs L a ccd [])) :: starEach [e2] (envX cn cs L a ccd []) := by exact fun _ => rfl) (hp2 : ∀ L, starEach [e2] (envX cn cs L a ccd []) = (false, eval e2 (envX cn cs L a ccd [])) :: starEach [] (envX cn cs L a ccd []) := by exact fun _ => rfl) :
    Ev w mean mg mb d cn cs a ccd (fun base => base.IsList l vs.toArray) m news (eval (.Call (.Name (Str.ofString "_law_at") fp) [e1, e2] [] pos)) (fun _ r => ∃ k t, r = .int k t ∧ -2000000000 < k ∧ k < 2000000000) := by
  intro nw hs dp un gd outer A₀ base h₀ L s Q E hz B F X N T hk hd hu ret
  refine Call_ ?_
  refine nameX_K F X (by k_asm) (g224 w) ?_ hk (hx L) (by decide)
  refine callWith_K X (k224 w) ?_ (hp1 L) (by rw [hp2 L]; rfl)
  refine spliced_more ?_ (hp1 L)
  refine h1 nw hs dp un gd outer A₀ base h₀ L _ _ E hz B F X N T hk hd hu fun x n1 h1' tk1 s1 F1 N1 r1 => ?_
  refine spliced_more ?_ (hp2 L)
  refine h2 n1 (fun q k => s1 q (hs q k)) dp un gd outer A₀ base h₀ L _ _ E hz B F1 X N1 T hk hd hu fun y n2 h2' tk2 s2 F2 N2 r2 => ?_
  refine spliced_none ?_
  refine ⟨X.keeps F2.keep, ?_⟩
  subst r1
  obtain ⟨t, rfl⟩ := r2
  exact e_at w mean mg mb l vs ns k t n2 hk9 dp un gd cn cs a ccd [] outer A₀ base h₀ L m _ _ E B F2 X N2 T hk (by omega) (by omega) hz hi hn fun z t h' tk' F' N' hz' => ret _ n2 h' tk' (fun q k => s2 q (s1 q k)) F' N' ⟨z, t, rfl, hz'⟩
theorem Lw.atmod {w : World} {mean : ExcName → Option Value} {mg mb : Str → Option Value} {d : Nat} {cn : Str} {cs : Scope} {a : Addr} {ccd : Value} {Z : Heap → Prop} {m : Str → Option Value} {news : Led} {e1 : PySem.Expr} {pos p2 : Pos} {k9 : Nat} {c : Int} (hd : 10 ≤ d) (hc : c ≠ 0) (h1 : Ev w mean mg mb d cn cs a ccd Z m news (eval e1) (fun _ r => ∃ k t, r = .int k t ∧ -2000000000 < k ∧ k < 2000000000)) : Ev w mean mg mb d cn cs a ccd Z m news (eval (.BinOp e1 .Mod (.Constant (.int c) k9 p2) pos)) (fun _ r => ∃ (k : Int) (t : Tok), r = .int (k.fmod c) t) :=
  Ev.bin (dC := 10) (uC := 100) (by omega) (by omega) (fun n n' v h hs => h) h1 Ev.int_ fun nx hs u v hu hv => by
    obtain ⟨k, t, rfl, -⟩ := hu
    obtain ⟨t', rfl⟩ := hv
    exact (f_modint hc).mono (fun nx r h => ⟨k, h⟩) (Nat.le_refl _) (Nat.le_refl _)
theorem any_up {c : Int} : Up (fun (_ : Led) (r : Value) => ∃ (k : Int) (t : Tok), r = .int (k.fmod c) t) := fun n n' v h hs => h
theorem pt_up {p b : Int} : Up (fun nx r => ∃ o, IPt nx p r o ∧ On p b o) := fun n n' v h hs => by
  obtain ⟨o, h1, h2⟩ := h
  exact ⟨o, h1.sub hs, h2⟩
theorem g217 (w : World) : nsIn (hd.heap_39 w.params) mainGlobals (Str.ofString "_law_primes") = some (some (.ref 217)) := by k_is
theorem k217 (w : World) : keepIn (hd.heap_39 w.params) (.ref 217) = true := by k_is
theorem c_primes {w : World} {mean} {mg mb} {news : Led} : Con w mean mg mb 10 100 news (call (.ref 217) []) (fun nx r => ∃ l t1 t2 t3 t4 t5 t6 t7 t8, r = .ref l ∧ ∀ h₀ L h, News h₀ L h nx → h.IsList l [Value.int 7 t1, .int 19 t2, .int 31 t3, .int 43 t4, .int 67 t5, .int 79 t6, .int 103 t7, .int 127 t8].toArray) := by
  k_with_none
  unfold Con
  k_fill
  w_on
  intro dp un gd cn cs a ccd cl outer A₀ base h₀ L m s Q E B F X N T hk hd hu ret
  obtain ⟨ck, cnm, cg, cc, cmr⟩ := cs
  dsimp only at hk; subst hk
  k_steps
  all_goals exact ret _ [_] _ _ (by assumption) (by assumption) ⟨_, _, _, _, _, _, _, _, _, rfl, fun _ _ _ N => N.isList (.head _)⟩
theorem Lw.prime {w : World} {mean : ExcName → Option Value} {mg mb : Str → Option Value} {d : Nat} {cn : Str} {cs : Scope} {a : Addr} {ccd : Value} {Z : Heap → Prop} {m : Str → Option Value} {news : Led} {e2 : PySem.Expr} {pos fp p2 : Pos} (hd9 : 10 ≤ d) (h2 : Ev w mean mg mb d cn cs a ccd Z m news (eval e2) (fun _ r => ∃ (k : Int) (t : Tok), r = .int (k.fmod 8) t)) (hx : ∀ L, (envX cn cs L a ccd []).kindOf (Str.ofString "_law_primes") = some .globalImplicit := by exact fun _ => rfl) (hs9 : ∀ l k u, subscripted e2 false (.ref l) (.int k u) = operate [.ref l, .int k u] (getItem (.ref l) (.int k u)) := by intro l k u; with_unfolding_all rfl) :
    Ev w mean mg mb d cn cs a ccd Z m news (eval (.Subscript (.Call (.Name (Str.ofString "_law_primes") fp) [] [] p2) e2 pos)) (fun _ r => ∃ p t, r = .int p t ∧ Pr p) := by
  intro nw hs dp un gd outer A₀ base h₀ L s Q E hz B F X N T hk hd hu ret
  refine Subscript_ (Call_ ?_)
  refine nameX_K F X (by k_asm) (g217 w) ?_ hk (hx L) (by decide)
  refine callWith_K0 (X.keeps F.keep) (k217 w) ?_
  refine c_primes dp un gd cn cs a ccd [] outer A₀ base h₀ L m _ _ E B F X N T hk (by omega) (by omega) fun r tl h1' tk1 F1 N1 r1 => ?_
  obtain ⟨l, t1, t2, t3, t4, t5, t6, t7, t8, rfl, hl⟩ := r1
  refine h2 _ (fun q k => List.mem_append.mpr (.inr (hs q k))) dp un gd outer A₀ base h₀ L _ _ E hz B F1 X N1 T hk hd hu fun y n2 h2' tk2 s2 F2 N2 r2 => ?_
  obtain ⟨k, t, rfl⟩ := r2
  exact prime_item (hl _ _ _ fun q k => N2 q (s2 q k)) (fm8 k).1 (fm8 k).2 (hs9 l _ _) fun p t hp => ret _ n2 h2' tk2 (fun q k => s2 q (List.mem_append.mpr (.inr k))) F2 N2 ⟨p, t, rfl, hp⟩
theorem St.useL {w : World} {mean : ExcName → Option Value} {mg mb : Str → Option Value} {d : Nat} {cn : Str} {cs : Scope} {a : Addr} {ccd : Value} {m : Str → Option Value} {news : Led} {l : Addr} {vs : List Value} {ss : List Stmt} {R : Led → Value → Prop} {dp un : Nat} {gd : Option (List Code)} {outer : List Env} {A₀ : Around} {base h₀ : Heap} {L : Addr} {s : Shared} {Q : Flow → Shared → Prop} {E : Value → Shared → Prop}
    (hz : base.IsList l vs.toArray) (B : Below A₀ base outer h₀) (F : Fr h₀ L s.heap m) (X : (hd.heap_39 w.params).In h₀) (N : News h₀ L s.heap news) (T : Top hd.view_39 (looseW hd.view_39 []) mean mg mb h₀) (hk : cs.kind = .function) (C : St w mean mg mb d cn cs a ccd (fun base => base.IsList l vs.toArray) m news ss No R) (hd : dp + d < recursionLimit) (hu : un + 10 * d < cLine)
    (ret : ∀ r nx m' h' tk', (∀ q ∈ news, q ∈ nx) → Fr h₀ L h' m' → News h₀ L h' nx → R nx r → Q (.ret r) { s with heap := h', toks := tk' }) :
    wpAny (model Challenge.rw_lh0027_01.row.prog w) (ktrTop dp un gd cn cs L a ccd [] outer) (execs ss (envX cn cs L a ccd [])) Q E s :=
  St.use (Z := fun base => base.IsList l vs.toArray) hz B F X N T hk C hd hu ret

/-- what the law's locals hold, whatever «other» is -/
def LM (m : Str → Option Value) (p b K W : Int) (l : Addr) (v1 : Value) : Prop :=
  (∃ t, m (Str.ofString "p") = some (.int p t)) ∧ (∃ t, m (Str.ofString "b") = some (.int b t)) ∧ (∃ t, m (Str.ofString "kind") = some (.int K t)) ∧ (∃ t, m (Str.ofString "way") = some (.int W t)) ∧ m (Str.ofString "script") = some (.ref l) ∧ m (Str.ofString "one") = some v1
theorem St.ifC {w : World} {mean : ExcName → Option Value} {mg mb : Str → Option Value} {d : Nat} {cn : Str} {cs : Scope} {a : Addr} {ccd : Value} {Z : Heap → Prop} {m : Str → Option Value} {news : Led} {t : PySem.Expr} {body rest : List Stmt} {pos : Pos} {c : Bool} {R : Led → Value → Prop} {RN : Led → (Str → Option Value) → Prop} (ht : Ev w mean mg mb d cn cs a ccd Z m news (fun env => isTrue t env (eval t env)) (Tr c)) (h1 : St w mean mg mb d cn cs a ccd Z m news body No R) (h2 : St w mean mg mb d cn cs a ccd Z m news rest RN R) : St w mean mg mb d cn cs a ccd Z m news (.If t body [] pos :: rest) RN R := by
  cases c
  · exact St.ifF ht h2
  · exact St.ifT ht h1
theorem law_in {w : World} {mean : ExcName → Option Value} {mg mb : Str → Option Value} {d : Nat} {cn : Str} {cs : Scope} {a : Addr} {ccd : Value} {Z : Heap → Prop} {m : Str → Option Value} {news : Led} {ss : List Stmt} {l : Addr} (es : m (Str.ofString "script") = some (.ref l)) {vs : List Value} {ns : List Int} (hi : IntsAre vs ns) (hn : ns.length < 2 ^ 62)
    (C : ∀ (m : Str → Option Value) (news : Led) (l0 : Addr), l0 = l → m (Str.ofString "script") = some (.ref l0) → IntsAre vs ns → ns.length < 2 ^ 62 → St w mean mg mb d cn cs a ccd Z m news ss No (Is (.bool true))) : St w mean mg mb d cn cs a ccd Z m news ss No (Is (.bool true)) :=
  C m news l rfl es hi hn
theorem lsn {p : Int} (A : Option (Int × Int)) : lsum p none A = A := by cases A <;> rfl

theorem law_walk : PySem.Challenge.rw_lh0027_01.Holds := hd (by
  k_with_none
  k_go0
  (all_goals try k_fold)
  k_with "execs cons" => (
    (with_reducible show wpAny _ _ (execs [_, _, _, _, _, _, _, _, _, _, _, _, _, _, _] _) _ _ _)
    k_dflt (
      refine' St.useL (d := 40)  (R := Is (.bool true)) ?uz9 ?uB9 ?uF9 ?uX9 ?uN9 ?uT9 ?uk9 ?uC9 ?ud9 ?uu9 ?_
      (case uB9 => k_asm); (case uF9 => k_asm); (case uX9 => k_asm); (case uN9 => k_asm); (case uT9 => k_asm); (case uk9 => rfl); (case uz9 => k_asm)
      (case uC9 =>
        refine' law_in ?es9 ?hi9 ?hn9 ?C9
        (case es9 => rfl); (case hi9 => k_asm); (case hn9 => l_fit)
        intro m news l0 e0 es hi hn
        refine St.asg (Lw.prime (by decide) (Lw.atmod (by decide) (by decide) (Lw.at (by decide) hi hn (by decide) (Ev.loc es (congrArg Value.ref e0) is_up) Ev.int_))) fun n9 s9 vp hp => ?_
        obtain ⟨p, tp, rfl, hpr⟩ := hp
        refine St.asg (Lw.curve (by decide) hpr (Ev.loc rfl ⟨tp, rfl⟩ int_up) (Lw.at (by decide) hi hn (by decide) (Ev.loc es (congrArg Value.ref e0) is_up) Ev.int_)) fun n9 s9 vb hb => ?_
        obtain ⟨b, tb, rfl, hb, -⟩ := hb
        refine St.asg2 pt_up pt_up (Lw.point (by decide) hpr hb (Ev.loc rfl ⟨tp, rfl⟩ int_up) (Ev.loc rfl ⟨tb, rfl⟩ int_up) (Lw.at (by decide) hi hn (by decide) (Ev.loc es (congrArg Value.ref e0) is_up) Ev.int_)) (Lw.point (by decide) hpr hb (Ev.loc rfl ⟨tp, rfl⟩ int_up) (Ev.loc rfl ⟨tb, rfl⟩ int_up) (Lw.at (by decide) hi hn (by decide) (Ev.loc es (congrArg Value.ref e0) is_up) Ev.int_)) fun n9 s9 v1 v2 h1 h2 => ?_
        obtain ⟨o1, h1, n1⟩ := h1
        obtain ⟨o2, h2, n2⟩ := h2
        refine St.asg2 any_up any_up (Lw.atmod (by decide) (by decide) (Lw.at (by decide) hi hn (by decide) (Ev.loc es (congrArg Value.ref e0) is_up) Ev.int_)) (Lw.atmod (by decide) (by decide) (Lw.at (by decide) hi hn (by decide) (Ev.loc es (congrArg Value.ref e0) is_up) Ev.int_)) fun n9 s9 vk vw hk hw => ?_
        obtain ⟨K, tk, rfl⟩ := hk
        obtain ⟨W, tw, rfl⟩ := hw
        replace h1 := h1.sub s9
        replace h2 := h2.sub s9
        refine St.if_ (RN1 := fun nx m' => LM m' p b (K.fmod 5) (W.fmod 3) l0 v1 ∧ ∃ v o, m' (Str.ofString "other") = some v ∧ IPt nx p v o ∧ On p b o) (Si.eq (by decide) (Ev.loc rfl ⟨tk, rfl⟩ int_up) Ev.int_ rfl) ?_ ?_
        · cases (K.fmod 5 == 0)
          · exact St.nil_ fun nx hn => ⟨⟨⟨tp, rfl⟩, ⟨tb, rfl⟩, ⟨tk, rfl⟩, ⟨tw, rfl⟩, es, rfl⟩, v2, o2, rfl, h2.sub hn, n2⟩
          · exact St.asg (Ev.loc rfl h1 ipt_up) fun n9 s9 v hv => St.nil_ fun nx hn => ⟨⟨⟨tp, rfl⟩, ⟨tb, rfl⟩, ⟨tk, rfl⟩, ⟨tw, rfl⟩, es, rfl⟩, v, o1, rfl, hv.sub hn, n1⟩
        intro n9 s9 m h
        obtain ⟨⟨⟨tp, ep⟩, ⟨tb, eb⟩, ⟨tk, ek⟩, ⟨tw, ew⟩, es, e1⟩, v2, o2, eo, h2, n2⟩ := h
        replace h1 := h1.sub s9
        refine St.if_ (RN1 := fun nx m' => LM m' p b (K.fmod 5) (W.fmod 3) l0 v1 ∧ ∃ v o, m' (Str.ofString "other") = some v ∧ IPt nx p v o ∧ On p b o) (Si.eq (by decide) (Ev.loc ek ⟨tk, rfl⟩ int_up) Ev.int_ rfl) ?_ ?_
        · cases (K.fmod 5 == 1)
          · exact St.nil_ fun nx hn => ⟨⟨⟨tp, ep⟩, ⟨tb, eb⟩, ⟨tk, ek⟩, ⟨tw, ew⟩, es, e1⟩, v2, o2, eo, h2.sub hn, n2⟩
          · exact St.asg (Lw.minus (by decide) hpr (Ev.loc ep ⟨tp, rfl⟩ int_up) (Ev.loc e1 h1 ipt_up)) fun n9 s9 v hv => St.nil_ fun nx hn => ⟨⟨⟨tp, ep⟩, ⟨tb, eb⟩, ⟨tk, ek⟩, ⟨tw, ew⟩, es, e1⟩, v, _, rfl, hv.sub hn, ln_on hpr n1⟩
        intro n9 s9 m h
        obtain ⟨⟨⟨tp, ep⟩, ⟨tb, eb⟩, ⟨tk, ek⟩, ⟨tw, ew⟩, es, e1⟩, v2, o2, eo, h2, n2⟩ := h
        replace h1 := h1.sub s9
        refine St.asg2 fpt_up fpt_up (Lw.made (by decide) hpr (Ev.loc ep ⟨tp, rfl⟩ int_up) (Ev.loc e1 h1 ipt_up)) (Lw.made (by decide) hpr (Ev.loc ep ⟨tp, rfl⟩ int_up) (Ev.loc eo h2 ipt_up)) fun n9 s9 f1 f2 k1 k2 => ?_
        replace h1 := h1.sub s9
        replace h2 := h2.sub s9
        refine St.asg (Lw.sum (by decide) hpr hb n1 n2 (Ev.loc ep ⟨tp, rfl⟩ int_up) (Ev.loc e1 h1 ipt_up) (Ev.loc eo h2 ipt_up)) fun n9 s9 vd kd => ?_
        replace h1 := h1.sub s9
        replace h2 := h2.sub s9
        replace k1 := k1.sub s9
        replace k2 := k2.sub s9
        refine St.ifC (Si.eq (by decide) (Ev.loc ew ⟨tw, rfl⟩ int_up) Ev.int_ rfl) ?_ ?_
        · refine St.asg (Lw.add (by decide) hpr hb n1 n2 (Ev.loc rfl k1 fpt_up) (Ev.loc rfl k2 fpt_up)) fun n9 s9 vt kt => ?_
          replace h1 := h1.sub s9
          replace k1 := k1.sub s9
          replace k2 := k2.sub s9
          replace kd := kd.sub s9
          refine St.ifF ?_ ?_
          · refine Ev.or_f (Lw.ne (by decide) (Lw.told (by decide) hpr (Ev.loc rfl kt fpt_up)) (Ev.loc rfl kd ipt_up) rfl) ?_
            refine Ev.or_f (Lw.neb (by decide) (Ev.inf (by decide) (Ev.loc rfl kt fpt_up)) (Lw.isI (by decide) (Ev.loc rfl kd ipt_up))) ?_
            exact Ev.or_f (Lw.isnb (by decide) (Lw.on1 (by decide) hpr hb (ls_on hpr hb n1 n2) (Ev.loc rfl kt fpt_up) (Si.fq (by decide) hpr (Ev.loc eb ⟨tb, rfl⟩ int_up) (Ev.loc ep ⟨tp, rfl⟩ int_up)))) Ev.or_nil
          refine St.ifF ?_ ?_
          · cases o1 with
            | none => exact Ev.and_f (Lw.tisIn (by decide) (Ev.loc e1 h1 ipt_up) rfl)
            | some q =>
              refine Ev.and_t (Lw.tisIn (by decide) (Ev.loc e1 h1 ipt_up) rfl) ?_
              exact Ev.and_f (Lw.isnb (by decide) (Lw.on2 (by decide) hpr hb n1 rfl (Ev.loc rfl k1 fpt_up) (Si.fq (by decide) hpr (Si.add (by decide) (Ev.loc eb ⟨tb, rfl⟩ int_up) Ev.int_) (Ev.loc ep ⟨tp, rfl⟩ int_up))))
          · exact St.ret_ (Lw.eq (by decide) (Lw.told (by decide) hpr (Lw.add (by decide) hpr hb n2 n1 (Ev.loc rfl k2 fpt_up) (Ev.loc rfl k1 fpt_up))) (Ev.loc rfl kd ipt_up) (ls_comm hpr hb n2 n1))
        refine St.ifC (Si.eq (by decide) (Ev.loc ew ⟨tw, rfl⟩ int_up) Ev.int_ rfl) ?_ ?_
        · refine St.ifF ?_ ?_
          · refine Ev.or_f (Lw.ne (by decide) (Lw.told (by decide) hpr (Lw.dbl (by decide) hpr hb n1 (Ev.loc rfl k1 fpt_up))) (Lw.sum (by decide) hpr hb n1 n1 (Ev.loc ep ⟨tp, rfl⟩ int_up) (Ev.loc e1 h1 ipt_up) (Ev.loc e1 h1 ipt_up)) rfl) ?_
            exact Ev.or_f (Lw.ne (by decide) (Lw.told (by decide) hpr (Lw.neg (by decide) hpr (Ev.loc rfl k1 fpt_up))) (Lw.minus (by decide) hpr (Ev.loc ep ⟨tp, rfl⟩ int_up) (Ev.loc e1 h1 ipt_up)) rfl) Ev.or_nil
          refine St.ifF ?_ ?_
          · refine Ev.or_f (Lw.ne (by decide) (Lw.told (by decide) hpr (Lw.add (by decide) hpr hb n1 (show On p b none from trivial) (Ev.loc rfl k1 fpt_up) (Ev.mono Ev.none_ fun nx r h => h))) (Ev.loc e1 h1 ipt_up) (ls_none _)) ?_
            exact Ev.or_f (Lw.ne (by decide) (Lw.told (by decide) hpr (Lw.add (by decide) hpr hb (show On p b none from trivial) n2 (Ev.mono Ev.none_ fun nx r h => h) (Ev.loc rfl k2 fpt_up))) (Ev.loc eo h2 ipt_up) (lsn _)) Ev.or_nil
          · exact St.ret_ (Lw.isF (by decide) (Lw.add (by decide) hpr hb n2 (ln_on hpr n2) (Ev.loc rfl k2 fpt_up) (Lw.neg (by decide) hpr (Ev.loc rfl k2 fpt_up))) (ls_neg hpr hb n2))
        refine St.asg (Lw.point (by decide) hpr hb (Ev.loc ep ⟨tp, rfl⟩ int_up) (Ev.loc eb ⟨tb, rfl⟩ int_up) (Lw.at (by decide) hi hn (by decide) (Ev.loc es (congrArg Value.ref e0) is_up) Ev.int_)) fun n9 s9 v3 h3 => ?_
        obtain ⟨o3, h3, n3⟩ := h3
        replace h1 := h1.sub s9
        replace k1 := k1.sub s9
        replace k2 := k2.sub s9
        replace kd := kd.sub s9
        refine St.if_ (RN1 := fun nx m' => LM m' p b (K.fmod 5) (W.fmod 3) l0 v1 ∧ (m' (Str.ofString "first") = some f1 ∧ m' (Str.ofString "second") = some f2 ∧ m' (Str.ofString "due") = some vd) ∧ ∃ v o, m' (Str.ofString "third") = some v ∧ IPt nx p v o ∧ On p b o) (Si.eq (by decide) (Ev.loc ek ⟨tk, rfl⟩ int_up) Ev.int_ rfl) ?_ ?_
        · cases (K.fmod 5 == 2)
          · exact St.nil_ fun nx hn => ⟨⟨⟨tp, ep⟩, ⟨tb, eb⟩, ⟨tk, ek⟩, ⟨tw, ew⟩, es, e1⟩, ⟨rfl, rfl, rfl⟩, v3, o3, rfl, h3.sub hn, n3⟩
          · exact St.asg (Ev.loc rfl kd ipt_up) fun n9 s9 v hv => St.nil_ fun nx hn => ⟨⟨⟨tp, ep⟩, ⟨tb, eb⟩, ⟨tk, ek⟩, ⟨tw, ew⟩, es, e1⟩, ⟨rfl, rfl, rfl⟩, v, _, rfl, hv.sub hn, (ls_on hpr hb n1 n2)⟩
        intro n9 s9 m h
        obtain ⟨⟨⟨tp, ep⟩, ⟨tb, eb⟩, ⟨tk, ek⟩, ⟨tw, ew⟩, es, e1⟩, ⟨ef, eg, ed⟩, v3, o3, e3, h3, n3⟩ := h
        replace k1 := k1.sub s9
        replace k2 := k2.sub s9
        replace kd := kd.sub s9
        refine St.if_ (RN1 := fun nx m' => LM m' p b (K.fmod 5) (W.fmod 3) l0 v1 ∧ (m' (Str.ofString "first") = some f1 ∧ m' (Str.ofString "second") = some f2 ∧ m' (Str.ofString "due") = some vd) ∧ ∃ v o, m' (Str.ofString "third") = some v ∧ IPt nx p v o ∧ On p b o) (Si.eq (by decide) (Ev.loc ek ⟨tk, rfl⟩ int_up) Ev.int_ rfl) ?_ ?_
        · cases (K.fmod 5 == 3)
          · exact St.nil_ fun nx hn => ⟨⟨⟨tp, ep⟩, ⟨tb, eb⟩, ⟨tk, ek⟩, ⟨tw, ew⟩, es, e1⟩, ⟨ef, eg, ed⟩, v3, o3, e3, h3.sub hn, n3⟩
          · exact St.asg (Lw.minus (by decide) hpr (Ev.loc ep ⟨tp, rfl⟩ int_up) (Ev.loc ed kd ipt_up)) fun n9 s9 v hv => St.nil_ fun nx hn => ⟨⟨⟨tp, ep⟩, ⟨tb, eb⟩, ⟨tk, ek⟩, ⟨tw, ew⟩, es, e1⟩, ⟨ef, eg, ed⟩, v, _, rfl, hv.sub hn, ln_on hpr (ls_on hpr hb n1 n2)⟩
        intro n9 s9 m h
        obtain ⟨⟨⟨tp, ep⟩, ⟨tb, eb⟩, ⟨tk, ek⟩, ⟨tw, ew⟩, es, e1⟩, ⟨ef, eg, ed⟩, v3, o3, e3, h3, n3⟩ := h
        replace k1 := k1.sub s9
        replace k2 := k2.sub s9
        replace kd := kd.sub s9
        refine St.asg2 fpt_up ipt_up (Lw.made (by decide) hpr (Ev.loc ep ⟨tp, rfl⟩ int_up) (Ev.loc e3 h3 ipt_up)) (Lw.sum (by decide) hpr hb (ls_on hpr hb n1 n2) n3 (Ev.loc ep ⟨tp, rfl⟩ int_up) (Ev.loc ed kd ipt_up) (Ev.loc e3 h3 ipt_up)) fun n9 s9 la wh k3 kw => ?_
        replace k1 := k1.sub s9
        replace k2 := k2.sub s9
        refine St.ret_ (Ev.band ?_ ?_)
        · exact Lw.eq (by decide) (Lw.told (by decide) hpr (Lw.add (by decide) hpr hb (ls_on hpr hb n1 n2) n3 (Lw.add (by decide) hpr hb n1 n2 (Ev.loc ef k1 fpt_up) (Ev.loc eg k2 fpt_up)) (Ev.loc rfl k3 fpt_up))) (Ev.loc rfl kw ipt_up) rfl
        · exact Lw.eq (by decide) (Lw.told (by decide) hpr (Lw.add (by decide) hpr hb n1 (ls_on hpr hb n2 n3) (Ev.loc ef k1 fpt_up) (Lw.add (by decide) hpr hb n2 n3 (Ev.loc eg k2 fpt_up) (Ev.loc rfl k3 fpt_up)))) (Ev.loc rfl kw ipt_up) (ls_assoc hpr hb n1 n2 n3))
      (case ud9 => k_room); (case uu9 => k_units); k_whole
      intro r' nx' m' h' tk' s' F' N' hR'; (subst hR')
      (try dsimp only)
      (try k_fold)))
  k_steps)
end Mine

theorem PySem.Challenge.cw_lh0027_01_holds : PySem.Challenge.rw_lh0027_01.Holds := by
  exact Mine.law_walk
