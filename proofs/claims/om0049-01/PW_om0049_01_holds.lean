import PyProof.Rows.All
import Wide.All
import OpenK.AllK
import Wide.FinOn
import PySem.Challenge.RW_om0049_01
open PySem PySem.W PyProof.Rows PySem.Spec PySem.Calls
set_option Elab.async false
set_option maxRecDepth 100000
set_option maxHeartbeats 8000000
namespace Mine
open_top hd for PySem.Challenge.rw_om0049_01
section
noncomputable abbrev prg : Program := PySem.Challenge.rw_om0049_01.row.prog
noncomputable abbrev lz : List Str := looseW hd.view_39 [Str.ofString "_filemode_table"]

section
variable {prog : Program} {w : World} {A : Around} {E : Value → Shared → Prop} {s : Shared} {t u : Tok} {a b : Int} {Q : Value → Shared → Prop}
theorem shr1 (h : Q (.int (a / 2) s.toks) { s with toks := s.toks + 1 }) : wpAny (model prog w) A (binaryOp .RShift (.int a t) (.int 1 u)) Q E s := by
  refine rshift_int (by decide) ?_
  have e : a.fdiv (2 ^ (1 : Int).toNat) = a / 2 := by
    show a.fdiv 2 = a / 2
    exact Int.fdiv_eq_ediv_of_nonneg _ (by decide)
  rw [e]; exact h
theorem mod_pos (hb : 0 < b) (h : Q (.int (a % b) s.toks) { s with toks := s.toks + 1 }) : wpAny (model prog w) A (binaryOp .Mod (.int a t) (.int b u)) Q E s := by
  refine mod_int' (Int.ne_of_gt hb) ?_
  rw [Int.fmod_eq_emod_of_nonneg _ (Int.le_of_lt hb)]; exact h
theorem fdiv_pos (hb : 0 < b) (hl : b.natAbs.log2 < 9000) (h : Q (.int (a / b) s.toks) { s with toks := s.toks + 1 }) : wpAny (model prog w) A (binaryOp .FloorDiv (.int a t) (.int b u)) Q E s := by
  refine floordiv_int (Int.ne_of_gt hb) ?_ (Or.inl (PyProof.noPylong_of_log2 hl))
  rw [Int.fdiv_eq_ediv_of_nonneg _ (Int.le_of_lt hb)]; exact h
end

/-- one object of a ledger, and the others -/
inductive Pick (l : Addr) (o : Obj) : List (Addr × Obj) → List (Addr × Obj) → Prop
  | head {r} : (∀ p ∈ r, p.1 ≠ l) → Pick l o ((l, o) :: r) r
  | tail {p r r'} : p.1 ≠ l → Pick l o r r' → Pick l o (p :: r) (p :: r')
theorem Pick.off {l : Addr} {o : Obj} {news rest : List (Addr × Obj)} (h : Pick l o news rest) : ∀ p ∈ rest, p.1 ≠ l := by
  induction h with
  | head h => exact h
  | tail h _ ih =>
    intro q hq
    rcases List.mem_cons.mp hq with rfl | hq
    · exact h
    · exact ih q hq
theorem Pick.sub {l : Addr} {o : Obj} {news rest : List (Addr × Obj)} (h : Pick l o news rest) : ∀ p ∈ (l, o) :: rest, p ∈ news := by
  induction h with
  | head h => exact fun p hp => hp
  | tail h _ ih =>
    intro q hq
    rcases List.mem_cons.mp hq with rfl | hq
    · exact List.mem_cons_of_mem _ (ih _ (List.mem_cons_self ..))
    · rcases List.mem_cons.mp hq with rfl | hq
      · exact List.mem_cons_self ..
      · exact List.mem_cons_of_mem _ (ih _ (List.mem_cons_of_mem _ hq))
theorem Pick.news {l : Addr} {o : Obj} {news rest : List (Addr × Obj)} {h₀ h : Heap} {L : Addr} (P : Pick l o news rest) (N : News h₀ L h news) : News h₀ L h ((l, o) :: rest) := fun p hp => N p (P.sub p hp)

theorem ints_eq {vs : List Value} {xs ys : List Int} (h : IntsAre vs xs) (e : xs = ys) : IntsAre vs ys := e ▸ h

theorem at_int {Q : Value → Shared → Prop} {x y : Int} {t : Tok} {s : Shared} (e : x = y) (h : Q (.int x t) s) : Q (.int y t) s := e ▸ h

/-- siftdown from 0, on plain lists -/
def sd (new : Int) : Nat → List Int → Nat → List Int
  | 0, xs, pos => xs.set pos new
  | f + 1, xs, pos =>
    if pos = 0 then xs.set pos new
    else if new < xs.getD ((pos - 1) / 2) 0 then sd new f (xs.set pos (xs.getD ((pos - 1) / 2) 0)) ((pos - 1) / 2)
    else xs.set pos new
theorem sd_fuel (new : Int) : ∀ (f g : Nat) (xs : List Int) (pos : Nat), pos ≤ f → pos ≤ g → sd new f xs pos = sd new g xs pos
  | 0, 0, _, _, _, _ => rfl
  | 0, g + 1, xs, pos, h, _ => by
    have : pos = 0 := by omega
    subst this; simp [sd]
  | f + 1, 0, xs, pos, _, h => by
    have : pos = 0 := by omega
    subst this; simp [sd]
  | f + 1, g + 1, xs, pos, h1, h2 => by
    simp only [sd]
    split
    · rfl
    · split
      · exact sd_fuel new f g _ _ (by omega) (by omega)
      · rfl
theorem sd_length (new : Int) : ∀ (f : Nat) (xs : List Int) (pos : Nat), (sd new f xs pos).length = xs.length
  | 0, xs, pos => by simp [sd]
  | f + 1, xs, pos => by
    simp only [sd]
    split
    · simp
    · split
      · rw [sd_length new f]; simp
      · simp
theorem sd_go {new p : Int} {xs ys : List Int} (h0 : 0 < p) (hlt : new < xs.getD ((p - 1) / 2).toNat 0) (e : sd new p.toNat xs p.toNat = ys) :
    sd new ((p - 1) / 2).toNat (xs.set p.toNat (xs.getD ((p - 1) / 2).toNat 0)) ((p - 1) / 2).toNat = ys := by
  obtain ⟨k, hk⟩ : ∃ k, p.toNat = k + 1 := ⟨p.toNat - 1, by omega⟩
  have h2 : ((p - 1) / 2).toNat = (p.toNat - 1) / 2 := by omega
  rw [← e]
  rw [h2] at hlt ⊢
  rw [hk] at hlt ⊢
  simp only [sd, Nat.add_one_ne_zero, if_false]
  rw [if_pos hlt]
  exact sd_fuel _ _ _ _ _ (Nat.le_refl _) (by omega)
theorem sd_stop {new p : Int} {xs ys : List Int} (h0 : 0 < p) (hlt : ¬ new < xs.getD ((p - 1) / 2).toNat 0) (e : sd new p.toNat xs p.toNat = ys) : xs.set p.toNat new = ys := by
  obtain ⟨k, hk⟩ : ∃ k, p.toNat = k + 1 := ⟨p.toNat - 1, by omega⟩
  have h2 : ((p - 1) / 2).toNat = (p.toNat - 1) / 2 := by omega
  rw [← e]
  rw [h2] at hlt
  rw [hk] at hlt ⊢
  simp only [sd, Nat.add_one_ne_zero, if_false]
  rw [if_neg hlt]
theorem sd_zero {new p : Int} {xs ys : List Int} (h0 : ¬ 0 < p) (e : sd new p.toNat xs p.toNat = ys) : xs.set p.toNat new = ys := by
  rw [← e]
  have : p.toNat = 0 := by omega
  rw [this]; rfl

/-- siftup from 0: the way down -/
def suL (n : Nat) : Nat → List Int → Nat → List Int × Nat
  | 0, xs, pos => (xs, pos)
  | f + 1, xs, pos =>
    if 2 * pos + 1 < n then
      if 2 * pos + 2 < n ∧ ¬ xs.getD (2 * pos + 1) 0 < xs.getD (2 * pos + 2) 0 then suL n f (xs.set pos (xs.getD (2 * pos + 2) 0)) (2 * pos + 2)
      else suL n f (xs.set pos (xs.getD (2 * pos + 1) 0)) (2 * pos + 1)
    else (xs, pos)
def suF (xs : List Int) : List Int :=
  let r := suL xs.length xs.length xs 0
  sd (xs.getD 0 0) r.2 (r.1.set r.2 (xs.getD 0 0)) r.2
def pushF (xs : List Int) (x : Int) : List Int := sd x xs.length (xs ++ [x]) xs.length
def popV (xs : List Int) : Int := if xs.length = 1 then xs.getLastD 0 else xs.getD 0 0
def popF (xs : List Int) : List Int := if xs.length = 1 then [] else suF (xs.dropLast.set 0 (xs.getLastD 0))
theorem suL_fuel (n : Nat) : ∀ (f g : Nat) (xs : List Int) (pos : Nat), n - pos ≤ f → n - pos ≤ g → suL n f xs pos = suL n g xs pos
  | 0, 0, _, _, _, _ => rfl
  | 0, g + 1, xs, pos, h, _ => by simp only [suL]; rw [if_neg (by omega)]
  | f + 1, 0, xs, pos, _, h => by simp only [suL]; rw [if_neg (by omega)]
  | f + 1, g + 1, xs, pos, h1, h2 => by
    simp only [suL]
    split
    · split
      · exact suL_fuel n f g _ _ (by omega) (by omega)
      · exact suL_fuel n f g _ _ (by omega) (by omega)
    · rfl
theorem suL_length (n : Nat) : ∀ (f : Nat) (xs : List Int) (pos : Nat), (suL n f xs pos).1.length = xs.length
  | 0, _, _ => rfl
  | f + 1, xs, pos => by
    simp only [suL]
    split
    · split <;> (rw [suL_length n f]; simp)
    · rfl
theorem suL_lt (n : Nat) : ∀ (f : Nat) (xs : List Int) (pos : Nat), pos < n → (suL n f xs pos).2 < n
  | 0, _, _, h => h
  | f + 1, xs, pos, h => by
    simp only [suL]
    split
    · split
      · exact suL_lt n f _ _ (by omega)
      · exact suL_lt n f _ _ (by omega)
    · exact h
theorem suL_right {n : Nat} {p : Int} {xs : List Int} {r : List Int × Nat} (hp : 0 ≤ p) (h1 : 2 * p + 1 + 1 < (n : Int)) (hlt : ¬ xs.getD (2 * p + 1).toNat 0 < xs.getD (2 * p + 1 + 1).toNat 0) (e : suL n (n - p.toNat) xs p.toNat = r) :
    suL n (n - (2 * p + 1 + 1).toNat) (xs.set p.toNat (xs.getD (2 * p + 1 + 1).toNat 0)) (2 * p + 1 + 1).toNat = r := by
  obtain ⟨k, hk⟩ : ∃ k, n - p.toNat = k + 1 := ⟨n - p.toNat - 1, by omega⟩
  have e1 : (2 * p + 1).toNat = 2 * p.toNat + 1 := by omega
  have e2 : (2 * p + 1 + 1).toNat = 2 * p.toNat + 2 := by omega
  rw [e1, e2] at hlt
  rw [e2, ← e, hk]
  simp only [suL]
  rw [if_pos (by omega), if_pos ⟨by omega, hlt⟩]
  exact suL_fuel _ _ _ _ _ (by omega) (by omega)
theorem suL_left {n : Nat} {p : Int} {xs : List Int} {r : List Int × Nat} (hp : 0 ≤ p) (h1 : 2 * p + 1 < (n : Int)) (hlt : ¬ (2 * p + 1 + 1 < (n : Int)) ∨ xs.getD (2 * p + 1).toNat 0 < xs.getD (2 * p + 1 + 1).toNat 0) (e : suL n (n - p.toNat) xs p.toNat = r) :
    suL n (n - (2 * p + 1).toNat) (xs.set p.toNat (xs.getD (2 * p + 1).toNat 0)) (2 * p + 1).toNat = r := by
  obtain ⟨k, hk⟩ : ∃ k, n - p.toNat = k + 1 := ⟨n - p.toNat - 1, by omega⟩
  have e1 : (2 * p + 1).toNat = 2 * p.toNat + 1 := by omega
  have e2 : (2 * p + 1 + 1).toNat = 2 * p.toNat + 2 := by omega
  rw [e1, e2] at hlt
  rw [e1, ← e, hk]
  simp only [suL]
  rw [if_pos (by omega), if_neg (fun h => hlt.elim (fun q => by omega) (fun q => h.2 q))]
  exact suL_fuel _ _ _ _ _ (by omega) (by omega)
theorem suL_done {n : Nat} {p : Int} {xs : List Int} {r : List Int × Nat} (hp : 0 ≤ p) (h1 : ¬ 2 * p + 1 < (n : Int)) (e : suL n (n - p.toNat) xs p.toNat = r) : r = (xs, p.toNat) := by
  rw [← e]
  cases n - p.toNat with
  | zero => rfl
  | succ k => simp only [suL]; rw [if_neg (by omega)]
theorem push_eq (xs : List Int) (x : Int) (p : Int) (hp : p.toNat = xs.length) : sd ((xs ++ [x]).getD p.toNat 0) p.toNat (xs ++ [x]) p.toNat = pushF xs x := by
  rw [hp]
  have e : (xs ++ [x]).getD xs.length 0 = x := by simp [List.getD]
  rw [e]; rfl
theorem suL_rightC {n : Nat} {p c : Int} {xs : List Int} {r : List Int × Nat} (hc : c = 2 * p + 1) (hp : 0 ≤ p) (h1 : c + 1 < (n : Int)) (hlt : ¬ xs.getD c.toNat 0 < xs.getD (c + 1).toNat 0) (e : suL n (n - p.toNat) xs p.toNat = r) :
    suL n (n - (c + 1).toNat) (xs.set p.toNat (xs.getD (c + 1).toNat 0)) (c + 1).toNat = r := by
  subst hc; exact suL_right hp h1 hlt e
theorem suL_leftC {n : Nat} {p c : Int} {xs : List Int} {r : List Int × Nat} (hc : c = 2 * p + 1) (hp : 0 ≤ p) (h1 : c < (n : Int)) (hlt : ¬ (c + 1 < (n : Int)) ∨ xs.getD c.toNat 0 < xs.getD (c + 1).toNat 0) (e : suL n (n - p.toNat) xs p.toNat = r) :
    suL n (n - c.toNat) (xs.set p.toNat (xs.getD c.toNat 0)) c.toNat = r := by
  subst hc; exact suL_left hp h1 hlt e
theorem suL_doneC {n : Nat} {p c : Int} {xs : List Int} {r : List Int × Nat} (hc : c = 2 * p + 1) (hp : 0 ≤ p) (h1 : ¬ c < (n : Int)) (e : suL n (n - p.toNat) xs p.toNat = r) : r = (xs, p.toNat) := by
  subst hc; exact suL_done hp h1 e
theorem su_end {p c new : Int} {xs ys : List Int} (hc : c = 2 * p + 1) (hp : 0 ≤ p) (h1 : ¬ c < (xs.length : Int)) (e : suL xs.length (xs.length - p.toNat) ys p.toNat = suL xs.length xs.length xs 0) (hl : ys.length = xs.length) (hp1 : p < xs.length) (hn : new = xs.getD 0 0) :
    sd ((ys.set p.toNat new).getD p.toNat 0) p.toNat (ys.set p.toNat new) p.toNat = suF xs := by
  have q := suL_doneC hc hp h1 e
  have g : (ys.set p.toNat new).getD p.toNat 0 = new := by
    have : p.toNat < ys.length := by omega
    simp [List.getD, this]
  rw [g, hn]
  simp only [suF, q]
theorem suF_length (xs : List Int) : (suF xs).length = xs.length := by
  simp only [suF, sd_length, List.length_set, suL_length]
theorem pushF_length (xs : List Int) (x : Int) : (pushF xs x).length = xs.length + 1 := by
  simp [pushF, sd_length]
theorem popF_length (xs : List Int) (h : 0 < xs.length) : (popF xs).length = xs.length - 1 := by
  unfold popF
  split
  · simp_all
  · simp [suF_length]
theorem pop_eq1 {xs : List Int} (h : ¬ 0 < xs.dropLast.length) (h2 : 0 < xs.length) : popV xs = xs.getLastD 0 ∧ popF xs = xs.dropLast := by
  have e : xs.length = 1 := by simp at h; omega
  have d : xs.dropLast = [] := List.eq_nil_of_length_eq_zero (by simp [e])
  simp [popV, popF, e, d]
theorem pop_eq2 {xs : List Int} (h : 0 < xs.dropLast.length) : popV xs = xs.dropLast.getD 0 0 ∧ popF xs = suF (xs.dropLast.set 0 (xs.getLastD 0)) := by
  have e : xs.length ≠ 1 := by simp at h; omega
  have g : xs.dropLast.getD 0 0 = xs.getD 0 0 := by
    match xs, h with
    | a :: b :: r, _ => simp [List.getD]
  simp only [popV, popF, if_neg e, g, and_self]
end
section
local macro_rules | `(tactic| walk_at "binaryOp RShift int int") => `(tactic| (k_here; (with_reducible refine shr1 ?_)))
local macro_rules | `(tactic| walk_at "binaryOp Mod int int") => `(tactic| (k_here; (with_reducible refine mod_pos ?k1 ?_); (case k1 => decide)))
local macro_rules | `(tactic| walk_at "binaryOp FloorDiv int int") => `(tactic| (k_here; (with_reducible refine fdiv_pos ?k1 ?k2 ?_); (case k1 => decide); (case k2 => decide +kernel)))
local macro_rules | `(tactic| k_all) => `(tactic| with_reducible assumption)
local macro_rules | `(tactic| l_idx) => `(tactic| omega)
local macro_rules | `(tactic| k_upd) => `(tactic| first | (refine' Pick.head ?a; (case a => k_all)) | (refine' Pick.tail ?a ?b; (case a => k_ne); (case b => k_upd)))
local macro_rules | `(tactic| walk_at "call ref") => `(tactic| (k_here; refine wpAny_call ?_; k_dflt (refine' code_def ?k1 ?k2 ?k3 ?k4 ?k5 ?kA ?kF ?kK ?k6 ?k7 ?k8 ?k9 ?kB ?_ ?c2 ?c3 ?c4 ?c5; (case kA => exact rfl); (case kF => exact rfl); (case kK => first | exact rfl | assumption); (case k1 => k_asm); (case k2 => k_asm); (case k3 => k_asm); (case k4 => k_asm); (case k5 => k_asm); (case k6 => k_is); (case k7 => k_is); (case k8 => ktr_room); (case k9 => exact BindsTo.of_eq rfl); (case c5 => decide); (case kB => exact locs rfl); (case c2 => exact rfl); (case c3 => exact rfl); (case c4 => exact rfl); k_whole; intro g' L' h' FG' F' N' B' X' T'; (try dsimp only); (try k_lift B'); (try k_fold))))
section
variable {w : World} {mean : ExcName → Option Value} {mg mb : Str → Option Value} {dp un : Nat} {gd : Option (List Code)} {cn : Str} {cs : Scope} {a : Addr} {ccd : Value} {cl : List (Str × Addr)} {outer : List Env} {A₀ : Around} {base h₀ : Heap} {L : Addr} {m : Str → Option Value} {s : Shared} {Q E : Value → Shared → Prop}

theorem siftdown_tells {l : Addr} {vs : List Value} {n : Nat} {xs : List Int} {news rest : List (Addr × Obj)} {pos : Int} {t0 t1 : Tok}
    (B : Below A₀ base outer h₀) (F : Fr h₀ L s.heap m) (X : (hd.heap_39 w.params).In h₀) (N : News h₀ L s.heap news) (T : Top hd.view_39 lz mean mg mb h₀) (hk : cs.kind = .function)
    (P : Pick l (listOf vs.toArray n) news rest) (hi : IntsAre vs xs) (hlen : xs.length < 1000) (hp0 : 0 ≤ pos) (hp1 : pos < xs.length)
    (hdp : dp + 1 < recursionLimit) (hun : un + 8 < cLine)
    (hret : ∀ h' tk' vs' n', Fr h₀ L h' m → News h₀ L h' ((l, listOf vs'.toArray n') :: rest) → IntsAre vs' (sd (xs.getD pos.toNat 0) pos.toNat xs pos.toNat) → Q .none { s with heap := h', toks := tk' }) :
    wpAny (model prg w) (ktrTop dp un gd cn cs L a ccd cl outer) (call (.ref 35) [.ref l, .int 0 t0, .int pos t1]) Q E s := by
  have hoff := P.off
  replace N := P.news N
  clear P
  revert X; unfold prg; w_top off; k_fill; intro X
  refine wpAny_call ?_
  k_dflt cell_enter
  k_with_none
  k_with "exec While Compare cons nil" => k_while (fun script heap p => heap.length = xs.length ∧ 0 ≤ p ∧ p < (xs.length : Int) ∧ sd (xs.getD pos.toNat 0) p.toNat heap p.toNat = sd (xs.getD pos.toNat 0) pos.toNat xs pos.toNat) (fun script heap p => p.toNat) "heap" "pos"
  k_with "state" => (refine ⟨by rw [List.length_set]; assumption, by omega, by omega, ?_⟩; exact sd_go (by omega) (by assumption) (by assumption))
  k_steps
  · refine hret _ _ _ _ (by k_asm) (by k_asm) ?_
    refine ints_eq (by assumption) ?_
    exact sd_stop (by omega) (by assumption) (by assumption)
  · refine hret _ _ _ _ (by k_asm) (by k_asm) ?_
    refine ints_eq (by assumption) ?_
    exact sd_zero (by omega) (by assumption)

local macro_rules | `(tactic| walk_at "call ref") => `(tactic| (k_here; (with_reducible show wpAny _ _ (call (Value.ref 35) [Value.ref _, Value.int _ _, Value.int _ _]) _ _ _); k_dflt (refine' siftdown_tells ?B ?F ?X ?N ?T ?hk ?P ?hi ?hlen ?hp0 ?hp1 ?hdp ?hun ?_; (case B => k_asm); (case F => k_asm); (case X => k_asm); (case N => k_asm); (case T => k_asm); (case hk => first | exact rfl | assumption); (case P => k_upd); (case hi => l_ints); (case hlen => l_idx); (case hp0 => l_idx); (case hp1 => l_idx); (case hdp => ktr_room); (case hun => ktr_units); k_whole); intro h' tk' vs' n' F' N' hI'; (try k_sweep)))

theorem push_tells {l : Addr} {vs : List Value} {n : Nat} {xs : List Int} {news rest : List (Addr × Obj)} {x : Int} {t0 : Tok}
    (B : Below A₀ base outer h₀) (F : Fr h₀ L s.heap m) (X : (hd.heap_39 w.params).In h₀) (N : News h₀ L s.heap news) (T : Top hd.view_39 lz mean mg mb h₀) (hk : cs.kind = .function)
    (P : Pick l (listOf vs.toArray n) news rest) (hi : IntsAre vs xs) (hlen : xs.length < 900)
    (hdp : dp + 2 < recursionLimit) (hun : un + 16 < cLine)
    (hret : ∀ h' tk' vs' n' ys, Fr h₀ L h' m → News h₀ L h' ((l, listOf vs'.toArray n') :: rest) → IntsAre vs' ys → ys = pushF xs x → ys.length = xs.length + 1 → Q .none { s with heap := h', toks := tk' }) :
    wpAny (model prg w) (ktrTop dp un gd cn cs L a ccd cl outer) (call (.ref 21) [.ref l, .int x t0]) Q E s := by
  have hoff := P.off
  replace N := P.news N
  clear P
  revert X; unfold prg; w_top off; k_fill; intro X
  refine wpAny_call ?_
  k_dflt cell_enter
  k_with_none
  k_steps
  refine hret _ _ _ _ _ (by k_asm) (by k_asm) (ints_eq (by assumption) ?_) rfl (pushF_length _ _)
  exact push_eq _ _ _ (by simp only [List.length_append, List.length_cons, List.length_nil] at *; omega)
end
end
section
local macro_rules | `(tactic| walk_at "binaryOp RShift int int") => `(tactic| (k_here; (with_reducible refine shr1 ?_)))
local macro_rules | `(tactic| walk_at "binaryOp Mod int int") => `(tactic| (k_here; (with_reducible refine mod_pos ?k1 ?_); (case k1 => decide)))
local macro_rules | `(tactic| walk_at "binaryOp FloorDiv int int") => `(tactic| (k_here; (with_reducible refine fdiv_pos ?k1 ?k2 ?_); (case k1 => decide); (case k2 => decide +kernel)))
local macro_rules | `(tactic| k_all) => `(tactic| with_reducible assumption)
local macro_rules | `(tactic| l_idx) => `(tactic| omega)
local macro_rules | `(tactic| k_upd) => `(tactic| first | (refine' Pick.head ?a; (case a => k_all)) | (refine' Pick.tail ?a ?b; (case a => k_ne); (case b => k_upd)))
local macro_rules | `(tactic| walk_at "call ref") => `(tactic| (k_here; refine wpAny_call ?_; k_dflt (refine' code_def ?k1 ?k2 ?k3 ?k4 ?k5 ?kA ?kF ?kK ?k6 ?k7 ?k8 ?k9 ?kB ?_ ?c2 ?c3 ?c4 ?c5; (case kA => exact rfl); (case kF => exact rfl); (case kK => first | exact rfl | assumption); (case k1 => k_asm); (case k2 => k_asm); (case k3 => k_asm); (case k4 => k_asm); (case k5 => k_asm); (case k6 => k_is); (case k7 => k_is); (case k8 => ktr_room); (case k9 => exact BindsTo.of_eq rfl); (case c5 => decide); (case kB => exact locs rfl); (case c2 => exact rfl); (case c3 => exact rfl); (case c4 => exact rfl); k_whole; intro g' L' h' FG' F' N' B' X' T'; (try dsimp only); (try k_lift B'); (try k_fold))))
local macro_rules | `(tactic| walk_at "call ref") => `(tactic| (k_here; (with_reducible show wpAny _ _ (call (Value.ref 35) [Value.ref _, Value.int _ _, Value.int _ _]) _ _ _); k_dflt (refine' siftdown_tells ?B ?F ?X ?N ?T ?hk ?P ?hi ?hlen ?hp0 ?hp1 ?hdp ?hun ?_; (case B => k_asm); (case F => k_asm); (case X => k_asm); (case N => k_asm); (case T => k_asm); (case hk => first | exact rfl | assumption); (case P => k_upd); (case hi => l_ints); (case hlen => l_idx); (case hp0 => l_idx); (case hp1 => l_idx); (case hdp => ktr_room); (case hun => ktr_units); k_whole); intro h' tk' vs' n' F' N' hI'; (try k_sweep)))
local macro_rules | `(tactic| walk_at "call ref") => `(tactic| (k_here; (with_reducible show wpAny _ _ (call (Value.ref 21) [Value.ref _, Value.int _ _]) _ _ _); k_dflt (refine' push_tells ?B ?F ?X ?N ?T ?hk ?P ?hi ?hlen ?hdp ?hun ?_; (case B => k_asm); (case F => k_asm); (case X => k_asm); (case N => k_asm); (case T => k_asm); (case hk => first | exact rfl | assumption); (case P => k_upd); (case hi => l_ints); (case hlen => l_idx); (case hdp => ktr_room); (case hun => ktr_units); k_whole); intro h' tk' vs' n' ys' F' N' hI' hy' hyl'; (try k_sweep)))
section
variable {w : World} {mean : ExcName → Option Value} {mg mb : Str → Option Value} {dp un : Nat} {gd : Option (List Code)} {cn : Str} {cs : Scope} {a : Addr} {ccd : Value} {cl : List (Str × Addr)} {outer : List Env} {A₀ : Around} {base h₀ : Heap} {L : Addr} {m : Str → Option Value} {s : Shared} {Q E : Value → Shared → Prop}
set_option maxHeartbeats 1000000 in
theorem siftup_tells {l : Addr} {vs : List Value} {n : Nat} {xs : List Int} {news rest : List (Addr × Obj)} {t0 : Tok}
    (B : Below A₀ base outer h₀) (F : Fr h₀ L s.heap m) (X : (hd.heap_39 w.params).In h₀) (N : News h₀ L s.heap news) (T : Top hd.view_39 lz mean mg mb h₀) (hk : cs.kind = .function)
    (P : Pick l (listOf vs.toArray n) news rest) (hi : IntsAre vs xs) (hlen : xs.length < 900) (hne : 0 < xs.length)
    (hdp : dp + 2 < recursionLimit) (hun : un + 16 < cLine)
    (hret : ∀ h' tk' vs' n', Fr h₀ L h' m → News h₀ L h' ((l, listOf vs'.toArray n') :: rest) → IntsAre vs' (suF xs) → Q .none { s with heap := h', toks := tk' }) :
    wpAny (model prg w) (ktrTop dp un gd cn cs L a ccd cl outer) (call (.ref 42) [.ref l, .int 0 t0]) Q E s := by
  have hoff := P.off
  replace N := P.news N
  clear P
  revert X; unfold prg; w_top off; k_fill; intro X
  refine wpAny_call ?_
  k_dflt cell_enter
  k_with_none
  k_with "exec While Compare cons nil" => k_while (fun script heap p c => heap.length = xs.length ∧ 0 ≤ p ∧ p < (xs.length : Int) ∧ c = 2 * p + 1 ∧ suL xs.length (xs.length - p.toNat) heap p.toNat = suL xs.length xs.length xs 0) (fun script heap p c => xs.length - p.toNat) "heap" "pos" "childpos"
  k_with "state" => first | exact ⟨rfl, by omega, by omega, by omega, rfl⟩ | (refine ⟨by rw [List.length_set]; assumption, by omega, by omega, by omega, ?_⟩; first | exact suL_rightC (by assumption) (by omega) (by omega) (by assumption) (by assumption) | exact suL_leftC (by assumption) (by omega) (by omega) (Or.inr (by assumption)) (by assumption) | exact suL_leftC (by assumption) (by omega) (by omega) (Or.inl (by omega)) (by assumption))
  k_with "measure" => omega
  k_steps
  refine hret _ _ _ _ (by k_asm) (by k_asm) (ints_eq (by assumption) ?_)
  exact su_end (by assumption) (by assumption) (by omega) (by assumption) (by assumption) (by assumption) rfl

local macro_rules | `(tactic| walk_at "call ref") => `(tactic| (k_here; (with_reducible show wpAny _ _ (call (Value.ref 42) [Value.ref _, Value.int _ _]) _ _ _); k_dflt (refine' siftup_tells ?B ?F ?X ?N ?T ?hk ?P ?hi ?hlen ?hne ?hdp ?hun ?_; (case B => k_asm); (case F => k_asm); (case X => k_asm); (case N => k_asm); (case T => k_asm); (case hk => first | exact rfl | assumption); (case P => k_upd); (case hi => l_ints); (case hlen => ksa_idx); (case hne => ksa_idx); (case hdp => ktr_room); (case hun => ktr_units); k_whole); intro h' tk' vs' n' F' N' hI'; (try k_sweep)))

set_option maxHeartbeats 1000000 in
theorem pop_tells {l : Addr} {vs : List Value} {n : Nat} {xs : List Int} {news rest : List (Addr × Obj)}
    (B : Below A₀ base outer h₀) (F : Fr h₀ L s.heap m) (X : (hd.heap_39 w.params).In h₀) (N : News h₀ L s.heap news) (T : Top hd.view_39 lz mean mg mb h₀) (hk : cs.kind = .function)
    (P : Pick l (listOf vs.toArray n) news rest) (hi : IntsAre vs xs) (hlen : xs.length < 900) (hne : 0 < xs.length)
    (hdp : dp + 3 < recursionLimit) (hun : un + 24 < cLine)
    (hret : ∀ h' tk' vs' n' t' ys v, Fr h₀ L h' m → News h₀ L h' ((l, listOf vs'.toArray n') :: rest) → IntsAre vs' ys → ys = popF xs → ys.length = xs.length - 1 → v = popV xs → Q (.int v t') { s with heap := h', toks := tk' }) :
    wpAny (model prg w) (ktrTop dp un gd cn cs L a ccd cl outer) (call (.ref 28) [.ref l]) Q E s := by
  have hoff := P.off
  replace N := P.news N
  clear P
  have hl2 : xs.dropLast.length = xs.length - 1 := by simp
  have hv := hi.length
  revert X; unfold prg; w_top off; k_fill; intro X
  refine wpAny_call ?_
  k_dflt cell_enter
  k_with_none
  k_steps
  · have hp : 0 < xs.dropLast.length := by omega
    exact at_int (pop_eq2 hp).1 (hret _ _ _ _ _ _ _ (by k_asm) (by k_asm) (ints_eq (by assumption) (pop_eq2 hp).2.symm) rfl (popF_length _ hne) rfl)
  · have hp : ¬ 0 < xs.dropLast.length := by omega
    exact at_int (pop_eq1 hp hne).1 (hret _ _ _ _ _ _ _ (by k_asm) (by k_asm) (ints_eq (by assumption) (pop_eq1 hp hne).2.symm) rfl (popF_length _ hne) rfl)
end
end
section
/-! enumerate over a tuple, and a for with an else -/
section
variable {prog : Program} {w : World} {A : Around} {E : Value → Shared → Prop} {s : Shared}

theorem nextOf_tup_item {it l : Addr} {i : Nat} {items : Array Value} {x : Value} {Q : Value → Shared → Prop} (hit : s.heap.IsTupleIter it l i)
    (hl : s.heap.IsTuple l items) (hx : items[i]? = some x)
    (hQ : ∀ h', h'.IsTupleIter it l (i + 1) → Heap.SameBut it s.heap h' → Q x { s with heap := h' }) :
    wpAny (model prog w) A (Builtin.SmallTypes.nextOf (.ref it)) Q E s := by
  obtain ⟨o, ho, hc, hd⟩ := id hit
  obtain ⟨ol, hol, _, nl, hdl⟩ := hl
  unfold Builtin.SmallTypes.nextOf
  refine wpAny_bind (wpAny_callSpecial?_slot (name := Str.ofString "__next__") hit.typeIs PySem.F.slot_tuple_iterator_next
    (wpAny_call_entry PySem.F.slot_tuple_iterator_next hit.typeIs PySem.F.entry_tuple_iterator_next ?_ (PySem.F.args_tuple_iterator_next_1 _)))
  show wpAny _ _ (field (.ref it) 0 >>= _) _ _ s
  refine wpAny_bind (wpAny_field ho hd (x := .ref l) rfl ?_)
  show wpAny _ _ (if (Value.ref l == Value.none) = true then _ else _) _ _ s
  rw [if_neg (show ¬ ((Value.ref l == Value.none) = true) from Bool.false_ne_true)]
  show wpAny _ _ (field (.ref it) 1 >>= _) _ _ s
  refine wpAny_bind (wpAny_field ho hd (x := .int i 0) rfl ?_)
  show wpAny _ _ (seqItems? (.ref l) >>= _) _ _ s
  refine wpAny_bind (wpAny_seqItems hol hdl ?_)
  simp only [Int.toNat_natCast, hx]
  refine wpAny_bind (wpAny_setField ho hd (by simp) (wpAny_pure ⟨x, rfl, wpAny_pure (hQ _ ?_ (Heap.SameBut.update ..))⟩))
  exact ⟨_, Heap.get?_update_self _ ho (Obj.isFreed_of_fields (Obj.data_mapFields hd _)), (Obj.cls_mapFields ..).trans hc, by
    rw [Obj.data_mapFields hd]; simp [rawInt]⟩

theorem nextOf_tup_end {it l : Addr} {i : Nat} {items : Array Value} {Q : Value → Shared → Prop} (hh : A.handled = none)
    (hit : s.heap.IsTupleIter it l i) (hl : s.heap.IsTuple l items) (hx : items[i]? = none)
    (hE : ∀ h' e, Heap.ExtBut it s.heap h' → (∃ o, h'.get? e = some o ∧ o.cls = .type "StopIteration") → E (.ref e) { s with heap := h' }) :
    wpAny (model prog w) A (Builtin.SmallTypes.nextOf (.ref it)) Q E s := by
  obtain ⟨o, ho, hc, hd⟩ := id hit
  obtain ⟨ol, hol, _, nl, hdl⟩ := hl
  unfold Builtin.SmallTypes.nextOf
  refine wpAny_bind (wpAny_callSpecial?_slot (name := Str.ofString "__next__") hit.typeIs PySem.F.slot_tuple_iterator_next
    (wpAny_call_entry PySem.F.slot_tuple_iterator_next hit.typeIs PySem.F.entry_tuple_iterator_next ?_ (PySem.F.args_tuple_iterator_next_1 _)))
  show wpAny _ _ (field (.ref it) 0 >>= _) _ _ s
  refine wpAny_bind (wpAny_field ho hd (x := .ref l) rfl ?_)
  show wpAny _ _ (if (Value.ref l == Value.none) = true then _ else _) _ _ s
  rw [if_neg (show ¬ ((Value.ref l == Value.none) = true) from Bool.false_ne_true)]
  show wpAny _ _ (field (.ref it) 1 >>= _) _ _ s
  refine wpAny_bind (wpAny_field ho hd (x := .int i 0) rfl ?_)
  show wpAny _ _ (seqItems? (.ref l) >>= _) _ _ s
  refine wpAny_bind (wpAny_seqItems hol hdl ?_)
  simp only [Int.toNat_natCast, hx]
  refine wpAny_bind (wpAny_rule (wpAny_bind (wpAny_setField ho hd (by simp) ?_)))
  show wpAny _ _ (newExc (.type "StopIteration") [] >>= _) _ _ _
  refine wpAny_bind ?_
  simp only [newExc, newTuple]
  refine wpAny_bind (wpAny_newObj_type ?_ (by size_fits))
  refine wpAny_bind (m := firstArgMember _ _) (wpAny_of_eq (a := Value.none) (by first | rfl | (simp only [firstArgMember]; rfl)) ?_)
  refine wpAny_newObj_type ?_ (by size_fits)
  simp only [raiseNew]
  refine wpAny_bind (wpAny_handled ?_)
  first | rw [show A.in1.handled = none from hh] | rw [hh]
  refine wpAny_bind (wpAny_pure (wpAny_throw ?_))
  exact hE _ _ (((Heap.SameBut.update ..).extBut.push _).push _) ⟨_, Heap.get?_push_size _ rfl, rfl⟩
end

theorem draws_tup {prog : Program} {w : World} {A : Around} (hh : A.handled = none) (it l : Addr) (hne : l ≠ it) (items : Array Value) :
    Draws prog w A it [it, l] items.size (fun i v => items[i]? = some v) (fun i h => h.IsTupleIter it l i ∧ h.IsTuple l items) where
  live := fun _ _ st => let ⟨o, ho, _⟩ := st.1; ⟨o, ho⟩
  frame := fun _ _ _ st hk => ⟨st.1.at fun o e => hk it (by simp) o e, st.2.at fun o e => hk l (by simp) o e⟩
  item := fun i s Q E hi st hQ => by
    refine nextOf_tup_item st.1 st.2 (x := items[i]) (by simp [hi]) fun h' hit' hs' => ?_
    exact hQ _ h' s.toks (by simp [hi]) ⟨hit', st.2.extBut hs'.extBut hne⟩ hs'
  done := fun s Q E st hE => nextOf_tup_end hh st.1 st.2 (by simp) hE

section
open PySem.AutoSeq1 (wpAny_loadPart')
set_option maxHeartbeats 1000000 in
theorem meets_enum_newT (l : Addr) (items : Array Value) (n : Nat) (dct : Option Addr) (sl : Array (Option Value)) :
    Meets (Builtin.«enumerate.__new__» ⟨[.type "enumerate", .ref l], []⟩) (fun _ R s => s.heap.get? l = some { cls := .type "tuple", dict := dct, data := .seq items n, slots := sl } ∧
      R (.ok (.ret (.ref (s.heap.push { cls := .type "tuple_iterator", data := .fields #[.ref l, .int 0 0] }).objs.size)))
        { s with heap := (s.heap.push { cls := .type "tuple_iterator", data := .fields #[.ref l, .int 0 0] }).push { cls := .type "enumerate", data := .fields #[.none, .bool false, .ref s.heap.objs.size, rawInt 0, .none, .none] } }) :=
  .of_wp fun prog w A R s h => by
    obtain ⟨hp, g, d, tk, os⟩ := s; obtain ⟨hl, h⟩ := h
    have hsub := sub_enumerate
    have hL : Heap.IsTuple (Shared.heap ⟨hp, g, d, tk, os⟩) l items := ⟨_, hl, rfl, n, rfl⟩
    wp_walk using wpAny_loadPart' hl
    refine wpAny_stack_any fun st => wpAny_pure ?_
    split
    · rename_i c _ _ _ _ _
      cases (c == Value.type "enumerate")
      · wp_walk using wpAny_loadPart' hl, wpAny_pyIter_tuple hL
        exact ⟨_, rfl, h⟩
      · wp_walk using wpAny_loadPart' hl, wpAny_pyIter_tuple hL
        exact ⟨_, rfl, h⟩
    · wp_walk using wpAny_loadPart' hl, wpAny_pyIter_tuple hL
      exact ⟨_, rfl, h⟩
end
section
variable {prog : Program} {w : World} {A : Around} {E : Value → Shared → Prop} {s : Shared}
theorem call_enum_tup {l : Addr} {items : Array Value} {Q : Value → Shared → Prop} (hL : s.heap.IsTuple l items)
    (h : ∀ h', IsEnum h' (s.heap.objs.size + 1) s.heap.objs.size 0 .none → h'.IsTupleIter s.heap.objs.size l 0 → h'.objs.size = s.heap.objs.size + 2 →
      (∀ b o, s.heap.get? b = some o → h'.get? b = some o) → Q (.ref (s.heap.objs.size + 1)) { s with heap := h' }) :
    wpAny (model prog w) A (call (.type "enumerate") [.ref l]) Q E s := by
  obtain ⟨⟨c, dct, dt, sl⟩, hl, hc, n, hd⟩ := hL
  replace hc : c = .type "tuple" := hc
  replace hd : dt = .seq items n := hd
  subst hc hd
  refine callType_new PySem.F.called_enumerate (by decide) (PySem.F.typeCall_enumerate_1 _) (PySem.F.newCall_enumerate_1 _) (fun obj => PySem.F.args_object_init_2 obj _) PySem.F.entry_enumerate_new
    (meets_enum_newT l items n dct sl) ⟨hl, ?_⟩
  have hz : (s.heap.push { cls := .type "tuple_iterator", data := .fields #[.ref l, .int 0 0] }).objs.size = s.heap.objs.size + 1 := Heap.size_push ..
  show _ ∧ _
  rw [hz]
  have he : IsEnum ((s.heap.push { cls := .type "tuple_iterator", data := .fields #[.ref l, .int 0 0] }).push
      { cls := .type "enumerate", data := .fields #[.none, .bool false, .ref s.heap.objs.size, rawInt 0, .none, .none] }) (s.heap.objs.size + 1) s.heap.objs.size 0 .none := by
    have := Heap.get?_push_size (s.heap.push { cls := .type "tuple_iterator", data := .fields #[.ref l, .int 0 0] })
      (o := { cls := .type "enumerate", data := .fields #[.none, .bool false, .ref s.heap.objs.size, rawInt 0, .none, .none] }) rfl
    rw [hz] at this; exact this
  refine ⟨⟨_, he, rfl⟩, h _ he ⟨_, Heap.get?_push_of_some _ (Heap.get?_push_size _ rfl), rfl, rfl⟩ (by rw [Heap.size_push, hz]) fun b o x => Heap.get?_push_of_some _ (Heap.get?_push_of_some _ x)⟩
end

section
variable {prog : Program} {w : World} {A : Around} {E : Value → Shared → Prop} {s : Shared} {env : Env} {h₀ : Heap} {body : List Stmt} {Q : Flow → Shared → Prop}

def EnumEnd (h₀ : Heap) (L : Addr) (s : Shared) (own : List (Addr × Obj)) (Jn : (Str → Option Value) → List (Addr × Obj) → Prop) (s₃ : Shared) : Prop :=
  ∃ h' tk' m' news', s₃ = { s with heap := h', toks := tk' } ∧ Fr h₀ L h' m' ∧ News h₀ L h' (own ++ news') ∧ (∀ p ∈ news', ∀ q ∈ own, q.1 ≠ p.1) ∧ Jn m' news'
theorem EnumEnd.intro {L : Addr} {own news' all : List (Addr × Obj)} {Jn : (Str → Option Value) → List (Addr × Obj) → Prop} {h' : Heap} {tk' : Nat} {m' : Str → Option Value} (F : Fr h₀ L h' m') (N : News h₀ L h' all) (hs : ∀ p ∈ own ++ news', p ∈ all)
    (ho : ∀ p ∈ news', ∀ q ∈ own, q.1 ≠ p.1) (hJ : Jn m' news') : EnumEnd h₀ L s own Jn { s with heap := h', toks := tk' } := ⟨h', tk', m', news', rfl, F, fun p hp => N p (hs p hp), ho, hJ⟩
def ElseEnd (h₀ : Heap) (L : Addr) (s : Shared) (led : List (Addr × Obj)) (Jn : (Str → Option Value) → Prop) (s₃ : Shared) : Prop :=
  ∃ h' tk' m', s₃ = { s with heap := h', toks := tk' } ∧ Fr h₀ L h' m' ∧ News h₀ L h' led ∧ Jn m'
theorem ElseEnd.intro {L : Addr} {led all : List (Addr × Obj)} {Jn : (Str → Option Value) → Prop} {h' : Heap} {tk' : Nat} {m' : Str → Option Value} (F : Fr h₀ L h' m') (N : News h₀ L h' all) (hs : ∀ p ∈ led, p ∈ all)
    (hJ : Jn m') : ElseEnd h₀ L s led Jn { s with heap := h', toks := tk' } := ⟨h', tk', m', rfl, F, fun p hp => N p (hs p hp), hJ⟩

/-- enumerate over a tuple that stood ahead of the frame, by an invariant -/
theorem enum_tup_inv {elts : List PySem.Expr} {k : Nat} {pos : Pos} {l : Addr} {items : Array Value} {m₀ : Str → Option Value} {news : List (Addr × Obj)}
    (J : Nat → (Str → Option Value) → List (Addr × Obj) → Prop)
    (hh : A.handled = none) (F : Fr h₀ env.locals s.heap m₀) (N : News h₀ env.locals s.heap news) (hl : h₀.IsTuple l items) (h0 : J 0 m₀ news)
    (step : ∀ i x T t m₁ news₁ h tk own, items[i]? = some x → J i m₁ news₁ → (∀ p ∈ news₁, ∀ q ∈ own, q.1 ≠ p.1) → h.IsTuple T #[.int (i : Int) t, x] → Fr h₀ env.locals h m₁ → News h₀ env.locals h (own ++ news₁) →
      wpAny (model prog w) A (assign (.Tuple elts k pos) env (.ref T)) (fun _ s₂ => wpAny (model prog w) A (execs body env) (fun f s₃ => match f with
        | .ret v => Q (.ret v) s₃
        | .brk => Q .next s₃
        | _ => EnumEnd h₀ env.locals s own (J (i + 1)) s₃) E s₂) E { s with heap := h, toks := tk })
    (done : ∀ h' tk m' news', Fr h₀ env.locals h' m' → News h₀ env.locals h' news' → J items.size m' news' → Q .next { s with heap := h', toks := tk }) :
    wpAny (model prog w) A (call (.type "enumerate") [.ref l]) (fun xv s₁ => wpAny (model prog w) A (pyIter xv) (fun it s₂ => TurnsAt prog w A h₀ env (.Tuple elts k pos) body Q E it s₂) E s₁) E s := by
  have hls : s.heap.IsTuple l items := hl.at fun o e => F.keep l o e
  obtain ⟨ol, hol, _⟩ := id hl
  have hlt : l < s.heap.objs.size := Heap.lt_size (F.keep _ _ hol)
  have hLs : env.locals < s.heap.objs.size := F.ns.lt
  refine call_enum_tup hls fun h' hE hI hsz hk => ?_
  refine wpAny_pyIter_enum hE ?_
  have W := (WalksT.enumerateD (draws_tup (prog := prog) (w := w) (A := A.in1) hh s.heap.objs.size l (Nat.ne_of_lt hlt) items) (s.heap.objs.size + 1) (Nat.succ_ne_self _) (by
    intro hm
    rcases List.mem_cons.mp hm with e | hm
    · exact Nat.succ_ne_self _ e
    · exact Nat.ne_of_gt (Nat.lt_succ_of_lt hlt) (List.mem_singleton.mp hm)) (by simp)).toU
  have F' : Fr h₀ env.locals h' m₀ := ⟨F.ns.keeps hk, fun b o e => hk b o (F.keep b o e), F.above⟩
  have N' : News h₀ env.locals h' news := fun p hp => ⟨hk _ _ (N p hp).1, (N p hp).2⟩
  have hnone : ∀ b, s.heap.objs.size ≤ b → h₀.get? b = none := fun b hb => ktu_new F hb
  have wrof : ∀ b, b ∈ [s.heap.objs.size + 1, s.heap.objs.size] → s.heap.objs.size ≤ b := fun b hb => by
    rcases List.mem_cons.mp hb with e | hb
    · rw [e]; exact Nat.le_succ _
    · rw [List.mem_singleton.mp hb]; exact Nat.le_refl _
  refine ⟨s.heap.objs.size + 1, [s.heap.objs.size + 1, s.heap.objs.size, l], [s.heap.objs.size + 1, s.heap.objs.size], items.size, _, _, _, m₀, news, J, rfl, KTurns.ofWalksU W, ?_, fun b hb => hnone b (wrof b hb), ?_, ⟨⟨_, hE⟩, hI, hls.at fun o e => hk _ _ e⟩, F', N', h0, ?_, ?_⟩
  · intro hm
    rcases List.mem_cons.mp hm with e | hm
    · exact Nat.ne_of_lt (Nat.lt_succ_of_lt hLs) e
    · rcases List.mem_cons.mp hm with e | hm
      · exact Nat.ne_of_lt hLs e
      · have e := List.mem_singleton.mp hm
        exact absurd (Nat.lt_of_lt_of_le (Heap.lt_size hol) F.above) (e ▸ Nat.lt_irrefl _)
  · intro p hp hm
    exact absurd (Heap.lt_size (N p hp).1) (Nat.not_lt.mpr (wrof _ hm))
  · intro i v m₁ news₁ h₁ tk₁ own hi hP hJ hoff hown hget hall hst F₁ N₁
    obtain ⟨T, vals, rfl, ⟨t, x, hx, rfl⟩, hT⟩ := hP
    have hown' : ∀ q ∈ own, q.1 ∈ [s.heap.objs.size + 1, s.heap.objs.size] := fun q hq => by
      have h1 := hown q hq
      rcases List.mem_cons.mp h1 with e | h1
      · rw [e]; exact List.mem_cons_self ..
      · rcases List.mem_cons.mp h1 with e | h1
        · rw [e]; exact List.mem_cons_of_mem _ (List.mem_cons_self ..)
        · have e := List.mem_singleton.mp h1
          have hn := (N₁ q (List.mem_append_left _ hq)).2.2
          rw [e, hol] at hn; cases hn
    refine wpAny_mono (step i x T t m₁ news₁ h₁ tk₁ own hx hJ (fun p hp q hq e => hoff p hp (e ▸ hown' q hq)) hT F₁ N₁) (fun _ s₂ hs₂ => wpAny_mono hs₂ (fun f s₃ hf => ?_) fun _ _ e => e) fun _ _ e => e
    have hoff2 : ∀ news' : List (Addr × Obj), News h₀ env.locals s₃.heap (own ++ news') → (∀ p ∈ news', ∀ q ∈ own, q.1 ≠ p.1) → ∀ p ∈ news', p.1 ∉ [s.heap.objs.size + 1, s.heap.objs.size] := by
      intro news' N' ho p hp hm
      obtain ⟨o, ho'⟩ : ∃ o, h₁.get? p.1 = some o := by
        rcases List.mem_cons.mp hm with e | hm
        · obtain ⟨⟨old, q⟩, _⟩ := hst
          exact ⟨_, e ▸ q⟩
        · have e := List.mem_singleton.mp hm
          obtain ⟨_, ⟨o, q, _⟩, _⟩ := hst
          exact ⟨o, e ▸ q⟩
      have hfp : p.1 ∈ [s.heap.objs.size + 1, s.heap.objs.size, l] := by
        rcases List.mem_cons.mp hm with e | hm
        · rw [e]; exact List.mem_cons_self ..
        · rw [List.mem_singleton.mp hm]; exact List.mem_cons_of_mem _ (List.mem_cons_self ..)
      have hq := hall p.1 hfp (hnone _ (wrof _ hm)) o ho'
      exact ho p hp _ hq rfl
    cases f with
    | ret v => exact hf
    | brk => exact hf
    | next =>
      obtain ⟨h', tk', m', news', e, F'', N'', ho, hj⟩ := hf
      exact ⟨rfl, h', tk', m', news', e, F'', N'', hoff2 news' (by rw [e]; exact N'') ho, hj⟩
    | cont =>
      obtain ⟨h', tk', m', news', e, F'', N'', ho, hj⟩ := hf
      exact ⟨rfl, h', tk', m', news', e, F'', N'', hoff2 news' (by rw [e]; exact N'') ho, hj⟩
  · intro h'' tk m' news' F'' N'' _ hJ
    exact done h'' tk m' news' F'' N'' hJ

/-- a for with an else over a tuple that stood ahead of the frame, by an invariant; what the turns make is forgotten but for m -/
theorem forElse_tup {target : PySem.Expr} {iter : PySem.Expr} {orelse : List Stmt} {pos : Pos} {l : Addr} {items : Array Value} {m₀ : Str → Option Value} {news : List (Addr × Obj)}
    (J : Nat → (Str → Option Value) → Prop)
    (hh : A.handled = none) (F : Fr h₀ env.locals s.heap m₀) (N : News h₀ env.locals s.heap news) (hl : h₀.IsTuple l items) (h0 : J 0 m₀)
    (hit : ∀ Q' : Value → Shared → Prop, Q' (.ref l) s → wpAny (model prog w) A (eval iter env) Q' E s)
    (step : ∀ i x m₁ h tk I o, items[i]? = some x → J i m₁ → (∀ p ∈ news, p.1 < I) → Fr h₀ env.locals h m₁ → News h₀ env.locals h ((I, o) :: news) →
      wpAny (model prog w) A (assign target env x) (fun _ s₂ => wpAny (model prog w) A (execs body env) (fun f s₃ => match f with
        | .ret v => Q (.ret v) s₃
        | .brk => Q .next s₃
        | _ => ElseEnd h₀ env.locals s ((I, o) :: news) (J (i + 1)) s₃) E s₂) E { s with heap := h, toks := tk })
    (done : ∀ h' tk m', Fr h₀ env.locals h' m' → News h₀ env.locals h' news → J items.size m' → wpAny (model prog w) A (execs orelse env) Q E { s with heap := h', toks := tk })
    (hs : ∀ x, foldedSetIterable iter env x = pure x := by intro _; rfl)
    (hE : PassesOwn (model prog w) A env E := by passes_own) :
    wpAny (model prog w) A (exec (.For target iter body orelse pos) env) Q E s := by
  have hls : s.heap.IsTuple l items := hl.at fun o e => F.keep l o e
  obtain ⟨ol, hol, _⟩ := id hl
  have hlt : l < s.heap.objs.size := Heap.lt_size (F.keep _ _ hol)
  have hLs : env.locals < s.heap.objs.size := F.ns.lt
  have hIn : h₀.get? s.heap.objs.size = none := ktu_new F (Nat.le_refl _)
  have W := Walks.tuple (prog := prog) (w := w) (A := A) hh s.heap.objs.size l (Nat.ne_of_lt hlt) items
  refine wpAny_For (hit _ ?_) hs
  refine wpAny_pyIter_tuple hls ?_
  refine codeAny_forLoop_any (fun k s' => ∃ h' tk m' i, s' = { s with heap := h', toks := tk } ∧ (h'.IsTupleIter s.heap.objs.size l i ∧ h'.IsTuple l items) ∧ Fr h₀ env.locals h' m' ∧ News h₀ env.locals h' news ∧ J i m' ∧ i ≤ items.size ∧ k = items.size + 1 - i) ?_ (items.size + 1)
    ⟨_, s.toks, m₀, 0, rfl, ⟨⟨_, Heap.get?_push_size _ rfl, rfl, rfl⟩, hls.push _⟩, F.push _, fun p hp => ⟨Heap.get?_push_of_some _ (N p hp).1, (N p hp).2⟩, h0, Nat.zero_le _, rfl⟩
  rintro k s' ⟨h', tk, m', i, rfl, hst', F', N', hJ, hi, rfl⟩
  have hne : ∀ b o, h₀.get? b = some o → b ≠ s.heap.objs.size := fun b o e q => by rw [q, hIn] at e; cases e
  have next : ∀ h₁ : Heap, (∀ b o, b ∉ [s.heap.objs.size] → h'.get? b = some o → h₁.get? b = some o) → Fr h₀ env.locals h₁ m' ∧ News h₀ env.locals h₁ news := fun h₁ hk₁ =>
    ⟨⟨F'.ns.at' fun o e => hk₁ _ o (fun q => Nat.ne_of_lt hLs (List.mem_singleton.mp q)) e, fun b o e => hk₁ b o (fun q => hne b o e (List.mem_singleton.mp q)) (F'.keep b o e), F'.above⟩,
     fun p hp => ⟨hk₁ _ _ (fun q => absurd (Heap.lt_size (N p hp).1) (by rw [List.mem_singleton.mp q]; exact Nat.lt_irrefl _)) (N' p hp).1, (N' p hp).2⟩⟩
  by_cases hlt' : i < items.size
  · refine W.item i _ _ _ hlt' hst' fun v h₁ tk₁ hv hst₁ hk₁ => ?_
    refine letGo_tupleiter hst₁.1 ?_
    obtain ⟨F₁, N₁⟩ := next h₁ hk₁
    obtain ⟨o, ho, hor⟩ := id hst₁.1
    have N₂ : News h₀ env.locals h₁ ((s.heap.objs.size, o) :: news) := fun p hp => by
      rcases List.mem_cons.mp hp with rfl | hp
      · exact ⟨ho, Nat.ne_of_gt hLs, hIn⟩
      · exact N₁ p hp
    refine wpAny_mono (step i v m' h₁ tk₁ _ o hv hJ (fun p hp => Heap.lt_size (N p hp).1) F₁ N₂) (fun _ s₂ h₂' => wpAny_mono h₂' (fun f s₃ h₃ => ?_) hE) hE
    cases f with
    | ret v => exact h₃
    | brk => exact h₃
    | cont =>
      obtain ⟨h₃', tk₃, m₂, rfl, F₃, N₃, hJ₃⟩ := h₃
      refine ⟨items.size + 1 - (i + 1), by omega, h₃', tk₃, m₂, i + 1, rfl, ⟨⟨o, (N₃ _ (List.mem_cons_self ..)).1, hor⟩, hl.at fun o e => F₃.keep _ _ e⟩, F₃, fun p hp => N₃ p (List.mem_cons_of_mem _ hp), hJ₃, hlt', rfl⟩
    | next =>
      obtain ⟨h₃', tk₃, m₂, rfl, F₃, N₃, hJ₃⟩ := h₃
      refine ⟨items.size + 1 - (i + 1), by omega, h₃', tk₃, m₂, i + 1, rfl, ⟨⟨o, (N₃ _ (List.mem_cons_self ..)).1, hor⟩, hl.at fun o e => F₃.keep _ _ e⟩, F₃, fun p hp => N₃ p (List.mem_cons_of_mem _ hp), hJ₃, hlt', rfl⟩
  · have hin : i = items.size := by omega
    subst hin
    refine W.done _ _ _ hst' fun h₁ tk₁ hk₁ => ?_
    obtain ⟨F₁, N₁⟩ := next h₁ hk₁
    exact wpAny_mono (done h₁ tk₁ m' F₁ N₁ hJ) (fun f s₃ h₃ => h₃) hE
end
end
section
/-! filemode -/
def tbl : List (List (Int × Nat)) := [[(40960, 108), (49152, 115), (32768, 45), (24576, 98), (16384, 100), (8192, 99), (4096, 112)], [(256, 114)], [(128, 119)], [(2112, 115), (2048, 83), (64, 120)], [(32, 114)], [(16, 119)], [(1032, 115), (1024, 83), (8, 120)], [(4, 114)], [(2, 119)], [(513, 116), (512, 84), (1, 120)]]
def rowHit (mode : Int) (i : Nat) (p : Int × Nat) : Bool := if i = 0 then Builtin.bitAnd mode 61440 == p.1 else Builtin.bitAnd mode p.1 == p.1
def rowChar (mode : Int) (i : Nat) (row : List (Int × Nat)) : Nat := match row.find? (rowHit mode i) with
  | some p => p.2
  | none => if i = 0 then 63 else 45
def fmChars (mode : Int) : Nat → List Nat
  | 0 => []
  | i + 1 => fmChars mode i ++ [rowChar mode i (tbl.getD i [])]
def fmStr (mode : Int) : Str := ⟨(fmChars mode 10).toArray⟩
def one (c : Nat) : Str := ⟨#[c]⟩

theorem glue_ones : ∀ (cs : List Nat) (a : Array Nat), (cs.map one).foldl (fun acc p => acc ++ (Str.ofString "").cps ++ p.cps) a = a ++ cs.toArray
  | [], a => by simp
  | c :: r, a => by
    rw [List.map_cons, List.foldl_cons, glue_ones r]
    have e : (Str.ofString "").cps = #[] := by decide +kernel
    rw [e]
    simp [one]
theorem fm_join (mode : Int) : Txt.join (Str.ofString "") ((fmChars mode 10).map one) = fmStr mode := by
  unfold Txt.join Builtin.Str.glued fmStr
  cases h : fmChars mode 10 with
  | nil => rfl
  | cons c r =>
    simp only [List.map_cons, List.drop_succ_cons, List.drop_zero, List.headD_cons]
    rw [glue_ones]
    simp [one]
theorem fm_length (mode : Int) : ∀ i, (fmChars mode i).length = i
  | 0 => rfl
  | i + 1 => by simp [fmChars, fm_length mode i]
theorem strs_snoc {vs : List Value} {ys : List Str} (h : StrsAre vs ys) (y : Str) (t : Tok) : StrsAre (vs ++ [.str y t]) (ys ++ [y]) := by
  induction h with
  | nil => exact .cons y t .nil
  | cons z u _ ih => exact .cons z u ih
theorem fr_known {h₀ h : Heap} {L : Addr} {m : Str → Option Value} {x : Str} {v : Value} (e : m x = some v) (F : Fr h₀ L h m) : Fr h₀ L h (fun y => if y = x then some v else m y) := by
  have q : (fun y => if y = x then some v else m y) = m := by
    funext y
    by_cases hy : y = x
    · rw [if_pos hy, hy, e]
    · rw [if_neg hy]
  rw [q]; exact F

theorem fr_known2 {h₀ h : Heap} {L : Addr} {m : Str → Option Value} {x y : Str} {v u : Value} (e : m x = some v) (e2 : m y = some u) (F : Fr h₀ L h m) : Fr h₀ L h (fun z => if z = x then some v else if z = y then some u else m z) := by
  have q : (fun z => if z = x then some v else if z = y then some u else m z) = m := by
    funext z
    by_cases hz : z = x
    · rw [if_pos hz, hz, e]
    · rw [if_neg hz]
      by_cases hz2 : z = y
      · rw [if_pos hz2, hz2, e2]
      · rw [if_neg hz2]
  rw [q]; exact F
theorem fr_known3 {h₀ h : Heap} {L : Addr} {m : Str → Option Value} {x y y3 : Str} {v u u3 : Value} (e : m x = some v) (e2 : m y = some u) (e3 : m y3 = some u3) (F : Fr h₀ L h m) : Fr h₀ L h (fun z => if z = x then some v else if z = y then some u else if z = y3 then some u3 else m z) := by
  have q : (fun z => if z = x then some v else if z = y then some u else if z = y3 then some u3 else m z) = m := by
    funext z
    by_cases hz : z = x
    · rw [if_pos hz, hz, e]
    · rw [if_neg hz]
      by_cases hz2 : z = y
      · rw [if_pos hz2, hz2, e2]
      · rw [if_neg hz2]
        by_cases hz3 : z = y3
        · rw [if_pos hz3, hz3, e3]
        · rw [if_neg hz3]
  rw [q]; exact F
def isTupO (o : Obj) : Bool := match o.cls with
  | .type c => c == "tuple"
  | _ => false
def seqO (o : Obj) : Option (List Value) := match o.data with
  | .seq items _ => some items.toList
  | _ => none
theorem isTuple_of {h : Heap} {q : Addr} {o : Obj} {vs : List Value} (e : h.get? q = some o) (h1 : isTupO o = true) (h2 : seqO o = some vs) : h.IsTuple q vs.toArray := by
  obtain ⟨c, d, dt, sl⟩ := o
  refine ⟨_, e, ?_, ?_⟩
  · unfold isTupO at h1
    dsimp only at h1 ⊢
    split at h1
    · rw [beq_iff_eq.mp h1]
    · cases h1
  · unfold seqO at h2
    dsimp only at h2 ⊢
    split at h2
    · rename_i items n
      cases h2
      exact ⟨n, by simp⟩
    · cases h2
def tupIn (K : Frag) (v : Value) : Option (List Value) := match v with
  | .ref q => (match K.lookup q with
    | some o => if isTupO o then seqO o else none
    | none => none)
  | _ => none
theorem tupIn_of {K : Frag} {h : Heap} (X : K.In h) {v : Value} {vs : List Value} (e : tupIn K v = some vs) : ∃ q, v = .ref q ∧ h.IsTuple q vs.toArray := by
  unfold tupIn at e
  split at e
  · rename_i q
    split at e
    · rename_i o ho
      split at e
      · rename_i h1
        exact ⟨q, rfl, isTuple_of (X _ _ ho) h1 e⟩
      · cases e
    · cases e
  · cases e
def pairOk (K : Frag) (v : Value) (p : Int × Nat) : Bool := match tupIn K v with
  | some [.int b _, .str x _] => b == p.1 && x == one p.2
  | _ => false
def allOk {β : Type} (f : Value → β → Bool) : List Value → List β → Bool
  | [], [] => true
  | v :: vs, p :: ps => f v p && allOk f vs ps
  | _, _ => false
theorem allOk_len {β : Type} {f : Value → β → Bool} : ∀ {vs : List Value} {ps : List β}, allOk f vs ps = true → vs.length = ps.length
  | [], [], _ => rfl
  | [], _ :: _, h => by cases h
  | _ :: _, [], h => by cases h
  | v :: vs, p :: ps, h => by
    have h' := (Bool.and_eq_true_iff.mp h).2
    simp [allOk_len h']
theorem allOk_at {β : Type} {f : Value → β → Bool} : ∀ {vs : List Value} {ps : List β}, allOk f vs ps = true → ∀ (i : Nat) v, vs[i]? = some v → ∃ p, ps[i]? = some p ∧ f v p = true
  | [], _, _, i, v, h => by simp at h
  | _ :: _, [], h, _, _, _ => by cases h
  | v :: vs, p :: ps, h, 0, u, e => by
    have h' := Bool.and_eq_true_iff.mp h
    simp at e; subst e
    exact ⟨p, rfl, h'.1⟩
  | v :: vs, p :: ps, h, i + 1, u, e => by
    have h' := Bool.and_eq_true_iff.mp h
    have := allOk_at h'.2 i u (by simpa using e)
    simpa using this
def rowOk (K : Frag) (v : Value) (row : List (Int × Nat)) : Bool := match tupIn K v with
  | some vs => allOk (pairOk K) vs row
  | none => false
def tabOk (K : Frag) (a : Addr) : Bool := match tupIn K (.ref a) with
  | some vs => allOk (rowOk K) vs tbl
  | none => false
theorem tab_ok (p : Params) : tabOk (hd.heap_39 p) 82 = true := by kernel_rfl
def PairAt (h : Heap) (v : Value) (p : Int × Nat) : Prop := ∃ q tb tc, v = .ref q ∧ h.IsTuple q #[.int p.1 tb, .str (one p.2) tc]
def RowAt (h : Heap) (v : Value) (row : List (Int × Nat)) : Prop := ∃ (q : Addr) (vs : List Value), v = .ref q ∧ h.IsTuple q vs.toArray ∧ vs.length = row.length ∧ ∀ (i : Nat) u, vs[i]? = some u → ∃ p, row[i]? = some p ∧ PairAt h u p
theorem pair_of {K : Frag} {h : Heap} (X : K.In h) {v : Value} {p : Int × Nat} (e : pairOk K v p = true) : PairAt h v p := by
  unfold pairOk at e
  split at e
  · rename_i b tb x tc hv
    obtain ⟨q, rfl, hq⟩ := tupIn_of X hv
    have e' := Bool.and_eq_true_iff.mp e
    have e1 : b = p.1 := beq_iff_eq.mp e'.1
    have e2 : x = one p.2 := by have := e'.2; simpa using this
    subst e1 e2
    exact ⟨q, tb, tc, rfl, hq⟩
  · cases e
theorem row_of {K : Frag} {h : Heap} (X : K.In h) {v : Value} {row : List (Int × Nat)} (e : rowOk K v row = true) : RowAt h v row := by
  unfold rowOk at e
  split at e
  · rename_i vs hv
    obtain ⟨q, rfl, hq⟩ := tupIn_of X hv
    refine ⟨q, vs, rfl, hq, allOk_len e, fun i u hu => ?_⟩
    obtain ⟨p, h1, h2⟩ := allOk_at e i u hu
    exact ⟨p, h1, pair_of X h2⟩
  · cases e
theorem tab_of {K : Frag} {h : Heap} {a : Addr} (X : K.In h) (e : tabOk K a = true) : ∃ vs : List Value, h.IsTuple a vs.toArray ∧ vs.length = 10 ∧ ∀ (i : Nat) u, vs[i]? = some u → ∃ row, tbl[i]? = some row ∧ RowAt h u row := by
  unfold tabOk at e
  split at e
  · rename_i vs hv
    obtain ⟨q, hq, ht⟩ := tupIn_of X hv
    cases hq
    refine ⟨vs, ht, by rw [allOk_len e]; rfl, fun i u hu => ?_⟩
    obtain ⟨p, h1, h2⟩ := allOk_at e i u hu
    exact ⟨p, h1, row_of X h2⟩
  · cases e
theorem find_at {β : Type} {f : β → Bool} : ∀ {row : List β} {k : Nat} {p : β}, row[k]? = some p → f p = true → (∀ j q, j < k → row[j]? = some q → f q = false) → row.find? f = some p
  | [], _, _, h, _, _ => by simp at h
  | q :: r, 0, p, h, hp, _ => by simp at h; subst h; simp [hp]
  | q :: r, k + 1, p, h, hp, hn => by
    have h0 : f q = false := hn 0 q (Nat.succ_pos _) rfl
    rw [List.find?_cons, h0]
    exact find_at (by simpa using h) hp fun j u hj hu => hn (j + 1) u (by omega) (by simpa using hu)
theorem find_none {β : Type} {f : β → Bool} {row : List β} (hn : ∀ (j : Nat) q, j < row.length → row[j]? = some q → f q = false) : row.find? f = none := by
  rw [List.find?_eq_none]
  intro x hx
  obtain ⟨j, hj, e⟩ := List.getElem_of_mem hx
  rw [hn j x hj (by rw [List.getElem?_eq_getElem hj, e])]
  simp
theorem strs_next {vs : List Value} {mode : Int} {i c : Nat} {t : Tok} {row : List (Int × Nat)} (h : StrsAre vs ((fmChars mode i).map one)) (hrow : tbl[i]? = some row) (e : rowChar mode i row = c) :
    StrsAre (vs ++ [.str (one c) t]) ((fmChars mode (i + 1)).map one) := by
  have e1 : tbl.getD i [] = row := by simp [List.getD, hrow]
  simp only [fmChars, List.map_append, List.map_cons, List.map_nil, e1, e]
  exact strs_snoc h _ _
theorem char_hit {mode : Int} {i k : Nat} {row : List (Int × Nat)} {p : Int × Nat} (h : row[k]? = some p) (hp : rowHit mode i p = true) (hn : ∀ j q, j < k → row[j]? = some q → rowHit mode i q = false) : rowChar mode i row = p.2 := by
  unfold rowChar; rw [find_at h hp hn]
theorem char_none {mode : Int} {i : Nat} {row : List (Int × Nat)} (hn : ∀ (j : Nat) q, j < row.length → row[j]? = some q → rowHit mode i q = false) : rowChar mode i row = if i = 0 then 63 else 45 := by
  unfold rowChar; rw [find_none hn]
theorem hit_more {mode : Int} {i k : Nat} {row : List (Int × Nat)} {p : Int × Nat} (h : row[k]? = some p) (hp : rowHit mode i p = false) (hn : ∀ j q, j < k → row[j]? = some q → rowHit mode i q = false) : ∀ j q, j < k + 1 → row[j]? = some q → rowHit mode i q = false := by
  intro j q hj hq
  by_cases e : j = k
  · subst e; rw [h] at hq; cases hq; exact hp
  · exact hn j q (by omega) hq
theorem hit0 {mode : Int} {i : Nat} {p : Int × Nat} (hi : (i : Int) = 0) (h : Builtin.bitAnd mode 61440 = p.1) : rowHit mode i p = true := by
  have : i = 0 := by omega
  simp [rowHit, this, h]
theorem miss0 {mode : Int} {i : Nat} {p : Int × Nat} (hi : (i : Int) = 0) (h : Builtin.bitAnd mode 61440 ≠ p.1) : rowHit mode i p = false := by
  have : i = 0 := by omega
  simp [rowHit, this, h]
theorem hit1 {mode : Int} {i : Nat} {p : Int × Nat} (hi : (i : Int) ≠ 0) (h : Builtin.bitAnd mode p.1 = p.1) : rowHit mode i p = true := by
  have : i ≠ 0 := by omega
  simp [rowHit, this, h]
theorem miss1 {mode : Int} {i : Nat} {p : Int × Nat} (hi : (i : Int) ≠ 0) (h : Builtin.bitAnd mode p.1 ≠ p.1) : rowHit mode i p = false := by
  have : i ≠ 0 := by omega
  simp [rowHit, this, h]
theorem led_sub {own news : List (Addr × Obj)} {x io : Addr × Obj} : ∀ p ∈ own ++ (x :: news), p ∈ x :: io :: (own ++ news) := by
  intro p hp
  rcases List.mem_append.mp hp with hp | hp
  · exact List.mem_cons_of_mem _ (List.mem_cons_of_mem _ (List.mem_append_left _ hp))
  · rcases List.mem_cons.mp hp with rfl | hp
    · exact List.mem_cons_self ..
    · exact List.mem_cons_of_mem _ (List.mem_cons_of_mem _ (List.mem_append_right _ hp))
theorem led_sub0 {own news : List (Addr × Obj)} {x : Addr × Obj} : ∀ p ∈ own ++ (x :: news), p ∈ x :: (own ++ news) := by
  intro p hp
  rcases List.mem_append.mp hp with hp | hp
  · exact List.mem_cons_of_mem _ (List.mem_append_left _ hp)
  · rcases List.mem_cons.mp hp with rfl | hp
    · exact List.mem_cons_self ..
    · exact List.mem_cons_of_mem _ (List.mem_append_right _ hp)
theorem led_off {own news : List (Addr × Obj)} {pa : Addr} {x : Obj} (hA : ∀ p ∈ own ++ news, p.1 ≠ pa) (hN : ∀ p ∈ news, ∀ q ∈ own, q.1 ≠ p.1) : ∀ p ∈ (pa, x) :: news, ∀ q ∈ own, q.1 ≠ p.1 := by
  intro p hp q hq
  rcases List.mem_cons.mp hp with rfl | hp
  · exact hA q (List.mem_append_left _ hq)
  · exact hN p hp q hq
theorem led_swap {x y : Addr × Obj} {l : List (Addr × Obj)} : ∀ p ∈ x :: y :: l, p ∈ y :: x :: l := by
  intro p hp
  rcases List.mem_cons.mp hp with rfl | hp
  · exact List.mem_cons_of_mem _ (List.mem_cons_self ..)
  · rcases List.mem_cons.mp hp with rfl | hp
    · exact List.mem_cons_self ..
    · exact List.mem_cons_of_mem _ (List.mem_cons_of_mem _ hp)
theorem fm_join' {mode : Int} : Txt.join (Str.ofString "") ((fmChars mode 10).map one) = fmStr mode := fm_join mode
theorem at_str {Q : Value → Shared → Prop} {x y : Str} {t : Tok} {s : Shared} (e : x = y) (h : Q (.str x t) s) : Q (.str y t) s := e ▸ h
theorem ones_weight : ∀ cs : List Nat, ((cs.map one).map (·.length)).sum + (cs.map one).length = 2 * cs.length
  | [] => rfl
  | c :: r => by
    have h := ones_weight r
    have e : (one c).length = 1 := rfl
    simp only [List.map_cons, List.sum_cons, List.length_cons, e] at h ⊢
    omega
theorem fm_weight (mode : Int) : (((fmChars mode 10).map one).map (·.length)).sum + ((fmChars mode 10).map one).length ≤ 1048576 := by
  rw [ones_weight, fm_length]; decide
theorem adr2 {a b : Addr} {o1 o2 q1 q2 : Obj} {l : List (Addr × Obj)} : ((a, o1) :: (b, o2) :: l).map (·.1) = ((a, q1) :: (b, q2) :: l).map (·.1) := rfl
theorem adr1 {a : Addr} {o1 q1 : Obj} {l : List (Addr × Obj)} : ((a, o1) :: l).map (·.1) = ((a, q1) :: l).map (·.1) := rfl
end
section
local macro_rules | `(tactic| walk_at "binaryOp RShift int int") => `(tactic| (k_here; (with_reducible refine shr1 ?_)))
local macro_rules | `(tactic| walk_at "binaryOp Mod int int") => `(tactic| (k_here; (with_reducible refine mod_pos ?k1 ?_); (case k1 => decide)))
local macro_rules | `(tactic| walk_at "binaryOp FloorDiv int int") => `(tactic| (k_here; (with_reducible refine fdiv_pos ?k1 ?k2 ?_); (case k1 => decide); (case k2 => decide +kernel)))
local macro_rules | `(tactic| k_all) => `(tactic| with_reducible assumption)
local macro_rules | `(tactic| l_idx) => `(tactic| omega)
local macro_rules | `(tactic| k_upd) => `(tactic| first | (refine' Pick.head ?a; (case a => k_all)) | (refine' Pick.tail ?a ?b; (case a => k_ne); (case b => k_upd)))
local macro_rules | `(tactic| walk_at "call ref") => `(tactic| (k_here; refine wpAny_call ?_; k_dflt (refine' code_def ?k1 ?k2 ?k3 ?k4 ?k5 ?kA ?kF ?kK ?k6 ?k7 ?k8 ?k9 ?kB ?_ ?c2 ?c3 ?c4 ?c5; (case kA => exact rfl); (case kF => exact rfl); (case kK => first | exact rfl | assumption); (case k1 => k_asm); (case k2 => k_asm); (case k3 => k_asm); (case k4 => k_asm); (case k5 => k_asm); (case k6 => k_is); (case k7 => k_is); (case k8 => ktr_room); (case k9 => exact BindsTo.of_eq rfl); (case c5 => decide); (case kB => exact locs rfl); (case c2 => exact rfl); (case c3 => exact rfl); (case c4 => exact rfl); k_whole; intro g' L' h' FG' F' N' B' X' T'; (try dsimp only); (try k_lift B'); (try k_fold))))
section
variable {w : World} {mean : ExcName → Option Value} {mg mb : Str → Option Value} {dp un : Nat} {gd : Option (List Code)} {cn : Str} {cs : Scope} {a : Addr} {ccd : Value} {cl : List (Str × Addr)} {outer : List Env} {A₀ : Around} {base h₀ : Heap} {L : Addr} {m : Str → Option Value} {s : Shared} {Q E : Value → Shared → Prop}
local macro_rules | `(tactic| walk_at "exec For Tuple Call cons nil") => `(tactic| (k_here; (rename Fr _ _ _ _ => lF'); (with_unfolding_all refine' For_turns lF' ?_; k_whole)))

set_option maxHeartbeats 1000000 in
theorem filemode_tells {news : List (Addr × Obj)} {mode : Int} {t0 : Tok}
    (B : Below A₀ base outer h₀) (F : Fr h₀ L s.heap m) (X : (hd.heap_39 w.params).In h₀) (N : News h₀ L s.heap news) (T : Top hd.view_39 lz mean mg mb h₀) (hk : cs.kind = .function)
    (hdp : dp + 2 < recursionLimit) (hun : un + 16 < cLine)
    (hret : ∀ h' tk' t' x, Fr h₀ L h' m → News h₀ L h' news → x = fmStr mode → x.length = 10 → Q (.str x t') { s with heap := h', toks := tk' }) :
    wpAny (model prg w) (ktrTop dp un gd cn cs L a ccd cl outer) (call (.ref 89) [.int mode t0]) Q E s := by
  revert X; unfold prg; w_top off; k_fill; intro X
  refine wpAny_call ?_
  k_dflt cell_enter
  k_with_none
  k_steps
  rename_i pa h1 hpa h2 F1 N1
  rename Frag.In _ _ => X1
  obtain ⟨tv, htv, hlen, hrows⟩ := tab_of X1 (tab_ok _)
  refine enum_tup_inv (fun i m' nx => ∃ vs n, nx = (pa, W.listOf vs.toArray n) :: news ∧ StrsAre vs ((fmChars mode i).map one) ∧ m' (Str.ofString "mode") = some (.int mode t0) ∧ m' (Str.ofString "perm") = some (.ref pa)) rfl F1 N1 htv ⟨[], 0, rfl, .nil, rfl, rfl⟩ ?_ ?_
  · intro i x T2 t2 m₁ news₁ h3 tk3 own hx hJ hoff hT F3 N3
    obtain ⟨vs, n, rfl, hs, hm1, hm2⟩ := hJ
    have hx' : tv[i]? = some x := by simpa using hx
    obtain ⟨row, hrow, q, rv, rfl, hq, hrl, hpairs⟩ := hrows i x hx'
    have hi10 : i < 10 := by
      have := (List.getElem?_eq_some_iff.mp hx').1
      omega
    have hT' : IsTup h3 T2 _ := hT
    have hvl : vs.length = i := by have := hs.length; simp [fm_length] at this; exact this
    have F4 := fr_known2 hm1 hm2 F3
    have hoffA : ∀ p ∈ own ++ news, p.1 ≠ pa := fun p hp => by
      rcases List.mem_append.mp hp with hp | hp
      · exact hoff (pa, W.listOf vs.toArray n) (List.mem_cons_self ..) p hp
      · exact Nat.ne_of_lt (hpa p hp)
    have hoffN : ∀ p ∈ news, ∀ q ∈ own, q.1 ≠ p.1 := fun p hp => hoff p (List.mem_cons_of_mem _ hp)
    have N4 : News _ _ _ ((pa, W.listOf vs.toArray n) :: (own ++ news)) := fun p hp => N3 p (by
      rcases List.mem_cons.mp hp with rfl | hp
      · exact List.mem_append_right _ (List.mem_cons_self ..)
      · rcases List.mem_append.mp hp with hp | hp
        · exact List.mem_append_left _ hp
        · exact List.mem_append_right _ (List.mem_cons_of_mem _ hp))
    clear F3 F1 N1 N3 hx hx' hT hrows hoff hpa
    k_steps
    rename Fr _ _ _ _ => F5
    rename News _ _ _ _ => N5
    refine forElse_tup (fun k m' => m' (Str.ofString "mode") = some (.int mode t0) ∧ m' (Str.ofString "perm") = some (.ref pa) ∧ m' (Str.ofString "index") = some (.int (i : Int) t2) ∧ ∀ j p, j < k → row[j]? = some p → rowHit mode i p = false) rfl F5 N5 hq ⟨rfl, rfl, rfl, fun j p h => absurd h (Nat.not_lt_zero _)⟩ (fun Q' h => ld F5 rfl h) ?_ ?_
    · intro k x m2 h5 tk5 I o hx2 hJ2 hI F6 N6
      obtain ⟨a1, a2, a3, a4⟩ := hJ2
      obtain ⟨p, hp, q2, tb, tc, rfl, hq2⟩ := hpairs k x (by simpa using hx2)
      have hT2 : IsTup h5 q2 _ := hq2.at fun o e => F6.keep _ _ e
      have F7 := fr_known3 a1 a2 a3 F6
      have hoffB : ∀ p ∈ (I, o) :: (own ++ news), p.1 ≠ pa := fun p hp => by
        rcases List.mem_cons.mp hp with rfl | hp
        · exact Nat.ne_of_gt (hI (pa, W.listOf vs.toArray n) (List.mem_cons_self ..))
        · exact hoffA p hp
      have N7 : News _ _ _ ((pa, W.listOf vs.toArray n) :: (I, o) :: (own ++ news)) := fun p hp => N6 p (by
        rcases List.mem_cons.mp hp with rfl | hp
        · exact List.mem_cons_of_mem _ (List.mem_cons_self ..)
        · rcases List.mem_cons.mp hp with rfl | hp
          · exact List.mem_cons_self ..
          · exact List.mem_cons_of_mem _ (List.mem_cons_of_mem _ hp))
      clear F6 N6 F5 N5 hx2 hq2
      k_steps
      · rename News _ _ _ _ => NN
        simp only [List.push_toArray] at NN
        exact EnumEnd.intro (news' := (pa, _) :: news) (by k_asm) NN led_sub (led_off hoffA hoffN) ⟨_, _, rfl, strs_next hs hrow (char_hit hp (hit0 (by omega) (by assumption)) a4), rfl, rfl⟩
      · exact ElseEnd.intro (by k_asm) (by k_asm) led_swap ⟨rfl, rfl, rfl, hit_more hp (miss0 (by omega) (by assumption)) a4⟩
      · rename News _ _ _ _ => NN
        simp only [List.push_toArray] at NN
        exact EnumEnd.intro (news' := (pa, _) :: news) (by k_asm) NN led_sub (led_off hoffA hoffN) ⟨_, _, rfl, strs_next hs hrow (char_hit hp (hit1 (by assumption) (by assumption)) a4), rfl, rfl⟩
      · exact ElseEnd.intro (by k_asm) (by k_asm) led_swap ⟨rfl, rfl, rfl, hit_more hp (miss1 (by assumption) (by assumption)) a4⟩
    · intro h6 tk6 m6 F6 N6 hJ6
      obtain ⟨a1, a2, a3, a4⟩ := hJ6
      have F7 := fr_known3 a1 a2 a3 F6
      have hrv : rowChar mode i row = if i = 0 then 63 else 45 := char_none fun j q hj hq => a4 j q (by simpa [hrl] using hj) hq
      clear F6 F5 N5
      k_steps
      · rename News _ _ _ _ => NN
        simp only [List.push_toArray] at NN
        exact EnumEnd.intro (news' := (pa, _) :: news) (by k_asm) NN led_sub0 (led_off hoffA hoffN) ⟨_, _, rfl, strs_next (c := 63) hs hrow (hrv.trans (if_pos (by omega))), rfl, rfl⟩
      · rename News _ _ _ _ => NN
        simp only [List.push_toArray] at NN
        exact EnumEnd.intro (news' := (pa, _) :: news) (by k_asm) NN led_sub0 (led_off hoffA hoffN) ⟨_, _, rfl, strs_next (c := 45) hs hrow (hrv.trans (if_neg (by omega))), rfl, rfl⟩
  · intro h6 tk6 m6 news6 F6 N6 hJ6
    obtain ⟨vs, n, rfl, hs, hm1, hm2⟩ := hJ6
    rw [show tv.toArray.size = 10 by simpa using hlen] at hs
    have F7 := fr_known2 hm1 hm2 F6
    clear F6 F1 N1
    k_steps
    refine join_listW (D := pa) (by is_list) (by simpa using hs) (by decide +kernel) (fm_weight mode) ?_
    intro t9 k9
    rw [fm_join]
    k_steps
    exact hret _ _ _ _ (by k_asm) (cb_drop (by assumption) (fun p hp => List.mem_cons_of_mem _ hp)) rfl (by simp [fmStr, Str.length, fm_length])
end
end
section
/-! loops by an invariant over the frame and the ledger; the ends are names of our own, so that the walk stands still there -/
def KnownAll (m : Str → Option Value) : List (Str × Value) → Prop
  | [] => True
  | p :: r => m p.1 = some p.2 ∧ KnownAll m r
theorem KnownAll.mem {m : Str → Option Value} : ∀ {ps : List (Str × Value)}, KnownAll m ps → ∀ p ∈ ps, m p.1 = some p.2
  | [], _, _, h => nomatch h
  | q :: r, h, p, hp => by
    rcases List.mem_cons.mp hp with rfl | hp
    · exact h.1
    · exact KnownAll.mem h.2 p hp
theorem fr_knownL {h₀ h : Heap} {L : Addr} {m : Str → Option Value} {ps : List (Str × Value)} (e : KnownAll m ps) (F : Fr h₀ L h m) : Fr h₀ L h (kstB m ps) := by
  have q : kstB m ps = m := funext fun z => kstB_eq e.mem fun _ => rfl
  rw [q]; exact F
theorem fr_knownX {h₀ h : Heap} {L : Addr} {m : Str → Option Value} {ps : List (Str × Value)} {x : Str} {v : Value} (e : KnownAll m ps) (F : Fr h₀ L h (fun y => if y = x then some v else m y)) : Fr h₀ L h (fun y => if y = x then some v else kstB m ps y) := by
  have q : kstB m ps = m := funext fun z => kstB_eq e.mem fun _ => rfl
  rw [q]; exact F

def Held (P : Prop) : Prop := P
theorem held {P : Prop} (h : Held P) : P := h
theorem Held.out {P : Prop} (h : Held P) : P := h

def TEnd (h₀ : Heap) (L : Addr) (J : (Str → Option Value) → List (Addr × Obj) → Prop) (own : List (Addr × Obj)) (adr : List Addr) (s₁ s₂ : Shared) : Prop := InvEndN h₀ L J own adr s₁ s₂
theorem TEnd.intro {h₀ : Heap} {L : Addr} {J : (Str → Option Value) → List (Addr × Obj) → Prop} {m' : Str → Option Value} {own news' nx : List (Addr × Obj)} {adr : List Addr} {s₁ : Shared} {h' : Heap} {tk : Nat} (F : Fr h₀ L h' m') (N : News h₀ L h' news')
    (hj : J m' nx) (ha : nx.map (·.1) = adr) (hn : ∀ p ∈ nx, p ∈ news') (ho : ∀ p ∈ own, p ∈ news') : TEnd h₀ L J own adr s₁ { s₁ with heap := h', toks := tk } := InvEndN.intro F N hj ha hn ho
def WEnd (h₀ : Heap) (L : Addr) (J : (Str → Option Value) → List (Addr × Obj) → Prop) (s s₂ : Shared) : Prop :=
  ∃ h' tk m' nx, s₂ = { s with heap := h', toks := tk } ∧ Fr h₀ L h' m' ∧ News h₀ L h' nx ∧ J m' nx
theorem WEnd.intro {h₀ : Heap} {L : Addr} {J : (Str → Option Value) → List (Addr × Obj) → Prop} {m' : Str → Option Value} {news' nx : List (Addr × Obj)} {s : Shared} {h' : Heap} {tk : Nat} (F : Fr h₀ L h' m') (N : News h₀ L h' news')
    (hn : ∀ p ∈ nx, p ∈ news') (hj : J m' nx) : WEnd h₀ L J s { s with heap := h', toks := tk } := ⟨h', tk, m', nx, rfl, F, fun p hp => N p (hn p hp), hj⟩

section
variable {prog : Program} {w : World} {A : Around} {E : Value → Shared → Prop} {s : Shared} {env : Env} {h₀ : Heap} {L : Addr} {x : Str} {body : List Stmt} {Q : Flow → Shared → Prop}
theorem range_inv {r : Addr} {a₀ b₀ : Int} {t₀ u₀ v₀ : Tok} {n : Nat} {m₀ : Str → Option Value} {news : List (Addr × Obj)} (J : Nat → (Str → Option Value) → List (Addr × Obj) → Prop)
    (hh : A.handled = none) (hr : IsRange s.heap r a₀ b₀ 1 t₀ u₀ v₀) (hsmall : Builtin.Range.small a₀ b₀ 1 = true) (hn : Builtin.Range.rangeSize a₀ b₀ 1 = (n : Int)) (F : Fr h₀ env.locals s.heap m₀) (N : News h₀ env.locals s.heap news) (hj : J 0 m₀ news)
    (turn : ∀ (i : Nat) t m₁ nx h tk own, i < n → nx.map (·.1) = news.map (·.1) → OwnOff own (news.map (·.1)) → J i m₁ nx →
      Fr h₀ env.locals h (fun y => if y = x then some (.int (a₀ + (i : Int)) t) else m₁ y) → News h₀ env.locals h (nx ++ own) →
      wpAny (model prog w) A (execs body env) (fun f s₃ => match f with
        | .ret v => Q (.ret v) s₃
        | .brk => Q .next s₃
        | _ => TEnd h₀ env.locals (J (i + 1)) own (news.map (·.1)) { s with heap := h, toks := tk } s₃) E { s with heap := h, toks := tk })
    (done : ∀ m₁ nx h tk, J n m₁ nx → Fr h₀ env.locals h m₁ → News h₀ env.locals h nx → Q .next { s with heap := h, toks := tk }) :
    wpAny (model prog w) A (pyIter (.ref r)) (fun it s₂ => LoopAtV prog w A h₀ env x body Q E it s₂) E s := by
  refine wpAny_pyIter_range hr hsmall ?_
  have W : Walks prog w A s.heap.objs.size [s.heap.objs.size] [s.heap.objs.size] n (fun i v => i < n ∧ ∃ t, v = .int (a₀ + i * 1) t)
      (fun i h => IsRangeIter h s.heap.objs.size (a₀ + (i : Nat) * 1) ((n : Int) - (i : Nat)) 1) := (Walks.range hh _ a₀ 1 n).bound
  refine loop_invN J W ?_ ?_ ?_ ?_ (by show IsRangeIter _ _ _ _ _; rw [hn]; simpa using Heap.get?_push_size _ rfl) (F.push _) (fun p hp => ⟨Heap.get?_push_of_some _ (N p hp).1, (N p hp).2⟩) hj ?_ ?_
  · intro hm
    exact absurd F.ns.lt ((List.mem_singleton.mp hm) ▸ Nat.lt_irrefl _)
  · intro b hb
    rw [List.mem_singleton.mp hb]
    exact next_is_new F
  · intro p hp hI
    exact absurd (Heap.lt_size (N p hp).1) ((List.mem_singleton.mp hI) ▸ Nat.lt_irrefl _)
  · intro p hp hI
    exact absurd (Heap.lt_size (N p hp).1) ((List.mem_singleton.mp hI) ▸ Nat.lt_irrefl _)
  · rintro i v m₁ nx h tk own hi ⟨_, t, rfl⟩ ha hoff hJ F₁ N₁
    have e1 : a₀ + (i : Int) * 1 = a₀ + (i : Int) := by omega
    rw [e1] at F₁
    refine wpAny_mono (turn i t m₁ nx h tk own hi ha hoff hJ F₁ N₁) (fun f s₃ hf => ?_) fun _ _ e => e
    cases f <;> exact hf
  · intro m₁ nx h tk hJ F₁ N₁
    exact done m₁ nx h tk hJ F₁ N₁

theorem list_inv {l : Addr} {vs : List Value} {ns : List Int} {nn : Nat} {m₀ : Str → Option Value} {news : List (Addr × Obj)} (J : Nat → (Str → Option Value) → List (Addr × Obj) → Prop)
    (hh : A.handled = none) (hl : (l, W.listOf vs.toArray nn) ∈ news) (hi : IntsAre vs ns) (F : Fr h₀ env.locals s.heap m₀) (N : News h₀ env.locals s.heap news) (hj : J 0 m₀ news) (hkeep : ∀ i m nx, J i m nx → (l, W.listOf vs.toArray nn) ∈ nx)
    (turn : ∀ (i : Nat) k t m₁ nx h tk own, ns[i]? = some k → nx.map (·.1) = news.map (·.1) → OwnOff own (news.map (·.1)) → J i m₁ nx →
      Fr h₀ env.locals h (fun y => if y = x then some (.int k t) else m₁ y) → News h₀ env.locals h (nx ++ own) →
      wpAny (model prog w) A (execs body env) (fun f s₃ => match f with
        | .ret v => Q (.ret v) s₃
        | .brk => Q .next s₃
        | _ => TEnd h₀ env.locals (J (i + 1)) own (news.map (·.1)) { s with heap := h, toks := tk } s₃) E { s with heap := h, toks := tk })
    (done : ∀ m₁ nx h tk, J ns.length m₁ nx → Fr h₀ env.locals h m₁ → News h₀ env.locals h nx → Q .next { s with heap := h, toks := tk }) :
    wpAny (model prog w) A (pyIter (.ref l)) (fun it s₂ => LoopAtV prog w A h₀ env x body Q E it s₂) E s := by
  refine iter_invNL J hh hl hi F N hj ?_ ?_
  · intro i k t m₁ nx h tk own hk ha hoff _ hJ F₁ N₁
    refine wpAny_mono (turn i k t m₁ nx h tk own hk ha hoff hJ F₁ N₁) (fun f s₃ hf => ?_) fun _ _ e => e
    have up : TEnd h₀ env.locals (J (i + 1)) own (news.map (·.1)) { s with heap := h, toks := tk } s₃ →
        InvEndN h₀ env.locals (fun m' nx => (l, W.listOf vs.toArray nn) ∈ nx ∧ J (i + 1) m' nx) own (news.map (·.1)) { s with heap := h, toks := tk } s₃ := by
      rintro ⟨h', tk', m', news', nx', e', F', N', hn', ho', ha, hJ'⟩
      exact ⟨h', tk', m', news', nx', e', F', N', hn', ho', ha, hkeep _ _ _ hJ', hJ'⟩
    cases f with
    | ret v => exact hf
    | brk => exact hf
    | next => exact up hf
    | cont => exact up hf
  · intro m₁ nx h tk _ hJ F₁ N₁
    exact done m₁ nx h tk hJ F₁ N₁

theorem while_inv {test : PySem.Expr} {pos : Pos} {m : Str → Option Value} {news : List (Addr × Obj)} (J : Nat → (Str → Option Value) → List (Addr × Obj) → Prop) {n₀ : Nat}
    (F : Fr h₀ L s.heap m) (N : News h₀ L s.heap news) (hJ : J n₀ m news)
    (turn : ∀ n m₁ nx h₁ tk₁, J n m₁ nx → Fr h₀ L h₁ m₁ → News h₀ L h₁ nx →
      wpAny (model prog w) A (isTrue test env (eval test env)) (fun b s₂ =>
        if b = true then wpAny (model prog w) A (execs body env) (fun f s₃ => match f with
          | .ret v => Q (.ret v) s₃
          | .brk => Q .next s₃
          | _ => WEnd h₀ L (fun m' nx' => ∃ n', n' < n ∧ J n' m' nx') s s₃) E s₂ else Q .next s₂) E { s with heap := h₁, toks := tk₁ })
    (hE : PassesOwn (model prog w) A env E := by passes_own) :
    wpAny (model prog w) A (exec (.While test body [] pos) env) Q E s := by
  refine While_inv2 J F N hJ ?_ hE
  intro n m₁ nx h₁ tk₁ F₁ N₁ hJ₁
  refine wpAny_mono (turn n m₁ nx h₁ tk₁ hJ₁ F₁ N₁) (fun b s₂ p => ?_) fun _ _ x => x
  cases b with
  | false => simpa using p
  | true =>
    simp only [if_true] at p ⊢
    refine wpAny_mono p (fun f s₃ q => ?_) fun _ _ x => x
    cases f with
    | ret v => exact q
    | brk => exact q
    | next =>
      obtain ⟨h', tk', m', nx', e, F', N', n', hn', hJ'⟩ := q
      exact ⟨h', tk', m', nx', n', e, F', N', hn', hJ'⟩
    | cont =>
      obtain ⟨h', tk', m', nx', e, F', N', n', hn', hJ'⟩ := q
      exact ⟨h', tk', m', nx', n', e, F', N', hn', hJ'⟩
end
end
section
/-! bounds of what lies in a heap -/
def Bd (lo hi : Int) (xs : List Int) : Prop := ∀ y ∈ xs, lo ≤ y ∧ y ≤ hi
section
variable {lo hi : Int} (h0 : lo ≤ 0) (h1 : 0 ≤ hi)
include h0 h1
theorem bd_getD {xs : List Int} (h : Bd lo hi xs) (i : Nat) : lo ≤ xs.getD i 0 ∧ xs.getD i 0 ≤ hi := by
  by_cases hi' : i < xs.length
  · have e : xs.getD i 0 = xs[i] := by simp [List.getD, hi']
    rw [e]; exact h _ (List.getElem_mem hi')
  · have e : xs.getD i 0 = 0 := by simp [List.getD, List.getElem?_eq_none (by omega : xs.length ≤ i)]
    rw [e]; exact ⟨h0, h1⟩
omit h0 h1 in
theorem bd_set {xs : List Int} {i : Nat} {v : Int} (h : Bd lo hi xs) (hv : lo ≤ v ∧ v ≤ hi) : Bd lo hi (xs.set i v) := by
  intro y hy
  rcases List.mem_or_eq_of_mem_set hy with hy | rfl
  · exact h y hy
  · exact hv
theorem bd_sd {new : Int} (hv : lo ≤ new ∧ new ≤ hi) : ∀ (f : Nat) {xs : List Int} (pos : Nat), Bd lo hi xs → Bd lo hi (sd new f xs pos)
  | 0, _, _, h => bd_set h hv
  | f + 1, xs, pos, h => by
    simp only [sd]
    split
    · exact bd_set h hv
    · split
      · exact bd_sd hv f _ (bd_set h (bd_getD h0 h1 h _))
      · exact bd_set h hv
theorem bd_suL (n : Nat) : ∀ (f : Nat) {xs : List Int} (pos : Nat), Bd lo hi xs → Bd lo hi (suL n f xs pos).1
  | 0, _, _, h => h
  | f + 1, xs, pos, h => by
    simp only [suL]
    split
    · split
      · exact bd_suL n f _ (bd_set h (bd_getD h0 h1 h _))
      · exact bd_suL n f _ (bd_set h (bd_getD h0 h1 h _))
    · exact h
theorem bd_suF {xs : List Int} (h : Bd lo hi xs) : Bd lo hi (suF xs) := by
  unfold suF
  exact bd_sd h0 h1 (bd_getD h0 h1 h _) _ _ (bd_set (bd_suL h0 h1 _ _ _ h) (bd_getD h0 h1 h _))
theorem bd_push {xs : List Int} {x : Int} (h : Bd lo hi xs) (hv : lo ≤ x ∧ x ≤ hi) : Bd lo hi (pushF xs x) := by
  unfold pushF
  refine bd_sd h0 h1 hv _ _ fun y hy => ?_
  rcases List.mem_append.mp hy with hy | hy
  · exact h y hy
  · rw [List.mem_singleton.mp hy]; exact hv
theorem bd_last {xs : List Int} (h : Bd lo hi xs) : lo ≤ xs.getLastD 0 ∧ xs.getLastD 0 ≤ hi := by
  cases e : xs.getLast? with
  | none => rw [List.getLastD_eq_getLast?, e]; exact ⟨h0, h1⟩
  | some v => rw [List.getLastD_eq_getLast?, e]; exact h v (List.mem_of_getLast? e)
theorem bd_popV {xs : List Int} (h : Bd lo hi xs) : lo ≤ popV xs ∧ popV xs ≤ hi := by
  unfold popV
  split
  · exact bd_last h0 h1 h
  · exact bd_getD h0 h1 h _
theorem bd_pop {xs : List Int} (h : Bd lo hi xs) : Bd lo hi (popF xs) := by
  unfold popF
  split
  · intro y hy; cases hy
  · exact bd_suF h0 h1 (bd_set (fun y hy => h y (List.dropLast_subset _ hy)) (bd_last h0 h1 h))
end
end
section
section
variable {prog : Program} {w : World} {A : Around} {E : Value → Shared → Prop} {s : Shared} {h₀ : Heap} {L D : Addr} {news : List (Addr × Obj)} {n : Nat}
theorem pop_empty {Q : Value → Shared → Prop} (hA : A.handled = none) (N : News h₀ L s.heap news) (hm : (D, W.listOf #[] n) ∈ news)
    (hE : ∀ h' tk e, Heap.NewExc s.heap h' e "IndexError" → E (.ref e) { s with heap := h', toks := tk }) : wpAny (model prog w) A (call (.builtin "list.pop") [.ref D]) Q E s := by
  have z := (N _ hm).1
  exact call_meets PySem.F.slot_list_pop ⟨_, z, rfl⟩ PySem.F.entry_list_pop (PySem.F.args_list_pop_1 _) (AutoSeq1.list_pop_list_0 D #[] n rfl) ⟨z, hA, fun h' tk e x => hE h' tk e x⟩
end
section
variable {prog : Program} {w : World} {A₀ A : Around} {s : Shared} {base h₀ : Heap} {L : Addr} {m : Str → Option Value} {env : Env} {news : List (Addr × Obj)} {K : Frag} {p : Program} {loose : List Str} {mean : ExcName → Option Value} {mg mb : Str → Option Value}
    {R : Result → Shared → Prop} {name qual : Str} {params : Arguments} {body : List Stmt} {scope : Scope} {dV kV doc pm cdv ct oc : Value} {an od : Option Addr} {osl : Array (Option Value)} {f : Addr} {args : Args} {binds : List (Str × Value)}
/-- a def that catches, called from the law's own frame (its cells may be) -/
theorem code_tryX (B : Below A₀ base [] h₀) (F : Fr h₀ L s.heap m) (X₀ : K.In h₀) (N : News h₀ L s.heap news) (T : Top p loose mean mg mb h₀) (hA : A.frames = some [env]) (hf : env.frame = some L) (hke : env.scope.kind = .function)
    (ho : K.lookup f = some ⟨oc, od, .func (fnOf name qual params body scope dV kV doc pm an cdv ct), osl⟩) (hcd : codeIn K cdv qual = true) (hroom : A.depth < recursionLimit)
    (hbind : BindsTo s (fnOf name qual params body scope dV kV doc pm an cdv ct) args binds) (hloc : ∀ y ∈ binds, scope.names.lookup y.1 = some .local)
    (h : ∀ g L' h₁, Fr h₀ L g m → Fr g L' h₁ (fun y => binds.reverse.lookup y) → News g L' h₁ news → Below A base [env] g → K.In g → Top p loose mean mg mb g → KtsDicts ([env].filterMap (·.frame)) g →
      wpAny (model prog w) (A.deeper (envOf qual scope L' f cdv)) (execs body (envOf qual scope L' f cdv))
        (fun fl s' => LeaveS0 ([env].filterMap (·.frame)) h₀ L m g R (match fl with | .ret v => v | _ => .none) s')
        (fun e s' => wpAny (model prog w) (A.deeper (envOf qual scope L' f cdv)) (leaving (envOf qual scope L' f cdv) e) (fun _ s'' => R (.error e) s'') (fun e' s'' => R (.error e') s'') s')
        { s with heap := h₁, toks := s.toks + binds.length })
    (hco : scope.isCoroutine = false) (hgen : scope.isGenerator = false) (hk : scope.kind = .function)
    (hcell : ∀ x ∈ scope.names, x.2 ≠ .cell) : codeAny (model prog w) A (.call (.ref f) args) R s := by
  have X := X₀.keeps F.keep
  refine codeAny_call_def (fd := fnOf name qual params body scope dV kV doc pm an cdv ct) (body := body) (binds := binds) hroom (X _ _ ho) rfl (T.nolimit.keeps F.keep) (codeRec_of X hcd) rfl hbind hcell hloc (fun h₁ hns hk₁ => ?_) hco hgen hk
  obtain ⟨FG, B₂, st, _⟩ := groundX (R := R) B F N hA hf hke
  obtain ⟨oL, es, ep, hLg, hLd, hLk, hLf⟩ := id FG.ns
  have hNs : ∀ (sl : Array (Option Value)) h', h'.get? L = some { oL with slots := sl } → Heap.Ns h' L m := fun sl h' e => ⟨_, es, ep, e, hLd, hLk, hLf⟩
  have hfs : [env].filterMap (·.frame) = [L] := by simp [hf]
  refine wpAny_mono (h _ s.heap.objs.size h₁ FG ⟨hns, fun b o e => hk₁ b o (of_hideAll _ e), Nat.le_of_eq (hideAll_size _ _)⟩
    (fun p hp => ⟨hk₁ _ _ (N p hp).1, Nat.ne_of_lt (Heap.lt_size (N p hp).1), hideAll_none _ (List.mem_map_of_mem hp)⟩) B₂ (X₀.keeps st) (T.keeps st) (fun b hb => by
      rw [hfs] at hb
      rw [List.mem_singleton.mp hb]
      exact ⟨oL, es, ep, hLg, hLd⟩)) (fun fl s' hl => ?_) fun _ _ y => y
  obtain ⟨g', L', m', news', T', F', N', k⟩ := hl
  have nL₀ : h₀.get? L = none := kts_self F
  obtain ⟨sl, hs⟩ := T'.up hLg
  refine k ⟨hNs sl _ (F'.keep _ _ hs), fun b o e => F'.keep b o (T'.other b o (st b o e) (fun q => by
    rw [hfs] at q
    rw [List.mem_singleton.mp q, nL₀] at e
    cases e)), F.above⟩ fun p hp => ⟨(N' p hp).1, fun q => ?_, ?_⟩
  · have := (N' p hp).2.2; rw [q, hs] at this; cases this
  · cases q : h₀.get? p.1 with
    | none => rfl
    | some o =>
      obtain ⟨sl', hs'⟩ := T'.up (st _ _ q)
      have := (N' p hp).2.2
      rw [hs'] at this
      cases this
end
theorem last_getD (c : List Int) (h : 0 < c.length) : c.getD (-1 + (c.length : Int)).toNat 0 = c.getLastD 0 := by
  have e : (-1 + (c.length : Int)).toNat = c.length - 1 := by omega
  rw [e, List.getLastD_eq_getLast?, List.getLast?_eq_getElem?]
  simp [List.getD]
end
section
/-! the signs -/
def given (mode : Int) (place : Nat) : Bool := decide (mode / 2 ^ (8 - place) % 2 = 1)
def isR (c : Nat) : Bool := c == 114 || c == 119 || c == 120 || c == 115 || c == 116
theorem and_pow (x : Int) (k : Nat) : (Builtin.bitAnd x (2 ^ k) == 2 ^ k) = decide (x / 2 ^ k % 2 = 1) := by
  rw [kbt_bit]
  have hp : (0 : Int) < 2 ^ k := Int.pow_pos (by decide)
  rcases (by omega : x / 2 ^ k % 2 = 0 ∨ x / 2 ^ k % 2 = 1) with h | h
  · rw [h]; simp; omega
  · rw [h]; simp
theorem half_even (x y : Int) : Builtin.bitAnd x (2 * y) = 2 * Builtin.bitAnd (x / 2) y := by
  rw [kbt_halves x (2 * y)]
  rw [show 2 * y / 2 = y by omega, if_neg (by omega)]
  omega
theorem half_odd (x y : Int) : Builtin.bitAnd x (2 * y + 1) = 2 * Builtin.bitAnd (x / 2) y + x % 2 := by
  rw [kbt_halves x (2 * y + 1)]
  rw [show (2 * y + 1) / 2 = y by omega]
  split <;> omega
theorem and513 (x : Int) : Builtin.bitAnd x 513 = 512 * (x / 512 % 2) + x % 2 := by
  have e : Builtin.bitAnd x 513 = 2 * Builtin.bitAnd (x / 2) 256 + x % 2 := half_odd x 256
  have e2 : Builtin.bitAnd (x / 2) 256 = (x / 2 / 256 % 2) * 256 := kbt_bit (x / 2) 8
  rw [e, e2]; omega
theorem and1032 (x : Int) : Builtin.bitAnd x 1032 = 1024 * (x / 1024 % 2) + 8 * (x / 8 % 2) := by
  have e1 : Builtin.bitAnd x 1032 = 2 * Builtin.bitAnd (x / 2) 516 := half_even x 516
  have e2 : Builtin.bitAnd (x / 2) 516 = 2 * Builtin.bitAnd (x / 2 / 2) 258 := half_even _ 258
  have e3 : Builtin.bitAnd (x / 2 / 2) 258 = 2 * Builtin.bitAnd (x / 2 / 2 / 2) 129 := half_even _ 129
  have e4 : Builtin.bitAnd (x / 2 / 2 / 2) 129 = 2 * Builtin.bitAnd (x / 2 / 2 / 2 / 2) 64 + x / 2 / 2 / 2 % 2 := half_odd _ 64
  have e5 : Builtin.bitAnd (x / 2 / 2 / 2 / 2) 64 = (x / 2 / 2 / 2 / 2 / 64 % 2) * 64 := kbt_bit _ 6
  rw [e1, e2, e3, e4, e5]; omega
theorem and2112 (x : Int) : Builtin.bitAnd x 2112 = 2048 * (x / 2048 % 2) + 64 * (x / 64 % 2) := by
  have e1 : Builtin.bitAnd x 2112 = 2 * Builtin.bitAnd (x / 2) 1056 := half_even x 1056
  have e2 : Builtin.bitAnd (x / 2) 1056 = 2 * Builtin.bitAnd (x / 2 / 2) 528 := half_even _ 528
  have e3 : Builtin.bitAnd (x / 2 / 2) 528 = 2 * Builtin.bitAnd (x / 2 / 2 / 2) 264 := half_even _ 264
  have e4 : Builtin.bitAnd (x / 2 / 2 / 2) 264 = 2 * Builtin.bitAnd (x / 2 / 2 / 2 / 2) 132 := half_even _ 132
  have e5 : Builtin.bitAnd (x / 2 / 2 / 2 / 2) 132 = 2 * Builtin.bitAnd (x / 2 / 2 / 2 / 2 / 2) 66 := half_even _ 66
  have e6 : Builtin.bitAnd (x / 2 / 2 / 2 / 2 / 2) 66 = 2 * Builtin.bitAnd (x / 2 / 2 / 2 / 2 / 2 / 2) 33 := half_even _ 33
  have e7 : Builtin.bitAnd (x / 2 / 2 / 2 / 2 / 2 / 2) 33 = 2 * Builtin.bitAnd (x / 2 / 2 / 2 / 2 / 2 / 2 / 2) 16 + x / 2 / 2 / 2 / 2 / 2 / 2 % 2 := half_odd _ 16
  have e8 : Builtin.bitAnd (x / 2 / 2 / 2 / 2 / 2 / 2 / 2) 16 = (x / 2 / 2 / 2 / 2 / 2 / 2 / 2 / 16 % 2) * 16 := kbt_bit _ 4
  rw [e1, e2, e3, e4, e5, e6, e7, e8]; omega
/-- a row of one right, and a row of the third sign -/
theorem row1 (x : Int) (i k c : Nat) (hi : i ≠ 0) : rowChar x i [((2 : Int) ^ k, c)] = if x / 2 ^ k % 2 = 1 then c else 45 := by
  unfold rowChar
  simp only [List.find?, rowHit, if_neg hi, and_pow]
  by_cases h : x / 2 ^ k % 2 = 1
  · simp [h]
  · simp [h]
theorem row3 (x : Int) (i : Nat) (b bs bx : Int) (c1 c2 c3 : Nat) (hi : i ≠ 0) (hs : Builtin.bitAnd x bs = bs * (x / bs % 2)) (hx : Builtin.bitAnd x bx = bx * (x / bx % 2)) (hb : Builtin.bitAnd x b = bs * (x / bs % 2) + bx * (x / bx % 2)) (he : b = bs + bx) (h1 : 0 < bx) (h2 : bx < bs) :
    rowChar x i [(b, c1), (bs, c2), (bx, c3)] = if x / bx % 2 = 1 then (if x / bs % 2 = 1 then c1 else c3) else (if x / bs % 2 = 1 then c2 else 45) := by
  unfold rowChar
  simp only [List.find?, rowHit, if_neg hi, hs, hx, hb]
  rcases (by omega : x / bs % 2 = 0 ∨ x / bs % 2 = 1) with h | h <;> rcases (by omega : x / bx % 2 = 0 ∨ x / bx % 2 = 1) with g | g
  · rw [h, g]
    have q1 : (bs * 0 + bx * 0 == b) = false := by simp; omega
    have q2 : (bs * 0 == bs) = false := by simp; omega
    have q3 : (bx * 0 == bx) = false := by simp; omega
    simp only [q1, q2, q3]
    simp [hi]
  · rw [h, g]
    have q1 : (bs * 0 + bx * 1 == b) = false := by simp; omega
    have q2 : (bs * 0 == bs) = false := by simp; omega
    have q3 : (bx * 1 == bx) = true := by simp
    simp only [q1, q2, q3]
    simp
  · rw [h, g]
    have q1 : (bs * 1 + bx * 0 == b) = false := by simp; omega
    have q2 : (bs * 1 == bs) = true := by simp
    simp only [q1, q2]
    simp
  · rw [h, g]
    have q1 : (bs * 1 + bx * 1 == b) = true := by simp; omega
    simp only [q1]
    simp
/-- the sign of a place, as code -/
def sgn (x : Int) : Nat → Nat
  | 0 => if x / 256 % 2 = 1 then 114 else 45
  | 1 => if x / 128 % 2 = 1 then 119 else 45
  | 2 => if x / 64 % 2 = 1 then (if x / 2048 % 2 = 1 then 115 else 120) else (if x / 2048 % 2 = 1 then 83 else 45)
  | 3 => if x / 32 % 2 = 1 then 114 else 45
  | 4 => if x / 16 % 2 = 1 then 119 else 45
  | 5 => if x / 8 % 2 = 1 then (if x / 1024 % 2 = 1 then 115 else 120) else (if x / 1024 % 2 = 1 then 83 else 45)
  | 6 => if x / 4 % 2 = 1 then 114 else 45
  | 7 => if x / 2 % 2 = 1 then 119 else 45
  | _ => if x / 1 % 2 = 1 then (if x / 512 % 2 = 1 then 116 else 120) else (if x / 512 % 2 = 1 then 84 else 45)
theorem fm_list (x : Int) : fmChars x 10 = [rowChar x 0 (tbl.getD 0 []), sgn x 0, sgn x 1, sgn x 2, sgn x 3, sgn x 4, sgn x 5, sgn x 6, sgn x 7, sgn x 8] := by
  have r0 : rowChar x 1 (tbl.getD 1 []) = sgn x 0 := row1 x 1 8 114 (by decide)
  have r1 : rowChar x 2 (tbl.getD 2 []) = sgn x 1 := row1 x 2 7 119 (by decide)
  have r2 : rowChar x 3 (tbl.getD 3 []) = sgn x 2 := row3 x 3 2112 2048 64 115 83 120 (by decide) ((kbt_bit x 11).trans (Int.mul_comm _ _)) ((kbt_bit x 6).trans (Int.mul_comm _ _)) (and2112 x) (by decide) (by decide) (by decide)
  have r3 : rowChar x 4 (tbl.getD 4 []) = sgn x 3 := row1 x 4 5 114 (by decide)
  have r4 : rowChar x 5 (tbl.getD 5 []) = sgn x 4 := row1 x 5 4 119 (by decide)
  have r5 : rowChar x 6 (tbl.getD 6 []) = sgn x 5 := row3 x 6 1032 1024 8 115 83 120 (by decide) ((kbt_bit x 10).trans (Int.mul_comm _ _)) ((kbt_bit x 3).trans (Int.mul_comm _ _)) (and1032 x) (by decide) (by decide) (by decide)
  have r6 : rowChar x 7 (tbl.getD 7 []) = sgn x 6 := row1 x 7 2 114 (by decide)
  have r7 : rowChar x 8 (tbl.getD 8 []) = sgn x 7 := row1 x 8 1 119 (by decide)
  have r8 : rowChar x 9 (tbl.getD 9 []) = sgn x 8 := row3 x 9 513 512 1 116 84 120 (by decide) ((kbt_bit x 9).trans (Int.mul_comm _ _)) ((kbt_bit x 0).trans (Int.mul_comm _ _)) (by rw [and513]; omega) (by decide) (by decide) (by decide)
  simp only [fmChars, List.nil_append, List.cons_append, r0, r1, r2, r3, r4, r5, r6, r7, r8]
theorem sgn_given (x : Int) : ∀ i, i < 9 → isR (sgn x i) = given x i ∧ sgn x i ∈ [114, 119, 120, 115, 116, 83, 84, 45] := by
  intro i hi
  have key : ∀ (P : Prop) [Decidable P] (c : Nat), isR c = true → c ∈ [114, 119, 120, 115, 116, 83, 84, 45] → isR (if P then c else 45) = decide P ∧ (if P then c else 45) ∈ [114, 119, 120, 115, 116, 83, 84, 45] := by
    intro P _ c hc hm
    by_cases h : P
    · rw [if_pos h]; exact ⟨by rw [hc]; simp [h], hm⟩
    · rw [if_neg h]; exact ⟨by rw [show isR 45 = false by decide]; simp [h], by decide⟩
  have key3 : ∀ (P R : Prop) [Decidable P] [Decidable R] (c1 c2 c3 : Nat), isR c1 = true → isR c3 = true → isR c2 = false → c1 ∈ [114, 119, 120, 115, 116, 83, 84, 45] → c2 ∈ [114, 119, 120, 115, 116, 83, 84, 45] → c3 ∈ [114, 119, 120, 115, 116, 83, 84, 45] →
      isR (if P then (if R then c1 else c3) else (if R then c2 else 45)) = decide P ∧ (if P then (if R then c1 else c3) else (if R then c2 else 45)) ∈ [114, 119, 120, 115, 116, 83, 84, 45] := by
    intro P R _ _ c1 c2 c3 h1 h3 h2 m1 m2 m3
    by_cases h : P <;> by_cases g : R
    · rw [if_pos h, if_pos g]; exact ⟨by rw [h1]; simp [h], m1⟩
    · rw [if_pos h, if_neg g]; exact ⟨by rw [h3]; simp [h], m3⟩
    · rw [if_neg h, if_pos g]; exact ⟨by rw [h2]; simp [h], m2⟩
    · rw [if_neg h, if_neg g]; exact ⟨by rw [show isR 45 = false by decide]; simp [h], by decide⟩
  match i, hi with
  | 0, _ => exact key _ 114 (by decide) (by decide)
  | 1, _ => exact key _ 119 (by decide) (by decide)
  | 2, _ => exact key3 _ _ 115 83 120 (by decide) (by decide) (by decide) (by decide) (by decide) (by decide)
  | 3, _ => exact key _ 114 (by decide) (by decide)
  | 4, _ => exact key _ 119 (by decide) (by decide)
  | 5, _ => exact key3 _ _ 115 83 120 (by decide) (by decide) (by decide) (by decide) (by decide) (by decide)
  | 6, _ => exact key _ 114 (by decide) (by decide)
  | 7, _ => exact key _ 119 (by decide) (by decide)
  | 8, _ => exact key3 _ _ 116 84 120 (by decide) (by decide) (by decide) (by decide) (by decide) (by decide)
theorem occ_isR : ∀ c ∈ [114, 119, 120, 115, 116, 83, 84, 45], (Builtin.Str.occurrences (Str.ofString "rwxst") (one c) 0 (Str.ofString "rwxst").length 1).isEmpty = !isR c := by decide +kernel
def sgns (x : Int) : Str := ⟨#[sgn x 0, sgn x 1, sgn x 2, sgn x 3, sgn x 4, sgn x 5, sgn x 6, sgn x 7, sgn x 8]⟩
theorem slice_sgns (x : Int) : Txt.slice (fmStr x) (some 1) none = sgns x := by
  unfold fmStr
  rw [fm_list, slice_from_eq (b := 10) (by decide) (by show (1 : Int) ≤ 10; decide) (by rfl)]
  rfl
theorem item_sgns (x : Int) : ∀ i : Nat, i < 9 → Txt.item (sgns x) (0 + (i : Int)) = one (sgn x i)
  | 0, _ => rfl
  | 1, _ => rfl
  | 2, _ => rfl
  | 3, _ => rfl
  | 4, _ => rfl
  | 5, _ => rfl
  | 6, _ => rfl
  | 7, _ => rfl
  | 8, _ => rfl
section
variable {prog : Program} {w : World} {A : Around} {E : Value → Shared → Prop} {s : Shared} {t u : Tok} {Q : Value → Shared → Prop}
theorem notIn_sign {x : Int} {i : Nat} {y : Str} (hy : y = sgns x) (hi : i < 9) (h : Q (.bool (!given x i)) s) : wpAny (model prog w) A (compareOp .NotIn (.str (Txt.item y (0 + (i : Int))) u) (.str (Str.ofString "rwxst") t)) Q E s := by
  subst hy
  refine notIn_str ?_
  have g := sgn_given x i hi
  rw [item_sgns x i hi, occ_isR _ g.2, g.1, Bool.not_not]
  exact h
end
theorem occ_given {x : Int} {i : Nat} {y : Str} {b : Bool} (hy : y = sgns x) (hi : i < 9) (h : (Builtin.Str.occurrences (Str.ofString "rwxst") (Txt.item y (0 + (i : Int))) 0 (Str.ofString "rwxst").length 1).isEmpty = b) : given x i = !b := by
  subst hy
  have g := sgn_given x i hi
  rw [item_sgns x i hi, occ_isR _ g.2, g.1] at h
  rw [← h, Bool.not_not]
end
section
local macro_rules | `(tactic| walk_at "binaryOp RShift int int") => `(tactic| (k_here; (with_reducible refine shr1 ?_)))
local macro_rules | `(tactic| walk_at "binaryOp Mod int int") => `(tactic| (k_here; (with_reducible refine mod_pos ?k1 ?_); (case k1 => decide)))
local macro_rules | `(tactic| walk_at "binaryOp FloorDiv int int") => `(tactic| (k_here; (with_reducible refine fdiv_pos ?k1 ?k2 ?_); (case k1 => decide); (case k2 => decide +kernel)))
local macro_rules | `(tactic| k_all) => `(tactic| with_reducible assumption)
local macro_rules | `(tactic| l_idx) => `(tactic| omega)
local macro_rules | `(tactic| k_upd) => `(tactic| first | (refine' Pick.head ?a; (case a => k_all)) | (refine' Pick.tail ?a ?b; (case a => k_ne); (case b => k_upd)))
local macro_rules | `(tactic| walk_at "call ref") => `(tactic| (k_here; refine wpAny_call ?_; k_dflt (refine' code_def ?k1 ?k2 ?k3 ?k4 ?k5 ?kA ?kF ?kK ?k6 ?k7 ?k8 ?k9 ?kB ?_ ?c2 ?c3 ?c4 ?c5; (case kA => exact rfl); (case kF => exact rfl); (case kK => first | exact rfl | assumption); (case k1 => k_asm); (case k2 => k_asm); (case k3 => k_asm); (case k4 => k_asm); (case k5 => k_asm); (case k6 => k_is); (case k7 => k_is); (case k8 => ktr_room); (case k9 => exact BindsTo.of_eq rfl); (case c5 => decide); (case kB => exact locs rfl); (case c2 => exact rfl); (case c3 => exact rfl); (case c4 => exact rfl); k_whole; intro g' L' h' FG' F' N' B' X' T'; (try dsimp only); (try k_lift B'); (try k_fold))))
local macro_rules | `(tactic| walk_at "call ref") => `(tactic| (k_here; (with_reducible show wpAny _ _ (call (Value.ref 35) [Value.ref _, Value.int _ _, Value.int _ _]) _ _ _); k_dflt (refine' siftdown_tells ?B ?F ?X ?N ?T ?hk ?P ?hi ?hlen ?hp0 ?hp1 ?hdp ?hun ?_; (case B => k_asm); (case F => k_asm); (case X => k_asm); (case N => k_asm); (case T => k_asm); (case hk => first | exact rfl | assumption); (case P => k_upd); (case hi => l_ints); (case hlen => l_idx); (case hp0 => l_idx); (case hp1 => l_idx); (case hdp => ktr_room); (case hun => ktr_units); k_whole); intro h' tk' vs' n' F' N' hI'; (try k_sweep)))
local macro_rules | `(tactic| walk_at "call ref") => `(tactic| (k_here; (with_reducible show wpAny _ _ (call (Value.ref 21) [Value.ref _, Value.int _ _]) _ _ _); k_dflt (refine' push_tells ?B ?F ?X ?N ?T ?hk ?P ?hi ?hlen ?hdp ?hun ?_; (case B => k_asm); (case F => k_asm); (case X => k_asm); (case N => k_asm); (case T => k_asm); (case hk => first | exact rfl | assumption); (case P => k_upd); (case hi => l_ints); (case hlen => l_idx); (case hdp => ktr_room); (case hun => ktr_units); k_whole); intro h' tk' vs' n' ys' F' N' hI' hy' hyl'; (try k_sweep)))
local macro_rules | `(tactic| walk_at "call ref") => `(tactic| (k_here; (with_reducible show wpAny _ _ (call (Value.ref 28) [Value.ref _]) _ _ _); k_dflt (refine' pop_tells ?B ?F ?X ?N ?T ?hk ?P ?hi ?hlen ?hne ?hdp ?hun ?_; (case B => k_asm); (case F => k_asm); (case X => k_asm); (case N => k_asm); (case T => k_asm); (case hk => first | exact rfl | assumption); (case P => k_upd); (case hi => l_ints); (case hlen => l_idx); (case hne => first | l_idx | exact List.length_pos_iff.mpr (of_decide_eq_false (by first | assumption | simpa using ‹¬ _ = true›))); (case hdp => ktr_room); (case hun => ktr_units); k_whole); intro h' tk' vs' n' t' ys' v' F' N' hI' hy' hyl' hv'; (try k_sweep)))
local macro_rules | `(tactic| walk_at "call ref") => `(tactic| (k_here; (with_reducible show wpAny _ _ (call (Value.ref 89) [Value.int _ _]) _ _ _); k_dflt (refine' filemode_tells ?B ?F ?X ?N ?T ?hk ?hdp ?hun ?_; (case B => k_asm); (case F => k_asm); (case X => k_asm); (case N => k_asm); (case T => k_asm); (case hk => first | exact rfl | assumption); (case hdp => ktr_room); (case hun => ktr_units); k_whole); intro h' tk' t' x' F' N' hx' hxl'; (try k_sweep)))
local macro_rules | `(tactic| walk_at "pyIter ref") => `(tactic| k_extra "pyIter ref")
/-! _law_chain -/
def chS (g : Bool) (place : Int) (s : List Int × List Int) : List Int × List Int :=
  if g = false then (pushF s.1 (-place), s.2) else if s.1 = [] then (s.1, pushF s.2 place) else (popF s.1, s.2)
def chL (mode : Int) : Nat → List Int × List Int
  | 0 => ([], [])
  | k + 1 => chS (given mode k) (k : Int) (chL mode k)
inductive ChAt (bits : Int) (k : Nat) (wt fr : List Int) : Prop
  | mk (e : (wt, fr) = chL bits k)
theorem ch_push {bits : Int} {i : Nat} {p : Int} {wt fr ys : List Int} (h : ChAt bits i wt fr) (hg : given bits i = false) (hp : p = -(0 + (i : Int))) (hy : ys = pushF wt p) : ChAt bits (i + 1) ys fr := by
  obtain ⟨e⟩ := h
  refine ⟨?_⟩
  rw [chL, ← e, chS, if_pos hg, hy, hp, Int.zero_add]
theorem ch_free {bits : Int} {i : Nat} {p : Int} {wt fr ys : List Int} (h : ChAt bits i wt fr) (hg : given bits i = true) (hw : wt = []) (hp : p = 0 + (i : Int)) (hy : ys = pushF fr p) : ChAt bits (i + 1) wt ys := by
  obtain ⟨e⟩ := h
  refine ⟨?_⟩
  rw [chL, ← e, chS, if_neg (by rw [hg]; decide), if_pos hw, hy, hp, Int.zero_add]
theorem ch_take {bits : Int} {i : Nat} {wt fr ys : List Int} (h : ChAt bits i wt fr) (hg : given bits i = true) (hw : wt ≠ []) (hy : ys = popF wt) : ChAt bits (i + 1) ys fr := by
  obtain ⟨e⟩ := h
  refine ⟨?_⟩
  rw [chL, ← e, chS, if_neg (by rw [hg]; decide), if_neg hw, hy]
theorem chL_bd (bits : Int) : ∀ k : Nat, k ≤ 9 → Bd (-8) 0 (chL bits k).1 ∧ Bd 0 8 (chL bits k).2
  | 0, _ => ⟨fun y hy => (by cases hy), fun y hy => (by cases hy)⟩
  | k + 1, hk => by
    have ih := chL_bd bits k (by omega)
    simp only [chL, chS]
    split
    · exact ⟨bd_push (by omega) (by omega) ih.1 (by omega), ih.2⟩
    · split
      · exact ⟨ih.1, bd_push (by omega) (by omega) ih.2 (by omega)⟩
      · exact ⟨bd_pop (by omega) (by omega) ih.1, ih.2⟩
theorem ch_bd {bits : Int} {wt fr : List Int} (h : ChAt bits 9 wt fr) : Bd (-8) 0 wt ∧ Bd 0 8 fr := by
  obtain ⟨e⟩ := h
  have b := chL_bd bits 9 (Nat.le_refl _)
  rw [← e] at b
  exact b
inductive Tag (P : Prop) : Prop
  | mk (h : P)
theorem Tag.out {P : Prop} : Tag P → P
  | ⟨h⟩ => h
def drain : Nat → List Int → List Int → List Int
  | 0, _, f => f
  | n + 1, wt, f => if wt = [] then f else drain n (popF wt) (pushF f (-(popV wt)))
def climb : Nat → List Int → List Int → List Int
  | 0, _, c => c
  | n + 1, f, c => if f = [] then c else climb n (popF f) (c ++ [c.getLastD 0 + 2 ^ (8 - popV f).toNat])
theorem drain_step {wt fr ys zs R : List Int} {v : Int} (h : Tag (drain wt.length wt fr = R)) (hp : 0 < wt.length) (hy : ys = popF wt) (hyl : ys.length = wt.length - 1) (hv : v = popV wt) (hz : zs = pushF fr (-v)) : Tag (drain ys.length ys zs = R) := by
  refine ⟨?_⟩
  rw [← h.out, hyl, hy, hz, hv]
  obtain ⟨k, hk⟩ : ∃ k, wt.length = k + 1 := ⟨wt.length - 1, by omega⟩
  rw [hk]
  have hne : wt ≠ [] := List.length_pos_iff.mp hp
  simp only [drain, if_neg hne, Nat.add_sub_cancel]
theorem drain_end {wt fr R : List Int} (h : Tag (drain wt.length wt fr = R)) (hp : ¬ 0 < wt.length) : fr = R := by
  rw [← h.out, show wt.length = 0 by omega]; rfl
theorem climb_step {fr cs ys ds R : List Int} {v : Int} (h : Tag (climb fr.length fr cs = R)) (hp : 0 < fr.length) (hy : ys = popF fr) (hyl : ys.length = fr.length - 1) (hv : v = popV fr) (hd : ds = cs ++ [cs.getLastD 0 + 2 ^ (8 - v).toNat]) : Tag (climb ys.length ys ds = R) := by
  refine ⟨?_⟩
  rw [← h.out, hyl, hy, hd, hv]
  obtain ⟨k, hk⟩ : ∃ k, fr.length = k + 1 := ⟨fr.length - 1, by omega⟩
  rw [hk]
  have hne : fr ≠ [] := List.length_pos_iff.mp hp
  simp only [climb, if_neg hne, Nat.add_sub_cancel]
theorem climb_end {fr cs R : List Int} (h : Tag (climb fr.length fr cs = R)) (hp : ¬ 0 < fr.length) : cs = R := by
  rw [← h.out, show fr.length = 0 by omega]; rfl
theorem bw_step {wt ys : List Int} (e : ys = popF wt) (h : Bd (-8) 0 wt) : Bd (-8) 0 ys := e ▸ bd_pop (by omega) (by omega) h
theorem bf_pop {wt ys : List Int} (e : ys = popF wt) (h : Bd 0 8 wt) : Bd 0 8 ys := e ▸ bd_pop (by omega) (by omega) h
theorem bv_pop {wt : List Int} {v : Int} (e : v = popV wt) (h : Bd 0 8 wt) : 0 ≤ v ∧ v ≤ 8 := e ▸ bd_popV (by omega) (by omega) h
theorem bf_step {wt fr zs : List Int} {v : Int} (hz : zs = pushF fr (-v)) (hv : v = popV wt) (hw : Bd (-8) 0 wt) (hf : Bd 0 8 fr) : Bd 0 8 zs := by
  have b := bd_popV (by omega) (by omega) hw
  rw [← hv] at b
  exact hz ▸ bd_push (by omega) (by omega) hf (by omega)
def pows (f : List Int) : List Int := f.map fun p => 2 ^ (8 - p).toNat
def chainF (bits : Int) : List Int :=
  let s := chL bits 9
  let f := drain s.1.length s.1 s.2
  climb f.length f [bits - (pows s.2).sum]
theorem chain_eq {bits : Int} {xw xf yf zc : List Int} (hch : ChAt bits 9 xw xf) (hyf : yf = drain xw.length xw xf) (hcc : zc = climb yf.length yf [bits - (List.map (fun p => 2 ^ (8 - p).toNat) xf).sum]) : zc = chainF bits := by
  obtain ⟨e⟩ := hch
  simp only [chainF, ← e, ← hyf, pows]
  exact hcc

section
variable {w : World} {mean : ExcName → Option Value} {mg mb : Str → Option Value} {dp un : Nat} {gd : Option (List Code)} {cn : Str} {cs : Scope} {a : Addr} {ccd : Value} {cl : List (Str × Addr)} {outer : List Env} {A₀ : Around} {base h₀ : Heap} {L : Addr} {m : Str → Option Value} {s : Shared} {Q E : Value → Shared → Prop}

local macro_rules | `(tactic| walk_at "subscriptTail Name Name str int") => `(tactic| (k_here; (refine item_str ?k1 ?k2 ?k3 ?_); (case k1 => exact fitsSsize_of (N := 9223372036854775808) (by omega) (by omega) (Int.le_refl _)); (case k2 => omega); (case k3 => omega); intro _))

local macro_rules | `(tactic| walk_at "compareOp Eq ref ref") => `(tactic| (k_here; (with_reducible show wpAny _ _ (compareOp CmpOp.Eq (Value.ref _) (Value.ref _)) _ _ _); (with_unfolding_all refine' eq_intsK ?k1 ?k2 ?k3 ?k4 ?k5 ?_; (case k1 => is_list); (case k2 => first | l_ints | exact IntsAre.nil); (case k3 => is_list); (case k4 => first | l_ints | exact IntsAre.nil); (case k5 => ktr_units); k_whole)))

local macro_rules | `(tactic| walk_at "eval ListComp") => `(tactic| (k_here; k_dflt (refine LCg.ListComp_U (F₀ := by k_asm) (by with_unfolding_all rfl) (by decide) (by rfl) (by decide) (by rfl) ?_)))
local macro_rules | `(tactic| walk_at "CompSrc") => `(tactic| k_extra "CompSrc")
local macro_rules | `(tactic| walk_at "binaryOp Pow int int") => `(tactic| k_extra "binaryOp Pow int int")
local macro_rules | `(tactic| walk_at "exec While Name cons nil") => `(tactic| k_extra "exec While Name cons nil")

local macro_rules | `(tactic| walk_at "call builtin:list.pop") => `(tactic| (k_here; (with_reducible show wpAny _ _ (call (Value.builtin _) [Value.ref _]) _ _ _); k_dflt (refine' pop_empty ?hA ?N ?m ?_; (case hA => exact rfl); (case N => k_asm); (case m => k_mem)); intro h' tk' e' x'))

set_option maxHeartbeats 1000000 in
theorem chain_tells {news : List (Addr × Obj)} {bits : Int} {t0 : Tok}
    (B : Below A₀ h₀ [] h₀) (F : Fr h₀ L s.heap m) (X : (hd.heap_39 w.params).In h₀) (N : News h₀ L s.heap news) (T : Top hd.view_39 lz mean mg mb h₀) (hk : cs.kind = .function)
    (hdp : dp + 5 < recursionLimit) (hun : un + 200 < cLine) (hb0 : 0 ≤ bits) (hb1 : bits < 65536)
    (hret : ∀ h' tk' D vs n, Fr h₀ L h' m → News h₀ L h' ((D, W.listOf vs.toArray n) :: news) → (∀ p ∈ news, p.1 < D) → IntsAre vs (chainF bits) → Q (.ref D) { s with heap := h', toks := tk' }) :
    wpAny (model prg w) (ktrTop dp un gd cn cs L a ccd cl []) (call (.ref 121) [.int bits t0]) Q E s := by
  revert X; unfold prg; w_top off; k_fill; intro X
  refine wpAny_call ?_
  k_dflt (refine' code_tryX ?k1 ?k2 ?k3 ?k4 ?k5 ?kA ?kF ?kK ?k6 ?k7 ?k8 ?k9 ?kB ?_ ?c2 ?c3 ?c4 ?c5; (case kA => exact rfl); (case kF => exact rfl); (case kK => assumption); (case k1 => k_asm); (case k2 => k_asm); (case k3 => k_asm); (case k4 => k_asm); (case k5 => k_asm); (case k6 => k_is); (case k7 => k_is); (case k8 => ktr_room); (case k9 => exact BindsTo.of_eq rfl); (case c5 => decide); (case kB => exact locs rfl); (case c2 => exact rfl); (case c3 => exact rfl); (case c4 => exact rfl); k_whole; intro g' L' h' FG' F' N' B' X' T' D'; (try dsimp only); (try k_lift B'); (try k_fold))
  k_with_none
  k_with "pyIter ref" => refine held ?_
  k_steps
  refine Held.out ?_
  unfold Held
  rename IsRange _ _ _ _ _ _ _ _ => rgX
  rename_i x1 hx1 hxl1 _ ts _ _ _ lw _ hlw _ _ lf _ hlf _ _ _ _ _ _ _ _ F1 N1 _
  have hnl : ∀ p ∈ news, p.1 < lw := hlw
  have hnf : ∀ p ∈ news, p.1 < lf := ktn_ltOf hlf.2
  have hne : lw < lf := hlf.1
  subst hx1
  rw [slice_sgns] at F1
  generalize hsg : sgns bits = sg at F1
  have hsl : sg.length = 9 := by rw [← hsg]; rfl
  have hsg' := hsg.symm
  clear hsg
  refine range_inv (n := 9) (fun i m' nx => ∃ vw nw xw vf nf xf, nx = (lw, W.listOf vw.toArray nw) :: (lf, W.listOf vf.toArray nf) :: news ∧ IntsAre vw xw ∧ IntsAre vf xf ∧ ChAt bits i xw xf ∧ xw.length ≤ i ∧ xf.length ≤ i ∧
    KnownAll m' [(Str.ofString "bits", .int bits t0), (Str.ofString "signs", .str sg ts), (Str.ofString "waiting", .ref lw), (Str.ofString "free", .ref lf)]) rfl rgX (by decide) (by rfl) F1 (kst_newsOf N1 led_swap) ⟨[], 0, [], [], 0, [], rfl, .nil, .nil, ⟨rfl⟩, Nat.le_refl _, Nat.le_refl _, rfl, rfl, rfl, rfl, trivial⟩ ?_ ?_
  · intro i t m₁ nx h3 tk3 own hi9 _ hoff hJ F3 N3
    obtain ⟨vw, nw, xw, vf, nf, xf, rfl, hw, hf, hch, hl1, hl2, hkn⟩ := hJ
    have F4 := fr_knownX hkn F3
    dsimp only [kstB] at F4
    simp only [List.cons_append] at N3
    have hAw : ∀ p ∈ news ++ own, p.1 ≠ lw := fun p hp => by
      rcases List.mem_append.mp hp with hp | hp
      · exact Nat.ne_of_lt (hnl p hp)
      · exact hoff p hp lw (List.mem_cons_self ..)
    have hAf : ∀ p ∈ news ++ own, p.1 ≠ lf := fun p hp => by
      rcases List.mem_append.mp hp with hp | hp
      · exact Nat.ne_of_lt (hnf p hp)
      · exact hoff p hp lf (List.mem_cons_of_mem _ (List.mem_cons_self ..))
    clear F3 F1 N1
    k_steps
    · refine' TEnd.intro (nx := (lw, _) :: (lf, _) :: news) (by k_asm) (by k_asm) ⟨_, _, _, _, _, _, rfl, ?i1, ?i2, ?c, ?l1, ?l2, rfl, rfl, rfl, rfl, trivial⟩ adr2 ?hn ?ho
      case hn => exact List.forall_mem_cons.mpr ⟨by k_mem, List.forall_mem_cons.mpr ⟨by k_mem, fun p hp => by simp [hp]⟩⟩
      case ho => exact fun p hp => by simp [hp]
      case i1 => assumption
      case i2 => assumption
      case c => exact ch_push hch (occ_given (b := true) hsg' hi9 (by assumption)) rfl (by assumption)
      case l1 => omega
      case l2 => omega
    · refine' TEnd.intro (nx := (lw, _) :: (lf, _) :: news) (by k_asm) (by k_asm) ⟨_, _, _, _, _, _, rfl, ?i1, ?i2, ?c, ?l1, ?l2, rfl, rfl, rfl, rfl, trivial⟩ adr2 ?hn ?ho
      case hn => exact List.forall_mem_cons.mpr ⟨by k_mem, List.forall_mem_cons.mpr ⟨by k_mem, fun p hp => by simp [hp]⟩⟩
      case ho => exact fun p hp => by simp [hp]
      case i1 => assumption
      case i2 => assumption
      case c => exact ch_free hch (occ_given (b := false) hsg' hi9 (by assumption)) (of_decide_eq_true (by assumption)) rfl (by assumption)
      case l1 => omega
      case l2 => omega
    · refine' TEnd.intro (nx := (lw, _) :: (lf, _) :: news) (by k_asm) (by k_asm) ⟨_, _, _, _, _, _, rfl, ?i1, ?i2, ?c, ?l1, ?l2, rfl, rfl, rfl, rfl, trivial⟩ adr2 ?hn ?ho
      case hn => exact List.forall_mem_cons.mpr ⟨by k_mem, List.forall_mem_cons.mpr ⟨by k_mem, fun p hp => by simp [hp]⟩⟩
      case ho => exact fun p hp => by simp [hp]
      case i1 => assumption
      case i2 => assumption
      case c => exact ch_take hch (occ_given (b := false) hsg' hi9 (by assumption)) (of_decide_eq_false (by first | assumption | simpa using ‹¬ _ = true›)) (by assumption)
      case l1 => omega
      case l2 => omega
  · intro m₁ nx h3 tk3 hJ F3 N3
    obtain ⟨vw, nw, xw, vf, nf, xf, rfl, hw, hf, hch, hl1, hl2, hkn⟩ := hJ
    have F4 := fr_knownL hkn F3
    dsimp only [kstB] at F4
    have hbd := ch_bd hch
    have hbf := hbd.2
    clear F3 F1 N1
    k_with_none
    k_with "CompSrc" => (refine LCg.CompSrc.ledger (by rfl) (by k_asm) (by k_asm) (by k_mem) (by kcf_size) ?_; intro g'; (refine' kcf_list (fun p => 2 ^ (8 - p).toNat) (by first | assumption | l_ints) (fun k' t' I' oI' C' oC' D' m' ys' h' tk' E' hk' hC' hx' F' N' off' ne' hMark' => ?_) ?_); (all_goals (try (simp only [LCg.Off3, and_true] at off'))); kcf_last)
    k_with "binaryOp Pow int int" => refine held ?_
    k_with "exec While Name cons nil" => refine held ?_
    k_steps
    · refine Held.out ?_
      unfold Held
      refine pow_int_small ?kb1 ?kb2 ?kb3 ?_
      case kb1 => (have hq := hbf _ (by assumption)); omega
      case kb2 => (have hq := hbf _ (by assumption)); omega
      case kb3 => decide
      k_steps
    · refine Held.out ?_
      unfold Held
      rename_i tkc _ lc _ _ _ hlc _ F5 N5
      have hnc : ∀ p ∈ news, p.1 < lc := ktn_ltOf hlc.2.2.2
      have hwc : lw < lc := hlc.2.1
      have hfc : lf < lc := hlc.2.2.1
      have hNw : ∀ p ∈ news, p.1 ≠ lw := fun p hp => Nat.ne_of_lt (hnl p hp)
      have hNf : ∀ p ∈ news, p.1 ≠ lf := fun p hp => Nat.ne_of_lt (hnf p hp)
      have hNc : ∀ p ∈ news, p.1 ≠ lc := fun p hp => Nat.ne_of_lt (hnc p hp)
      refine while_inv (fun n m' nx => ∃ vw nw yw vf nf yf, nx = (lw, W.listOf vw.toArray nw) :: (lf, W.listOf vf.toArray nf) :: (lc, W.listOf [Value.int (bits - (List.map (fun p => 2 ^ (8 - p).toNat) xf).sum) tkc].toArray 0) :: news ∧ IntsAre vw yw ∧ IntsAre vf yf ∧ n = yw.length ∧ Tag (drain yw.length yw yf = drain xw.length xw xf) ∧ Bd (-8) 0 yw ∧ Bd 0 8 yf ∧ yw.length + yf.length ≤ 18 ∧
        KnownAll m' [(Str.ofString "waiting", .ref lw), (Str.ofString "free", .ref lf), (Str.ofString "chain", .ref lc)]) F5 (kst_newsOf N5 (fun p hp => by
          simp only [List.mem_cons] at hp ⊢
          rcases hp with h | h | h | h <;> simp [h])) ⟨vw, nw, xw, vf, nf, xf, rfl, hw, hf, rfl, ⟨rfl⟩, hbd.1, hbd.2, by omega, rfl, rfl, rfl, trivial⟩ ?_
      intro n m2 nx h5 tk5 hJ F6 N6
      obtain ⟨vw2, nw2, yw, vf2, nf2, yf, rfl, hw2, hf2, rfl, hdr, hbw2, hbf2, hyl, hkn2⟩ := hJ
      have F7 := fr_knownL hkn2 F6
      dsimp only [kstB] at F7
      clear F6 F5 N5 hw hf
      try clear N3
      k_with_none
      k_with "exec While Name cons nil" => refine held ?_
      k_steps
      · refine' WEnd.intro (nx := (lw, _) :: (lf, _) :: (lc, _) :: news) (by k_asm) (by k_asm) ?hn ⟨_, ?lt, _, _, _, _, _, _, rfl, ?i1, ?i2, rfl, ?dr, ?b1, ?b2, ?ln, rfl, rfl, rfl, trivial⟩
        case hn => exact List.forall_mem_cons.mpr ⟨by k_mem, List.forall_mem_cons.mpr ⟨by k_mem, List.forall_mem_cons.mpr ⟨by k_mem, fun p hp => by simp [hp]⟩⟩⟩
        case i1 => assumption
        case i2 => assumption
        case dr => exact drain_step hdr (by assumption) (by assumption) (by assumption) (by assumption) (by assumption)
        case b1 => exact bw_step (by assumption) hbw2
        case b2 => exact bf_step (by assumption) (by assumption) hbw2 hbf2
        case ln => omega
        case lt => omega
      · refine Held.out ?_
        unfold Held
        rename Fr _ _ _ _ => F8
        rename News _ _ _ _ => N8
        have hyf := drain_end hdr (by assumption)
        refine while_inv (fun n m' nx => ∃ vf nf zf vc nc zc, nx = (lf, W.listOf vf.toArray nf) :: (lc, W.listOf vc.toArray nc) :: news ∧ IntsAre vf zf ∧ IntsAre vc zc ∧ n = zf.length ∧ Tag (climb zf.length zf zc = climb yf.length yf [bits - (List.map (fun p => 2 ^ (8 - p).toNat) xf).sum]) ∧ Bd 0 8 zf ∧ zf.length + zc.length ≤ 19 ∧ 0 < zc.length ∧
          KnownAll m' [(Str.ofString "free", .ref lf), (Str.ofString "chain", .ref lc)]) F8 (kst_newsOf N8 (fun p hp => by
            simp only [List.mem_cons] at hp ⊢
            rcases hp with h | h | h <;> simp [h])) ⟨vf2, nf2, yf, [Value.int (bits - (List.map (fun p => 2 ^ (8 - p).toNat) xf).sum) tkc], 0, [bits - (List.map (fun p => 2 ^ (8 - p).toNat) xf).sum], rfl, hf2, .cons _ _ .nil, rfl, ⟨rfl⟩, hbf2, by simp; omega, by simp, rfl, rfl, trivial⟩ ?_
        intro n2 m3 nx3 h8 tk8 hJ3 F9 N9
        obtain ⟨vf3, nf3, zf, vc3, nc3, zc, rfl, hf3, hc3, rfl, hcl, hbf3, hzl, hcp, hkn3⟩ := hJ3
        have F10 := fr_knownL hkn3 F9
        dsimp only [kstB] at F10
        have hcl3 := hc3.length
        clear F9 F8 N8
        try clear F7
        try clear N6
        k_with_none
        k_with "binaryOp Pow int int" => refine held ?_
        by_cases hz : zf = []
        · subst hz
          cases hf3
          have hcc := climb_end hcl (by simp)
          k_steps
          exact hret _ _ _ _ _ (by k_asm) (cb_drop (by assumption) (List.forall_mem_cons.mpr ⟨by k_mem, fun p hp => by simp [hp]⟩)) hnc (ints_eq hc3 (chain_eq hch hyf hcc))
        · have hzp : 0 < zf.length := List.length_pos_iff.mpr hz
          k_steps
          refine Held.out ?_
          unfold Held
          have hq := bv_pop (wt := zf) (by assumption) hbf3
          refine pow_int_small ?kb1 ?kb2 ?kb3 ?_
          case kb1 => omega
          case kb2 => omega
          case kb3 => decide
          k_steps
          rename News _ _ _ _ => NN
          try simp only [List.push_toArray] at NN
          refine' WEnd.intro (nx := (lf, _) :: (lc, _) :: news) (by k_asm) NN ?hn ⟨_, ?lt, _, _, _, _, _, _, rfl, ?i1, ?i2, rfl, ?dr, ?b1, ?ln, ?lp, rfl, rfl, trivial⟩
          case hn => exact List.forall_mem_cons.mpr ⟨by k_mem, List.forall_mem_cons.mpr ⟨by k_mem, fun p hp => by simp [hp]⟩⟩
          case i1 => assumption
          case i2 => exact IntsAre.append hc3 (.cons _ _ .nil)
          case dr => exact climb_step hcl hzp (by assumption) (by assumption) (by assumption) (by rw [last_getD _ hcp])
          case b1 => exact bf_pop (by assumption) hbf3
          case ln => simp; omega
          case lt => omega
          case lp => simp
end
end
section
local macro_rules | `(tactic| walk_at "binaryOp RShift int int") => `(tactic| (k_here; (with_reducible refine shr1 ?_)))
local macro_rules | `(tactic| walk_at "binaryOp Mod int int") => `(tactic| (k_here; (with_reducible refine mod_pos ?k1 ?_); (case k1 => decide)))
local macro_rules | `(tactic| walk_at "binaryOp FloorDiv int int") => `(tactic| (k_here; (with_reducible refine fdiv_pos ?k1 ?k2 ?_); (case k1 => decide); (case k2 => decide +kernel)))
local macro_rules | `(tactic| k_all) => `(tactic| with_reducible assumption)
local macro_rules | `(tactic| l_idx) => `(tactic| omega)
local macro_rules | `(tactic| k_upd) => `(tactic| first | (refine' Pick.head ?a; (case a => k_all)) | (refine' Pick.tail ?a ?b; (case a => k_ne); (case b => k_upd)))
local macro_rules | `(tactic| walk_at "call ref") => `(tactic| (k_here; refine wpAny_call ?_; k_dflt (refine' code_def ?k1 ?k2 ?k3 ?k4 ?k5 ?kA ?kF ?kK ?k6 ?k7 ?k8 ?k9 ?kB ?_ ?c2 ?c3 ?c4 ?c5; (case kA => exact rfl); (case kF => exact rfl); (case kK => first | exact rfl | assumption); (case k1 => k_asm); (case k2 => k_asm); (case k3 => k_asm); (case k4 => k_asm); (case k5 => k_asm); (case k6 => k_is); (case k7 => k_is); (case k8 => ktr_room); (case k9 => exact BindsTo.of_eq rfl); (case c5 => decide); (case kB => exact locs rfl); (case c2 => exact rfl); (case c3 => exact rfl); (case c4 => exact rfl); k_whole; intro g' L' h' FG' F' N' B' X' T'; (try dsimp only); (try k_lift B'); (try k_fold))))
/-! _law_ladder -/
def ladF : Nat → Int → List Int
  | 0, _ => [0]
  | n + 1, r =>
    if r % 2 = 0 ∨ r / 2 = (ladF n (r / 2)).getLastD 0 then (ladF n (r / 2)).map (fun p => 2 * p) ++ [2 * (ladF n (r / 2)).getLastD 0 + 1]
    else ((ladF n (r / 2)).dropLast).map (fun p => 2 * p + 1)
theorem lad_mem : ∀ (n : Nat) (r : Int), 0 ≤ r → r < 2 ^ n → r ∈ ladF n r
  | 0, r, h0, h1 => by
    have : r = 0 := by simp at h1; omega
    subst this; simp [ladF]
  | n + 1, r, h0, h1 => by
    have ih := lad_mem n (r / 2) (by omega) (by rw [Int.pow_succ] at h1; omega)
    simp only [ladF]
    split
    · rename_i h
      rcases (by omega : r % 2 = 0 ∨ r % 2 = 1) with e | e
      · exact List.mem_append_left _ (List.mem_map.mpr ⟨r / 2, ih, by omega⟩)
      · rcases h with h | h
        · omega
        · refine List.mem_append_right _ ?_
          rw [← h]
          simp; omega
    · rename_i h
      refine List.mem_map.mpr ⟨r / 2, ?_, by omega⟩
      have hne : ladF n (r / 2) ≠ [] := fun q => by rw [q] at ih; cases ih
      have e := List.dropLast_concat_getLast hne
      rw [← e] at ih
      rcases List.mem_append.mp ih with q | q
      · exact q
      · exfalso
        apply h
        right
        rw [List.getLastD_eq_getLast?, List.getLast?_eq_some_getLast hne]
        exact List.mem_singleton.mp q
theorem lad_len : ∀ (n : Nat) (r : Int), (ladF n r).length ≤ n + 1
  | 0, _ => by simp [ladF]
  | n + 1, r => by
    have ih := lad_len n (r / 2)
    simp only [ladF]
    split <;> simp <;> omega
theorem lad_pos (n : Nat) (r : Int) (h0 : 0 ≤ r) (h1 : r < 2 ^ n) : 0 < (ladF n r).length := List.length_pos_of_mem (lad_mem n r h0 h1)
theorem lad_up {n : Nat} {r : Int} {ys : List Int} (hy : ys = ladF n (r / 2)) (hp : 0 < ys.length) (h : r % 2 = 0 ∨ r / 2 = ys.getD (-1 + (ys.length : Int)).toNat 0) : List.map (fun k' => 2 * k') ys ++ [2 * ys.getD (-1 + (ys.length : Int)).toNat 0 + 1] = ladF (n + 1) r := by
  rw [last_getD _ hp] at h ⊢
  rw [hy] at h ⊢
  simp only [ladF, if_pos h]
theorem lad_down {n : Nat} {r : Int} {ys : List Int} (hy : ys = ladF n (r / 2)) (hp : 0 < ys.length) (h1 : r % 2 ≠ 0) (h2 : r / 2 ≠ ys.getD (-1 + (ys.length : Int)).toNat 0) : List.map (fun k' => 2 * k' + 1) (List.take (ys.length - 1) ys) = ladF (n + 1) r := by
  rw [last_getD _ hp] at h2
  rw [← List.dropLast_eq_take]
  rw [hy] at h2 ⊢
  have h : ¬ (r % 2 = 0 ∨ r / 2 = (ladF n (r / 2)).getLastD 0) := fun q => q.elim h1 h2
  simp only [ladF, if_neg h]
def AllNe (d : Nat) : List (Addr × Obj) → Prop
  | [] => True
  | p :: r => @Ne Nat p.1 d ∧ AllNe d r
theorem allNe_of {d : Addr} : ∀ {l : List (Addr × Obj)}, (∀ p ∈ l, p.1 ≠ d) → AllNe d l
  | [], _ => trivial
  | p :: _, h => ⟨h p (.head _), allNe_of fun q hq => h q (.tail _ hq)⟩
theorem off1_ne {d : Addr} : ∀ {l : List (Addr × Obj)}, LCg.Off1 d l → ∀ p ∈ l, p.1 ≠ d
  | [], _, _, h => nomatch h
  | q :: r, h, p, hp => by
    rcases List.mem_cons.mp hp with rfl | hp
    · exact h.1
    · exact off1_ne h.2 p hp
theorem lt_ne {d : Addr} {l : List (Addr × Obj)} (h : ∀ p ∈ l, p.1 < d) : ∀ p ∈ l, p.1 ≠ d := fun p hp => Nat.ne_of_lt (h p hp)

section
local macro_rules | `(tactic| walk_at "eval ListComp") => `(tactic| (k_here; k_dflt (refine LCg.ListComp_U (F₀ := by k_asm) (by with_unfolding_all rfl) (by decide) (by rfl) (by decide) (by rfl) ?_)))
local macro_rules | `(tactic| walk_at "CompSrc") => `(tactic| k_extra "CompSrc")
local macro_rules | `(tactic| walk_at "call ref") => `(tactic| k_extra "call ref")

set_option maxHeartbeats 1000000 in
theorem ladder_tells : ∀ (n : Nat) {w : World} {mean : ExcName → Option Value} {mg mb : Str → Option Value} {dp un : Nat} {gd : Option (List Code)} {cn : Str} {cs : Scope} {a : Addr} {ccd : Value} {cl : List (Str × Addr)} {outer : List Env} {A₀ : Around} {base h₀ : Heap} {L : Addr} {m : Str → Option Value} {s : Shared} {Q E : Value → Shared → Prop}
    {news : List (Addr × Obj)} {r k : Int} {t0 t1 : Tok}
    (B : Below A₀ base outer h₀) (F : Fr h₀ L s.heap m) (X : (hd.heap_39 w.params).In h₀) (N : News h₀ L s.heap news) (T : Top hd.view_39 lz mean mg mb h₀) (hk : cs.kind = .function)
    (hkn : k = (n : Int)) (hr0 : 0 ≤ r) (hr1 : r < 2 ^ n) (hn : n ≤ 9) (hdp : dp + n + 2 < recursionLimit) (hun : un + 8 * n + 100 < cLine)
    (hret : ∀ h' tk' D vs c ys, Fr h₀ L h' m → News h₀ L h' ((D, W.listOf vs.toArray c) :: news) → (∀ p ∈ news, p.1 ≠ D) → IntsAre vs ys → ys = ladF n r → 0 < ys.length → ys.length ≤ n + 1 → Q (.ref D) { s with heap := h', toks := tk' }),
    wpAny (model prg w) (ktrTop dp un gd cn cs L a ccd cl outer) (call (.ref 126) [.int r t0, .int k t1]) Q E s := by
  intro n
  induction n with
  | zero =>
    intro w mean mg mb dp un gd cn cs a ccd cl outer A₀ base h₀ L m s Q E news r k t0 t1 B F X N T hk hkn hr0 hr1 hn hdp hun hret
    revert X; unfold prg; w_top off; k_fill; intro X
    have hk0 : k = 0 := by omega
    subst hk0
    refine wpAny_call ?_
    k_dflt cell_enter
    k_with_none
    k_steps
    exact hret _ _ _ [Value.int 0 _] 0 [0] (by k_asm) (by k_asm) (lt_ne (by assumption)) (.cons 0 _ .nil) rfl (by simp) (by simp)
  | succ n ih =>
    intro w mean mg mb dp un gd cn cs a ccd cl outer A₀ base h₀ L m s Q E news r k t0 t1 B F X N T hk hkn hr0 hr1 hn hdp hun hret
    revert X; unfold prg; w_top off; k_fill; intro X
    have hk1 : k ≠ 0 := by omega
    have hr2 : 0 ≤ r / 2 := by omega
    have hr3 : r / 2 < 2 ^ n := by rw [Int.pow_succ] at hr1; omega
    refine wpAny_call ?_
    k_dflt cell_enter
    k_with_none
    k_with "call ref" => (k_dflt (refine' ih ?B ?F ?X ?N ?T ?hk ?h1 ?h2 ?h3 ?h4 ?hdp ?hun ?_; (case B => k_asm); (case F => k_asm); (case X => k_asm); (case N => k_asm); (case T => k_asm); (case hk => first | exact rfl | assumption); (case h1 => omega); (case h2 => assumption); (case h3 => assumption); (case h4 => omega); (case hdp => ktr_room); (case hun => ktr_units); k_whole); intro h' tk' D' vs' c' ys' F' N' l1 hI' hy' hyp' hyl'; (try k_sweep))
    k_with "CompSrc" => (refine LCg.CompSrc.ledger (by rfl) (by k_asm) (by k_asm) (by k_mem) (by kcf_size) ?_; intro g'; (refine' kcf_list _ (by first | assumption | l_ints) (fun k' t' I' oI' C' oC' D' m' ys' h' tk' E' hk' hC' hx' F' N' off' ne' hMark' => ?_) ?_); (all_goals (try (simp only [LCg.Off3, and_true] at off'))); kcf_last)
    have hlp := lad_pos (n + 1) r hr0 hr1
    have hll := lad_len (n + 1) r
    k_steps
    · exfalso; omega
    · have e := lad_up (r := r) (by assumption) (by assumption) (Or.inl (by omega))
      exact hret _ _ _ _ _ _ (by k_asm) (cb_drop (by assumption) (List.forall_mem_cons.mpr ⟨by k_mem, fun p hp => by simp [hp]⟩)) (lt_ne (ktn_ltOf (And.right (And.right (And.right (by assumption)))))) (ints_eq (by assumption) e) rfl hlp hll
    · have e := lad_up (r := r) (by assumption) (by assumption) (Or.inr (by assumption))
      exact hret _ _ _ _ _ _ (by k_asm) (cb_drop (by assumption) (List.forall_mem_cons.mpr ⟨by k_mem, fun p hp => by simp [hp]⟩)) (lt_ne (ktn_ltOf (And.right (And.right (And.right (by assumption)))))) (ints_eq (by assumption) e) rfl hlp hll
    · have e := lad_down (r := r) (by assumption) (by assumption) (by omega) (by assumption)
      exact hret _ _ _ _ _ _ (by k_asm) (cb_drop (by assumption) (List.forall_mem_cons.mpr ⟨by k_mem, fun p hp => by simp [hp]⟩)) (off1_ne (And.right (And.right (by assumption)))) (ints_eq (by assumption) e) rfl hlp hll
end
end
section
/-! the medians, list.index -/
theorem sorted_unique : ∀ {a b : List Int}, a.Perm b → a.Pairwise (· ≤ ·) → b.Pairwise (· ≤ ·) → a = b
  | [], b, p, _, _ => (List.Perm.nil_eq p).symm ▸ rfl
  | x :: r, [], p, _, _ => by simpa using p.length_eq
  | x :: r, y :: q, p, ha, hb => by
    have h1 : x ∈ y :: q := p.mem_iff.mp (List.mem_cons_self ..)
    have h2 : y ∈ x :: r := p.mem_iff.mpr (List.mem_cons_self ..)
    have hxy : x = y := by
      rcases List.mem_cons.mp h1 with e | e
      · exact e
      · rcases List.mem_cons.mp h2 with f | f
        · exact f.symm
        · exact Int.le_antisymm ((List.pairwise_cons.mp ha).1 y f) ((List.pairwise_cons.mp hb).1 x e)
    subst hxy
    rw [sorted_unique (List.Perm.cons_inv p) (List.pairwise_cons.mp ha).2 (List.pairwise_cons.mp hb).2]

section
variable {prog : Program} {w : World} {A : Around} {E : Value → Shared → Prop} {s : Shared} {h₀ : Heap} {L D : Addr} {m : Str → Option Value} {news : List (Addr × Obj)}
theorem index_ints {vs : List Value} {ns : List Int} {n j : Nat} {k : Int} {t : Tok} {Q : Value → Shared → Prop} (N : News h₀ L s.heap news) (hm : (D, W.listOf vs.toArray n) ∈ news) (hi : IntsAre vs ns) (hj : ns[j]? = some k) (hf : ∀ i < j, ns[i]? ≠ some k) (hz : ns.length ≤ 1000)
    (h : Q (.int (j : Int) s.toks) { s with toks := s.toks + 1 }) : wpAny (model prog w) A (call (.builtin "list.index") [.ref D, .int k t]) Q E s := by
  have hl := hi.length
  obtain ⟨hj1, hj2⟩ := List.getElem?_eq_some_iff.mp hj
  have at_ : ∀ (i : Nat) (hi' : i < vs.length), ∃ t', vs[i] = Value.int (ns[i]'(by omega)) t' := by
    intro i hi'
    obtain ⟨k', t', e1, e2⟩ := IntsAre.at hi i vs[i] (by simp)
    have e3 : ns[i]'(by omega) = k' := by
      have := List.getElem?_eq_getElem (l := ns) (i := i) (by omega)
      rw [this] at e2; exact Option.some.inj e2
    exact ⟨t', by rw [e1, e3]⟩
  have allI : ∀ y ∈ vs, ∃ k' t', y = Value.int k' t' := by
    intro y hy
    obtain ⟨i, hi', e⟩ := List.getElem_of_mem hy
    obtain ⟨t', q⟩ := at_ i hi'
    exact ⟨_, t', e ▸ q⟩
  have hints : kf_ints vs = true := by
    clear hj hf hj1 hj2 at_ hm hl hz
    induction hi with
    | nil => rfl
    | cons k' t' _ ih =>
      have := ih (fun y hy => allI y (List.mem_cons_of_mem _ hy))
      simpa [kf_ints] using this
  refine call_meets PySem.F.slot_list_index ⟨_, (N _ hm).1, rfl⟩ PySem.F.entry_list_index (PySem.F.args_list_index_2 _ _)
    (MeetsSeq.list_index D vs.toArray n (.int k t) (isInt k) (fun y hy => kf_eq (l := vs) hints y (by simpa using hy)) j (by simp; omega) (by omega) ?_ ?_) ⟨(N _ hm).1, h⟩
  · obtain ⟨t', e⟩ := at_ j (by omega)
    simp only [List.getElem_toArray, e, hj2]
    simp [isInt]
  · intro i hi' hlt
    have hiv : i < vs.length := by simpa using hi'
    obtain ⟨t', e⟩ := at_ i hiv
    have hne := hf i hlt
    rw [List.getElem?_eq_getElem (by omega)] at hne
    simp only [List.getElem_toArray, e]
    simp only [isInt, beq_eq_false_iff_ne, ne_eq]
    intro q
    exact hne (by rw [q])
end
end
section
local macro_rules | `(tactic| walk_at "binaryOp RShift int int") => `(tactic| (k_here; (with_reducible refine shr1 ?_)))
local macro_rules | `(tactic| walk_at "binaryOp Mod int int") => `(tactic| (k_here; (with_reducible refine mod_pos ?k1 ?_); (case k1 => decide)))
local macro_rules | `(tactic| walk_at "binaryOp FloorDiv int int") => `(tactic| (k_here; (with_reducible refine fdiv_pos ?k1 ?k2 ?_); (case k1 => decide); (case k2 => decide +kernel)))
local macro_rules | `(tactic| k_all) => `(tactic| with_reducible assumption)
local macro_rules | `(tactic| l_idx) => `(tactic| omega)
local macro_rules | `(tactic| k_upd) => `(tactic| first | (refine' Pick.head ?a; (case a => k_all)) | (refine' Pick.tail ?a ?b; (case a => k_ne); (case b => k_upd)))
local macro_rules | `(tactic| walk_at "call ref") => `(tactic| (k_here; refine wpAny_call ?_; k_dflt (refine' code_def ?k1 ?k2 ?k3 ?k4 ?k5 ?kA ?kF ?kK ?k6 ?k7 ?k8 ?k9 ?kB ?_ ?c2 ?c3 ?c4 ?c5; (case kA => exact rfl); (case kF => exact rfl); (case kK => first | exact rfl | assumption); (case k1 => k_asm); (case k2 => k_asm); (case k3 => k_asm); (case k4 => k_asm); (case k5 => k_asm); (case k6 => k_is); (case k7 => k_is); (case k8 => ktr_room); (case k9 => exact BindsTo.of_eq rfl); (case c5 => decide); (case kB => exact locs rfl); (case c2 => exact rfl); (case c3 => exact rfl); (case c4 => exact rfl); k_whole; intro g' L' h' FG' F' N' B' X' T'; (try dsimp only); (try k_lift B'); (try k_fold))))
section
variable {w : World} {mean : ExcName → Option Value} {mg mb : Str → Option Value} {dp un : Nat} {gd : Option (List Code)} {cn : Str} {cs : Scope} {a : Addr} {ccd : Value} {cl : List (Str × Addr)} {outer : List Env} {A₀ : Around} {base h₀ : Heap} {L : Addr} {m : Str → Option Value} {s : Shared} {Q E : Value → Shared → Prop}

set_option maxHeartbeats 1000000 in
theorem medlow_tells {l : Addr} {vs : List Value} {n : Nat} {xs S : List Int} {news : List (Addr × Obj)}
    (B : Below A₀ base outer h₀) (F : Fr h₀ L s.heap m) (X : (hd.heap_39 w.params).In h₀) (N : News h₀ L s.heap news) (T : Top hd.view_39 lz mean mg mb h₀) (hk : cs.kind = .function)
    (hm : (l, W.listOf vs.toArray n) ∈ news) (hi : IntsAre vs xs) (hne : 0 < xs.length) (hlen : xs.length < 64) (hS : S.Perm xs) (hSo : S.Pairwise (· ≤ ·))
    (hdp : dp + 1 < recursionLimit) (hun : un + 8 < cLine)
    (hret : ∀ h' tk' t' v, Fr h₀ L h' m → News h₀ L h' news → v = S.getD ((xs.length - 1) / 2) 0 → Q (.int v t') { s with heap := h', toks := tk' }) :
    wpAny (model prg w) (ktrTop dp un gd cn cs L a ccd cl outer) (call (.ref 109) [.ref l]) Q E s := by
  revert X; unfold prg; w_top off; k_fill; intro X
  refine wpAny_call ?_
  k_dflt cell_enter
  k_with_none
  k_steps
  have hv := hi.length
  refine kso_sorted (by k_asm) (by k_asm) (kso_isList (by k_asm) hm (by simp)) hi hlen ?_
  intro D' vs' ns' c' h' F' N' l1 hI' hyl' hp' ho' hq'
  have hu : ns' = S := sorted_unique (hp'.trans hS.symm) ho' hSo
  k_steps
  · exfalso; omega
  · exact at_int (by rw [hu, hS.length_eq]; congr 1; omega) (hret _ _ _ _ (by k_asm) (cb_drop (by assumption) (fun p hp => List.mem_cons_of_mem _ hp)) rfl)
  · exact at_int (by rw [hu, hS.length_eq]; congr 1; omega) (hret _ _ _ _ (by k_asm) (cb_drop (by assumption) (fun p hp => List.mem_cons_of_mem _ hp)) rfl)

set_option maxHeartbeats 1000000 in
theorem medhigh_tells {l : Addr} {vs : List Value} {n : Nat} {xs S : List Int} {news : List (Addr × Obj)}
    (B : Below A₀ base outer h₀) (F : Fr h₀ L s.heap m) (X : (hd.heap_39 w.params).In h₀) (N : News h₀ L s.heap news) (T : Top hd.view_39 lz mean mg mb h₀) (hk : cs.kind = .function)
    (hm : (l, W.listOf vs.toArray n) ∈ news) (hi : IntsAre vs xs) (hne : 0 < xs.length) (hlen : xs.length < 64) (hS : S.Perm xs) (hSo : S.Pairwise (· ≤ ·))
    (hdp : dp + 1 < recursionLimit) (hun : un + 8 < cLine)
    (hret : ∀ h' tk' t' v, Fr h₀ L h' m → News h₀ L h' news → v = S.getD (xs.length / 2) 0 → Q (.int v t') { s with heap := h', toks := tk' }) :
    wpAny (model prg w) (ktrTop dp un gd cn cs L a ccd cl outer) (call (.ref 116) [.ref l]) Q E s := by
  revert X; unfold prg; w_top off; k_fill; intro X
  refine wpAny_call ?_
  k_dflt cell_enter
  k_with_none
  k_steps
  have hv := hi.length
  refine kso_sorted (by k_asm) (by k_asm) (kso_isList (by k_asm) hm (by simp)) hi hlen ?_
  intro D' vs' ns' c' h' F' N' l1 hI' hyl' hp' ho' hq'
  have hu : ns' = S := sorted_unique (hp'.trans hS.symm) ho' hSo
  k_steps
  · exfalso; omega
  · exact at_int (by rw [hu, hS.length_eq]; congr 1) (hret _ _ _ _ (by k_asm) (cb_drop (by assumption) (fun p hp => List.mem_cons_of_mem _ hp)) rfl)
end
end
section
/-! the plain law -/
def popc (x : Int) : Int := x / 1 % 2 + x / 2 % 2 + x / 4 % 2 + x / 8 % 2 + x / 16 % 2 + x / 32 % 2 + x / 64 % 2 + x / 128 % 2 + x / 256 % 2
def okR (r : Int) : Bool :=
  let l := ladF 9 r
  decide (chainF r = l) && decide (l.Pairwise (· < ·)) && l.all (fun x => decide (0 ≤ x) && decide (x < 512)) &&
  decide ((l.length : Int) = 10 - 2 * popc (l.getD 0 0)) && decide (2 ≤ l.length) &&
  decide (chainF (l.getD ((l.length - 1) / 2) 0) = l) && decide (chainF (l.getD (l.length / 2) 0) = l)
theorem ok_0 : ∀ i : Fin 128, okR (i.val : Int) = true := by decide +kernel
theorem ok_1 : ∀ i : Fin 128, okR ((i.val + 128 : Nat) : Int) = true := by decide +kernel
theorem ok_2 : ∀ i : Fin 128, okR ((i.val + 256 : Nat) : Int) = true := by decide +kernel
theorem ok_3 : ∀ i : Fin 128, okR ((i.val + 384 : Nat) : Int) = true := by decide +kernel
theorem ok_all (r : Int) (h0 : 0 ≤ r) (h1 : r < 512) : okR r = true := by
  obtain ⟨n, rfl⟩ := Int.eq_ofNat_of_zero_le h0
  by_cases a : n < 128
  · exact ok_0 ⟨n, a⟩
  by_cases b : n < 256
  · have := ok_1 ⟨n - 128, by omega⟩
    rwa [show (⟨n - 128, by omega⟩ : Fin 128).val + 128 = n by simp; omega] at this
  by_cases c : n < 384
  · have := ok_2 ⟨n - 256, by omega⟩
    rwa [show (⟨n - 256, by omega⟩ : Fin 128).val + 256 = n by simp; omega] at this
  · have := ok_3 ⟨n - 384, by omega⟩
    rwa [show (⟨n - 384, by omega⟩ : Fin 128).val + 384 = n by simp; omega] at this
structure Good (r : Int) : Prop where
  chain : chainF r = ladF 9 r
  sorted : (ladF 9 r).Pairwise (· < ·)
  small : ∀ x ∈ ladF 9 r, 0 ≤ x ∧ x < 512
  len : ((ladF 9 r).length : Int) = 10 - 2 * popc ((ladF 9 r).getD 0 0)
  two : 2 ≤ (ladF 9 r).length
  low : chainF ((ladF 9 r).getD (((ladF 9 r).length - 1) / 2) 0) = ladF 9 r
  high : chainF ((ladF 9 r).getD ((ladF 9 r).length / 2) 0) = ladF 9 r
theorem good_all (r : Int) (h0 : 0 ≤ r) (h1 : r < 512) : Good r := by
  have h := ok_all r h0 h1
  simp only [okR, Bool.and_eq_true, decide_eq_true_eq, List.all_eq_true] at h
  obtain ⟨⟨⟨⟨⟨⟨a, b⟩, c⟩, d⟩, e⟩, f⟩, g⟩ := h
  exact ⟨a, b, c, d, e, f, g⟩
/-- the mode's other bits ride along -/
theorem given_mod (b : Int) (i : Nat) (hi : i < 9) : given b i = given (b % 512) i := by
  unfold given
  match i, hi with
  | 0, _ => simp only [decide_eq_decide]; norm_cast; omega
  | 1, _ => simp only [decide_eq_decide]; norm_cast; omega
  | 2, _ => simp only [decide_eq_decide]; norm_cast; omega
  | 3, _ => simp only [decide_eq_decide]; norm_cast; omega
  | 4, _ => simp only [decide_eq_decide]; norm_cast; omega
  | 5, _ => simp only [decide_eq_decide]; norm_cast; omega
  | 6, _ => simp only [decide_eq_decide]; norm_cast; omega
  | 7, _ => simp only [decide_eq_decide]; norm_cast; omega
  | 8, _ => simp only [decide_eq_decide]; norm_cast; omega
theorem chL_mod (b : Int) : ∀ k, k ≤ 9 → chL b k = chL (b % 512) k
  | 0, _ => rfl
  | k + 1, h => by rw [chL, chL, chL_mod b k (by omega), given_mod b k (by omega)]
theorem climb_shift (x : Int) : ∀ (n : Nat) (f c : List Int), c ≠ [] → climb n f (c.map (x + ·)) = (climb n f c).map (x + ·)
  | 0, _, _, _ => rfl
  | n + 1, f, c, h => by
    simp only [climb]
    split
    · rfl
    · have e : (c.map (x + ·)).getLastD 0 = x + c.getLastD 0 := by
        rw [List.getLastD_eq_getLast?, List.getLastD_eq_getLast?, List.getLast?_map, List.getLast?_eq_some_getLast h]
        rfl
      have q := climb_shift x n (popF f) (c ++ [c.getLastD 0 + 2 ^ (8 - popV f).toNat]) (by simp)
      rw [← q]
      congr 1
      rw [e, List.map_append]
      simp [Int.add_assoc]
theorem chain_shift (b : Int) : chainF b = (chainF (b % 512)).map ((b - b % 512) + ·) := by
  simp only [chainF]
  rw [chL_mod b 9 (Nat.le_refl _), ← climb_shift _ _ _ _ (by simp)]
  congr 1
  simp; omega
theorem due_eq (b : Int) : chainF b = (ladF 9 (b % 512)).map ((b - b % 512) + ·) := by
  rw [chain_shift, (good_all (b % 512) (by omega) (by omega)).chain]
/-- what the law asks of a mode's chain -/
structure Facts (b : Int) (C : List Int) : Prop where
  sorted : C.Pairwise (· < ·)
  mem : b ∈ C
  small : ∀ x ∈ C, 0 ≤ x ∧ x < 65536
  len : (C.length : Int) = 10 - 2 * popc (C.getD 0 0)
  two : 2 ≤ C.length
  low : chainF (C.getD ((C.length - 1) / 2) 0) = C
  high : chainF (C.getD (C.length / 2) 0) = C
theorem getD_map_add (x : Int) (l : List Int) (i : Nat) (h : i < l.length) : (l.map (x + ·)).getD i 0 = x + l.getD i 0 := by
  simp [List.getD, h]
theorem popc_shift (q x : Int) (h0 : 0 ≤ x) (h1 : x < 512) : popc (512 * q + x) = popc x := by
  unfold popc; omega
theorem chain_at (b y : Int) (l : List Int) (hl : ladF 9 (b % 512) = l) (hy0 : 0 ≤ y) (hy1 : y < 512) (h : chainF y = l) : chainF ((b - b % 512) + y) = chainF b := by
  rw [chain_shift ((b - b % 512) + y), due_eq b, hl]
  rw [show ((b - b % 512) + y) % 512 = y by omega, h]
  congr 1
  funext z
  omega
theorem facts (b : Int) (h0 : 0 ≤ b) (h1 : b < 65536) : Facts b (chainF b) := by
  have G := good_all (b % 512) (by omega) (by omega)
  have e := due_eq b
  have hlen : (chainF b).length = (ladF 9 (b % 512)).length := by rw [e, List.length_map]
  have hg : ∀ i, i < (ladF 9 (b % 512)).length → (chainF b).getD i 0 = (b - b % 512) + (ladF 9 (b % 512)).getD i 0 := fun i hi => by rw [e]; exact getD_map_add _ _ _ hi
  have hs : ∀ i, i < (ladF 9 (b % 512)).length → 0 ≤ (ladF 9 (b % 512)).getD i 0 ∧ (ladF 9 (b % 512)).getD i 0 < 512 := fun i hi => G.small _ (by
    have : (ladF 9 (b % 512)).getD i 0 = (ladF 9 (b % 512))[i] := by simp [List.getD, hi]
    rw [this]; exact List.getElem_mem hi)
  have two := G.two
  refine ⟨?_, ?_, ?_, ?_, by rw [hlen]; exact two, ?_, ?_⟩
  · rw [e]
    exact (List.pairwise_map).mpr (G.sorted.imp (fun {a c} h => by omega))
  · rw [e]
    exact List.mem_map.mpr ⟨b % 512, lad_mem 9 _ (by omega) (by omega), by omega⟩
  · intro x hx
    rw [e] at hx
    obtain ⟨y, hy, rfl⟩ := List.mem_map.mp hx
    have := G.small y hy
    omega
  · rw [hlen, hg 0 (by omega), G.len]
    have q := hs 0 (by omega)
    have p := popc_shift (b / 512) ((ladF 9 (b % 512)).getD 0 0) q.1 q.2
    rw [show b - b % 512 = 512 * (b / 512) by omega, p]
  · rw [hlen, hg _ (by omega)]
    have q := hs (((ladF 9 (b % 512)).length - 1) / 2) (by omega)
    exact chain_at b _ _ rfl q.1 q.2 G.low
  · rw [hlen, hg _ (by omega)]
    have q := hs ((ladF 9 (b % 512)).length / 2) (by omega)
    exact chain_at b _ _ rfl q.1 q.2 G.high
theorem index_of {b : Int} {C : List Int} (F : Facts b C) : ∃ j : Nat, C[j]? = some b ∧ (∀ i < j, C[i]? ≠ some b) ∧ j < C.length := by
  obtain ⟨j, hj, e⟩ := List.getElem_of_mem F.mem
  refine ⟨j, by rw [List.getElem?_eq_getElem hj, e], fun i hi q => ?_, hj⟩
  obtain ⟨hi', e'⟩ := List.getElem?_eq_some_iff.mp q
  have := List.pairwise_iff_getElem.mp F.sorted i j hi' hj hi
  omega
theorem turn_len (C : List Int) (j : Nat) : (List.drop (j : Int).toNat C ++ List.take (j : Int).toNat C).length = C.length := by
  simp; omega
theorem turn_perm (C : List Int) (j : Nat) : C.Perm (List.drop (j : Int).toNat C ++ List.take (j : Int).toNat C) := by
  have h := List.perm_append_comm (l₁ := List.take (j : Int).toNat C) (l₂ := List.drop (j : Int).toNat C)
  rwa [List.take_append_drop] at h
theorem Facts.le {b : Int} {C : List Int} (F : Facts b C) : C.Pairwise (· ≤ ·) := F.sorted.imp (fun {a c} h => Int.le_of_lt h)
end
section
theorem few_eq (c : Int) : (List.map (fun q : Int => c / 2 ^ q.toNat % 2) (rangeKs 0 9)).sum = popc c := by
  have e : rangeKs 0 9 = [0, 1, 2, 3, 4, 5, 6, 7, 8] := by decide
  rw [e]
  simp only [List.map_cons, List.map_nil, List.sum_cons, List.sum_nil, popc]
  show c / 1 % 2 + (c / 2 % 2 + (c / 4 % 2 + (c / 8 % 2 + (c / 16 % 2 + (c / 32 % 2 + (c / 64 % 2 + (c / 128 % 2 + (c / 256 % 2 + 0)))))))) = _
  omega
theorem popc_nn (c : Int) : 0 ≤ popc c := by unfold popc; omega
/-- the two middle ones -/
theorem mid_two {C : List Int} {few : Int} (hl : (C.length : Int) = 10 - 2 * few) (h2 : 2 ≤ C.length) (h0 : 0 ≤ few) : [C.getD ((C.length - 1) / 2) 0, C.getD (C.length / 2) 0] = List.take 2 (List.drop (4 - few).toNat C) := by
  obtain ⟨m, hm⟩ : ∃ m, (4 - few).toNat = m := ⟨_, rfl⟩
  have e1 : (C.length - 1) / 2 = m := by omega
  have e2 : C.length / 2 = m + 1 := by omega
  have l1 : m < C.length := by omega
  have l2 : m + 1 < C.length := by omega
  have g1 : C.getD m 0 = C[m] := by simp [List.getD, l1]
  have g2 : C.getD (m + 1) 0 = C[m + 1] := by simp [List.getD, l2]
  have q : List.drop m C = C[m] :: C[m + 1] :: List.drop (m + 1 + 1) C := by rw [List.drop_eq_getElem_cons l1, List.drop_eq_getElem_cons l2]
  rw [hm, e1, e2, g1, g2, q]
  rfl
theorem erase_getD {C : List Int} {j m : Nat} (hm : m + 1 < C.length) : (C.eraseIdx j).getD m 0 = if j ≤ m then C.getD (m + 1) 0 else C.getD m 0 := by
  simp only [List.getD, List.getElem?_eraseIdx]
  split
  · rw [if_neg (by omega)]
  · rw [if_pos (by omega)]
theorem rest_perm (C : List Int) (j : Nat) (hj : j < C.length) : (C.eraseIdx j).Perm (List.drop 1 (List.drop (j : Int).toNat C ++ List.take (j : Int).toNat C)) := by
  rw [Int.toNat_natCast, List.eraseIdx_eq_take_drop_succ, List.drop_eq_getElem_cons hj]
  simp only [List.cons_append, List.drop_succ_cons, List.drop_zero]
  exact List.perm_append_comm
theorem rest_sorted {C : List Int} (j : Nat) (h : C.Pairwise (· ≤ ·)) : (C.eraseIdx j).Pairwise (· ≤ ·) := h.sublist (List.eraseIdx_sublist C j)
theorem below_iff {b : Int} {C : List Int} {j m : Nat} (F : Facts b C) (hj : C[j]? = some b) (hm : m < C.length) : b ≤ C.getD m 0 ↔ j ≤ m := by
  obtain ⟨hjl, e⟩ := List.getElem?_eq_some_iff.mp hj
  have em : C.getD m 0 = C[m] := by simp [List.getD, hm]
  rw [em, ← e]
  constructor
  · intro h
    by_cases q : j ≤ m
    · exact q
    · have := List.pairwise_iff_getElem.mp F.sorted m j hm hjl (by omega)
      omega
  · intro h
    rcases Nat.eq_or_lt_of_le h with q | q
    · subst q; exact Int.le_refl _
    · exact Int.le_of_lt (List.pairwise_iff_getElem.mp F.sorted j m hjl hm q)
theorem rest_mid {b lo up few : Int} {C : List Int} {j i : Nat} (F : Facts b C) (hj : C[j]? = some b) (hl : (C.length : Int) = 10 - 2 * few) (h2 : 2 ≤ C.length) (hlo : lo = C.getD ((C.length - 1) / 2) 0) (hup : up = C.getD (C.length / 2) 0) (hi : i = C.length / 2 - 1) :
    (C.eraseIdx j).getD i 0 = if b ≤ lo then up else lo := by
  have e1 : (C.length - 1) / 2 = i := by omega
  have e2 : C.length / 2 = i + 1 := by omega
  rw [hlo, hup, e1, e2, erase_getD (by omega)]
  have q := below_iff F hj (m := i) (by omega)
  by_cases h : j ≤ i
  · rw [if_pos h, if_pos (q.mpr h)]
  · rw [if_neg h, if_neg (fun z => h (q.mp z))]
theorem adr3 {a b c : Addr} {o1 o2 o3 q1 q2 q3 : Obj} : [(a, o1), (b, o2), (c, o3)].map (·.1) = [(a, q1), (b, q2), (c, q3)].map (·.1) := rfl
theorem mid_two' {C : List Int} {few lo up : Int} (hl : (C.length : Int) = 10 - 2 * few) (h2 : 2 ≤ C.length) (h0 : 0 ≤ few) (hlo : lo = C.getD ((C.length - 1) / 2) 0) (hup : up = C.getD (C.length / 2) 0) : [lo, up] = List.take (min (6 - few).toNat C.length - (4 - few).toNat) (List.drop (4 - few).toNat C) := by
  rw [show min (6 - few).toNat C.length - (4 - few).toNat = 2 by omega, hlo, hup]
  exact mid_two hl h2 h0
theorem small_at {b x : Int} {C : List Int} {i : Nat} (F : Facts b C) (hi : i < C.length) (h : x = C.getD i 0) : 0 ≤ x ∧ x < 65536 := by
  have e : C.getD i 0 = C[i] := by simp [List.getD, hi]
  rw [h, e]; exact F.small _ (List.getElem_mem hi)
end
section
local macro_rules | `(tactic| walk_at "binaryOp RShift int int") => `(tactic| (k_here; (with_reducible refine shr1 ?_)))
local macro_rules | `(tactic| walk_at "binaryOp Mod int int") => `(tactic| (k_here; (with_reducible refine mod_pos ?k1 ?_); (case k1 => decide)))
local macro_rules | `(tactic| walk_at "binaryOp FloorDiv int int") => `(tactic| (k_here; (with_reducible refine fdiv_pos ?k1 ?k2 ?_); (case k1 => decide); (case k2 => decide +kernel)))
local macro_rules | `(tactic| k_all) => `(tactic| with_reducible assumption)
local macro_rules | `(tactic| l_idx) => `(tactic| omega)
local macro_rules | `(tactic| k_upd) => `(tactic| first | (refine' Pick.head ?a; (case a => k_all)) | (refine' Pick.tail ?a ?b; (case a => k_ne); (case b => k_upd)))
local macro_rules | `(tactic| walk_at "call ref") => `(tactic| (k_here; refine wpAny_call ?_; k_dflt (refine' code_def ?k1 ?k2 ?k3 ?k4 ?k5 ?kA ?kF ?kK ?k6 ?k7 ?k8 ?k9 ?kB ?_ ?c2 ?c3 ?c4 ?c5; (case kA => exact rfl); (case kF => exact rfl); (case kK => first | exact rfl | assumption); (case k1 => k_asm); (case k2 => k_asm); (case k3 => k_asm); (case k4 => k_asm); (case k5 => k_asm); (case k6 => k_is); (case k7 => k_is); (case k8 => ktr_room); (case k9 => exact BindsTo.of_eq rfl); (case c5 => decide); (case kB => exact locs rfl); (case c2 => exact rfl); (case c3 => exact rfl); (case c4 => exact rfl); k_whole; intro g' L' h' FG' F' N' B' X' T'; (try dsimp only); (try k_lift B'); (try k_fold))))
local macro_rules | `(tactic| walk_at "call ref") => `(tactic| k_extra "call ref")
local macro_rules | `(tactic| walk_at "call ref") => `(tactic| (k_here; (with_reducible show wpAny _ _ (call (Value.ref 126) [Value.int _ _, Value.int _ _]) _ _ _); k_dflt (refine' ladder_tells 9 ?B ?F ?X ?N ?T ?hk ?h1 ?h2 ?h3 ?h4 ?hdp ?hun ?_; (case B => k_asm); (case F => k_asm); (case X => k_asm); (case N => k_asm); (case T => k_asm); (case hk => first | exact rfl | assumption); (case h1 => rfl); (case h2 => omega); (case h3 => omega); (case h4 => omega); (case hdp => ktr_room); (case hun => ktr_units); k_whole); intro h' tk' D' vs' c' ys' F' N' l1 hI' hy' hyp' hyl'; (replace l1 := allNe_of l1); (try simp only [AllNe, and_true] at l1); (try k_sweep)))
local macro_rules | `(tactic| walk_at "call ref") => `(tactic| (k_here; (with_reducible show wpAny _ _ (call (Value.ref 121) [Value.int _ _]) _ _ _); k_dflt (refine' chain_tells ?B ?F ?X ?N ?T ?hk ?hdp ?hun ?h0 ?h1 ?_; (case B => k_asm); (case F => k_asm); (case X => k_asm); (case N => k_asm); (case T => k_asm); (case hk => first | exact rfl | assumption); (case h0 => omega); (case h1 => omega); (case hdp => ktr_room); (case hun => ktr_units); k_whole); intro h' tk' D' vs' c' F' N' l1 hI'; (try k_lt l1); (try k_sweep)))
local macro_rules | `(tactic| walk_at "eval ListComp") => `(tactic| (k_here; k_dflt (refine LCg.ListComp_U (F₀ := by k_asm) (by with_unfolding_all rfl) (by decide) (by rfl) (by decide) (by rfl) ?_)))
local macro_rules | `(tactic| walk_at "CompSrc") => `(tactic| k_extra "CompSrc")
local macro_rules | `(tactic| walk_at "pyIter ref") => `(tactic| k_extra "pyIter ref")
local macro_rules | `(tactic| walk_at "binaryOp Pow int int") => `(tactic| k_extra "binaryOp Pow int int")
local macro_rules | `(tactic| walk_at "call builtin:list.index") => `(tactic| k_extra "call builtin:list.index")
local macro_rules | `(tactic| walk_at "exec For Name BinOp cons nil") => `(tactic| (k_here; (rename Fr _ _ _ _ => lF'); (with_unfolding_all refine' For_invVF lF' ?k1 ?k2 ?_; (case k1 => exact rfl); (case k2 => exact rfl); k_whole)))
local macro_rules | `(tactic| walk_at "binaryOp FloorDiv int int") => `(tactic| k_extra "binaryOp FloorDiv int int")
section
set_option maxHeartbeats 8000000 in
theorem law_holds : PySem.Challenge.rw_om0049_01.Holds := hd (by
  k_with_none
  k_with "pyIter ref" => refine held ?_
  k_go0
  all_goals try k_fold
  k_steps
  refine Held.out ?_
  unfold Held
  rename_i K0 hDq hq1 tkq od ob hdd hdb X0 D1 ws1 h3 hI1 hC1 hL1 l12 h2 tk1 t1 ln h1 l11 DD ws hh F1 N1 hI l1
  have N3 := kst_newsOf N1 (l' := [(DD, W.listOf ws.toArray 0), (_, od), (_, ob)]) (List.forall_mem_cons.mpr ⟨List.mem_cons_self .., List.forall_mem_cons.mpr ⟨List.mem_cons_of_mem _ (List.mem_cons_of_mem _ (List.mem_cons_of_mem _ (List.mem_cons_self ..))), List.forall_mem_cons.mpr ⟨List.mem_cons_of_mem _ (List.mem_cons_of_mem _ (List.mem_cons_of_mem _ (List.mem_cons_of_mem _ (List.mem_cons_self ..)))), fun p hp => nomatch hp⟩⟩⟩)
  refine list_inv (fun i m' nx => ∃ c2 o2 c1 o1 v1 v2, nx = [(DD, W.listOf ws.toArray 0), (c2, o2), (c1, o1)] ∧ o1.data = .cell v1 ∧ o2.data = .cell v2) rfl (List.mem_cons_self ..) hI F1 N3 ⟨_, od, _, ob, _, _, rfl, hdb, hdd⟩ ?hkeep ?turn ?done
  case hkeep =>
    rintro i m' nx ⟨c2, o2, c1, o1, v1, v2, rfl, _⟩
    exact List.mem_cons_self ..
  case turn =>
    intro i k t m₁ nx h5 tk5 own hk ha hoff hJ F2 N2
    obtain ⟨c2, o2, c1, o1, v1, v2, rfl, hc1, hc2⟩ := hJ
    simp only [List.map_cons, List.map_nil, List.cons.injEq, and_true, true_and] at ha
    obtain ⟨rfl, rfl⟩ := ha
    simp only [List.cons_append, List.nil_append] at N2
    clear N1 F1 N3
    clear hdd hdb
    try clear X0
    try clear hDq
    try (rename Heap.CodeRec _ _ _ => hcdq; clear hcdq)
    try (rename Ground _ _ _ _ _ _ _ _ _ => hGq; clear hGq)
    try (rename LooseAre _ _ _ => hVq; clear hVq)
    try (rename Glob _ _ _ _ _ _ _ _ => hGLq; clear hGLq)
    try (rename Tables _ _ _ _ => hBq; clear hBq)
    have hO0 : ∀ p ∈ own, p.1 ≠ DD := fun p hp => hoff p hp _ (by simp)
    have hO2 := fun p hp => hoff p hp _ (List.mem_cons_of_mem _ (List.mem_cons_self ..))
    have hO1 := fun p hp => hoff p hp _ (List.mem_cons_of_mem _ (List.mem_cons_of_mem _ (List.mem_cons_self ..)))
    dsimp only at hO1 hO2
    have hb0 : 0 ≤ k % 65536 := by omega
    have hb1 : k % 65536 < 65536 := by omega
    k_with_none
    k_with "call builtin:list.index" => refine held ?_
    k_with "call ref" => refine held ?_
    k_with "binaryOp Pow int int" => refine held ?_
    k_with "CompSrc" => refine held ?_
    k_steps
    refine Held.out ?_
    unfold Held
    refine' LCg.CompSrc.ledger ?a1 ?a2 ?a3 ?a4 ?a5 ?_
    case a1 => rfl
    case a2 => k_asm
    case a3 => k_asm
    case a4 => k_mem
    case a5 => kcf_size
    intro g'
    rename _ = ladF 9 _ => hy
    have hdue := due_eq (k % 65536)
    rw [← hy] at hdue
    have hF := facts (k % 65536) hb0 hb1
    obtain ⟨j, hj1, hj2, hj3⟩ := index_of hF
    have hj0 : (0 : Int) ≤ (j : Int) := Int.natCast_nonneg j
    have hlenW : (chainF (k % 65536)).length ≤ 10 := by rw [hdue, List.length_map]; assumption
    refine kcf_list (fun p => k % 65536 - k % 65536 % 512 + p) (by assumption) (fun k' t' I' oI' C' oC' D' m' ys' h' tk' E' hk' hC' hx' F' N' off' ne' hMark' => ?_) ?_
    · simp only [LCg.Off3, and_true] at off'
      k_steps
    k_steps
    refine Held.out ?_
    unfold Held
    rename IntsAre _ (List.map _ _) => hI8
    rw [← hdue] at hI8
    rename IntsAre _ (chainF _) => hI3
    clear hdue
    try (rename _ = List.map _ _ => hdue2; clear hdue2)
    generalize hCe : chainF (k % 65536) = C at hF hj1 hj2 hj3 hlenW hI8 hI3
    refine index_ints (j := j) (by k_asm) (by k_mem) (by assumption) hj1 hj2 (by omega) ?_
    k_steps
    refine Held.out ?_
    unfold Held
    refine index_ints (j := j) (by k_asm) (by k_mem) (by assumption) hj1 hj2 (by omega) ?_
    k_steps
    refine Held.out ?_
    unfold Held
    refine' LCg.CompSrc.range ?a1 ?a2 ?a3 ?a4 ?a5 ?a6 ?a7 ?_
    case a1 => rfl
    case a2 => k_asm
    case a3 => k_asm
    case a4 => assumption
    case a5 => decide
    case a6 => exact (rfl : _ = ((9 : Nat) : Int))
    case a7 => decide
    intro g2
    have hpos : 0 < C.length := by omega
    k_with "binaryOp FloorDiv int int" => refine held ?_
    refine kcf_range (fun q => C.getD (Int.toNat 0) 0 / 2 ^ q.toNat % 2) (fun k' t' I' oI' C' oC' D' m' ys' h' tk' E' hlo' hhi' hC' hx' F' N' off' ne' hMark' => ?_) ?_
    · simp only [LCg.Off3, and_true] at off'
      k_steps
      refine Held.out ?_
      unfold Held
      refine pow_int_small (by omega) (by omega) (by decide) ?_
      k_steps
      refine Held.out ?_
      unfold Held
      refine fdiv_pos (Int.pow_pos (by decide)) (kbt_py (by omega)) ?_
      k_steps
    k_steps
    have hTl := turn_len C j
    have hTp := turn_perm C j
    have hCo := hF.le
    have hTwo := hF.two
    have hLen := hF.len
    have hPn := popc_nn (C.getD 0 0)
    rename Fr _ _ _ _ => F5
    generalize hfe : (List.map (fun q : Int => C.getD (Int.toNat 0) 0 / 2 ^ q.toNat % 2) (rangeKs 0 9)).sum = few at F5
    have hfew : few = popc (C.getD 0 0) := by rw [← hfe]; exact few_eq _
    rw [← hfew] at hLen hPn
    have hf4 : 0 ≤ 4 - few := by omega
    have hf6 : 0 ≤ 6 - few := by omega
    refine Held.out ?_
    unfold Held
    k_dflt (refine' medlow_tells (S := C) ?B ?F ?X ?N ?T ?hk ?hm ?hi ?hne ?hlen ?hS ?hSo ?hdp ?hun ?_; (case B => k_asm); (case F => k_asm); (case X => k_asm); (case N => k_asm); (case T => k_asm); (case hk => exact rfl); (case hm => k_mem); (case hi => assumption); (case hne => omega); (case hlen => omega); (case hS => exact hTp); (case hSo => exact hCo); (case hdp => ktr_room); (case hun => ktr_units))
    intro h6 tk6 t6 lo F6 N6 hlo
    rw [hTl] at hlo
    k_steps
    refine Held.out ?_
    unfold Held
    k_dflt (refine' medhigh_tells (S := C) ?B ?F ?X ?N ?T ?hk ?hm ?hi ?hne ?hlen ?hS ?hSo ?hdp ?hun ?_; (case B => k_asm); (case F => k_asm); (case X => k_asm); (case N => k_asm); (case T => k_asm); (case hk => exact rfl); (case hm => k_mem); (case hi => assumption); (case hne => omega); (case hlen => omega); (case hS => exact hTp); (case hSo => exact hCo); (case hdp => ktr_room); (case hun => ktr_units))
    intro h7 tk7 t7 up F7 N7 hup
    rw [hTl] at hup
    have hmt := mid_two' hLen hTwo hPn hlo hup
    have hRp := rest_perm C j hj3
    have hRo := rest_sorted j hCo
    have hcl : chainF lo = C := by rw [hlo]; exact hF.low
    have hcu : chainF up = C := by rw [hup]; exact hF.high
    have hlob := small_at hF (by omega) hlo
    have hupb := small_at hF (by omega) hup
    by_cases hbl : k % 65536 ≤ lo
    · k_steps
      · refine Held.out ?_
        unfold Held
        k_dflt (refine' medlow_tells (S := C.eraseIdx j) ?B ?F ?X ?N ?T ?hk ?hm ?hi ?hne ?hlen ?hS ?hSo ?hdp ?hun ?_; (case B => k_asm); (case F => k_asm); (case X => k_asm); (case N => k_asm); (case T => k_asm); (case hk => exact rfl); (case hm => k_mem); (case hi => assumption); (case hne => (simp only [List.length_drop, hTl]; omega)); (case hlen => (simp only [List.length_drop, hTl]; omega)); (case hS => exact hRp); (case hSo => exact hRo); (case hdp => ktr_room); (case hun => ktr_units))
        intro h8 tk8 t8 a1 F8 N8 ha1
        rw [List.length_drop, hTl] at ha1
        rw [rest_mid hF hj1 hLen hTwo hlo hup (by omega), if_pos hbl] at ha1
        subst ha1
        k_steps
        refine Held.out ?_
        unfold Held
        k_dflt (refine' medhigh_tells (S := C.eraseIdx j) ?B ?F ?X ?N ?T ?hk ?hm ?hi ?hne ?hlen ?hS ?hSo ?hdp ?hun ?_; (case B => k_asm); (case F => k_asm); (case X => k_asm); (case N => k_asm); (case T => k_asm); (case hk => exact rfl); (case hm => k_mem); (case hi => assumption); (case hne => (simp only [List.length_drop, hTl]; omega)); (case hlen => (simp only [List.length_drop, hTl]; omega)); (case hS => exact hRp); (case hSo => exact hRo); (case hdp => ktr_room); (case hun => ktr_units))
        intro h9 tk9 t9 a2 F9 N9 ha2
        rw [List.length_drop, hTl] at ha2
        rw [rest_mid hF hj1 hLen hTwo hlo hup (by omega), if_pos hbl] at ha2
        subst ha2
        k_steps
        refine' TEnd.intro (nx := [(DD, _), (_, _), (_, _)]) (by k_asm) (by k_asm) ⟨_, _, _, _, _, _, rfl, ?d1, ?d2⟩ adr3 ?hn ?ho
        case hn => exact List.forall_mem_cons.mpr ⟨by k_mem, List.forall_mem_cons.mpr ⟨by k_mem, List.forall_mem_cons.mpr ⟨by k_mem, fun p hp => nomatch hp⟩⟩⟩
        case ho => exact fun p hp => by simp [hp]
        case d1 => assumption
        case d2 => assumption
    · k_steps
      · refine Held.out ?_
        unfold Held
        k_dflt (refine' medlow_tells (S := C.eraseIdx j) ?B ?F ?X ?N ?T ?hk ?hm ?hi ?hne ?hlen ?hS ?hSo ?hdp ?hun ?_; (case B => k_asm); (case F => k_asm); (case X => k_asm); (case N => k_asm); (case T => k_asm); (case hk => exact rfl); (case hm => k_mem); (case hi => assumption); (case hne => (simp only [List.length_drop, hTl]; omega)); (case hlen => (simp only [List.length_drop, hTl]; omega)); (case hS => exact hRp); (case hSo => exact hRo); (case hdp => ktr_room); (case hun => ktr_units))
        intro h8 tk8 t8 a1 F8 N8 ha1
        rw [List.length_drop, hTl] at ha1
        rw [rest_mid hF hj1 hLen hTwo hlo hup (by omega), if_neg hbl] at ha1
        subst ha1
        k_steps
        refine Held.out ?_
        unfold Held
        k_dflt (refine' medhigh_tells (S := C.eraseIdx j) ?B ?F ?X ?N ?T ?hk ?hm ?hi ?hne ?hlen ?hS ?hSo ?hdp ?hun ?_; (case B => k_asm); (case F => k_asm); (case X => k_asm); (case N => k_asm); (case T => k_asm); (case hk => exact rfl); (case hm => k_mem); (case hi => assumption); (case hne => (simp only [List.length_drop, hTl]; omega)); (case hlen => (simp only [List.length_drop, hTl]; omega)); (case hS => exact hRp); (case hSo => exact hRo); (case hdp => ktr_room); (case hun => ktr_units))
        intro h9 tk9 t9 a2 F9 N9 ha2
        rw [List.length_drop, hTl] at ha2
        rw [rest_mid hF hj1 hLen hTwo hlo hup (by omega), if_neg hbl] at ha2
        subst ha2
        k_steps
        refine' TEnd.intro (nx := [(DD, _), (_, _), (_, _)]) (by k_asm) (by k_asm) ⟨_, _, _, _, _, _, rfl, ?d1, ?d2⟩ adr3 ?hn ?ho
        case hn => exact List.forall_mem_cons.mpr ⟨by k_mem, List.forall_mem_cons.mpr ⟨by k_mem, List.forall_mem_cons.mpr ⟨by k_mem, fun p hp => nomatch hp⟩⟩⟩
        case ho => exact fun p hp => by simp [hp]
        case d1 => assumption
        case d2 => assumption
  case done =>
    intro m₁ nx h5 tk5 hJ F2 N2
    clear N1 F1 N3
    k_steps)
end
end
end Mine
theorem PySem.Challenge.cw_om0049_01_holds : PySem.Challenge.rw_om0049_01.Holds :=
  Mine.law_holds
