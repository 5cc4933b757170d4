import PyProof.Rows.All
import Wide.All
import OpenK.AllK
import Wide.FinOn
import PySem.Challenge.RW_om0049_02
open PySem PySem.W PyProof.Rows PySem.Spec PySem.Calls
set_option Elab.async false
set_option linter.all false
set_option maxRecDepth 100000
set_option maxHeartbeats 8000000
namespace Mine
open_top hd for PySem.Challenge.rw_om0049_02
theorem cj1 {a b : Prop} (h : a ∧ b) : a := h.1
theorem cj2 {a b c : Prop} (h : a ∧ b ∧ c) : b := h.2.1
theorem cj3 {a b c d : Prop} (h : a ∧ b ∧ c ∧ d) : c := h.2.2.1
theorem cj4 {a b c d e : Prop} (h : a ∧ b ∧ c ∧ d ∧ e) : d := h.2.2.2.1
theorem cj5 {a b c d e f : Prop} (h : a ∧ b ∧ c ∧ d ∧ e ∧ f) : e := h.2.2.2.2.1
theorem cj6 {a b c d e f g : Prop} (h : a ∧ b ∧ c ∧ d ∧ e ∧ f ∧ g) : f := h.2.2.2.2.2.1
theorem cj7 {a b c d e f g i : Prop} (h : a ∧ b ∧ c ∧ d ∧ e ∧ f ∧ g ∧ i) : g := h.2.2.2.2.2.2.1
theorem cj8 {a b c d e f g i j : Prop} (h : a ∧ b ∧ c ∧ d ∧ e ∧ f ∧ g ∧ i ∧ j) : i := h.2.2.2.2.2.2.2.1
theorem cj9 {a b c d e f g i j k : Prop} (h : a ∧ b ∧ c ∧ d ∧ e ∧ f ∧ g ∧ i ∧ j ∧ k) : j := h.2.2.2.2.2.2.2.2.1
theorem ej5 {a b c d e : Prop} (h : a ∧ b ∧ c ∧ d ∧ e) : e := h.2.2.2.2
theorem ej6 {a b c d e f : Prop} (h : a ∧ b ∧ c ∧ d ∧ e ∧ f) : f := h.2.2.2.2.2
theorem ej7 {a b c d e f g : Prop} (h : a ∧ b ∧ c ∧ d ∧ e ∧ f ∧ g) : g := h.2.2.2.2.2.2
theorem ej8 {a b c d e f g i : Prop} (h : a ∧ b ∧ c ∧ d ∧ e ∧ f ∧ g ∧ i) : i := h.2.2.2.2.2.2.2
theorem ej9 {a b c d e f g i j : Prop} (h : a ∧ b ∧ c ∧ d ∧ e ∧ f ∧ g ∧ i ∧ j) : j := h.2.2.2.2.2.2.2.2
theorem four {P : Nat → Prop} (h0 : P 0) (h1 : P 1) (h2 : P 2) (h3 : P 3) (i : Nat) (hi : i < 4) : P i := by
  cases i with
  | zero => exact h0
  | succ i =>
    cases i with
    | zero => exact h1
    | succ i =>
      cases i with
      | zero => exact h2
      | succ i =>
        cases i with
        | zero => exact h3
        | succ i => exact absurd hi (Nat.not_lt_of_le (Nat.le_add_left 4 i))
theorem ne1 {a : Nat} : a ≠ a + 1 := Nat.ne_of_lt (Nat.lt_succ_self _)
theorem ne2 {a : Nat} : a ≠ a + 1 + 1 := Nat.ne_of_lt (Nat.lt_succ_of_lt (Nat.lt_succ_self _))
theorem ne3 {a : Nat} : a ≠ a + 1 + 1 + 1 := Nat.ne_of_lt (Nat.lt_succ_of_lt (Nat.lt_succ_of_lt (Nat.lt_succ_self _)))
theorem ne4 {a : Nat} : a ≠ a + 1 + 1 + 1 + 1 := Nat.ne_of_lt (Nat.lt_succ_of_lt (Nat.lt_succ_of_lt (Nat.lt_succ_of_lt (Nat.lt_succ_self _))))
theorem ne5 {a : Nat} : a ≠ a + 1 + 1 + 1 + 1 + 1 := Nat.ne_of_lt (Nat.lt_succ_of_lt (Nat.lt_succ_of_lt (Nat.lt_succ_of_lt (Nat.lt_succ_of_lt (Nat.lt_succ_self _)))))
theorem nl1 {a b : Nat} (h : a < b) : a ≠ b + 1 := Nat.ne_of_lt (Nat.lt_succ_of_lt h)
theorem nl2 {a b : Nat} (h : a < b) : a ≠ b + 1 + 1 := nl1 (Nat.lt_succ_of_lt h)
theorem nl3 {a b : Nat} (h : a < b) : a ≠ b + 1 + 1 + 1 := nl2 (Nat.lt_succ_of_lt h)
theorem unL1 {u i k N : Nat} (h : u + k < N) (e : Nat.ble i k = true) : u + i < N := Nat.lt_of_le_of_lt (Nat.add_le_add_left (Nat.le_of_ble_eq_true e) u) h
theorem unL2 {u i j k N : Nat} (h : u + k < N) (e : Nat.ble (i + j) k = true) : u + i + j < N := Nat.add_assoc u i j ▸ unL1 h e
theorem unL0 {u k N : Nat} (h : u + k < N) : u < N := Nat.lt_of_le_of_lt (Nat.le_add_right u k) h
theorem hid {T : Prop} (h : ¬ T → False) : T := Classical.byContradiction h
section
noncomputable abbrev prg : Program := PySem.Challenge.rw_om0049_02.row.prog
noncomputable abbrev lz : List Str := looseW hd.view_39 [Str.ofString "_filemode_table"]

section
variable {prog : Program} {w : World} {A : Around} {E : Value → Shared → Prop} {s : Shared} {t u : Tok} {a b : Int} {Q : Value → Shared → Prop}
theorem shr1 (h : Q (.int (a / 2) s.toks) { s with toks := s.toks + 1 }) : wpAny (model prog w) A (binaryOp .RShift (.int a t) (.int 1 u)) Q E s := by
  refine rshift_int (by decide) ?_
  have e : a.fdiv (2 ^ (1 : Int).toNat) = a / 2 := by
    show a.fdiv 2 = a / 2
    exact Int.fdiv_eq_ediv_of_nonneg _ (by decide)
  rw [e]; exact h
theorem mod_pos (hb : 0 < b) (h : Q (.int (a % b) s.toks) { s with toks := s.toks + 1 }) : wpAny (model prog w) A (binaryOp .Mod (.int a t) (.int b u)) Q E s := by
  refine mod_int' (Int.ne_of_gt hb) ?_
  rw [Int.fmod_eq_emod_of_nonneg _ (Int.le_of_lt hb)]; exact h
theorem fdiv_pos (hb : 0 < b) (hl : b.natAbs.log2 < 9000) (h : Q (.int (a / b) s.toks) { s with toks := s.toks + 1 }) : wpAny (model prog w) A (binaryOp .FloorDiv (.int a t) (.int b u)) Q E s := by
  refine floordiv_int (Int.ne_of_gt hb) ?_ (Or.inl (PyProof.noPylong_of_log2 hl))
  rw [Int.fdiv_eq_ediv_of_nonneg _ (Int.le_of_lt hb)]; exact h
end

/-- one object of a ledger, and the others -/
inductive Pick (l : Addr) (o : Obj) : List (Addr × Obj) → List (Addr × Obj) → Prop
  | head {r} : (∀ p ∈ r, p.1 ≠ l) → Pick l o ((l, o) :: r) r
  | tail {p r r'} : p.1 ≠ l → Pick l o r r' → Pick l o (p :: r) (p :: r')
theorem Pick.off {l : Addr} {o : Obj} {news rest : List (Addr × Obj)} (h : Pick l o news rest) : ∀ p ∈ rest, p.1 ≠ l := by
  induction h with
  | head h => exact h
  | tail h _ ih =>
    intro q hq
    rcases List.mem_cons.mp hq with rfl | hq
    · exact h
    · exact ih q hq
theorem Pick.sub {l : Addr} {o : Obj} {news rest : List (Addr × Obj)} (h : Pick l o news rest) : ∀ p ∈ (l, o) :: rest, p ∈ news := by
  induction h with
  | head h => exact fun p hp => hp
  | tail h _ ih =>
    intro q hq
    rcases List.mem_cons.mp hq with rfl | hq
    · exact List.mem_cons_of_mem _ (ih _ (List.mem_cons_self ..))
    · rcases List.mem_cons.mp hq with rfl | hq
      · exact List.mem_cons_self ..
      · exact List.mem_cons_of_mem _ (ih _ (List.mem_cons_of_mem _ hq))
theorem Pick.news {l : Addr} {o : Obj} {news rest : List (Addr × Obj)} {h₀ h : Heap} {L : Addr} (P : Pick l o news rest) (N : News h₀ L h news) : News h₀ L h ((l, o) :: rest) := fun p hp => N p (P.sub p hp)

theorem at_int {Q : Value → Shared → Prop} {x y : Int} {t : Tok} {s : Shared} (e : x = y) (h : Q (.int x t) s) : Q (.int y t) s := e ▸ h

/-- siftdown from 0, on plain lists -/
noncomputable def sd (new : Int) : Nat → List Int → Nat → List Int
  | 0, xs, pos => xs.set pos new
  | f + 1, xs, pos =>
    if pos = 0 then xs.set pos new
    else if new < xs.getD ((pos - 1) / 2) 0 then sd new f (xs.set pos (xs.getD ((pos - 1) / 2) 0)) ((pos - 1) / 2)
    else xs.set pos new
theorem sd_fuel (new : Int) : ∀ (f g : Nat) (xs : List Int) (pos : Nat), pos ≤ f → pos ≤ g → sd new f xs pos = sd new g xs pos
  | 0, 0, _, _, _, _ => rfl
  | 0, g + 1, xs, pos, h, _ => by
    have : pos = 0 := by (first | lia | omega)
    subst this; simp [sd]
  | f + 1, 0, xs, pos, _, h => by
    have : pos = 0 := by (first | lia | omega)
    subst this; simp [sd]
  | f + 1, g + 1, xs, pos, h1, h2 => by
    simp only [sd]
    split
    · rfl
    · split
      · exact sd_fuel new f g _ _ (by (first | lia | omega)) (by (first | lia | omega))
      · rfl
theorem sd_length (new : Int) : ∀ (f : Nat) (xs : List Int) (pos : Nat), (sd new f xs pos).length = xs.length
  | 0, xs, pos => by simp [sd]
  | f + 1, xs, pos => by
    simp only [sd]
    split
    · simp
    · split
      · rw [sd_length new f]; simp
      · simp
theorem sd_n {p : Int} (h : 0 < p) : ∃ k, p.toNat = k + 1 ∧ ((p - 1) / 2).toNat = k / 2 := by
  refine' hid fun kG_ => ?_
  obtain ⟨k, hk⟩ := Int.eq_ofNat_of_zero_le (show 0 ≤ p - 1 by (first | lia | omega))
  refine' kG_ ?_
  clear kG_
  obtain rfl : p = ((k + 1 : Nat) : Int) := by (first | lia | omega)
  rw [hk]
  exact ⟨k, rfl, rfl⟩
theorem sd_go {new p : Int} {xs ys : List Int} (h0 : 0 < p) (hlt : new < xs.getD ((p - 1) / 2).toNat 0) (e : sd new p.toNat xs p.toNat = ys) :
    sd new ((p - 1) / 2).toNat (xs.set p.toNat (xs.getD ((p - 1) / 2).toNat 0)) ((p - 1) / 2).toNat = ys := by
  refine' hid fun kG_ => ?_
  obtain ⟨k, hk, h2⟩ := sd_n h0
  refine' kG_ ?_
  clear kG_
  rw [← e]
  rw [h2] at hlt ⊢
  rw [hk]
  simp only [sd, Nat.add_one_ne_zero, if_false, Nat.add_sub_cancel]
  rw [if_pos hlt]
  exact sd_fuel _ _ _ _ _ (Nat.le_refl _) (Nat.div_le_self _ _)
theorem sd_stop {new p : Int} {xs ys : List Int} (h0 : 0 < p) (hlt : ¬ new < xs.getD ((p - 1) / 2).toNat 0) (e : sd new p.toNat xs p.toNat = ys) : xs.set p.toNat new = ys := by
  refine' hid fun kG_ => ?_
  obtain ⟨k, hk, h2⟩ := sd_n h0
  refine' kG_ ?_
  clear kG_
  rw [← e]
  rw [h2] at hlt
  rw [hk]
  simp only [sd, Nat.add_one_ne_zero, if_false, Nat.add_sub_cancel]
  rw [if_neg hlt]
theorem sd_zero {new p : Int} {xs ys : List Int} (h0 : ¬ 0 < p) (e : sd new p.toNat xs p.toNat = ys) : xs.set p.toNat new = ys := by
  rw [← e]
  have : p.toNat = 0 := by (first | lia | omega)
  rw [this]; rfl

/-- siftup from 0: the way down -/
noncomputable def suL (n : Nat) : Nat → List Int → Nat → List Int × Nat
  | 0, xs, pos => (xs, pos)
  | f + 1, xs, pos =>
    if 2 * pos + 1 < n then
      if 2 * pos + 2 < n ∧ ¬ xs.getD (2 * pos + 1) 0 < xs.getD (2 * pos + 2) 0 then suL n f (xs.set pos (xs.getD (2 * pos + 2) 0)) (2 * pos + 2)
      else suL n f (xs.set pos (xs.getD (2 * pos + 1) 0)) (2 * pos + 1)
    else (xs, pos)
noncomputable def suF (xs : List Int) : List Int :=
  let r := suL xs.length xs.length xs 0
  sd (xs.getD 0 0) r.2 (r.1.set r.2 (xs.getD 0 0)) r.2
noncomputable def pushF (xs : List Int) (x : Int) : List Int := sd x xs.length (xs ++ [x]) xs.length
noncomputable def popV (xs : List Int) : Int := if xs.length = 1 then xs.getLastD 0 else xs.getD 0 0
noncomputable def popF (xs : List Int) : List Int := if xs.length = 1 then [] else suF (xs.dropLast.set 0 (xs.getLastD 0))
theorem suL_fuel (n : Nat) : ∀ (f g : Nat) (xs : List Int) (pos : Nat), n - pos ≤ f → n - pos ≤ g → suL n f xs pos = suL n g xs pos
  | 0, 0, _, _, _, _ => rfl
  | 0, g + 1, xs, pos, h, _ => by simp only [suL]; rw [if_neg (by (first | lia | omega))]
  | f + 1, 0, xs, pos, _, h => by simp only [suL]; rw [if_neg (by (first | lia | omega))]
  | f + 1, g + 1, xs, pos, h1, h2 => by
    simp only [suL]
    split
    · split
      · exact suL_fuel n f g _ _ (by (first | lia | omega)) (by (first | lia | omega))
      · exact suL_fuel n f g _ _ (by (first | lia | omega)) (by (first | lia | omega))
    · rfl
theorem suL_length (n : Nat) : ∀ (f : Nat) (xs : List Int) (pos : Nat), (suL n f xs pos).1.length = xs.length
  | 0, _, _ => rfl
  | f + 1, xs, pos => by
    simp only [suL]
    split
    · split <;> (rw [suL_length n f]; simp)
    · rfl
theorem suL_lt (n : Nat) : ∀ (f : Nat) (xs : List Int) (pos : Nat), pos < n → (suL n f xs pos).2 < n
  | 0, _, _, h => h
  | f + 1, xs, pos, h => by
    simp only [suL]
    split
    · split
      · exact suL_lt n f _ _ (by omega)
      · exact suL_lt n f _ _ (by omega)
    · exact h
theorem su_n1 {p : Int} (hp : 0 ≤ p) : (2 * p + 1).toNat = 2 * p.toNat + 1 ∧ (2 * p + 1 + 1).toNat = 2 * p.toNat + 2 := by
  refine' hid fun kG_ => ?_
  obtain ⟨k, rfl⟩ := Int.eq_ofNat_of_zero_le hp
  refine' kG_ ?_
  clear kG_
  rw [Int.toNat_natCast]
  exact ⟨rfl, rfl⟩
theorem su_n2 {n : Nat} {p : Int} (hp : 0 ≤ p) (h : 2 * p + 1 < (n : Int)) : 2 * p.toNat + 1 < n ∧ ∃ k, n - p.toNat = k + 1 := by
  refine' hid fun kG_ => ?_
  obtain ⟨k, rfl⟩ := Int.eq_ofNat_of_zero_le hp
  refine' kG_ ?_
  clear kG_
  rw [Int.toNat_natCast]
  exact ⟨by (first | lia | omega), n - k - 1, by (first | lia | omega)⟩
theorem su_n3 {n p k c : Nat} (h : n - p = k + 1) (hc : p < c) : n - c ≤ k := by omega
theorem suL_right {n : Nat} {p : Int} {xs : List Int} {r : List Int × Nat} (hp : 0 ≤ p) (h1 : 2 * p + 1 + 1 < (n : Int)) (hlt : ¬ xs.getD (2 * p + 1).toNat 0 < xs.getD (2 * p + 1 + 1).toNat 0) (e : suL n (n - p.toNat) xs p.toNat = r) :
    suL n (n - (2 * p + 1 + 1).toNat) (xs.set p.toNat (xs.getD (2 * p + 1 + 1).toNat 0)) (2 * p + 1 + 1).toNat = r := by
  refine' hid fun kG_ => ?_
  obtain ⟨e1, e2⟩ := su_n1 hp
  obtain ⟨g1, k, hk⟩ := su_n2 hp (Int.lt_trans (Int.lt_succ _) h1)
  refine' kG_ ?_
  clear kG_
  have g2 : 2 * p.toNat + 2 < n := by (first | lia | omega)
  generalize p.toNat = q at *
  rw [e1, e2] at hlt
  rw [e2, ← e, hk]
  simp only [suL]
  rw [if_pos g1, if_pos ⟨g2, hlt⟩]
  exact suL_fuel _ _ _ _ _ (Nat.le_refl _) (su_n3 hk (by (first | lia | omega)))
theorem suL_left {n : Nat} {p : Int} {xs : List Int} {r : List Int × Nat} (hp : 0 ≤ p) (h1 : 2 * p + 1 < (n : Int)) (hlt : ¬ (2 * p + 1 + 1 < (n : Int)) ∨ xs.getD (2 * p + 1).toNat 0 < xs.getD (2 * p + 1 + 1).toNat 0) (e : suL n (n - p.toNat) xs p.toNat = r) :
    suL n (n - (2 * p + 1).toNat) (xs.set p.toNat (xs.getD (2 * p + 1).toNat 0)) (2 * p + 1).toNat = r := by
  refine' hid fun kG_ => ?_
  obtain ⟨e1, e2⟩ := su_n1 hp
  obtain ⟨g1, k, hk⟩ := su_n2 hp h1
  refine' kG_ ?_
  clear kG_
  have g2 : ¬ 2 * p + 1 + 1 < (n : Int) → ¬ 2 * p.toNat + 2 < n := by (first | lia | omega)
  generalize p.toNat = q at *
  rw [e1, e2] at hlt
  rw [e1, ← e, hk]
  simp only [suL]
  rw [if_pos g1, if_neg (fun h => hlt.elim (fun z => g2 z h.1) (fun z => h.2 z))]
  exact suL_fuel _ _ _ _ _ (Nat.le_refl _) (su_n3 hk (by (first | lia | omega)))
theorem suL_done {n : Nat} {p : Int} {xs : List Int} {r : List Int × Nat} (hp : 0 ≤ p) (h1 : ¬ 2 * p + 1 < (n : Int)) (e : suL n (n - p.toNat) xs p.toNat = r) : r = (xs, p.toNat) := by
  rw [← e]
  cases n - p.toNat with
  | zero => rfl
  | succ k => simp only [suL]; rw [if_neg (by (first | lia | omega))]
theorem push_eq (xs : List Int) (x : Int) (p : Int) (hp : p.toNat = xs.length) : sd ((xs ++ [x]).getD p.toNat 0) p.toNat (xs ++ [x]) p.toNat = pushF xs x := by
  rw [hp]
  have e : (xs ++ [x]).getD xs.length 0 = x := by simp [List.getD]
  rw [e]; rfl
theorem suL_rightC {n : Nat} {p c : Int} {xs : List Int} {r : List Int × Nat} (hc : c = 2 * p + 1) (hp : 0 ≤ p) (h1 : c + 1 < (n : Int)) (hlt : ¬ xs.getD c.toNat 0 < xs.getD (c + 1).toNat 0) (e : suL n (n - p.toNat) xs p.toNat = r) :
    suL n (n - (c + 1).toNat) (xs.set p.toNat (xs.getD (c + 1).toNat 0)) (c + 1).toNat = r := by
  subst hc; exact suL_right hp h1 hlt e
theorem suL_leftC {n : Nat} {p c : Int} {xs : List Int} {r : List Int × Nat} (hc : c = 2 * p + 1) (hp : 0 ≤ p) (h1 : c < (n : Int)) (hlt : ¬ (c + 1 < (n : Int)) ∨ xs.getD c.toNat 0 < xs.getD (c + 1).toNat 0) (e : suL n (n - p.toNat) xs p.toNat = r) :
    suL n (n - c.toNat) (xs.set p.toNat (xs.getD c.toNat 0)) c.toNat = r := by
  subst hc; exact suL_left hp h1 hlt e
theorem suL_doneC {n : Nat} {p c : Int} {xs : List Int} {r : List Int × Nat} (hc : c = 2 * p + 1) (hp : 0 ≤ p) (h1 : ¬ c < (n : Int)) (e : suL n (n - p.toNat) xs p.toNat = r) : r = (xs, p.toNat) := by
  subst hc; exact suL_done hp h1 e
theorem su_end {p c new : Int} {xs ys : List Int} (hc : c = 2 * p + 1) (hp : 0 ≤ p) (h1 : ¬ c < (xs.length : Int)) (e : suL xs.length (xs.length - p.toNat) ys p.toNat = suL xs.length xs.length xs 0) (hl : ys.length = xs.length) (hp1 : p < xs.length) (hn : new = xs.getD 0 0) :
    sd ((ys.set p.toNat new).getD p.toNat 0) p.toNat (ys.set p.toNat new) p.toNat = suF xs := by
  have q := suL_doneC hc hp h1 e
  have g : (ys.set p.toNat new).getD p.toNat 0 = new := by
    have : p.toNat < ys.length := by (first | lia | omega)
    simp [List.getD, this]
  rw [g, hn]
  simp only [suF, q]
theorem suF_length (xs : List Int) : (suF xs).length = xs.length := by
  simp only [suF, sd_length, List.length_set, suL_length]
theorem pushF_length (xs : List Int) (x : Int) : (pushF xs x).length = xs.length + 1 := by
  simp [pushF, sd_length]
theorem popF_length (xs : List Int) (h : 0 < xs.length) : (popF xs).length = xs.length - 1 := by
  unfold popF
  split
  · simp_all
  · simp [suF_length]
theorem pop_eq1 {xs : List Int} (h : ¬ 0 < xs.dropLast.length) (h2 : 0 < xs.length) : popV xs = xs.getLastD 0 ∧ popF xs = xs.dropLast := by
  have e : xs.length = 1 := by simp at h; (first | lia | omega)
  have d : xs.dropLast = [] := List.eq_nil_of_length_eq_zero (by simp [e])
  simp [popV, popF, e, d]
theorem pop_eq2 {xs : List Int} (h : 0 < xs.dropLast.length) : popV xs = xs.dropLast.getD 0 0 ∧ popF xs = suF (xs.dropLast.set 0 (xs.getLastD 0)) := by
  have e : xs.length ≠ 1 := by simp at h; omega
  have g : xs.dropLast.getD 0 0 = xs.getD 0 0 := by
    match xs, h with
    | a :: b :: r, _ => simp [List.getD]
  simp only [popV, popF, if_neg e, g, and_self]

end
section
/-! enumerate over a tuple, and a for with an else -/
section
variable {prog : Program} {w : World} {A : Around} {E : Value → Shared → Prop} {s : Shared}

theorem nextOf_tup_item {it l : Addr} {i : Nat} {items : Array Value} {x : Value} {Q : Value → Shared → Prop} (hit : s.heap.IsTupleIter it l i)
    (hl : s.heap.IsTuple l items) (hx : items[i]? = some x)
    (hQ : ∀ h', h'.IsTupleIter it l (i + 1) → Heap.SameBut it s.heap h' → Q x { s with heap := h' }) :
    wpAny (model prog w) A (Builtin.SmallTypes.nextOf (.ref it)) Q E s := by
  refine' hid fun kG_ => ?_
  obtain ⟨o, ho, hc, hd⟩ := id hit
  obtain ⟨ol, hol, _, nl, hdl⟩ := hl
  refine' kG_ ?_
  clear kG_
  unfold Builtin.SmallTypes.nextOf
  refine wpAny_bind (wpAny_callSpecial?_slot (name := Str.ofString "__next__") hit.typeIs PySem.F.slot_tuple_iterator_next
    (wpAny_call_entry PySem.F.slot_tuple_iterator_next hit.typeIs PySem.F.entry_tuple_iterator_next ?_ (PySem.F.args_tuple_iterator_next_1 _)))
  show wpAny _ _ (field (.ref it) 0 >>= _) _ _ s
  refine wpAny_bind (wpAny_field ho hd (x := .ref l) rfl ?_)
  show wpAny _ _ (if (Value.ref l == Value.none) = true then _ else _) _ _ s
  rw [if_neg (show ¬ ((Value.ref l == Value.none) = true) from Bool.false_ne_true)]
  show wpAny _ _ (field (.ref it) 1 >>= _) _ _ s
  refine wpAny_bind (wpAny_field ho hd (x := .int i 0) rfl ?_)
  show wpAny _ _ (seqItems? (.ref l) >>= _) _ _ s
  refine wpAny_bind (wpAny_seqItems hol hdl ?_)
  simp only [Int.toNat_natCast, hx]
  refine wpAny_bind (wpAny_setField ho hd (by simp) (wpAny_pure ⟨x, rfl, wpAny_pure (hQ _ ?_ (Heap.SameBut.update ..))⟩))
  exact ⟨_, Heap.get?_update_self _ ho (Obj.isFreed_of_fields (Obj.data_mapFields hd _)), (Obj.cls_mapFields ..).trans hc, by
    rw [Obj.data_mapFields hd]; simp [rawInt]⟩

theorem nextOf_tup_end {it l : Addr} {i : Nat} {items : Array Value} {Q : Value → Shared → Prop} (hh : A.handled = none)
    (hit : s.heap.IsTupleIter it l i) (hl : s.heap.IsTuple l items) (hx : items[i]? = none)
    (hE : ∀ h' e, Heap.ExtBut it s.heap h' → (∃ o, h'.get? e = some o ∧ o.cls = .type "StopIteration") → E (.ref e) { s with heap := h' }) :
    wpAny (model prog w) A (Builtin.SmallTypes.nextOf (.ref it)) Q E s := by
  refine' hid fun kG_ => ?_
  obtain ⟨o, ho, hc, hd⟩ := id hit
  obtain ⟨ol, hol, _, nl, hdl⟩ := hl
  refine' kG_ ?_
  clear kG_
  unfold Builtin.SmallTypes.nextOf
  refine wpAny_bind (wpAny_callSpecial?_slot (name := Str.ofString "__next__") hit.typeIs PySem.F.slot_tuple_iterator_next
    (wpAny_call_entry PySem.F.slot_tuple_iterator_next hit.typeIs PySem.F.entry_tuple_iterator_next ?_ (PySem.F.args_tuple_iterator_next_1 _)))
  show wpAny _ _ (field (.ref it) 0 >>= _) _ _ s
  refine wpAny_bind (wpAny_field ho hd (x := .ref l) rfl ?_)
  show wpAny _ _ (if (Value.ref l == Value.none) = true then _ else _) _ _ s
  rw [if_neg (show ¬ ((Value.ref l == Value.none) = true) from Bool.false_ne_true)]
  show wpAny _ _ (field (.ref it) 1 >>= _) _ _ s
  refine wpAny_bind (wpAny_field ho hd (x := .int i 0) rfl ?_)
  show wpAny _ _ (seqItems? (.ref l) >>= _) _ _ s
  refine wpAny_bind (wpAny_seqItems hol hdl ?_)
  simp only [Int.toNat_natCast, hx]
  refine wpAny_bind (wpAny_rule (wpAny_bind (wpAny_setField ho hd (by simp) ?_)))
  show wpAny _ _ (newExc (.type "StopIteration") [] >>= _) _ _ _
  refine wpAny_bind ?_
  simp only [newExc, newTuple]
  refine wpAny_bind (wpAny_newObj_type ?_ (by size_fits))
  refine wpAny_bind (m := firstArgMember _ _) (wpAny_of_eq (a := Value.none) (by first | rfl | (simp only [firstArgMember]; rfl)) ?_)
  refine wpAny_newObj_type ?_ (by size_fits)
  simp only [raiseNew]
  refine wpAny_bind (wpAny_handled ?_)
  first | rw [show A.in1.handled = none from hh] | rw [hh]
  refine wpAny_bind (wpAny_pure (wpAny_throw ?_))
  exact hE _ _ (((Heap.SameBut.update ..).extBut.push _).push _) ⟨_, Heap.get?_push_size _ rfl, rfl⟩
end

theorem draws_tup {prog : Program} {w : World} {A : Around} (hh : A.handled = none) (it l : Addr) (hne : l ≠ it) (items : Array Value) :
    Draws prog w A it [it, l] items.size (fun i v => items[i]? = some v) (fun i h => h.IsTupleIter it l i ∧ h.IsTuple l items) where
  live := fun _ _ st => let ⟨o, ho, _⟩ := st.1; ⟨o, ho⟩
  frame := fun _ _ _ st hk => ⟨st.1.at fun o e => hk it (by simp) o e, st.2.at fun o e => hk l (by simp) o e⟩
  item := fun i s Q E hi st hQ => by
    refine nextOf_tup_item st.1 st.2 (x := items[i]) (by simp [hi]) fun h' hit' hs' => ?_
    exact hQ _ h' s.toks (by simp [hi]) ⟨hit', st.2.extBut hs'.extBut hne⟩ hs'
  done := fun s Q E st hE => nextOf_tup_end hh st.1 st.2 (by simp) hE

section
open PySem.AutoSeq1 (wpAny_loadPart')
set_option maxHeartbeats 1000000 in
theorem meets_enum_newT (l : Addr) (items : Array Value) (n : Nat) (dct : Option Addr) (sl : Array (Option Value)) :
    Meets (Builtin.«enumerate.__new__» ⟨[.type "enumerate", .ref l], []⟩) (fun _ R s => s.heap.get? l = some { cls := .type "tuple", dict := dct, data := .seq items n, slots := sl } ∧
      R (.ok (.ret (.ref (s.heap.push { cls := .type "tuple_iterator", data := .fields #[.ref l, .int 0 0] }).objs.size)))
        { s with heap := (s.heap.push { cls := .type "tuple_iterator", data := .fields #[.ref l, .int 0 0] }).push { cls := .type "enumerate", data := .fields #[.none, .bool false, .ref s.heap.objs.size, rawInt 0, .none, .none] } }) :=
  .of_wp fun prog w A R s h => by
    obtain ⟨hp, g, d, tk, os⟩ := s; obtain ⟨hl, h⟩ := h
    have hsub := sub_enumerate
    have hL : Heap.IsTuple (Shared.heap ⟨hp, g, d, tk, os⟩) l items := ⟨_, hl, rfl, n, rfl⟩
    wp_walk using wpAny_loadPart' hl
    refine wpAny_stack_any fun st => wpAny_pure ?_
    split
    · rename_i c _ _ _ _ _
      cases (c == Value.type "enumerate")
      · wp_walk using wpAny_loadPart' hl, wpAny_pyIter_tuple hL
        exact ⟨_, rfl, h⟩
      · wp_walk using wpAny_loadPart' hl, wpAny_pyIter_tuple hL
        exact ⟨_, rfl, h⟩
    · wp_walk using wpAny_loadPart' hl, wpAny_pyIter_tuple hL
      exact ⟨_, rfl, h⟩
end
section
variable {prog : Program} {w : World} {A : Around} {E : Value → Shared → Prop} {s : Shared}
theorem call_enum_tup {l : Addr} {items : Array Value} {Q : Value → Shared → Prop} (hL : s.heap.IsTuple l items)
    (h : ∀ h', IsEnum h' (s.heap.objs.size + 1) s.heap.objs.size 0 .none → h'.IsTupleIter s.heap.objs.size l 0 → h'.objs.size = s.heap.objs.size + 2 →
      (∀ b o, s.heap.get? b = some o → h'.get? b = some o) → Q (.ref (s.heap.objs.size + 1)) { s with heap := h' }) :
    wpAny (model prog w) A (call (.type "enumerate") [.ref l]) Q E s := by
  refine' hid fun kG_ => ?_
  obtain ⟨⟨c, dct, dt, sl⟩, hl, hc, n, hd⟩ := hL
  refine' kG_ ?_
  clear kG_
  replace hc : c = .type "tuple" := hc
  replace hd : dt = .seq items n := hd
  subst hc hd
  refine callType_new PySem.F.called_enumerate (by decide) (PySem.F.typeCall_enumerate_1 _) (PySem.F.newCall_enumerate_1 _) (fun obj => PySem.F.args_object_init_2 obj _) PySem.F.entry_enumerate_new
    (meets_enum_newT l items n dct sl) ⟨hl, ?_⟩
  have hz : (s.heap.push { cls := .type "tuple_iterator", data := .fields #[.ref l, .int 0 0] }).objs.size = s.heap.objs.size + 1 := Heap.size_push ..
  show _ ∧ _
  rw [hz]
  have he : IsEnum ((s.heap.push { cls := .type "tuple_iterator", data := .fields #[.ref l, .int 0 0] }).push
      { cls := .type "enumerate", data := .fields #[.none, .bool false, .ref s.heap.objs.size, rawInt 0, .none, .none] }) (s.heap.objs.size + 1) s.heap.objs.size 0 .none := by
    have := Heap.get?_push_size (s.heap.push { cls := .type "tuple_iterator", data := .fields #[.ref l, .int 0 0] })
      (o := { cls := .type "enumerate", data := .fields #[.none, .bool false, .ref s.heap.objs.size, rawInt 0, .none, .none] }) rfl
    rw [hz] at this; exact this
  refine ⟨⟨_, he, rfl⟩, h _ he ⟨_, Heap.get?_push_of_some _ (Heap.get?_push_size _ rfl), rfl, rfl⟩ (by rw [Heap.size_push, hz]) fun b o x => Heap.get?_push_of_some _ (Heap.get?_push_of_some _ x)⟩
end

section
variable {prog : Program} {w : World} {A : Around} {E : Value → Shared → Prop} {s : Shared} {env : Env} {h₀ : Heap} {body : List Stmt} {Q : Flow → Shared → Prop}

noncomputable def EnumEnd (h₀ : Heap) (L : Addr) (s : Shared) (own : List (Addr × Obj)) (Jn : (Str → Option Value) → List (Addr × Obj) → Prop) (s₃ : Shared) : Prop :=
  ∃ h' tk' m' news', s₃ = { s with heap := h', toks := tk' } ∧ Fr h₀ L h' m' ∧ News h₀ L h' (own ++ news') ∧ (∀ p ∈ news', ∀ q ∈ own, q.1 ≠ p.1) ∧ Jn m' news'
theorem EnumEnd.intro {L : Addr} {own news' all : List (Addr × Obj)} {Jn : (Str → Option Value) → List (Addr × Obj) → Prop} {h' : Heap} {tk' : Nat} {m' : Str → Option Value} (F : Fr h₀ L h' m') (N : News h₀ L h' all) (hs : ∀ p ∈ own ++ news', p ∈ all)
    (ho : ∀ p ∈ news', ∀ q ∈ own, q.1 ≠ p.1) (hJ : Jn m' news') : EnumEnd h₀ L s own Jn { s with heap := h', toks := tk' } := ⟨h', tk', m', news', rfl, F, fun p hp => N p (hs p hp), ho, hJ⟩
noncomputable def ElseEnd (h₀ : Heap) (L : Addr) (s : Shared) (led : List (Addr × Obj)) (Jn : (Str → Option Value) → Prop) (s₃ : Shared) : Prop :=
  ∃ h' tk' m', s₃ = { s with heap := h', toks := tk' } ∧ Fr h₀ L h' m' ∧ News h₀ L h' led ∧ Jn m'
theorem ElseEnd.intro {L : Addr} {led all : List (Addr × Obj)} {Jn : (Str → Option Value) → Prop} {h' : Heap} {tk' : Nat} {m' : Str → Option Value} (F : Fr h₀ L h' m') (N : News h₀ L h' all) (hs : ∀ p ∈ led, p ∈ all)
    (hJ : Jn m') : ElseEnd h₀ L s led Jn { s with heap := h', toks := tk' } := ⟨h', tk', m', rfl, F, fun p hp => N p (hs p hp), hJ⟩

/-- enumerate over a tuple that stood ahead of the frame, by an invariant -/
theorem enum_tup_inv {elts : List PySem.Expr} {k : Nat} {pos : Pos} {l : Addr} {items : Array Value} {m₀ : Str → Option Value} {news : List (Addr × Obj)}
    (J : Nat → (Str → Option Value) → List (Addr × Obj) → Prop)
    (hh : A.handled = none) (F : Fr h₀ env.locals s.heap m₀) (N : News h₀ env.locals s.heap news) (hl : h₀.IsTuple l items) (h0 : J 0 m₀ news)
    (step : ∀ i x T t m₁ news₁ h tk own, items[i]? = some x → J i m₁ news₁ → (∀ p ∈ news₁, ∀ q ∈ own, q.1 ≠ p.1) → h.IsTuple T #[.int (i : Int) t, x] → Fr h₀ env.locals h m₁ → News h₀ env.locals h (own ++ news₁) →
      wpAny (model prog w) A (assign (.Tuple elts k pos) env (.ref T)) (fun _ s₂ => wpAny (model prog w) A (execs body env) (fun f s₃ => match f with
        | .ret v => Q (.ret v) s₃
        | .brk => Q .next s₃
        | _ => EnumEnd h₀ env.locals s own (J (i + 1)) s₃) E s₂) E { s with heap := h, toks := tk })
    (done : ∀ h' tk m' news', Fr h₀ env.locals h' m' → News h₀ env.locals h' news' → J items.size m' news' → Q .next { s with heap := h', toks := tk }) :
    wpAny (model prog w) A (call (.type "enumerate") [.ref l]) (fun xv s₁ => wpAny (model prog w) A (pyIter xv) (fun it s₂ => TurnsAt prog w A h₀ env (.Tuple elts k pos) body Q E it s₂) E s₁) E s := by
  have hls : s.heap.IsTuple l items := hl.at fun o e => F.keep l o e
  refine' hid fun kG_ => ?_
  obtain ⟨ol, hol, _⟩ := id hl
  refine' kG_ ?_
  clear kG_
  have hlt : l < s.heap.objs.size := Heap.lt_size (F.keep _ _ hol)
  have hLs : env.locals < s.heap.objs.size := F.ns.lt
  refine call_enum_tup hls fun h' hE hI hsz hk => ?_
  refine wpAny_pyIter_enum hE ?_
  have W := (WalksT.enumerateD (draws_tup (prog := prog) (w := w) (A := A.in1) hh s.heap.objs.size l (Nat.ne_of_lt hlt) items) (s.heap.objs.size + 1) (Nat.succ_ne_self _) (by
    intro hm
    rcases List.mem_cons.mp hm with e | hm
    · exact Nat.succ_ne_self _ e
    · exact Nat.ne_of_gt (Nat.lt_succ_of_lt hlt) (List.mem_singleton.mp hm)) (by simp)).toU
  have F' : Fr h₀ env.locals h' m₀ := ⟨F.ns.keeps hk, fun b o e => hk b o (F.keep b o e), F.above⟩
  have N' : News h₀ env.locals h' news := fun p hp => ⟨hk _ _ (N p hp).1, (N p hp).2⟩
  have hnone : ∀ b, s.heap.objs.size ≤ b → h₀.get? b = none := fun b hb => ktu_new F hb
  have wrof : ∀ b, b ∈ [s.heap.objs.size + 1, s.heap.objs.size] → s.heap.objs.size ≤ b := fun b hb => by
    rcases List.mem_cons.mp hb with e | hb
    · rw [e]; exact Nat.le_succ _
    · rw [List.mem_singleton.mp hb]; exact Nat.le_refl _
  refine ⟨s.heap.objs.size + 1, [s.heap.objs.size + 1, s.heap.objs.size, l], [s.heap.objs.size + 1, s.heap.objs.size], items.size, _, _, _, m₀, news, J, rfl, KTurns.ofWalksU W, ?_, fun b hb => hnone b (wrof b hb), ?_, ⟨⟨_, hE⟩, hI, hls.at fun o e => hk _ _ e⟩, F', N', h0, ?_, ?_⟩
  · intro hm
    rcases List.mem_cons.mp hm with e | hm
    · exact Nat.ne_of_lt (Nat.lt_succ_of_lt hLs) e
    · rcases List.mem_cons.mp hm with e | hm
      · exact Nat.ne_of_lt hLs e
      · have e := List.mem_singleton.mp hm
        exact absurd (Nat.lt_of_lt_of_le (Heap.lt_size hol) F.above) (e ▸ Nat.lt_irrefl _)
  · intro p hp hm
    exact absurd (Heap.lt_size (N p hp).1) (Nat.not_lt.mpr (wrof _ hm))
  · intro i v m₁ news₁ h₁ tk₁ own hi hP hJ hoff hown hget hall hst F₁ N₁
    refine' hid fun kG_ => ?_
    obtain ⟨T, vals, rfl, ⟨t, x, hx, rfl⟩, hT⟩ := hP
    refine' kG_ ?_
    clear kG_
    have hown' : ∀ q ∈ own, q.1 ∈ [s.heap.objs.size + 1, s.heap.objs.size] := fun q hq => by
      have h1 := hown q hq
      rcases List.mem_cons.mp h1 with e | h1
      · rw [e]; exact List.mem_cons_self ..
      · rcases List.mem_cons.mp h1 with e | h1
        · rw [e]; exact List.mem_cons_of_mem _ (List.mem_cons_self ..)
        · have e := List.mem_singleton.mp h1
          have hn := (N₁ q (List.mem_append_left _ hq)).2.2
          rw [e, hol] at hn; cases hn
    refine wpAny_mono (step i x T t m₁ news₁ h₁ tk₁ own hx hJ (fun p hp q hq e => hoff p hp (e ▸ hown' q hq)) hT F₁ N₁) (fun _ s₂ hs₂ => wpAny_mono hs₂ (fun f s₃ hf => ?_) fun _ _ e => e) fun _ _ e => e
    have hoff2 : ∀ news' : List (Addr × Obj), News h₀ env.locals s₃.heap (own ++ news') → (∀ p ∈ news', ∀ q ∈ own, q.1 ≠ p.1) → ∀ p ∈ news', p.1 ∉ [s.heap.objs.size + 1, s.heap.objs.size] := by
      intro news' N' ho p hp hm
      obtain ⟨o, ho'⟩ : ∃ o, h₁.get? p.1 = some o := by
        rcases List.mem_cons.mp hm with e | hm
        · refine' hid fun kG_ => ?_
          obtain ⟨⟨old, q⟩, _⟩ := hst
          refine' kG_ ?_
          clear kG_
          exact ⟨_, e ▸ q⟩
        · have e := List.mem_singleton.mp hm
          refine' hid fun kG_ => ?_
          obtain ⟨_, ⟨o, q, _⟩, _⟩ := hst
          refine' kG_ ?_
          clear kG_
          exact ⟨o, e ▸ q⟩
      have hfp : p.1 ∈ [s.heap.objs.size + 1, s.heap.objs.size, l] := by
        rcases List.mem_cons.mp hm with e | hm
        · rw [e]; exact List.mem_cons_self ..
        · rw [List.mem_singleton.mp hm]; exact List.mem_cons_of_mem _ (List.mem_cons_self ..)
      have hq := hall p.1 hfp (hnone _ (wrof _ hm)) o ho'
      exact ho p hp _ hq rfl
    cases f with
    | ret v => exact hf
    | brk => exact hf
    | next =>
      refine' hid fun kG_ => ?_
      obtain ⟨h', tk', m', news', e, F'', N'', ho, hj⟩ := hf
      refine' kG_ ?_
      clear kG_
      exact ⟨rfl, h', tk', m', news', e, F'', N'', hoff2 news' (by rw [e]; exact N'') ho, hj⟩
    | cont =>
      refine' hid fun kG_ => ?_
      obtain ⟨h', tk', m', news', e, F'', N'', ho, hj⟩ := hf
      refine' kG_ ?_
      clear kG_
      exact ⟨rfl, h', tk', m', news', e, F'', N'', hoff2 news' (by rw [e]; exact N'') ho, hj⟩
  · intro h'' tk m' news' F'' N'' _ hJ
    exact done h'' tk m' news' F'' N'' hJ

/-- a for with an else over a tuple that stood ahead of the frame, by an invariant; what the turns make is forgotten but for m -/
theorem forElse_tup {target : PySem.Expr} {iter : PySem.Expr} {orelse : List Stmt} {pos : Pos} {l : Addr} {items : Array Value} {m₀ : Str → Option Value} {news : List (Addr × Obj)}
    (J : Nat → (Str → Option Value) → Prop)
    (hh : A.handled = none) (F : Fr h₀ env.locals s.heap m₀) (N : News h₀ env.locals s.heap news) (hl : h₀.IsTuple l items) (h0 : J 0 m₀)
    (hit : ∀ Q' : Value → Shared → Prop, Q' (.ref l) s → wpAny (model prog w) A (eval iter env) Q' E s)
    (step : ∀ i x m₁ h tk I o, items[i]? = some x → J i m₁ → (∀ p ∈ news, p.1 < I) → Fr h₀ env.locals h m₁ → News h₀ env.locals h ((I, o) :: news) →
      wpAny (model prog w) A (assign target env x) (fun _ s₂ => wpAny (model prog w) A (execs body env) (fun f s₃ => match f with
        | .ret v => Q (.ret v) s₃
        | .brk => Q .next s₃
        | _ => ElseEnd h₀ env.locals s ((I, o) :: news) (J (i + 1)) s₃) E s₂) E { s with heap := h, toks := tk })
    (done : ∀ h' tk m', Fr h₀ env.locals h' m' → News h₀ env.locals h' news → J items.size m' → wpAny (model prog w) A (execs orelse env) Q E { s with heap := h', toks := tk })
    (hs : ∀ x, foldedSetIterable iter env x = pure x := by intro _; rfl)
    (hE : PassesOwn (model prog w) A env E := by passes_own) :
    wpAny (model prog w) A (exec (.For target iter body orelse pos) env) Q E s := by
  have hls : s.heap.IsTuple l items := hl.at fun o e => F.keep l o e
  refine' hid fun kG_ => ?_
  obtain ⟨ol, hol, _⟩ := id hl
  refine' kG_ ?_
  clear kG_
  have hlt : l < s.heap.objs.size := Heap.lt_size (F.keep _ _ hol)
  have hLs : env.locals < s.heap.objs.size := F.ns.lt
  have hIn : h₀.get? s.heap.objs.size = none := ktu_new F (Nat.le_refl _)
  have W := Walks.tuple (prog := prog) (w := w) (A := A) hh s.heap.objs.size l (Nat.ne_of_lt hlt) items
  refine wpAny_For (hit _ ?_) hs
  refine wpAny_pyIter_tuple hls ?_
  refine codeAny_forLoop_any (fun k s' => ∃ h' tk m' i, s' = { s with heap := h', toks := tk } ∧ (h'.IsTupleIter s.heap.objs.size l i ∧ h'.IsTuple l items) ∧ Fr h₀ env.locals h' m' ∧ News h₀ env.locals h' news ∧ J i m' ∧ i ≤ items.size ∧ k = items.size + 1 - i) ?_ (items.size + 1)
    ⟨_, s.toks, m₀, 0, rfl, ⟨⟨_, Heap.get?_push_size _ rfl, rfl, rfl⟩, hls.push _⟩, F.push _, fun p hp => ⟨Heap.get?_push_of_some _ (N p hp).1, (N p hp).2⟩, h0, Nat.zero_le _, rfl⟩
  intro k s' hJ_
  refine' hid fun kG_ => ?_
  obtain ⟨h', tk, m', i, rfl, hst', F', N', hJ, hi, rfl⟩ := hJ_
  refine' kG_ ?_
  clear kG_
  have hne : ∀ b o, h₀.get? b = some o → b ≠ s.heap.objs.size := fun b o e q => by rw [q, hIn] at e; cases e
  have next : ∀ h₁ : Heap, (∀ b o, b ∉ [s.heap.objs.size] → h'.get? b = some o → h₁.get? b = some o) → Fr h₀ env.locals h₁ m' ∧ News h₀ env.locals h₁ news := fun h₁ hk₁ =>
    ⟨⟨F'.ns.at' fun o e => hk₁ _ o (fun q => Nat.ne_of_lt hLs (List.mem_singleton.mp q)) e, fun b o e => hk₁ b o (fun q => hne b o e (List.mem_singleton.mp q)) (F'.keep b o e), F'.above⟩,
     fun p hp => ⟨hk₁ _ _ (fun q => absurd (Heap.lt_size (N p hp).1) (by rw [List.mem_singleton.mp q]; exact Nat.lt_irrefl _)) (N' p hp).1, (N' p hp).2⟩⟩
  by_cases hlt' : i < items.size
  · refine W.item i _ _ _ hlt' hst' fun v h₁ tk₁ hv hst₁ hk₁ => ?_
    refine letGo_tupleiter hst₁.1 ?_
    refine' hid fun kG_ => ?_
    obtain ⟨F₁, N₁⟩ := next h₁ hk₁
    obtain ⟨o, ho, hor⟩ := id hst₁.1
    refine' kG_ ?_
    clear kG_
    have N₂ : News h₀ env.locals h₁ ((s.heap.objs.size, o) :: news) := fun p hp => by
      rcases List.mem_cons.mp hp with rfl | hp
      · exact ⟨ho, Nat.ne_of_gt hLs, hIn⟩
      · exact N₁ p hp
    refine wpAny_mono (step i v m' h₁ tk₁ _ o hv hJ (fun p hp => Heap.lt_size (N p hp).1) F₁ N₂) (fun _ s₂ h₂' => wpAny_mono h₂' (fun f s₃ h₃ => ?_) hE) hE
    cases f with
    | ret v => exact h₃
    | brk => exact h₃
    | cont =>
      refine' hid fun kG_ => ?_
      obtain ⟨h₃', tk₃, m₂, rfl, F₃, N₃, hJ₃⟩ := h₃
      refine' kG_ ?_
      clear kG_
      refine ⟨items.size + 1 - (i + 1), by (first | lia | omega), h₃', tk₃, m₂, i + 1, rfl, ⟨⟨o, (N₃ _ (List.mem_cons_self ..)).1, hor⟩, hl.at fun o e => F₃.keep _ _ e⟩, F₃, fun p hp => N₃ p (List.mem_cons_of_mem _ hp), hJ₃, hlt', rfl⟩
    | next =>
      refine' hid fun kG_ => ?_
      obtain ⟨h₃', tk₃, m₂, rfl, F₃, N₃, hJ₃⟩ := h₃
      refine' kG_ ?_
      clear kG_
      refine ⟨items.size + 1 - (i + 1), by (first | lia | omega), h₃', tk₃, m₂, i + 1, rfl, ⟨⟨o, (N₃ _ (List.mem_cons_self ..)).1, hor⟩, hl.at fun o e => F₃.keep _ _ e⟩, F₃, fun p hp => N₃ p (List.mem_cons_of_mem _ hp), hJ₃, hlt', rfl⟩
  · have hin : i = items.size := by (first | lia | omega)
    subst hin
    refine W.done _ _ _ hst' fun h₁ tk₁ hk₁ => ?_
    refine' hid fun kG_ => ?_
    obtain ⟨F₁, N₁⟩ := next h₁ hk₁
    refine' kG_ ?_
    clear kG_
    exact wpAny_mono (done h₁ tk₁ m' F₁ N₁ hJ) (fun f s₃ h₃ => h₃) hE
end

end
section
/-! filemode -/
noncomputable def tbl : List (List (Int × Nat)) := [[(40960, 108), (49152, 115), (32768, 45), (24576, 98), (16384, 100), (8192, 99), (4096, 112)], [(256, 114)], [(128, 119)], [(2112, 115), (2048, 83), (64, 120)], [(32, 114)], [(16, 119)], [(1032, 115), (1024, 83), (8, 120)], [(4, 114)], [(2, 119)], [(513, 116), (512, 84), (1, 120)]]
noncomputable def rowHit (mode : Int) (i : Nat) (p : Int × Nat) : Bool := if i = 0 then Builtin.bitAnd mode 61440 == p.1 else Builtin.bitAnd mode p.1 == p.1
noncomputable def rowChar (mode : Int) (i : Nat) (row : List (Int × Nat)) : Nat := match row.find? (rowHit mode i) with
  | some p => p.2
  | none => if i = 0 then 63 else 45
noncomputable def fmChars (mode : Int) : Nat → List Nat
  | 0 => []
  | i + 1 => fmChars mode i ++ [rowChar mode i (tbl.getD i [])]
noncomputable def fmStr (mode : Int) : Str := ⟨(fmChars mode 10).toArray⟩
noncomputable def one (c : Nat) : Str := ⟨#[c]⟩

theorem glue_ones : ∀ (cs : List Nat) (a : Array Nat), (cs.map one).foldl (fun acc p => acc ++ (Str.ofString "").cps ++ p.cps) a = a ++ cs.toArray
  | [], a => by simp
  | c :: r, a => by
    rw [List.map_cons, List.foldl_cons, glue_ones r]
    have e : (Str.ofString "").cps = #[] := by decide +kernel
    rw [e]
    simp [one]
theorem fm_join (mode : Int) : Txt.join (Str.ofString "") ((fmChars mode 10).map one) = fmStr mode := by
  unfold Txt.join Builtin.Str.glued fmStr
  cases h : fmChars mode 10 with
  | nil => rfl
  | cons c r =>
    simp only [List.map_cons, List.drop_succ_cons, List.drop_zero, List.headD_cons]
    rw [glue_ones]
    simp [one]
theorem fm_length (mode : Int) : ∀ i, (fmChars mode i).length = i
  | 0 => rfl
  | i + 1 => by simp [fmChars, fm_length mode i]
theorem strs_snoc {vs : List Value} {ys : List Str} (h : StrsAre vs ys) (y : Str) (t : Tok) : StrsAre (vs ++ [.str y t]) (ys ++ [y]) := by
  induction h with
  | nil => exact .cons y t .nil
  | cons z u _ ih => exact .cons z u ih
theorem fr_known2 {h₀ h : Heap} {L : Addr} {m : Str → Option Value} {x y : Str} {v u : Value} (e : m x = some v) (e2 : m y = some u) (F : Fr h₀ L h m) : Fr h₀ L h (fun z => if z = x then some v else if z = y then some u else m z) := by
  have q : (fun z => if z = x then some v else if z = y then some u else m z) = m := by
    funext z
    by_cases hz : z = x
    · rw [if_pos hz, hz, e]
    · rw [if_neg hz]
      by_cases hz2 : z = y
      · rw [if_pos hz2, hz2, e2]
      · rw [if_neg hz2]
  rw [q]; exact F
theorem fr_known3 {h₀ h : Heap} {L : Addr} {m : Str → Option Value} {x y y3 : Str} {v u u3 : Value} (e : m x = some v) (e2 : m y = some u) (e3 : m y3 = some u3) (F : Fr h₀ L h m) : Fr h₀ L h (fun z => if z = x then some v else if z = y then some u else if z = y3 then some u3 else m z) := by
  have q : (fun z => if z = x then some v else if z = y then some u else if z = y3 then some u3 else m z) = m := by
    funext z
    by_cases hz : z = x
    · rw [if_pos hz, hz, e]
    · rw [if_neg hz]
      by_cases hz2 : z = y
      · rw [if_pos hz2, hz2, e2]
      · rw [if_neg hz2]
        by_cases hz3 : z = y3
        · rw [if_pos hz3, hz3, e3]
        · rw [if_neg hz3]
  rw [q]; exact F
noncomputable def isTupO (o : Obj) : Bool := match o.cls with
  | .type c => c == "tuple"
  | _ => false
noncomputable def seqO (o : Obj) : Option (List Value) := match o.data with
  | .seq items _ => some items.toList
  | _ => none
theorem isTuple_of {h : Heap} {q : Addr} {o : Obj} {vs : List Value} (e : h.get? q = some o) (h1 : isTupO o = true) (h2 : seqO o = some vs) : h.IsTuple q vs.toArray := by
  refine' hid fun kG_ => ?_
  obtain ⟨c, d, dt, sl⟩ := o
  refine' kG_ ?_
  clear kG_
  refine ⟨_, e, ?_, ?_⟩
  · unfold isTupO at h1
    dsimp only at h1 ⊢
    split at h1
    · rw [beq_iff_eq.mp h1]
    · cases h1
  · unfold seqO at h2
    dsimp only at h2 ⊢
    split at h2
    · rename_i items n
      cases h2
      exact ⟨n, by simp⟩
    · cases h2
noncomputable def tupIn (K : Frag) (v : Value) : Option (List Value) := match v with
  | .ref q => (match K.lookup q with
    | some o => if isTupO o then seqO o else none
    | none => none)
  | _ => none
theorem tupIn_of {K : Frag} {h : Heap} (X : K.In h) {v : Value} {vs : List Value} (e : tupIn K v = some vs) : ∃ q, v = .ref q ∧ h.IsTuple q vs.toArray := by
  unfold tupIn at e
  split at e
  · rename_i q
    split at e
    · rename_i o ho
      split at e
      · rename_i h1
        exact ⟨q, rfl, isTuple_of (X _ _ ho) h1 e⟩
      · cases e
    · cases e
  · cases e
noncomputable def pairOk (K : Frag) (v : Value) (p : Int × Nat) : Bool := match tupIn K v with
  | some [.int b _, .str x _] => b == p.1 && x == one p.2
  | _ => false
noncomputable def allOk {β : Type} (f : Value → β → Bool) : List Value → List β → Bool
  | [], [] => true
  | v :: vs, p :: ps => f v p && allOk f vs ps
  | _, _ => false
theorem allOk_len {β : Type} {f : Value → β → Bool} : ∀ {vs : List Value} {ps : List β}, allOk f vs ps = true → vs.length = ps.length
  | [], [], _ => rfl
  | [], _ :: _, h => by cases h
  | _ :: _, [], h => by cases h
  | v :: vs, p :: ps, h => by
    have h' := (Bool.and_eq_true_iff.mp h).2
    simp [allOk_len h']
theorem allOk_at {β : Type} {f : Value → β → Bool} : ∀ {vs : List Value} {ps : List β}, allOk f vs ps = true → ∀ (i : Nat) v, vs[i]? = some v → ∃ p, ps[i]? = some p ∧ f v p = true
  | [], _, _, i, v, h => by simp at h
  | _ :: _, [], h, _, _, _ => by cases h
  | v :: vs, p :: ps, h, 0, u, e => by
    have h' := Bool.and_eq_true_iff.mp h
    simp at e; subst e
    exact ⟨p, rfl, h'.1⟩
  | v :: vs, p :: ps, h, i + 1, u, e => by
    have h' := Bool.and_eq_true_iff.mp h
    have := allOk_at h'.2 i u (by simpa using e)
    simpa using this
noncomputable def rowOk (K : Frag) (v : Value) (row : List (Int × Nat)) : Bool := match tupIn K v with
  | some vs => allOk (pairOk K) vs row
  | none => false
noncomputable def tabOk (K : Frag) (a : Addr) : Bool := match tupIn K (.ref a) with
  | some vs => allOk (rowOk K) vs tbl
  | none => false
theorem tab_ok (p : Params) : tabOk (hd.heap_39 p) 109 = true := by kernel_rfl
noncomputable def PairAt (h : Heap) (v : Value) (p : Int × Nat) : Prop := ∃ q tb tc, v = .ref q ∧ h.IsTuple q #[.int p.1 tb, .str (one p.2) tc]
noncomputable def RowAt (h : Heap) (v : Value) (row : List (Int × Nat)) : Prop := ∃ (q : Addr) (vs : List Value), v = .ref q ∧ h.IsTuple q vs.toArray ∧ vs.length = row.length ∧ ∀ (i : Nat) u, vs[i]? = some u → ∃ p, row[i]? = some p ∧ PairAt h u p
theorem pair_of {K : Frag} {h : Heap} (X : K.In h) {v : Value} {p : Int × Nat} (e : pairOk K v p = true) : PairAt h v p := by
  unfold pairOk at e
  split at e
  · rename_i b tb x tc hv
    refine' hid fun kG_ => ?_
    obtain ⟨q, rfl, hq⟩ := tupIn_of X hv
    refine' kG_ ?_
    clear kG_
    have e' := Bool.and_eq_true_iff.mp e
    have e1 : b = p.1 := beq_iff_eq.mp e'.1
    have e2 : x = one p.2 := by have := e'.2; simpa using this
    subst e1 e2
    exact ⟨q, tb, tc, rfl, hq⟩
  · cases e
theorem row_of {K : Frag} {h : Heap} (X : K.In h) {v : Value} {row : List (Int × Nat)} (e : rowOk K v row = true) : RowAt h v row := by
  unfold rowOk at e
  split at e
  · rename_i vs hv
    refine' hid fun kG_ => ?_
    obtain ⟨q, rfl, hq⟩ := tupIn_of X hv
    refine' kG_ ?_
    clear kG_
    refine ⟨q, vs, rfl, hq, allOk_len e, fun i u hu => ?_⟩
    refine' hid fun kG_ => ?_
    obtain ⟨p, h1, h2⟩ := allOk_at e i u hu
    refine' kG_ ?_
    clear kG_
    exact ⟨p, h1, pair_of X h2⟩
  · cases e
theorem tab_of {K : Frag} {h : Heap} {a : Addr} (X : K.In h) (e : tabOk K a = true) : ∃ vs : List Value, h.IsTuple a vs.toArray ∧ vs.length = 10 ∧ ∀ (i : Nat) u, vs[i]? = some u → ∃ row, tbl[i]? = some row ∧ RowAt h u row := by
  unfold tabOk at e
  split at e
  · rename_i vs hv
    refine' hid fun kG_ => ?_
    obtain ⟨q, hq, ht⟩ := tupIn_of X hv
    refine' kG_ ?_
    clear kG_
    cases hq
    refine ⟨vs, ht, by rw [allOk_len e]; rfl, fun i u hu => ?_⟩
    refine' hid fun kG_ => ?_
    obtain ⟨p, h1, h2⟩ := allOk_at e i u hu
    refine' kG_ ?_
    clear kG_
    exact ⟨p, h1, row_of X h2⟩
  · cases e
theorem find_at {β : Type} {f : β → Bool} : ∀ {row : List β} {k : Nat} {p : β}, row[k]? = some p → f p = true → (∀ j q, j < k → row[j]? = some q → f q = false) → row.find? f = some p
  | [], _, _, h, _, _ => by simp at h
  | q :: r, 0, p, h, hp, _ => by simp at h; subst h; simp [hp]
  | q :: r, k + 1, p, h, hp, hn => by
    have h0 : f q = false := hn 0 q (Nat.succ_pos _) rfl
    rw [List.find?_cons, h0]
    exact find_at (by simpa using h) hp fun j u hj hu => hn (j + 1) u (by (first | lia | omega)) (by simpa using hu)
theorem find_none {β : Type} {f : β → Bool} {row : List β} (hn : ∀ (j : Nat) q, j < row.length → row[j]? = some q → f q = false) : row.find? f = none := by
  rw [List.find?_eq_none]
  intro x hx
  refine' hid fun kG_ => ?_
  obtain ⟨j, hj, e⟩ := List.getElem_of_mem hx
  refine' kG_ ?_
  clear kG_
  rw [hn j x hj (by rw [List.getElem?_eq_getElem hj, e])]
  simp
theorem strs_next {vs : List Value} {mode : Int} {i c : Nat} {t : Tok} {row : List (Int × Nat)} (h : StrsAre vs ((fmChars mode i).map one)) (hrow : tbl[i]? = some row) (e : rowChar mode i row = c) :
    StrsAre (vs ++ [.str (one c) t]) ((fmChars mode (i + 1)).map one) := by
  have e1 : tbl.getD i [] = row := by simp [List.getD, hrow]
  simp only [fmChars, List.map_append, List.map_cons, List.map_nil, e1, e]
  exact strs_snoc h _ _
theorem char_hit {mode : Int} {i k : Nat} {row : List (Int × Nat)} {p : Int × Nat} (h : row[k]? = some p) (hp : rowHit mode i p = true) (hn : ∀ j q, j < k → row[j]? = some q → rowHit mode i q = false) : rowChar mode i row = p.2 := by
  unfold rowChar; rw [find_at h hp hn]
theorem char_none {mode : Int} {i : Nat} {row : List (Int × Nat)} (hn : ∀ (j : Nat) q, j < row.length → row[j]? = some q → rowHit mode i q = false) : rowChar mode i row = if i = 0 then 63 else 45 := by
  unfold rowChar; rw [find_none hn]
theorem hit_more {mode : Int} {i k : Nat} {row : List (Int × Nat)} {p : Int × Nat} (h : row[k]? = some p) (hp : rowHit mode i p = false) (hn : ∀ j q, j < k → row[j]? = some q → rowHit mode i q = false) : ∀ j q, j < k + 1 → row[j]? = some q → rowHit mode i q = false := by
  intro j q hj hq
  by_cases e : j = k
  · subst e; rw [h] at hq; cases hq; exact hp
  · exact hn j q (by (first | lia | omega)) hq
theorem hit0 {mode : Int} {i : Nat} {p : Int × Nat} (hi : (i : Int) = 0) (h : Builtin.bitAnd mode 61440 = p.1) : rowHit mode i p = true := by
  have : i = 0 := by (first | lia | omega)
  simp [rowHit, this, h]
theorem miss0 {mode : Int} {i : Nat} {p : Int × Nat} (hi : (i : Int) = 0) (h : Builtin.bitAnd mode 61440 ≠ p.1) : rowHit mode i p = false := by
  have : i = 0 := by (first | lia | omega)
  simp [rowHit, this, h]
theorem hit1 {mode : Int} {i : Nat} {p : Int × Nat} (hi : (i : Int) ≠ 0) (h : Builtin.bitAnd mode p.1 = p.1) : rowHit mode i p = true := by
  have : i ≠ 0 := by (first | lia | omega)
  simp [rowHit, this, h]
theorem miss1 {mode : Int} {i : Nat} {p : Int × Nat} (hi : (i : Int) ≠ 0) (h : Builtin.bitAnd mode p.1 ≠ p.1) : rowHit mode i p = false := by
  have : i ≠ 0 := by (first | lia | omega)
  simp [rowHit, this, h]
theorem led_sub {own news : List (Addr × Obj)} {x io : Addr × Obj} : ∀ p ∈ own ++ (x :: news), p ∈ x :: io :: (own ++ news) := by
  intro p hp
  rcases List.mem_append.mp hp with hp | hp
  · exact List.mem_cons_of_mem _ (List.mem_cons_of_mem _ (List.mem_append_left _ hp))
  · rcases List.mem_cons.mp hp with rfl | hp
    · exact List.mem_cons_self ..
    · exact List.mem_cons_of_mem _ (List.mem_cons_of_mem _ (List.mem_append_right _ hp))
theorem led_sub0 {own news : List (Addr × Obj)} {x : Addr × Obj} : ∀ p ∈ own ++ (x :: news), p ∈ x :: (own ++ news) := by
  intro p hp
  rcases List.mem_append.mp hp with hp | hp
  · exact List.mem_cons_of_mem _ (List.mem_append_left _ hp)
  · rcases List.mem_cons.mp hp with rfl | hp
    · exact List.mem_cons_self ..
    · exact List.mem_cons_of_mem _ (List.mem_append_right _ hp)
theorem led_off {own news : List (Addr × Obj)} {pa : Addr} {x : Obj} (hA : ∀ p ∈ own ++ news, p.1 ≠ pa) (hN : ∀ p ∈ news, ∀ q ∈ own, q.1 ≠ p.1) : ∀ p ∈ (pa, x) :: news, ∀ q ∈ own, q.1 ≠ p.1 := by
  intro p hp q hq
  rcases List.mem_cons.mp hp with rfl | hp
  · exact hA q (List.mem_append_left _ hq)
  · exact hN p hp q hq
theorem led_swap {x y : Addr × Obj} {l : List (Addr × Obj)} : ∀ p ∈ x :: y :: l, p ∈ y :: x :: l := by
  intro p hp
  rcases List.mem_cons.mp hp with rfl | hp
  · exact List.mem_cons_of_mem _ (List.mem_cons_self ..)
  · rcases List.mem_cons.mp hp with rfl | hp
    · exact List.mem_cons_self ..
    · exact List.mem_cons_of_mem _ (List.mem_cons_of_mem _ hp)
theorem ones_weight : ∀ cs : List Nat, ((cs.map one).map (·.length)).sum + (cs.map one).length = 2 * cs.length
  | [] => rfl
  | c :: r => by
    have h := ones_weight r
    have e : (one c).length = 1 := rfl
    simp only [List.map_cons, List.sum_cons, List.length_cons, e] at h ⊢
    (first | lia | omega)
theorem fm_weight (mode : Int) : (((fmChars mode 10).map one).map (·.length)).sum + ((fmChars mode 10).map one).length ≤ 1048576 := by
  rw [ones_weight, fm_length]; decide
end
section
/-! loops by an invariant over the frame and the ledger; the ends are names of our own, so that the walk stands still there -/
noncomputable def KnownAll (m : Str → Option Value) : List (Str × Value) → Prop
  | [] => True
  | p :: r => m p.1 = some p.2 ∧ KnownAll m r
theorem KnownAll.mem {m : Str → Option Value} : ∀ {ps : List (Str × Value)}, KnownAll m ps → ∀ p ∈ ps, m p.1 = some p.2
  | [], _, _, h => nomatch h
  | q :: r, h, p, hp => by
    rcases List.mem_cons.mp hp with rfl | hp
    · exact h.1
    · exact KnownAll.mem h.2 p hp
theorem fr_knownL {h₀ h : Heap} {L : Addr} {m : Str → Option Value} {ps : List (Str × Value)} (e : KnownAll m ps) (F : Fr h₀ L h m) : Fr h₀ L h (kstB m ps) := by
  have q : kstB m ps = m := funext fun z => kstB_eq e.mem fun _ => rfl
  rw [q]; exact F
theorem fr_knownX {h₀ h : Heap} {L : Addr} {m : Str → Option Value} {ps : List (Str × Value)} {x : Str} {v : Value} (e : KnownAll m ps) (F : Fr h₀ L h (fun y => if y = x then some v else m y)) : Fr h₀ L h (fun y => if y = x then some v else kstB m ps y) := by
  have q : kstB m ps = m := funext fun z => kstB_eq e.mem fun _ => rfl
  rw [q]; exact F

noncomputable def Held (P : Prop) : Prop := P
theorem held {P : Prop} (h : Held P) : P := h
theorem Held.out {P : Prop} (h : Held P) : P := h

noncomputable def TEnd (h₀ : Heap) (L : Addr) (J : (Str → Option Value) → List (Addr × Obj) → Prop) (own : List (Addr × Obj)) (adr : List Addr) (s₁ s₂ : Shared) : Prop := InvEndN h₀ L J own adr s₁ s₂
theorem TEnd.intro {h₀ : Heap} {L : Addr} {J : (Str → Option Value) → List (Addr × Obj) → Prop} {m' : Str → Option Value} {own news' nx : List (Addr × Obj)} {adr : List Addr} {s₁ : Shared} {h' : Heap} {tk : Nat} (F : Fr h₀ L h' m') (N : News h₀ L h' news')
    (hj : J m' nx) (ha : nx.map (·.1) = adr) (hn : ∀ p ∈ nx, p ∈ news') (ho : ∀ p ∈ own, p ∈ news') : TEnd h₀ L J own adr s₁ { s₁ with heap := h', toks := tk } := InvEndN.intro F N hj ha hn ho
noncomputable def WEnd (h₀ : Heap) (L : Addr) (J : (Str → Option Value) → List (Addr × Obj) → Prop) (s s₂ : Shared) : Prop :=
  ∃ h' tk m' nx, s₂ = { s with heap := h', toks := tk } ∧ Fr h₀ L h' m' ∧ News h₀ L h' nx ∧ J m' nx
theorem WEnd.intro {h₀ : Heap} {L : Addr} {J : (Str → Option Value) → List (Addr × Obj) → Prop} {m' : Str → Option Value} {news' nx : List (Addr × Obj)} {s : Shared} {h' : Heap} {tk : Nat} (F : Fr h₀ L h' m') (N : News h₀ L h' news')
    (hn : ∀ p ∈ nx, p ∈ news') (hj : J m' nx) : WEnd h₀ L J s { s with heap := h', toks := tk } := ⟨h', tk, m', nx, rfl, F, fun p hp => N p (hn p hp), hj⟩

noncomputable abbrev setM (m : Str → Option Value) (x : Str) (v : Value) : Str → Option Value := fun y => if y = x then some v else m y
/-- a statement that goes on behind itself, cut off with a state of its own -/
noncomputable def NEnd (h₀ : Heap) (L : Addr) (J : (Str → Option Value) → List (Addr × Obj) → Prop) (s : Shared) (f : Flow) (s₂ : Shared) : Prop := f = .next ∧ WEnd h₀ L J s s₂
theorem NEnd.intro {h₀ : Heap} {L : Addr} {J : (Str → Option Value) → List (Addr × Obj) → Prop} {m' : Str → Option Value} {news' nx : List (Addr × Obj)} {s : Shared} {h' : Heap} {tk : Nat} (F : Fr h₀ L h' m') (N : News h₀ L h' news')
    (hn : ∀ p ∈ nx, p ∈ news') (hj : J m' nx) : NEnd h₀ L J s .next { s with heap := h', toks := tk } := ⟨rfl, WEnd.intro F N hn hj⟩
theorem cutN {M : Model} {A : Around} {E : Value → Shared → Prop} {s : Shared} {t : Sem Flow} {Q : Flow → Shared → Prop} {h₀ : Heap} {L : Addr} {m : Str → Option Value} (_F : Fr h₀ L s.heap m) (J : (Str → Option Value) → List (Addr × Obj) → Prop) (h1 : wpAny M A t (NEnd h₀ L J s) E s)
    (h2 : ∀ h' tk m' nx, Fr h₀ L h' m' → News h₀ L h' nx → J m' nx → Q .next { s with heap := h', toks := tk }) : wpAny M A t Q E s := by
  refine wpAny_mono h1 (fun f s' h => ?_) fun _ _ e => e
  refine' hid fun kG_ => ?_
  obtain ⟨rfl, h', tk, m', nx, rfl, F, N, hJ⟩ := h
  refine' kG_ ?_
  clear kG_
  exact h2 h' tk m' nx F N hJ
/-- a statement, then the rest, with the state in its parts -/
theorem seqN {M : Model} {A : Around} {E : Value → Shared → Prop} {st : Stmt} {rest : List Stmt} {env : Env} {Q : Flow → Shared → Prop} {h₀ : Heap} {L : Addr} {hp : Heap} {g : Array GenState} {d : Drawn} {tk : Nat} {os : OsState}
    (J : (Str → Option Value) → List (Addr × Obj) → Prop) (h1 : wpAny M A (exec st env) (NEnd h₀ L J ⟨hp, g, d, tk, os⟩) E ⟨hp, g, d, tk, os⟩)
    (h2 : ∀ h' tk' m' nx, Fr h₀ L h' m' → News h₀ L h' nx → J m' nx → wpAny M A (execs rest env) Q E ⟨h', g, d, tk', os⟩) : wpAny M A (execs (st :: rest) env) Q E ⟨hp, g, d, tk, os⟩ := by
  refine wpAny_execs_cons (wpAny_mono h1 (fun f s' h => ?_) fun _ _ e => e)
  refine' hid fun kG_ => ?_
  obtain ⟨rfl, h', tk, m', nx, rfl, F, N, hJ⟩ := h
  refine' kG_ ?_
  clear kG_
  exact h2 h' tk m' nx F N hJ
theorem nilN {M : Model} {A : Around} {E : Value → Shared → Prop} {env : Env} {h₀ : Heap} {L : Addr} {m' : Str → Option Value} {nx : List (Addr × Obj)} {hp h' : Heap} {g : Array GenState} {d : Drawn} {tk tk' : Nat} {os : OsState} {J : (Str → Option Value) → List (Addr × Obj) → Prop}
    (F : Fr h₀ L h' m') (N : News h₀ L h' nx) (hj : J m' nx) : wpAny M A (execs [] env) (NEnd h₀ L J ⟨hp, g, d, tk, os⟩) E ⟨h', g, d, tk', os⟩ :=
  wpAny_execs_nil ⟨rfl, h', tk', m', nx, rfl, F, N, hj⟩

section
variable {prog : Program} {w : World} {A : Around} {E : Value → Shared → Prop} {s : Shared} {env : Env} {h₀ : Heap} {L : Addr} {x : Str} {body : List Stmt} {Q : Flow → Shared → Prop}
theorem range_inv {r : Addr} {a₀ b₀ : Int} {t₀ u₀ v₀ : Tok} {n : Nat} {m₀ : Str → Option Value} {news : List (Addr × Obj)} (J : Nat → (Str → Option Value) → List (Addr × Obj) → Prop)
    (hh : A.handled = none) (hr : IsRange s.heap r a₀ b₀ 1 t₀ u₀ v₀) (hsmall : Builtin.Range.small a₀ b₀ 1 = true) (hn : Builtin.Range.rangeSize a₀ b₀ 1 = (n : Int)) (F : Fr h₀ env.locals s.heap m₀) (N : News h₀ env.locals s.heap news) (hj : J 0 m₀ news)
    (turn : ∀ (i : Nat) t m₁ nx h tk own, i < n → nx.map (·.1) = news.map (·.1) → OwnOff own (news.map (·.1)) → J i m₁ nx →
      Fr h₀ env.locals h (fun y => if y = x then some (.int (a₀ + (i : Int)) t) else m₁ y) → News h₀ env.locals h (nx ++ own) →
      wpAny (model prog w) A (execs body env) (fun f s₃ => match f with
        | .ret v => Q (.ret v) s₃
        | .brk => Q .next s₃
        | _ => TEnd h₀ env.locals (J (i + 1)) own (news.map (·.1)) { s with heap := h, toks := tk } s₃) E { s with heap := h, toks := tk })
    (done : ∀ m₁ nx h tk, J n m₁ nx → Fr h₀ env.locals h m₁ → News h₀ env.locals h nx → Q .next { s with heap := h, toks := tk }) :
    wpAny (model prog w) A (pyIter (.ref r)) (fun it s₂ => LoopAtV prog w A h₀ env x body Q E it s₂) E s := by
  refine wpAny_pyIter_range hr hsmall ?_
  have W : Walks prog w A s.heap.objs.size [s.heap.objs.size] [s.heap.objs.size] n (fun i v => i < n ∧ ∃ t, v = .int (a₀ + i * 1) t)
      (fun i h => IsRangeIter h s.heap.objs.size (a₀ + (i : Nat) * 1) ((n : Int) - (i : Nat)) 1) := (Walks.range hh _ a₀ 1 n).bound
  refine loop_invN J W ?_ ?_ ?_ ?_ (by show IsRangeIter _ _ _ _ _; rw [hn]; simpa using Heap.get?_push_size _ rfl) (F.push _) (fun p hp => ⟨Heap.get?_push_of_some _ (N p hp).1, (N p hp).2⟩) hj ?_ ?_
  · intro hm
    exact absurd F.ns.lt ((List.mem_singleton.mp hm) ▸ Nat.lt_irrefl _)
  · intro b hb
    rw [List.mem_singleton.mp hb]
    exact next_is_new F
  · intro p hp hI
    exact absurd (Heap.lt_size (N p hp).1) ((List.mem_singleton.mp hI) ▸ Nat.lt_irrefl _)
  · intro p hp hI
    exact absurd (Heap.lt_size (N p hp).1) ((List.mem_singleton.mp hI) ▸ Nat.lt_irrefl _)
  · rintro i v m₁ nx h tk own hi ⟨_, t, rfl⟩ ha hoff hJ F₁ N₁
    have e1 : a₀ + (i : Int) * 1 = a₀ + (i : Int) := by (first | lia | omega)
    rw [e1] at F₁
    refine wpAny_mono (turn i t m₁ nx h tk own hi ha hoff hJ F₁ N₁) (fun f s₃ hf => ?_) fun _ _ e => e
    cases f <;> exact hf
  · intro m₁ nx h tk hJ F₁ N₁
    exact done m₁ nx h tk hJ F₁ N₁

theorem while_inv {test : PySem.Expr} {pos : Pos} {m : Str → Option Value} {news : List (Addr × Obj)} (J : Nat → (Str → Option Value) → List (Addr × Obj) → Prop) {n₀ : Nat}
    (F : Fr h₀ L s.heap m) (N : News h₀ L s.heap news) (hJ : J n₀ m news)
    (turn : ∀ n m₁ nx h₁ tk₁, J n m₁ nx → Fr h₀ L h₁ m₁ → News h₀ L h₁ nx →
      wpAny (model prog w) A (isTrue test env (eval test env)) (fun b s₂ =>
        if b = true then wpAny (model prog w) A (execs body env) (fun f s₃ => match f with
          | .ret v => Q (.ret v) s₃
          | .brk => Q .next s₃
          | _ => WEnd h₀ L (fun m' nx' => ∃ n', n' < n ∧ J n' m' nx') s s₃) E s₂ else Q .next s₂) E { s with heap := h₁, toks := tk₁ })
    (hE : PassesOwn (model prog w) A env E := by passes_own) :
    wpAny (model prog w) A (exec (.While test body [] pos) env) Q E s := by
  refine While_inv2 J F N hJ ?_ hE
  intro n m₁ nx h₁ tk₁ F₁ N₁ hJ₁
  refine wpAny_mono (turn n m₁ nx h₁ tk₁ hJ₁ F₁ N₁) (fun b s₂ p => ?_) fun _ _ x => x
  cases b with
  | false => simpa using p
  | true =>
    simp only [if_true] at p ⊢
    refine wpAny_mono p (fun f s₃ q => ?_) fun _ _ x => x
    cases f with
    | ret v => exact q
    | brk => exact q
    | next =>
      refine' hid fun kG_ => ?_
      obtain ⟨h', tk', m', nx', e, F', N', n', hn', hJ'⟩ := q
      refine' kG_ ?_
      clear kG_
      exact ⟨h', tk', m', nx', n', e, F', N', hn', hJ'⟩
    | cont =>
      refine' hid fun kG_ => ?_
      obtain ⟨h', tk', m', nx', e, F', N', n', hn', hJ'⟩ := q
      refine' kG_ ?_
      clear kG_
      exact ⟨h', tk', m', nx', n', e, F', N', hn', hJ'⟩
end

end
section
/-! tuples of ints: `<`, lists of them -/
noncomputable def lexLt : List Int → List Int → Bool
  | [], [] => false
  | [], _ :: _ => true
  | _ :: _, [] => false
  | a :: r, b :: q => if a = b then lexLt r q else decide (a < b)

section
variable {prog : Program} {w : World} {A : Around} {E : Value → Shared → Prop} {s : Shared}
theorem tuple_lt_tree {vs us : List Value} {x y : List Int} {a b : Addr} {oa ob : Obj} {na nb : Nat} {P : PySem.Fin → Shared → Prop} (ha : s.heap.get? a = some oa) (da : oa.data = .seq vs.toArray na)
    (hb : s.heap.get? b = some ob) (cb : ob.cls = .type "tuple") (db : ob.data = .seq us.toArray nb) (hi : IntsAre vs x) (hj : IntsAre us y) (h : P (.done (.ret (.bool (lexLt x y)))) s) :
    wpAny (model prog w) A (Builtin.«tuple.__lt__» ⟨[.ref a, .ref b], []⟩) P E s := by
  have hTb : s.TypeIs (.ref b) "tuple" := ⟨_, hb, cb⟩
  show wpAny _ _ (isInstance (.ref b) (.type "tuple") >>= _) _ _ s
  refine wpAny_bind (wpAny_isInstance hTb isSubtype_tuple_tuple ?_)
  simp only [Bool.not_true, Bool.false_eq_true, if_false]
  refine wpAny_bind (wpAny_tupleItemsOf ha da ?_)
  refine wpAny_bind (wpAny_tupleItemsOf hb db ?_)
  refine wpAny_bind ?_
  refine wpAny_forIn_list _
    (fun rest r s' => r.1 = none ∧ s' = s ∧ ∃ x' y' xs' ys', rest = List.zip xs' ys' ∧ IntsAre xs' x' ∧ IntsAre ys' y' ∧ lexLt x' y' = lexLt x y ∧ decide (xs'.length < ys'.length) = decide (vs.toArray.size < us.toArray.size))
    _ ?_ ?_ _ _ ⟨rfl, rfl, x, y, vs, us, by simp, hi, hj, rfl, by simp⟩
  · rintro ⟨u, v⟩ rest r s' ⟨hr, rfl, x', y', xs', ys', hz, hx', hy', hdec, hlen⟩
    cases hx' with
    | nil => simp at hz
    | cons k1 t1 hx'' =>
      cases hy' with
      | nil => simp at hz
      | cons k2 t2 hy'' =>
        simp only [List.zip_cons_cons, List.cons.injEq, Prod.mk.injEq] at hz
        refine' hid fun kG_ => ?_
        obtain ⟨⟨rfl, rfl⟩, rfl⟩ := hz
        refine' kG_ ?_
        clear kG_
        refine wpAny_bind (wpAny_eqBool_int ?_)
        by_cases hk : k1 = k2
        · subst hk
          simp only [beq_self_eq_true, Bool.not_true, Bool.false_eq_true, if_false]
          refine wpAny_pure ⟨rfl, rfl, _, _, _, _, rfl, hx'', hy'', ?_, by simpa using hlen⟩
          rw [← hdec]; simp [lexLt]
        · have hne : (k1 == k2) = false := by simpa using hk
          simp only [hne, Bool.not_false, if_true]
          have hf : lexLt x y = decide (k1 < k2) := by rw [← hdec]; simp [lexLt, hk]
          rw [hf] at h
          refine wpAny_bind (wpAny_rule ?_)
          refine wpAny_bind (show wpAny _ _ (compareOp .Lt (.int k1 t1) (.int k2 t2)) _ _ _ from PyProof.Rows.lt_int ?_)
          exact wpAny_bind (wpAny_pure (wpAny_pure (wpAny_pure h)))
  · rintro ⟨r1, r2⟩ s' ⟨hr, rfl, x', y', xs', ys', hz, hx', hy', hdec, hlen⟩
    simp only at hr
    subst hr
    refine wpAny_pure ?_
    have hfin : decide (vs.toArray.size < us.toArray.size) = lexLt x y := by
      rw [← hdec, ← hlen]
      cases hx' with
      | nil =>
        cases hy' with
        | nil => simp [lexLt]
        | cons _ _ => simp [lexLt]
      | cons _ _ _ =>
        cases hy' with
        | nil => simp [lexLt]
        | cons _ _ _ => simp at hz
    show P (.done (.ret (.bool (decide (vs.toArray.size < us.toArray.size))))) s'
    rw [hfin]; exact h

theorem tuple_lt {vs us : List Value} {x y : List Int} {a b : Addr} {oa ob : Obj} {na nb : Nat} {Q : Value → Shared → Prop} (hu : A.units < cLine) (ha : s.heap.get? a = some oa) (ca : oa.cls = .type "tuple") (da : oa.data = .seq vs.toArray na)
    (hb : s.heap.get? b = some ob) (cb : ob.cls = .type "tuple") (db : ob.data = .seq us.toArray nb) (hi : IntsAre vs x) (hj : IntsAre us y) (h : Q (.bool (lexLt x y)) s) :
    wpAny (model prog w) A (compareOp .Lt (.ref a) (.ref b)) Q E s := by
  have hTa : s.TypeIs (.ref a) "tuple" := ⟨_, ha, ca⟩
  have hTb : s.TypeIs (.ref b) "tuple" := ⟨_, hb, cb⟩
  show wpAny _ _ (richCompare .Lt (.ref a) (.ref b)) _ _ _
  exact wpAny_richCompare_same_room (op := .Lt) hTa hTb F.slot_tuple_lt
    (wpAny_call_entry F.slot_tuple_lt hTa F.entry_tuple_lt (tuple_lt_tree ha da hb cb db hi hj ⟨_, rfl, (fun e => nomatch e), h⟩) (F.args_tuple_lt_2 _ _)) hu
end

end
section
/-! tuples (way, bits, at) in the ledger, read as one key -/
noncomputable abbrev tupO (us : List Value) (n : Nat) : Obj := { cls := .type "tuple", data := .seq us.toArray n }
noncomputable def codeK (w b t : Int) : Int := w * 1048576 + b * 16 + t
inductive TupK (led : List (Addr × Obj)) (v : Value) (k : Int) : Prop
  | mk (a us n w b t : _) (_ : v = .ref a) (_ : (a, tupO us n) ∈ led) (_ : IntsAre us [w, b, t]) (_ : k = codeK w b t) (_ : 0 ≤ w) (_ : 0 ≤ b) (_ : b < 65536) (_ : 0 ≤ t) (_ : t < 16)
inductive TupsK (led : List (Addr × Obj)) : List Value → List Int → Prop
  | nil : TupsK led [] []
  | cons {v : Value} {k : Int} {vs : List Value} {xs : List Int} : TupK led v k → TupsK led vs xs → TupsK led (v :: vs) (k :: xs)
theorem TupK.mono {led led' : List (Addr × Obj)} (hs : ∀ p ∈ led, p ∈ led') {v : Value} {k : Int} (h : TupK led v k) : TupK led' v k := by
  cases h with
  | mk a us n w b t e hm r1 r2 r3 r4 r5 r6 r7 => exact .mk a us n w b t e (hs _ hm) r1 r2 r3 r4 r5 r6 r7
theorem TupsK.mono {led led' : List (Addr × Obj)} (hs : ∀ p ∈ led, p ∈ led') {vs : List Value} {xs : List Int} (h : TupsK led vs xs) : TupsK led' vs xs := by
  induction h with
  | nil => exact .nil
  | cons h _ ih => exact .cons (h.mono hs) ih
theorem TupsK.length {led : List (Addr × Obj)} {vs : List Value} {xs : List Int} (h : TupsK led vs xs) : vs.length = xs.length := by
  induction h with
  | nil => rfl
  | cons _ _ ih => exact congrArg Nat.succ ih
theorem TupsK.at {led : List (Addr × Obj)} {vs : List Value} {xs : List Int} (h : TupsK led vs xs) : ∀ {i : Nat}, i < xs.length → ∃ a, vs[i]? = some (.ref a) ∧ TupK led (.ref a) (xs.getD i 0) := by
  induction h with
  | nil => exact fun h => absurd h (Nat.not_lt_zero _)
  | cons h _ ih =>
    intro i hi
    cases i with
    | zero =>
      cases id h with
      | mk a us n w b t e => exact ⟨a, congrArg some e, e ▸ h⟩
    | succ i => exact ih (Nat.lt_of_succ_lt_succ hi)
theorem TupsK.set {led : List (Addr × Obj)} {vs : List Value} {xs : List Int} (h : TupsK led vs xs) : ∀ {i : Nat} {v : Value} {k : Int}, TupK led v k → TupsK led (vs.set i v) (xs.set i k) := by
  induction h with
  | nil => exact fun _ => .nil
  | cons h r ih =>
    intro i v k q
    cases i with
    | zero => exact .cons q r
    | succ i => exact .cons h (ih q)
theorem TupsK.append {led : List (Addr × Obj)} {vs us : List Value} {xs ys : List Int} (h : TupsK led vs xs) (q : TupsK led us ys) : TupsK led (vs ++ us) (xs ++ ys) := by
  induction h with
  | nil => exact q
  | cons h _ ih => exact .cons h ih
theorem TupsK.dropLast {led : List (Addr × Obj)} {vs : List Value} {xs : List Int} (h : TupsK led vs xs) : TupsK led vs.dropLast xs.dropLast := by
  induction h with
  | nil => exact .nil
  | cons h r ih =>
    cases r with
    | nil => exact .nil
    | cons h2 r2 => exact .cons h ih
theorem TupsK.last {led : List (Addr × Obj)} {vs : List Value} {xs : List Int} (h : TupsK led vs xs) : 0 < xs.length → ∃ a, vs.getLast? = some (.ref a) ∧ TupK led (.ref a) (xs.getLastD 0) := by
  induction h with
  | nil => exact fun h => absurd h (Nat.not_lt_zero _)
  | cons h r ih =>
    intro _
    cases r with
    | nil =>
      refine' hid fun kG_ => ?_
      obtain ⟨a, us, n, w, b, t, rfl, q⟩ := id h
      refine' kG_ ?_
      clear kG_
      exact ⟨a, rfl, h⟩
    | cons h2 r2 =>
      refine' hid fun kG_ => ?_
      obtain ⟨a, e, q⟩ := ih (by simp)
      refine' kG_ ?_
      clear kG_
      exact ⟨a, by simpa using e, by simpa using q⟩
theorem su_lt1 {n : Nat} {p c : Int} (hc : c = 2 * p + 1) (h0 : 0 ≤ p) (h : c + 1 < (n : Int)) : n - (c + 1).toNat < n - p.toNat := by
  refine' hid fun kG_ => ?_
  obtain ⟨k, rfl⟩ := Int.eq_ofNat_of_zero_le h0
  refine' kG_ ?_
  clear kG_
  subst hc
  have e : (2 * (k : Int) + 1 + 1).toNat = 2 * k + 2 := by (first | lia | omega)
  rw [e, Int.toNat_natCast]
  (first | lia | omega)
theorem su_lt0 {n : Nat} {p c : Int} (hc : c = 2 * p + 1) (h0 : 0 ≤ p) (h : c < (n : Int)) : n - c.toNat < n - p.toNat := by
  refine' hid fun kG_ => ?_
  obtain ⟨k, rfl⟩ := Int.eq_ofNat_of_zero_le h0
  refine' kG_ ?_
  clear kG_
  subst hc
  have e : (2 * (k : Int) + 1).toNat = 2 * k + 1 := by (first | lia | omega)
  rw [e, Int.toNat_natCast]
  (first | lia | omega)
theorem sd_lt {p : Int} (h : 0 < p) : ((p - 1) / 2).toNat < p.toNat := by omega
theorem sd_lo {p : Int} (h : 0 < p) : 0 ≤ (p - 1) / 2 := by omega
theorem sd_up {p n : Int} (h : 0 < p) (h1 : p < n) : (p - 1) / 2 < n := by omega
theorem tups_eq {led : List (Addr × Obj)} {vs : List Value} {xs ys : List Int} (h : TupsK led vs xs) (e : xs = ys) : TupsK led vs ys := e ▸ h
theorem lex3 {w b t w' b' t' : Int} (h1 : 0 ≤ b) (h2 : b < 65536) (h3 : 0 ≤ t) (h4 : t < 16) (h1' : 0 ≤ b') (h2' : b' < 65536) (h3' : 0 ≤ t') (h4' : t' < 16) :
    lexLt [w, b, t] [w', b', t'] = decide (codeK w b t < codeK w' b' t') := by
  unfold codeK
  by_cases e1 : w = w'
  · subst e1
    by_cases e2 : b = b'
    · subst e2
      by_cases e3 : t = t'
      · subst e3; simp [lexLt]
      · simp only [lexLt, if_pos, if_neg e3]
        exact decide_eq_decide.mpr (by (first | lia | omega))
    · simp only [lexLt, if_pos, if_neg e2]
      exact decide_eq_decide.mpr (by (first | lia | omega))
  · simp only [lexLt, if_neg e1]
    exact decide_eq_decide.mpr (by (first | lia | omega))
section
variable {prog : Program} {w : World} {A : Around} {E : Value → Shared → Prop} {s : Shared} {h₀ : Heap} {L l : Addr}
theorem lt_K {news led : List (Addr × Obj)} {a b : Addr} {k j : Int} {Q : Value → Shared → Prop} (hu : A.units < cLine) (N : News h₀ L s.heap news) (hs : ∀ p ∈ led, p ∈ news) (h1 : TupK led (.ref a) k) (h2 : TupK led (.ref b) j) (h : Q (.bool (decide (k < j))) s) :
    wpAny (model prog w) A (compareOp .Lt (.ref a) (.ref b)) Q E s := by
  refine' hid fun kG_ => ?_
  obtain ⟨a1, us, n, w1, b1, t1, e1, m1, i1, rfl, c1, c2, c3, c4, c5⟩ := h1
  obtain ⟨a2, us2, n2, w2, b2, t2, e2, m2, i2, rfl, d1, d2, d3, d4, d5⟩ := h2
  refine' kG_ ?_
  clear kG_
  cases e1; cases e2
  refine tuple_lt hu (N _ (hs _ m1)).1 rfl rfl (N _ (hs _ m2)).1 rfl rfl i1 i2 ?_
  rw [lex3 c2 c3 c4 c5 d2 d3 d4 d5]; exact h
theorem item_K {value slice : PySem.Expr} {news led : List (Addr × Obj)} {vs : List Value} {xs : List Int} {n : Nat} {k : Int} {u : Tok} {Q : Value → Shared → Prop} (N : News h₀ L s.heap news) (hm : (l, W.listOf vs.toArray n) ∈ news) (hd : TupsK led vs xs)
    (h0 : 0 ≤ k) (h1 : k < (xs.length : Int)) (hfit : k < 2 ^ 63) (h : ∀ a, TupK led (.ref a) (xs.getD k.toNat 0) → vs[k.toNat]? = some (.ref a) → Q (.ref a) s)
    (hs : subscripted slice false (.ref l) (.int k u) = operate [.ref l, .int k u] (getItem (.ref l) (.int k u)) := by with_unfolding_all rfl) :
    wpAny (model prog w) A (subscriptTail value slice (.ref l) (.int k u)) Q E s := by
  have hl : s.heap.IsList l vs.toArray := ⟨_, (N _ hm).1, rfl, n, rfl⟩
  have hk : k.toNat < xs.length := by (first | lia | omega)
  refine' hid fun kG_ => ?_
  obtain ⟨a, e, q⟩ := hd.at hk
  refine' kG_ ?_
  clear kG_
  exact tail_any hl.typeIs slot_list_getitem.lookup (wpAny_getItem_list hl h0 hfit (by simpa using e) (h a q e)) hs
theorem set_K {m : Str → Option Value} {news news' led : List (Addr × Obj)} {vs : List Value} {xs : List Int} {n : Nat} {k j : Int} {t : Tok} {v : Value} {Q : Unit → Shared → Prop} (F : Fr h₀ L s.heap m) (N : News h₀ L s.heap news) (U : Upd l (W.listOf vs.toArray n) (W.listOf (vs.set k.toNat v).toArray n) news news')
    (hi : TupsK led vs xs) (hv : TupK led v j) (h0 : 0 ≤ k) (h1 : k < xs.length) (hfit : k < 2 ^ 63) (h : ∀ h', Fr h₀ L h' m → News h₀ L h' news' → TupsK led (vs.set k.toNat v) (xs.set k.toNat j) → (xs.set k.toNat j).length = xs.length → Q () { s with heap := h' }) :
    wpAny (model prog w) A (setItem (.ref l) (.int k t) v) Q E s := by
  refine' hid fun kG_ => ?_
  obtain ⟨pre, post, rfl, rfl, a, b⟩ := U.split
  refine' kG_ ?_
  clear kG_
  have z := N (l, W.listOf vs.toArray n) (List.mem_append.mpr (.inr (.head _)))
  have hl := hi.length
  have hs : vs.toArray.size = xs.length := by rw [List.size_toArray]; exact hl
  refine ki_setAt z.1 h0 hfit (by (first | lia | omega)) (h _ (F.change (Heap.SameBut.update ..) z.2.1 z.2.2) (ki_turn _ N a b ?_ ?_) (hi.set hv) (List.length_set ..))
  · show vs.toArray.setIfInBounds k.toNat v = (vs.set k.toNat v).toArray
    apply Array.toList_inj.mp
    simp
  · simp
theorem len_led {news : List (Addr × Obj)} {vs : List Value} {n : Nat} {Q : Value → Shared → Prop} (N : News h₀ L s.heap news) (hm : (l, W.listOf vs.toArray n) ∈ news) (hfit : (vs.length : Int) < 2 ^ 63)
    (h : Q (.int (vs.length : Int) (s.toks + 1)) { s with toks := s.toks + 1 + 1 }) : wpAny (model prog w) A (call (.builtin "len") [.ref l]) Q E s := by
  have hl : s.heap.IsList l vs.toArray := ⟨_, (N _ hm).1, rfl, n, rfl⟩
  have e : vs.toArray.size = vs.length := by rw [List.size_toArray]
  exact len_list hl (by rw [e]; exact hfit) (by rw [e]; exact h)
theorem pop_K {m : Str → Option Value} {news news' led : List (Addr × Obj)} {us : List Value} {xs : List Int} {n : Nat} {Q : Value → Shared → Prop} (F : Fr h₀ L s.heap m) (N : News h₀ L s.heap news) (U : Upd l (W.listOf us.toArray n) (W.listOf us.dropLast.toArray (n + 1)) news news') (hi : TupsK led us xs) (hne : 0 < xs.length)
    (hz : xs.length < 1000) (h : ∀ h' ai, Fr h₀ L h' m → News h₀ L h' news' → TupsK led us.dropLast xs.dropLast → TupK led (.ref ai) (xs.getLastD 0) → Q (.ref ai) { s with heap := h' }) : wpAny (model prog w) A (call (.builtin "list.pop") [.ref l]) Q E s := by
  refine' hid fun kG_ => ?_
  obtain ⟨ai, h1, h2⟩ := hi.last hne
  refine' kG_ ?_
  clear kG_
  have hl := hi.length
  have hnn : us ≠ [] := List.length_pos_iff.mp (by (first | lia | omega))
  have e1 : us = us.dropLast ++ [.ref ai] := by
    have := List.dropLast_concat_getLast hnn
    rw [List.getLast?_eq_some_getLast hnn] at h1
    rw [← Option.some.inj h1]; exact this.symm
  refine kl_pop F N (p := us.dropLast) (y := .ref ai) ?_ U (by rw [sizeLine_eq]; simp; (first | lia | omega)) fun h' F' N' => h h' ai F' N' hi.dropLast h2
  have e := kpa_last (.ref ai) us.dropLast
  rw [← e1] at e
  simpa using e
theorem truth_led {news : List (Addr × Obj)} {vs : List Value} {n : Nat} {Q : Bool → Shared → Prop} (N : News h₀ L s.heap news) (hm : (l, W.listOf vs.toArray n) ∈ news) (hfit : (vs.length : Int) < 2 ^ 63)
    (h : Q (decide (0 < vs.length)) { s with toks := s.toks + 1 + 1 }) : wpAny (model prog w) A (truthy (.ref l)) Q E s := by
  have hl : s.heap.IsList l vs.toArray := ⟨_, (N _ hm).1, rfl, n, rfl⟩
  refine wpAny_truthy_list hl (by simpa using hfit) ?_
  have e : (!vs.toArray.isEmpty) = decide (0 < vs.length) := by
    cases vs <;> simp
  rw [e]; exact h
end

end
section
/-! what the heap functions keep: the items, and the order -/
theorem getD_set (xs : List Int) (i j : Nat) (v : Int) (hi : i < xs.length) : (xs.set i v).getD j 0 = if i = j then v else xs.getD j 0 := by
  simp only [List.getD, List.getElem?_set]
  by_cases h : i = j
  · subst h; simp [hi]
  · simp [h]
theorem swap_perm {xs : List Int} {i j : Nat} {v : Int} (hij : i ≠ j) (hi : i < xs.length) (hj : j < xs.length) : ((xs.set i (xs.getD j 0)).set j v).Perm (xs.set i v) := by
  have h := List.set_set_perm (as := xs.set i v) (i := i) (j := j) (by simpa using hi) (by simpa using hj)
  have e1 : (xs.set i v)[j]'(by simpa using hj) = xs.getD j 0 := by
    rw [List.getElem_set_ne hij]; simp [List.getD, hj]
  have e2 : (xs.set i v)[i]'(by simpa using hi) = v := by simp
  rw [e1, e2, List.set_set] at h
  exact h
theorem sd_perm (new : Int) : ∀ (f : Nat) (xs : List Int) (pos : Nat), pos < xs.length → (sd new f xs pos).Perm (xs.set pos new)
  | 0, xs, pos, _ => List.Perm.refl _
  | f + 1, xs, pos, h => by
    simp only [sd]
    split
    · exact List.Perm.refl _
    · split
      · refine (sd_perm new f _ _ (by rw [List.length_set]; omega)).trans ?_
        exact swap_perm (by omega) h (by omega)
      · exact List.Perm.refl _
theorem suL_perm (n : Nat) (v : Int) : ∀ (f : Nat) (xs : List Int) (pos : Nat), xs.length = n → pos < n → ((suL n f xs pos).1.set (suL n f xs pos).2 v).Perm (xs.set pos v)
  | 0, xs, pos, _, _ => List.Perm.refl _
  | f + 1, xs, pos, hn, h => by
    simp only [suL]
    split
    · split
      · refine (suL_perm n v f _ _ (by rw [List.length_set]; exact hn) (by (first | lia | omega))).trans ?_
        exact swap_perm (by (first | lia | omega)) (by (first | lia | omega)) (by (first | lia | omega))
      · refine (suL_perm n v f _ _ (by rw [List.length_set]; exact hn) (by (first | lia | omega))).trans ?_
        exact swap_perm (by (first | lia | omega)) (by (first | lia | omega)) (by (first | lia | omega))
    · exact List.Perm.refl _
theorem suF_perm (xs : List Int) (h : 0 < xs.length) : (suF xs).Perm xs := by
  simp only [suF]
  have hlt := suL_lt xs.length xs.length xs 0 h
  refine (sd_perm _ _ _ _ (by rw [List.length_set, suL_length]; exact hlt)).trans ?_
  rw [List.set_set]
  refine (suL_perm xs.length _ xs.length xs 0 rfl h).trans ?_
  have e : xs.set 0 (xs.getD 0 0) = xs := by
    cases xs with
    | nil => rfl
    | cons a r => rfl
  rw [e]
theorem pushF_perm (xs : List Int) (x : Int) : (pushF xs x).Perm (x :: xs) := by
  refine (sd_perm x _ _ _ (by simp)).trans ?_
  have e : (xs ++ [x]).set xs.length x = xs ++ [x] := by
    rw [List.set_append_right _ _ (Nat.le_refl _)]; simp
  rw [e]
  exact (List.perm_append_comm (l₁ := xs) (l₂ := [x]))
theorem pop_perm (xs : List Int) (h : 0 < xs.length) : (popV xs :: popF xs).Perm xs := by
  by_cases e : xs.length = 1
  · match xs, e with
    | [a], _ => simp [popV, popF]
  · match xs, e, h with
    | a :: b :: r, _, _ =>
      have hne : (a :: b :: r).length ≠ 1 := by simp
      simp only [popV, popF, if_neg hne]
      have e1 : (a :: b :: r).getD 0 0 = a := rfl
      have e2 : (a :: b :: r).dropLast = a :: (b :: r).dropLast := rfl
      have e3 : (a :: b :: r).getLastD 0 = (b :: r).getLastD 0 := rfl
      rw [e1, e2, e3]
      have p1 := suF_perm ((a :: (b :: r).dropLast).set 0 ((b :: r).getLastD 0)) (by simp)
      refine List.Perm.cons _ (p1.trans ?_)
      show ((b :: r).getLastD 0 :: (b :: r).dropLast).Perm (b :: r)
      have hnn : (b :: r) ≠ [] := by simp
      have e4 := List.dropLast_concat_getLast hnn
      have e5 : (b :: r).getLastD 0 = (b :: r).getLast hnn := by rw [List.getLastD_eq_getLast?, List.getLast?_eq_some_getLast hnn]; rfl
      rw [e5]
      have p2 := List.perm_append_comm (l₁ := [(b :: r).getLast hnn]) (l₂ := (b :: r).dropLast)
      rw [e4] at p2
      exact p2
/-! halves -/
theorem hv_lt {p : Nat} (h : ¬ p = 0) : (p - 1) / 2 < p := by (first | lia | omega)
theorem hv_ne {p : Nat} (h : ¬ p = 0) : p ≠ (p - 1) / 2 := by (first | lia | omega)
theorem hv_ne2 {p : Nat} (h : ¬ p = 0) : p ≠ ((p - 1) / 2 - 1) / 2 := by (first | lia | omega)
theorem hv_ne3 {p : Nat} (h : 0 < p) : p ≠ (p - 1) / 2 := by (first | lia | omega)
theorem hv_c {c p : Nat} (h : c = 2 * p + 1 ∨ c = 2 * p + 2) : (c - 1) / 2 = p ∧ 0 < c ∧ p ≠ c ∧ p < c := by
  have q : p < 2 * p + 1 := Nat.lt_succ_of_le (Nat.le_mul_of_pos_left p (by decide))
  rcases h with rfl | rfl
  · exact ⟨Nat.mul_div_cancel_left p (by decide), Nat.succ_pos _, Nat.ne_of_lt q, q⟩
  · exact ⟨Nat.mul_add_div (by decide) p 1, Nat.succ_pos _, Nat.ne_of_lt (Nat.lt_succ_of_lt q), Nat.lt_succ_of_lt q⟩
theorem hv_i {i p : Nat} (h0 : 0 < i) (h : p = (i - 1) / 2) : i = 2 * p + 1 ∨ i = 2 * p + 2 := by (first | lia | omega)
theorem hv_far {i c p : Nat} (h0 : 0 < i) (e : (i - 1) / 2 = c) (h : p < c) : p ≠ i := by (first | lia | omega)
theorem hv_sub {n p c f : Nat} (h : n - p ≤ f + 1) (hc : p < c) (hp : p < n) : n - c ≤ f := by omega
theorem hv_up {i : Nat} (h0 : 0 < i) : (i - 1) / 2 < i := by (first | lia | omega)
noncomputable def IsHeap (xs : List Int) : Prop := ∀ i, 0 < i → i < xs.length → xs.getD ((i - 1) / 2) 0 ≤ xs.getD i 0
noncomputable def Apt (xs : List Int) (pos : Nat) : Prop := ∀ i, 0 < i → i < xs.length → i ≠ pos → (i - 1) / 2 ≠ pos → xs.getD ((i - 1) / 2) 0 ≤ xs.getD i 0
theorem sd_heap (new : Int) : ∀ (f : Nat) (xs : List Int) (pos : Nat), pos ≤ f → pos < xs.length → Apt xs pos →
    (∀ i, 0 < i → i < xs.length → (i - 1) / 2 = pos → new ≤ xs.getD i 0 ∧ (0 < pos → xs.getD ((pos - 1) / 2) 0 ≤ xs.getD i 0)) → IsHeap (sd new f xs pos) := by
  have stop : ∀ (xs : List Int) (pos : Nat), pos < xs.length → Apt xs pos → (∀ i, 0 < i → i < xs.length → (i - 1) / 2 = pos → new ≤ xs.getD i 0) → (0 < pos → xs.getD ((pos - 1) / 2) 0 ≤ new) → IsHeap (xs.set pos new) := by
    intro xs pos hp hA hB hC i h0 hi
    rw [List.length_set] at hi
    rw [getD_set _ _ _ _ hp, getD_set _ _ _ _ hp]
    by_cases e1 : pos = i
    · subst e1
      rw [if_neg (hv_ne3 h0), if_pos rfl]
      exact hC h0
    · rw [if_neg e1]
      by_cases e2 : pos = (i - 1) / 2
      · rw [if_pos e2]; exact hB i h0 hi e2.symm
      · rw [if_neg e2]; exact hA i h0 hi (Ne.symm e1) (Ne.symm e2)
  intro f
  induction f with
  | zero =>
    intro xs pos hf hp hA hB
    exact stop xs pos hp hA (fun i a b c => (hB i a b c).1) (fun h => absurd h (Nat.not_lt.mpr hf))
  | succ f ih =>
    intro xs pos hf hp hA hB
    simp only [sd]
    split
    · rename_i h
      exact stop xs pos hp hA (fun i a b c => (hB i a b c).1) (fun h' => absurd h' (h ▸ Nat.lt_irrefl 0))
    · rename_i h
      split
      · rename_i hlt
        have hpp : (pos - 1) / 2 < xs.length := Nat.lt_trans (hv_lt h) hp
        refine ih _ _ (Nat.le_of_lt_succ (Nat.lt_of_lt_of_le (hv_lt h) hf)) (by rw [List.length_set]; exact hpp) ?_ ?_
        · intro i h0 hi n1 n2
          rw [List.length_set] at hi
          rw [getD_set _ _ _ _ hp, getD_set _ _ _ _ hp]
          by_cases e1 : pos = i
          · subst e1; exact absurd rfl n2
          · rw [if_neg e1]
            by_cases e2 : pos = (i - 1) / 2
            · rw [if_pos e2]; exact (hB i h0 hi e2.symm).2 (Nat.pos_of_ne_zero h)
            · rw [if_neg e2]; exact hA i h0 hi (Ne.symm e1) (Ne.symm e2)
        · intro i h0 hi e
          rw [List.length_set] at hi
          rw [getD_set _ _ _ _ hp, getD_set _ _ _ _ hp]
          have up : 0 < (pos - 1) / 2 → xs.getD (((pos - 1) / 2 - 1) / 2) 0 ≤ xs.getD ((pos - 1) / 2) 0 := fun q => hA _ q hpp (hv_ne h).symm (hv_ne2 h).symm
          rw [if_neg (hv_ne2 h)]
          by_cases e1 : pos = i
          · subst e1
            rw [if_pos rfl]
            exact ⟨Int.le_of_lt hlt, up⟩
          · rw [if_neg e1]
            have h1 := hA i h0 hi (Ne.symm e1) fun q => hv_ne h (q.symm.trans e)
            rw [e] at h1
            exact ⟨Int.le_of_lt (Int.lt_of_lt_of_le hlt h1), fun q => Int.le_trans (up q) h1⟩
      · rename_i hlt
        exact stop xs pos hp hA (fun i a b c => (hB i a b c).1) (fun _ => Int.not_lt.mp hlt)
theorem suL_heap (n : Nat) : ∀ (f : Nat) (xs : List Int) (pos : Nat), n - pos ≤ f → xs.length = n → pos < n → Apt xs pos →
    (∀ i, 0 < i → i < xs.length → (i - 1) / 2 = pos → 0 < pos → xs.getD ((pos - 1) / 2) 0 ≤ xs.getD i 0) → Apt (suL n f xs pos).1 (suL n f xs pos).2 ∧ n ≤ 2 * (suL n f xs pos).2 + 1 := by
  intro f
  induction f with
  | zero => intro xs pos hf hn hp; omega
  | succ f ih =>
    intro xs pos hf hn hp hA hB
    have go : ∀ c, c < n → (c = 2 * pos + 1 ∨ c = 2 * pos + 2) → (∀ i, i < n → (i = 2 * pos + 1 ∨ i = 2 * pos + 2) → xs.getD c 0 ≤ xs.getD i 0) →
        Apt (suL n f (xs.set pos (xs.getD c 0)) c).1 (suL n f (xs.set pos (xs.getD c 0)) c).2 ∧ n ≤ 2 * (suL n f (xs.set pos (xs.getD c 0)) c).2 + 1 := by
      intro c hc hcc hmin
      have hpl : pos < xs.length := hn ▸ hp
      refine' hid fun kG_ => ?_
      obtain ⟨hc1, hc2, hc3, hc4⟩ := hv_c hcc
      refine' kG_ ?_
      clear kG_
      refine ih _ _ (hv_sub hf hc4 hp) (by rw [List.length_set]; exact hn) hc ?_ ?_
      · intro i h0 hi n1 n2
        rw [List.length_set] at hi
        rw [getD_set _ _ _ _ hpl, getD_set _ _ _ _ hpl]
        by_cases e1 : pos = i
        · subst e1
          rw [if_neg (hv_ne3 h0), if_pos rfl]
          exact hB c hc2 (hn ▸ hc) hc1 h0
        · rw [if_neg e1]
          by_cases e2 : pos = (i - 1) / 2
          · rw [if_pos e2]; exact hmin i (hn ▸ hi) (hv_i h0 e2)
          · rw [if_neg e2]; exact hA i h0 hi (Ne.symm e1) (Ne.symm e2)
      · intro i h0 hi e hc0
        rw [List.length_set] at hi
        rw [getD_set _ _ _ _ hpl, getD_set _ _ _ _ hpl]
        have hfar := hv_far h0 e hc4
        rw [if_pos hc1.symm, if_neg hfar]
        have := hA i h0 hi hfar.symm fun q => hc3 (q.symm.trans e)
        rw [e] at this
        exact this
    simp only [suL]
    split
    · rename_i h1
      split
      · rename_i h2
        refine go _ h2.1 (Or.inr rfl) ?_
        rintro i hi (rfl | rfl)
        · have := h2.2; omega
        · exact Int.le_refl _
      · rename_i h2
        refine go _ h1 (Or.inl rfl) ?_
        rintro i hi (rfl | rfl)
        · exact Int.le_refl _
        · by_cases q : xs.getD (2 * pos + 1) 0 < xs.getD (2 * pos + 2) 0
          · exact Int.le_of_lt q
          · exact absurd ⟨hi, q⟩ h2
    · rename_i h1
      exact ⟨hA, by dsimp only; omega⟩
theorem suF_heap (xs : List Int) (h : 0 < xs.length) (hA : Apt xs 0) : IsHeap (suF xs) := by
  have hlt := suL_lt xs.length xs.length xs 0 h
  refine' hid fun kG_ => ?_
  obtain ⟨hA', hleaf⟩ := suL_heap xs.length xs.length xs 0 (by (first | lia | omega)) rfl h hA (fun i a b c d => absurd d (by (first | lia | omega)))
  refine' kG_ ?_
  clear kG_
  simp only [suF]
  refine sd_heap _ _ _ _ (Nat.le_refl _) (by rw [List.length_set, suL_length]; exact hlt) ?_ ?_
  · intro i h0 hi n1 n2
    rw [List.length_set] at hi
    rw [getD_set _ _ _ _ (by rw [suL_length]; exact hlt), getD_set _ _ _ _ (by rw [suL_length]; exact hlt), if_neg (Ne.symm n1), if_neg (Ne.symm n2)]
    exact hA' i h0 hi n1 n2
  · intro i h0 hi e
    rw [List.length_set, suL_length] at hi
    (first | lia | omega)
theorem push_heap (xs : List Int) (x : Int) (h : IsHeap xs) : IsHeap (pushF xs x) := by
  refine sd_heap x _ _ _ (Nat.le_refl _) (by simp) ?_ ?_
  · intro i h0 hi n1 n2
    simp only [List.length_append, List.length_cons, List.length_nil] at hi
    have e1 : (xs ++ [x]).getD i 0 = xs.getD i 0 := by simp [List.getD, List.getElem?_append_left (Nat.lt_of_le_of_ne (Nat.le_of_lt_succ hi) n1)]
    have e2 : (xs ++ [x]).getD ((i - 1) / 2) 0 = xs.getD ((i - 1) / 2) 0 := by simp [List.getD, List.getElem?_append_left (Nat.lt_of_lt_of_le (hv_up h0) (Nat.le_of_lt_succ hi))]
    rw [e1, e2]
    exact h i h0 (Nat.lt_of_le_of_ne (Nat.le_of_lt_succ hi) n1)
  · intro i h0 hi e
    simp only [List.length_append, List.length_cons, List.length_nil] at hi
    exact absurd (e ▸ hv_up h0) (Nat.not_lt.mpr (Nat.le_of_lt_succ hi))
theorem pop_heap (xs : List Int) (h : IsHeap xs) (hp : 0 < xs.length) : IsHeap (popF xs) := by
  unfold popF
  split
  · intro i h0 hi; exact absurd hi (Nat.not_lt_zero _)
  · rename_i hne
    refine suF_heap _ (by simp; (first | lia | omega)) ?_
    intro i h0 hi n1 n2
    rw [List.length_set, List.length_dropLast] at hi
    have hd0 : 0 < xs.dropLast.length := by simp; (first | lia | omega)
    rw [getD_set _ _ _ _ hd0, getD_set _ _ _ _ hd0, if_neg (Ne.symm n2), if_neg (Ne.symm n1)]
    have e : ∀ j, j < xs.length - 1 → xs.dropLast.getD j 0 = xs.getD j 0 := fun j hj => by
      have hj2 : j < xs.length := Nat.lt_of_lt_of_le hj (Nat.sub_le _ _)
      simp [List.getD, hj, hj2]
    rw [e _ (Nat.lt_trans (hv_up h0) hi), e _ hi]
    exact h i h0 (Nat.lt_of_lt_of_le hi (Nat.sub_le _ _))
theorem heap_least (xs : List Int) (h : IsHeap xs) : ∀ i, i < xs.length → xs.getD 0 0 ≤ xs.getD i 0 := by
  intro i
  induction i using Nat.strongRecOn with
  | ind i ih =>
    intro hi
    by_cases e : i = 0
    · subst e; exact Int.le_refl _
    · exact Int.le_trans (ih ((i - 1) / 2) (by (first | lia | omega)) (by (first | lia | omega))) (h i (by (first | lia | omega)) hi)
theorem pop_least (xs : List Int) (h : IsHeap xs) (hp : 0 < xs.length) : ∀ y ∈ xs, popV xs ≤ y := by
  have e : popV xs = xs.getD 0 0 := by
    unfold popV
    split
    · match xs, ‹xs.length = 1› with
      | [a], _ => rfl
    · rfl
  intro y hy
  refine' hid fun kG_ => ?_
  obtain ⟨i, hi, rfl⟩ := List.getElem_of_mem hy
  refine' kG_ ?_
  clear kG_
  have := heap_least xs h i hi
  rw [e]
  simpa [List.getD, hi] using this

end
section
/-! _law_nearest, plain: what is found and what the heap still holds are all subsets -/
noncomputable abbrev bx (a b : Int) : Int := Builtin.bitXor a b
noncomputable def cT (tn : List (Int × Int)) (j : Nat) : Int := (tn.getD j (0, 0)).1
noncomputable def pT (tn : List (Int × Int)) (j : Nat) : Int := (tn.getD j (0, 0)).2
noncomputable def sub (tn : List (Int × Int)) : Nat → Int → Int → List (Int × Int)
  | 0, w, b => [(w, b)]
  | d + 1, w, b => (w, b) :: (sub tn d (w + cT tn (3 - d)) (bx b (pT tn (3 - d))) ++ sub tn d (w + cT tn (3 - d) - cT tn (2 - d)) (bx (bx b (pT tn (2 - d))) (pT tn (3 - d))))
noncomputable def allSub (tn : List (Int × Int)) (w b : Int) : List (Int × Int) := (w, b) :: sub tn 3 (w + cT tn 0) (bx b (pT tn 0))
noncomputable def subK (tn : List (Int × Int)) (k : Int) : List (Int × Int) := sub tn (3 - (k % 16).toNat) (k / 1048576) (k / 16 % 65536)
theorem dec_w {w b t : Int} (h1 : 0 ≤ b) (h2 : b < 65536) (h3 : 0 ≤ t) (h4 : t < 16) : codeK w b t / 1048576 = w := by unfold codeK; (first | lia | omega)
theorem dec_b {w b t : Int} (h1 : 0 ≤ b) (h2 : b < 65536) (h3 : 0 ≤ t) (h4 : t < 16) : codeK w b t / 16 % 65536 = b := by unfold codeK; (first | lia | omega)
theorem dec_t {w b t : Int} (h3 : 0 ≤ t) (h4 : t < 16) : codeK w b t % 16 = t := by unfold codeK; (first | lia | omega)
theorem subK_code {tn : List (Int × Int)} {w b t : Int} (h1 : 0 ≤ b) (h2 : b < 65536) (h3 : 0 ≤ t) (h4 : t < 16) : subK tn (codeK w b t) = sub tn (3 - t.toNat) w b := by
  unfold subK; rw [dec_w h1 h2 h3 h4, dec_b h1 h2 h3 h4, dec_t h3 h4]
theorem sub_pos (tn : List (Int × Int)) : ∀ (d : Nat) (w b : Int), 0 < (sub tn d w b).length
  | 0, _, _ => by simp [sub]
  | d + 1, _, _ => by simp [sub]
theorem sub_len (tn : List (Int × Int)) : ∀ (d : Nat) (w b : Int), (sub tn d w b).length + 1 = 2 ^ (d + 1)
  | 0, _, _ => by simp [sub]
  | d + 1, w, b => by
    have h1 := sub_len tn d (w + cT tn (3 - d)) (bx b (pT tn (3 - d)))
    have h2 := sub_len tn d (w + cT tn (3 - d) - cT tn (2 - d)) (bx (bx b (pT tn (2 - d))) (pT tn (3 - d)))
    simp only [sub, List.length_cons, List.length_append]
    rw [Nat.pow_succ]
    (first | lia | omega)
theorem allSub_len (tn : List (Int × Int)) (w b : Int) : (allSub tn w b).length = 16 := by
  have := sub_len tn 3 (w + cT tn 0) (bx b (pT tn 0))
  simp only [allSub, List.length_cons]
  (first | lia | omega)
structure NearOk (tn : List (Int × Int)) (all fs : List (Int × Int)) (xs : List Int) : Prop where
  heap : IsHeap xs
  perm : (fs ++ xs.flatMap (subK tn)).Perm all
  sorted : (fs.map (·.1)).Pairwise (· ≤ ·)
  below : ∀ f ∈ fs, ∀ k ∈ xs, f.1 ≤ k / 1048576
theorem flat_len (tn : List (Int × Int)) : ∀ xs : List Int, xs.length ≤ (xs.flatMap (subK tn)).length
  | [] => by simp
  | k :: r => by
    have h1 := flat_len tn r
    have h2 : 0 < (subK tn k).length := sub_pos _ _ _ _
    simp only [List.flatMap_cons, List.length_append, List.length_cons]
    (first | lia | omega)
theorem NearOk.len {tn all fs : List (Int × Int)} {xs : List Int} (h : NearOk tn all fs xs) (ha : all.length = 16) : fs.length + xs.length ≤ 16 ∧ (xs.length = 0 → fs.length = 16) := by
  have e := h.perm.length_eq
  rw [List.length_append, ha] at e
  have := flat_len tn xs
  refine ⟨by (first | lia | omega), fun q => ?_⟩
  have : xs = [] := List.eq_nil_of_length_eq_zero q
  subst this
  simpa using e
theorem snoc_sorted {l : List Int} {x : Int} (h : l.Pairwise (· ≤ ·)) (hx : ∀ y ∈ l, y ≤ x) : (l ++ [x]).Pairwise (· ≤ ·) := by
  rw [List.pairwise_append]
  exact ⟨h, by simp, fun a ha b hb => by rw [List.mem_singleton.mp hb]; exact hx a ha⟩
theorem NearOk.leaf {tn all fs : List (Int × Int)} {xs ys : List Int} {v w b t : Int} (h : NearOk tn all fs xs) (hp : 0 < xs.length) (hv : v = popV xs) (hy : ys = popF xs) (hc : v = codeK w b t) (h1 : 0 ≤ b) (h2 : b < 65536) (h3 : 0 ≤ t) (h4 : t < 16) (ht : ¬ t + 1 < 4) :
    NearOk tn all (fs ++ [(w, b)]) ys := by
  have pp := pop_perm xs hp
  rw [← hv, ← hy] at pp
  have hle := pop_least xs h.heap hp
  rw [← hv] at hle
  have hw : v / 1048576 = w := by rw [hc]; exact dec_w h1 h2 h3 h4
  have hvm : v ∈ xs := pp.mem_iff.mp (List.mem_cons_self ..)
  refine ⟨hy ▸ pop_heap xs h.heap hp, ?_, ?_, ?_⟩
  · refine List.Perm.trans ?_ h.perm
    rw [List.append_assoc]
    refine List.Perm.append_left _ ?_
    refine List.Perm.trans ?_ (pp.flatMap_right (subK tn))
    rw [List.flatMap_cons, hc, subK_code h1 h2 h3 h4, show 3 - t.toNat = 0 by (first | lia | omega)]
    exact List.Perm.refl _
  · rw [List.map_append]
    refine snoc_sorted h.sorted ?_
    intro y hy'
    refine' hid fun kG_ => ?_
    obtain ⟨f, hf, rfl⟩ := List.mem_map.mp hy'
    refine' kG_ ?_
    clear kG_
    have := h.below f hf v hvm
    rw [hw] at this; exact this
  · intro f hf k hk
    have hkx : k ∈ xs := pp.mem_iff.mp (List.mem_cons_of_mem _ hk)
    rcases List.mem_append.mp hf with hf | hf
    · exact h.below f hf k hkx
    · rw [List.mem_singleton.mp hf]
      have := hle k hkx
      show w ≤ _
      rw [← hw]
      exact Int.ediv_le_ediv (by decide) this
theorem node_nums {t : Int} (h3 : 0 ≤ t) (ht : t + 1 < 4) : ∃ d, 3 - t.toNat = d + 1 ∧ 3 - (t + 1).toNat = d ∧ (t + 1).toNat = 3 - d ∧ t.toNat = 2 - d := by
  have h : t = 0 ∨ t = 1 ∨ t = 2 := by (first | lia | omega)
  rcases h with rfl | rfl | rfl
  · exact ⟨2, rfl, rfl, rfl, rfl⟩
  · exact ⟨1, rfl, rfl, rfl, rfl⟩
  · exact ⟨0, rfl, rfl, rfl, rfl⟩
theorem NearOk.node {tn all fs : List (Int × Int)} {xs ys zs1 zs2 : List Int} {v w b t k1 k2 : Int} (h : NearOk tn all fs xs) (hp : 0 < xs.length) (hv : v = popV xs) (hy : ys = popF xs) (hc : v = codeK w b t) (h1 : 0 ≤ b) (h2 : b < 65536) (h3 : 0 ≤ t) (h4 : t < 16) (ht : t + 1 < 4)
    (hz1 : zs1 = pushF ys k1) (hz2 : zs2 = pushF zs1 k2) (hk1 : k1 = codeK (w + cT tn (t + 1).toNat) (bx b (pT tn (t + 1).toNat)) (t + 1)) (hk2 : k2 = codeK (w + cT tn (t + 1).toNat - cT tn t.toNat) (bx (bx b (pT tn t.toNat)) (pT tn (t + 1).toNat)) (t + 1))
    (b1 : 0 ≤ bx b (pT tn (t + 1).toNat) ∧ bx b (pT tn (t + 1).toNat) < 65536) (b2 : 0 ≤ bx (bx b (pT tn t.toNat)) (pT tn (t + 1).toNat) ∧ bx (bx b (pT tn t.toNat)) (pT tn (t + 1).toNat) < 65536)
    (hc0 : 0 ≤ cT tn t.toNat) (hcc : cT tn t.toNat ≤ cT tn (t + 1).toNat) :
    NearOk tn all (fs ++ [(w, b)]) zs2 := by
  have pp := pop_perm xs hp
  rw [← hv, ← hy] at pp
  have hle := pop_least xs h.heap hp
  rw [← hv] at hle
  have hw : v / 1048576 = w := by rw [hc]; exact dec_w h1 h2 h3 h4
  have hvm : v ∈ xs := pp.mem_iff.mp (List.mem_cons_self ..)
  have hyh : IsHeap ys := hy ▸ pop_heap xs h.heap hp
  have hz1h : IsHeap zs1 := hz1 ▸ push_heap ys k1 hyh
  have q1 : zs1.Perm (k1 :: ys) := hz1 ▸ pushF_perm ys k1
  have q2 : zs2.Perm (k2 :: zs1) := hz2 ▸ pushF_perm zs1 k2
  have q3 : zs2.Perm (k2 :: k1 :: ys) := q2.trans (q1.cons _)
  have w1 : k1 / 1048576 = w + cT tn (t + 1).toNat := by rw [hk1]; exact dec_w b1.1 b1.2 (by (first | lia | omega)) (by (first | lia | omega))
  have w2 : k2 / 1048576 = w + cT tn (t + 1).toNat - cT tn t.toNat := by rw [hk2]; exact dec_w b2.1 b2.2 (by (first | lia | omega)) (by (first | lia | omega))
  have low : ∀ k ∈ zs2, w ≤ k / 1048576 := by
    intro k hk
    have hk' := q3.mem_iff.mp hk
    rcases List.mem_cons.mp hk' with rfl | hk'
    · (first | lia | omega)
    · rcases List.mem_cons.mp hk' with rfl | hk'
      · (first | lia | omega)
      · have hkx : k ∈ xs := pp.mem_iff.mp (List.mem_cons_of_mem _ hk')
        have := hle k hkx
        rw [← hw]
        exact Int.ediv_le_ediv (by decide) this
  refine ⟨hz2 ▸ push_heap zs1 k2 hz1h, ?_, ?_, ?_⟩
  · refine List.Perm.trans ?_ h.perm
    rw [List.append_assoc]
    refine List.Perm.append_left _ ?_
    refine List.Perm.trans ?_ (pp.flatMap_right (subK tn))
    refine List.Perm.trans ((q3.flatMap_right (subK tn)).append_left _) ?_
    simp only [List.flatMap_cons]
    rw [hc, subK_code h1 h2 h3 h4, hk1, subK_code b1.1 b1.2 (by (first | lia | omega)) (by (first | lia | omega)), hk2, subK_code b2.1 b2.2 (by (first | lia | omega)) (by (first | lia | omega))]
    refine' hid fun kG_ => ?_
    obtain ⟨d, hd, e1, e2, e3⟩ := node_nums h3 ht
    refine' kG_ ?_
    clear kG_
    rw [hd, e1, e2, e3]
    simp only [sub, List.cons_append, List.nil_append, List.append_assoc]
    refine List.Perm.cons _ ?_
    rw [← List.append_assoc, ← List.append_assoc]
    exact List.Perm.append_right _ List.perm_append_comm
  · rw [List.map_append]
    refine snoc_sorted h.sorted ?_
    intro y hy'
    refine' hid fun kG_ => ?_
    obtain ⟨f, hf, rfl⟩ := List.mem_map.mp hy'
    refine' kG_ ?_
    clear kG_
    have := h.below f hf v hvm
    rw [hw] at this; exact this
  · intro f hf k hk
    rcases List.mem_append.mp hf with hf | hf
    · have := h.below f hf v hvm
      rw [hw] at this
      exact Int.le_trans this (low k hk)
    · rw [List.mem_singleton.mp hf]; exact low k hk
theorem NearOk.start {tn : List (Int × Int)} {w b : Int} (hc0 : 0 ≤ cT tn 0) (b1 : 0 ≤ bx b (pT tn 0) ∧ bx b (pT tn 0) < 65536) : NearOk tn (allSub tn w b) [(w, b)] [codeK (w + cT tn 0) (bx b (pT tn 0)) 0] := by
  refine ⟨?_, ?_, ?_, ?_⟩
  · intro i h0 hi; simp at hi; (first | lia | omega)
  · simp only [List.flatMap_cons, List.flatMap_nil, List.append_nil]
    rw [subK_code b1.1 b1.2 (by (first | lia | omega)) (by (first | lia | omega))]
    exact List.Perm.refl _
  · simp
  · intro f hf k hk
    rw [List.mem_singleton.mp hf, List.mem_singleton.mp hk, dec_w b1.1 b1.2 (by (first | lia | omega)) (by (first | lia | omega))]
    show w ≤ w + cT tn 0
    (first | lia | omega)

end
section
/-! pairs of ints in the ledger -/
inductive PairP (led : List (Addr × Obj)) (v : Value) (q : Int × Int) : Prop
  | mk (a n t1 t2 : _) (_ : v = .ref a) (_ : (a, tupO [.int q.1 t1, .int q.2 t2] n) ∈ led)
inductive PairsP (led : List (Addr × Obj)) : List Value → List (Int × Int) → Prop
  | nil : PairsP led [] []
  | cons {v : Value} {q : Int × Int} {vs : List Value} {ps : List (Int × Int)} : PairP led v q → PairsP led vs ps → PairsP led (v :: vs) (q :: ps)
theorem PairP.mono {led led' : List (Addr × Obj)} (hs : ∀ p ∈ led, p ∈ led') {v : Value} {q : Int × Int} (h : PairP led v q) : PairP led' v q :=
  let ⟨a, n, t1, t2, e, hm⟩ := h; ⟨a, n, t1, t2, e, hs _ hm⟩
theorem PairsP.mono {led led' : List (Addr × Obj)} (hs : ∀ p ∈ led, p ∈ led') {vs : List Value} {ps : List (Int × Int)} (h : PairsP led vs ps) : PairsP led' vs ps := by
  induction h with
  | nil => exact .nil
  | cons h _ ih => exact .cons (h.mono hs) ih
theorem PairsP.length {led : List (Addr × Obj)} {vs : List Value} {ps : List (Int × Int)} (h : PairsP led vs ps) : vs.length = ps.length := by
  induction h with
  | nil => rfl
  | cons _ _ ih => simp [ih]
theorem PairsP.append {led : List (Addr × Obj)} {vs us : List Value} {ps qs : List (Int × Int)} (h : PairsP led vs ps) (k : PairsP led us qs) : PairsP led (vs ++ us) (ps ++ qs) := by
  induction h with
  | nil => exact k
  | cons h _ ih => exact .cons h ih
theorem PairsP.at {led : List (Addr × Obj)} {vs : List Value} {ps : List (Int × Int)} (h : PairsP led vs ps) : ∀ {i : Nat}, i < ps.length → ∃ a n t1 t2, vs[i]? = some (.ref a) ∧ (a, tupO [.int (ps.getD i (0, 0)).1 t1, .int (ps.getD i (0, 0)).2 t2] n) ∈ led := by
  induction h with
  | nil => exact fun h => absurd h (Nat.not_lt_zero _)
  | cons h r ih =>
    intro i hi
    cases i with
    | zero =>
      refine' hid fun kG_ => ?_
      obtain ⟨a, n, t1, t2, rfl, hm⟩ := h
      refine' kG_ ?_
      clear kG_
      exact ⟨a, n, t1, t2, rfl, hm⟩
    | succ i =>
      refine' hid fun kG_ => ?_
      obtain ⟨a, n, t1, t2, e, hm⟩ := ih (i := i) (by simpa using hi)
      refine' kG_ ?_
      clear kG_
      exact ⟨a, n, t1, t2, by simpa using e, by simpa using hm⟩
section
variable {prog : Program} {w : World} {A : Around} {E : Value → Shared → Prop} {s : Shared} {h₀ : Heap} {L l : Addr}
theorem item_at {value slice : PySem.Expr} {news : List (Addr × Obj)} {vs : List Value} {v : Value} {n : Nat} {k : Int} {u : Tok} {Q : Value → Shared → Prop} (N : News h₀ L s.heap news) (hm : (l, W.listOf vs.toArray n) ∈ news) (h0 : 0 ≤ k) (hfit : k < 2 ^ 63) (e : vs[k.toNat]? = some v) (h : Q v s)
    (hs : subscripted slice false (.ref l) (.int k u) = operate [.ref l, .int k u] (getItem (.ref l) (.int k u)) := by with_unfolding_all rfl) :
    wpAny (model prog w) A (subscriptTail value slice (.ref l) (.int k u)) Q E s := by
  have hl : s.heap.IsList l vs.toArray := ⟨_, (N _ hm).1, rfl, n, rfl⟩
  exact tail_any hl.typeIs slot_list_getitem.lookup (wpAny_getItem_list hl h0 hfit (by simpa using e) h) hs
end
theorem news_in {h₀ h : Heap} {L : Addr} {news : List (Addr × Obj)} {p : Addr × Obj} (N : News h₀ L h news) (hp : p ∈ news) : News h₀ L h (p :: news) := fun q hq => by
  rcases List.mem_cons.mp hq with rfl | hq
  · exact N _ hp
  · exact N q hq
theorem mem2 {α : Type} {a b p : α} {l : List α} (h : p ∈ l) : p ∈ a :: b :: l := .tail _ (.tail _ h)
theorem mem3 {α : Type} {a b c p : α} {l : List α} (h : p ∈ l) : p ∈ a :: b :: c :: l := .tail _ (mem2 h)
theorem mem4 {α : Type} {a b c d p : α} {l : List α} (h : p ∈ l) : p ∈ a :: b :: c :: d :: l := .tail _ (mem3 h)
theorem mem5 {α : Type} {a b c d e p : α} {l : List α} (h : p ∈ l) : p ∈ a :: b :: c :: d :: e :: l := .tail _ (mem4 h)
theorem mem6 {α : Type} {a b c d e f p : α} {l : List α} (h : p ∈ l) : p ∈ a :: b :: c :: d :: e :: f :: l := .tail _ (mem5 h)
theorem mem7 {α : Type} {a b c d e f g p : α} {l : List α} (h : p ∈ l) : p ∈ a :: b :: c :: d :: e :: f :: g :: l := .tail _ (mem6 h)
theorem mem8 {α : Type} {a b c d e f g i p : α} {l : List α} (h : p ∈ l) : p ∈ a :: b :: c :: d :: e :: f :: g :: i :: l := .tail _ (mem7 h)

end
section
/-! a for over a list of the ledger, any target; the ledger may grow -/
noncomputable def TurnEnd (h₀ : Heap) (L : Addr) (Jn : (Str → Option Value) → List (Addr × Obj) → Prop) (q : Addr × Obj) (s₁ s₂ : Shared) : Prop :=
  ∃ h' tk m' nx, s₂ = { s₁ with heap := h', toks := tk } ∧ Fr h₀ L h' m' ∧ News h₀ L h' (q :: nx) ∧ (∀ p ∈ nx, p.1 ≠ q.1) ∧ Jn m' nx
theorem TurnEnd.intro {h₀ : Heap} {L : Addr} {Jn : (Str → Option Value) → List (Addr × Obj) → Prop} {q : Addr × Obj} {m' : Str → Option Value} {all nx : List (Addr × Obj)} {s₁ : Shared} {h' : Heap} {tk : Nat} (F : Fr h₀ L h' m') (N : News h₀ L h' all)
    (hn : ∀ p ∈ q :: nx, p ∈ all) (ho : ∀ p ∈ nx, p.1 ≠ q.1) (hj : Jn m' nx) : TurnEnd h₀ L Jn q s₁ { s₁ with heap := h', toks := tk } := ⟨h', tk, m', nx, rfl, F, fun p hp => N p (hn p hp), ho, hj⟩
section
variable {prog : Program} {w : World} {A : Around} {E : Value → Shared → Prop} {s : Shared} {env : Env} {h₀ : Heap} {target : PySem.Expr} {body : List Stmt} {Q : Flow → Shared → Prop}
theorem turns_list {l : Addr} {vs : List Value} {nn : Nat} {m₀ : Str → Option Value} {news : List (Addr × Obj)} (J : Nat → (Str → Option Value) → List (Addr × Obj) → Prop)
    (hh : A.handled = none) (hl : (l, W.listOf vs.toArray nn) ∈ news) (F : Fr h₀ env.locals s.heap m₀) (N : News h₀ env.locals s.heap news) (hj : J 0 m₀ news) (hkeep : ∀ i m nx, J i m nx → (l, W.listOf vs.toArray nn) ∈ nx)
    (turn : ∀ (i : Nat) v m₁ nx h tk I oI, vs[i]? = some v → J i m₁ nx → (∀ p ∈ nx, p.1 ≠ I) → Fr h₀ env.locals h m₁ → News h₀ env.locals h ((I, oI) :: nx) →
      wpAny (model prog w) A (assign target env v) (fun _ s₃ => wpAny (model prog w) A (execs body env) (fun f s₄ => match f with
        | .ret v => Q (.ret v) s₄
        | .brk => Q .next s₄
        | _ => TurnEnd h₀ env.locals (J (i + 1)) (I, oI) { s with heap := h, toks := tk } s₄) E s₃) E { s with heap := h, toks := tk })
    (done : ∀ m₁ nx h tk, J vs.length m₁ nx → Fr h₀ env.locals h m₁ → News h₀ env.locals h nx → Q .next { s with heap := h, toks := tk }) :
    wpAny (model prog w) A (pyIter (.ref l)) (fun it s₂ => TurnsAt prog w A h₀ env target body Q E it s₂) E s := by
  have hol : s.heap.get? l = some (W.listOf vs.toArray nn) := (N _ hl).1
  have hls : s.heap.IsList l vs.toArray := ⟨_, hol, rfl, nn, rfl⟩
  have hne : l ≠ s.heap.objs.size := Nat.ne_of_lt (Heap.lt_size hol)
  refine wpAny_pyIter_list hls ?_
  have KW := KTurns.ofWalks (target := target) (Walks.list (prog := prog) (w := w) hh s.heap.objs.size l hne vs.toArray) (fun i v s Q E st hQ => letGo_listiter st.1 hQ)
  have hlen : vs.toArray.size = vs.length := by simp
  rw [hlen] at KW
  have hIn : h₀.get? s.heap.objs.size = none := next_is_new F
  refine ⟨_, _, _, _, _, _, _, m₀, news, (fun i m nx => J i m nx), rfl, KW, ?_, ?_, ?_, ⟨⟨_, Heap.get?_push_size _ rfl, rfl, rfl⟩, hls.at fun o e => Heap.get?_push_of_some _ e⟩, F.push _, (fun p hp => ⟨Heap.get?_push_of_some _ (N p hp).1, (N p hp).2⟩), hj, ?_, ?_⟩
  · intro hm
    rcases List.mem_cons.mp hm with e | hm
    · exact absurd F.ns.lt (e ▸ Nat.lt_irrefl _)
    · exact (N _ hl).2.1 ((List.mem_singleton.mp hm).symm)
  · intro b hb
    rw [List.mem_singleton.mp hb]
    exact hIn
  · intro p hp hI
    exact absurd (Heap.lt_size (N p hp).1) ((List.mem_singleton.mp hI) ▸ Nat.lt_irrefl _)
  · intro i v m₁ nx h₁ tk₁ own hi hP hJ hoff hown hget hfp hst F₁ N₁
    have hl₁ := hkeep _ _ _ hJ
    refine' hid fun kG_ => ?_
    obtain ⟨oI, hoI, hr⟩ := id hst.1
    refine' kG_ ?_
    clear kG_
    have hmI : (s.heap.objs.size, oI) ∈ own := hfp _ (List.mem_cons_self ..) hIn oI hoI
    have Nn : News h₀ env.locals h₁ nx := fun p hp => N₁ p (List.mem_append_right _ hp)
    have hvi : vs[i]? = some v := by simpa using hP
    refine wpAny_mono (turn i v m₁ nx h₁ tk₁ s.heap.objs.size oI hvi hJ (fun p hp e => hoff p hp (List.mem_singleton.mpr e)) F₁ (fun p hp => by
      rcases List.mem_cons.mp hp with rfl | hp
      · exact N₁ _ (List.mem_append_left _ hmI)
      · exact Nn p hp)) (fun _ s₃ h₃ => wpAny_mono h₃ (fun f s₄ h₄ => ?_) fun _ _ e => e) fun _ _ e => e
    have fin : TurnEnd h₀ env.locals (J (i + 1)) (s.heap.objs.size, oI) { s with heap := h₁, toks := tk₁ } s₄ → LoopStepU h₀ env.locals [s.heap.objs.size] own (J (i + 1)) { s with heap := h₁, toks := tk₁ } .next s₄ := by
      rintro ⟨h', tk, m', nx', e, F', N', ho, hJ'⟩
      refine ⟨rfl, h', tk, m', nx', e, F', fun p hp => ?_, fun p hp hI => ho p hp (List.mem_singleton.mp hI), hJ'⟩
      rcases List.mem_append.mp hp with hp | hp
      · have hg := hget p hp
        rcases List.mem_cons.mp (hown p hp) with e1 | e1
        · have hq : p = (s.heap.objs.size, oI) := by
            rw [e1, hoI] at hg
            exact Prod.ext e1 (Option.some.inj hg).symm
          rw [hq]; exact N' _ (List.mem_cons_self ..)
        · have e2 : p.1 = l := List.mem_singleton.mp e1
          have hq : p = (l, W.listOf vs.toArray nn) := by
            rw [e2, (Nn _ hl₁).1] at hg
            exact Prod.ext e2 (Option.some.inj hg).symm
          rw [hq]; exact N' _ (List.mem_cons_of_mem _ (hkeep _ _ _ hJ'))
      · exact N' p (List.mem_cons_of_mem _ hp)
    cases f with
    | ret v => exact .ret h₄
    | brk => exact .brk h₄
    | next => exact .next (fin h₄)
    | cont => exact .cont (fin h₄)
  · intro h' tk m' nx' F' N' _ hJ
    exact done m' nx' h' tk hJ F' N'
end

end
section
/-! a list comprehension whose own name is a cell; by an invariant over what is made and the ledger -/
open PyProof.Rows.LCg in
section
variable {prog : Program} {w : World} {A : Around} {E : Value → Shared → Prop} {s : Shared} {h₀ : Heap} {L : Addr} {m : Str → Option Value} {env : Env}
noncomputable def cellNone : Obj := { cls := .type "cell", data := .cell none }
theorem newEnv_cell {scope : Scope} {globals : Addr} {cl : List (Str × Addr)} {qual : Str} {x : Str} {Q : Env → Shared → Prop}
    (hcf : ∀ n, cellsFrom n scope.names cl = (x, n) :: cl) (hpc : ∀ h, pushCells h scope.names = h.push cellNone)
    (hQ : Q (newEnv scope s.heap.objs.size globals ((x, s.heap.objs.size + 1) :: cl) qual none .none (some env) builtinsNs) { s with heap := (s.heap.push { cls := .type "dict", data := .dict #[] }).push cellNone }) :
    wpAny (model prog w) A (newFunctionEnv scope globals cl [] qual none .none (some env)) Q E s := by
  simp only [newFunctionEnv, Option.isSome_some, if_true]
  refine wpAny_bind (wpAny_alloc ?_)
  refine wpAny_bind (wpAny_layCells _ (fun name kind cells => by cases hkc : kind == NameKind.cell <;> simp [hkc]) _ _ _ _ ?_)
  rw [hcf, hpc]
  rw [show ({ s with heap := s.heap.push { cls := .type "dict", data := .dict #[] } } : Shared).heap.objs.size = s.heap.objs.size + 1 from Heap.size_push ..]
  refine wpAny_bind ?_
  rw [List.forIn_nil]
  exact wpAny_pure (wpAny_pure hQ)
noncomputable def Off4 (I C D K : Addr) (nx : List (Addr × Obj)) : Prop := ∀ p ∈ nx, p.1 ≠ I ∧ p.1 ≠ C ∧ p.1 ≠ D ∧ p.1 ≠ K
noncomputable def CEnd (h₀ : Heap) (L : Addr) (m : Str → Option Value) (s₁ : Shared) (I : Addr) (oI : Obj) (C : Addr) (oC : Obj) (D : Addr) (oD : Obj) (K : Addr) (oK : Obj) (rest : Value → List (Addr × Obj) → Prop) (y : Value) (s₂ : Shared) : Prop :=
  ∃ h' tk nx, s₂ = { s₁ with heap := h', toks := tk } ∧ Fr h₀ L h' m ∧ News h₀ L h' ((I, oI) :: (C, oC) :: (D, oD) :: (K, oK) :: nx) ∧ Off4 I C D K nx ∧ rest y nx
theorem CEnd.intro {I C D K : Addr} {s₁ : Shared} {oI oC oD oK : Obj} {rest : Value → List (Addr × Obj) → Prop} {y : Value} {h' : Heap} {tk : Nat} {all : List (Addr × Obj)}
    (F : Fr h₀ L h' m) (N : News h₀ L h' all) (nx : List (Addr × Obj)) (sub : ∀ p ∈ (I, oI) :: (C, oC) :: (D, oD) :: (K, oK) :: nx, p ∈ all) (off : Off4 I C D K nx) (r : rest y nx) :
    CEnd h₀ L m s₁ I oI C oC D oD K oK rest y { s₁ with heap := h', toks := tk } := ⟨h', tk, nx, rfl, F, fun p hp => N p (sub p hp), off, r⟩
noncomputable def CellSrc (prog : Program) (w : World) (A : Around) (h₀ : Heap) (L : Addr) (m : Str → Option Value) (E : Value → Shared → Prop) (env : Env) (elt : PySem.Expr) (x : Str) (px : Pos) (iter : PySem.Expr) (pos : Pos) (scope : Scope) (cl : List (Str × Addr)) (Q : Value → Shared → Prop) (xv : Value) (s₁ : Shared) : Prop :=
  wpAny (model prog w) A (pyIter xv) (fun it s₂ => wpAny (model prog w) A (newList []) (fun acc s₃ => wpAny (model prog w) A (newFunctionEnv scope env.globals cl [] env.qual none .none (some env)) (fun cenv s₄ =>
    codeAny (model prog w) A (.compStart (.ListComp elt [⟨.Name x px, iter, [], 0⟩] scope pos) 0 it acc { cenv with scope := relabel scope env }) (compPost (model prog w) A E none Q acc cenv.locals) s₄) E s₃) E s₂) E s₁
inductive J_comp (St : Nat → Heap → Prop) (J : Nat → List Value → List (Addr × Obj) → Prop) (s₂ : Shared) (n : Nat) (h₀ : Heap) (L I D : Addr) (m : Str → Option Value) (k : Nat) (s' : Shared) : Prop
  | mk (h' : Heap) (tk i : Nat) (ys : List Value) (m' : Str → Option Value) (nx : List (Addr × Obj)) (oK : Obj) (vK : Option Value) (_ : s' = { s₂ with heap := h', toks := tk }) (_ : i ≤ n) (_ : k = n + 1 - i) (_ : ys.length = i) (_ : St i h') (_ : Fr h₀ L h' m) (_ : h'.Ns (D + 1) m') (_ : News h₀ L h' ((D, lst ys) :: (D + 1 + 1, oK) :: nx)) (_ : oK.data = .cell vK) (_ : Off4 I (D + 1) D (D + 1 + 1) nx) (_ : J i ys nx) : J_comp St J s₂ n h₀ L I D m k s'
theorem block_C {elt iter : PySem.Expr} {x : Str} {px : Pos} {scope : Scope} {cl : List (Str × Addr)} {pos : Pos} {s₂ : Shared} {I : Addr} {fp : List Addr} {n : Nat} {P : Nat → Value → Prop} {St : Nat → Heap → Prop} {news : List (Addr × Obj)}
    {RR : Value → Addr → Result → Shared → Prop} (J : Nat → List Value → List (Addr × Obj) → Prop)
    (W : Walks prog w A I fp [I] n P St) (hsz : n ≤ sizeLine) (hIo : ∀ i h, St i h → ∃ o, h.get? I = some o)
    (hSt : ∀ i h h' o j ys nw, St i h → h.get? I = some o → h'.get? I = some o → (∀ b o, h₀.get? b = some o → h'.get? b = some o) → News h₀ L h' nw → J j ys nw → St i h')
    (hcf : ∀ n, cellsFrom n scope.names cl = (x, n) :: cl) (hpc : ∀ h, pushCells h scope.names = h.push cellNone) (hkind : scope.kind = .function) (hx : (relabel scope env).names.lookup x = some .cell) (hst : St 0 s₂.heap) (hfp : ∀ b ∈ fp, b < s₂.heap.objs.size)
    (F : Fr h₀ L s₂.heap m) (N : News h₀ L s₂.heap news) (hIL : L ≠ I) (hI₀ : h₀.get? I = none) (off : ∀ p ∈ news, p.1 ≠ I) (hJ : J 0 [] news)
    (turn : ∀ i v ys nx oI C oC D K oK h tk (E' : Value → Shared → Prop), P i v → J i ys nx → oK.data = .cell (some v) → Fr h₀ L h m → News h₀ L h ((I, oI) :: (C, oC) :: (D, lst ys) :: (K, oK) :: nx) → Off4 I C D K nx →
      (@Ne Nat I C ∧ @Ne Nat I D ∧ @Ne Nat I K ∧ @Ne Nat C D ∧ @Ne Nat C K ∧ @Ne Nat D K) →
      wpAny (model prog w) A (eval elt (compEnvC scope ((x, K) :: cl) C env)) (CEnd h₀ L m { s₂ with heap := h, toks := tk } I oI C oC D (lst ys) K oK (fun y nx' => J (i + 1) (ys ++ [y]) nx')) E' { s₂ with heap := h, toks := tk })
    (hRR : ∀ D C h tk m' ys nx, Fr h₀ L h m → News h₀ L h ((D, lst ys) :: nx) → (∀ p ∈ nx, p.1 ≠ D) → h.Ns C m' → h₀.get? C = none → C ≠ L → C ≠ D → (∀ p ∈ nx, p.1 ≠ C) → J n ys nx → RR (.ref D) C (.ok .next) { s₂ with heap := h, toks := tk }) :
    wpAny (model prog w) A (newList []) (fun acc s₃ => wpAny (model prog w) A (newFunctionEnv scope env.globals cl [] env.qual none .none (some env)) (fun cenv s₄ =>
      codeAny (model prog w) A (.compStart (.ListComp elt [⟨.Name x px, iter, [], 0⟩] scope pos) 0 (.ref I) acc { cenv with scope := relabel scope env }) (RR acc cenv.locals) s₄) E s₃) E s₂ := by
  refine wpAny_newObj_type (newEnv_cell hcf hpc ?_)
  dsimp only
  generalize hD : s₂.heap.objs.size = D
  generalize hH2 : s₂.heap.push { cls := .type "list", dict := none, data := .seq ([] : List Value).toArray } = H2
  have hH2s : H2.objs.size = D + 1 := by rw [← hH2, Heap.size_push, hD]
  have hCs : (H2.push { cls := .type "dict", data := .dict #[] }).objs.size = D + 1 + 1 := by rw [Heap.size_push, hH2s]
  generalize hh1 : (H2.push { cls := .type "dict", data := .dict #[] }).push cellNone = h₁
  have old2 : ∀ b o, H2.get? b = some o → h₁.get? b = some o := fun b o e => by rw [← hh1]; exact Heap.get?_push_of_some _ (Heap.get?_push_of_some _ e)
  have old : ∀ b o, s₂.heap.get? b = some o → h₁.get? b = some o := fun b o e => old2 b o (by rw [← hH2]; exact Heap.get?_push_of_some _ e)
  have hacc : h₁.get? D = some (lst []) := old2 _ _ (by rw [← hH2, ← hD]; exact Heap.get?_push_size _ rfl)
  have hnsC : h₁.Ns (D + 1) (fun _ => none) := by
    have q := Heap.Ns.new H2 (.type "dict")
    rw [hH2s] at q
    rw [← hh1]
    exact q.push _
  have hK : h₁.get? (D + 1 + 1) = some cellNone := by rw [← hh1, ← hCs]; exact Heap.get?_push_size _ rfl
  rw [hH2s]
  have hst₁ : St 0 h₁ := W.frame _ _ _ hst fun b _ o e => old b o e
  have fresh₀ : ∀ a, D ≤ a → h₀.get? a = none := fun a ha => by
    cases e : h₀.get? a with
    | none => rfl
    | some o' => exact absurd (Heap.lt_size (F.keep a o' e)) (by rw [hD]; exact Nat.not_lt.mpr ha)
  have hD₀ : h₀.get? D = none := fresh₀ _ (Nat.le_refl _)
  have hC₀ : h₀.get? (D + 1) = none := fresh₀ _ (Nat.le_succ _)
  have hK₀ : h₀.get? (D + 1 + 1) = none := fresh₀ _ (Nat.le_trans (Nat.le_succ _) (Nat.le_succ _))
  have hLlt : L < D := hD ▸ F.ns.lt
  have hDL : D ≠ L := Nat.ne_of_gt hLlt
  have hCL : D + 1 ≠ L := Nat.ne_of_gt (Nat.lt_succ_of_lt hLlt)
  have hKL : D + 1 + 1 ≠ L := Nat.ne_of_gt (Nat.lt_succ_of_lt (Nat.lt_succ_of_lt hLlt))
  have hIf : I ∈ fp := W.sub I (List.mem_singleton.mpr rfl)
  have hIlt : I < D := hD ▸ hfp I hIf
  have hID : I ≠ D := Nat.ne_of_lt hIlt
  have hIC : I ≠ D + 1 := Nat.ne_of_lt (Nat.lt_succ_of_lt hIlt)
  have hIK : I ≠ D + 1 + 1 := Nat.ne_of_lt (Nat.lt_succ_of_lt (Nat.lt_succ_of_lt hIlt))
  have hDf : D ∉ fp := fun hm => Nat.lt_irrefl _ (hD ▸ hfp _ hm)
  have hCf : D + 1 ∉ fp := fun hm => absurd (hD ▸ hfp _ hm) (Nat.not_lt.mpr (Nat.le_succ _))
  have hKf : D + 1 + 1 ∉ fp := fun hm => absurd (hD ▸ hfp _ hm) (Nat.not_lt.mpr (Nat.le_trans (Nat.le_succ _) (Nat.le_succ _)))
  have off₀ : Off4 I (D + 1) D (D + 1 + 1) news := fun p hp => by
    have hlt : p.1 < D := hD ▸ Heap.lt_size (N p hp).1
    exact ⟨off p hp, Nat.ne_of_lt (Nat.lt_succ_of_lt hlt), Nat.ne_of_lt hlt, Nat.ne_of_lt (Nat.lt_succ_of_lt (Nat.lt_succ_of_lt hlt))⟩
  have nCD : D + 1 ≠ D := Nat.succ_ne_self _
  have nKD : D + 1 + 1 ≠ D := fun q => by have : (D : Nat) + 1 + 1 = D := q; (first | lia | omega)
  have nKC : D + 1 + 1 ≠ D + 1 := Nat.succ_ne_self _
  have loop : ∀ s₃ : Shared, s₃ = { s₂ with heap := h₁ } →
      codeAny (model prog w) A (.compLoop (.ListComp elt [⟨.Name x px, iter, [], 0⟩] scope pos) 0 (.ref I) (.ref D) (compEnvC scope ((x, D + 1 + 1) :: cl) (D + 1) env)) (RR (.ref D) (D + 1)) s₃ := by
    rintro s₃ rfl
    refine codeAny_compLoop_tests
      (J_comp St J s₂ n h₀ L I D m) ?_ (n + 1)
      ⟨h₁, _, 0, [], _, news, cellNone, none, rfl, Nat.zero_le _, rfl, rfl, hst₁, F.keeps old, hnsC, fun p hp => ?_, rfl, off₀, hJ⟩
    · intro k s' hJ_
      refine' hid fun kG_ => ?_
      obtain ⟨h', tk, i, ys, m', nx, oK, vK, rfl, hi, rfl, hyl, hst', F', hn', N', hoK, off', hJ'⟩ := hJ_
      refine' kG_ ?_
      clear kG_
      by_cases hlt : i < n
      · refine W.item i _ _ _ hlt hst' fun v h₂ tk₂ hPv hst₂ hk₂ => ?_
        have hcell : h₂.IsCell (D + 1 + 1) vK := ⟨oK, hk₂ _ _ (by simpa using Ne.symm hIK) (N' (D + 1 + 1, oK) (.tail _ (.head _))).1, hoK⟩
        refine wpAny_assign_Name (wpAny_storeName_cell (c := D + 1 + 1) (by simpa [compEnvC, relabel] using hkind) hx (by simp [compEnvC]) hcell (fun h₃ hc₃ hs₃ => ?_))
        refine' hid fun kG_ => ?_
        obtain ⟨oK₃, heK, hoK₃⟩ := hc₃
        refine' kG_ ?_
        clear kG_
        refine wpAny_tests_nil ?_
        simp only [if_true]
        have hst₃ : St (i + 1) h₃ := W.frame _ _ _ hst₂ fun b hb o e => hs₃.extBut b o (fun q => hKf (by have q' : b = D + 1 + 1 := q; rw [← q']; exact hb)) e
        refine' hid fun kG_ => ?_
        obtain ⟨oI, heI⟩ := hIo _ _ hst₃
        refine' kG_ ?_
        clear kG_
        have hn₂ : h₂.Ns (D + 1) m' := hn'.at' fun o e => hk₂ _ o (by simpa using Ne.symm hIC) e
        have hn₃ : h₃.Ns (D + 1) m' := hn₂.sameBut hs₃ (Ne.symm nKC)
        refine' hid fun kG_ => ?_
        obtain ⟨oC, heC, hoC⟩ := ns_obj hn₃
        refine' kG_ ?_
        clear kG_
        have F₃ : Fr h₀ L h₃ m := (fr_but F' hk₂ hIL hI₀).change hs₃ hKL hK₀
        have N₂ : News h₀ L h₂ ((D, lst ys) :: nx) := fun p hp => by
          rcases List.mem_cons.mp hp with rfl | hp
          · have z := N' (D, lst ys) (.head _); exact ⟨hk₂ _ _ (by simpa using Ne.symm hID) z.1, z.2⟩
          · have z := N' p (.tail _ (.tail _ hp)); exact ⟨hk₂ _ _ (by simpa using (off' p hp).1) z.1, z.2⟩
        have N₃ : News h₀ L h₃ ((I, oI) :: (D + 1, oC) :: (D, lst ys) :: (D + 1 + 1, oK₃) :: nx) := fun p hp => by
          rcases List.mem_cons.mp hp with rfl | hp
          · exact ⟨heI, Ne.symm hIL, hI₀⟩
          · rcases List.mem_cons.mp hp with rfl | hp
            · exact ⟨heC, hCL, hC₀⟩
            · rcases List.mem_cons.mp hp with rfl | hp
              · have z := N₂ (D, lst ys) (.head _); exact ⟨hs₃.extBut _ _ (Ne.symm nKD) z.1, z.2⟩
              · rcases List.mem_cons.mp hp with rfl | hp
                · exact ⟨heK, hKL, hK₀⟩
                · have z := N₂ p (.tail _ hp); exact ⟨hs₃.extBut _ _ (off' p hp).2.2.2 z.1, z.2⟩
        refine wpAny_mono (turn i v ys nx oI (D + 1) oC D (D + 1 + 1) oK₃ h₃ _ _ hPv hJ' hoK₃ F₃ N₃ off' ⟨hIC, hID, hIK, nCD, Ne.symm nKC, Ne.symm nKD⟩) (fun y s₄ h₄ => ?_) fun _ _ e => e
        refine' hid fun kG_ => ?_
        obtain ⟨h₄, tk₄, nx₄, rfl, F₄, N₄, off₄, hJ₄⟩ := h₄
        refine' kG_ ?_
        clear kG_
        have zI := (N₄ (I, oI) (.head _)).1
        have zC := (N₄ (D + 1, oC) (.tail _ (.head _))).1
        have zD := (N₄ (D, lst ys) (.tail _ (.tail _ (.head _)))).1
        have zK := (N₄ (D + 1 + 1, oK₃) (.tail _ (.tail _ (.tail _ (.head _))))).1
        have N₄' : News h₀ L h₄ nx₄ := fun p hp => N₄ p (.tail _ (.tail _ (.tail _ (.tail _ hp))))
        have hst₄ : St (i + 1) h₄ := hSt _ _ _ _ _ _ _ hst₃ heI zI F₄.keep N₄' hJ₄
        refine append_at (hsz := by show ys.toArray.size ≤ sizeLine; rw [List.size_toArray, hyl]; exact Nat.le_trans hi hsz) zD fun h₅ hs₅ hD₅ => ?_
        refine ⟨n + 1 - (i + 1), by (first | lia | omega), h₅, tk₄, i + 1, ys ++ [y], _, nx₄, oK₃, some v, rfl, hlt, rfl, by rw [List.length_append, List.length_singleton, hyl], W.frame _ _ _ hst₄ fun b hb o e => hs₅.extBut b o (fun q => hDf (q ▸ hb)) e, F₄.change hs₅ hDL hD₀,
          (hoC.ns zC).sameBut hs₅ (Ne.symm (Ne.symm nCD)), fun p hp => ?_, hoK₃, off₄, hJ₄⟩
        rcases List.mem_cons.mp hp with rfl | hp
        · exact ⟨hD₅.trans (congrArg some (lst_snoc ys y)), hDL, hD₀⟩
        · rcases List.mem_cons.mp hp with rfl | hp
          · exact ⟨hs₅.extBut _ _ nKD zK, hKL, hK₀⟩
          · exact ⟨hs₅.extBut _ _ (off₄ p hp).2.2.1 (N₄' p hp).1, (N₄' p hp).2⟩
      · obtain rfl : i = n := Nat.le_antisymm hi (Nat.not_lt.mp hlt)
        refine W.done _ _ _ hst' fun h₂ tk₂ hk₂ => ?_
        refine hRR _ _ h₂ tk₂ _ ys nx (fr_but F' hk₂ hIL hI₀) (fun p hp => ?_) (fun p hp => (off' p hp).2.2.1) (hn'.at' fun o e => hk₂ _ o (by simpa using Ne.symm hIC) e) hC₀ hCL nCD (fun p hp => (off' p hp).2.1) hJ'
        rcases List.mem_cons.mp hp with rfl | hp
        · have z := N' (D, lst ys) (.head _); exact ⟨hk₂ _ _ (by simpa using Ne.symm hID) z.1, z.2⟩
        · have z := N' p (.tail _ (.tail _ hp)); exact ⟨hk₂ _ _ (by simpa using (off' p hp).1) z.1, z.2⟩
    · rcases List.mem_cons.mp hp with rfl | hp
      · exact ⟨hacc, hDL, hD₀⟩
      · rcases List.mem_cons.mp hp with rfl | hp
        · exact ⟨hK, hKL, hK₀⟩
        · exact ⟨old _ _ (N p hp).1, (N p hp).2⟩
  exact codeAny_compStart_list (loop _ rfl) (W.self 0 _ _ _ hst₁ (loop _ rfl))
end

end
section
open PyProof.Rows.LCg in
section
variable {prog : Program} {w : World} {A : Around} {E : Value → Shared → Prop} {s : Shared} {h₀ : Heap} {L : Addr} {m : Str → Option Value} {env : Env}
theorem ListComp_C {elt iter : PySem.Expr} {x : Str} {px : Pos} {scope : Scope} {cl : List (Str × Addr)} {pos : Pos} {Q : Value → Shared → Prop} (_F₀ : Fr h₀ L s.heap m)
    (hclos : closureFor scope env = pure cl) (hkind : scope.kind = .function) (hnames : ∀ y ∈ scope.names, y.2 = .local → scope.names.lookup y.1 = some .local)
    (h : wpAny (model prog w) A (eval iter env) (CellSrc prog w A h₀ L m E env elt x px iter pos scope cl Q) E s)
    (hs : ∀ x, foldedSetIterable iter env x = pure x := by intro _; rfl) :
    wpAny (model prog w) A (eval (.ListComp elt [⟨.Name x px, iter, [], 0⟩] scope pos) env) Q E s := by
  rw [eval_ListComp]
  exact wpAny_comprehension_free (use := none) rfl hs hclos hkind hnames h
theorem CellSrc.list {elt iter : PySem.Expr} {x : Str} {px : Pos} {scope : Scope} {cl : List (Str × Addr)} {pos : Pos} {Q : Value → Shared → Prop} {s₁ : Shared} {l : Addr} {vs : List Value} {nn : Nat} {news : List (Addr × Obj)} (J : Nat → List Value → List (Addr × Obj) → Prop)
    (hh : A.handled = none) (hcf : ∀ n, cellsFrom n scope.names cl = (x, n) :: cl) (hpc : ∀ h, pushCells h scope.names = h.push cellNone) (hkind : scope.kind = .function) (hx : (relabel scope env).names.lookup x = some .cell)
    (F : Fr h₀ L s₁.heap m) (N : News h₀ L s₁.heap news) (hl : (l, W.listOf vs.toArray nn) ∈ news) (hsz : vs.length ≤ sizeLine) (hJ : J 0 [] news) (hkeep : ∀ i ys nx, J i ys nx → (l, W.listOf vs.toArray nn) ∈ nx)
    (turn : ∀ i v ys nx I oI C oC D K oK g h tk (E' : Value → Shared → Prop), vs[i]? = some v → J i ys nx → oK.data = .cell (some v) → Fr h₀ L h m → News h₀ L h ((I, oI) :: (C, oC) :: (D, lst ys) :: (K, oK) :: nx) → Off4 I C D K nx →
      (@Ne Nat I C ∧ @Ne Nat I D ∧ @Ne Nat I K ∧ @Ne Nat C D ∧ @Ne Nat C K ∧ @Ne Nat D K) →
      wpAny (model prog w) A (eval elt (compEnvC scope ((x, K) :: cl) C env)) (CEnd h₀ L m { s₁ with heap := h, toks := tk } I oI C oC D (lst ys) K oK (fun y nx' => J (i + 1) (ys ++ [y]) nx')) E' { ({ s₁ with heap := g } : Shared) with heap := h, toks := tk })
    (done : ∀ D ys nx h tk, J vs.length ys nx → Fr h₀ L h m → News h₀ L h ((D, lst ys) :: nx) → (∀ p ∈ nx, p.1 ≠ D) → Q (.ref D) { s₁ with heap := h, toks := tk }) :
    CellSrc prog w A h₀ L m E env elt x px iter pos scope cl Q (.ref l) s₁ := by
  have hls : s₁.heap.IsList l vs.toArray := ⟨_, (N _ hl).1, rfl, nn, rfl⟩
  have hlt : l < s₁.heap.objs.size := Heap.lt_size (N _ hl).1
  have hsize : vs.toArray.size = vs.length := by simp
  refine wpAny_pyIter_list hls ?_
  have up : ∀ b o, s₁.heap.get? b = some o → (s₁.heap.push { cls := .type "list_iterator", data := .fields #[.ref l, .int 0 0] }).get? b = some o := fun b o e => Heap.get?_push_of_some _ e
  have KW := Walks.list (prog := prog) (w := w) hh s₁.heap.objs.size l (Nat.ne_of_lt hlt) vs.toArray
  rw [hsize] at KW
  refine block_C J KW hsz (fun i h st => by obtain ⟨o, e, _⟩ := st.1; exact ⟨o, e⟩) ?_ hcf hpc hkind hx ⟨⟨_, Heap.get?_push_size _ rfl, rfl, rfl⟩, hls.push _⟩ (fun b hb => ?_)
    (F.keeps up) (N.grown up) (Nat.ne_of_lt F.ns.lt) (next_is_new F) (fun p hp => Nat.ne_of_lt (Heap.lt_size (N p hp).1)) hJ ?_ ?_
  · intro i h h' o j ys nw st e e' k Nw Jw
    refine ⟨?_, ⟨_, (Nw _ (hkeep _ _ _ Jw)).1, rfl, nn, rfl⟩⟩
    refine' hid fun kG_ => ?_
    obtain ⟨o', q, r⟩ := st.1
    refine' kG_ ?_
    clear kG_
    rw [e] at q; cases q
    exact ⟨o, e', r⟩
  · show b < (s₁.heap.push _).objs.size
    rw [Heap.size_push]
    rcases List.mem_cons.mp hb with rfl | hb
    · exact Nat.lt_succ_self _
    · rw [List.mem_singleton.mp hb]; exact Nat.lt_succ_of_lt hlt
  · intro i v ys nx oI C oC D K oK h tk E' hP hJ' hoK F' N' off' ne'
    exact turn i v ys nx _ oI C oC D K oK _ h tk E' (by simpa using hP) hJ' hoK F' N' off' ne'
  · intro D C h tk m' ys nx F' N' offD hn hC₀ hCL hCD offC hJ'
    refine ⟨m', hn, fun h'' hs'' => done D ys nx h'' tk hJ' (F'.change hs'' hCL hC₀) (fun p hp => ?_) offD⟩
    refine ⟨hs''.extBut _ _ ?_ (N' p hp).1, (N' p hp).2⟩
    rcases List.mem_cons.mp hp with rfl | hp
    · exact Ne.symm hCD
    · exact offC p hp
theorem CellSrc.range {elt iter : PySem.Expr} {x : Str} {px : Pos} {scope : Scope} {cl : List (Str × Addr)} {pos : Pos} {Q : Value → Shared → Prop} {s₁ : Shared} {r : Addr} {a b : Int} {t u v : Tok} {n : Nat} {news : List (Addr × Obj)} (J : Nat → List Value → List (Addr × Obj) → Prop)
    (hh : A.handled = none) (hcf : ∀ n, cellsFrom n scope.names cl = (x, n) :: cl) (hpc : ∀ h, pushCells h scope.names = h.push cellNone) (hkind : scope.kind = .function) (hx : (relabel scope env).names.lookup x = some .cell)
    (F : Fr h₀ L s₁.heap m) (N : News h₀ L s₁.heap news) (hr : IsRange s₁.heap r a b 1 t u v) (hsm : Builtin.Range.small a b 1 = true) (hn : Builtin.Range.rangeSize a b 1 = ((n : Nat) : Int)) (hsz : n ≤ sizeLine) (hJ : J 0 [] news)
    (turn : ∀ (i : Nat) (k : Int) t ys nx I oI C oC D K oK g h tk (E' : Value → Shared → Prop), k = a + (i : Int) → J i ys nx → oK.data = .cell (some (.int k t)) → Fr h₀ L h m → News h₀ L h ((I, oI) :: (C, oC) :: (D, lst ys) :: (K, oK) :: nx) → Off4 I C D K nx →
      (@Ne Nat I C ∧ @Ne Nat I D ∧ @Ne Nat I K ∧ @Ne Nat C D ∧ @Ne Nat C K ∧ @Ne Nat D K) →
      wpAny (model prog w) A (eval elt (compEnvC scope ((x, K) :: cl) C env)) (CEnd h₀ L m { s₁ with heap := h, toks := tk } I oI C oC D (lst ys) K oK (fun y nx' => J (i + 1) (ys ++ [y]) nx')) E' { ({ s₁ with heap := g } : Shared) with heap := h, toks := tk })
    (done : ∀ D ys nx h tk, J n ys nx → Fr h₀ L h m → News h₀ L h ((D, lst ys) :: nx) → (∀ p ∈ nx, p.1 ≠ D) → Q (.ref D) { s₁ with heap := h, toks := tk }) :
    CellSrc prog w A h₀ L m E env elt x px iter pos scope cl Q (.ref r) s₁ := by
  refine wpAny_pyIter_range hr hsm ?_
  refine block_C J (range_walks hh a n) hsz (fun i h st => ⟨_, st⟩) ?_ hcf hpc hkind hx (by show IsRangeIter _ _ _ _ _; rw [hn]; simpa using Heap.get?_push_size _ rfl) (fun b hb => ?_)
    (F.keeps fun _ _ e => Heap.get?_push_of_some _ e) (N.grown fun _ _ e => Heap.get?_push_of_some _ e) (Nat.ne_of_lt F.ns.lt) (next_is_new F) (fun p hp => Nat.ne_of_lt (Heap.lt_size (N p hp).1)) hJ ?_ ?_
  · intro i h h' o j ys nw st e e' k Nw Jw
    have st' : h.get? _ = some _ := st
    show h'.get? _ = some _
    rw [e', ← e]; exact st'
  · rw [List.mem_singleton.mp hb]
    show s₁.heap.objs.size < (s₁.heap.push _).objs.size
    rw [Heap.size_push]; exact Nat.lt_succ_self _
  · intro i v ys nx oI C oC D K oK h tk E' hP hJ' hoK F' N' off' ne'
    refine' hid fun kG_ => ?_
    obtain ⟨t, rfl⟩ := hP
    refine' kG_ ?_
    clear kG_
    exact turn i _ t ys nx _ oI C oC D K oK _ h tk E' rfl hJ' hoK F' N' off' ne'
  · intro D C h tk m' ys nx F' N' offD hn hC₀ hCL hCD offC hJ'
    refine ⟨m', hn, fun h'' hs'' => done D ys nx h'' tk hJ' (F'.change hs'' hCL hC₀) (fun p hp => ?_) offD⟩
    refine ⟨hs''.extBut _ _ ?_ (N' p hp).1, (N' p hp).2⟩
    rcases List.mem_cons.mp hp with rfl | hp
    · exact Ne.symm hCD
    · exact offC p hp
end

end
section
/-! comprehensions by an invariant over what is made and the ledger; the turn's end is our own word -/
noncomputable def UEnd (h₀ : Heap) (L : Addr) (m : Str → Option Value) (s₁ : Shared) (I : Addr) (oI : Obj) (C : Addr) (oC : Obj) (D : Addr) (oD : Obj) (S : List (Addr × Obj) → Prop) (rest : Value → List (Addr × Obj) → Prop) (y : Value) (s₂ : Shared) : Prop :=
  LCg.CompEnd h₀ L m s₁ I oI C oC D oD S rest y s₂
theorem UEnd.intro {h₀ : Heap} {L I C D : Addr} {m : Str → Option Value} {s₁ : Shared} {oI oC oD : Obj} {S : List (Addr × Obj) → Prop} {rest : Value → List (Addr × Obj) → Prop} {y : Value} {h' : Heap} {tk : Nat} {all : List (Addr × Obj)}
    (F : Fr h₀ L h' m) (N : News h₀ L h' all) (nx : List (Addr × Obj)) (sub : ∀ p ∈ (I, oI) :: (C, oC) :: (D, oD) :: nx, p ∈ all) (off : ∀ p ∈ nx, p.1 ≠ I ∧ p.1 ≠ C ∧ p.1 ≠ D) (hS : S nx) (r : rest y nx) :
    UEnd h₀ L m s₁ I oI C oC D oD S rest y { s₁ with heap := h', toks := tk } := LCg.CompEnd.intro F N nx sub (LCg.Off3.of off) hS r
theorem compEnd_mono {h₀ : Heap} {L I C D : Addr} {m : Str → Option Value} {s₁ s₂ : Shared} {oI oC oD : Obj} {S : List (Addr × Obj) → Prop} {rest rest' : Value → List (Addr × Obj) → Prop} {y y' : Value}
    (h : LCg.CompEnd h₀ L m s₁ I oI C oC D oD S rest y s₂) (k : ∀ nx, rest y nx → rest' y' nx) : LCg.CompEnd h₀ L m s₁ I oI C oC D oD S rest' y' s₂ :=
  let ⟨h', tk, nx, e, F, N, off, hS, r⟩ := h; ⟨h', tk, nx, e, F, N, off, hS, k nx r⟩
section
variable {prog : Program} {w : World} {A : Around} {s : Shared} {h₀ : Heap} {L : Addr} {m : Str → Option Value} {env : Env} {elt : PySem.Expr} {x : Str} {scope : Scope} {cl : List (Str × Addr)} {S : List (Addr × Obj) → Prop} {P : Nat → Value → Prop} {Fin : List Value → List (Addr × Obj) → Prop} {n : Nat} {news : List (Addr × Obj)}
theorem rest_U (J : Nat → List Value → List (Addr × Obj) → Prop)
    (turn : ∀ i v ys nx I oI C oC D m₂ h tk (E' : Value → Shared → Prop), i < n → P i v → J i ys nx → LCg.NsObj oC m₂ → m₂ x = some v → Fr h₀ L h m → News h₀ L h ((I, oI) :: (C, oC) :: (D, LCg.lst ys) :: nx) → (∀ p ∈ nx, p.1 ≠ I ∧ p.1 ≠ C ∧ p.1 ≠ D) → ((@Ne Nat I C) ∧ (@Ne Nat I D) ∧ (@Ne Nat C D)) →
      wpAny (model prog w) A (eval elt (compEnvC scope cl C env)) (UEnd h₀ L m { s with heap := h, toks := tk } I oI C oC D (LCg.lst ys) S (fun y nx' => J (i + 1) (ys ++ [y]) nx')) E' { s with heap := h, toks := tk })
    (done : ∀ ys nx, J n ys nx → Fin ys nx) (hj : J 0 [] news) : LCg.CompRest prog w A h₀ L m env elt x scope cl s S P Fin n 0 [] news := by
  have all : ∀ k i ys nx, i + k = n → J i ys nx → LCg.CompRest prog w A h₀ L m env elt x scope cl s S P Fin k i ys nx := by
    intro k
    induction k with
    | zero =>
      intro i ys nx e hJ
      obtain rfl : i = n := by (first | lia | omega)
      exact done ys nx hJ
    | succ k ih =>
      intro i ys nx e hJ v I oI C oC D m₂ h tk E' hP hC hx F N off ne
      refine wpAny_mono (turn i v ys nx I oI C oC D m₂ h tk E' (by (first | lia | omega)) hP hJ hC hx F N off.mem ne) (fun y s₂ q => ?_) fun _ _ e => e
      exact compEnd_mono q fun nx' hJ' => ih (i + 1) _ _ (by (first | lia | omega)) hJ'
  exact all n 0 [] news (by (first | lia | omega)) hj
theorem rest_T {ct : PySem.Expr} (J : Nat → List Value → List (Addr × Obj) → Prop)
    (turn : ∀ i v ys nx I oI C oC D m₂ h tk (E' : Value → Shared → Prop), i < n → P i v → J i ys nx → LCg.NsObj oC m₂ → m₂ x = some v → Fr h₀ L h m → News h₀ L h ((I, oI) :: (C, oC) :: (D, LCg.lst ys) :: nx) → (∀ p ∈ nx, p.1 ≠ I ∧ p.1 ≠ C ∧ p.1 ≠ D) → ((@Ne Nat I C) ∧ (@Ne Nat I D) ∧ (@Ne Nat C D)) →
      wpAny (model prog w) A (isTrue ct (compEnvC scope cl C env) (eval ct (compEnvC scope cl C env))) (fun ok s' => if ok = true then
        wpAny (model prog w) A (eval elt (compEnvC scope cl C env)) (UEnd h₀ L m { s with heap := h, toks := tk } I oI C oC D (LCg.lst ys) S (fun y nx' => J (i + 1) (ys ++ [y]) nx')) E' s'
        else UEnd h₀ L m { s with heap := h, toks := tk } I oI C oC D (LCg.lst ys) S (fun _ nx' => J (i + 1) ys nx') Value.none s') E' { s with heap := h, toks := tk })
    (done : ∀ ys nx, J n ys nx → Fin ys nx) (hj : J 0 [] news) : LCt.CompRestT prog w A h₀ L m env ct elt x scope cl s S P Fin n 0 [] news := by
  have all : ∀ k i ys nx, i + k = n → J i ys nx → LCt.CompRestT prog w A h₀ L m env ct elt x scope cl s S P Fin k i ys nx := by
    intro k
    induction k with
    | zero =>
      intro i ys nx e hJ
      obtain rfl : i = n := by (first | lia | omega)
      exact done ys nx hJ
    | succ k ih =>
      intro i ys nx e hJ v I oI C oC D m₂ h tk E' hP hC hx F N off ne
      refine wpAny_mono (turn i v ys nx I oI C oC D m₂ h tk E' (by (first | lia | omega)) hP hJ hC hx F N off.mem ne) (fun ok s' q => ?_) fun _ _ e => e
      cases ok with
      | true =>
        simp only [if_true] at q ⊢
        refine wpAny_mono q (fun y s₂ q => ?_) fun _ _ e => e
        exact compEnd_mono q fun nx' hJ' => ih (i + 1) _ _ (by (first | lia | omega)) hJ'
      | false =>
        simp only [Bool.false_eq_true, if_false] at q ⊢
        exact compEnd_mono q fun nx' hJ' => ih (i + 1) _ _ (by (first | lia | omega)) hJ'
  exact all n 0 [] news (by (first | lia | omega)) hj
theorem rest_P {x₂ : Str} (J : Nat → List Value → List (Addr × Obj) → Prop)
    (pair : ∀ i v ys nx, i < n → P i v → J i ys nx → ∃ t n' v₁ v₂, v = .ref t ∧ (t, tupO [v₁, v₂] n') ∈ nx ∧
      ∀ I oI C oC D m₂ h tk (E' : Value → Shared → Prop), LCg.NsObj oC m₂ → m₂ x = some v₁ → m₂ x₂ = some v₂ → Fr h₀ L h m → News h₀ L h ((I, oI) :: (C, oC) :: (D, LCg.lst ys) :: nx) → (∀ p ∈ nx, p.1 ≠ I ∧ p.1 ≠ C ∧ p.1 ≠ D) → ((@Ne Nat I C) ∧ (@Ne Nat I D) ∧ (@Ne Nat C D)) →
      wpAny (model prog w) A (eval elt (compEnvC scope cl C env)) (UEnd h₀ L m { s with heap := h, toks := tk } I oI C oC D (LCg.lst ys) S (fun y nx' => J (i + 1) (ys ++ [y]) nx')) E' { s with heap := h, toks := tk })
    (done : ∀ ys nx, J n ys nx → Fin ys nx) (hj : J 0 [] news) : LCp.CompRestP prog w A h₀ L m env elt x x₂ scope cl s S P Fin n 0 [] news := by
  have all : ∀ k i ys nx, i + k = n → J i ys nx → LCp.CompRestP prog w A h₀ L m env elt x x₂ scope cl s S P Fin k i ys nx := by
    intro k
    induction k with
    | zero =>
      intro i ys nx e hJ
      obtain rfl : i = n := by (first | lia | omega)
      exact done ys nx hJ
    | succ k ih =>
      intro i ys nx e hJ v hP
      refine' hid fun kG_ => ?_
      obtain ⟨t, n', v₁, v₂, rfl, hm, turn⟩ := pair i v ys nx (by (first | lia | omega)) hP hJ
      refine' kG_ ?_
      clear kG_
      refine ⟨t, _, v₁, v₂, n', rfl, hm, rfl, rfl, ?_⟩
      intro I oI C oC D m₂ h tk E' hC hx hx₂ F N off ne
      refine wpAny_mono (turn I oI C oC D m₂ h tk E' hC hx hx₂ F N off.mem ne) (fun y s₂ q => ?_) fun _ _ e => e
      exact compEnd_mono q fun nx' hJ' => ih (i + 1) _ _ (by (first | lia | omega)) hJ'
  exact all n 0 [] news (by (first | lia | omega)) hj
end

end
section
/-! the plain law of the median: the least way to a row -/
noncomputable def wayG (xs : List Int) (k : Int) : Int := (xs.map (fun one => if k - one < 0 then -(k - one) else k - one)).sum
theorem perm_sum {a b : List Int} (p : a.Perm b) : a.sum = b.sum := by
  induction p with
  | nil => rfl
  | cons x _ ih => simp only [List.sum_cons, ih]
  | swap x y l => simp only [List.sum_cons]; (first | lia | omega)
  | trans _ _ ih1 ih2 => exact ih1.trans ih2
theorem wayG_perm {a b : List Int} (p : a.Perm b) (k : Int) : wayG a k = wayG b k := perm_sum (p.map _)
noncomputable def wA (k x : Int) : Int := if k - x < 0 then -(k - x) else k - x
theorem one_key (c k : Int) : 0 ≤ wA k c ∧ (wA k c = 0 ↔ c ≤ k ∧ k ≤ c) := by
  unfold wA
  by_cases h : k - c < 0
  · rw [if_pos h]; (first | lia | omega)
  · rw [if_neg h]; (first | lia | omega)
theorem pair_key {a b : Int} (hab : a ≤ b) (k : Int) : b - a ≤ wA k a + wA k b ∧ (wA k a + wA k b = b - a ↔ a ≤ k ∧ k ≤ b) := by
  unfold wA
  by_cases h : k - a < 0
  · rw [if_pos h, if_pos (by (first | lia | omega) : k - b < 0)]; (first | lia | omega)
  · rw [if_neg h]
    by_cases g : k - b < 0
    · rw [if_pos g]; (first | lia | omega)
    · rw [if_neg g]; (first | lia | omega)
theorem two_key {x y X Y : Int} {P R : Prop} (h1 : X ≤ x ∧ (x = X ↔ P)) (h2 : Y ≤ y ∧ (y = Y ↔ R)) (hRP : R → P) : X + Y ≤ x + y ∧ (x + y = X + Y ↔ R) := by
  refine ⟨Int.add_le_add h1.1 h2.1, fun e => h2.2.mp ?_, fun r => by rw [h1.2.mpr (hRP r), h2.2.mpr r]⟩
  have := h1.1
  have := h2.1
  (first | lia | omega)
theorem key_as {x y T : Int} {P : Prop} (e : x = y) (h : T ≤ y ∧ (y = T ↔ P)) : T ≤ x ∧ (x = T ↔ P) := e ▸ h
theorem list5 {P : List Int → Prop} (h1 : ∀ a, P [a]) (h2 : ∀ a b, P [a, b]) (h3 : ∀ a b c, P [a, b, c]) (h4 : ∀ a b c d, P [a, b, c, d]) (h5 : ∀ a b c d e, P [a, b, c, d, e]) (S : List Int) (h0 : 0 < S.length) (h6 : S.length ≤ 5) : P S := by
  cases S with
  | nil => exact absurd h0 (Nat.lt_irrefl 0)
  | cons a S =>
    clear h0
    cases S with
    | nil => exact h1 a
    | cons b S =>
      cases S with
      | nil => exact h2 a b
      | cons c S =>
        cases S with
        | nil => exact h3 a b c
        | cons d S =>
          cases S with
          | nil => exact h4 a b c d
          | cons e S =>
            cases S with
            | nil => exact h5 a b c d e
            | cons f S => exact absurd h6 (Nat.not_le_of_gt (Nat.le_add_left 6 S.length))
theorem mid_key (S : List Int) (h0 : 0 < S.length) (h5 : S.length ≤ 5) (hs : S.Pairwise (· ≤ ·)) : ∃ T, ∀ k, T ≤ wayG S k ∧ (wayG S k = T ↔ S.getD ((S.length - 1) / 2) 0 ≤ k ∧ k ≤ S.getD (S.length / 2) 0) := by
  refine list5 (P := fun S => S.Pairwise (· ≤ ·) → ∀ n, n = S.length → ∃ T, ∀ k, T ≤ wayG S k ∧ (wayG S k = T ↔ S.getD ((n - 1) / 2) 0 ≤ k ∧ k ≤ S.getD (n / 2) 0)) ?_ ?_ ?_ ?_ ?_ S h0 h5 hs _ rfl
  · intro a _ n hn
    have hn : n = 1 := hn
    subst hn
    exact ⟨0, fun k => key_as (show wayG [a] k = wA k a from Int.add_zero _) (one_key a k)⟩
  · intro a b hs n hn
    have hn : n = 2 := hn
    subst hn
    have h1 : a ≤ b := (List.pairwise_cons.mp hs).1 b (.head _)
    exact ⟨b - a, fun k => key_as (show wA k a + (wA k b + 0) = wA k a + wA k b by (first | lia | omega)) (pair_key h1 k)⟩
  · intro a b c hs n hn
    have hn : n = 3 := hn
    subst hn
    have k1 := List.pairwise_cons.mp hs
    have h1 : a ≤ b := k1.1 b (.head _)
    have h2 : b ≤ c := (List.pairwise_cons.mp k1.2).1 c (.head _)
    exact ⟨c - a + 0, fun k => key_as (show wA k a + (wA k b + (wA k c + 0)) = (wA k a + wA k c) + wA k b by (first | lia | omega)) (two_key (pair_key (Int.le_trans h1 h2) k) (one_key b k) fun q => ⟨Int.le_trans h1 q.1, Int.le_trans q.2 h2⟩)⟩
  · intro a b c d hs n hn
    have hn : n = 4 := hn
    subst hn
    have k1 := List.pairwise_cons.mp hs
    have k2 := List.pairwise_cons.mp k1.2
    have h1 : a ≤ b := k1.1 b (.head _)
    have h2 : b ≤ c := k2.1 c (.head _)
    have h3 : c ≤ d := (List.pairwise_cons.mp k2.2).1 d (.head _)
    exact ⟨d - a + (c - b), fun k => key_as (show wA k a + (wA k b + (wA k c + (wA k d + 0))) = (wA k a + wA k d) + (wA k b + wA k c) by (first | lia | omega)) (two_key (pair_key (Int.le_trans h1 (Int.le_trans h2 h3)) k) (pair_key h2 k) fun q => ⟨Int.le_trans h1 q.1, Int.le_trans q.2 h3⟩)⟩
  · intro a b c d e hs n hn
    have hn : n = 5 := hn
    subst hn
    have k1 := List.pairwise_cons.mp hs
    have k2 := List.pairwise_cons.mp k1.2
    have k3 := List.pairwise_cons.mp k2.2
    have h1 : a ≤ b := k1.1 b (.head _)
    have h2 : b ≤ c := k2.1 c (.head _)
    have h3 : c ≤ d := k3.1 d (.head _)
    have h4 : d ≤ e := (List.pairwise_cons.mp k3.2).1 e (.head _)
    exact ⟨e - a + (d - b + 0), fun k => key_as (show wA k a + (wA k b + (wA k c + (wA k d + (wA k e + 0)))) = (wA k a + wA k e) + ((wA k b + wA k d) + wA k c) by (first | lia | omega)) (two_key (pair_key (Int.le_trans h1 (Int.le_trans h2 (Int.le_trans h3 h4))) k) (two_key (pair_key (Int.le_trans h2 h3) k) (one_key c k) fun q => ⟨Int.le_trans h2 q.1, Int.le_trans q.2 h3⟩) fun q => ⟨Int.le_trans (Int.le_trans h1 h2) q.1, Int.le_trans q.2 (Int.le_trans h3 h4)⟩)⟩
theorem sorted_getD {S : List Int} (hs : S.Pairwise (· ≤ ·)) {i j : Nat} (h : i ≤ j) (hj : j < S.length) : S.getD i 0 ≤ S.getD j 0 := by
  have hi : i < S.length := by (first | lia | omega)
  rcases Nat.eq_or_lt_of_le h with e | e
  · subst e; exact Int.le_refl _
  · have := List.pairwise_iff_getElem.mp hs i j hi hj e
    simpa [List.getD, hi, hj] using this
theorem getD_memI {S : List Int} {i : Nat} (h : i < S.length) : S.getD i 0 ∈ S := by simp [List.getD, h]
/-- the wishes from the low to the high median are those of the least way -/
theorem near_iff {xs S : List Int} {M : Int} (h0 : 0 < xs.length) (h5 : xs.length ≤ 5) (hb : ∀ x ∈ xs, 0 ≤ x ∧ x ≤ 9) (hS : S.Perm xs) (hs : S.Pairwise (· ≤ ·)) (hin : M ∈ (List.range 10).map fun (j : Nat) => wayG xs (j : Int)) (hle : ∀ a ∈ (List.range 10).map fun (j : Nat) => wayG xs (j : Int), M ≤ a) (k : Int) :
    wayG xs k = M ↔ S.getD ((xs.length - 1) / 2) 0 ≤ k ∧ k ≤ S.getD (xs.length / 2) 0 := by
  have hl := hS.length_eq
  refine' hid fun kG_ => ?_
  obtain ⟨T, hT⟩ := mid_key S (by (first | lia | omega)) (by (first | lia | omega)) hs
  refine' kG_ ?_
  clear kG_
  rw [hl] at hT
  have hlo : S.getD ((xs.length - 1) / 2) 0 ∈ S := getD_memI (by (first | lia | omega))
  have hlb := hb _ (hS.mem_iff.mp hlo)
  have hlu : S.getD ((xs.length - 1) / 2) 0 ≤ S.getD (xs.length / 2) 0 := sorted_getD hs (by (first | lia | omega)) (by (first | lia | omega))
  have e1 := (hT (S.getD ((xs.length - 1) / 2) 0)).2.mpr ⟨Int.le_refl _, hlu⟩
  have hMT : M = T := by
    refine' hid fun kG_ => ?_
    obtain ⟨j, _, hj⟩ := List.mem_map.mp hin
    refine' kG_ ?_
    clear kG_
    have g1 := (hT (j : Int)).1
    rw [wayG_perm hS] at g1
    have g2 := hle (wayG xs (S.getD ((xs.length - 1) / 2) 0)) (List.mem_map.mpr ⟨(S.getD ((xs.length - 1) / 2) 0).toNat, List.mem_range.mpr (by (first | lia | omega)), by rw [Int.toNat_of_nonneg hlb.1]⟩)
    rw [wayG_perm hS] at e1
    (first | lia | omega)
  rw [hMT, ← wayG_perm hS]
  exact (hT k).2
noncomputable def nearG (xs : List Int) (M : Int) : Nat → List Int
  | 0 => []
  | i + 1 => if wayG xs (i : Int) = M then nearG xs M i ++ [(i : Int)] else nearG xs M i
theorem near_none {xs : List Int} {M : Int} : ∀ n : Nat, (∀ i : Nat, i < n → wayG xs (i : Int) ≠ M) → nearG xs M n = []
  | 0, _ => rfl
  | n + 1, h => by
    simp only [nearG]
    rw [if_neg (h n (Nat.lt_succ_self _))]
    exact near_none n fun i hi => h i (Nat.lt_succ_of_lt hi)
theorem near_some {xs : List Int} {M : Int} (l : Nat) (h0 : ∀ i : Nat, i < l → wayG xs (i : Int) ≠ M) : ∀ j : Nat, (∀ i : Nat, i < j → wayG xs ((l + i : Nat) : Int) = M) → nearG xs M (l + j) = (List.range j).map fun (i : Nat) => ((l : Int) + (i : Int))
  | 0, _ => near_none l h0
  | j + 1, h => by
    show (if wayG xs ((l + j : Nat) : Int) = M then nearG xs M (l + j) ++ [((l + j : Nat) : Int)] else nearG xs M (l + j)) = _
    rw [if_pos (h j (Nat.lt_succ_self _)), near_some l h0 j fun i hi => h i (Nat.lt_succ_of_lt hi), List.range_succ, List.map_append]
    rfl
theorem near_past {xs : List Int} {M : Int} (u : Nat) : ∀ j : Nat, (∀ i : Nat, i < j → wayG xs ((u + i : Nat) : Int) ≠ M) → nearG xs M (u + j) = nearG xs M u
  | 0, _ => rfl
  | j + 1, h => by
    show (if wayG xs ((u + j : Nat) : Int) = M then nearG xs M (u + j) ++ [((u + j : Nat) : Int)] else nearG xs M (u + j)) = _
    rw [if_neg (h j (Nat.lt_succ_self _))]
    exact near_past u j fun i hi => h i (Nat.lt_succ_of_lt hi)
theorem near_range {xs : List Int} {M lo up : Int} (h : ∀ k : Int, wayG xs k = M ↔ lo ≤ k ∧ k ≤ up) (h0 : 0 ≤ lo) (hlu : lo ≤ up) (n : Nat) (hn : up < n) : nearG xs M n = (List.range (up + 1 - lo).toNat).map fun (i : Nat) => lo + (i : Int) := by
  refine' hid fun kG_ => ?_
  obtain ⟨l, rfl⟩ := Int.eq_ofNat_of_zero_le h0
  obtain ⟨j, hj⟩ := Int.eq_ofNat_of_zero_le (show 0 ≤ up - l by (first | lia | omega))
  obtain ⟨i, rfl⟩ : ∃ i, n = (l + (j + 1)) + i := ⟨n - (l + (j + 1)), by (first | lia | omega)⟩
  refine' kG_ ?_
  clear kG_
  have hup : up = ((l + j : Nat) : Int) := by (first | lia | omega)
  subst hup
  rw [near_past (l + (j + 1)) i fun z _ e => by have := ((h _).mp e).2; (first | lia | omega)]
  rw [near_some l (fun z hz e => by have := ((h _).mp e).1; (first | lia | omega)) (j + 1) fun z hz => (h _).mpr (by (first | lia | omega))]
  rw [show (((l + j : Nat) : Int) + 1 - (l : Int)).toNat = j + 1 by (first | lia | omega)]

end
section
/-! sorted of four pairs of ints -/
noncomputable def runK {α : Type} (lt : Nat → Nat → Bool) : KasT α → α
  | .ret a => a
  | .ask i j k => runK lt (k (lt i j))
noncomputable def okK {α : Type} (n : Nat) : KasT α → Bool
  | .ret _ => true
  | .ask i j k => decide (i < n) && decide (j < n) && okK n (k true) && okK n (k false)
theorem kas_pure {α : Type} {n : Nat} {cmp : Nat → Nat → (Bool → Shared → Prop) → Shared → Prop} {lt : Nat → Nat → Bool} {Q : α → Shared → Prop} {s : Shared} (hc : ∀ i j C, i < n → j < n → C (lt i j) s → cmp i j C s) :
    ∀ t : KasT α, okK n t = true → Q (runK lt t) s → t.kasWp cmp Q s
  | .ret _, _, h => h
  | .ask i j k, ho, h => by
    simp only [okK, Bool.and_eq_true, decide_eq_true_eq] at ho
    refine hc i j _ ho.1.1.1 ho.1.1.2 ?_
    refine kas_pure hc _ ?_ h
    cases lt i j
    · exact ho.2
    · exact ho.1.2
theorem ok4 : okK 4 (kas_sort 4) = true := by decide +kernel
noncomputable def ltP (ps : List (Int × Int)) (i j : Nat) : Bool := lexLt [(ps.getD i (0, 0)).1, (ps.getD i (0, 0)).2] [(ps.getD j (0, 0)).1, (ps.getD j (0, 0)).2]
theorem lex2 (a b c d : Int) : lexLt [a, b] [c, d] = if a = c then (if b = d then false else decide (b < d)) else decide (a < c) := by simp only [lexLt]
theorem run_congr {α : Type} {n : Nat} {lt lt' : Nat → Nat → Bool} (h : ∀ i j, i < n → j < n → lt i j = lt' i j) : ∀ t : KasT α, okK n t = true → runK lt t = runK lt' t
  | .ret _, _ => rfl
  | .ask i j k, ho => by
    simp only [okK, Bool.and_eq_true, decide_eq_true_eq] at ho
    simp only [runK]
    rw [h i j ho.1.1.1 ho.1.1.2]
    refine run_congr h _ ?_
    cases lt' i j
    · exact ho.2
    · exact ho.1.2
/-- by ranks -/
noncomputable def okR4 (r : List Nat) : Bool :=
  let p := (runK (fun i j => decide (r.getD i 0 < r.getD j 0)) (kas_sort 4)).toList
  p.isPerm [0, 1, 2, 3] && decide (r.getD (p.getD 0 0) 0 ≤ r.getD (p.getD 1 0) 0) && decide (r.getD (p.getD 1 0) 0 ≤ r.getD (p.getD 2 0) 0) && decide (r.getD (p.getD 2 0) 0 ≤ r.getD (p.getD 3 0) 0)
theorem ok_ranks : ∀ a b c d : Fin 4, okR4 [a.val, b.val, c.val, d.val] = true := by decide +kernel
theorem count_lt (l : List Int) {a b : Int} (h : a < b) (ha : a ∈ l) : l.countP (fun x => decide (x < a)) < l.countP (fun x => decide (x < b)) := by
  induction l with
  | nil => cases ha
  | cons x r ih =>
    have mono : ∀ l : List Int, l.countP (fun x => decide (x < a)) ≤ l.countP (fun x => decide (x < b)) := fun l => List.countP_mono_left fun y _ hy => by
      have : y < a := by simpa using hy
      simpa using Int.lt_trans this h
    simp only [List.countP_cons]
    rcases List.mem_cons.mp ha with rfl | ha
    · have := mono r
      simp only [Int.lt_irrefl, decide_false, Bool.false_eq_true, if_false, h, decide_true, if_true]
      omega
    · have := ih ha
      by_cases q : x < a
      · have q2 : x < b := Int.lt_trans q h
        simp only [q, q2, decide_true, if_true]; omega
      · simp only [q, decide_false, Bool.false_eq_true, if_false]
        split <;> omega
theorem count_le (l : List Int) {a : Int} (ha : a ∈ l) : l.countP (fun x => decide (x < a)) < l.length := by
  induction l with
  | nil => cases ha
  | cons x r ih =>
    simp only [List.countP_cons, List.length_cons]
    rcases List.mem_cons.mp ha with rfl | ha
    · simp only [Int.lt_irrefl, decide_false, Bool.false_eq_true, if_false]
      have := List.countP_le_length (p := fun x => decide (x < a)) (l := r)
      omega
    · have := ih ha
      split <;> omega
noncomputable def rk (ks : List Int) (i : Nat) : Nat := ks.countP (fun x => decide (x < ks.getD i 0))
theorem rk_lt {ks : List Int} {i j : Nat} (hi : i < ks.length) (hj : j < ks.length) : decide (rk ks i < rk ks j) = decide (ks.getD i 0 < ks.getD j 0) := by
  refine decide_eq_decide.mpr ⟨fun h => ?_, fun h => count_lt ks h (getD_memI hi)⟩
  rcases Int.lt_trichotomy (ks.getD i 0) (ks.getD j 0) with q | q | q
  · exact q
  · unfold rk at h; rw [q] at h; exact absurd h (Nat.lt_irrefl _)
  · have := count_lt ks q (getD_memI hj)
    unfold rk at h
    omega
noncomputable def permK (ks : List Int) : List Nat := (runK (fun i j => decide (ks.getD i 0 < ks.getD j 0)) (kas_sort 4)).toList
theorem permK_ok (ks : List Int) (h4 : ks.length = 4) : (permK ks).Perm [0, 1, 2, 3] ∧ ks.getD ((permK ks).getD 0 0) 0 ≤ ks.getD ((permK ks).getD 1 0) 0 ∧ ks.getD ((permK ks).getD 1 0) 0 ≤ ks.getD ((permK ks).getD 2 0) 0 ∧ ks.getD ((permK ks).getD 2 0) 0 ≤ ks.getD ((permK ks).getD 3 0) 0 := by
  have hr : ∀ i, i < 4 → rk ks i < 4 := fun i hi => by
    have := count_le ks (a := ks.getD i 0) (getD_memI (by (first | lia | omega)))
    rw [h4] at this; exact this
  have hok := ok_ranks ⟨rk ks 0, hr 0 (by (first | lia | omega))⟩ ⟨rk ks 1, hr 1 (by (first | lia | omega))⟩ ⟨rk ks 2, hr 2 (by (first | lia | omega))⟩ ⟨rk ks 3, hr 3 (by (first | lia | omega))⟩
  dsimp only at hok
  have hg : ∀ i, i < 4 → [rk ks 0, rk ks 1, rk ks 2, rk ks 3].getD i 0 = rk ks i := four rfl rfl rfl rfl
  have e : runK (fun i j => decide ([rk ks 0, rk ks 1, rk ks 2, rk ks 3].getD i 0 < [rk ks 0, rk ks 1, rk ks 2, rk ks 3].getD j 0)) (kas_sort 4) = runK (fun i j => decide (ks.getD i 0 < ks.getD j 0)) (kas_sort 4) :=
    run_congr (n := 4) (fun i j hi hj => by rw [hg i hi, hg j hj]; exact rk_lt (by (first | lia | omega)) (by (first | lia | omega))) _ ok4
  unfold okR4 at hok
  rw [e] at hok
  simp only [Bool.and_eq_true, decide_eq_true_eq] at hok
  refine' hid fun kG_ => ?_
  obtain ⟨⟨⟨hp, h01⟩, h12⟩, h23⟩ := hok
  refine' kG_ ?_
  clear kG_
  have hperm : (permK ks).Perm [0, 1, 2, 3] := List.isPerm_iff.mp hp
  have hlen := hperm.length_eq
  have hlt : ∀ j, j < 4 → (permK ks).getD j 0 < 4 := fun j hj => by
    have hm : (permK ks).getD j 0 ∈ permK ks := by
      have : j < (permK ks).length := by rw [hlen]; exact hj
      simp [List.getD, this]
    have := hperm.mem_iff.mp hm
    simp only [List.mem_cons, List.not_mem_nil, or_false] at this
    (first | lia | omega)
  have le : ∀ i j, i < 4 → j < 4 → [rk ks 0, rk ks 1, rk ks 2, rk ks 3].getD i 0 ≤ [rk ks 0, rk ks 1, rk ks 2, rk ks 3].getD j 0 → ks.getD i 0 ≤ ks.getD j 0 := fun i j hi hj h => by
    rw [hg i hi, hg j hj] at h
    have q := rk_lt (ks := ks) (i := j) (j := i) (by (first | lia | omega)) (by (first | lia | omega))
    have q1 : ¬ rk ks j < rk ks i := by (first | lia | omega)
    have q2 : ¬ ks.getD j 0 < ks.getD i 0 := fun z => q1 ((decide_eq_decide.mp q).mpr z)
    (first | lia | omega)
  exact ⟨hperm, le _ _ (hlt 0 (by (first | lia | omega))) (hlt 1 (by (first | lia | omega))) h01, le _ _ (hlt 1 (by (first | lia | omega))) (hlt 2 (by (first | lia | omega))) h12, le _ _ (hlt 2 (by (first | lia | omega))) (hlt 3 (by (first | lia | omega))) h23⟩
section
variable {prog : Program} {w : World} {A : Around} {E : Value → Shared → Prop} {s : Shared} {h₀ : Heap} {L l : Addr} {m : Str → Option Value}
theorem ask_pairs {news : List (Addr × Obj)} {vs : List Value} {ps : List (Int × Int)} (N : News h₀ L s.heap news) (hp : PairsP news vs ps) (h4 : ps.length = 4) : ∀ i j (C : Bool → Shared → Prop), i < 4 → j < 4 → C (ltP ps i j) s → kas_ask prog w A (tuples' true) vs i j C s := by
  intro i j C hi hj hC
  refine' hid fun kG_ => ?_
  obtain ⟨a, n, t1, t2, ea, ma⟩ := hp.at (i := i) (by (first | lia | omega))
  obtain ⟨b, k, u1, u2, eb, mb⟩ := hp.at (i := j) (by (first | lia | omega))
  refine' kG_ ?_
  clear kG_
  have e1 : vs.getD i Value.none = .ref a := by simp [List.getD, ea]
  have e2 : vs.getD j Value.none = .ref b := by simp [List.getD, eb]
  unfold kas_ask
  rw [e1, e2]
  refine kat_lt (N _ ma).1 rfl (N _ mb).1 rfl ?_
  simp only [List.zip_cons_cons, List.zip_nil_right]
  refine kat_cons (wpAny_eqBool_int ?_)
  unfold ltP at hC
  by_cases q : (ps.getD i (0, 0)).1 = (ps.getD j (0, 0)).1
  · rw [show ((ps.getD i (0, 0)).1 == (ps.getD j (0, 0)).1) = true by simpa using q]
    refine kat_yes (kat_cons (wpAny_eqBool_int ?_))
    by_cases r : (ps.getD i (0, 0)).2 = (ps.getD j (0, 0)).2
    · rw [show ((ps.getD i (0, 0)).2 == (ps.getD j (0, 0)).2) = true by simpa using r]
      refine kat_yes (kat_nil ?_)
      rw [lex2, if_pos q, if_pos r] at hC
      exact hC
    · rw [show ((ps.getD i (0, 0)).2 == (ps.getD j (0, 0)).2) = false by simpa using r]
      refine kat_no ?_
      refine kat_one _ _ (show wpAny _ _ (compareOp .Lt (.int _ _) (.int _ _)) _ _ _ from PyProof.Rows.lt_int ?_)
      show C _ _
      rw [lex2, if_pos q, if_neg r] at hC
      exact hC
  · rw [show ((ps.getD i (0, 0)).1 == (ps.getD j (0, 0)).1) = false by simpa using q]
    refine kat_no (oneLt_int ?_)
    rw [lex2, if_neg q] at hC
    exact hC
theorem firsts_pairs {news : List (Addr × Obj)} {vs : List Value} {ps : List (Int × Int)} (N : News h₀ L s.heap news) (hp : PairsP news vs ps) : ∃ fs, KatTups s.heap vs fs ∧ fs.length = ps.length ∧ ∀ v ∈ fs, ∃ k t, v = Value.int k t := by
  induction hp with
  | nil => exact ⟨[], trivial, rfl, fun _ h => nomatch h⟩
  | cons h _ ih =>
    refine' hid fun kG_ => ?_
    obtain ⟨fs, h1, h2, h3⟩ := ih
    obtain ⟨a, n, t1, t2, rfl, hm⟩ := h
    refine' kG_ ?_
    clear kG_
    refine ⟨.int _ t1 :: fs, KatTups.cons (N _ hm).1 rfl rfl rfl h1, by simp [h2], fun v hv => ?_⟩
    rcases List.mem_cons.mp hv with rfl | hv
    · exact ⟨_, _, rfl⟩
    · exact h3 v hv
noncomputable def keyP (ps : List (Int × Int)) : List Int := ps.map fun q => q.1 * 65536 + q.2
theorem ltP_key {ps : List (Int × Int)} (hb : ∀ q ∈ ps, 0 ≤ q.2 ∧ q.2 < 65536) {i j : Nat} (hi : i < ps.length) (hj : j < ps.length) : ltP ps i j = decide ((keyP ps).getD i 0 < (keyP ps).getD j 0) := by
  have e : ∀ k, k < ps.length → (keyP ps).getD k 0 = (ps.getD k (0, 0)).1 * 65536 + (ps.getD k (0, 0)).2 := fun k hk => by simp [keyP, List.getD, hk]
  have b1 := hb _ (show ps.getD i (0, 0) ∈ ps by simp [List.getD, hi])
  have b2 := hb _ (show ps.getD j (0, 0) ∈ ps by simp [List.getD, hj])
  rw [e i hi, e j hj]
  unfold ltP
  rw [lex2]
  split
  · split
    · exact (decide_eq_false (by (first | lia | omega))).symm
    · exact decide_eq_decide.mpr (by (first | lia | omega))
  · exact decide_eq_decide.mpr (by (first | lia | omega))
theorem PairsP.pick {led : List (Addr × Obj)} {vs : List Value} {ps : List (Int × Int)} (h : PairsP led vs ps) : ∀ p : List Nat, (∀ i ∈ p, i < ps.length) → PairsP led (p.map fun i => vs.getD i Value.none) (p.map fun i => ps.getD i (0, 0))
  | [], _ => .nil
  | i :: r, hr => by
    refine' hid fun kG_ => ?_
    obtain ⟨a, n, t1, t2, e, hm⟩ := h.at (i := i) (hr i (.head _))
    refine' kG_ ?_
    clear kG_
    exact .cons ⟨a, n, t1, t2, by simp [List.getD, e], hm⟩ (PairsP.pick h r fun j hj => hr j (.tail _ hj))
theorem map_getD {α : Type} (d : α) : ∀ l : List α, (List.range l.length).map (fun i => l.getD i d) = l := fun l => by
  apply List.ext_getElem
  · simp
  · intro i h1 h2
    simp [List.getD, h2]
theorem sorted_pairs {news led : List (Addr × Obj)} {vs : List Value} {ps : List (Int × Int)} {n : Nat} {Q : Value → Shared → Prop} (F : Fr h₀ L s.heap m) (N : News h₀ L s.heap news) (hm : (l, W.listOf vs.toArray n) ∈ news) (hs : ∀ p ∈ led, p ∈ news) (hp : PairsP led vs ps) (h4 : ps.length = 4) (hb : ∀ q ∈ ps, 0 ≤ q.2 ∧ q.2 < 65536)
    (h : ∀ D us c qs h', Fr h₀ L h' m → News h₀ L h' ((D, W.listOf us.toArray c) :: news) → (∀ q ∈ news, q.1 < D) → PairsP led us qs → qs.Perm ps → (∀ i, i < 3 → (qs.getD i (0, 0)).1 ≤ (qs.getD (i + 1) (0, 0)).1) → Q (.ref D) { s with heap := h' }) :
    wpAny (model prog w) A (call (.builtin "sorted") [.ref l]) Q E s := by
  have hvl := hp.length
  have hl : s.heap.IsList l vs.toArray := ⟨_, (N _ hm).1, rfl, n, rfl⟩
  refine kat_sorted F N hl (by (first | lia | omega)) (by (first | lia | omega)) ?_
  intro D e1 h' F' N' lt
  have N2 : News h₀ L h' news := fun p hp => N' p (.tail _ hp)
  refine' hid fun kG_ => ?_
  obtain ⟨fs, ht, hfl, hfi⟩ := firsts_pairs (s := { s with heap := h' }) N2 (hp.mono hs)
  refine' kG_ ?_
  clear kG_
  refine kat_kind (T := .type "int") ht (by (first | lia | omega)) (fun v hv => by obtain ⟨k, t, rfl⟩ := hfi v hv; exact Looks.of_pure rfl) (by decide) ?_
  have e4 : vs.length = 4 := by (first | lia | omega)
  rw [e4]
  have hk4 : (keyP ps).length = 4 := by simp [keyP, h4]
  refine kas_pure (n := 4) (lt := ltP ps) (ask_pairs (s := { s with heap := h' }) N2 (hp.mono hs) h4) _ ok4 ?_
  rw [run_congr (n := 4) (lt' := fun i j => decide ((keyP ps).getD i 0 < (keyP ps).getD j 0)) (fun i j hi hj => ltP_key hb (by (first | lia | omega)) (by (first | lia | omega))) _ ok4]
  refine' hid fun kG_ => ?_
  obtain ⟨hperm, o1, o2, o3⟩ := permK_ok (keyP ps) hk4
  refine' kG_ ?_
  clear kG_
  have hplt : ∀ i ∈ permK (keyP ps), i < ps.length := fun i hi => by
    have := hperm.mem_iff.mp hi
    simp only [List.mem_cons, List.not_mem_nil, or_false] at this
    (first | lia | omega)
  have hplen : (permK (keyP ps)).length = 4 := hperm.length_eq
  refine KasFin.intro F' N' (UpdF.head (fun p hp => Nat.ne_of_lt (lt p hp))) fun h2 c F2 N3 => ?_
  refine h D _ c ((permK (keyP ps)).map fun i => ps.getD i (0, 0)) h2 F2 N3 lt (hp.pick _ hplt) ?_ ?_
  · have q := hperm.map fun i => ps.getD i (0, 0)
    refine q.trans (List.Perm.of_eq ?_)
    have e := map_getD (0, 0) ps
    rw [h4] at e
    exact e
  · intro i hi
    have ek : ∀ j, j < 4 → (keyP ps).getD ((permK (keyP ps)).getD j 0) 0 = (((permK (keyP ps)).map fun i => ps.getD i (0, 0)).getD j (0, 0)).1 * 65536 + (((permK (keyP ps)).map fun i => ps.getD i (0, 0)).getD j (0, 0)).2 ∧ 0 ≤ (((permK (keyP ps)).map fun i => ps.getD i (0, 0)).getD j (0, 0)).2 ∧ (((permK (keyP ps)).map fun i => ps.getD i (0, 0)).getD j (0, 0)).2 < 65536 := fun j hj => by
      have hjl : j < (permK (keyP ps)).length := by (first | lia | omega)
      have hi' := hplt _ (show (permK (keyP ps)).getD j 0 ∈ permK (keyP ps) by simp [List.getD, hjl])
      have e1 : ((permK (keyP ps)).map fun i => ps.getD i (0, 0)).getD j (0, 0) = ps.getD ((permK (keyP ps)).getD j 0) (0, 0) := by simp [List.getD, hjl]
      rw [e1]
      have bb := hb _ (show ps.getD ((permK (keyP ps)).getD j 0) (0, 0) ∈ ps by simp only [List.getD]; simp only [List.getD] at hi'; simp [hi'])
      refine ⟨?_, bb⟩
      simp only [keyP, List.getD] at hi' ⊢
      simp [hi']
    have a0 := ek 0 (by (first | lia | omega))
    have a1 := ek 1 (by (first | lia | omega))
    have a2 := ek 2 (by (first | lia | omega))
    have a3 := ek 3 (by (first | lia | omega))
    match i, hi with
    | 0, _ => rw [show 0 + 1 = 1 from rfl]; (first | lia | omega)
    | 1, _ => rw [show 1 + 1 = 2 from rfl]; (first | lia | omega)
    | 2, _ => rw [show 2 + 1 = 3 from rfl]; (first | lia | omega)
end

end
section
local macro_rules | `(tactic| k_ne) => `(tactic| k_extra "ne")
local macro_rules | `(tactic| l_idx) => `(tactic| k_extra "idx")
local macro_rules | `(tactic| k_all) => `(tactic| with_reducible assumption)
local macro_rules | `(tactic| k_upd) => `(tactic| k_extra "upd")
local macro_rules | `(tactic| walk_at $k:str) => `(tactic| k_extra $k)
section
inductive J_fm (pa : Addr) (news : List (Addr × Obj)) (mode : Int) (t0 : Tok) (i : Nat) (m' : Str → Option Value) (nx : List (Addr × Obj)) : Prop
  | mk (vs n : _) (_ : nx = (pa, W.listOf vs.toArray n) :: news) (_ : StrsAre vs ((fmChars mode i).map one)) (_ : m' (Str.ofString "mode") = some (.int mode t0)) (_ : m' (Str.ofString "perm") = some (.ref pa))
noncomputable abbrev J_fm2 (pa : Addr) (mode : Int) (t0 t2 : Tok) (i : Nat) (row : List (Int × Nat)) (k : Nat) (m' : Str → Option Value) : Prop := m' (Str.ofString "mode") = some (.int mode t0) ∧ m' (Str.ofString "perm") = some (.ref pa) ∧ m' (Str.ofString "index") = some (.int (i : Int) t2) ∧ ∀ j p, j < k → row[j]? = some p → rowHit mode i p = false
section
variable {w : World} {mean : ExcName → Option Value} {mg mb : Str → Option Value} {dp un : Nat} {gd : Option (List Code)} {cn : Str} {cs : Scope} {a : Addr} {ccd : Value} {cl : List (Str × Addr)} {outer : List Env} {A₀ : Around} {base h₀ : Heap} {L : Addr} {m : Str → Option Value} {s : Shared} {Q E : Value → Shared → Prop}

set_option maxHeartbeats 1000000 in
theorem filemode_tells {news : List (Addr × Obj)} {mode : Int} {t0 : Tok}
    (B : Below A₀ base outer h₀) (F : Fr h₀ L s.heap m) (X : (hd.heap_39 w.params).In h₀) (N : News h₀ L s.heap news) (T : Top hd.view_39 lz mean mg mb h₀) (hk : cs.kind = .function)
    (hdp : dp + 2 < recursionLimit) (hun : un + 16 < cLine)
    (hret : ∀ h' tk' t' x, Fr h₀ L h' m → News h₀ L h' news → x = fmStr mode → x.length = 10 → Q (.str x t') { s with heap := h', toks := tk' }) :
    wpAny (model prg w) (ktrTop dp un gd cn cs L a ccd cl outer) (call (.ref 116) [.int mode t0]) Q E s := by
  revert X; unfold prg; w_top off; k_fill; intro X
  refine wpAny_call ?_
  k_dflt cell_enter
  k_with_none
  k_with "ne" => (refine neN ?_; (try dsimp only); with_reducible first | assumption | exact Ne.symm (by assumption) | exact ne1 | exact ne1.symm | exact ne2 | exact ne2.symm | exact ne3 | exact ne3.symm | exact ne4 | exact ne4.symm | exact ne5 | exact ne5.symm | exact nl1 (by assumption) | exact nl2 (by assumption) | exact nl3 (by assumption) | exact (nl1 (by assumption)).symm | exact (nl2 (by assumption)).symm | exact (nl3 (by assumption)).symm | exact Nat.ne_of_lt (by assumption) | exact Nat.ne_of_gt (by assumption) | exact cj1 (by assumption) | exact Ne.symm (cj1 (by assumption)) | exact Nat.ne_of_lt (cj1 (by assumption)) | exact Nat.ne_of_gt (cj1 (by assumption)) | exact cj2 (by assumption) | exact Ne.symm (cj2 (by assumption)) | exact Nat.ne_of_lt (cj2 (by assumption)) | exact Nat.ne_of_gt (cj2 (by assumption)) | exact cj3 (by assumption) | exact Ne.symm (cj3 (by assumption)) | exact Nat.ne_of_lt (cj3 (by assumption)) | exact Nat.ne_of_gt (cj3 (by assumption)) | exact cj4 (by assumption) | exact Ne.symm (cj4 (by assumption)) | exact Nat.ne_of_lt (cj4 (by assumption)) | exact Nat.ne_of_gt (cj4 (by assumption)) | exact cj5 (by assumption) | exact Ne.symm (cj5 (by assumption)) | exact Nat.ne_of_lt (cj5 (by assumption)) | exact Nat.ne_of_gt (cj5 (by assumption)) | exact cj6 (by assumption) | exact Ne.symm (cj6 (by assumption)) | exact Nat.ne_of_lt (cj6 (by assumption)) | exact Nat.ne_of_gt (cj6 (by assumption)) | exact cj7 (by assumption) | exact Ne.symm (cj7 (by assumption)) | exact Nat.ne_of_lt (cj7 (by assumption)) | exact Nat.ne_of_gt (cj7 (by assumption)) | exact cj8 (by assumption) | exact Ne.symm (cj8 (by assumption)) | exact Nat.ne_of_lt (cj8 (by assumption)) | exact Nat.ne_of_gt (cj8 (by assumption)) | exact cj9 (by assumption) | exact Ne.symm (cj9 (by assumption)) | exact Nat.ne_of_lt (cj9 (by assumption)) | exact Nat.ne_of_gt (cj9 (by assumption)) | exact ej5 (by assumption) | exact Ne.symm (ej5 (by assumption)) | exact Nat.ne_of_lt (ej5 (by assumption)) | exact Nat.ne_of_gt (ej5 (by assumption)) | exact ej6 (by assumption) | exact Ne.symm (ej6 (by assumption)) | exact Nat.ne_of_lt (ej6 (by assumption)) | exact Nat.ne_of_gt (ej6 (by assumption)) | exact ej7 (by assumption) | exact Ne.symm (ej7 (by assumption)) | exact Nat.ne_of_lt (ej7 (by assumption)) | exact Nat.ne_of_gt (ej7 (by assumption)) | exact ej8 (by assumption) | exact Ne.symm (ej8 (by assumption)) | exact Nat.ne_of_lt (ej8 (by assumption)) | exact Nat.ne_of_gt (ej8 (by assumption)) | exact ej9 (by assumption) | exact Ne.symm (ej9 (by assumption)) | exact Nat.ne_of_lt (ej9 (by assumption)) | exact Nat.ne_of_gt (ej9 (by assumption)))
  k_with "binaryOp RShift int int" => (k_here; (with_reducible refine shr1 ?_))
  k_with "binaryOp Mod int int" => (k_here; (with_reducible refine mod_pos ?k1 ?_); (case k1 => decide))
  k_with "binaryOp FloorDiv int int" => (k_here; (with_reducible refine fdiv_pos ?k1 ?k2 ?_); (case k1 => decide); (case k2 => decide +kernel))
  k_with "call ref" => (k_here; refine wpAny_call ?_; k_dflt (refine' code_def ?k1 ?k2 ?k3 ?k4 ?k5 ?kA ?kF ?kK ?k6 ?k7 ?k8 ?k9 ?kB ?_ ?c2 ?c3 ?c4 ?c5; (case kA => exact rfl); (case kF => exact rfl); (case kK => first | exact rfl | assumption); (case k1 => k_asm); (case k2 => k_asm); (case k3 => k_asm); (case k4 => k_asm); (case k5 => k_asm); (case k6 => k_is); (case k7 => k_is); (case k8 => (first | exact unL2 (by assumption) rfl | exact unL1 (by assumption) rfl | exact unL0 (by assumption) | ktr_room)); (case k9 => exact BindsTo.of_eq rfl); (case c5 => decide); (case kB => exact locs rfl); (case c2 => exact rfl); (case c3 => exact rfl); (case c4 => exact rfl); k_whole; intro g' L' h' FG' F' N' B' X' T'; (try dsimp only); (try k_lift B'); (try k_fold)))
  k_with "execs cons" => (k_here; first | (k_made; walk_at "execs cons") | k_gentoks | ((with_reducible refine wpAny_execs_cons ?_); (try dsimp only); (try k_fold)))
  k_with "idx" => (first | with_reducible assumption | (first | lia | omega))
  k_with "upd" => (first | (refine' Pick.head ?a; (case a => k_all)) | (refine' Pick.tail ?a ?b; (case a => k_ne); (case b => k_upd)))
  k_with "exec For Tuple Call cons nil" => (k_here; (with_unfolding_all refine' For_turns (by k_asm) ?_; k_whole))
  k_steps
  rename_i pa h1 hpa h2 F1 N1
  rename Frag.In _ _ => X1
  refine' hid fun kG_ => ?_
  obtain ⟨tv, htv, hlen, hrows⟩ := tab_of X1 (tab_ok _)
  refine' kG_ ?_
  clear kG_
  refine enum_tup_inv (J_fm pa news mode t0) rfl F1 N1 htv ⟨[], 0, rfl, .nil, rfl, rfl⟩ ?_ ?_
  · intro i x T2 t2 m₁ news₁ h3 tk3 own hx hJ hoff hT F3 N3
    refine' hid fun kG_ => ?_
    obtain ⟨vs, n, rfl, hs, hm1, hm2⟩ := hJ
    refine' kG_ ?_
    clear kG_
    have hx' : tv[i]? = some x := by simpa using hx
    refine' hid fun kG_ => ?_
    obtain ⟨row, hrow, q, rv, rfl, hq, hrl, hpairs⟩ := hrows i x hx'
    refine' kG_ ?_
    clear kG_
    have hi10 : i < 10 := by
      have := (List.getElem?_eq_some_iff.mp hx').1
      (first | lia | omega)
    have hT' : IsTup h3 T2 _ := hT
    have hvl : vs.length = i := by have := hs.length; simp [fm_length] at this; exact this
    have F4 := fr_known2 hm1 hm2 F3
    have hoffA : ∀ p ∈ own ++ news, p.1 ≠ pa := fun p hp => by
      rcases List.mem_append.mp hp with hp | hp
      · exact hoff (pa, W.listOf vs.toArray n) (List.mem_cons_self ..) p hp
      · exact Nat.ne_of_lt (hpa p hp)
    have hoffN : ∀ p ∈ news, ∀ q ∈ own, q.1 ≠ p.1 := fun p hp => hoff p (List.mem_cons_of_mem _ hp)
    have N4 : News _ _ _ ((pa, W.listOf vs.toArray n) :: (own ++ news)) := fun p hp => N3 p (by
      rcases List.mem_cons.mp hp with rfl | hp
      · exact List.mem_append_right _ (List.mem_cons_self ..)
      · rcases List.mem_append.mp hp with hp | hp
        · exact List.mem_append_left _ hp
        · exact List.mem_append_right _ (List.mem_cons_of_mem _ hp))
    clear F3 F1 N1 N3 hx hx' hT hrows hoff hpa
    show wpAny _ _ _ _ _ _
    try k_fold
    k_steps
    rename Fr _ _ _ _ => F5
    rename News _ _ _ _ => N5
    refine forElse_tup (J_fm2 pa mode t0 t2 i row) rfl F5 N5 hq ⟨rfl, rfl, rfl, fun j p h => absurd h (Nat.not_lt_zero _)⟩ (fun Q' h => ld F5 rfl h) ?_ ?_
    · intro k x m2 h5 tk5 I o hx2 hJ2 hI F6 N6
      refine' hid fun kG_ => ?_
      obtain ⟨a1, a2, a3, a4⟩ := hJ2
      obtain ⟨p, hp, q2, tb, tc, rfl, hq2⟩ := hpairs k x (by simpa using hx2)
      refine' kG_ ?_
      clear kG_
      have hT2 : IsTup h5 q2 _ := hq2.at fun o e => F6.keep _ _ e
      have F7 := fr_known3 a1 a2 a3 F6
      have hoffB : ∀ p ∈ (I, o) :: (own ++ news), p.1 ≠ pa := fun p hp => by
        rcases List.mem_cons.mp hp with rfl | hp
        · exact Nat.ne_of_gt (hI (pa, W.listOf vs.toArray n) (List.mem_cons_self ..))
        · exact hoffA p hp
      have N7 : News _ _ _ ((pa, W.listOf vs.toArray n) :: (I, o) :: (own ++ news)) := fun p hp => N6 p (by
        rcases List.mem_cons.mp hp with rfl | hp
        · exact List.mem_cons_of_mem _ (List.mem_cons_self ..)
        · rcases List.mem_cons.mp hp with rfl | hp
          · exact List.mem_cons_self ..
          · exact List.mem_cons_of_mem _ (List.mem_cons_of_mem _ hp))
      clear F6 N6 F5 N5 hx2 hq2
      show wpAny _ _ _ _ _ _
      try k_fold
      k_steps
      · rename News _ _ _ _ => NN
        simp only [List.push_toArray] at NN
        exact EnumEnd.intro (news' := (pa, _) :: news) (by k_asm) NN led_sub (led_off hoffA hoffN) ⟨_, _, rfl, strs_next hs hrow (char_hit hp (hit0 (by (first | lia | omega)) (by assumption)) a4), rfl, rfl⟩
      · exact ElseEnd.intro (by k_asm) (by k_asm) led_swap ⟨rfl, rfl, rfl, hit_more hp (miss0 (by (first | lia | omega)) (by assumption)) a4⟩
      · rename News _ _ _ _ => NN
        simp only [List.push_toArray] at NN
        exact EnumEnd.intro (news' := (pa, _) :: news) (by k_asm) NN led_sub (led_off hoffA hoffN) ⟨_, _, rfl, strs_next hs hrow (char_hit hp (hit1 (by assumption) (by assumption)) a4), rfl, rfl⟩
      · exact ElseEnd.intro (by k_asm) (by k_asm) led_swap ⟨rfl, rfl, rfl, hit_more hp (miss1 (by assumption) (by assumption)) a4⟩
    · intro h6 tk6 m6 F6 N6 hJ6
      refine' hid fun kG_ => ?_
      obtain ⟨a1, a2, a3, a4⟩ := hJ6
      refine' kG_ ?_
      clear kG_
      have F7 := fr_known3 a1 a2 a3 F6
      have hrv : rowChar mode i row = if i = 0 then 63 else 45 := char_none fun j q hj hq => a4 j q (by simpa [hrl] using hj) hq
      clear F6 F5 N5
      show wpAny _ _ _ _ _ _
      try k_fold
      k_steps
      · rename News _ _ _ _ => NN
        simp only [List.push_toArray] at NN
        exact EnumEnd.intro (news' := (pa, _) :: news) (by k_asm) NN led_sub0 (led_off hoffA hoffN) ⟨_, _, rfl, strs_next (c := 63) hs hrow (hrv.trans (if_pos (by (first | lia | omega)))), rfl, rfl⟩
      · rename News _ _ _ _ => NN
        simp only [List.push_toArray] at NN
        exact EnumEnd.intro (news' := (pa, _) :: news) (by k_asm) NN led_sub0 (led_off hoffA hoffN) ⟨_, _, rfl, strs_next (c := 45) hs hrow (hrv.trans (if_neg (by (first | lia | omega)))), rfl, rfl⟩
  · intro h6 tk6 m6 news6 F6 N6 hJ6
    refine' hid fun kG_ => ?_
    obtain ⟨vs, n, rfl, hs, hm1, hm2⟩ := hJ6
    refine' kG_ ?_
    clear kG_
    rw [show tv.toArray.size = 10 by simpa using hlen] at hs
    have F7 := fr_known2 hm1 hm2 F6
    clear F6 F1 N1
    k_steps
    refine join_listW (D := pa) (by is_list) (by simpa using hs) (by decide +kernel) (fm_weight mode) ?_
    intro t9 k9
    rw [fm_join]
    k_steps
    exact hret _ _ _ _ (by k_asm) (cb_drop (by assumption) (fun p hp => List.mem_cons_of_mem _ hp)) rfl (by simp [fmStr, Str.length, fm_length])
end

end
section
/-! the signs -/
theorem and_pow (x : Int) (k : Nat) : (Builtin.bitAnd x (2 ^ k) == 2 ^ k) = decide (x / 2 ^ k % 2 = 1) := by
  rw [kbt_bit]
  have hp : (0 : Int) < 2 ^ k := Int.pow_pos (by decide)
  rcases (by (first | lia | omega) : x / 2 ^ k % 2 = 0 ∨ x / 2 ^ k % 2 = 1) with h | h
  · rw [h]; simp; (first | lia | omega)
  · rw [h]; simp
theorem half_even (x y : Int) : Builtin.bitAnd x (2 * y) = 2 * Builtin.bitAnd (x / 2) y := by
  rw [kbt_halves x (2 * y)]
  rw [show 2 * y / 2 = y by (first | lia | omega), if_neg (by (first | lia | omega))]
  (first | lia | omega)
theorem half_odd (x y : Int) : Builtin.bitAnd x (2 * y + 1) = 2 * Builtin.bitAnd (x / 2) y + x % 2 := by
  rw [kbt_halves x (2 * y + 1)]
  rw [show (2 * y + 1) / 2 = y by (first | lia | omega)]
  split <;> (first | lia | omega)
theorem mul_sw (a b : Int) : 2 * (a * b) = b * 2 * a := by rw [Int.mul_comm b 2, Int.mul_assoc, Int.mul_comm b a]
theorem div_two (x : Int) (k : Nat) : x / 2 / 2 ^ k = x / 2 ^ (k + 1) := by rw [Int.ediv_ediv_of_nonneg (by decide), Int.pow_succ, Int.mul_comm 2]
theorem and_two : ∀ (j d : Nat) (x : Int), Builtin.bitAnd x (2 ^ (j + d + 1) + 2 ^ j) = 2 ^ (j + d + 1) * (x / 2 ^ (j + d + 1) % 2) + 2 ^ j * (x / 2 ^ j % 2)
  | 0, d, x => by
    have e : (2 : Int) ^ (0 + d + 1) + 2 ^ 0 = 2 * 2 ^ d + 1 := by rw [Nat.zero_add, Int.pow_succ, Int.mul_comm]; rfl
    rw [e, half_odd, kbt_bit, div_two, Nat.zero_add, Int.pow_zero, Int.ediv_one, Int.one_mul, mul_sw, ← Int.pow_succ]
  | j + 1, d, x => by
    have e : (2 : Int) ^ (j + 1 + d + 1) + 2 ^ (j + 1) = 2 * (2 ^ (j + d + 1) + 2 ^ j) := by
      rw [show j + 1 + d + 1 = (j + d + 1) + 1 by (first | lia | omega), Int.pow_succ 2 (j + d + 1), Int.pow_succ 2 j, Int.mul_add, Int.mul_comm 2, Int.mul_comm 2]
    rw [e, half_even, and_two j d (x / 2), div_two, div_two, show j + 1 + d + 1 = (j + d + 1) + 1 by (first | lia | omega), Int.mul_add, Int.pow_succ 2 (j + d + 1), Int.pow_succ 2 j, ← Int.mul_assoc, ← Int.mul_assoc, Int.mul_comm 2, Int.mul_comm 2]
theorem and513 (x : Int) : Builtin.bitAnd x 513 = 512 * (x / 512 % 2) + 1 * (x / 1 % 2) := and_two 0 8 x
theorem and1032 (x : Int) : Builtin.bitAnd x 1032 = 1024 * (x / 1024 % 2) + 8 * (x / 8 % 2) := and_two 3 6 x
theorem and2112 (x : Int) : Builtin.bitAnd x 2112 = 2048 * (x / 2048 % 2) + 64 * (x / 64 % 2) := and_two 6 4 x
/-- a row of one right, and a row of the third sign -/
theorem row1 (x : Int) (i k c : Nat) (hi : i ≠ 0) : rowChar x i [((2 : Int) ^ k, c)] = if x / 2 ^ k % 2 = 1 then c else 45 := by
  unfold rowChar
  simp only [List.find?, rowHit, if_neg hi, and_pow]
  by_cases h : x / 2 ^ k % 2 = 1
  · simp [h]
  · simp [h]
theorem row3 (x : Int) (i : Nat) (b bs bx : Int) (c1 c2 c3 : Nat) (hi : i ≠ 0) (hs : Builtin.bitAnd x bs = bs * (x / bs % 2)) (hx : Builtin.bitAnd x bx = bx * (x / bx % 2)) (hb : Builtin.bitAnd x b = bs * (x / bs % 2) + bx * (x / bx % 2)) (he : b = bs + bx) (h1 : 0 < bx) (h2 : bx < bs) :
    rowChar x i [(b, c1), (bs, c2), (bx, c3)] = if x / bx % 2 = 1 then (if x / bs % 2 = 1 then c1 else c3) else (if x / bs % 2 = 1 then c2 else 45) := by
  unfold rowChar
  simp only [List.find?, rowHit, if_neg hi, hs, hx, hb]
  rcases (by (first | lia | omega) : x / bs % 2 = 0 ∨ x / bs % 2 = 1) with h | h <;> rcases (by (first | lia | omega) : x / bx % 2 = 0 ∨ x / bx % 2 = 1) with g | g
  · rw [h, g]
    have q1 : (bs * 0 + bx * 0 == b) = false := by simp; (first | lia | omega)
    have q2 : (bs * 0 == bs) = false := by simp; (first | lia | omega)
    have q3 : (bx * 0 == bx) = false := by simp; (first | lia | omega)
    simp only [q1, q2, q3]
    simp [hi]
  · rw [h, g]
    have q1 : (bs * 0 + bx * 1 == b) = false := by simp; (first | lia | omega)
    have q2 : (bs * 0 == bs) = false := by simp; (first | lia | omega)
    have q3 : (bx * 1 == bx) = true := by simp
    simp only [q1, q2, q3]
    simp
  · rw [h, g]
    have q1 : (bs * 1 + bx * 0 == b) = false := by simp; (first | lia | omega)
    have q2 : (bs * 1 == bs) = true := by simp
    simp only [q1, q2]
    simp
  · rw [h, g]
    have q1 : (bs * 1 + bx * 1 == b) = true := by simp; (first | lia | omega)
    simp only [q1]
    simp
/-- the sign of a place, as code -/
noncomputable def sgn (x : Int) : Nat → Nat
  | 0 => if x / 256 % 2 = 1 then 114 else 45
  | 1 => if x / 128 % 2 = 1 then 119 else 45
  | 2 => if x / 64 % 2 = 1 then (if x / 2048 % 2 = 1 then 115 else 120) else (if x / 2048 % 2 = 1 then 83 else 45)
  | 3 => if x / 32 % 2 = 1 then 114 else 45
  | 4 => if x / 16 % 2 = 1 then 119 else 45
  | 5 => if x / 8 % 2 = 1 then (if x / 1024 % 2 = 1 then 115 else 120) else (if x / 1024 % 2 = 1 then 83 else 45)
  | 6 => if x / 4 % 2 = 1 then 114 else 45
  | 7 => if x / 2 % 2 = 1 then 119 else 45
  | _ => if x / 1 % 2 = 1 then (if x / 512 % 2 = 1 then 116 else 120) else (if x / 512 % 2 = 1 then 84 else 45)
theorem fm_list (x : Int) : fmChars x 10 = [rowChar x 0 (tbl.getD 0 []), sgn x 0, sgn x 1, sgn x 2, sgn x 3, sgn x 4, sgn x 5, sgn x 6, sgn x 7, sgn x 8] := by
  have r0 : rowChar x 1 (tbl.getD 1 []) = sgn x 0 := row1 x 1 8 114 (by decide)
  have r1 : rowChar x 2 (tbl.getD 2 []) = sgn x 1 := row1 x 2 7 119 (by decide)
  have r2 : rowChar x 3 (tbl.getD 3 []) = sgn x 2 := row3 x 3 2112 2048 64 115 83 120 (by decide) ((kbt_bit x 11).trans (Int.mul_comm _ _)) ((kbt_bit x 6).trans (Int.mul_comm _ _)) (and2112 x) (by decide) (by decide) (by decide)
  have r3 : rowChar x 4 (tbl.getD 4 []) = sgn x 3 := row1 x 4 5 114 (by decide)
  have r4 : rowChar x 5 (tbl.getD 5 []) = sgn x 4 := row1 x 5 4 119 (by decide)
  have r5 : rowChar x 6 (tbl.getD 6 []) = sgn x 5 := row3 x 6 1032 1024 8 115 83 120 (by decide) ((kbt_bit x 10).trans (Int.mul_comm _ _)) ((kbt_bit x 3).trans (Int.mul_comm _ _)) (and1032 x) (by decide) (by decide) (by decide)
  have r6 : rowChar x 7 (tbl.getD 7 []) = sgn x 6 := row1 x 7 2 114 (by decide)
  have r7 : rowChar x 8 (tbl.getD 8 []) = sgn x 7 := row1 x 8 1 119 (by decide)
  have r8 : rowChar x 9 (tbl.getD 9 []) = sgn x 8 := row3 x 9 513 512 1 116 84 120 (by decide) ((kbt_bit x 9).trans (Int.mul_comm _ _)) ((kbt_bit x 0).trans (Int.mul_comm _ _)) (and513 x) (by decide) (by decide) (by decide)
  simp only [fmChars, List.nil_append, List.cons_append, r0, r1, r2, r3, r4, r5, r6, r7, r8]
noncomputable def sgns (x : Int) : Str := ⟨#[sgn x 0, sgn x 1, sgn x 2, sgn x 3, sgn x 4, sgn x 5, sgn x 6, sgn x 7, sgn x 8]⟩
theorem slice_sgns (x : Int) : Txt.slice (fmStr x) (some 1) none = sgns x := by
  unfold fmStr
  rw [fm_list, slice_from_eq (b := 10) (by decide) (by show (1 : Int) ≤ 10; decide) (by rfl)]
  rfl

end
section
/-! the medians, list.index -/
theorem sorted_unique : ∀ {a b : List Int}, a.Perm b → a.Pairwise (· ≤ ·) → b.Pairwise (· ≤ ·) → a = b
  | [], b, p, _, _ => (List.Perm.nil_eq p).symm ▸ rfl
  | x :: r, [], p, _, _ => by simpa using p.length_eq
  | x :: r, y :: q, p, ha, hb => by
    have h1 : x ∈ y :: q := p.mem_iff.mp (List.mem_cons_self ..)
    have h2 : y ∈ x :: r := p.mem_iff.mpr (List.mem_cons_self ..)
    have hxy : x = y := by
      rcases List.mem_cons.mp h1 with e | e
      · exact e
      · rcases List.mem_cons.mp h2 with f | f
        · exact f.symm
        · exact Int.le_antisymm ((List.pairwise_cons.mp ha).1 y f) ((List.pairwise_cons.mp hb).1 x e)
    subst hxy
    rw [sorted_unique (List.Perm.cons_inv p) (List.pairwise_cons.mp ha).2 (List.pairwise_cons.mp hb).2]

section
variable {prog : Program} {w : World} {A : Around} {E : Value → Shared → Prop} {s : Shared} {h₀ : Heap} {L D : Addr} {m : Str → Option Value} {news : List (Addr × Obj)}
end

end
section
theorem med_lo1 {n m : Nat} (hm : m = n) (h : (m : Int) % 2 = 1) : (n - 1) / 2 = ((n : Int) / 2).toNat := by
  refine' hid fun kG_ => ?_
  obtain ⟨k, rfl⟩ : ∃ k, n = 2 * k + 1 := ⟨n / 2, by (first | lia | omega)⟩
  refine' kG_ ?_
  clear kG_
  rw [show ((2 * k + 1 : Nat) : Int) / 2 = (k : Int) by (first | lia | omega), Int.toNat_natCast]
  (first | lia | omega)
theorem med_lo2 {n m : Nat} (hm : m = n) (h : (m : Int) % 2 ≠ 1) (h0 : 0 < n) : (n - 1) / 2 = ((n : Int) / 2 - 1).toNat := by
  refine' hid fun kG_ => ?_
  obtain ⟨k, rfl⟩ : ∃ k, n = 2 * k + 2 := ⟨n / 2 - 1, by (first | lia | omega)⟩
  refine' kG_ ?_
  clear kG_
  rw [show ((2 * k + 2 : Nat) : Int) / 2 - 1 = (k : Int) by (first | lia | omega), Int.toNat_natCast]
  (first | lia | omega)
section
variable {w : World} {mean : ExcName → Option Value} {mg mb : Str → Option Value} {dp un : Nat} {gd : Option (List Code)} {cn : Str} {cs : Scope} {a : Addr} {ccd : Value} {cl : List (Str × Addr)} {outer : List Env} {A₀ : Around} {base h₀ : Heap} {L : Addr} {m : Str → Option Value} {s : Shared} {Q E : Value → Shared → Prop}

set_option maxHeartbeats 1000000 in
theorem medlow_tells {l : Addr} {vs : List Value} {n : Nat} {xs S : List Int} {news : List (Addr × Obj)}
    (B : Below A₀ base outer h₀) (F : Fr h₀ L s.heap m) (X : (hd.heap_39 w.params).In h₀) (N : News h₀ L s.heap news) (T : Top hd.view_39 lz mean mg mb h₀) (hk : cs.kind = .function)
    (hm : (l, W.listOf vs.toArray n) ∈ news) (hi : IntsAre vs xs) (hne : 0 < xs.length) (hlen : xs.length < 64) (hS : S.Perm xs) (hSo : S.Pairwise (· ≤ ·))
    (hdp : dp + 1 < recursionLimit) (hun : un + 8 < cLine)
    (hret : ∀ h' tk' t' v, Fr h₀ L h' m → News h₀ L h' news → v = S.getD ((xs.length - 1) / 2) 0 → Q (.int v t') { s with heap := h', toks := tk' }) :
    wpAny (model prg w) (ktrTop dp un gd cn cs L a ccd cl outer) (call (.ref 34) [.ref l]) Q E s := by
  revert X; unfold prg; w_top off; k_fill; intro X
  refine wpAny_call ?_
  k_dflt cell_enter
  k_with_none
  k_with "ne" => (refine neN ?_; (try dsimp only); with_reducible first | assumption | exact Ne.symm (by assumption) | exact ne1 | exact ne1.symm | exact ne2 | exact ne2.symm | exact ne3 | exact ne3.symm | exact ne4 | exact ne4.symm | exact ne5 | exact ne5.symm | exact nl1 (by assumption) | exact nl2 (by assumption) | exact nl3 (by assumption) | exact (nl1 (by assumption)).symm | exact (nl2 (by assumption)).symm | exact (nl3 (by assumption)).symm | exact Nat.ne_of_lt (by assumption) | exact Nat.ne_of_gt (by assumption) | exact cj1 (by assumption) | exact Ne.symm (cj1 (by assumption)) | exact Nat.ne_of_lt (cj1 (by assumption)) | exact Nat.ne_of_gt (cj1 (by assumption)) | exact cj2 (by assumption) | exact Ne.symm (cj2 (by assumption)) | exact Nat.ne_of_lt (cj2 (by assumption)) | exact Nat.ne_of_gt (cj2 (by assumption)) | exact cj3 (by assumption) | exact Ne.symm (cj3 (by assumption)) | exact Nat.ne_of_lt (cj3 (by assumption)) | exact Nat.ne_of_gt (cj3 (by assumption)) | exact cj4 (by assumption) | exact Ne.symm (cj4 (by assumption)) | exact Nat.ne_of_lt (cj4 (by assumption)) | exact Nat.ne_of_gt (cj4 (by assumption)) | exact cj5 (by assumption) | exact Ne.symm (cj5 (by assumption)) | exact Nat.ne_of_lt (cj5 (by assumption)) | exact Nat.ne_of_gt (cj5 (by assumption)) | exact cj6 (by assumption) | exact Ne.symm (cj6 (by assumption)) | exact Nat.ne_of_lt (cj6 (by assumption)) | exact Nat.ne_of_gt (cj6 (by assumption)) | exact cj7 (by assumption) | exact Ne.symm (cj7 (by assumption)) | exact Nat.ne_of_lt (cj7 (by assumption)) | exact Nat.ne_of_gt (cj7 (by assumption)) | exact cj8 (by assumption) | exact Ne.symm (cj8 (by assumption)) | exact Nat.ne_of_lt (cj8 (by assumption)) | exact Nat.ne_of_gt (cj8 (by assumption)) | exact cj9 (by assumption) | exact Ne.symm (cj9 (by assumption)) | exact Nat.ne_of_lt (cj9 (by assumption)) | exact Nat.ne_of_gt (cj9 (by assumption)) | exact ej5 (by assumption) | exact Ne.symm (ej5 (by assumption)) | exact Nat.ne_of_lt (ej5 (by assumption)) | exact Nat.ne_of_gt (ej5 (by assumption)) | exact ej6 (by assumption) | exact Ne.symm (ej6 (by assumption)) | exact Nat.ne_of_lt (ej6 (by assumption)) | exact Nat.ne_of_gt (ej6 (by assumption)) | exact ej7 (by assumption) | exact Ne.symm (ej7 (by assumption)) | exact Nat.ne_of_lt (ej7 (by assumption)) | exact Nat.ne_of_gt (ej7 (by assumption)) | exact ej8 (by assumption) | exact Ne.symm (ej8 (by assumption)) | exact Nat.ne_of_lt (ej8 (by assumption)) | exact Nat.ne_of_gt (ej8 (by assumption)) | exact ej9 (by assumption) | exact Ne.symm (ej9 (by assumption)) | exact Nat.ne_of_lt (ej9 (by assumption)) | exact Nat.ne_of_gt (ej9 (by assumption)))
  k_with "binaryOp RShift int int" => (k_here; (with_reducible refine shr1 ?_))
  k_with "binaryOp Mod int int" => (k_here; (with_reducible refine mod_pos ?k1 ?_); (case k1 => decide))
  k_with "binaryOp FloorDiv int int" => (k_here; (with_reducible refine fdiv_pos ?k1 ?k2 ?_); (case k1 => decide); (case k2 => decide +kernel))
  k_with "call ref" => (k_here; refine wpAny_call ?_; k_dflt (refine' code_def ?k1 ?k2 ?k3 ?k4 ?k5 ?kA ?kF ?kK ?k6 ?k7 ?k8 ?k9 ?kB ?_ ?c2 ?c3 ?c4 ?c5; (case kA => exact rfl); (case kF => exact rfl); (case kK => first | exact rfl | assumption); (case k1 => k_asm); (case k2 => k_asm); (case k3 => k_asm); (case k4 => k_asm); (case k5 => k_asm); (case k6 => k_is); (case k7 => k_is); (case k8 => (first | exact unL2 (by assumption) rfl | exact unL1 (by assumption) rfl | exact unL0 (by assumption) | ktr_room)); (case k9 => exact BindsTo.of_eq rfl); (case c5 => decide); (case kB => exact locs rfl); (case c2 => exact rfl); (case c3 => exact rfl); (case c4 => exact rfl); k_whole; intro g' L' h' FG' F' N' B' X' T'; (try dsimp only); (try k_lift B'); (try k_fold)))
  k_with "execs cons" => (k_here; first | (k_made; walk_at "execs cons") | k_gentoks | ((with_reducible refine wpAny_execs_cons ?_); (try dsimp only); (try k_fold)))
  k_with "idx" => (first | with_reducible assumption | (first | lia | omega))
  k_with "upd" => (first | (refine' Pick.head ?a; (case a => k_all)) | (refine' Pick.tail ?a ?b; (case a => k_ne); (case b => k_upd)))
  k_steps
  have hv := hi.length
  refine kso_sorted (by k_asm) (by k_asm) (kso_isList (by k_asm) hm (by simp)) hi hlen ?_
  intro D' vs' ns' c' h' F' N' l1 hI' hyl' hp' ho' hq'
  have hu : ns' = S := sorted_unique (hp'.trans hS.symm) ho' hSo
  k_steps
  · exfalso; (first | lia | omega)
  · exact at_int (by rw [hu, hS.length_eq]; congr 1; exact med_lo1 (by (first | lia | omega)) (by assumption)) (hret _ _ _ _ (by k_asm) (cb_drop (by assumption) (fun p hp => List.mem_cons_of_mem _ hp)) rfl)
  · exact at_int (by rw [hu, hS.length_eq]; congr 1; exact med_lo2 (by (first | lia | omega)) (by assumption) (by assumption)) (hret _ _ _ _ (by k_asm) (cb_drop (by assumption) (fun p hp => List.mem_cons_of_mem _ hp)) rfl)

set_option maxHeartbeats 1000000 in
theorem medhigh_tells {l : Addr} {vs : List Value} {n : Nat} {xs S : List Int} {news : List (Addr × Obj)}
    (B : Below A₀ base outer h₀) (F : Fr h₀ L s.heap m) (X : (hd.heap_39 w.params).In h₀) (N : News h₀ L s.heap news) (T : Top hd.view_39 lz mean mg mb h₀) (hk : cs.kind = .function)
    (hm : (l, W.listOf vs.toArray n) ∈ news) (hi : IntsAre vs xs) (hne : 0 < xs.length) (hlen : xs.length < 64) (hS : S.Perm xs) (hSo : S.Pairwise (· ≤ ·))
    (hdp : dp + 1 < recursionLimit) (hun : un + 8 < cLine)
    (hret : ∀ h' tk' t' v, Fr h₀ L h' m → News h₀ L h' news → v = S.getD (xs.length / 2) 0 → Q (.int v t') { s with heap := h', toks := tk' }) :
    wpAny (model prg w) (ktrTop dp un gd cn cs L a ccd cl outer) (call (.ref 41) [.ref l]) Q E s := by
  revert X; unfold prg; w_top off; k_fill; intro X
  refine wpAny_call ?_
  k_dflt cell_enter
  k_with_none
  k_with "ne" => (refine neN ?_; (try dsimp only); with_reducible first | assumption | exact Ne.symm (by assumption) | exact ne1 | exact ne1.symm | exact ne2 | exact ne2.symm | exact ne3 | exact ne3.symm | exact ne4 | exact ne4.symm | exact ne5 | exact ne5.symm | exact nl1 (by assumption) | exact nl2 (by assumption) | exact nl3 (by assumption) | exact (nl1 (by assumption)).symm | exact (nl2 (by assumption)).symm | exact (nl3 (by assumption)).symm | exact Nat.ne_of_lt (by assumption) | exact Nat.ne_of_gt (by assumption) | exact cj1 (by assumption) | exact Ne.symm (cj1 (by assumption)) | exact Nat.ne_of_lt (cj1 (by assumption)) | exact Nat.ne_of_gt (cj1 (by assumption)) | exact cj2 (by assumption) | exact Ne.symm (cj2 (by assumption)) | exact Nat.ne_of_lt (cj2 (by assumption)) | exact Nat.ne_of_gt (cj2 (by assumption)) | exact cj3 (by assumption) | exact Ne.symm (cj3 (by assumption)) | exact Nat.ne_of_lt (cj3 (by assumption)) | exact Nat.ne_of_gt (cj3 (by assumption)) | exact cj4 (by assumption) | exact Ne.symm (cj4 (by assumption)) | exact Nat.ne_of_lt (cj4 (by assumption)) | exact Nat.ne_of_gt (cj4 (by assumption)) | exact cj5 (by assumption) | exact Ne.symm (cj5 (by assumption)) | exact Nat.ne_of_lt (cj5 (by assumption)) | exact Nat.ne_of_gt (cj5 (by assumption)) | exact cj6 (by assumption) | exact Ne.symm (cj6 (by assumption)) | exact Nat.ne_of_lt (cj6 (by assumption)) | exact Nat.ne_of_gt (cj6 (by assumption)) | exact cj7 (by assumption) | exact Ne.symm (cj7 (by assumption)) | exact Nat.ne_of_lt (cj7 (by assumption)) | exact Nat.ne_of_gt (cj7 (by assumption)) | exact cj8 (by assumption) | exact Ne.symm (cj8 (by assumption)) | exact Nat.ne_of_lt (cj8 (by assumption)) | exact Nat.ne_of_gt (cj8 (by assumption)) | exact cj9 (by assumption) | exact Ne.symm (cj9 (by assumption)) | exact Nat.ne_of_lt (cj9 (by assumption)) | exact Nat.ne_of_gt (cj9 (by assumption)) | exact ej5 (by assumption) | exact Ne.symm (ej5 (by assumption)) | exact Nat.ne_of_lt (ej5 (by assumption)) | exact Nat.ne_of_gt (ej5 (by assumption)) | exact ej6 (by assumption) | exact Ne.symm (ej6 (by assumption)) | exact Nat.ne_of_lt (ej6 (by assumption)) | exact Nat.ne_of_gt (ej6 (by assumption)) | exact ej7 (by assumption) | exact Ne.symm (ej7 (by assumption)) | exact Nat.ne_of_lt (ej7 (by assumption)) | exact Nat.ne_of_gt (ej7 (by assumption)) | exact ej8 (by assumption) | exact Ne.symm (ej8 (by assumption)) | exact Nat.ne_of_lt (ej8 (by assumption)) | exact Nat.ne_of_gt (ej8 (by assumption)) | exact ej9 (by assumption) | exact Ne.symm (ej9 (by assumption)) | exact Nat.ne_of_lt (ej9 (by assumption)) | exact Nat.ne_of_gt (ej9 (by assumption)))
  k_with "binaryOp RShift int int" => (k_here; (with_reducible refine shr1 ?_))
  k_with "binaryOp Mod int int" => (k_here; (with_reducible refine mod_pos ?k1 ?_); (case k1 => decide))
  k_with "binaryOp FloorDiv int int" => (k_here; (with_reducible refine fdiv_pos ?k1 ?k2 ?_); (case k1 => decide); (case k2 => decide +kernel))
  k_with "call ref" => (k_here; refine wpAny_call ?_; k_dflt (refine' code_def ?k1 ?k2 ?k3 ?k4 ?k5 ?kA ?kF ?kK ?k6 ?k7 ?k8 ?k9 ?kB ?_ ?c2 ?c3 ?c4 ?c5; (case kA => exact rfl); (case kF => exact rfl); (case kK => first | exact rfl | assumption); (case k1 => k_asm); (case k2 => k_asm); (case k3 => k_asm); (case k4 => k_asm); (case k5 => k_asm); (case k6 => k_is); (case k7 => k_is); (case k8 => (first | exact unL2 (by assumption) rfl | exact unL1 (by assumption) rfl | exact unL0 (by assumption) | ktr_room)); (case k9 => exact BindsTo.of_eq rfl); (case c5 => decide); (case kB => exact locs rfl); (case c2 => exact rfl); (case c3 => exact rfl); (case c4 => exact rfl); k_whole; intro g' L' h' FG' F' N' B' X' T'; (try dsimp only); (try k_lift B'); (try k_fold)))
  k_with "execs cons" => (k_here; first | (k_made; walk_at "execs cons") | k_gentoks | ((with_reducible refine wpAny_execs_cons ?_); (try dsimp only); (try k_fold)))
  k_with "idx" => (first | with_reducible assumption | omega)
  k_with "upd" => (first | (refine' Pick.head ?a; (case a => k_all)) | (refine' Pick.tail ?a ?b; (case a => k_ne); (case b => k_upd)))
  k_steps
  have hv := hi.length
  refine kso_sorted (by k_asm) (by k_asm) (kso_isList (by k_asm) hm (by simp)) hi hlen ?_
  intro D' vs' ns' c' h' F' N' l1 hI' hyl' hp' ho' hq'
  have hu : ns' = S := sorted_unique (hp'.trans hS.symm) ho' hSo
  k_steps
  · exfalso; omega
  · exact at_int (by rw [hu, hS.length_eq]; congr 1) (hret _ _ _ _ (by k_asm) (cb_drop (by assumption) (fun p hp => List.mem_cons_of_mem _ hp)) rfl)
end

end
section
inductive J_siftdown (l : Addr) (rest led : List (Addr × Obj)) (xs : List Int) (pos : Int) (t0 : Tok) (a1 : Addr) (n : Nat) (m' : Str → Option Value) (nx : List (Addr × Obj)) : Prop
  | mk (vs' n' ys p tp : _) (_ : nx = (l, W.listOf vs'.toArray n') :: rest) (_ : TupsK led vs' ys) (_ : n = p.toNat) (_ : ys.length = xs.length) (_ : 0 ≤ p) (_ : p < (xs.length : Int)) (_ : sd (xs.getD pos.toNat 0) p.toNat ys p.toNat = sd (xs.getD pos.toNat 0) pos.toNat xs pos.toNat) (_ : KnownAll m' [(Str.ofString "heap", .ref l), (Str.ofString "startpos", .int 0 t0), (Str.ofString "pos", .int p tp), (Str.ofString "newitem", .ref a1)])
section
variable {w : World} {mean : ExcName → Option Value} {mg mb : Str → Option Value} {dp un : Nat} {gd : Option (List Code)} {cn : Str} {cs : Scope} {a : Addr} {ccd : Value} {cl : List (Str × Addr)} {outer : List Env} {A₀ : Around} {base h₀ : Heap} {L : Addr} {m : Str → Option Value} {s : Shared} {Q E : Value → Shared → Prop}


set_option maxHeartbeats 1000000 in
theorem siftdown_tells {l : Addr} {vs : List Value} {n : Nat} {xs : List Int} {news rest led : List (Addr × Obj)} {pos : Int} {t0 t1 : Tok}
    (B : Below A₀ base outer h₀) (F : Fr h₀ L s.heap m) (X : (hd.heap_39 w.params).In h₀) (N : News h₀ L s.heap news) (T : Top hd.view_39 lz mean mg mb h₀) (hk : cs.kind = .function)
    (P : Pick l (listOf vs.toArray n) news rest) (hs : ∀ p ∈ led, p ∈ rest) (hi : TupsK led vs xs) (hlen : xs.length < 1000) (hp0 : 0 ≤ pos) (hp1 : pos < xs.length)
    (hdp : dp + 1 < recursionLimit) (hun : un + 8 < cLine)
    (hret : ∀ h' tk' vs' n', Fr h₀ L h' m → News h₀ L h' ((l, listOf vs'.toArray n') :: rest) → TupsK led vs' (sd (xs.getD pos.toNat 0) pos.toNat xs pos.toNat) → Q .none { s with heap := h', toks := tk' }) :
    wpAny (model prg w) (ktrTop dp un gd cn cs L a ccd cl outer) (call (.ref 62) [.ref l, .int 0 t0, .int pos t1]) Q E s := by
  have hoff := P.off
  replace N := P.news N
  clear P
  have hvl := hi.length
  revert X; unfold prg; w_top off; k_fill; intro X
  refine wpAny_call ?_
  k_dflt cell_enter
  k_with_none
  k_with "ne" => (refine neN ?_; (try dsimp only); with_reducible first | assumption | exact Ne.symm (by assumption) | exact ne1 | exact ne1.symm | exact ne2 | exact ne2.symm | exact ne3 | exact ne3.symm | exact ne4 | exact ne4.symm | exact ne5 | exact ne5.symm | exact nl1 (by assumption) | exact nl2 (by assumption) | exact nl3 (by assumption) | exact (nl1 (by assumption)).symm | exact (nl2 (by assumption)).symm | exact (nl3 (by assumption)).symm | exact Nat.ne_of_lt (by assumption) | exact Nat.ne_of_gt (by assumption) | exact cj1 (by assumption) | exact Ne.symm (cj1 (by assumption)) | exact Nat.ne_of_lt (cj1 (by assumption)) | exact Nat.ne_of_gt (cj1 (by assumption)) | exact cj2 (by assumption) | exact Ne.symm (cj2 (by assumption)) | exact Nat.ne_of_lt (cj2 (by assumption)) | exact Nat.ne_of_gt (cj2 (by assumption)) | exact cj3 (by assumption) | exact Ne.symm (cj3 (by assumption)) | exact Nat.ne_of_lt (cj3 (by assumption)) | exact Nat.ne_of_gt (cj3 (by assumption)) | exact cj4 (by assumption) | exact Ne.symm (cj4 (by assumption)) | exact Nat.ne_of_lt (cj4 (by assumption)) | exact Nat.ne_of_gt (cj4 (by assumption)) | exact cj5 (by assumption) | exact Ne.symm (cj5 (by assumption)) | exact Nat.ne_of_lt (cj5 (by assumption)) | exact Nat.ne_of_gt (cj5 (by assumption)) | exact cj6 (by assumption) | exact Ne.symm (cj6 (by assumption)) | exact Nat.ne_of_lt (cj6 (by assumption)) | exact Nat.ne_of_gt (cj6 (by assumption)) | exact cj7 (by assumption) | exact Ne.symm (cj7 (by assumption)) | exact Nat.ne_of_lt (cj7 (by assumption)) | exact Nat.ne_of_gt (cj7 (by assumption)) | exact cj8 (by assumption) | exact Ne.symm (cj8 (by assumption)) | exact Nat.ne_of_lt (cj8 (by assumption)) | exact Nat.ne_of_gt (cj8 (by assumption)) | exact cj9 (by assumption) | exact Ne.symm (cj9 (by assumption)) | exact Nat.ne_of_lt (cj9 (by assumption)) | exact Nat.ne_of_gt (cj9 (by assumption)) | exact ej5 (by assumption) | exact Ne.symm (ej5 (by assumption)) | exact Nat.ne_of_lt (ej5 (by assumption)) | exact Nat.ne_of_gt (ej5 (by assumption)) | exact ej6 (by assumption) | exact Ne.symm (ej6 (by assumption)) | exact Nat.ne_of_lt (ej6 (by assumption)) | exact Nat.ne_of_gt (ej6 (by assumption)) | exact ej7 (by assumption) | exact Ne.symm (ej7 (by assumption)) | exact Nat.ne_of_lt (ej7 (by assumption)) | exact Nat.ne_of_gt (ej7 (by assumption)) | exact ej8 (by assumption) | exact Ne.symm (ej8 (by assumption)) | exact Nat.ne_of_lt (ej8 (by assumption)) | exact Nat.ne_of_gt (ej8 (by assumption)) | exact ej9 (by assumption) | exact Ne.symm (ej9 (by assumption)) | exact Nat.ne_of_lt (ej9 (by assumption)) | exact Nat.ne_of_gt (ej9 (by assumption)))
  k_with "binaryOp RShift int int" => (k_here; (with_reducible refine shr1 ?_))
  k_with "binaryOp Mod int int" => (k_here; (with_reducible refine mod_pos ?k1 ?_); (case k1 => decide))
  k_with "binaryOp FloorDiv int int" => (k_here; (with_reducible refine fdiv_pos ?k1 ?k2 ?_); (case k1 => decide); (case k2 => decide +kernel))
  k_with "call ref" => (k_here; refine wpAny_call ?_; k_dflt (refine' code_def ?k1 ?k2 ?k3 ?k4 ?k5 ?kA ?kF ?kK ?k6 ?k7 ?k8 ?k9 ?kB ?_ ?c2 ?c3 ?c4 ?c5; (case kA => exact rfl); (case kF => exact rfl); (case kK => first | exact rfl | assumption); (case k1 => k_asm); (case k2 => k_asm); (case k3 => k_asm); (case k4 => k_asm); (case k5 => k_asm); (case k6 => k_is); (case k7 => k_is); (case k8 => (first | exact unL2 (by assumption) rfl | exact unL1 (by assumption) rfl | exact unL0 (by assumption) | ktr_room)); (case k9 => exact BindsTo.of_eq rfl); (case c5 => decide); (case kB => exact locs rfl); (case c2 => exact rfl); (case c3 => exact rfl); (case c4 => exact rfl); k_whole; intro g' L' h' FG' F' N' B' X' T'; (try dsimp only); (try k_lift B'); (try k_fold)))
  k_with "execs cons" => (k_here; first | (k_made; walk_at "execs cons") | k_gentoks | ((with_reducible refine wpAny_execs_cons ?_); (try dsimp only); (try k_fold)))
  k_with "idx" => (first | with_reducible assumption | (first | lia | omega))
  k_with "upd" => (first | (refine' Pick.head ?a; (case a => k_all)) | (refine' Pick.tail ?a ?b; (case a => k_ne); (case b => k_upd)))
  k_with "subscriptTail Name Name ref int" => (k_here; (refine' item_K ?k1 ?k2 ?k3 ?k4 ?k5 ?k6 ?_); (case k1 => k_asm); (case k2 => k_mem); (case k3 => assumption); (case k4 => (first | lia | omega)); (case k5 => (first | lia | omega)); (case k6 => (first | lia | omega)); intro _ _ _)
  k_with "compareOp Lt ref ref" => (k_here; (refine' lt_K ?k1 ?k2 ?k3 ?k4 ?k5 ?_); (case k1 => (first | exact unL2 (by assumption) rfl | exact unL1 (by assumption) rfl | exact unL0 (by assumption) | ktr_units)); (case k2 => k_asm); (case k3 => (intro p hp; refine List.mem_cons_of_mem _ ?_; revert p; assumption)); (case k4 => assumption); (case k5 => assumption))
  k_with "setItem ref int" => (k_here; k_dflt (refine' set_K ?k1 ?k2 ?k3 ?k4 ?k5 ?k6 ?k7 ?k8 ?_; (case k1 => k_asm); (case k2 => k_asm); (case k3 => k_upd); (case k4 => assumption); (case k5 => assumption); (case k6 => (first | lia | omega)); (case k7 => (first | lia | omega)); (case k8 => (first | lia | omega))); intro _ _ _ _ _; (try k_sweep))
  k_with "exec While Compare cons nil" => refine held ?_
  k_steps
  refine Held.out ?_
  unfold Held
  rename Fr _ _ _ _ => F1
  rename News _ _ _ _ => N1
  rename_i T1 _ a1 hT1 hv1 _
  refine while_inv (J_siftdown l rest led xs pos t0 a1) F1 N1 ⟨vs, n, xs, pos, t1, rfl, hi, rfl, rfl, hp0, hp1, rfl, rfl, rfl, rfl, rfl, trivial⟩ ?_
  intro n2 m2 nx h2 tk2 hJ F2 N2
  refine' hid fun kG_ => ?_
  obtain ⟨vs2, n3, ys, p, tp, rfl, hi2, rfl, hyl, hq0, hq1, hsd, hkn⟩ := hJ
  refine' kG_ ?_
  clear kG_
  have F3 := fr_knownL hkn F2
  dsimp only [kstB] at F3
  have hvl2 := hi2.length
  clear F1 F2 N1 hv1 hvl hi
  k_steps
  · try dsimp only
    refine' WEnd.intro (nx := (l, _) :: rest) (by k_asm) (by k_asm) (fun p hp => hp) ⟨_, ?lt, _, _, _, _, _, rfl, ?i1, rfl, ?l1, ?l2, ?l3, ?sd, rfl, rfl, rfl, rfl, trivial⟩
    case i1 => assumption
    case l1 => (first | lia | omega)
    case l2 => exact sd_lo (by (first | lia | omega))
    case l3 => exact sd_up (by (first | lia | omega)) (by assumption)
    case sd => exact sd_go (by (first | lia | omega)) (by assumption) (by assumption)
    case lt => exact sd_lt (by (first | lia | omega))
  · refine hret _ _ _ _ (by k_asm) (by k_asm) ?_
    exact tups_eq (by assumption) (sd_stop (by (first | lia | omega)) (by assumption) (by assumption))
  · refine hret _ _ _ _ (by k_asm) (by k_asm) ?_
    exact tups_eq (by assumption) (sd_zero (by (first | lia | omega)) (by assumption))


set_option maxHeartbeats 1000000 in
theorem push_tells {l ai : Addr} {vs : List Value} {n : Nat} {xs : List Int} {news rest led : List (Addr × Obj)} {x : Int}
    (B : Below A₀ base outer h₀) (F : Fr h₀ L s.heap m) (X : (hd.heap_39 w.params).In h₀) (N : News h₀ L s.heap news) (T : Top hd.view_39 lz mean mg mb h₀) (hk : cs.kind = .function)
    (P : Pick l (listOf vs.toArray n) news rest) (hs : ∀ p ∈ led, p ∈ rest) (hi : TupsK led vs xs) (hx : TupK led (.ref ai) x) (hlen : xs.length < 900)
    (hdp : dp + 2 < recursionLimit) (hun : un + 16 < cLine)
    (hret : ∀ h' tk' vs' n' ys, Fr h₀ L h' m → News h₀ L h' ((l, listOf vs'.toArray n') :: rest) → TupsK led vs' ys → ys = pushF xs x → ys.length = xs.length + 1 → Q .none { s with heap := h', toks := tk' }) :
    wpAny (model prg w) (ktrTop dp un gd cn cs L a ccd cl outer) (call (.ref 48) [.ref l, .ref ai]) Q E s := by
  have hoff := P.off
  replace N := P.news N
  clear P
  have hvl := hi.length
  revert X; unfold prg; w_top off; k_fill; intro X
  refine wpAny_call ?_
  k_dflt cell_enter
  k_with_none
  k_with "ne" => (refine neN ?_; (try dsimp only); with_reducible first | assumption | exact Ne.symm (by assumption) | exact ne1 | exact ne1.symm | exact ne2 | exact ne2.symm | exact ne3 | exact ne3.symm | exact ne4 | exact ne4.symm | exact ne5 | exact ne5.symm | exact nl1 (by assumption) | exact nl2 (by assumption) | exact nl3 (by assumption) | exact (nl1 (by assumption)).symm | exact (nl2 (by assumption)).symm | exact (nl3 (by assumption)).symm | exact Nat.ne_of_lt (by assumption) | exact Nat.ne_of_gt (by assumption) | exact cj1 (by assumption) | exact Ne.symm (cj1 (by assumption)) | exact Nat.ne_of_lt (cj1 (by assumption)) | exact Nat.ne_of_gt (cj1 (by assumption)) | exact cj2 (by assumption) | exact Ne.symm (cj2 (by assumption)) | exact Nat.ne_of_lt (cj2 (by assumption)) | exact Nat.ne_of_gt (cj2 (by assumption)) | exact cj3 (by assumption) | exact Ne.symm (cj3 (by assumption)) | exact Nat.ne_of_lt (cj3 (by assumption)) | exact Nat.ne_of_gt (cj3 (by assumption)) | exact cj4 (by assumption) | exact Ne.symm (cj4 (by assumption)) | exact Nat.ne_of_lt (cj4 (by assumption)) | exact Nat.ne_of_gt (cj4 (by assumption)) | exact cj5 (by assumption) | exact Ne.symm (cj5 (by assumption)) | exact Nat.ne_of_lt (cj5 (by assumption)) | exact Nat.ne_of_gt (cj5 (by assumption)) | exact cj6 (by assumption) | exact Ne.symm (cj6 (by assumption)) | exact Nat.ne_of_lt (cj6 (by assumption)) | exact Nat.ne_of_gt (cj6 (by assumption)) | exact cj7 (by assumption) | exact Ne.symm (cj7 (by assumption)) | exact Nat.ne_of_lt (cj7 (by assumption)) | exact Nat.ne_of_gt (cj7 (by assumption)) | exact cj8 (by assumption) | exact Ne.symm (cj8 (by assumption)) | exact Nat.ne_of_lt (cj8 (by assumption)) | exact Nat.ne_of_gt (cj8 (by assumption)) | exact cj9 (by assumption) | exact Ne.symm (cj9 (by assumption)) | exact Nat.ne_of_lt (cj9 (by assumption)) | exact Nat.ne_of_gt (cj9 (by assumption)) | exact ej5 (by assumption) | exact Ne.symm (ej5 (by assumption)) | exact Nat.ne_of_lt (ej5 (by assumption)) | exact Nat.ne_of_gt (ej5 (by assumption)) | exact ej6 (by assumption) | exact Ne.symm (ej6 (by assumption)) | exact Nat.ne_of_lt (ej6 (by assumption)) | exact Nat.ne_of_gt (ej6 (by assumption)) | exact ej7 (by assumption) | exact Ne.symm (ej7 (by assumption)) | exact Nat.ne_of_lt (ej7 (by assumption)) | exact Nat.ne_of_gt (ej7 (by assumption)) | exact ej8 (by assumption) | exact Ne.symm (ej8 (by assumption)) | exact Nat.ne_of_lt (ej8 (by assumption)) | exact Nat.ne_of_gt (ej8 (by assumption)) | exact ej9 (by assumption) | exact Ne.symm (ej9 (by assumption)) | exact Nat.ne_of_lt (ej9 (by assumption)) | exact Nat.ne_of_gt (ej9 (by assumption)))
  k_with "binaryOp RShift int int" => (k_here; (with_reducible refine shr1 ?_))
  k_with "binaryOp Mod int int" => (k_here; (with_reducible refine mod_pos ?k1 ?_); (case k1 => decide))
  k_with "binaryOp FloorDiv int int" => (k_here; (with_reducible refine fdiv_pos ?k1 ?k2 ?_); (case k1 => decide); (case k2 => decide +kernel))
  k_with "execs cons" => (k_here; first | (k_made; walk_at "execs cons") | k_gentoks | ((with_reducible refine wpAny_execs_cons ?_); (try dsimp only); (try k_fold)))
  k_with "idx" => (first | with_reducible assumption | (first | lia | omega))
  k_with "upd" => (first | (refine' Pick.head ?a; (case a => k_all)) | (refine' Pick.tail ?a ?b; (case a => k_ne); (case b => k_upd)))
  k_with "subscriptTail Name Name ref int" => (k_here; (refine' item_K ?k1 ?k2 ?k3 ?k4 ?k5 ?k6 ?_); (case k1 => k_asm); (case k2 => k_mem); (case k3 => assumption); (case k4 => (first | lia | omega)); (case k5 => (first | lia | omega)); (case k6 => (first | lia | omega)); intro _ _ _)
  k_with "compareOp Lt ref ref" => (k_here; (refine' lt_K ?k1 ?k2 ?k3 ?k4 ?k5 ?_); (case k1 => (first | exact unL2 (by assumption) rfl | exact unL1 (by assumption) rfl | exact unL0 (by assumption) | ktr_units)); (case k2 => k_asm); (case k3 => (intro p hp; refine List.mem_cons_of_mem _ ?_; revert p; assumption)); (case k4 => assumption); (case k5 => assumption))
  k_with "setItem ref int" => (k_here; k_dflt (refine' set_K ?k1 ?k2 ?k3 ?k4 ?k5 ?k6 ?k7 ?k8 ?_; (case k1 => k_asm); (case k2 => k_asm); (case k3 => k_upd); (case k4 => assumption); (case k5 => assumption); (case k6 => (first | lia | omega)); (case k7 => (first | lia | omega)); (case k8 => (first | lia | omega))); intro _ _ _ _ _; (try k_sweep))
  k_with "call builtin:len" => (k_here; k_dflt (refine' len_led ?k1 ?k2 ?k3 ?_; (case k1 => k_asm); (case k2 => k_mem); (case k3 => first | (first | lia | omega) | (simp only [List.length_append, List.length_cons, List.length_nil]; (first | lia | omega)))))
  k_with "call ref" => refine held ?_
  k_steps
  refine Held.out ?_
  unfold Held
  have hi2 : TupsK led (vs ++ [Value.ref ai]) (xs ++ [x]) := hi.append (.cons hx .nil)
  k_dflt (refine' siftdown_tells ?B ?F ?X ?N ?T ?hk ?P ?hs ?hi ?hlen ?hp0 ?hp1 ?hdp ?hun ?_; (case B => k_asm); (case F => k_asm); (case X => k_asm); (case N => k_asm); (case T => k_asm); (case hk => exact rfl); (case P => k_upd); (case hs => assumption); (case hi => exact hi2); (case hlen => (simp only [List.length_append, List.length_cons, List.length_nil]; (first | lia | omega))); (case hp0 => (simp only [List.length_append, List.length_cons, List.length_nil]; (first | lia | omega))); (case hp1 => (simp only [List.length_append, List.length_cons, List.length_nil]; (first | lia | omega))); (case hdp => (first | exact unL2 (by assumption) rfl | exact unL1 (by assumption) rfl | exact unL0 (by assumption) | ktr_room)); (case hun => (first | exact unL2 (by assumption) rfl | exact unL1 (by assumption) rfl | exact unL0 (by assumption) | ktr_units)))
  intro h' tk' vs' n' F' N' hI'
  k_steps
  refine hret _ _ _ _ _ (by k_asm) (by k_asm) (tups_eq (by assumption) ?_) rfl (pushF_length _ _)
  exact push_eq _ _ _ (by simp only [List.length_append, List.length_cons, List.length_nil]; (first | lia | omega))
end

end
section
inductive J_siftup (l : Addr) (rest led : List (Addr × Obj)) (xs : List Int) (a1 : Addr) (n : Nat) (m' : Str → Option Value) (nx : List (Addr × Obj)) : Prop
  | mk (vs' n' ys p tp te ts c tc : _) (_ : nx = (l, W.listOf vs'.toArray n') :: rest) (_ : TupsK led vs' ys) (_ : n = xs.length - p.toNat) (_ : ys.length = xs.length) (_ : 0 ≤ p) (_ : p < (xs.length : Int)) (_ : c = 2 * p + 1) (_ : suL xs.length (xs.length - p.toNat) ys p.toNat = suL xs.length xs.length xs 0) (_ : KnownAll m' [(Str.ofString "heap", .ref l), (Str.ofString "startpos", .int 0 ts), (Str.ofString "pos", .int p tp), (Str.ofString "newitem", .ref a1), (Str.ofString "endpos", .int (xs.length : Int) te), (Str.ofString "childpos", .int c tc)])
noncomputable abbrev J_suif (l : Addr) (rest : List (Addr × Obj)) (vs2 : List Value) (n3 : Nat) (xs ys : List Int) (a1 : Addr) (p c : Int) (tp te ts : Tok) (m' : Str → Option Value) (nx : List (Addr × Obj)) : Prop := ∃ c' tc, nx = (l, W.listOf vs2.toArray n3) :: rest ∧ ((c' = c + 1 ∧ c + 1 < (xs.length : Int) ∧ ¬ ys.getD c.toNat 0 < ys.getD (c + 1).toNat 0) ∨ (c' = c ∧ (¬ (c + 1 < (xs.length : Int)) ∨ ys.getD c.toNat 0 < ys.getD (c + 1).toNat 0))) ∧
    KnownAll m' [(Str.ofString "heap", .ref l), (Str.ofString "startpos", .int 0 ts), (Str.ofString "pos", .int p tp), (Str.ofString "newitem", .ref a1), (Str.ofString "endpos", .int (xs.length : Int) te), (Str.ofString "childpos", .int c' tc)]
theorem su_next {xs ys : List Int} {p c c' : Int} {r : List Int × Nat} (hc : c = 2 * p + 1) (hp : 0 ≤ p) (hcn : c < (xs.length : Int)) (h : (c' = c + 1 ∧ c + 1 < (xs.length : Int) ∧ ¬ ys.getD c.toNat 0 < ys.getD (c + 1).toNat 0) ∨ (c' = c ∧ (¬ (c + 1 < (xs.length : Int)) ∨ ys.getD c.toNat 0 < ys.getD (c + 1).toNat 0)))
    (e : suL xs.length (xs.length - p.toNat) ys p.toNat = r) (hl : xs.length < 900) (hyl : ys.length = xs.length) (hp1 : p < (xs.length : Int)) :
    suL xs.length (xs.length - c'.toNat) (ys.set p.toNat (ys.getD c'.toNat 0)) c'.toNat = r ∧ xs.length - c'.toNat < xs.length - p.toNat ∧ 0 ≤ c' ∧ c' < (xs.length : Int) ∧ c' < (ys.length : Int) ∧ c' < 2 ^ 63 ∧ p < (ys.length : Int) ∧ p < 2 ^ 63 := by
  have hb : ∀ z : Int, z < (xs.length : Int) → z < (ys.length : Int) ∧ z < 2 ^ 63 := fun z hz => by omega
  have hc0 : 0 ≤ c := by omega
  rcases h with ⟨rfl, h1, h2⟩ | ⟨rfl, h1⟩
  · exact ⟨suL_rightC hc hp h1 h2 e, su_lt1 hc hp h1, Int.le_trans hc0 (Int.le_of_lt (Int.lt_succ _)), h1, (hb _ h1).1, (hb _ h1).2, (hb _ hp1).1, (hb _ hp1).2⟩
  · exact ⟨suL_leftC hc hp hcn h1 e, su_lt0 hc hp hcn, hc0, hcn, (hb _ hcn).1, (hb _ hcn).2, (hb _ hp1).1, (hb _ hp1).2⟩
section
variable {w : World} {mean : ExcName → Option Value} {mg mb : Str → Option Value} {dp un : Nat} {gd : Option (List Code)} {cn : Str} {cs : Scope} {a : Addr} {ccd : Value} {cl : List (Str × Addr)} {outer : List Env} {A₀ : Around} {base h₀ : Heap} {L : Addr} {m : Str → Option Value} {s : Shared} {Q E : Value → Shared → Prop}

set_option maxHeartbeats 1000000 in
theorem siftup_tells {l : Addr} {vs : List Value} {n : Nat} {xs : List Int} {news rest led : List (Addr × Obj)} {t0 : Tok}
    (B : Below A₀ base outer h₀) (F : Fr h₀ L s.heap m) (X : (hd.heap_39 w.params).In h₀) (N : News h₀ L s.heap news) (T : Top hd.view_39 lz mean mg mb h₀) (hk : cs.kind = .function)
    (P : Pick l (listOf vs.toArray n) news rest) (hs : ∀ p ∈ led, p ∈ rest) (hi : TupsK led vs xs) (hlen : xs.length < 900) (hne : 0 < xs.length)
    (hdp : dp + 2 < recursionLimit) (hun : un + 16 < cLine)
    (hret : ∀ h' tk' vs' n', Fr h₀ L h' m → News h₀ L h' ((l, listOf vs'.toArray n') :: rest) → TupsK led vs' (suF xs) → Q .none { s with heap := h', toks := tk' }) :
    wpAny (model prg w) (ktrTop dp un gd cn cs L a ccd cl outer) (call (.ref 69) [.ref l, .int 0 t0]) Q E s := by
  have hoff := P.off
  replace N := P.news N
  clear P
  have hvl := hi.length
  revert X; unfold prg; w_top off; k_fill; intro X
  refine wpAny_call ?_
  k_dflt cell_enter
  k_with_none
  k_with "ne" => (refine neN ?_; (try dsimp only); with_reducible first | assumption | exact Ne.symm (by assumption) | exact ne1 | exact ne1.symm | exact ne2 | exact ne2.symm | exact ne3 | exact ne3.symm | exact ne4 | exact ne4.symm | exact ne5 | exact ne5.symm | exact nl1 (by assumption) | exact nl2 (by assumption) | exact nl3 (by assumption) | exact (nl1 (by assumption)).symm | exact (nl2 (by assumption)).symm | exact (nl3 (by assumption)).symm | exact Nat.ne_of_lt (by assumption) | exact Nat.ne_of_gt (by assumption) | exact cj1 (by assumption) | exact Ne.symm (cj1 (by assumption)) | exact Nat.ne_of_lt (cj1 (by assumption)) | exact Nat.ne_of_gt (cj1 (by assumption)) | exact cj2 (by assumption) | exact Ne.symm (cj2 (by assumption)) | exact Nat.ne_of_lt (cj2 (by assumption)) | exact Nat.ne_of_gt (cj2 (by assumption)) | exact cj3 (by assumption) | exact Ne.symm (cj3 (by assumption)) | exact Nat.ne_of_lt (cj3 (by assumption)) | exact Nat.ne_of_gt (cj3 (by assumption)) | exact cj4 (by assumption) | exact Ne.symm (cj4 (by assumption)) | exact Nat.ne_of_lt (cj4 (by assumption)) | exact Nat.ne_of_gt (cj4 (by assumption)) | exact cj5 (by assumption) | exact Ne.symm (cj5 (by assumption)) | exact Nat.ne_of_lt (cj5 (by assumption)) | exact Nat.ne_of_gt (cj5 (by assumption)) | exact cj6 (by assumption) | exact Ne.symm (cj6 (by assumption)) | exact Nat.ne_of_lt (cj6 (by assumption)) | exact Nat.ne_of_gt (cj6 (by assumption)) | exact cj7 (by assumption) | exact Ne.symm (cj7 (by assumption)) | exact Nat.ne_of_lt (cj7 (by assumption)) | exact Nat.ne_of_gt (cj7 (by assumption)) | exact cj8 (by assumption) | exact Ne.symm (cj8 (by assumption)) | exact Nat.ne_of_lt (cj8 (by assumption)) | exact Nat.ne_of_gt (cj8 (by assumption)) | exact cj9 (by assumption) | exact Ne.symm (cj9 (by assumption)) | exact Nat.ne_of_lt (cj9 (by assumption)) | exact Nat.ne_of_gt (cj9 (by assumption)) | exact ej5 (by assumption) | exact Ne.symm (ej5 (by assumption)) | exact Nat.ne_of_lt (ej5 (by assumption)) | exact Nat.ne_of_gt (ej5 (by assumption)) | exact ej6 (by assumption) | exact Ne.symm (ej6 (by assumption)) | exact Nat.ne_of_lt (ej6 (by assumption)) | exact Nat.ne_of_gt (ej6 (by assumption)) | exact ej7 (by assumption) | exact Ne.symm (ej7 (by assumption)) | exact Nat.ne_of_lt (ej7 (by assumption)) | exact Nat.ne_of_gt (ej7 (by assumption)) | exact ej8 (by assumption) | exact Ne.symm (ej8 (by assumption)) | exact Nat.ne_of_lt (ej8 (by assumption)) | exact Nat.ne_of_gt (ej8 (by assumption)) | exact ej9 (by assumption) | exact Ne.symm (ej9 (by assumption)) | exact Nat.ne_of_lt (ej9 (by assumption)) | exact Nat.ne_of_gt (ej9 (by assumption)))
  k_with "binaryOp RShift int int" => (k_here; (with_reducible refine shr1 ?_))
  k_with "binaryOp Mod int int" => (k_here; (with_reducible refine mod_pos ?k1 ?_); (case k1 => decide))
  k_with "binaryOp FloorDiv int int" => (k_here; (with_reducible refine fdiv_pos ?k1 ?k2 ?_); (case k1 => decide); (case k2 => decide +kernel))
  k_with "execs cons" => (k_here; first | (k_made; walk_at "execs cons") | k_gentoks | ((with_reducible refine wpAny_execs_cons ?_); (try dsimp only); (try k_fold)))
  k_with "idx" => (first | with_reducible assumption | (first | lia | omega))
  k_with "upd" => (first | (refine' Pick.head ?a; (case a => k_all)) | (refine' Pick.tail ?a ?b; (case a => k_ne); (case b => k_upd)))
  k_with "subscriptTail Name Name ref int" => (k_here; (refine' item_K ?k1 ?k2 ?k3 ?k4 ?k5 ?k6 ?_); (case k1 => k_asm); (case k2 => k_mem); (case k3 => assumption); (case k4 => first | assumption | (first | lia | omega)); (case k5 => first | assumption | (first | lia | omega)); (case k6 => first | assumption | (first | lia | omega)); intro _ _ _)
  k_with "subscriptTail Name Constant ref int" => (k_here; (refine' item_K ?k1 ?k2 ?k3 ?k4 ?k5 ?k6 ?_); (case k1 => k_asm); (case k2 => k_mem); (case k3 => assumption); (case k4 => first | assumption | (first | lia | omega)); (case k5 => first | assumption | (first | lia | omega)); (case k6 => first | assumption | (first | lia | omega)); intro _ _ _)
  k_with "compareOp Lt ref ref" => (k_here; (refine' lt_K ?k1 ?k2 ?k3 ?k4 ?k5 ?_); (case k1 => (first | exact unL2 (by assumption) rfl | exact unL1 (by assumption) rfl | exact unL0 (by assumption) | ktr_units)); (case k2 => k_asm); (case k3 => (intro p hp; refine List.mem_cons_of_mem _ ?_; revert p; assumption)); (case k4 => assumption); (case k5 => assumption))
  k_with "setItem ref int" => (k_here; k_dflt (refine' set_K ?k1 ?k2 ?k3 ?k4 ?k5 ?k6 ?k7 ?k8 ?_; (case k1 => k_asm); (case k2 => k_asm); (case k3 => k_upd); (case k4 => assumption); (case k5 => assumption); (case k6 => first | assumption | (first | lia | omega)); (case k7 => first | assumption | (first | lia | omega)); (case k8 => first | assumption | (first | lia | omega))); intro _ _ _ _ _; (try k_sweep))
  k_with "call builtin:len" => (k_here; k_dflt (refine' len_led ?k1 ?k2 ?k3 ?_; (case k1 => k_asm); (case k2 => k_mem); (case k3 => first | (first | lia | omega) | (simp only [List.length_append, List.length_cons, List.length_nil]; (first | lia | omega)))))
  k_with "exec While Compare cons nil" => refine held ?_
  k_with "call ref" => refine held ?_
  k_steps
  refine Held.out ?_
  unfold Held
  rename Fr _ _ _ _ => F1
  rename News _ _ _ _ => N1
  rename TupK _ _ _ => hT1
  rename_i a1 hv1 _ _ _ _ _
  rw [hvl] at F1
  refine while_inv (J_siftup l rest led xs a1) F1 N1 ⟨vs, n, xs, 0, _, _, _, _, _, rfl, hi, rfl, rfl, by (first | lia | omega), by (first | lia | omega), rfl, rfl, rfl, rfl, rfl, rfl, rfl, rfl, trivial⟩ ?_
  intro n2 m2 nx h2 tk2 hJ F2 N2
  refine' hid fun kG_ => ?_
  obtain ⟨vs2, n3, ys, p, tp, te, ts, c, tc, rfl, hi2, rfl, hyl, hq0, hq1, hc, hsu, hkn⟩ := hJ
  refine' kG_ ?_
  clear kG_
  have F3 := fr_knownL hkn F2
  dsimp only [kstB] at F3
  have hvl2 := hi2.length
  clear F1 F2 N1 hv1 hi
  k_with_none
  k_with "ne" => (refine neN ?_; (try dsimp only); with_reducible first | assumption | exact Ne.symm (by assumption) | exact ne1 | exact ne1.symm | exact ne2 | exact ne2.symm | exact ne3 | exact ne3.symm | exact ne4 | exact ne4.symm | exact ne5 | exact ne5.symm | exact nl1 (by assumption) | exact nl2 (by assumption) | exact nl3 (by assumption) | exact (nl1 (by assumption)).symm | exact (nl2 (by assumption)).symm | exact (nl3 (by assumption)).symm | exact Nat.ne_of_lt (by assumption) | exact Nat.ne_of_gt (by assumption) | exact cj1 (by assumption) | exact Ne.symm (cj1 (by assumption)) | exact Nat.ne_of_lt (cj1 (by assumption)) | exact Nat.ne_of_gt (cj1 (by assumption)) | exact cj2 (by assumption) | exact Ne.symm (cj2 (by assumption)) | exact Nat.ne_of_lt (cj2 (by assumption)) | exact Nat.ne_of_gt (cj2 (by assumption)) | exact cj3 (by assumption) | exact Ne.symm (cj3 (by assumption)) | exact Nat.ne_of_lt (cj3 (by assumption)) | exact Nat.ne_of_gt (cj3 (by assumption)) | exact cj4 (by assumption) | exact Ne.symm (cj4 (by assumption)) | exact Nat.ne_of_lt (cj4 (by assumption)) | exact Nat.ne_of_gt (cj4 (by assumption)) | exact cj5 (by assumption) | exact Ne.symm (cj5 (by assumption)) | exact Nat.ne_of_lt (cj5 (by assumption)) | exact Nat.ne_of_gt (cj5 (by assumption)) | exact cj6 (by assumption) | exact Ne.symm (cj6 (by assumption)) | exact Nat.ne_of_lt (cj6 (by assumption)) | exact Nat.ne_of_gt (cj6 (by assumption)) | exact cj7 (by assumption) | exact Ne.symm (cj7 (by assumption)) | exact Nat.ne_of_lt (cj7 (by assumption)) | exact Nat.ne_of_gt (cj7 (by assumption)) | exact cj8 (by assumption) | exact Ne.symm (cj8 (by assumption)) | exact Nat.ne_of_lt (cj8 (by assumption)) | exact Nat.ne_of_gt (cj8 (by assumption)) | exact cj9 (by assumption) | exact Ne.symm (cj9 (by assumption)) | exact Nat.ne_of_lt (cj9 (by assumption)) | exact Nat.ne_of_gt (cj9 (by assumption)) | exact ej5 (by assumption) | exact Ne.symm (ej5 (by assumption)) | exact Nat.ne_of_lt (ej5 (by assumption)) | exact Nat.ne_of_gt (ej5 (by assumption)) | exact ej6 (by assumption) | exact Ne.symm (ej6 (by assumption)) | exact Nat.ne_of_lt (ej6 (by assumption)) | exact Nat.ne_of_gt (ej6 (by assumption)) | exact ej7 (by assumption) | exact Ne.symm (ej7 (by assumption)) | exact Nat.ne_of_lt (ej7 (by assumption)) | exact Nat.ne_of_gt (ej7 (by assumption)) | exact ej8 (by assumption) | exact Ne.symm (ej8 (by assumption)) | exact Nat.ne_of_lt (ej8 (by assumption)) | exact Nat.ne_of_gt (ej8 (by assumption)) | exact ej9 (by assumption) | exact Ne.symm (ej9 (by assumption)) | exact Nat.ne_of_lt (ej9 (by assumption)) | exact Nat.ne_of_gt (ej9 (by assumption)))
  k_with "binaryOp RShift int int" => (k_here; (with_reducible refine shr1 ?_))
  k_with "binaryOp Mod int int" => (k_here; (with_reducible refine mod_pos ?k1 ?_); (case k1 => decide))
  k_with "binaryOp FloorDiv int int" => (k_here; (with_reducible refine fdiv_pos ?k1 ?k2 ?_); (case k1 => decide); (case k2 => decide +kernel))
  k_with "execs cons" => (k_here; first | (k_made; walk_at "execs cons") | k_gentoks | ((with_reducible refine wpAny_execs_cons ?_); (try dsimp only); (try k_fold)))
  k_with "idx" => (first | with_reducible assumption | (first | lia | omega))
  k_with "upd" => (first | (refine' Pick.head ?a; (case a => k_all)) | (refine' Pick.tail ?a ?b; (case a => k_ne); (case b => k_upd)))
  k_with "subscriptTail Name Name ref int" => (k_here; (refine' item_K ?k1 ?k2 ?k3 ?k4 ?k5 ?k6 ?_); (case k1 => k_asm); (case k2 => k_mem); (case k3 => assumption); (case k4 => first | assumption | (first | lia | omega)); (case k5 => first | assumption | (first | lia | omega)); (case k6 => first | assumption | (first | lia | omega)); intro _ _ _)
  k_with "subscriptTail Name Constant ref int" => (k_here; (refine' item_K ?k1 ?k2 ?k3 ?k4 ?k5 ?k6 ?_); (case k1 => k_asm); (case k2 => k_mem); (case k3 => assumption); (case k4 => first | assumption | (first | lia | omega)); (case k5 => first | assumption | (first | lia | omega)); (case k6 => first | assumption | (first | lia | omega)); intro _ _ _)
  k_with "compareOp Lt ref ref" => (k_here; (refine' lt_K ?k1 ?k2 ?k3 ?k4 ?k5 ?_); (case k1 => (first | exact unL2 (by assumption) rfl | exact unL1 (by assumption) rfl | exact unL0 (by assumption) | ktr_units)); (case k2 => k_asm); (case k3 => (intro p hp; refine List.mem_cons_of_mem _ ?_; revert p; assumption)); (case k4 => assumption); (case k5 => assumption))
  k_with "setItem ref int" => (k_here; k_dflt (refine' set_K ?k1 ?k2 ?k3 ?k4 ?k5 ?k6 ?k7 ?k8 ?_; (case k1 => k_asm); (case k2 => k_asm); (case k3 => k_upd); (case k4 => assumption); (case k5 => assumption); (case k6 => first | assumption | (first | lia | omega)); (case k7 => first | assumption | (first | lia | omega)); (case k8 => first | assumption | (first | lia | omega))); intro _ _ _ _ _; (try k_sweep))
  k_with "call builtin:len" => (k_here; k_dflt (refine' len_led ?k1 ?k2 ?k3 ?_; (case k1 => k_asm); (case k2 => k_mem); (case k3 => first | (first | lia | omega) | (simp only [List.length_append, List.length_cons, List.length_nil]; (first | lia | omega)))))
  k_with "call ref" => refine held ?_
  k_with "exec If" => refine held ?_
  k_steps
  · rename _ < _ => hcn
    refine Held.out ?_
    unfold Held
    rename Fr _ _ _ _ => F9
    refine cutN F9 (J_suif l rest vs2 n3 xs ys a1 p c tp te ts) ?_ ?_
    · k_with_none
      k_with "ne" => (refine neN ?_; (try dsimp only); with_reducible first | assumption | exact Ne.symm (by assumption) | exact ne1 | exact ne1.symm | exact ne2 | exact ne2.symm | exact ne3 | exact ne3.symm | exact ne4 | exact ne4.symm | exact ne5 | exact ne5.symm | exact nl1 (by assumption) | exact nl2 (by assumption) | exact nl3 (by assumption) | exact (nl1 (by assumption)).symm | exact (nl2 (by assumption)).symm | exact (nl3 (by assumption)).symm | exact Nat.ne_of_lt (by assumption) | exact Nat.ne_of_gt (by assumption) | exact cj1 (by assumption) | exact Ne.symm (cj1 (by assumption)) | exact Nat.ne_of_lt (cj1 (by assumption)) | exact Nat.ne_of_gt (cj1 (by assumption)) | exact cj2 (by assumption) | exact Ne.symm (cj2 (by assumption)) | exact Nat.ne_of_lt (cj2 (by assumption)) | exact Nat.ne_of_gt (cj2 (by assumption)) | exact cj3 (by assumption) | exact Ne.symm (cj3 (by assumption)) | exact Nat.ne_of_lt (cj3 (by assumption)) | exact Nat.ne_of_gt (cj3 (by assumption)) | exact cj4 (by assumption) | exact Ne.symm (cj4 (by assumption)) | exact Nat.ne_of_lt (cj4 (by assumption)) | exact Nat.ne_of_gt (cj4 (by assumption)) | exact cj5 (by assumption) | exact Ne.symm (cj5 (by assumption)) | exact Nat.ne_of_lt (cj5 (by assumption)) | exact Nat.ne_of_gt (cj5 (by assumption)) | exact cj6 (by assumption) | exact Ne.symm (cj6 (by assumption)) | exact Nat.ne_of_lt (cj6 (by assumption)) | exact Nat.ne_of_gt (cj6 (by assumption)) | exact cj7 (by assumption) | exact Ne.symm (cj7 (by assumption)) | exact Nat.ne_of_lt (cj7 (by assumption)) | exact Nat.ne_of_gt (cj7 (by assumption)) | exact cj8 (by assumption) | exact Ne.symm (cj8 (by assumption)) | exact Nat.ne_of_lt (cj8 (by assumption)) | exact Nat.ne_of_gt (cj8 (by assumption)) | exact cj9 (by assumption) | exact Ne.symm (cj9 (by assumption)) | exact Nat.ne_of_lt (cj9 (by assumption)) | exact Nat.ne_of_gt (cj9 (by assumption)) | exact ej5 (by assumption) | exact Ne.symm (ej5 (by assumption)) | exact Nat.ne_of_lt (ej5 (by assumption)) | exact Nat.ne_of_gt (ej5 (by assumption)) | exact ej6 (by assumption) | exact Ne.symm (ej6 (by assumption)) | exact Nat.ne_of_lt (ej6 (by assumption)) | exact Nat.ne_of_gt (ej6 (by assumption)) | exact ej7 (by assumption) | exact Ne.symm (ej7 (by assumption)) | exact Nat.ne_of_lt (ej7 (by assumption)) | exact Nat.ne_of_gt (ej7 (by assumption)) | exact ej8 (by assumption) | exact Ne.symm (ej8 (by assumption)) | exact Nat.ne_of_lt (ej8 (by assumption)) | exact Nat.ne_of_gt (ej8 (by assumption)) | exact ej9 (by assumption) | exact Ne.symm (ej9 (by assumption)) | exact Nat.ne_of_lt (ej9 (by assumption)) | exact Nat.ne_of_gt (ej9 (by assumption)))
      k_with "binaryOp RShift int int" => (k_here; (with_reducible refine shr1 ?_))
      k_with "binaryOp Mod int int" => (k_here; (with_reducible refine mod_pos ?k1 ?_); (case k1 => decide))
      k_with "binaryOp FloorDiv int int" => (k_here; (with_reducible refine fdiv_pos ?k1 ?k2 ?_); (case k1 => decide); (case k2 => decide +kernel))
      k_with "execs cons" => (k_here; first | (k_made; walk_at "execs cons") | k_gentoks | ((with_reducible refine wpAny_execs_cons ?_); (try dsimp only); (try k_fold)))
      k_with "idx" => (first | with_reducible assumption | (first | lia | omega))
      k_with "upd" => (first | (refine' Pick.head ?a; (case a => k_all)) | (refine' Pick.tail ?a ?b; (case a => k_ne); (case b => k_upd)))
      k_with "subscriptTail Name Name ref int" => (k_here; (refine' item_K ?k1 ?k2 ?k3 ?k4 ?k5 ?k6 ?_); (case k1 => k_asm); (case k2 => k_mem); (case k3 => assumption); (case k4 => first | assumption | (first | lia | omega)); (case k5 => first | assumption | (first | lia | omega)); (case k6 => first | assumption | (first | lia | omega)); intro _ _ _)
      k_with "subscriptTail Name Constant ref int" => (k_here; (refine' item_K ?k1 ?k2 ?k3 ?k4 ?k5 ?k6 ?_); (case k1 => k_asm); (case k2 => k_mem); (case k3 => assumption); (case k4 => first | assumption | (first | lia | omega)); (case k5 => first | assumption | (first | lia | omega)); (case k6 => first | assumption | (first | lia | omega)); intro _ _ _)
      k_with "compareOp Lt ref ref" => (k_here; (refine' lt_K ?k1 ?k2 ?k3 ?k4 ?k5 ?_); (case k1 => (first | exact unL2 (by assumption) rfl | exact unL1 (by assumption) rfl | exact unL0 (by assumption) | ktr_units)); (case k2 => k_asm); (case k3 => (intro p hp; refine List.mem_cons_of_mem _ ?_; revert p; assumption)); (case k4 => assumption); (case k5 => assumption))
      k_with "setItem ref int" => (k_here; k_dflt (refine' set_K ?k1 ?k2 ?k3 ?k4 ?k5 ?k6 ?k7 ?k8 ?_; (case k1 => k_asm); (case k2 => k_asm); (case k3 => k_upd); (case k4 => assumption); (case k5 => assumption); (case k6 => first | assumption | (first | lia | omega)); (case k7 => first | assumption | (first | lia | omega)); (case k8 => first | assumption | (first | lia | omega))); intro _ _ _ _ _; (try k_sweep))
      k_with "call builtin:len" => (k_here; k_dflt (refine' len_led ?k1 ?k2 ?k3 ?_; (case k1 => k_asm); (case k2 => k_mem); (case k3 => first | (first | lia | omega) | (simp only [List.length_append, List.length_cons, List.length_nil]; (first | lia | omega)))))
      k_steps
      all_goals
        try dsimp only
        first
          | exact NEnd.intro (by k_asm) (by k_asm) (fun p hp => hp) ⟨_, _, rfl, Or.inl ⟨rfl, by assumption, by assumption⟩, rfl, rfl, rfl, rfl, rfl, rfl, trivial⟩
          | exact NEnd.intro (by k_asm) (by k_asm) (fun p hp => hp) ⟨_, _, rfl, Or.inr ⟨rfl, Or.inr (by assumption)⟩, rfl, rfl, rfl, rfl, rfl, rfl, trivial⟩
          | exact NEnd.intro (by k_asm) (by k_asm) (fun p hp => hp) ⟨_, _, rfl, Or.inr ⟨rfl, Or.inl (by assumption)⟩, rfl, rfl, rfl, rfl, rfl, rfl, trivial⟩
    · intro h4 tk4 m4 nx F4 N4 hJ4
      refine' hid fun kG_ => ?_
      obtain ⟨c', tc', rfl, hcc, hkn4⟩ := hJ4
      refine' kG_ ?_
      clear kG_
      have F5 := fr_knownL hkn4 F4
      dsimp only [kstB] at F5
      refine' hid fun kG_ => ?_
      obtain ⟨g1, g2, g3, g4, g5, g6, g7, g8⟩ := su_next hc hq0 hcn hcc hsu hlen hyl hq1
      refine' kG_ ?_
      clear kG_
      clear F4 F9
      k_with_none
      k_with "ne" => (refine neN ?_; (try dsimp only); with_reducible first | assumption | exact Ne.symm (by assumption) | exact ne1 | exact ne1.symm | exact ne2 | exact ne2.symm | exact ne3 | exact ne3.symm | exact ne4 | exact ne4.symm | exact ne5 | exact ne5.symm | exact nl1 (by assumption) | exact nl2 (by assumption) | exact nl3 (by assumption) | exact (nl1 (by assumption)).symm | exact (nl2 (by assumption)).symm | exact (nl3 (by assumption)).symm | exact Nat.ne_of_lt (by assumption) | exact Nat.ne_of_gt (by assumption) | exact cj1 (by assumption) | exact Ne.symm (cj1 (by assumption)) | exact Nat.ne_of_lt (cj1 (by assumption)) | exact Nat.ne_of_gt (cj1 (by assumption)) | exact cj2 (by assumption) | exact Ne.symm (cj2 (by assumption)) | exact Nat.ne_of_lt (cj2 (by assumption)) | exact Nat.ne_of_gt (cj2 (by assumption)) | exact cj3 (by assumption) | exact Ne.symm (cj3 (by assumption)) | exact Nat.ne_of_lt (cj3 (by assumption)) | exact Nat.ne_of_gt (cj3 (by assumption)) | exact cj4 (by assumption) | exact Ne.symm (cj4 (by assumption)) | exact Nat.ne_of_lt (cj4 (by assumption)) | exact Nat.ne_of_gt (cj4 (by assumption)) | exact cj5 (by assumption) | exact Ne.symm (cj5 (by assumption)) | exact Nat.ne_of_lt (cj5 (by assumption)) | exact Nat.ne_of_gt (cj5 (by assumption)) | exact cj6 (by assumption) | exact Ne.symm (cj6 (by assumption)) | exact Nat.ne_of_lt (cj6 (by assumption)) | exact Nat.ne_of_gt (cj6 (by assumption)) | exact cj7 (by assumption) | exact Ne.symm (cj7 (by assumption)) | exact Nat.ne_of_lt (cj7 (by assumption)) | exact Nat.ne_of_gt (cj7 (by assumption)) | exact cj8 (by assumption) | exact Ne.symm (cj8 (by assumption)) | exact Nat.ne_of_lt (cj8 (by assumption)) | exact Nat.ne_of_gt (cj8 (by assumption)) | exact cj9 (by assumption) | exact Ne.symm (cj9 (by assumption)) | exact Nat.ne_of_lt (cj9 (by assumption)) | exact Nat.ne_of_gt (cj9 (by assumption)) | exact ej5 (by assumption) | exact Ne.symm (ej5 (by assumption)) | exact Nat.ne_of_lt (ej5 (by assumption)) | exact Nat.ne_of_gt (ej5 (by assumption)) | exact ej6 (by assumption) | exact Ne.symm (ej6 (by assumption)) | exact Nat.ne_of_lt (ej6 (by assumption)) | exact Nat.ne_of_gt (ej6 (by assumption)) | exact ej7 (by assumption) | exact Ne.symm (ej7 (by assumption)) | exact Nat.ne_of_lt (ej7 (by assumption)) | exact Nat.ne_of_gt (ej7 (by assumption)) | exact ej8 (by assumption) | exact Ne.symm (ej8 (by assumption)) | exact Nat.ne_of_lt (ej8 (by assumption)) | exact Nat.ne_of_gt (ej8 (by assumption)) | exact ej9 (by assumption) | exact Ne.symm (ej9 (by assumption)) | exact Nat.ne_of_lt (ej9 (by assumption)) | exact Nat.ne_of_gt (ej9 (by assumption)))
      k_with "binaryOp RShift int int" => (k_here; (with_reducible refine shr1 ?_))
      k_with "binaryOp Mod int int" => (k_here; (with_reducible refine mod_pos ?k1 ?_); (case k1 => decide))
      k_with "binaryOp FloorDiv int int" => (k_here; (with_reducible refine fdiv_pos ?k1 ?k2 ?_); (case k1 => decide); (case k2 => decide +kernel))
      k_with "execs cons" => (k_here; first | (k_made; walk_at "execs cons") | k_gentoks | ((with_reducible refine wpAny_execs_cons ?_); (try dsimp only); (try k_fold)))
      k_with "idx" => (first | with_reducible assumption | (first | lia | omega))
      k_with "upd" => (first | (refine' Pick.head ?a; (case a => k_all)) | (refine' Pick.tail ?a ?b; (case a => k_ne); (case b => k_upd)))
      k_with "subscriptTail Name Name ref int" => (k_here; (refine' item_K ?k1 ?k2 ?k3 ?k4 ?k5 ?k6 ?_); (case k1 => k_asm); (case k2 => k_mem); (case k3 => assumption); (case k4 => first | assumption | (first | lia | omega)); (case k5 => first | assumption | (first | lia | omega)); (case k6 => first | assumption | (first | lia | omega)); intro _ _ _)
      k_with "subscriptTail Name Constant ref int" => (k_here; (refine' item_K ?k1 ?k2 ?k3 ?k4 ?k5 ?k6 ?_); (case k1 => k_asm); (case k2 => k_mem); (case k3 => assumption); (case k4 => first | assumption | (first | lia | omega)); (case k5 => first | assumption | (first | lia | omega)); (case k6 => first | assumption | (first | lia | omega)); intro _ _ _)
      k_with "compareOp Lt ref ref" => (k_here; (refine' lt_K ?k1 ?k2 ?k3 ?k4 ?k5 ?_); (case k1 => (first | exact unL2 (by assumption) rfl | exact unL1 (by assumption) rfl | exact unL0 (by assumption) | ktr_units)); (case k2 => k_asm); (case k3 => (intro p hp; refine List.mem_cons_of_mem _ ?_; revert p; assumption)); (case k4 => assumption); (case k5 => assumption))
      k_with "setItem ref int" => (k_here; k_dflt (refine' set_K ?k1 ?k2 ?k3 ?k4 ?k5 ?k6 ?k7 ?k8 ?_; (case k1 => k_asm); (case k2 => k_asm); (case k3 => k_upd); (case k4 => assumption); (case k5 => assumption); (case k6 => first | assumption | (first | lia | omega)); (case k7 => first | assumption | (first | lia | omega)); (case k8 => first | assumption | (first | lia | omega))); intro _ _ _ _ _; (try k_sweep))
      k_with "call builtin:len" => (k_here; k_dflt (refine' len_led ?k1 ?k2 ?k3 ?_; (case k1 => k_asm); (case k2 => k_mem); (case k3 => first | (first | lia | omega) | (simp only [List.length_append, List.length_cons, List.length_nil]; (first | lia | omega)))))
      k_steps
      try dsimp only
      exact WEnd.intro (nx := (l, _) :: rest) (by k_asm) (by k_asm) (fun p hp => hp) ⟨_, g2, _, _, _, _, _, _, _, _, _, rfl, by assumption, rfl, by rw [List.length_set]; exact hyl, g3, g4, rfl, g1, rfl, rfl, rfl, rfl, rfl, rfl, trivial⟩
  · refine Held.out ?_
    unfold Held
    k_dflt (refine' siftdown_tells ?B ?F ?X ?N ?T ?hk ?P ?hs ?hi ?hlen ?hp0 ?hp1 ?hdp ?hun ?_; (case B => k_asm); (case F => k_asm); (case X => k_asm); (case N => k_asm); (case T => k_asm); (case hk => exact rfl); (case P => k_upd); (case hs => assumption); (case hi => assumption); (case hlen => (first | lia | omega)); (case hp0 => (first | lia | omega)); (case hp1 => (first | lia | omega)); (case hdp => (first | exact unL2 (by assumption) rfl | exact unL1 (by assumption) rfl | exact unL0 (by assumption) | ktr_room)); (case hun => (first | exact unL2 (by assumption) rfl | exact unL1 (by assumption) rfl | exact unL0 (by assumption) | ktr_units)))
    intro h' tk' vs' n' F' N' hI'
    k_steps
    refine hret _ _ _ _ (by k_asm) (by k_asm) (tups_eq (by assumption) ?_)
    exact su_end (by assumption) (by assumption) (by (first | lia | omega)) (by assumption) (by assumption) (by assumption) rfl
end

end
section
section
variable {w : World} {mean : ExcName → Option Value} {mg mb : Str → Option Value} {dp un : Nat} {gd : Option (List Code)} {cn : Str} {cs : Scope} {a : Addr} {ccd : Value} {cl : List (Str × Addr)} {outer : List Env} {A₀ : Around} {base h₀ : Heap} {L : Addr} {m : Str → Option Value} {s : Shared} {Q E : Value → Shared → Prop}

set_option maxHeartbeats 1000000 in
theorem pop_tells {l : Addr} {vs : List Value} {n : Nat} {xs : List Int} {news rest led : List (Addr × Obj)}
    (B : Below A₀ base outer h₀) (F : Fr h₀ L s.heap m) (X : (hd.heap_39 w.params).In h₀) (N : News h₀ L s.heap news) (T : Top hd.view_39 lz mean mg mb h₀) (hk : cs.kind = .function)
    (P : Pick l (listOf vs.toArray n) news rest) (hs : ∀ p ∈ led, p ∈ rest) (hi : TupsK led vs xs) (hlen : xs.length < 900) (hne : 0 < xs.length)
    (hdp : dp + 3 < recursionLimit) (hun : un + 24 < cLine)
    (hret : ∀ h' tk' vs' n' ys ai v, Fr h₀ L h' m → News h₀ L h' ((l, listOf vs'.toArray n') :: rest) → TupsK led vs' ys → ys = popF xs → ys.length = xs.length - 1 → TupK led (.ref ai) v → v = popV xs → Q (.ref ai) { s with heap := h', toks := tk' }) :
    wpAny (model prg w) (ktrTop dp un gd cn cs L a ccd cl outer) (call (.ref 55) [.ref l]) Q E s := by
  have hoff := P.off
  replace N := P.news N
  clear P
  have hl2 : xs.dropLast.length = xs.length - 1 := by simp
  have hvl := hi.length
  have hl3 : vs.dropLast.length = xs.dropLast.length := by simp [hvl]
  revert X; unfold prg; w_top off; k_fill; intro X
  refine wpAny_call ?_
  k_dflt cell_enter
  k_with_none
  k_with "ne" => (refine neN ?_; (try dsimp only); with_reducible first | assumption | exact Ne.symm (by assumption) | exact ne1 | exact ne1.symm | exact ne2 | exact ne2.symm | exact ne3 | exact ne3.symm | exact ne4 | exact ne4.symm | exact ne5 | exact ne5.symm | exact nl1 (by assumption) | exact nl2 (by assumption) | exact nl3 (by assumption) | exact (nl1 (by assumption)).symm | exact (nl2 (by assumption)).symm | exact (nl3 (by assumption)).symm | exact Nat.ne_of_lt (by assumption) | exact Nat.ne_of_gt (by assumption) | exact cj1 (by assumption) | exact Ne.symm (cj1 (by assumption)) | exact Nat.ne_of_lt (cj1 (by assumption)) | exact Nat.ne_of_gt (cj1 (by assumption)) | exact cj2 (by assumption) | exact Ne.symm (cj2 (by assumption)) | exact Nat.ne_of_lt (cj2 (by assumption)) | exact Nat.ne_of_gt (cj2 (by assumption)) | exact cj3 (by assumption) | exact Ne.symm (cj3 (by assumption)) | exact Nat.ne_of_lt (cj3 (by assumption)) | exact Nat.ne_of_gt (cj3 (by assumption)) | exact cj4 (by assumption) | exact Ne.symm (cj4 (by assumption)) | exact Nat.ne_of_lt (cj4 (by assumption)) | exact Nat.ne_of_gt (cj4 (by assumption)) | exact cj5 (by assumption) | exact Ne.symm (cj5 (by assumption)) | exact Nat.ne_of_lt (cj5 (by assumption)) | exact Nat.ne_of_gt (cj5 (by assumption)) | exact cj6 (by assumption) | exact Ne.symm (cj6 (by assumption)) | exact Nat.ne_of_lt (cj6 (by assumption)) | exact Nat.ne_of_gt (cj6 (by assumption)) | exact cj7 (by assumption) | exact Ne.symm (cj7 (by assumption)) | exact Nat.ne_of_lt (cj7 (by assumption)) | exact Nat.ne_of_gt (cj7 (by assumption)) | exact cj8 (by assumption) | exact Ne.symm (cj8 (by assumption)) | exact Nat.ne_of_lt (cj8 (by assumption)) | exact Nat.ne_of_gt (cj8 (by assumption)) | exact cj9 (by assumption) | exact Ne.symm (cj9 (by assumption)) | exact Nat.ne_of_lt (cj9 (by assumption)) | exact Nat.ne_of_gt (cj9 (by assumption)) | exact ej5 (by assumption) | exact Ne.symm (ej5 (by assumption)) | exact Nat.ne_of_lt (ej5 (by assumption)) | exact Nat.ne_of_gt (ej5 (by assumption)) | exact ej6 (by assumption) | exact Ne.symm (ej6 (by assumption)) | exact Nat.ne_of_lt (ej6 (by assumption)) | exact Nat.ne_of_gt (ej6 (by assumption)) | exact ej7 (by assumption) | exact Ne.symm (ej7 (by assumption)) | exact Nat.ne_of_lt (ej7 (by assumption)) | exact Nat.ne_of_gt (ej7 (by assumption)) | exact ej8 (by assumption) | exact Ne.symm (ej8 (by assumption)) | exact Nat.ne_of_lt (ej8 (by assumption)) | exact Nat.ne_of_gt (ej8 (by assumption)) | exact ej9 (by assumption) | exact Ne.symm (ej9 (by assumption)) | exact Nat.ne_of_lt (ej9 (by assumption)) | exact Nat.ne_of_gt (ej9 (by assumption)))
  k_with "binaryOp RShift int int" => (k_here; (with_reducible refine shr1 ?_))
  k_with "binaryOp Mod int int" => (k_here; (with_reducible refine mod_pos ?k1 ?_); (case k1 => decide))
  k_with "binaryOp FloorDiv int int" => (k_here; (with_reducible refine fdiv_pos ?k1 ?k2 ?_); (case k1 => decide); (case k2 => decide +kernel))
  k_with "execs cons" => (k_here; first | (k_made; walk_at "execs cons") | k_gentoks | ((with_reducible refine wpAny_execs_cons ?_); (try dsimp only); (try k_fold)))
  k_with "idx" => (first | with_reducible assumption | (first | lia | omega))
  k_with "upd" => (first | (refine' Pick.head ?a; (case a => k_all)) | (refine' Pick.tail ?a ?b; (case a => k_ne); (case b => k_upd)))
  k_with "subscriptTail Name Constant ref int" => (k_here; (refine' item_K ?k1 ?k2 ?k3 ?k4 ?k5 ?k6 ?_); (case k1 => k_asm); (case k2 => k_mem); (case k3 => assumption); (case k4 => (first | lia | omega)); (case k5 => (first | lia | omega)); (case k6 => (first | lia | omega)); intro _ _ _)
  k_with "setItem ref int" => (k_here; k_dflt (refine' set_K ?k1 ?k2 ?k3 ?k4 ?k5 ?k6 ?k7 ?k8 ?_; (case k1 => k_asm); (case k2 => k_asm); (case k3 => k_upd); (case k4 => assumption); (case k5 => assumption); (case k6 => (first | lia | omega)); (case k7 => (first | lia | omega)); (case k8 => (first | lia | omega))); intro _ _ _ _ _; (try k_sweep))
  k_with "call builtin:list.pop" => (k_here; (with_reducible show wpAny _ _ (call (Value.builtin _) [Value.ref _]) _ _ _); k_dflt (refine' pop_K ?F ?N ?U ?i ?l ?z ?_; (case F => k_asm); (case N => k_asm); (case U => k_upd); (case i => assumption); (case l => (first | lia | omega)); (case z => (first | lia | omega))); (intro _ _ _ nN; (try dsimp only [List.nil_append, List.cons_append] at nN); revert nN; intro _ _ _))
  k_with "truthy ref" => (k_here; k_dflt (refine' truth_led ?k1 ?k2 ?k3 ?_; (case k1 => k_asm); (case k2 => k_mem); (case k3 => (simp only [List.length_dropLast]; (first | lia | omega)))))
  k_with "call ref" => refine held ?_
  k_steps
  · refine Held.out ?_
    unfold Held
    k_dflt (refine' siftup_tells ?B ?F ?X ?N ?T ?hk ?P ?hs ?hi ?hlen ?hne ?hdp ?hun ?_; (case B => k_asm); (case F => k_asm); (case X => k_asm); (case N => k_asm); (case T => k_asm); (case hk => exact rfl); (case P => k_upd); (case hs => assumption); (case hi => assumption); (case hlen => (first | lia | omega)); (case hne => (first | lia | omega)); (case hdp => (first | exact unL2 (by assumption) rfl | exact unL1 (by assumption) rfl | exact unL0 (by assumption) | ktr_room)); (case hun => (first | exact unL2 (by assumption) rfl | exact unL1 (by assumption) rfl | exact unL0 (by assumption) | ktr_units)))
    intro h' tk' vs' n' F' N' hI'
    k_steps
    have hp : 0 < xs.dropLast.length := by (first | lia | omega)
    exact hret _ _ _ _ _ _ _ (by k_asm) (by k_asm) (tups_eq (by assumption) (pop_eq2 hp).2.symm) rfl (popF_length _ hne) (by assumption) (pop_eq2 hp).1.symm
  · have hp : ¬ 0 < xs.dropLast.length := by (first | lia | omega)
    exact hret _ _ _ _ _ _ _ (by k_asm) (by k_asm) (tups_eq (by assumption) (pop_eq1 hp hne).2.symm) rfl (popF_length _ hne) (by assumption) (pop_eq1 hp hne).1.symm
end

end
section
theorem known_eqX {m : Str → Option Value} {ps : List (Str × Value)} (e : KnownAll m ps) : kstB m ps = m := funext fun _ => kstB_eq e.mem fun _ => rfl
theorem fn_body {X : Option Obj} {oc oc' : Value} {od od' : Option Addr} {name name' qual qual' : Str} {params params' : Arguments} {body body' : List Stmt} {scope scope' : Scope} {dV kV doc pm cdv ct dV' kV' doc' pm' cdv' ct' : Value} {an an' : Option Addr} {osl osl' : Array (Option Value)} {P : Prop}
    (h : X = some ⟨oc, od, .func (fnOf name qual params body scope dV kV doc pm an cdv ct), osl⟩) (e : X = some ⟨oc', od', .func (fnOf name' qual' params' body' scope' dV' kV' doc' pm' an' cdv' ct'), osl'⟩)
    (k : qual = qual' → scope = scope' → body = body' → P) : P := by
  have q := h.symm.trans e
  cases q
  exact k rfl rfl rfl
theorem ints3 {us : List Value} {x y z : Int} (h : IntsAre us [x, y, z]) : ∃ ta tb tc, us = [.int x ta, .int y tb, .int z tc] := by
  cases h with
  | cons _ ta h => cases h with
    | cons _ tb h => cases h with
      | cons _ tc h => cases h; exact ⟨ta, tb, tc, rfl⟩
theorem sub_tl {α : Type} {d : α} {l r : List α} (h : ∀ p ∈ l, p ∈ r) : ∀ p ∈ d :: l, p ∈ d :: r := fun p hp => by
  rcases List.mem_cons.mp hp with rfl | hp
  · exact .head _
  · exact .tail _ (h p hp)
section
variable {w : World} {mean : ExcName → Option Value} {mg mb : Str → Option Value} {dp un : Nat} {gd : Option (List Code)} {a : Addr} {ccd : Value} {outer : List Env} {A₀ : Around} {base h₀ : Heap} {L : Addr} {m : Str → Option Value} {s : Shared} {Q : Flow → Shared → Prop} {E : Value → Shared → Prop}
  {oc : Value} {od : Option Addr} {name qual : Str} {params : Arguments} {body wb orelse : List Stmt} {test : PySem.Expr} {pos : Pos} {scope : Scope} {dV kV doc pm cdv ct : Value} {an : Option Addr} {osl : Array (Option Value)} {st : Stmt}
inductive J_na (R : List (Addr × Obj)) (lf : Addr) (fv : List Value) (w1 b1 : Int) (ta tb : Tok) (m m' : Str → Option Value) (nx : List (Addr × Obj)) : Prop
  | mk (D1 n1 nf : _) (_ : m' = m) (_ : nx = (D1, tupO [Value.int w1 ta, Value.int b1 tb] n1) :: (lf, W.listOf (fv ++ [Value.ref D1]).toArray nf) :: R) (_ : (∀ q ∈ R, q.1 < D1)) (_ : @LT.lt Nat _ lf D1)
set_option maxHeartbeats 8000000 in
theorem ns_append {R : List (Addr × Obj)} {lf : Addr} {fv : List Value} {nf : Nat} {w1 b1 : Int} {ta tb : Tok}
    (ho : (hd.heap_39 w.params).lookup 130 = some ⟨oc, od, .func (fnOf name qual params body scope dV kV doc pm an cdv ct), osl⟩) (hst : body[2]? = some (.While test wb orelse pos)) (hwb : wb[1]? = some st)
    (B : Below A₀ base outer h₀) (X : (hd.heap_39 w.params).In h₀) (T : Top hd.view_39 lz mean mg mb h₀) (F : Fr h₀ L s.heap m) (hm : KnownAll m [(Str.ofString "found", .ref lf), (Str.ofString "way", .int w1 ta), (Str.ofString "bits", .int b1 tb)])
    (N : News h₀ L s.heap ((lf, W.listOf fv.toArray nf) :: R)) (hoff : ∀ p ∈ R, p.1 ≠ lf) (hlen : fv.length ≤ 16) (hun : un + 30 < cLine) (hdp : dp + 3 < recursionLimit) :
    wpAny (model prg w) (ktrTop dp un gd qual scope L a ccd [] outer) (exec st (envOf qual scope L a ccd)) (NEnd h₀ L (J_na R lf fv w1 b1 ta tb m) s) E s := by
  revert X; unfold prg; w_top off; k_fill; intro X
  refine' fn_body ho ?e ?_
  case e => k_is
  clear ho
  rintro rfl rfl rfl
  cases hst
  cases hwb
  have F1 : Fr h₀ L s.heap (kstB m [(Str.ofString "found", .ref lf), (Str.ofString "way", .int w1 ta), (Str.ofString "bits", .int b1 tb)]) := fr_knownL hm F
  dsimp only [kstB] at F1
  have eM : (fun z => if z = Str.ofString "found" then some (Value.ref lf) else if z = Str.ofString "way" then some (Value.int w1 ta) else if z = Str.ofString "bits" then some (Value.int b1 tb) else m z) = m := known_eqX hm
  clear F
  k_with_none
  k_with "ne" => (refine neN ?_; (try dsimp only); with_reducible first | assumption | exact Ne.symm (by assumption) | exact ne1 | exact ne1.symm | exact ne2 | exact ne2.symm | exact ne3 | exact ne3.symm | exact ne4 | exact ne4.symm | exact ne5 | exact ne5.symm | exact nl1 (by assumption) | exact nl2 (by assumption) | exact nl3 (by assumption) | exact (nl1 (by assumption)).symm | exact (nl2 (by assumption)).symm | exact (nl3 (by assumption)).symm | exact Nat.ne_of_lt (by assumption) | exact Nat.ne_of_gt (by assumption) | exact cj1 (by assumption) | exact Ne.symm (cj1 (by assumption)) | exact Nat.ne_of_lt (cj1 (by assumption)) | exact Nat.ne_of_gt (cj1 (by assumption)) | exact cj2 (by assumption) | exact Ne.symm (cj2 (by assumption)) | exact Nat.ne_of_lt (cj2 (by assumption)) | exact Nat.ne_of_gt (cj2 (by assumption)) | exact cj3 (by assumption) | exact Ne.symm (cj3 (by assumption)) | exact Nat.ne_of_lt (cj3 (by assumption)) | exact Nat.ne_of_gt (cj3 (by assumption)) | exact cj4 (by assumption) | exact Ne.symm (cj4 (by assumption)) | exact Nat.ne_of_lt (cj4 (by assumption)) | exact Nat.ne_of_gt (cj4 (by assumption)) | exact cj5 (by assumption) | exact Ne.symm (cj5 (by assumption)) | exact Nat.ne_of_lt (cj5 (by assumption)) | exact Nat.ne_of_gt (cj5 (by assumption)) | exact cj6 (by assumption) | exact Ne.symm (cj6 (by assumption)) | exact Nat.ne_of_lt (cj6 (by assumption)) | exact Nat.ne_of_gt (cj6 (by assumption)) | exact cj7 (by assumption) | exact Ne.symm (cj7 (by assumption)) | exact Nat.ne_of_lt (cj7 (by assumption)) | exact Nat.ne_of_gt (cj7 (by assumption)) | exact cj8 (by assumption) | exact Ne.symm (cj8 (by assumption)) | exact Nat.ne_of_lt (cj8 (by assumption)) | exact Nat.ne_of_gt (cj8 (by assumption)) | exact cj9 (by assumption) | exact Ne.symm (cj9 (by assumption)) | exact Nat.ne_of_lt (cj9 (by assumption)) | exact Nat.ne_of_gt (cj9 (by assumption)) | exact ej5 (by assumption) | exact Ne.symm (ej5 (by assumption)) | exact Nat.ne_of_lt (ej5 (by assumption)) | exact Nat.ne_of_gt (ej5 (by assumption)) | exact ej6 (by assumption) | exact Ne.symm (ej6 (by assumption)) | exact Nat.ne_of_lt (ej6 (by assumption)) | exact Nat.ne_of_gt (ej6 (by assumption)) | exact ej7 (by assumption) | exact Ne.symm (ej7 (by assumption)) | exact Nat.ne_of_lt (ej7 (by assumption)) | exact Nat.ne_of_gt (ej7 (by assumption)) | exact ej8 (by assumption) | exact Ne.symm (ej8 (by assumption)) | exact Nat.ne_of_lt (ej8 (by assumption)) | exact Nat.ne_of_gt (ej8 (by assumption)) | exact ej9 (by assumption) | exact Ne.symm (ej9 (by assumption)) | exact Nat.ne_of_lt (ej9 (by assumption)) | exact Nat.ne_of_gt (ej9 (by assumption)))
  k_with "binaryOp RShift int int" => (k_here; (with_reducible refine shr1 ?_))
  k_with "binaryOp Mod int int" => (k_here; (with_reducible refine mod_pos ?k1 ?_); (case k1 => decide))
  k_with "binaryOp FloorDiv int int" => (k_here; (with_reducible refine fdiv_pos ?k1 ?k2 ?_); (case k1 => decide); (case k2 => decide +kernel))
  k_with "call ref" => (k_here; refine wpAny_call ?_; k_dflt (refine' code_def ?k1 ?k2 ?k3 ?k4 ?k5 ?kA ?kF ?kK ?k6 ?k7 ?k8 ?k9 ?kB ?_ ?c2 ?c3 ?c4 ?c5; (case kA => exact rfl); (case kF => exact rfl); (case kK => first | exact rfl | assumption); (case k1 => k_asm); (case k2 => k_asm); (case k3 => k_asm); (case k4 => k_asm); (case k5 => k_asm); (case k6 => k_is); (case k7 => k_is); (case k8 => (first | exact unL2 (by assumption) rfl | exact unL1 (by assumption) rfl | exact unL0 (by assumption) | ktr_room)); (case k9 => exact BindsTo.of_eq rfl); (case c5 => decide); (case kB => exact locs rfl); (case c2 => exact rfl); (case c3 => exact rfl); (case c4 => exact rfl); k_whole; intro g' L' h' FG' F' N' B' X' T'; (try dsimp only); (try k_lift B'); (try k_fold)))
  k_with "execs cons" => (k_here; first | (k_made; walk_at "execs cons") | k_gentoks | ((with_reducible refine wpAny_execs_cons ?_); (try dsimp only); (try k_fold)))
  k_with "idx" => (first | with_reducible assumption | (first | lia | omega))
  k_with "upd" => (first | (refine' Pick.head ?a; (case a => k_all)) | (refine' Pick.tail ?a ?b; (case a => k_ne); (case b => k_upd)))
  k_with "call builtin:list.append" => (k_here; (with_reducible show wpAny _ _ (call (Value.builtin _) [Value.ref _, _]) _ _ _); k_dflt (refine' append_K ?k1 ?k2 ?k3 ?_ ?z; (case k1 => k_asm); (case k2 => k_asm); (case k3 => k_upd); (case z => (rw [sizeLine_eq]; simp only [List.size_toArray]; (first | lia | omega))); k_whole); intro _ _ nN; (try simp only [List.push_toArray] at nN); revert nN; intro _; (try k_sweep))
  k_steps
  rename News _ _ _ _ => N6
  rename_i D1 _ lD1 _ _
  exact NEnd.intro (by k_asm) N6 (fun p hp => hp) ⟨D1, _, _, eM, rfl, ktn_ltOf lD1.2, lD1.1⟩
inductive J_np (R led : List (Addr × Obj)) (lh : Addr) (xs : List Int) (m m' : Str → Option Value) (nx : List (Addr × Obj)) : Prop
  | mk (hv nh ys v w1 b1 t9 ta tb tc : _) (_ : m' = setM (setM (setM m (Str.ofString "way") (.int w1 ta)) (Str.ofString "bits") (.int b1 tb)) (Str.ofString "at") (.int t9 tc)) (_ : nx = (lh, W.listOf hv.toArray nh) :: R) (_ : TupsK led hv ys) (_ : v = popV xs) (_ : ys = popF xs) (_ : ys.length = xs.length - 1) (_ : v = codeK w1 b1 t9) (_ : 0 ≤ w1) (_ : 0 ≤ b1) (_ : b1 < 65536) (_ : 0 ≤ t9) (_ : t9 < 16)
set_option maxHeartbeats 8000000 in
theorem ns_pop {R led : List (Addr × Obj)} {lh : Addr} {hv : List Value} {nh : Nat} {xs : List Int}
    (ho : (hd.heap_39 w.params).lookup 130 = some ⟨oc, od, .func (fnOf name qual params body scope dV kV doc pm an cdv ct), osl⟩) (hst : body[2]? = some (.While test wb orelse pos)) (hwb : wb[0]? = some st)
    (B : Below A₀ base outer h₀) (X : (hd.heap_39 w.params).In h₀) (T : Top hd.view_39 lz mean mg mb h₀) (F : Fr h₀ L s.heap m) (hm : KnownAll m [(Str.ofString "heap", .ref lh)])
    (N : News h₀ L s.heap ((lh, W.listOf hv.toArray nh) :: R)) (hoff : ∀ p ∈ R, p.1 ≠ lh) (hs : ∀ p ∈ led, p ∈ R) (hi : TupsK led hv xs) (hlen : xs.length < 900) (hne : 0 < xs.length) (hun : un + 30 < cLine) (hdp : dp + 3 < recursionLimit) :
    wpAny (model prg w) (ktrTop dp un gd qual scope L a ccd [] outer) (exec st (envOf qual scope L a ccd)) (NEnd h₀ L (J_np R led lh xs m) s) E s := by
  revert X; unfold prg; w_top off; k_fill; intro X
  refine' fn_body ho ?e ?_
  case e => k_is
  clear ho
  rintro rfl rfl rfl
  cases hst
  cases hwb
  have F1 : Fr h₀ L s.heap (kstB m [(Str.ofString "heap", .ref lh)]) := fr_knownL hm F
  dsimp only [kstB] at F1
  have eM : (fun z => if z = Str.ofString "heap" then some (Value.ref lh) else m z) = m := known_eqX hm
  clear F
  k_with_none
  k_with "ne" => (refine neN ?_; (try dsimp only); with_reducible first | assumption | exact Ne.symm (by assumption) | exact ne1 | exact ne1.symm | exact ne2 | exact ne2.symm | exact ne3 | exact ne3.symm | exact ne4 | exact ne4.symm | exact ne5 | exact ne5.symm | exact nl1 (by assumption) | exact nl2 (by assumption) | exact nl3 (by assumption) | exact (nl1 (by assumption)).symm | exact (nl2 (by assumption)).symm | exact (nl3 (by assumption)).symm | exact Nat.ne_of_lt (by assumption) | exact Nat.ne_of_gt (by assumption) | exact cj1 (by assumption) | exact Ne.symm (cj1 (by assumption)) | exact Nat.ne_of_lt (cj1 (by assumption)) | exact Nat.ne_of_gt (cj1 (by assumption)) | exact cj2 (by assumption) | exact Ne.symm (cj2 (by assumption)) | exact Nat.ne_of_lt (cj2 (by assumption)) | exact Nat.ne_of_gt (cj2 (by assumption)) | exact cj3 (by assumption) | exact Ne.symm (cj3 (by assumption)) | exact Nat.ne_of_lt (cj3 (by assumption)) | exact Nat.ne_of_gt (cj3 (by assumption)) | exact cj4 (by assumption) | exact Ne.symm (cj4 (by assumption)) | exact Nat.ne_of_lt (cj4 (by assumption)) | exact Nat.ne_of_gt (cj4 (by assumption)) | exact cj5 (by assumption) | exact Ne.symm (cj5 (by assumption)) | exact Nat.ne_of_lt (cj5 (by assumption)) | exact Nat.ne_of_gt (cj5 (by assumption)) | exact cj6 (by assumption) | exact Ne.symm (cj6 (by assumption)) | exact Nat.ne_of_lt (cj6 (by assumption)) | exact Nat.ne_of_gt (cj6 (by assumption)) | exact cj7 (by assumption) | exact Ne.symm (cj7 (by assumption)) | exact Nat.ne_of_lt (cj7 (by assumption)) | exact Nat.ne_of_gt (cj7 (by assumption)) | exact cj8 (by assumption) | exact Ne.symm (cj8 (by assumption)) | exact Nat.ne_of_lt (cj8 (by assumption)) | exact Nat.ne_of_gt (cj8 (by assumption)) | exact cj9 (by assumption) | exact Ne.symm (cj9 (by assumption)) | exact Nat.ne_of_lt (cj9 (by assumption)) | exact Nat.ne_of_gt (cj9 (by assumption)) | exact ej5 (by assumption) | exact Ne.symm (ej5 (by assumption)) | exact Nat.ne_of_lt (ej5 (by assumption)) | exact Nat.ne_of_gt (ej5 (by assumption)) | exact ej6 (by assumption) | exact Ne.symm (ej6 (by assumption)) | exact Nat.ne_of_lt (ej6 (by assumption)) | exact Nat.ne_of_gt (ej6 (by assumption)) | exact ej7 (by assumption) | exact Ne.symm (ej7 (by assumption)) | exact Nat.ne_of_lt (ej7 (by assumption)) | exact Nat.ne_of_gt (ej7 (by assumption)) | exact ej8 (by assumption) | exact Ne.symm (ej8 (by assumption)) | exact Nat.ne_of_lt (ej8 (by assumption)) | exact Nat.ne_of_gt (ej8 (by assumption)) | exact ej9 (by assumption) | exact Ne.symm (ej9 (by assumption)) | exact Nat.ne_of_lt (ej9 (by assumption)) | exact Nat.ne_of_gt (ej9 (by assumption)))
  k_with "binaryOp RShift int int" => (k_here; (with_reducible refine shr1 ?_))
  k_with "binaryOp Mod int int" => (k_here; (with_reducible refine mod_pos ?k1 ?_); (case k1 => decide))
  k_with "binaryOp FloorDiv int int" => (k_here; (with_reducible refine fdiv_pos ?k1 ?k2 ?_); (case k1 => decide); (case k2 => decide +kernel))
  k_with "call ref" => (k_here; refine wpAny_call ?_; k_dflt (refine' code_def ?k1 ?k2 ?k3 ?k4 ?k5 ?kA ?kF ?kK ?k6 ?k7 ?k8 ?k9 ?kB ?_ ?c2 ?c3 ?c4 ?c5; (case kA => exact rfl); (case kF => exact rfl); (case kK => first | exact rfl | assumption); (case k1 => k_asm); (case k2 => k_asm); (case k3 => k_asm); (case k4 => k_asm); (case k5 => k_asm); (case k6 => k_is); (case k7 => k_is); (case k8 => (first | exact unL2 (by assumption) rfl | exact unL1 (by assumption) rfl | exact unL0 (by assumption) | ktr_room)); (case k9 => exact BindsTo.of_eq rfl); (case c5 => decide); (case kB => exact locs rfl); (case c2 => exact rfl); (case c3 => exact rfl); (case c4 => exact rfl); k_whole; intro g' L' h' FG' F' N' B' X' T'; (try dsimp only); (try k_lift B'); (try k_fold)))
  k_with "execs cons" => (k_here; first | (k_made; walk_at "execs cons") | k_gentoks | ((with_reducible refine wpAny_execs_cons ?_); (try dsimp only); (try k_fold)))
  k_with "idx" => (first | with_reducible assumption | (first | lia | omega))
  k_with "upd" => (first | (refine' Pick.head ?a; (case a => k_all)) | (refine' Pick.tail ?a ?b; (case a => k_ne); (case b => k_upd)))
  k_with "call builtin:list.append" => (k_here; (with_reducible show wpAny _ _ (call (Value.builtin _) [Value.ref _, _]) _ _ _); k_dflt (refine' append_K ?k1 ?k2 ?k3 ?_ ?z; (case k1 => k_asm); (case k2 => k_asm); (case k3 => k_upd); (case z => (rw [sizeLine_eq]; simp only [List.size_toArray]; (first | lia | omega))); k_whole); intro _ _ nN; (try simp only [List.push_toArray] at nN); revert nN; intro _; (try k_sweep))
  k_with "call ref" => refine held ?_
  k_steps
  refine Held.out ?_
  unfold Held
  k_dflt (refine' pop_tells (led := led) ?B ?F ?X ?N ?T ?hk ?P ?hs ?hi ?hlen ?hne ?hdp ?hun ?_; (case B => k_asm); (case F => k_asm); (case X => k_asm); (case N => k_asm); (case T => k_asm); (case hk => exact rfl); (case P => exact Pick.head hoff); (case hs => exact hs); (case hi => exact hi); (case hlen => exact hlen); (case hne => exact hne); (case hdp => (first | exact unL2 (by assumption) rfl | exact unL1 (by assumption) rfl | exact unL0 (by assumption) | ktr_room)); (case hun => (first | exact unL2 (by assumption) rfl | exact unL1 (by assumption) rfl | exact unL0 (by assumption) | ktr_units)))
  intro h5 tk5 hv5 nh5 ys ai v F5 N5 hT5 hy hyl hA hv
  refine' hid fun kG_ => ?_
  obtain ⟨a9, us, n9, w1, b1, t9, e9, hm9, hi9, hc9, q1, q2, q3, q4, q5⟩ := hA
  refine' kG_ ?_
  clear kG_
  cases e9
  refine' hid fun kG_ => ?_
  obtain ⟨ta, tb, tc, rfl⟩ := ints3 hi9
  refine' kG_ ?_
  clear kG_
  replace N5 := news_in N5 (.tail _ (hs _ hm9))
  clear N F1
  k_with_none
  k_with "ne" => (refine neN ?_; (try dsimp only); with_reducible first | assumption | exact Ne.symm (by assumption) | exact ne1 | exact ne1.symm | exact ne2 | exact ne2.symm | exact ne3 | exact ne3.symm | exact ne4 | exact ne4.symm | exact ne5 | exact ne5.symm | exact nl1 (by assumption) | exact nl2 (by assumption) | exact nl3 (by assumption) | exact (nl1 (by assumption)).symm | exact (nl2 (by assumption)).symm | exact (nl3 (by assumption)).symm | exact Nat.ne_of_lt (by assumption) | exact Nat.ne_of_gt (by assumption) | exact cj1 (by assumption) | exact Ne.symm (cj1 (by assumption)) | exact Nat.ne_of_lt (cj1 (by assumption)) | exact Nat.ne_of_gt (cj1 (by assumption)) | exact cj2 (by assumption) | exact Ne.symm (cj2 (by assumption)) | exact Nat.ne_of_lt (cj2 (by assumption)) | exact Nat.ne_of_gt (cj2 (by assumption)) | exact cj3 (by assumption) | exact Ne.symm (cj3 (by assumption)) | exact Nat.ne_of_lt (cj3 (by assumption)) | exact Nat.ne_of_gt (cj3 (by assumption)) | exact cj4 (by assumption) | exact Ne.symm (cj4 (by assumption)) | exact Nat.ne_of_lt (cj4 (by assumption)) | exact Nat.ne_of_gt (cj4 (by assumption)) | exact cj5 (by assumption) | exact Ne.symm (cj5 (by assumption)) | exact Nat.ne_of_lt (cj5 (by assumption)) | exact Nat.ne_of_gt (cj5 (by assumption)) | exact cj6 (by assumption) | exact Ne.symm (cj6 (by assumption)) | exact Nat.ne_of_lt (cj6 (by assumption)) | exact Nat.ne_of_gt (cj6 (by assumption)) | exact cj7 (by assumption) | exact Ne.symm (cj7 (by assumption)) | exact Nat.ne_of_lt (cj7 (by assumption)) | exact Nat.ne_of_gt (cj7 (by assumption)) | exact cj8 (by assumption) | exact Ne.symm (cj8 (by assumption)) | exact Nat.ne_of_lt (cj8 (by assumption)) | exact Nat.ne_of_gt (cj8 (by assumption)) | exact cj9 (by assumption) | exact Ne.symm (cj9 (by assumption)) | exact Nat.ne_of_lt (cj9 (by assumption)) | exact Nat.ne_of_gt (cj9 (by assumption)) | exact ej5 (by assumption) | exact Ne.symm (ej5 (by assumption)) | exact Nat.ne_of_lt (ej5 (by assumption)) | exact Nat.ne_of_gt (ej5 (by assumption)) | exact ej6 (by assumption) | exact Ne.symm (ej6 (by assumption)) | exact Nat.ne_of_lt (ej6 (by assumption)) | exact Nat.ne_of_gt (ej6 (by assumption)) | exact ej7 (by assumption) | exact Ne.symm (ej7 (by assumption)) | exact Nat.ne_of_lt (ej7 (by assumption)) | exact Nat.ne_of_gt (ej7 (by assumption)) | exact ej8 (by assumption) | exact Ne.symm (ej8 (by assumption)) | exact Nat.ne_of_lt (ej8 (by assumption)) | exact Nat.ne_of_gt (ej8 (by assumption)) | exact ej9 (by assumption) | exact Ne.symm (ej9 (by assumption)) | exact Nat.ne_of_lt (ej9 (by assumption)) | exact Nat.ne_of_gt (ej9 (by assumption)))
  k_with "binaryOp RShift int int" => (k_here; (with_reducible refine shr1 ?_))
  k_with "binaryOp Mod int int" => (k_here; (with_reducible refine mod_pos ?k1 ?_); (case k1 => decide))
  k_with "binaryOp FloorDiv int int" => (k_here; (with_reducible refine fdiv_pos ?k1 ?k2 ?_); (case k1 => decide); (case k2 => decide +kernel))
  k_with "call ref" => (k_here; refine wpAny_call ?_; k_dflt (refine' code_def ?k1 ?k2 ?k3 ?k4 ?k5 ?kA ?kF ?kK ?k6 ?k7 ?k8 ?k9 ?kB ?_ ?c2 ?c3 ?c4 ?c5; (case kA => exact rfl); (case kF => exact rfl); (case kK => first | exact rfl | assumption); (case k1 => k_asm); (case k2 => k_asm); (case k3 => k_asm); (case k4 => k_asm); (case k5 => k_asm); (case k6 => k_is); (case k7 => k_is); (case k8 => (first | exact unL2 (by assumption) rfl | exact unL1 (by assumption) rfl | exact unL0 (by assumption) | ktr_room)); (case k9 => exact BindsTo.of_eq rfl); (case c5 => decide); (case kB => exact locs rfl); (case c2 => exact rfl); (case c3 => exact rfl); (case c4 => exact rfl); k_whole; intro g' L' h' FG' F' N' B' X' T'; (try dsimp only); (try k_lift B'); (try k_fold)))
  k_with "execs cons" => (k_here; first | (k_made; walk_at "execs cons") | k_gentoks | ((with_reducible refine wpAny_execs_cons ?_); (try dsimp only); (try k_fold)))
  k_with "idx" => (first | with_reducible assumption | (first | lia | omega))
  k_with "upd" => (first | (refine' Pick.head ?a; (case a => k_all)) | (refine' Pick.tail ?a ?b; (case a => k_ne); (case b => k_upd)))
  k_with "call builtin:list.append" => (k_here; (with_reducible show wpAny _ _ (call (Value.builtin _) [Value.ref _, _]) _ _ _); k_dflt (refine' append_K ?k1 ?k2 ?k3 ?_ ?z; (case k1 => k_asm); (case k2 => k_asm); (case k3 => k_upd); (case z => (rw [sizeLine_eq]; simp only [List.size_toArray]; (first | lia | omega))); k_whole); intro _ _ nN; (try simp only [List.push_toArray] at nN); revert nN; intro _; (try k_sweep))
  k_steps
  rename News _ _ _ _ => N6
  exact NEnd.intro (by k_asm) N6 (fun p hp => .tail _ hp) ⟨hv5, nh5, ys, v, w1, b1, t9, _, _, _, congrArg (fun q => setM (setM (setM q (Str.ofString "way") _) (Str.ofString "bits") _) (Str.ofString "at") _) eM, rfl, hT5, hv, hy, hyl, hc9, q1, q2, q3, q4, q5⟩
noncomputable abbrev J_cost (R : List (Addr × Obj)) (c p : Int) (m m' : Str → Option Value) (nx : List (Addr × Obj)) : Prop := ∃ td te, m' = setM (setM m (Str.ofString "cost") (.int c td)) (Str.ofString "last") (.int p te) ∧ nx = R
set_option maxHeartbeats 8000000 in
theorem ns_cost {R : List (Addr × Obj)} {lt ac : Addr} {tv : List Value} {nt nc : Nat} {t9 c p : Int} {tc tc1 tc2 : Tok} {ib orelse2 : List Stmt} {test2 : PySem.Expr} {pos2 : Pos}
    (ho : (hd.heap_39 w.params).lookup 130 = some ⟨oc, od, .func (fnOf name qual params body scope dV kV doc pm an cdv ct), osl⟩) (hst : body[2]? = some (.While test wb orelse pos)) (hwb : wb[2]? = some (.If test2 ib orelse2 pos2)) (hib : ib[0]? = some st)
    (B : Below A₀ base outer h₀) (X : (hd.heap_39 w.params).In h₀) (T : Top hd.view_39 lz mean mg mb h₀) (F : Fr h₀ L s.heap m) (hm : KnownAll m [(Str.ofString "turns", .ref lt), (Str.ofString "at", .int t9 tc)])
    (N : News h₀ L s.heap R) (hlt : (lt, W.listOf tv.toArray nt) ∈ R) (hac : (ac, tupO [.int c tc1, .int p tc2] nc) ∈ R) (h0 : 0 ≤ t9) (hfit : t9 < 2 ^ 63) (e : tv[(t9).toNat]? = some (.ref ac)) :
    wpAny (model prg w) (ktrTop dp un gd qual scope L a ccd [] outer) (exec st (envOf qual scope L a ccd)) (NEnd h₀ L (J_cost R c p m) s) E s := by
  revert X; unfold prg; w_top off; k_fill; intro X
  refine' fn_body ho ?e ?_
  case e => k_is
  clear ho
  rintro rfl rfl rfl
  cases hst
  cases hwb
  cases hib
  have F1 : Fr h₀ L s.heap (kstB m [(Str.ofString "turns", .ref lt), (Str.ofString "at", .int t9 tc)]) := fr_knownL hm F
  dsimp only [kstB] at F1
  have eM : (fun z => if z = Str.ofString "turns" then some (Value.ref lt) else if z = Str.ofString "at" then some (Value.int t9 tc) else m z) = m := known_eqX hm
  clear F
  replace N := news_in (news_in N hac) (.tail _ hlt)
  k_with_none
  k_with "ne" => (refine neN ?_; (try dsimp only); with_reducible first | assumption | exact Ne.symm (by assumption) | exact ne1 | exact ne1.symm | exact ne2 | exact ne2.symm | exact ne3 | exact ne3.symm | exact ne4 | exact ne4.symm | exact ne5 | exact ne5.symm | exact nl1 (by assumption) | exact nl2 (by assumption) | exact nl3 (by assumption) | exact (nl1 (by assumption)).symm | exact (nl2 (by assumption)).symm | exact (nl3 (by assumption)).symm | exact Nat.ne_of_lt (by assumption) | exact Nat.ne_of_gt (by assumption) | exact cj1 (by assumption) | exact Ne.symm (cj1 (by assumption)) | exact Nat.ne_of_lt (cj1 (by assumption)) | exact Nat.ne_of_gt (cj1 (by assumption)) | exact cj2 (by assumption) | exact Ne.symm (cj2 (by assumption)) | exact Nat.ne_of_lt (cj2 (by assumption)) | exact Nat.ne_of_gt (cj2 (by assumption)) | exact cj3 (by assumption) | exact Ne.symm (cj3 (by assumption)) | exact Nat.ne_of_lt (cj3 (by assumption)) | exact Nat.ne_of_gt (cj3 (by assumption)) | exact cj4 (by assumption) | exact Ne.symm (cj4 (by assumption)) | exact Nat.ne_of_lt (cj4 (by assumption)) | exact Nat.ne_of_gt (cj4 (by assumption)) | exact cj5 (by assumption) | exact Ne.symm (cj5 (by assumption)) | exact Nat.ne_of_lt (cj5 (by assumption)) | exact Nat.ne_of_gt (cj5 (by assumption)) | exact cj6 (by assumption) | exact Ne.symm (cj6 (by assumption)) | exact Nat.ne_of_lt (cj6 (by assumption)) | exact Nat.ne_of_gt (cj6 (by assumption)) | exact cj7 (by assumption) | exact Ne.symm (cj7 (by assumption)) | exact Nat.ne_of_lt (cj7 (by assumption)) | exact Nat.ne_of_gt (cj7 (by assumption)) | exact cj8 (by assumption) | exact Ne.symm (cj8 (by assumption)) | exact Nat.ne_of_lt (cj8 (by assumption)) | exact Nat.ne_of_gt (cj8 (by assumption)) | exact cj9 (by assumption) | exact Ne.symm (cj9 (by assumption)) | exact Nat.ne_of_lt (cj9 (by assumption)) | exact Nat.ne_of_gt (cj9 (by assumption)) | exact ej5 (by assumption) | exact Ne.symm (ej5 (by assumption)) | exact Nat.ne_of_lt (ej5 (by assumption)) | exact Nat.ne_of_gt (ej5 (by assumption)) | exact ej6 (by assumption) | exact Ne.symm (ej6 (by assumption)) | exact Nat.ne_of_lt (ej6 (by assumption)) | exact Nat.ne_of_gt (ej6 (by assumption)) | exact ej7 (by assumption) | exact Ne.symm (ej7 (by assumption)) | exact Nat.ne_of_lt (ej7 (by assumption)) | exact Nat.ne_of_gt (ej7 (by assumption)) | exact ej8 (by assumption) | exact Ne.symm (ej8 (by assumption)) | exact Nat.ne_of_lt (ej8 (by assumption)) | exact Nat.ne_of_gt (ej8 (by assumption)) | exact ej9 (by assumption) | exact Ne.symm (ej9 (by assumption)) | exact Nat.ne_of_lt (ej9 (by assumption)) | exact Nat.ne_of_gt (ej9 (by assumption)))
  k_with "binaryOp RShift int int" => (k_here; (with_reducible refine shr1 ?_))
  k_with "binaryOp Mod int int" => (k_here; (with_reducible refine mod_pos ?k1 ?_); (case k1 => decide))
  k_with "binaryOp FloorDiv int int" => (k_here; (with_reducible refine fdiv_pos ?k1 ?k2 ?_); (case k1 => decide); (case k2 => decide +kernel))
  k_with "call ref" => (k_here; refine wpAny_call ?_; k_dflt (refine' code_def ?k1 ?k2 ?k3 ?k4 ?k5 ?kA ?kF ?kK ?k6 ?k7 ?k8 ?k9 ?kB ?_ ?c2 ?c3 ?c4 ?c5; (case kA => exact rfl); (case kF => exact rfl); (case kK => first | exact rfl | assumption); (case k1 => k_asm); (case k2 => k_asm); (case k3 => k_asm); (case k4 => k_asm); (case k5 => k_asm); (case k6 => k_is); (case k7 => k_is); (case k8 => (first | exact unL2 (by assumption) rfl | exact unL1 (by assumption) rfl | exact unL0 (by assumption) | ktr_room)); (case k9 => exact BindsTo.of_eq rfl); (case c5 => decide); (case kB => exact locs rfl); (case c2 => exact rfl); (case c3 => exact rfl); (case c4 => exact rfl); k_whole; intro g' L' h' FG' F' N' B' X' T'; (try dsimp only); (try k_lift B'); (try k_fold)))
  k_with "execs cons" => (k_here; first | (k_made; walk_at "execs cons") | k_gentoks | ((with_reducible refine wpAny_execs_cons ?_); (try dsimp only); (try k_fold)))
  k_with "idx" => (first | with_reducible assumption | (first | lia | omega))
  k_with "upd" => (first | (refine' Pick.head ?a; (case a => k_all)) | (refine' Pick.tail ?a ?b; (case a => k_ne); (case b => k_upd)))
  k_with "call builtin:list.append" => (k_here; (with_reducible show wpAny _ _ (call (Value.builtin _) [Value.ref _, _]) _ _ _); k_dflt (refine' append_K ?k1 ?k2 ?k3 ?_ ?z; (case k1 => k_asm); (case k2 => k_asm); (case k3 => k_upd); (case z => (rw [sizeLine_eq]; simp only [List.size_toArray]; (first | lia | omega))); k_whole); intro _ _ nN; (try simp only [List.push_toArray] at nN); revert nN; intro _; (try k_sweep))
  k_with "subscriptTail Name Name ref int" => refine held ?_
  k_steps
  refine Held.out ?_
  unfold Held
  refine item_at (by k_asm) (by k_mem) h0 hfit e ?_
  k_steps
  rename News _ _ _ _ => N6
  exact NEnd.intro (by k_asm) N6 (fun p hp => mem2 hp) ⟨_, _, congrArg (fun q => setM (setM q (Str.ofString "cost") _) (Str.ofString "last") _) eM, rfl⟩
noncomputable abbrev J_more (R : List (Addr × Obj)) (c p : Int) (m m' : Str → Option Value) (nx : List (Addr × Obj)) : Prop := ∃ td te, m' = setM (setM m (Str.ofString "more") (.int c td)) (Str.ofString "following") (.int p te) ∧ nx = R
set_option maxHeartbeats 8000000 in
theorem ns_more {R : List (Addr × Obj)} {lt ac : Addr} {tv : List Value} {nt nc : Nat} {t9 c p : Int} {tc tc1 tc2 : Tok} {ib orelse2 : List Stmt} {test2 : PySem.Expr} {pos2 : Pos}
    (ho : (hd.heap_39 w.params).lookup 130 = some ⟨oc, od, .func (fnOf name qual params body scope dV kV doc pm an cdv ct), osl⟩) (hst : body[2]? = some (.While test wb orelse pos)) (hwb : wb[2]? = some (.If test2 ib orelse2 pos2)) (hib : ib[1]? = some st)
    (B : Below A₀ base outer h₀) (X : (hd.heap_39 w.params).In h₀) (T : Top hd.view_39 lz mean mg mb h₀) (F : Fr h₀ L s.heap m) (hm : KnownAll m [(Str.ofString "turns", .ref lt), (Str.ofString "at", .int t9 tc)])
    (N : News h₀ L s.heap R) (hlt : (lt, W.listOf tv.toArray nt) ∈ R) (hac : (ac, tupO [.int c tc1, .int p tc2] nc) ∈ R) (h0 : 0 ≤ t9 + 1) (hfit : t9 + 1 < 2 ^ 63) (e : tv[(t9 + 1).toNat]? = some (.ref ac)) :
    wpAny (model prg w) (ktrTop dp un gd qual scope L a ccd [] outer) (exec st (envOf qual scope L a ccd)) (NEnd h₀ L (J_more R c p m) s) E s := by
  revert X; unfold prg; w_top off; k_fill; intro X
  refine' fn_body ho ?e ?_
  case e => k_is
  clear ho
  rintro rfl rfl rfl
  cases hst
  cases hwb
  cases hib
  have F1 : Fr h₀ L s.heap (kstB m [(Str.ofString "turns", .ref lt), (Str.ofString "at", .int t9 tc)]) := fr_knownL hm F
  dsimp only [kstB] at F1
  have eM : (fun z => if z = Str.ofString "turns" then some (Value.ref lt) else if z = Str.ofString "at" then some (Value.int t9 tc) else m z) = m := known_eqX hm
  clear F
  replace N := news_in (news_in N hac) (.tail _ hlt)
  k_with_none
  k_with "ne" => (refine neN ?_; (try dsimp only); with_reducible first | assumption | exact Ne.symm (by assumption) | exact ne1 | exact ne1.symm | exact ne2 | exact ne2.symm | exact ne3 | exact ne3.symm | exact ne4 | exact ne4.symm | exact ne5 | exact ne5.symm | exact nl1 (by assumption) | exact nl2 (by assumption) | exact nl3 (by assumption) | exact (nl1 (by assumption)).symm | exact (nl2 (by assumption)).symm | exact (nl3 (by assumption)).symm | exact Nat.ne_of_lt (by assumption) | exact Nat.ne_of_gt (by assumption) | exact cj1 (by assumption) | exact Ne.symm (cj1 (by assumption)) | exact Nat.ne_of_lt (cj1 (by assumption)) | exact Nat.ne_of_gt (cj1 (by assumption)) | exact cj2 (by assumption) | exact Ne.symm (cj2 (by assumption)) | exact Nat.ne_of_lt (cj2 (by assumption)) | exact Nat.ne_of_gt (cj2 (by assumption)) | exact cj3 (by assumption) | exact Ne.symm (cj3 (by assumption)) | exact Nat.ne_of_lt (cj3 (by assumption)) | exact Nat.ne_of_gt (cj3 (by assumption)) | exact cj4 (by assumption) | exact Ne.symm (cj4 (by assumption)) | exact Nat.ne_of_lt (cj4 (by assumption)) | exact Nat.ne_of_gt (cj4 (by assumption)) | exact cj5 (by assumption) | exact Ne.symm (cj5 (by assumption)) | exact Nat.ne_of_lt (cj5 (by assumption)) | exact Nat.ne_of_gt (cj5 (by assumption)) | exact cj6 (by assumption) | exact Ne.symm (cj6 (by assumption)) | exact Nat.ne_of_lt (cj6 (by assumption)) | exact Nat.ne_of_gt (cj6 (by assumption)) | exact cj7 (by assumption) | exact Ne.symm (cj7 (by assumption)) | exact Nat.ne_of_lt (cj7 (by assumption)) | exact Nat.ne_of_gt (cj7 (by assumption)) | exact cj8 (by assumption) | exact Ne.symm (cj8 (by assumption)) | exact Nat.ne_of_lt (cj8 (by assumption)) | exact Nat.ne_of_gt (cj8 (by assumption)) | exact cj9 (by assumption) | exact Ne.symm (cj9 (by assumption)) | exact Nat.ne_of_lt (cj9 (by assumption)) | exact Nat.ne_of_gt (cj9 (by assumption)) | exact ej5 (by assumption) | exact Ne.symm (ej5 (by assumption)) | exact Nat.ne_of_lt (ej5 (by assumption)) | exact Nat.ne_of_gt (ej5 (by assumption)) | exact ej6 (by assumption) | exact Ne.symm (ej6 (by assumption)) | exact Nat.ne_of_lt (ej6 (by assumption)) | exact Nat.ne_of_gt (ej6 (by assumption)) | exact ej7 (by assumption) | exact Ne.symm (ej7 (by assumption)) | exact Nat.ne_of_lt (ej7 (by assumption)) | exact Nat.ne_of_gt (ej7 (by assumption)) | exact ej8 (by assumption) | exact Ne.symm (ej8 (by assumption)) | exact Nat.ne_of_lt (ej8 (by assumption)) | exact Nat.ne_of_gt (ej8 (by assumption)) | exact ej9 (by assumption) | exact Ne.symm (ej9 (by assumption)) | exact Nat.ne_of_lt (ej9 (by assumption)) | exact Nat.ne_of_gt (ej9 (by assumption)))
  k_with "binaryOp RShift int int" => (k_here; (with_reducible refine shr1 ?_))
  k_with "binaryOp Mod int int" => (k_here; (with_reducible refine mod_pos ?k1 ?_); (case k1 => decide))
  k_with "binaryOp FloorDiv int int" => (k_here; (with_reducible refine fdiv_pos ?k1 ?k2 ?_); (case k1 => decide); (case k2 => decide +kernel))
  k_with "call ref" => (k_here; refine wpAny_call ?_; k_dflt (refine' code_def ?k1 ?k2 ?k3 ?k4 ?k5 ?kA ?kF ?kK ?k6 ?k7 ?k8 ?k9 ?kB ?_ ?c2 ?c3 ?c4 ?c5; (case kA => exact rfl); (case kF => exact rfl); (case kK => first | exact rfl | assumption); (case k1 => k_asm); (case k2 => k_asm); (case k3 => k_asm); (case k4 => k_asm); (case k5 => k_asm); (case k6 => k_is); (case k7 => k_is); (case k8 => (first | exact unL2 (by assumption) rfl | exact unL1 (by assumption) rfl | exact unL0 (by assumption) | ktr_room)); (case k9 => exact BindsTo.of_eq rfl); (case c5 => decide); (case kB => exact locs rfl); (case c2 => exact rfl); (case c3 => exact rfl); (case c4 => exact rfl); k_whole; intro g' L' h' FG' F' N' B' X' T'; (try dsimp only); (try k_lift B'); (try k_fold)))
  k_with "execs cons" => (k_here; first | (k_made; walk_at "execs cons") | k_gentoks | ((with_reducible refine wpAny_execs_cons ?_); (try dsimp only); (try k_fold)))
  k_with "idx" => (first | with_reducible assumption | (first | lia | omega))
  k_with "upd" => (first | (refine' Pick.head ?a; (case a => k_all)) | (refine' Pick.tail ?a ?b; (case a => k_ne); (case b => k_upd)))
  k_with "call builtin:list.append" => (k_here; (with_reducible show wpAny _ _ (call (Value.builtin _) [Value.ref _, _]) _ _ _); k_dflt (refine' append_K ?k1 ?k2 ?k3 ?_ ?z; (case k1 => k_asm); (case k2 => k_asm); (case k3 => k_upd); (case z => (rw [sizeLine_eq]; simp only [List.size_toArray]; (first | lia | omega))); k_whole); intro _ _ nN; (try simp only [List.push_toArray] at nN); revert nN; intro _; (try k_sweep))
  k_with "subscriptTail Name BinOp ref int" => refine held ?_
  k_steps
  refine Held.out ?_
  unfold Held
  refine item_at (by k_asm) (by k_mem) h0 hfit e ?_
  k_steps
  rename News _ _ _ _ => N6
  exact NEnd.intro (by k_asm) N6 (fun p hp => mem2 hp) ⟨_, _, congrArg (fun q => setM (setM q (Str.ofString "more") _) (Str.ofString "following") _) eM, rfl⟩
inductive J_npush (R led : List (Addr × Obj)) (lh : Addr) (ys : List Int) (k : Int) (m m' : Str → Option Value) (nx : List (Addr × Obj)) : Prop
  | mk (D us n hv nh zs : _) (_ : m' = m) (_ : nx = (lh, W.listOf hv.toArray nh) :: (D, tupO us n) :: R) (_ : TupsK ((D, tupO us n) :: led) hv zs) (_ : zs = pushF ys k) (_ : zs.length = ys.length + 1) (_ : (∀ q ∈ R, q.1 < D)) (_ : @LT.lt Nat _ lh D)
set_option maxHeartbeats 8000000 in
theorem ns_push1 {R led : List (Addr × Obj)} {lh : Addr} {hv : List Value} {nh : Nat} {ys : List Int} {w1 b1 t9 c2 p2 : Int} {ta tb tc tf tg : Tok} {ib orelse2 : List Stmt} {test2 : PySem.Expr} {pos2 : Pos}
    (ho : (hd.heap_39 w.params).lookup 130 = some ⟨oc, od, .func (fnOf name qual params body scope dV kV doc pm an cdv ct), osl⟩) (hst : body[2]? = some (.While test wb orelse pos)) (hwb : wb[2]? = some (.If test2 ib orelse2 pos2)) (hib : ib[2]? = some st)
    (B : Below A₀ base outer h₀) (X : (hd.heap_39 w.params).In h₀) (T : Top hd.view_39 lz mean mg mb h₀) (F : Fr h₀ L s.heap m) (hm : KnownAll m [(Str.ofString "heap", .ref lh), (Str.ofString "way", .int w1 ta), (Str.ofString "bits", .int b1 tb), (Str.ofString "at", .int t9 tc), (Str.ofString "more", .int c2 tf), (Str.ofString "following", .int p2 tg)])
    (N : News h₀ L s.heap ((lh, W.listOf hv.toArray nh) :: R)) (hoff : ∀ p ∈ R, p.1 ≠ lh) (hs : ∀ p ∈ led, p ∈ R) (hi : TupsK led hv ys) (hlen : ys.length < 900) (hun : un + 30 < cLine) (hdp : dp + 3 < recursionLimit)
    (h1 : 0 ≤ w1 + c2) (h2 : 0 ≤ bx b1 p2) (h3 : bx b1 p2 < 65536) (h4 : 0 ≤ t9 + 1) (h5 : t9 + 1 < 16) :
    wpAny (model prg w) (ktrTop dp un gd qual scope L a ccd [] outer) (exec st (envOf qual scope L a ccd)) (NEnd h₀ L (J_npush R led lh ys (codeK (w1 + c2) (bx b1 p2) (t9 + 1)) m) s) E s := by
  revert X; unfold prg; w_top off; k_fill; intro X
  refine' fn_body ho ?e ?_
  case e => k_is
  clear ho
  rintro rfl rfl rfl
  cases hst
  cases hwb
  cases hib
  have F1 : Fr h₀ L s.heap (kstB m [(Str.ofString "heap", .ref lh), (Str.ofString "way", .int w1 ta), (Str.ofString "bits", .int b1 tb), (Str.ofString "at", .int t9 tc), (Str.ofString "more", .int c2 tf), (Str.ofString "following", .int p2 tg)]) := fr_knownL hm F
  have eM : kstB m [(Str.ofString "heap", .ref lh), (Str.ofString "way", .int w1 ta), (Str.ofString "bits", .int b1 tb), (Str.ofString "at", .int t9 tc), (Str.ofString "more", .int c2 tf), (Str.ofString "following", .int p2 tg)] = m := known_eqX hm
  dsimp only [kstB] at F1 eM
  clear F
  k_with_none
  k_with "ne" => (refine neN ?_; (try dsimp only); with_reducible first | assumption | exact Ne.symm (by assumption) | exact ne1 | exact ne1.symm | exact ne2 | exact ne2.symm | exact ne3 | exact ne3.symm | exact ne4 | exact ne4.symm | exact ne5 | exact ne5.symm | exact nl1 (by assumption) | exact nl2 (by assumption) | exact nl3 (by assumption) | exact (nl1 (by assumption)).symm | exact (nl2 (by assumption)).symm | exact (nl3 (by assumption)).symm | exact Nat.ne_of_lt (by assumption) | exact Nat.ne_of_gt (by assumption) | exact cj1 (by assumption) | exact Ne.symm (cj1 (by assumption)) | exact Nat.ne_of_lt (cj1 (by assumption)) | exact Nat.ne_of_gt (cj1 (by assumption)) | exact cj2 (by assumption) | exact Ne.symm (cj2 (by assumption)) | exact Nat.ne_of_lt (cj2 (by assumption)) | exact Nat.ne_of_gt (cj2 (by assumption)) | exact cj3 (by assumption) | exact Ne.symm (cj3 (by assumption)) | exact Nat.ne_of_lt (cj3 (by assumption)) | exact Nat.ne_of_gt (cj3 (by assumption)) | exact cj4 (by assumption) | exact Ne.symm (cj4 (by assumption)) | exact Nat.ne_of_lt (cj4 (by assumption)) | exact Nat.ne_of_gt (cj4 (by assumption)) | exact cj5 (by assumption) | exact Ne.symm (cj5 (by assumption)) | exact Nat.ne_of_lt (cj5 (by assumption)) | exact Nat.ne_of_gt (cj5 (by assumption)) | exact cj6 (by assumption) | exact Ne.symm (cj6 (by assumption)) | exact Nat.ne_of_lt (cj6 (by assumption)) | exact Nat.ne_of_gt (cj6 (by assumption)) | exact cj7 (by assumption) | exact Ne.symm (cj7 (by assumption)) | exact Nat.ne_of_lt (cj7 (by assumption)) | exact Nat.ne_of_gt (cj7 (by assumption)) | exact cj8 (by assumption) | exact Ne.symm (cj8 (by assumption)) | exact Nat.ne_of_lt (cj8 (by assumption)) | exact Nat.ne_of_gt (cj8 (by assumption)) | exact cj9 (by assumption) | exact Ne.symm (cj9 (by assumption)) | exact Nat.ne_of_lt (cj9 (by assumption)) | exact Nat.ne_of_gt (cj9 (by assumption)) | exact ej5 (by assumption) | exact Ne.symm (ej5 (by assumption)) | exact Nat.ne_of_lt (ej5 (by assumption)) | exact Nat.ne_of_gt (ej5 (by assumption)) | exact ej6 (by assumption) | exact Ne.symm (ej6 (by assumption)) | exact Nat.ne_of_lt (ej6 (by assumption)) | exact Nat.ne_of_gt (ej6 (by assumption)) | exact ej7 (by assumption) | exact Ne.symm (ej7 (by assumption)) | exact Nat.ne_of_lt (ej7 (by assumption)) | exact Nat.ne_of_gt (ej7 (by assumption)) | exact ej8 (by assumption) | exact Ne.symm (ej8 (by assumption)) | exact Nat.ne_of_lt (ej8 (by assumption)) | exact Nat.ne_of_gt (ej8 (by assumption)) | exact ej9 (by assumption) | exact Ne.symm (ej9 (by assumption)) | exact Nat.ne_of_lt (ej9 (by assumption)) | exact Nat.ne_of_gt (ej9 (by assumption)))
  k_with "binaryOp RShift int int" => (k_here; (with_reducible refine shr1 ?_))
  k_with "binaryOp Mod int int" => (k_here; (with_reducible refine mod_pos ?k1 ?_); (case k1 => decide))
  k_with "binaryOp FloorDiv int int" => (k_here; (with_reducible refine fdiv_pos ?k1 ?k2 ?_); (case k1 => decide); (case k2 => decide +kernel))
  k_with "call ref" => (k_here; refine wpAny_call ?_; k_dflt (refine' code_def ?k1 ?k2 ?k3 ?k4 ?k5 ?kA ?kF ?kK ?k6 ?k7 ?k8 ?k9 ?kB ?_ ?c2 ?c3 ?c4 ?c5; (case kA => exact rfl); (case kF => exact rfl); (case kK => first | exact rfl | assumption); (case k1 => k_asm); (case k2 => k_asm); (case k3 => k_asm); (case k4 => k_asm); (case k5 => k_asm); (case k6 => k_is); (case k7 => k_is); (case k8 => (first | exact unL2 (by assumption) rfl | exact unL1 (by assumption) rfl | exact unL0 (by assumption) | ktr_room)); (case k9 => exact BindsTo.of_eq rfl); (case c5 => decide); (case kB => exact locs rfl); (case c2 => exact rfl); (case c3 => exact rfl); (case c4 => exact rfl); k_whole; intro g' L' h' FG' F' N' B' X' T'; (try dsimp only); (try k_lift B'); (try k_fold)))
  k_with "execs cons" => (k_here; first | (k_made; walk_at "execs cons") | k_gentoks | ((with_reducible refine wpAny_execs_cons ?_); (try dsimp only); (try k_fold)))
  k_with "idx" => (first | with_reducible assumption | (first | lia | omega))
  k_with "upd" => (first | (refine' Pick.head ?a; (case a => k_all)) | (refine' Pick.tail ?a ?b; (case a => k_ne); (case b => k_upd)))
  k_with "call builtin:list.append" => (k_here; (with_reducible show wpAny _ _ (call (Value.builtin _) [Value.ref _, _]) _ _ _); k_dflt (refine' append_K ?k1 ?k2 ?k3 ?_ ?z; (case k1 => k_asm); (case k2 => k_asm); (case k3 => k_upd); (case z => (rw [sizeLine_eq]; simp only [List.size_toArray]; (first | lia | omega))); k_whole); intro _ _ nN; (try simp only [List.push_toArray] at nN); revert nN; intro _; (try k_sweep))
  k_with "call ref" => refine held ?_
  k_steps
  refine Held.out ?_
  unfold Held
  rename News _ _ _ _ => N14
  rename_i D _ _ lD
  k_dflt (refine push_tells (led := (D, _) :: led) (x := codeK (w1 + c2) (bx b1 p2) (t9 + 1)) (by k_asm) (by k_asm) (by k_asm) N14 (by k_asm) rfl (Pick.tail (Nat.ne_of_gt lD.1) (Pick.head hoff)) (sub_tl hs) (hi.mono fun p hp => .tail _ hp) ⟨D, _, _, w1 + c2, bx b1 p2, t9 + 1, rfl, List.mem_cons_self .., .cons _ _ (.cons _ _ (.cons _ _ .nil)), rfl, h1, h2, h3, h4, h5⟩ hlen (by (first | exact unL2 (by assumption) rfl | exact unL1 (by assumption) rfl | exact unL0 (by assumption) | ktr_room)) (by (first | exact unL2 (by assumption) rfl | exact unL1 (by assumption) rfl | exact unL0 (by assumption) | ktr_units)) ?_)
  intro h14 tk14 hv8 nh8 zs1 F15 N15 hT8 hz1 hzl1
  k_steps
  exact NEnd.intro (by k_asm) N15 (fun p hp => hp) ⟨D, _, _, hv8, nh8, zs1, eM, rfl, hT8, hz1, hzl1, ktn_ltOf lD.2, lD.1⟩
set_option maxHeartbeats 8000000 in
theorem ns_push2 {R led : List (Addr × Obj)} {lh : Addr} {hv : List Value} {nh : Nat} {ys : List Int} {w1 b1 t9 c1 p1 c2 p2 : Int} {ta tb tc td te tf tg : Tok} {ib orelse2 : List Stmt} {test2 : PySem.Expr} {pos2 : Pos}
    (ho : (hd.heap_39 w.params).lookup 130 = some ⟨oc, od, .func (fnOf name qual params body scope dV kV doc pm an cdv ct), osl⟩) (hst : body[2]? = some (.While test wb orelse pos)) (hwb : wb[2]? = some (.If test2 ib orelse2 pos2)) (hib : ib[3]? = some st)
    (B : Below A₀ base outer h₀) (X : (hd.heap_39 w.params).In h₀) (T : Top hd.view_39 lz mean mg mb h₀) (F : Fr h₀ L s.heap m) (hm : KnownAll m [(Str.ofString "heap", .ref lh), (Str.ofString "way", .int w1 ta), (Str.ofString "bits", .int b1 tb), (Str.ofString "at", .int t9 tc), (Str.ofString "cost", .int c1 td), (Str.ofString "last", .int p1 te), (Str.ofString "more", .int c2 tf), (Str.ofString "following", .int p2 tg)])
    (N : News h₀ L s.heap ((lh, W.listOf hv.toArray nh) :: R)) (hoff : ∀ p ∈ R, p.1 ≠ lh) (hs : ∀ p ∈ led, p ∈ R) (hi : TupsK led hv ys) (hlen : ys.length < 900) (hun : un + 30 < cLine) (hdp : dp + 3 < recursionLimit)
    (h1 : 0 ≤ w1 + c2 - c1) (h2 : 0 ≤ bx (bx b1 p1) p2) (h3 : bx (bx b1 p1) p2 < 65536) (h4 : 0 ≤ t9 + 1) (h5 : t9 + 1 < 16) :
    wpAny (model prg w) (ktrTop dp un gd qual scope L a ccd [] outer) (exec st (envOf qual scope L a ccd)) (NEnd h₀ L (J_npush R led lh ys (codeK (w1 + c2 - c1) (bx (bx b1 p1) p2) (t9 + 1)) m) s) E s := by
  revert X; unfold prg; w_top off; k_fill; intro X
  refine' fn_body ho ?e ?_
  case e => k_is
  clear ho
  rintro rfl rfl rfl
  cases hst
  cases hwb
  cases hib
  have F1 : Fr h₀ L s.heap (kstB m [(Str.ofString "heap", .ref lh), (Str.ofString "way", .int w1 ta), (Str.ofString "bits", .int b1 tb), (Str.ofString "at", .int t9 tc), (Str.ofString "cost", .int c1 td), (Str.ofString "last", .int p1 te), (Str.ofString "more", .int c2 tf), (Str.ofString "following", .int p2 tg)]) := fr_knownL hm F
  have eM : kstB m [(Str.ofString "heap", .ref lh), (Str.ofString "way", .int w1 ta), (Str.ofString "bits", .int b1 tb), (Str.ofString "at", .int t9 tc), (Str.ofString "cost", .int c1 td), (Str.ofString "last", .int p1 te), (Str.ofString "more", .int c2 tf), (Str.ofString "following", .int p2 tg)] = m := known_eqX hm
  dsimp only [kstB] at F1 eM
  clear F
  k_with_none
  k_with "ne" => (refine neN ?_; (try dsimp only); with_reducible first | assumption | exact Ne.symm (by assumption) | exact ne1 | exact ne1.symm | exact ne2 | exact ne2.symm | exact ne3 | exact ne3.symm | exact ne4 | exact ne4.symm | exact ne5 | exact ne5.symm | exact nl1 (by assumption) | exact nl2 (by assumption) | exact nl3 (by assumption) | exact (nl1 (by assumption)).symm | exact (nl2 (by assumption)).symm | exact (nl3 (by assumption)).symm | exact Nat.ne_of_lt (by assumption) | exact Nat.ne_of_gt (by assumption) | exact cj1 (by assumption) | exact Ne.symm (cj1 (by assumption)) | exact Nat.ne_of_lt (cj1 (by assumption)) | exact Nat.ne_of_gt (cj1 (by assumption)) | exact cj2 (by assumption) | exact Ne.symm (cj2 (by assumption)) | exact Nat.ne_of_lt (cj2 (by assumption)) | exact Nat.ne_of_gt (cj2 (by assumption)) | exact cj3 (by assumption) | exact Ne.symm (cj3 (by assumption)) | exact Nat.ne_of_lt (cj3 (by assumption)) | exact Nat.ne_of_gt (cj3 (by assumption)) | exact cj4 (by assumption) | exact Ne.symm (cj4 (by assumption)) | exact Nat.ne_of_lt (cj4 (by assumption)) | exact Nat.ne_of_gt (cj4 (by assumption)) | exact cj5 (by assumption) | exact Ne.symm (cj5 (by assumption)) | exact Nat.ne_of_lt (cj5 (by assumption)) | exact Nat.ne_of_gt (cj5 (by assumption)) | exact cj6 (by assumption) | exact Ne.symm (cj6 (by assumption)) | exact Nat.ne_of_lt (cj6 (by assumption)) | exact Nat.ne_of_gt (cj6 (by assumption)) | exact cj7 (by assumption) | exact Ne.symm (cj7 (by assumption)) | exact Nat.ne_of_lt (cj7 (by assumption)) | exact Nat.ne_of_gt (cj7 (by assumption)) | exact cj8 (by assumption) | exact Ne.symm (cj8 (by assumption)) | exact Nat.ne_of_lt (cj8 (by assumption)) | exact Nat.ne_of_gt (cj8 (by assumption)) | exact cj9 (by assumption) | exact Ne.symm (cj9 (by assumption)) | exact Nat.ne_of_lt (cj9 (by assumption)) | exact Nat.ne_of_gt (cj9 (by assumption)) | exact ej5 (by assumption) | exact Ne.symm (ej5 (by assumption)) | exact Nat.ne_of_lt (ej5 (by assumption)) | exact Nat.ne_of_gt (ej5 (by assumption)) | exact ej6 (by assumption) | exact Ne.symm (ej6 (by assumption)) | exact Nat.ne_of_lt (ej6 (by assumption)) | exact Nat.ne_of_gt (ej6 (by assumption)) | exact ej7 (by assumption) | exact Ne.symm (ej7 (by assumption)) | exact Nat.ne_of_lt (ej7 (by assumption)) | exact Nat.ne_of_gt (ej7 (by assumption)) | exact ej8 (by assumption) | exact Ne.symm (ej8 (by assumption)) | exact Nat.ne_of_lt (ej8 (by assumption)) | exact Nat.ne_of_gt (ej8 (by assumption)) | exact ej9 (by assumption) | exact Ne.symm (ej9 (by assumption)) | exact Nat.ne_of_lt (ej9 (by assumption)) | exact Nat.ne_of_gt (ej9 (by assumption)))
  k_with "binaryOp RShift int int" => (k_here; (with_reducible refine shr1 ?_))
  k_with "binaryOp Mod int int" => (k_here; (with_reducible refine mod_pos ?k1 ?_); (case k1 => decide))
  k_with "binaryOp FloorDiv int int" => (k_here; (with_reducible refine fdiv_pos ?k1 ?k2 ?_); (case k1 => decide); (case k2 => decide +kernel))
  k_with "call ref" => (k_here; refine wpAny_call ?_; k_dflt (refine' code_def ?k1 ?k2 ?k3 ?k4 ?k5 ?kA ?kF ?kK ?k6 ?k7 ?k8 ?k9 ?kB ?_ ?c2 ?c3 ?c4 ?c5; (case kA => exact rfl); (case kF => exact rfl); (case kK => first | exact rfl | assumption); (case k1 => k_asm); (case k2 => k_asm); (case k3 => k_asm); (case k4 => k_asm); (case k5 => k_asm); (case k6 => k_is); (case k7 => k_is); (case k8 => (first | exact unL2 (by assumption) rfl | exact unL1 (by assumption) rfl | exact unL0 (by assumption) | ktr_room)); (case k9 => exact BindsTo.of_eq rfl); (case c5 => decide); (case kB => exact locs rfl); (case c2 => exact rfl); (case c3 => exact rfl); (case c4 => exact rfl); k_whole; intro g' L' h' FG' F' N' B' X' T'; (try dsimp only); (try k_lift B'); (try k_fold)))
  k_with "execs cons" => (k_here; first | (k_made; walk_at "execs cons") | k_gentoks | ((with_reducible refine wpAny_execs_cons ?_); (try dsimp only); (try k_fold)))
  k_with "idx" => (first | with_reducible assumption | (first | lia | omega))
  k_with "upd" => (first | (refine' Pick.head ?a; (case a => k_all)) | (refine' Pick.tail ?a ?b; (case a => k_ne); (case b => k_upd)))
  k_with "call builtin:list.append" => (k_here; (with_reducible show wpAny _ _ (call (Value.builtin _) [Value.ref _, _]) _ _ _); k_dflt (refine' append_K ?k1 ?k2 ?k3 ?_ ?z; (case k1 => k_asm); (case k2 => k_asm); (case k3 => k_upd); (case z => (rw [sizeLine_eq]; simp only [List.size_toArray]; (first | lia | omega))); k_whole); intro _ _ nN; (try simp only [List.push_toArray] at nN); revert nN; intro _; (try k_sweep))
  k_with "call ref" => refine held ?_
  k_steps
  refine Held.out ?_
  unfold Held
  rename News _ _ _ _ => N14
  rename_i D _ _ lD
  k_dflt (refine push_tells (led := (D, _) :: led) (x := codeK (w1 + c2 - c1) (bx (bx b1 p1) p2) (t9 + 1)) (by k_asm) (by k_asm) (by k_asm) N14 (by k_asm) rfl (Pick.tail (Nat.ne_of_gt lD.1) (Pick.head hoff)) (sub_tl hs) (hi.mono fun p hp => .tail _ hp) ⟨D, _, _, w1 + c2 - c1, bx (bx b1 p1) p2, t9 + 1, rfl, List.mem_cons_self .., .cons _ _ (.cons _ _ (.cons _ _ .nil)), rfl, h1, h2, h3, h4, h5⟩ hlen (by (first | exact unL2 (by assumption) rfl | exact unL1 (by assumption) rfl | exact unL0 (by assumption) | ktr_room)) (by (first | exact unL2 (by assumption) rfl | exact unL1 (by assumption) rfl | exact unL0 (by assumption) | ktr_units)) ?_)
  intro h14 tk14 hv8 nh8 zs1 F15 N15 hT8 hz1 hzl1
  k_steps
  exact NEnd.intro (by k_asm) N15 (fun p hp => hp) ⟨D, _, _, hv8, nh8, zs1, eM, rfl, hT8, hz1, hzl1, ktn_ltOf lD.2, lD.1⟩
end
theorem getD_mem {tn : List (Int × Int)} {i : Nat} (h : i < tn.length) : tn.getD i (0, 0) ∈ tn := by
  simp [List.getD, h]
theorem re4 {h₀ h : Heap} {L : Addr} {p1 p2 p3 p4 r1 r2 : Addr × Obj} {rest : List (Addr × Obj)} (N : News h₀ L h (p1 :: p2 :: p3 :: p4 :: r1 :: r2 :: rest)) : News h₀ L h (p3 :: p1 :: ([p2, p4] ++ rest)) := fun p hp => N p (by
  simp only [List.mem_cons, List.mem_append, List.not_mem_nil, or_false] at hp ⊢
  rcases hp with h | h | (h | h) | h <;> simp [h])
theorem pp_mem {xs : List Int} {v : Int} (h : 0 < xs.length) (e : v = popV xs) : v ∈ xs := (pop_perm xs h).mem_iff.mp (e ▸ List.mem_cons_self ..)
noncomputable def DomK (Dom : Int → Prop) (xs : List Int) : Prop := ∀ k ∈ xs, Dom (k / 16 % 65536)
theorem domK_pop {Dom : Int → Prop} {xs ys : List Int} (h : DomK Dom xs) (hp : 0 < xs.length) (e : ys = popF xs) : DomK Dom ys := fun k hk => h k ((pop_perm xs hp).mem_iff.mp (.tail _ (e ▸ hk)))
theorem domK_push {Dom : Int → Prop} {xs ys : List Int} {k : Int} (h : DomK Dom xs) (e : ys = pushF xs k) (hk : Dom (k / 16 % 65536)) : DomK Dom ys := fun j hj => by
  have := (pushF_perm xs k).mem_iff.mp (e ▸ hj)
  rcases List.mem_cons.mp this with rfl | q
  · exact hk
  · exact h j q
inductive J_nearest (tn : List (Int × Int)) (w0 b0 : Int) (Dom : Int → Prop) (news : List (Addr × Obj)) (lf lh lt : Addr) (n : Nat) (m' : Str → Option Value) (nx : List (Addr × Obj)) : Prop
  | mk (fv nf hv nh own fs xs : _) (_ : nx = (lf, W.listOf fv.toArray nf) :: (lh, W.listOf hv.toArray nh) :: (own ++ news)) (_ : PairsP own fv fs) (_ : TupsK (own ++ news) hv xs) (_ : NearOk tn (allSub tn w0 b0) fs xs) (_ : DomK Dom xs) (_ : (∀ p ∈ own, (∀ q ∈ news, q.1 < p.1) ∧ p.1 ≠ lf ∧ p.1 ≠ lh)) (_ : fs.head? = some (w0, b0)) (_ : n = 16 - fs.length) (_ : KnownAll m' [(Str.ofString "found", .ref lf), (Str.ofString "heap", .ref lh), (Str.ofString "turns", .ref lt)])
theorem near_nums {t : Int} {n m : Nat} (h0 : 0 ≤ t) (h4 : n = 4) (hm : m = n) (h : t + 1 < (m : Int)) : t + 1 < 4 ∧ 0 ≤ t + 1 ∧ t + 1 < 16 ∧ t.toNat < n ∧ (t + 1).toNat < n ∧ t.toNat < 3 ∧ t.toNat + 1 = (t + 1).toNat ∧ t + 1 < 2 ^ 63 ∧ t < 2 ^ 63 := by
  subst hm
  subst h4
  refine' hid fun kG_ => ?_
  obtain ⟨k, rfl⟩ := Int.eq_ofNat_of_zero_le h0
  refine' kG_ ?_
  clear kG_
  match k, h with
  | 0, _ => decide +kernel
  | 1, _ => decide +kernel
  | 2, _ => decide +kernel
  | k + 3, h => exact absurd h (by omega)
theorem near_lens {f x h f' y : Nat} (hl : f + x ≤ 16) (hf : f' = f) (hh : h = x) (hy : y = x - 1) (hp : 0 < h) : 0 < x ∧ x < 900 ∧ y < 900 ∧ y + 1 < 900 ∧ 16 - (f + (0 + 1)) < 16 - f ∧ f' ≤ 16777216 ∧ f' + 1 ≤ 16777216 := by
  subst hh hf hy
  have hx : h ≤ 16 := Nat.le_trans (Nat.le_add_left h f') hl
  have hf1 : f' + 1 ≤ 16 := Nat.le_trans (Nat.add_le_add_left hp f') hl
  have hy : h - 1 ≤ 16 := Nat.le_trans (Nat.sub_le h 1) hx
  exact ⟨hp, Nat.lt_of_le_of_lt hx (by decide), Nat.lt_of_le_of_lt hy (by decide), Nat.lt_of_le_of_lt (Nat.succ_le_succ hy) (by decide), Nat.sub_lt_sub_left hf1 (Nat.lt_succ_self f'), Nat.le_trans (Nat.le_of_succ_le hf1) (by decide), Nat.le_trans hf1 (by decide)⟩
theorem near_w {w a b : Int} (h : 0 ≤ w) (k : a ≤ b) : 0 ≤ w + b - a := by (first | lia | omega)
theorem not_lt4 {t : Int} {n m : Nat} (h4 : n = 4) (hm : m = n) (h : ¬ t + 1 < (m : Int)) : ¬ t + 1 < 4 := by (first | lia | omega)
theorem zero_len {h x : Nat} (hh : h = x) (hp : ¬ 0 < h) : x = 0 := by (first | lia | omega)
theorem len_pos4 {n : Nat} (h : n = 4) : 0 < n := by (first | lia | omega)
theorem len_small {f x h : Nat} (hl : f + x ≤ 16) (hh : h = x) : (h : Int) < 2 ^ 63 ∧ h ≤ 16777216 ∧ x < 900 := by (first | lia | omega)
/-! the turn of the loop, cut off statement by statement -/
theorem sub_skip {α : Type} {d f : α} {l : List α} : ∀ p ∈ d :: l, p ∈ d :: f :: l := fun p hp => by
  rcases List.mem_cons.mp hp with rfl | hp
  · exact .head _
  · exact mem2 hp
theorem sub_lf {α : Type} {f h d : α} {l : List α} : ∀ p ∈ f :: h :: d :: l, p ∈ d :: f :: h :: l := fun p hp => by
  rcases List.mem_cons.mp hp with rfl | hp
  · exact .tail _ (.head _)
  · rcases List.mem_cons.mp hp with rfl | hp
    · exact mem2 (.head _)
    · rcases List.mem_cons.mp hp with rfl | hp
      · exact .head _
      · exact mem3 hp
theorem rot3 {α : Type} {d f h : α} {l : List α} : ∀ p ∈ h :: d :: f :: l, p ∈ d :: f :: h :: l := fun p hp => by
  rcases List.mem_cons.mp hp with rfl | hp
  · exact mem2 (.head _)
  · rcases List.mem_cons.mp hp with rfl | hp
    · exact .head _
    · rcases List.mem_cons.mp hp with rfl | hp
      · exact .tail _ (.head _)
      · exact mem3 hp
theorem sub_skip2 {α : Type} {d e f : α} {l : List α} : ∀ p ∈ d :: e :: l, p ∈ d :: e :: f :: l := fun p hp => by
  rcases List.mem_cons.mp hp with rfl | hp
  · exact .head _
  · exact .tail _ (sub_skip p hp)
theorem sub_node' {α : Type} {h f x y z : α} {l : List α} : ∀ p ∈ f :: h :: x :: y :: z :: l, p ∈ h :: x :: y :: z :: f :: l := fun p hp => by
  rcases List.mem_cons.mp hp with rfl | hp
  · exact .tail _ (mem3 (.head _))
  · rcases List.mem_cons.mp hp with rfl | hp
    · exact .head _
    · rcases List.mem_cons.mp hp with rfl | hp
      · exact .tail _ (.head _)
      · rcases List.mem_cons.mp hp with rfl | hp
        · exact mem2 (.head _)
        · rcases List.mem_cons.mp hp with rfl | hp
          · exact mem3 (.head _)
          · exact mem4 (.tail _ hp)
theorem swap2 {α : Type} {a b : α} {l : List α} : ∀ p ∈ a :: b :: l, p ∈ b :: a :: l := fun p hp => by
  rcases List.mem_cons.mp hp with rfl | hp
  · exact .tail _ (.head _)
  · rcases List.mem_cons.mp hp with rfl | hp
    · exact .head _
    · exact .tail _ (.tail _ hp)
section
variable {w : World} {mean : ExcName → Option Value} {mg mb : Str → Option Value} {dp un : Nat} {gd : Option (List Code)} {a : Addr} {ccd : Value} {outer : List Env} {A₀ : Around} {base h₀ : Heap} {L : Addr} {m : Str → Option Value} {hp : Heap} {g : Array GenState} {d : Drawn} {tk : Nat} {os : OsState} {E : Value → Shared → Prop}
  {oc : Value} {od : Option Addr} {name qual : Str} {params : Arguments} {body wb ib orelse orelse2 : List Stmt} {test test2 : PySem.Expr} {pos pos2 : Pos} {scope : Scope} {dV kV doc pm cdv ct : Value} {an : Option Addr} {osl : Array (Option Value)} {s0 s1 s2 s3 t0 t1 : Stmt}
inductive J_node (R : List (Addr × Obj)) (p1 pf : Addr × Obj) (lh : Addr) (ys : List Int) (k1 k2 : Int) (m m' : Str → Option Value) (nx : List (Addr × Obj)) : Prop
  | mk (D2 us2 n2 D3 us3 n3 hv nh zs1 zs2 : _) (_ : nx = (lh, W.listOf hv.toArray nh) :: (D3, tupO us3 n3) :: (D2, tupO us2 n2) :: p1 :: pf :: R) (_ : TupsK ((D3, tupO us3 n3) :: (D2, tupO us2 n2) :: p1 :: R) hv zs2) (_ : zs1 = pushF ys k1) (_ : zs2 = pushF zs1 k2) (_ : (∀ q ∈ p1 :: pf :: R, q.1 < D2)) (_ : (∀ q ∈ p1 :: pf :: R, q.1 < D3)) (_ : @LT.lt Nat _ lh D2) (_ : @LT.lt Nat _ lh D3) (_ : m' (Str.ofString "found") = m (Str.ofString "found")) (_ : m' (Str.ofString "heap") = m (Str.ofString "heap")) (_ : m' (Str.ofString "turns") = m (Str.ofString "turns"))
set_option maxHeartbeats 8000000 in
theorem ns_if {R : List (Addr × Obj)} {lt : Addr} {tv : List Value} {nt : Nat} {t9 : Int} {tc : Tok} {Q : Flow → Shared → Prop}
    (ho : (hd.heap_39 w.params).lookup 130 = some ⟨oc, od, .func (fnOf name qual params body scope dV kV doc pm an cdv ct), osl⟩) (hst : body[2]? = some (.While test wb orelse pos)) (hwb : wb[2]? = some (.If test2 ib orelse2 pos2))
    (B : Below A₀ base outer h₀) (X : (hd.heap_39 w.params).In h₀) (T : Top hd.view_39 lz mean mg mb h₀) (F : Fr h₀ L hp m) (hm : KnownAll m [(Str.ofString "turns", .ref lt), (Str.ofString "at", .int t9 tc)])
    (N : News h₀ L hp R) (hlt : (lt, W.listOf tv.toArray nt) ∈ R) (hvl : tv.length ≤ 16777216)
    (k1 : ∀ tk', t9 + 1 < (tv.length : Int) → wpAny (model PySem.Challenge.rw_om0049_02.row.prog w) (ktrTop dp un gd qual scope L a ccd [] outer) (execs ib (envOf qual scope L a ccd)) Q E ⟨hp, g, d, tk', os⟩)
    (k2 : ∀ tk', ¬ t9 + 1 < (tv.length : Int) → Q .next ⟨hp, g, d, tk', os⟩) :
    wpAny (model PySem.Challenge.rw_om0049_02.row.prog w) (ktrTop dp un gd qual scope L a ccd [] outer) (exec (.If test2 ib orelse2 pos2) (envOf qual scope L a ccd)) Q E ⟨hp, g, d, tk, os⟩ := by
  revert X; w_top off; k_fill; intro X
  refine' fn_body ho ?e ?_
  case e => k_is
  clear ho
  rintro rfl rfl rfl
  cases hst
  cases hwb
  have F1 : Fr h₀ L hp (kstB m [(Str.ofString "turns", .ref lt), (Str.ofString "at", .int t9 tc)]) := fr_knownL hm F
  dsimp only [kstB] at F1
  clear F
  replace N := news_in N hlt
  k_with_none
  k_with "ne" => (refine neN ?_; (try dsimp only); with_reducible first | assumption | exact Ne.symm (by assumption) | exact ne1 | exact ne1.symm | exact ne2 | exact ne2.symm | exact ne3 | exact ne3.symm | exact ne4 | exact ne4.symm | exact ne5 | exact ne5.symm | exact nl1 (by assumption) | exact nl2 (by assumption) | exact nl3 (by assumption) | exact (nl1 (by assumption)).symm | exact (nl2 (by assumption)).symm | exact (nl3 (by assumption)).symm | exact Nat.ne_of_lt (by assumption) | exact Nat.ne_of_gt (by assumption) | exact cj1 (by assumption) | exact Ne.symm (cj1 (by assumption)) | exact Nat.ne_of_lt (cj1 (by assumption)) | exact Nat.ne_of_gt (cj1 (by assumption)) | exact cj2 (by assumption) | exact Ne.symm (cj2 (by assumption)) | exact Nat.ne_of_lt (cj2 (by assumption)) | exact Nat.ne_of_gt (cj2 (by assumption)) | exact cj3 (by assumption) | exact Ne.symm (cj3 (by assumption)) | exact Nat.ne_of_lt (cj3 (by assumption)) | exact Nat.ne_of_gt (cj3 (by assumption)) | exact cj4 (by assumption) | exact Ne.symm (cj4 (by assumption)) | exact Nat.ne_of_lt (cj4 (by assumption)) | exact Nat.ne_of_gt (cj4 (by assumption)) | exact cj5 (by assumption) | exact Ne.symm (cj5 (by assumption)) | exact Nat.ne_of_lt (cj5 (by assumption)) | exact Nat.ne_of_gt (cj5 (by assumption)) | exact cj6 (by assumption) | exact Ne.symm (cj6 (by assumption)) | exact Nat.ne_of_lt (cj6 (by assumption)) | exact Nat.ne_of_gt (cj6 (by assumption)) | exact cj7 (by assumption) | exact Ne.symm (cj7 (by assumption)) | exact Nat.ne_of_lt (cj7 (by assumption)) | exact Nat.ne_of_gt (cj7 (by assumption)) | exact cj8 (by assumption) | exact Ne.symm (cj8 (by assumption)) | exact Nat.ne_of_lt (cj8 (by assumption)) | exact Nat.ne_of_gt (cj8 (by assumption)) | exact cj9 (by assumption) | exact Ne.symm (cj9 (by assumption)) | exact Nat.ne_of_lt (cj9 (by assumption)) | exact Nat.ne_of_gt (cj9 (by assumption)) | exact ej5 (by assumption) | exact Ne.symm (ej5 (by assumption)) | exact Nat.ne_of_lt (ej5 (by assumption)) | exact Nat.ne_of_gt (ej5 (by assumption)) | exact ej6 (by assumption) | exact Ne.symm (ej6 (by assumption)) | exact Nat.ne_of_lt (ej6 (by assumption)) | exact Nat.ne_of_gt (ej6 (by assumption)) | exact ej7 (by assumption) | exact Ne.symm (ej7 (by assumption)) | exact Nat.ne_of_lt (ej7 (by assumption)) | exact Nat.ne_of_gt (ej7 (by assumption)) | exact ej8 (by assumption) | exact Ne.symm (ej8 (by assumption)) | exact Nat.ne_of_lt (ej8 (by assumption)) | exact Nat.ne_of_gt (ej8 (by assumption)) | exact ej9 (by assumption) | exact Ne.symm (ej9 (by assumption)) | exact Nat.ne_of_lt (ej9 (by assumption)) | exact Nat.ne_of_gt (ej9 (by assumption)))
  k_with "binaryOp RShift int int" => (k_here; (with_reducible refine shr1 ?_))
  k_with "binaryOp Mod int int" => (k_here; (with_reducible refine mod_pos ?k1 ?_); (case k1 => decide))
  k_with "binaryOp FloorDiv int int" => (k_here; (with_reducible refine fdiv_pos ?k1 ?k2 ?_); (case k1 => decide); (case k2 => decide +kernel))
  k_with "call ref" => (k_here; refine wpAny_call ?_; k_dflt (refine' code_def ?k1 ?k2 ?k3 ?k4 ?k5 ?kA ?kF ?kK ?k6 ?k7 ?k8 ?k9 ?kB ?_ ?c2 ?c3 ?c4 ?c5; (case kA => exact rfl); (case kF => exact rfl); (case kK => first | exact rfl | assumption); (case k1 => k_asm); (case k2 => k_asm); (case k3 => k_asm); (case k4 => k_asm); (case k5 => k_asm); (case k6 => k_is); (case k7 => k_is); (case k8 => (first | exact unL2 (by assumption) rfl | exact unL1 (by assumption) rfl | exact unL0 (by assumption) | ktr_room)); (case k9 => exact BindsTo.of_eq rfl); (case c5 => decide); (case kB => exact locs rfl); (case c2 => exact rfl); (case c3 => exact rfl); (case c4 => exact rfl); k_whole; intro g' L' h' FG' F' N' B' X' T'; (try dsimp only); (try k_lift B'); (try k_fold)))
  k_with "execs cons" => (k_here; first | (k_made; walk_at "execs cons") | k_gentoks | ((with_reducible refine wpAny_execs_cons ?_); (try dsimp only); (try k_fold)))
  k_with "idx" => (first | with_reducible assumption | (first | lia | omega))
  k_with "upd" => (first | (refine' Pick.head ?a; (case a => k_all)) | (refine' Pick.tail ?a ?b; (case a => k_ne); (case b => k_upd)))
  k_with "call builtin:len" => (k_here; k_dflt (refine' len_led ?k1 ?k2 ?k3 ?_; (case k1 => k_asm); (case k2 => k_mem); (case k3 => (first | lia | omega))))
  k_with "execs cons" => refine held ?_
  k_steps
  · refine Held.out ?_
    unfold Held
    exact k1 _ (by assumption)
  · exact k2 _ (by assumption)
theorem ns_node {R : List (Addr × Obj)} {p1 pf : Addr × Obj} {lt lh ac ad : Addr} {tv hv : List Value} {nt nh nc nd : Nat} {ys : List Int} {w1 b1 t9 c0 p0 c1 q1 : Int} {ta tb tc tc1 tc2 td1 td2 : Tok}
    (ho : (hd.heap_39 w.params).lookup 130 = some ⟨oc, od, .func (fnOf name qual params body scope dV kV doc pm an cdv ct), osl⟩) (hst : body[2]? = some (.While test wb orelse pos)) (hwb : wb[2]? = some (.If test2 [s0, s1, s2, s3] orelse2 pos2))
    (B : Below A₀ base outer h₀) (X : (hd.heap_39 w.params).In h₀) (T : Top hd.view_39 lz mean mg mb h₀) (F : Fr h₀ L hp m) (hm : KnownAll m [(Str.ofString "heap", .ref lh), (Str.ofString "turns", .ref lt), (Str.ofString "way", .int w1 ta), (Str.ofString "bits", .int b1 tb), (Str.ofString "at", .int t9 tc)])
    (N : News h₀ L hp (p1 :: pf :: (lh, W.listOf hv.toArray nh) :: R)) (hoff : ∀ p ∈ p1 :: pf :: R, p.1 ≠ lh) (h1h : @LT.lt Nat _ lh p1.1) (hlt : (lt, W.listOf tv.toArray nt) ∈ R) (hac : (ac, tupO [.int c0 tc1, .int p0 tc2] nc) ∈ R) (had : (ad, tupO [.int c1 td1, .int q1 td2] nd) ∈ R)
    (ec : tv[t9.toNat]? = some (.ref ac)) (ed : tv[(t9 + 1).toNat]? = some (.ref ad)) (g0 : 0 ≤ t9) (g1 : t9 < 2 ^ 63) (g2 : 0 ≤ t9 + 1) (g3 : t9 + 1 < 2 ^ 63) (g4 : t9 + 1 < 16)
    (hi : TupsK R hv ys) (hl : ys.length < 900) (hl2 : ys.length + 1 < 900) (hun : un + 30 < cLine) (hdp : dp + 3 < recursionLimit)
    (h1 : 0 ≤ w1 + c1) (h2 : 0 ≤ bx b1 q1) (h3 : bx b1 q1 < 65536) (h4 : 0 ≤ w1 + c1 - c0) (h5 : 0 ≤ bx (bx b1 p0) q1) (h6 : bx (bx b1 p0) q1 < 65536) :
    wpAny (model PySem.Challenge.rw_om0049_02.row.prog w) (ktrTop dp un gd qual scope L a ccd [] outer) (execs [s0, s1, s2, s3] (envOf qual scope L a ccd)) (NEnd h₀ L (J_node R p1 pf lh ys (codeK (w1 + c1) (bx b1 q1) (t9 + 1)) (codeK (w1 + c1 - c0) (bx (bx b1 p0) q1) (t9 + 1)) m) ⟨hp, g, d, tk, os⟩) E ⟨hp, g, d, tk, os⟩ := by
  refine seqN _ (ns_cost ho hst hwb rfl B X T F ⟨hm.2.1, hm.2.2.2.2.1, trivial⟩ N (mem3 hlt) (mem3 hac) g0 g1 ec) ?_
  intro h' tk' m' nx F1 N1 hJ
  refine' hid fun kG_ => ?_
  obtain ⟨td, te, rfl, rfl⟩ := hJ
  refine' kG_ ?_
  clear kG_
  refine seqN _ (ns_more ho hst hwb rfl B X T F1 ⟨hm.2.1, hm.2.2.2.2.1, trivial⟩ N1 (mem3 hlt) (mem3 had) g2 g3 ed) ?_
  clear F N F1 N1
  intro h' tk' m' nx F2 N2 hJ
  refine' hid fun kG_ => ?_
  obtain ⟨tf, tg, rfl, rfl⟩ := hJ
  refine' kG_ ?_
  clear kG_
  refine seqN _ (ns_push1 ho hst hwb rfl B X T F2 ⟨hm.1, hm.2.2.1, hm.2.2.2.1, hm.2.2.2.2.1, rfl, rfl, trivial⟩ (fun p hp => N2 p (rot3 p hp)) hoff sub_skip (hi.mono fun p hp => .tail _ hp) hl hun hdp h1 h2 h3 g2 g4) ?_
  clear F2 N2
  intro h' tk' m' nx F3 N3 hJ
  refine' hid fun kG_ => ?_
  obtain ⟨D2, us2, n2, hv8, nh8, zs1, rfl, rfl, hT8, hz1, hzl1, oD2, oD2h⟩ := hJ
  refine' kG_ ?_
  clear kG_
  refine seqN _ (ns_push2 ho hst hwb rfl B X T F3 ⟨hm.1, hm.2.2.1, hm.2.2.2.1, hm.2.2.2.2.1, rfl, rfl, rfl, rfl, trivial⟩ N3 (List.forall_mem_cons.mpr ⟨Nat.ne_of_gt oD2h, hoff⟩) sub_skip2 hT8 (by rw [hzl1]; exact hl2) hun hdp h4 h5 h6 g2 g4) ?_
  clear F3 N3
  intro h' tk' m' nx F4 N4 hJ
  refine' hid fun kG_ => ?_
  obtain ⟨D3, us3, n3, hv9, nh9, zs2, rfl, rfl, hT9, hz2, hzl2, oD3, oD3h⟩ := hJ
  refine' kG_ ?_
  clear kG_
  exact nilN F4 N4 ⟨_, _, _, _, _, _, _, _, _, _, rfl, hT9, hz1, hz2, oD2, fun q hq => oD3 q (.tail _ hq), oD2h, oD3h, rfl, rfl, rfl⟩
theorem ns_turn {R own news : List (Addr × Obj)} {lf lh lt : Addr} {tv fv hv : List Value} {nt nf nh n : Nat} {tn fs : List (Int × Int)} {xs : List Int} {w0 b0 : Int} {Dom : Int → Prop}
    (ho : (hd.heap_39 w.params).lookup 130 = some ⟨oc, od, .func (fnOf name qual params body scope dV kV doc pm an cdv ct), osl⟩) (hst : body[2]? = some (.While test [t0, t1, .If test2 [s0, s1, s2, s3] [] pos2] orelse pos))
    (B : Below A₀ base outer h₀) (X : (hd.heap_39 w.params).In h₀) (T : Top hd.view_39 lz mean mg mb h₀) (F : Fr h₀ L hp m) (N : News h₀ L hp ((lf, W.listOf fv.toArray nf) :: (lh, W.listOf hv.toArray nh) :: R)) (hR : R = own ++ news) (hkn : KnownAll m [(Str.ofString "found", .ref lf), (Str.ofString "heap", .ref lh), (Str.ofString "turns", .ref lt)])
    (hm : (lt, W.listOf tv.toArray nt) ∈ news) (hp' : PairsP news tv tn) (h4 : tn.length = 4) (hDp : ∀ q ∈ tn, Dom q.2) (hDx : ∀ a b, Dom a → Dom b → Dom (bx a b)) (hDb : ∀ a, Dom a → 0 ≤ a ∧ a < 65536) (hc : ∀ q ∈ tn, 0 ≤ q.1) (hcs : ∀ i, i < 3 → cT tn i ≤ cT tn (i + 1)) (hun : un + 30 < cLine) (hdp : dp + 3 < recursionLimit)
    (hpf : PairsP own fv fs) (hth : TupsK R hv xs) (hok : NearOk tn (allSub tn w0 b0) fs xs) (hdk : DomK Dom xs) (hof : ∀ p ∈ own, (∀ q ∈ news, q.1 < p.1) ∧ p.1 ≠ lf ∧ p.1 ≠ lh) (hhd : fs.head? = some (w0, b0)) (en : n = 16 - fs.length) (gx : 0 < hv.length)
    (n2 : ∀ q ∈ news, q.1 < lf) (n4 : ∀ q ∈ news, q.1 < lh) (hlfh : @Ne Nat lf lh) :
    wpAny (model PySem.Challenge.rw_om0049_02.row.prog w) (ktrTop dp un gd qual scope L a ccd [] outer) (execs [t0, t1, .If test2 [s0, s1, s2, s3] [] pos2] (envOf qual scope L a ccd)) (NEnd h₀ L (fun m' nx' => ∃ n', n' < n ∧ J_nearest tn w0 b0 Dom news lf lh lt n' m' nx') ⟨hp, g, d, tk, os⟩) E ⟨hp, g, d, tk, os⟩ := by
  have hlen := hok.len (allSub_len tn w0 b0)
  have hhl := hth.length
  have hfl := hpf.length
  have hvl := hp'.length
  have hnR : ∀ p ∈ news, p ∈ R := fun p hp => hR ▸ List.mem_append_right _ hp
  have hlf : ∀ p ∈ R, p.1 ≠ lf := fun p hp => (List.mem_append.mp (hR ▸ hp)).elim (fun h => (hof p h).2.1) (fun h => Nat.ne_of_lt (n2 p h))
  have hlh : ∀ p ∈ R, p.1 ≠ lh := fun p hp => (List.mem_append.mp (hR ▸ hp)).elim (fun h => (hof p h).2.2) (fun h => Nat.ne_of_lt (n4 p h))
  refine seqN _ (ns_pop ho hst rfl B X T F ⟨hkn.2.1, trivial⟩ (fun p hp => N p (swap2 p hp)) (List.forall_mem_cons.mpr ⟨hlfh, hlh⟩) (fun p hp => .tail _ hp) hth (len_small hlen.1 hhl).2.2 (hhl ▸ gx) hun hdp) ?_
  intro h' tk' m' nx F1 N1 hJ
  clear F N
  refine' hid fun kG_ => ?_
  obtain ⟨hv5, nh5, ys, v, w1, b1, t9, ta, tb, tc, rfl, rfl, hT5, hv9, hy, hyl, hc9, q1, q2, q3, q4, q5⟩ := hJ
  refine' kG_ ?_
  clear kG_
  have gl := near_lens hlen.1 hfl hhl hyl gx
  refine seqN _ (ns_append ho hst rfl B X T F1 ⟨hkn.1, rfl, rfl, trivial⟩ (fun p hp => N1 p (swap2 p hp)) (List.forall_mem_cons.mpr ⟨Ne.symm hlfh, hlf⟩) (by rw [hfl]; exact Nat.le_trans (Nat.le_add_right _ _) hlen.1) hun hdp) ?_
  intro h' tk' m' nx F2 N2 hJ
  clear F1 N1 hth
  refine' hid fun kG_ => ?_
  obtain ⟨D1, n1, nf1, rfl, rfl, oD, oD1f⟩ := hJ
  refine' kG_ ?_
  clear kG_
  have oD1h : @LT.lt Nat _ lh D1 := oD _ (.head _)
  have oD1 : ∀ q ∈ R, q.1 < D1 := fun q hq => oD q (.tail _ hq)
  have hhd' : (fs ++ [(w1, b1)]).head? = some (w0, b0) := by rw [List.head?_append, hhd]; rfl
  have glt : 16 - (fs ++ [(w1, b1)]).length < n := by rw [en, List.length_append]; exact gl.2.2.2.2.1
  refine wpAny_execs_cons (ns_if ho hst rfl B X T F2 ⟨hkn.2.2.1, rfl, trivial⟩ N2 (mem3 (hnR _ hm)) (by rw [hvl, h4]; decide) (fun tk2 hlt4 => ?_) (fun tk2 hlt4 => ?_))
  · have gn := near_nums q4 h4 hvl hlt4
    refine' hid fun kG_ => ?_
    refine' hid fun kG_ => ?_
    obtain ⟨ac, nc, tc1, tc2, ec, hmc⟩ := hp'.at (i := t9.toNat) gn.2.2.2.1
    obtain ⟨ad, nd, td1, td2, ed, hmd⟩ := hp'.at (i := (t9 + 1).toNat) gn.2.2.2.2.1
    refine' kG_ ?_
    clear kG_
    refine' kG_ ?_
    clear kG_
    have hdp0 : Dom (pT tn t9.toNat) := hDp _ (getD_mem gn.2.2.2.1)
    have hdp1 : Dom (pT tn (t9 + 1).toNat) := hDp _ (getD_mem gn.2.2.2.2.1)
    have hdb1 : Dom b1 := by
      have := hdk v (pp_mem gl.1 hv9)
      rwa [hc9, dec_b q2 q3 q4 q5] at this
    have hx1 := hDx _ _ hdb1 hdp1
    have hx2 := hDx _ _ (hDx _ _ hdb1 hdp0) hdp1
    have hc0 : 0 ≤ cT tn t9.toNat := hc _ (getD_mem gn.2.2.2.1)
    have hcc : cT tn t9.toNat ≤ cT tn (t9 + 1).toNat := by
      have := hcs t9.toNat gn.2.2.2.2.2.1
      rwa [gn.2.2.2.2.2.2.1] at this
    refine wpAny_mono (ns_node (c0 := cT tn t9.toNat) (p0 := pT tn t9.toNat) (c1 := cT tn (t9 + 1).toNat) (q1 := pT tn (t9 + 1).toNat) ho hst rfl B X T F2 ⟨hkn.2.1, hkn.2.2.1, rfl, rfl, rfl, trivial⟩ N2 (List.forall_mem_cons.mpr ⟨Nat.ne_of_gt oD1h, List.forall_mem_cons.mpr ⟨hlfh, hlh⟩⟩) oD1h (hnR _ hm) (hnR _ hmc) (hnR _ hmd) ec ed q4 gn.2.2.2.2.2.2.2.2 gn.2.1 gn.2.2.2.2.2.2.2.1 gn.2.2.1 hT5 gl.2.2.1 gl.2.2.2.1 hun hdp (Int.add_nonneg q1 (hc _ (getD_mem gn.2.2.2.2.1))) (hDb _ hx1).1 (hDb _ hx1).2 (near_w q1 hcc) (hDb _ hx2).1 (hDb _ hx2).2) (fun f s' h => ?_) fun _ _ e => e
    refine' hid fun kG_ => ?_
    obtain ⟨rfl, h', tk', m', nx, rfl, F3, N3, hJ⟩ := h
    obtain ⟨D2, us2, n2', D3, us3, n3', hv7, nh7, zs1, zs2, rfl, hT7, hz1, hz2, oD2, oD3, oD2h, oD3h, e1, e2, e3⟩ := hJ
    refine' kG_ ?_
    clear kG_
    have hne := NearOk.node hok gl.1 hv9 hy hc9 q2 q3 q4 q5 gn.1 hz1 hz2 rfl rfl (hDb _ hx1) (hDb _ hx2) hc0 hcc
    have oR2 : ∀ q ∈ R, q.1 < D2 := fun q hq => oD2 q (mem2 hq)
    have oR3 : ∀ q ∈ R, q.1 < D3 := fun q hq => oD3 q (mem2 hq)
    subst hR
    exact wpAny_execs_nil ⟨rfl, _, _, _, _, rfl, F3, fun p hp => N3 p (sub_node' p hp), _, glt, _, _, _, _, (D3, _) :: (D2, _) :: (D1, _) :: own, fs ++ [(w1, b1)], zs2, rfl, (hpf.mono fun p hp => mem3 hp).append (.cons ⟨D1, _, _, _, rfl, .tail _ (.tail _ (.head _))⟩ .nil), hT7, hne,
      domK_push (domK_push (domK_pop hdk gl.1 hy) hz1 (by rw [dec_b (hDb _ hx1).1 (hDb _ hx1).2 gn.2.1 gn.2.2.1]; exact hx1)) hz2 (by rw [dec_b (hDb _ hx2).1 (hDb _ hx2).2 gn.2.1 gn.2.2.1]; exact hx2),
      List.forall_mem_cons.mpr ⟨⟨fun q hq => oR3 q (List.mem_append_right _ hq), Nat.ne_of_gt (oD3 _ (.tail _ (.head _))), Nat.ne_of_gt oD3h⟩, List.forall_mem_cons.mpr ⟨⟨fun q hq => oR2 q (List.mem_append_right _ hq), Nat.ne_of_gt (oD2 _ (.tail _ (.head _))), Nat.ne_of_gt oD2h⟩, List.forall_mem_cons.mpr ⟨⟨fun q hq => oD1 q (List.mem_append_right _ hq), Nat.ne_of_gt oD1f, Nat.ne_of_gt oD1h⟩, hof⟩⟩⟩,
      hhd', rfl, e1.trans hkn.1, e2.trans hkn.2.1, e3.trans hkn.2.2.1, trivial⟩
  · have hne := NearOk.leaf hok gl.1 hv9 hy hc9 q2 q3 q4 q5 (not_lt4 h4 hvl hlt4)
    subst hR
    exact wpAny_execs_nil ⟨rfl, _, _, _, _, rfl, F2, fun p hp => N2 p (sub_lf p hp), _, glt, _, _, _, _, (D1, _) :: own, fs ++ [(w1, b1)], ys, rfl, (hpf.mono fun p hp => .tail _ hp).append (.cons ⟨D1, _, _, _, rfl, .head _⟩ .nil), hT5.mono fun p hp => .tail _ hp, hne,
      domK_pop hdk gl.1 hy, List.forall_mem_cons.mpr ⟨⟨fun q hq => oD1 q (List.mem_append_right _ hq), Nat.ne_of_gt oD1f, Nat.ne_of_gt oD1h⟩, hof⟩, hhd', rfl, hkn.1, hkn.2.1, hkn.2.2.1, trivial⟩
end
section
variable {w : World} {mean : ExcName → Option Value} {mg mb : Str → Option Value} {dp un : Nat} {gd : Option (List Code)} {cn : Str} {cs : Scope} {a : Addr} {ccd : Value} {cl : List (Str × Addr)} {outer : List Env} {A₀ : Around} {base h₀ : Heap} {L : Addr} {m : Str → Option Value} {s : Shared} {Q E : Value → Shared → Prop}

set_option maxHeartbeats 8000000 in
theorem nearest_tells {lt : Addr} {tv : List Value} {nt : Nat} {tn : List (Int × Int)} {news : List (Addr × Obj)} {w0 b0 : Int} {t0 t1 : Tok} {Dom : Int → Prop}
    (B : Below A₀ base outer h₀) (F : Fr h₀ L s.heap m) (X : (hd.heap_39 w.params).In h₀) (N : News h₀ L s.heap news) (T : Top hd.view_39 lz mean mg mb h₀) (hk : cs.kind = .function)
    (hm : (lt, listOf tv.toArray nt) ∈ news) (hp : PairsP news tv tn) (h4 : tn.length = 4) (hw : 0 ≤ w0) (hD0 : Dom b0) (hDp : ∀ q ∈ tn, Dom q.2) (hDx : ∀ a b, Dom a → Dom b → Dom (bx a b)) (hDb : ∀ a, Dom a → 0 ≤ a ∧ a < 65536)
    (hc : ∀ q ∈ tn, 0 ≤ q.1) (hcs : ∀ i, i < 3 → cT tn i ≤ cT tn (i + 1))
    (hdp : dp + 4 < recursionLimit) (hun : un + 40 < cLine)
    (hret : ∀ h' tk' D vs n own fs, Fr h₀ L h' m → News h₀ L h' ((D, listOf vs.toArray n) :: (own ++ news)) → (∀ q ∈ news, q.1 < D) → (∀ p ∈ own, ∀ q ∈ news, q.1 < p.1) → PairsP own vs fs → fs.Perm (allSub tn w0 b0) → (fs.map (·.1)).Pairwise (· ≤ ·) → fs.head? = some (w0, b0) → Q (.ref D) { s with heap := h', toks := tk' }) :
    wpAny (model prg w) (ktrTop dp un gd cn cs L a ccd cl outer) (call (.ref 130) [.int w0 t0, .int b0 t1, .ref lt]) Q E s := by
  have hvl := hp.length
  refine' hid fun kG_ => ?_
  obtain ⟨a0, n0, t10, t20, e0, hm0⟩ := hp.at (i := 0) (len_pos4 h4)
  refine' kG_ ?_
  clear kG_
  replace N := news_in (news_in N hm0) (List.mem_cons_of_mem _ hm)
  revert X; unfold prg; w_top off; k_fill; intro X
  refine wpAny_call ?_
  k_dflt cell_enter
  k_with_none
  k_with "ne" => (refine neN ?_; (try dsimp only); with_reducible first | assumption | exact Ne.symm (by assumption) | exact ne1 | exact ne1.symm | exact ne2 | exact ne2.symm | exact ne3 | exact ne3.symm | exact ne4 | exact ne4.symm | exact ne5 | exact ne5.symm | exact nl1 (by assumption) | exact nl2 (by assumption) | exact nl3 (by assumption) | exact (nl1 (by assumption)).symm | exact (nl2 (by assumption)).symm | exact (nl3 (by assumption)).symm | exact Nat.ne_of_lt (by assumption) | exact Nat.ne_of_gt (by assumption) | exact cj1 (by assumption) | exact Ne.symm (cj1 (by assumption)) | exact Nat.ne_of_lt (cj1 (by assumption)) | exact Nat.ne_of_gt (cj1 (by assumption)) | exact cj2 (by assumption) | exact Ne.symm (cj2 (by assumption)) | exact Nat.ne_of_lt (cj2 (by assumption)) | exact Nat.ne_of_gt (cj2 (by assumption)) | exact cj3 (by assumption) | exact Ne.symm (cj3 (by assumption)) | exact Nat.ne_of_lt (cj3 (by assumption)) | exact Nat.ne_of_gt (cj3 (by assumption)) | exact cj4 (by assumption) | exact Ne.symm (cj4 (by assumption)) | exact Nat.ne_of_lt (cj4 (by assumption)) | exact Nat.ne_of_gt (cj4 (by assumption)) | exact cj5 (by assumption) | exact Ne.symm (cj5 (by assumption)) | exact Nat.ne_of_lt (cj5 (by assumption)) | exact Nat.ne_of_gt (cj5 (by assumption)) | exact cj6 (by assumption) | exact Ne.symm (cj6 (by assumption)) | exact Nat.ne_of_lt (cj6 (by assumption)) | exact Nat.ne_of_gt (cj6 (by assumption)) | exact cj7 (by assumption) | exact Ne.symm (cj7 (by assumption)) | exact Nat.ne_of_lt (cj7 (by assumption)) | exact Nat.ne_of_gt (cj7 (by assumption)) | exact cj8 (by assumption) | exact Ne.symm (cj8 (by assumption)) | exact Nat.ne_of_lt (cj8 (by assumption)) | exact Nat.ne_of_gt (cj8 (by assumption)) | exact cj9 (by assumption) | exact Ne.symm (cj9 (by assumption)) | exact Nat.ne_of_lt (cj9 (by assumption)) | exact Nat.ne_of_gt (cj9 (by assumption)) | exact ej5 (by assumption) | exact Ne.symm (ej5 (by assumption)) | exact Nat.ne_of_lt (ej5 (by assumption)) | exact Nat.ne_of_gt (ej5 (by assumption)) | exact ej6 (by assumption) | exact Ne.symm (ej6 (by assumption)) | exact Nat.ne_of_lt (ej6 (by assumption)) | exact Nat.ne_of_gt (ej6 (by assumption)) | exact ej7 (by assumption) | exact Ne.symm (ej7 (by assumption)) | exact Nat.ne_of_lt (ej7 (by assumption)) | exact Nat.ne_of_gt (ej7 (by assumption)) | exact ej8 (by assumption) | exact Ne.symm (ej8 (by assumption)) | exact Nat.ne_of_lt (ej8 (by assumption)) | exact Nat.ne_of_gt (ej8 (by assumption)) | exact ej9 (by assumption) | exact Ne.symm (ej9 (by assumption)) | exact Nat.ne_of_lt (ej9 (by assumption)) | exact Nat.ne_of_gt (ej9 (by assumption)))
  k_with "binaryOp RShift int int" => (k_here; (with_reducible refine shr1 ?_))
  k_with "binaryOp Mod int int" => (k_here; (with_reducible refine mod_pos ?k1 ?_); (case k1 => decide))
  k_with "binaryOp FloorDiv int int" => (k_here; (with_reducible refine fdiv_pos ?k1 ?k2 ?_); (case k1 => decide); (case k2 => decide +kernel))
  k_with "execs cons" => (k_here; first | (k_made; walk_at "execs cons") | k_gentoks | ((with_reducible refine wpAny_execs_cons ?_); (try dsimp only); (try k_fold)))
  k_with "idx" => (first | with_reducible assumption | (first | lia | omega))
  k_with "upd" => (first | (refine' Pick.head ?a; (case a => k_all)) | (refine' Pick.tail ?a ?b; (case a => k_ne); (case b => k_upd)))
  k_with "call builtin:len" => (k_here; k_dflt (refine' len_led ?k1 ?k2 ?k3 ?_; (case k1 => k_asm); (case k2 => k_mem); (case k3 => (first | lia | omega))))
  k_with "truthy ref" => (k_here; k_dflt (refine' truth_led ?k1 ?k2 ?k3 ?_; (case k1 => k_asm); (case k2 => k_mem); (case k3 => (first | lia | omega))))
  k_with "call builtin:list.append" => (k_here; (with_reducible show wpAny _ _ (call (Value.builtin _) [Value.ref _, _]) _ _ _); k_dflt (refine' append_K ?k1 ?k2 ?k3 ?_ ?z; (case k1 => k_asm); (case k2 => k_asm); (case k3 => k_upd); (case z => (rw [sizeLine_eq]; simp only [List.size_toArray]; (first | lia | omega))); k_whole); intro _ _ nN; (try simp only [List.push_toArray] at nN); revert nN; intro _; (try k_sweep))
  k_with "exec While Name cons nil" => refine held ?_
  k_with "subscriptTail Name Name ref int" => refine held ?_
  k_with "subscriptTail Name BinOp ref int" => refine held ?_
  k_with "subscriptTail Name Constant ref int" => refine held ?_
  k_with "call ref" => refine held ?_
  k_steps
  refine Held.out ?_
  unfold Held
  refine item_at (by k_asm) (by k_mem) (by decide) (by decide) e0 ?_
  k_steps
  refine Held.out ?_
  unfold Held
  refine item_at (by k_asm) (by k_mem) (by decide) (by decide) e0 ?_
  k_steps
  refine Held.out ?_
  unfold Held
  rename_i d1 _ l13 lf _ l12 _ _ _ _ d2 _ l11 lh _ l10 _ F1 N1
  have hdb0 : 0 ≤ bx b0 (pT tn 0) ∧ bx b0 (pT tn 0) < 65536 := hDb _ (hDx _ _ hD0 (hDp _ (getD_mem (len_pos4 h4))))
  have hc00 : 0 ≤ cT tn 0 := hc _ (getD_mem (len_pos4 h4))
  have n1 : ∀ q ∈ news, q.1 < d1 := ktn_ltOf l13.2.2
  have n2 : ∀ q ∈ news, q.1 < lf := ktn_ltOf l12.2.2.2
  have n3 : ∀ q ∈ news, q.1 < d2 := ktn_ltOf l11.2.2.2.2
  have n4 : ∀ q ∈ news, q.1 < lh := ktn_ltOf l10.2.2.2.2.2
  have o1 : d1 < lf := l12.1
  have o2 : lf < d2 := l11.1
  have o3 : d2 < lh := l10.1
  clear l13 l12 l11 l10
  have N2 := re4 N1
  refine while_inv (J_nearest tn w0 b0 Dom news lf lh lt) F1 N2 ⟨_, _, _, _, _, [(w0, b0)], [codeK (w0 + cT tn 0) (bx b0 (pT tn 0)) 0], rfl, .cons ⟨d1, _, _, _, rfl, .tail _ (.head _)⟩ .nil, .cons ⟨d2, _, _, w0 + cT tn 0, bx b0 (pT tn 0), 0, rfl, List.mem_append_left _ (List.mem_cons_self ..), .cons _ _ (.cons _ _ (.cons _ _ .nil)), rfl, by (first | lia | omega), hdb0.1, hdb0.2, by (first | lia | omega), by (first | lia | omega)⟩ .nil, NearOk.start hc00 hdb0, ?p3, ?p4, rfl, rfl, rfl, rfl, rfl, trivial⟩ ?_
  case p3 =>
    intro k hk
    rw [List.mem_singleton.mp hk, dec_b hdb0.1 hdb0.2 (by (first | lia | omega)) (by (first | lia | omega))]
    exact hDx _ _ hD0 (hDp _ (getD_mem (len_pos4 h4)))
  case p4 =>
    intro p hp
    rcases List.mem_cons.mp hp with rfl | hp
    · exact ⟨n3, Nat.ne_of_gt o2, Nat.ne_of_lt o3⟩
    · rw [List.mem_singleton.mp hp]
      exact ⟨n1, Nat.ne_of_lt o1, Nat.ne_of_lt (Nat.lt_trans o1 (Nat.lt_trans o2 o3))⟩
  intro n2 m2 nx h2 tk2 hJ F2 N3
  refine' hid fun kG_ => ?_
  obtain ⟨fv, nf, hv, nh, own, fs, xs, rfl, hpf, hth, hok, hdk, hof, hhd, rfl, hkn⟩ := hJ
  refine' kG_ ?_
  clear kG_
  have F3 := fr_knownL hkn F2
  dsimp only [kstB] at F3
  have hlen := hok.len (allSub_len tn w0 b0)
  have hhl := hth.length
  have hvs := len_small hlen.1 hhl
  have hlfh : @Ne Nat lf lh := Nat.ne_of_lt (Nat.lt_trans o2 o3)
  clear F1 N1 N2
  refine' hid fun kG_ => ?_
  obtain ⟨PF, hPF, Fm⟩ : ∃ P : Prop, (P → Fr _ _ h2 m2) ∧ P := ⟨_, id, F2⟩
  refine' kG_ ?_
  clear kG_
  clear F2
  show wpAny _ _ _ _ _ _
  try k_fold
  k_with_none
  k_with "ne" => (refine neN ?_; (try dsimp only); with_reducible first | assumption | exact Ne.symm (by assumption) | exact ne1 | exact ne1.symm | exact ne2 | exact ne2.symm | exact ne3 | exact ne3.symm | exact ne4 | exact ne4.symm | exact ne5 | exact ne5.symm | exact nl1 (by assumption) | exact nl2 (by assumption) | exact nl3 (by assumption) | exact (nl1 (by assumption)).symm | exact (nl2 (by assumption)).symm | exact (nl3 (by assumption)).symm | exact Nat.ne_of_lt (by assumption) | exact Nat.ne_of_gt (by assumption) | exact cj1 (by assumption) | exact Ne.symm (cj1 (by assumption)) | exact Nat.ne_of_lt (cj1 (by assumption)) | exact Nat.ne_of_gt (cj1 (by assumption)) | exact cj2 (by assumption) | exact Ne.symm (cj2 (by assumption)) | exact Nat.ne_of_lt (cj2 (by assumption)) | exact Nat.ne_of_gt (cj2 (by assumption)) | exact cj3 (by assumption) | exact Ne.symm (cj3 (by assumption)) | exact Nat.ne_of_lt (cj3 (by assumption)) | exact Nat.ne_of_gt (cj3 (by assumption)) | exact cj4 (by assumption) | exact Ne.symm (cj4 (by assumption)) | exact Nat.ne_of_lt (cj4 (by assumption)) | exact Nat.ne_of_gt (cj4 (by assumption)) | exact cj5 (by assumption) | exact Ne.symm (cj5 (by assumption)) | exact Nat.ne_of_lt (cj5 (by assumption)) | exact Nat.ne_of_gt (cj5 (by assumption)) | exact cj6 (by assumption) | exact Ne.symm (cj6 (by assumption)) | exact Nat.ne_of_lt (cj6 (by assumption)) | exact Nat.ne_of_gt (cj6 (by assumption)) | exact cj7 (by assumption) | exact Ne.symm (cj7 (by assumption)) | exact Nat.ne_of_lt (cj7 (by assumption)) | exact Nat.ne_of_gt (cj7 (by assumption)) | exact cj8 (by assumption) | exact Ne.symm (cj8 (by assumption)) | exact Nat.ne_of_lt (cj8 (by assumption)) | exact Nat.ne_of_gt (cj8 (by assumption)) | exact cj9 (by assumption) | exact Ne.symm (cj9 (by assumption)) | exact Nat.ne_of_lt (cj9 (by assumption)) | exact Nat.ne_of_gt (cj9 (by assumption)) | exact ej5 (by assumption) | exact Ne.symm (ej5 (by assumption)) | exact Nat.ne_of_lt (ej5 (by assumption)) | exact Nat.ne_of_gt (ej5 (by assumption)) | exact ej6 (by assumption) | exact Ne.symm (ej6 (by assumption)) | exact Nat.ne_of_lt (ej6 (by assumption)) | exact Nat.ne_of_gt (ej6 (by assumption)) | exact ej7 (by assumption) | exact Ne.symm (ej7 (by assumption)) | exact Nat.ne_of_lt (ej7 (by assumption)) | exact Nat.ne_of_gt (ej7 (by assumption)) | exact ej8 (by assumption) | exact Ne.symm (ej8 (by assumption)) | exact Nat.ne_of_lt (ej8 (by assumption)) | exact Nat.ne_of_gt (ej8 (by assumption)) | exact ej9 (by assumption) | exact Ne.symm (ej9 (by assumption)) | exact Nat.ne_of_lt (ej9 (by assumption)) | exact Nat.ne_of_gt (ej9 (by assumption)))
  k_with "binaryOp RShift int int" => (k_here; (with_reducible refine shr1 ?_))
  k_with "binaryOp Mod int int" => (k_here; (with_reducible refine mod_pos ?k1 ?_); (case k1 => decide))
  k_with "binaryOp FloorDiv int int" => (k_here; (with_reducible refine fdiv_pos ?k1 ?k2 ?_); (case k1 => decide); (case k2 => decide +kernel))
  k_with "execs cons" => (k_here; first | (k_made; walk_at "execs cons") | k_gentoks | ((with_reducible refine wpAny_execs_cons ?_); (try dsimp only); (try k_fold)))
  k_with "idx" => (first | with_reducible assumption | (first | lia | omega))
  k_with "upd" => (first | (refine' Pick.head ?a; (case a => k_all)) | (refine' Pick.tail ?a ?b; (case a => k_ne); (case b => k_upd)))
  k_with "call builtin:len" => (k_here; k_dflt (refine' len_led ?k1 ?k2 ?k3 ?_; (case k1 => k_asm); (case k2 => k_mem); (case k3 => (first | lia | omega))))
  k_with "truthy ref" => (k_here; k_dflt (refine' truth_led ?k1 ?k2 ?k3 ?_; (case k1 => k_asm); (case k2 => k_mem); (case k3 => (first | lia | omega))))
  k_with "call builtin:list.append" => (k_here; (with_reducible show wpAny _ _ (call (Value.builtin _) [Value.ref _, _]) _ _ _); k_dflt (refine' append_K ?k1 ?k2 ?k3 ?_ ?z; (case k1 => k_asm); (case k2 => k_asm); (case k3 => k_upd); (case z => (rw [sizeLine_eq]; simp only [List.size_toArray]; (first | lia | omega))); k_whole); intro _ _ nN; (try simp only [List.push_toArray] at nN); revert nN; intro _; (try k_sweep))
  k_with "execs cons" => refine held ?_
  k_steps
  · refine Held.out ?_
    unfold Held
    rename News _ _ _ _ => N4
    refine' wpAny_mono (ns_turn ?ho ?hst ?B ?X ?T (hPF Fm) N4 rfl hkn hm hp h4 hDp hDx hDb hc hcs ?hun ?hdp hpf hth hok hdk hof hhd rfl (by assumption) n2 n4 hlfh) (fun f s' h => ?_) fun _ _ e => e
    case ho => k_is
    case hst => exact rfl
    case B => k_asm
    case X => k_asm
    case T => k_asm
    case hun => (first | exact unL2 (by assumption) rfl | exact unL1 (by assumption) rfl | exact unL0 (by assumption) | ktr_units)
    case hdp => (first | exact unL2 (by assumption) rfl | exact unL1 (by assumption) rfl | exact unL0 (by assumption) | ktr_room)
    rw [h.1]
    exact h.2
  · refine Held.out ?_
    unfold Held
    k_with_none
    k_with "ne" => (refine neN ?_; (try dsimp only); with_reducible first | assumption | exact Ne.symm (by assumption) | exact ne1 | exact ne1.symm | exact ne2 | exact ne2.symm | exact ne3 | exact ne3.symm | exact ne4 | exact ne4.symm | exact ne5 | exact ne5.symm | exact nl1 (by assumption) | exact nl2 (by assumption) | exact nl3 (by assumption) | exact (nl1 (by assumption)).symm | exact (nl2 (by assumption)).symm | exact (nl3 (by assumption)).symm | exact Nat.ne_of_lt (by assumption) | exact Nat.ne_of_gt (by assumption) | exact cj1 (by assumption) | exact Ne.symm (cj1 (by assumption)) | exact Nat.ne_of_lt (cj1 (by assumption)) | exact Nat.ne_of_gt (cj1 (by assumption)) | exact cj2 (by assumption) | exact Ne.symm (cj2 (by assumption)) | exact Nat.ne_of_lt (cj2 (by assumption)) | exact Nat.ne_of_gt (cj2 (by assumption)) | exact cj3 (by assumption) | exact Ne.symm (cj3 (by assumption)) | exact Nat.ne_of_lt (cj3 (by assumption)) | exact Nat.ne_of_gt (cj3 (by assumption)) | exact cj4 (by assumption) | exact Ne.symm (cj4 (by assumption)) | exact Nat.ne_of_lt (cj4 (by assumption)) | exact Nat.ne_of_gt (cj4 (by assumption)) | exact cj5 (by assumption) | exact Ne.symm (cj5 (by assumption)) | exact Nat.ne_of_lt (cj5 (by assumption)) | exact Nat.ne_of_gt (cj5 (by assumption)) | exact cj6 (by assumption) | exact Ne.symm (cj6 (by assumption)) | exact Nat.ne_of_lt (cj6 (by assumption)) | exact Nat.ne_of_gt (cj6 (by assumption)) | exact cj7 (by assumption) | exact Ne.symm (cj7 (by assumption)) | exact Nat.ne_of_lt (cj7 (by assumption)) | exact Nat.ne_of_gt (cj7 (by assumption)) | exact cj8 (by assumption) | exact Ne.symm (cj8 (by assumption)) | exact Nat.ne_of_lt (cj8 (by assumption)) | exact Nat.ne_of_gt (cj8 (by assumption)) | exact cj9 (by assumption) | exact Ne.symm (cj9 (by assumption)) | exact Nat.ne_of_lt (cj9 (by assumption)) | exact Nat.ne_of_gt (cj9 (by assumption)) | exact ej5 (by assumption) | exact Ne.symm (ej5 (by assumption)) | exact Nat.ne_of_lt (ej5 (by assumption)) | exact Nat.ne_of_gt (ej5 (by assumption)) | exact ej6 (by assumption) | exact Ne.symm (ej6 (by assumption)) | exact Nat.ne_of_lt (ej6 (by assumption)) | exact Nat.ne_of_gt (ej6 (by assumption)) | exact ej7 (by assumption) | exact Ne.symm (ej7 (by assumption)) | exact Nat.ne_of_lt (ej7 (by assumption)) | exact Nat.ne_of_gt (ej7 (by assumption)) | exact ej8 (by assumption) | exact Ne.symm (ej8 (by assumption)) | exact Nat.ne_of_lt (ej8 (by assumption)) | exact Nat.ne_of_gt (ej8 (by assumption)) | exact ej9 (by assumption) | exact Ne.symm (ej9 (by assumption)) | exact Nat.ne_of_lt (ej9 (by assumption)) | exact Nat.ne_of_gt (ej9 (by assumption)))
    k_with "binaryOp RShift int int" => (k_here; (with_reducible refine shr1 ?_))
    k_with "binaryOp Mod int int" => (k_here; (with_reducible refine mod_pos ?k1 ?_); (case k1 => decide))
    k_with "binaryOp FloorDiv int int" => (k_here; (with_reducible refine fdiv_pos ?k1 ?k2 ?_); (case k1 => decide); (case k2 => decide +kernel))
    k_with "execs cons" => (k_here; first | (k_made; walk_at "execs cons") | k_gentoks | ((with_reducible refine wpAny_execs_cons ?_); (try dsimp only); (try k_fold)))
    k_with "idx" => (first | with_reducible assumption | (first | lia | omega))
    k_with "upd" => (first | (refine' Pick.head ?a; (case a => k_all)) | (refine' Pick.tail ?a ?b; (case a => k_ne); (case b => k_upd)))
    k_with "call builtin:len" => (k_here; k_dflt (refine' len_led ?k1 ?k2 ?k3 ?_; (case k1 => k_asm); (case k2 => k_mem); (case k3 => (first | lia | omega))))
    k_with "truthy ref" => (k_here; k_dflt (refine' truth_led ?k1 ?k2 ?k3 ?_; (case k1 => k_asm); (case k2 => k_mem); (case k3 => (first | lia | omega))))
    k_with "call builtin:list.append" => (k_here; (with_reducible show wpAny _ _ (call (Value.builtin _) [Value.ref _, _]) _ _ _); k_dflt (refine' append_K ?k1 ?k2 ?k3 ?_ ?z; (case k1 => k_asm); (case k2 => k_asm); (case k3 => k_upd); (case z => (rw [sizeLine_eq]; simp only [List.size_toArray]; (first | lia | omega))); k_whole); intro _ _ nN; (try simp only [List.push_toArray] at nN); revert nN; intro _; (try k_sweep))
    k_steps
    have hx0 : xs = [] := List.eq_nil_of_length_eq_zero (zero_len hhl (by assumption))
    have hpe := hok.perm
    rw [hx0] at hpe
    simp only [List.flatMap_nil, List.append_nil] at hpe
    rename News h₀ _ _ _ => N9
    exact hret _ _ _ _ _ own _ (by k_asm) (fun p hp => N9 p (by
      rcases List.mem_cons.mp hp with h | h
      · exact h ▸ List.mem_cons_self ..
      · exact List.mem_cons_of_mem _ (List.mem_cons_of_mem _ h))) n2 (fun p hp => (hof p hp).1) hpf hpe hok.sorted hhd
end

end
section
/-! _law_apart -/
noncomputable def absI (d : Int) : Int := if d < 0 then -d else d
noncomputable def ringF (x y r : Str) : Int :=
  if 4 - absI (Txt.find r (Txt.item x 2) - Txt.find r (Txt.item y 2)) < absI (Txt.find r (Txt.item x 2) - Txt.find r (Txt.item y 2)) then 4 - absI (Txt.find r (Txt.item x 2) - Txt.find r (Txt.item y 2)) else absI (Txt.find r (Txt.item x 2) - Txt.find r (Txt.item y 2))
noncomputable def difF (x y : Str) (i : Nat) : Int := if (Txt.item x (0 + (i : Int)) != Txt.item y (0 + (i : Int))) = true then 1 else 0
noncomputable def cntF (x y : Str) : Nat → Int
  | 0 => 0
  | i + 1 => cntF x y i + difF x y i
noncomputable def apF (x y r : Str) : Int := ringF x y r + cntF x y 2
section
variable {prog : Program} {w : World} {A : Around} {E : Value → Shared → Prop} {s : Shared} {Q : Value → Shared → Prop}
theorem index_ok {x y : Str} {t u : Tok} (hA : A.handled = none) (h0 : 0 ≤ Txt.find x y) (h : Q (.int (Txt.find x y) s.toks) { s with toks := s.toks + 1 }) : wpAny (model prog w) A (call (.builtin "str.index") [.str x t, .str y u]) Q E s :=
  index_or hA (fun e => absurd h0 (by (first | lia | omega))) fun _ _ => h
end
noncomputable abbrev J_apart (news : List (Addr × Obj)) (x y r : Str) (t0 t1 : Tok) (i : Nat) (m' : Str → Option Value) (nx : List (Addr × Obj)) : Prop := nx = news ∧ ∃ v t, v = ringF x y r + cntF x y i ∧ KnownAll m' [(Str.ofString "one", .str x t0), (Str.ofString "other", .str y t1), (Str.ofString "steps", .int v t)]
section
variable {w : World} {mean : ExcName → Option Value} {mg mb : Str → Option Value} {dp un : Nat} {gd : Option (List Code)} {cn : Str} {cs : Scope} {a : Addr} {ccd : Value} {cl : List (Str × Addr)} {outer : List Env} {A₀ : Around} {base h₀ : Heap} {L : Addr} {m : Str → Option Value} {s : Shared} {Q E : Value → Shared → Prop}

set_option maxHeartbeats 1000000 in
theorem apart_tells {news : List (Addr × Obj)} {x y r : Str} {t0 t1 t2 : Tok}
    (B : Below A₀ base outer h₀) (F : Fr h₀ L s.heap m) (X : (hd.heap_39 w.params).In h₀) (N : News h₀ L s.heap news) (T : Top hd.view_39 lz mean mg mb h₀) (hk : cs.kind = .function)
    (hx : x.length = 3) (hy : y.length = 3) (h1 : 0 ≤ Txt.find r (Txt.item x 2)) (h2 : 0 ≤ Txt.find r (Txt.item y 2))
    (hdp : dp + 1 < recursionLimit) (hun : un + 8 < cLine)
    (hret : ∀ h' tk' t' v, Fr h₀ L h' m → News h₀ L h' news → v = apF x y r → Q (.int v t') { s with heap := h', toks := tk' }) :
    wpAny (model prg w) (ktrTop dp un gd cn cs L a ccd cl outer) (call (.ref 123) [.str x t0, .str y t1, .str r t2]) Q E s := by
  revert X; unfold prg; w_top off; k_fill; intro X
  refine wpAny_call ?_
  k_dflt cell_enter
  k_with_none
  k_with "ne" => (refine neN ?_; (try dsimp only); with_reducible first | assumption | exact Ne.symm (by assumption) | exact ne1 | exact ne1.symm | exact ne2 | exact ne2.symm | exact ne3 | exact ne3.symm | exact ne4 | exact ne4.symm | exact ne5 | exact ne5.symm | exact nl1 (by assumption) | exact nl2 (by assumption) | exact nl3 (by assumption) | exact (nl1 (by assumption)).symm | exact (nl2 (by assumption)).symm | exact (nl3 (by assumption)).symm | exact Nat.ne_of_lt (by assumption) | exact Nat.ne_of_gt (by assumption) | exact cj1 (by assumption) | exact Ne.symm (cj1 (by assumption)) | exact Nat.ne_of_lt (cj1 (by assumption)) | exact Nat.ne_of_gt (cj1 (by assumption)) | exact cj2 (by assumption) | exact Ne.symm (cj2 (by assumption)) | exact Nat.ne_of_lt (cj2 (by assumption)) | exact Nat.ne_of_gt (cj2 (by assumption)) | exact cj3 (by assumption) | exact Ne.symm (cj3 (by assumption)) | exact Nat.ne_of_lt (cj3 (by assumption)) | exact Nat.ne_of_gt (cj3 (by assumption)) | exact cj4 (by assumption) | exact Ne.symm (cj4 (by assumption)) | exact Nat.ne_of_lt (cj4 (by assumption)) | exact Nat.ne_of_gt (cj4 (by assumption)) | exact cj5 (by assumption) | exact Ne.symm (cj5 (by assumption)) | exact Nat.ne_of_lt (cj5 (by assumption)) | exact Nat.ne_of_gt (cj5 (by assumption)) | exact cj6 (by assumption) | exact Ne.symm (cj6 (by assumption)) | exact Nat.ne_of_lt (cj6 (by assumption)) | exact Nat.ne_of_gt (cj6 (by assumption)) | exact cj7 (by assumption) | exact Ne.symm (cj7 (by assumption)) | exact Nat.ne_of_lt (cj7 (by assumption)) | exact Nat.ne_of_gt (cj7 (by assumption)) | exact cj8 (by assumption) | exact Ne.symm (cj8 (by assumption)) | exact Nat.ne_of_lt (cj8 (by assumption)) | exact Nat.ne_of_gt (cj8 (by assumption)) | exact cj9 (by assumption) | exact Ne.symm (cj9 (by assumption)) | exact Nat.ne_of_lt (cj9 (by assumption)) | exact Nat.ne_of_gt (cj9 (by assumption)) | exact ej5 (by assumption) | exact Ne.symm (ej5 (by assumption)) | exact Nat.ne_of_lt (ej5 (by assumption)) | exact Nat.ne_of_gt (ej5 (by assumption)) | exact ej6 (by assumption) | exact Ne.symm (ej6 (by assumption)) | exact Nat.ne_of_lt (ej6 (by assumption)) | exact Nat.ne_of_gt (ej6 (by assumption)) | exact ej7 (by assumption) | exact Ne.symm (ej7 (by assumption)) | exact Nat.ne_of_lt (ej7 (by assumption)) | exact Nat.ne_of_gt (ej7 (by assumption)) | exact ej8 (by assumption) | exact Ne.symm (ej8 (by assumption)) | exact Nat.ne_of_lt (ej8 (by assumption)) | exact Nat.ne_of_gt (ej8 (by assumption)) | exact ej9 (by assumption) | exact Ne.symm (ej9 (by assumption)) | exact Nat.ne_of_lt (ej9 (by assumption)) | exact Nat.ne_of_gt (ej9 (by assumption)))
  k_with "binaryOp RShift int int" => (k_here; (with_reducible refine shr1 ?_))
  k_with "binaryOp Mod int int" => (k_here; (with_reducible refine mod_pos ?k1 ?_); (case k1 => decide))
  k_with "binaryOp FloorDiv int int" => (k_here; (with_reducible refine fdiv_pos ?k1 ?k2 ?_); (case k1 => decide); (case k2 => decide +kernel))
  k_with "call ref" => (k_here; refine wpAny_call ?_; k_dflt (refine' code_def ?k1 ?k2 ?k3 ?k4 ?k5 ?kA ?kF ?kK ?k6 ?k7 ?k8 ?k9 ?kB ?_ ?c2 ?c3 ?c4 ?c5; (case kA => exact rfl); (case kF => exact rfl); (case kK => first | exact rfl | assumption); (case k1 => k_asm); (case k2 => k_asm); (case k3 => k_asm); (case k4 => k_asm); (case k5 => k_asm); (case k6 => k_is); (case k7 => k_is); (case k8 => (first | exact unL2 (by assumption) rfl | exact unL1 (by assumption) rfl | exact unL0 (by assumption) | ktr_room)); (case k9 => exact BindsTo.of_eq rfl); (case c5 => decide); (case kB => exact locs rfl); (case c2 => exact rfl); (case c3 => exact rfl); (case c4 => exact rfl); k_whole; intro g' L' h' FG' F' N' B' X' T'; (try dsimp only); (try k_lift B'); (try k_fold)))
  k_with "execs cons" => (k_here; first | (k_made; walk_at "execs cons") | k_gentoks | ((with_reducible refine wpAny_execs_cons ?_); (try dsimp only); (try k_fold)))
  k_with "idx" => (first | with_reducible assumption | (first | lia | omega))
  k_with "upd" => (first | (refine' Pick.head ?a; (case a => k_all)) | (refine' Pick.tail ?a ?b; (case a => k_ne); (case b => k_upd)))
  k_with "call builtin:str.index" => (k_here; (refine index_ok rfl (by assumption) ?_))
  k_with "subscriptTail Name Name str int" => (k_here; (refine item_str ?k1 ?k2 ?k3 ?_); (case k1 => decide); (case k2 => (first | lia | omega)); (case k3 => (first | lia | omega)); intro _)
  k_with "subscriptTail Name Constant str int" => (k_here; (refine item_str ?k1 ?k2 ?k3 ?_); (case k1 => decide); (case k2 => (first | lia | omega)); (case k3 => (first | lia | omega)); intro _)
  k_with "pyIter ref" => refine held ?_
  k_steps
  refine Held.out ?_
  unfold Held
  rename IsRange _ _ _ _ _ _ _ _ => rgX
  rename Fr _ _ _ _ => F1
  rename News _ _ _ _ => N1
  refine range_inv (n := 2) (J_apart news x y r t0 t1) rfl rgX (by decide) (by rfl) F1 N1 ⟨rfl, _, _, (by simp only [cntF, Int.add_zero]; rfl), rfl, rfl, rfl, trivial⟩ ?_ ?_
  · intro i t m₁ nx h3 tk3 own hi _ hoff hJ F3 N3
    refine' hid fun kG_ => ?_
    obtain ⟨rfl, v, t9, hv, hkn⟩ := hJ
    refine' kG_ ?_
    clear kG_
    have F4 := fr_knownX hkn F3
    dsimp only [kstB] at F4
    clear F3 F1 N1
    k_steps
    · try dsimp only
      refine TEnd.intro (nx := nx) (by k_asm) (by k_asm) ⟨rfl, _, _, ?e, rfl, rfl, rfl, trivial⟩ rfl (fun p hp => List.mem_append_left _ hp) (fun p hp => List.mem_append_right _ hp)
      rename (_ != _) = true => hq
      simp only [cntF, difF, hq, if_true, hv]
      (first | lia | omega)
    · try dsimp only
      refine TEnd.intro (nx := nx) (by k_asm) (by k_asm) ⟨rfl, _, _, ?e2, rfl, rfl, rfl, trivial⟩ rfl (fun p hp => List.mem_append_left _ hp) (fun p hp => List.mem_append_right _ hp)
      rename (_ != _) = false => hq
      simp only [cntF, difF, hq, Bool.false_eq_true, if_false, hv]
      (first | lia | omega)
  · intro m₁ nx h3 tk3 hJ F3 N3
    refine' hid fun kG_ => ?_
    obtain ⟨rfl, v, t9, hv, hkn⟩ := hJ
    refine' kG_ ?_
    clear kG_
    have F4 := fr_knownL hkn F3
    dsimp only [kstB] at F4
    clear F3 F1 N1
    k_steps
    exact hret _ _ _ _ (by k_asm) (by k_asm) hv
end

end
section
/-! _law_choices -/
noncomputable def chF (ps : List Int) : List Int := ps.foldl (fun c p => c ++ c.map (fun k => k + p)) [0]
theorem chF_snoc (ps : List Int) (p : Int) : chF (ps ++ [p]) = chF ps ++ (chF ps).map (fun k => k + p) := by
  simp [chF]
theorem chF_take {ps : List Int} {i : Nat} {k : Int} (h : ps[i]? = some k) : chF (ps.take (i + 1)) = chF (ps.take i) ++ (chF (ps.take i)).map (fun q => q + k) := by
  rw [List.take_add_one, h]
  exact chF_snoc _ _
theorem chF_len : ∀ (n : Nat) (ps : List Int), ps.length = n → (chF ps).length = 2 ^ n
  | 0, ps, h => by
    have : ps = [] := List.eq_nil_of_length_eq_zero h
    subst this; rfl
  | n + 1, ps, h => by
    have hne : ps ≠ [] := by intro e; subst e; simp at h
    rw [← List.dropLast_concat_getLast hne, chF_snoc]
    have := chF_len n ps.dropLast (by simp [h])
    simp only [List.length_append, List.length_map, this, Nat.pow_succ]
    (first | lia | omega)
theorem chF_le {ps : List Int} (h : ps.length ≤ 4) : (chF ps).length ≤ 16 := by
  rw [chF_len _ ps rfl]
  exact Nat.le_trans (Nat.pow_le_pow_right (by decide) h) (by decide)
theorem re_ch {p1 p2 p3 p4 p5 : Addr × Obj} {r : List (Addr × Obj)} : ∀ p ∈ p3 :: p1 :: p5 :: r, p ∈ p1 :: p2 :: p3 :: p4 :: p5 :: r := fun p hp => by
  simp only [List.mem_cons] at hp ⊢
  rcases hp with h | h | h | h <;> simp [h]
inductive J_choices (L' : Addr) (news : List (Addr × Obj)) (ps : List Int) (i : Nat) (m' : Str → Option Value) (nx : List (Addr × Obj)) : Prop
  | mk (oc vc lc cv cnn xs : _) (_ : nx = (lc, W.listOf cv.toArray cnn) :: (L' + 1, oc) :: news) (_ : oc.data = Data.cell vc) (_ : IntsAre cv xs) (_ : xs = chF (ps.take i)) (_ : (∀ q ∈ news, q.1 < lc)) (_ : @LT.lt Nat _ (L' + 1) lc) (_ : KnownAll m' [(Str.ofString "choices", .ref lc)])
section
variable {w : World} {mean : ExcName → Option Value} {mg mb : Str → Option Value} {dp un : Nat} {gd : Option (List Code)} {cn : Str} {cs : Scope} {a : Addr} {ccd : Value} {cl : List (Str × Addr)} {outer : List Env} {A₀ : Around} {base h₀ : Heap} {L : Addr} {m : Str → Option Value} {s : Shared} {Q E : Value → Shared → Prop}

set_option maxHeartbeats 1000000 in
theorem choices_tells {lp : Addr} {vs : List Value} {n : Nat} {ps : List Int} {news : List (Addr × Obj)}
    (B : Below A₀ base outer h₀) (F : Fr h₀ L s.heap m) (X : (hd.heap_39 w.params).In h₀) (N : News h₀ L s.heap news) (T : Top hd.view_39 lz mean mg mb h₀) (hk : cs.kind = .function)
    (hm : (lp, listOf vs.toArray n) ∈ news) (hi : IntsAre vs ps) (h4 : ps.length ≤ 4)
    (hdp : dp + 2 < recursionLimit) (hun : un + 16 < cLine)
    (hret : ∀ h' tk' D vs' c ys, Fr h₀ L h' m → News h₀ L h' ((D, listOf vs'.toArray c) :: news) → (∀ q ∈ news, q.1 < D) → IntsAre vs' ys → ys.Perm (chF ps) → ys.Pairwise (· ≤ ·) → Q (.ref D) { s with heap := h', toks := tk' }) :
    wpAny (model prg w) (ktrTop dp un gd cn cs L a ccd cl outer) (call (.ref 135) [.ref lp]) Q E s := by
  have hvl := hi.length
  revert X; unfold prg; w_top off; k_fill; intro X
  refine wpAny_call ?_
  k_dflt (refine' code_defC ?k1 ?k2 ?k3 ?k4 ?k5 ?kA ?kF ?kK ?k6 ?k7 ?k8 ?k9 ?kB ?kD ?_ ?c2 ?c3 ?c4; (case kA => exact rfl); (case kF => exact rfl); (case kK => assumption); (case k1 => k_asm); (case k2 => k_asm); (case k3 => k_asm); (case k4 => k_asm); (case k5 => k_asm); (case k6 => k_is); (case k7 => k_is); (case k8 => (first | exact unL2 (by assumption) rfl | exact unL1 (by assumption) rfl | exact unL0 (by assumption) | ktr_room)); (case k9 => exact BindsTo.of_eq rfl); (case kB => exact rfl); (case kD => decide +kernel); (case c2 => exact rfl); (case c3 => exact rfl); (case c4 => exact rfl); k_whole; intro g' L' h' tk' cells' FG' F' N' Y' B' X' T' l1; k_cells Y'; (try simp only [List.cons_append, List.nil_append] at N'); (try dsimp only); (try k_lift B'); (try k_fold))
  k_with_none
  k_with "ne" => (refine neN ?_; (try dsimp only); with_reducible first | assumption | exact Ne.symm (by assumption) | exact ne1 | exact ne1.symm | exact ne2 | exact ne2.symm | exact ne3 | exact ne3.symm | exact ne4 | exact ne4.symm | exact ne5 | exact ne5.symm | exact nl1 (by assumption) | exact nl2 (by assumption) | exact nl3 (by assumption) | exact (nl1 (by assumption)).symm | exact (nl2 (by assumption)).symm | exact (nl3 (by assumption)).symm | exact Nat.ne_of_lt (by assumption) | exact Nat.ne_of_gt (by assumption) | exact cj1 (by assumption) | exact Ne.symm (cj1 (by assumption)) | exact Nat.ne_of_lt (cj1 (by assumption)) | exact Nat.ne_of_gt (cj1 (by assumption)) | exact cj2 (by assumption) | exact Ne.symm (cj2 (by assumption)) | exact Nat.ne_of_lt (cj2 (by assumption)) | exact Nat.ne_of_gt (cj2 (by assumption)) | exact cj3 (by assumption) | exact Ne.symm (cj3 (by assumption)) | exact Nat.ne_of_lt (cj3 (by assumption)) | exact Nat.ne_of_gt (cj3 (by assumption)) | exact cj4 (by assumption) | exact Ne.symm (cj4 (by assumption)) | exact Nat.ne_of_lt (cj4 (by assumption)) | exact Nat.ne_of_gt (cj4 (by assumption)) | exact cj5 (by assumption) | exact Ne.symm (cj5 (by assumption)) | exact Nat.ne_of_lt (cj5 (by assumption)) | exact Nat.ne_of_gt (cj5 (by assumption)) | exact cj6 (by assumption) | exact Ne.symm (cj6 (by assumption)) | exact Nat.ne_of_lt (cj6 (by assumption)) | exact Nat.ne_of_gt (cj6 (by assumption)) | exact cj7 (by assumption) | exact Ne.symm (cj7 (by assumption)) | exact Nat.ne_of_lt (cj7 (by assumption)) | exact Nat.ne_of_gt (cj7 (by assumption)) | exact cj8 (by assumption) | exact Ne.symm (cj8 (by assumption)) | exact Nat.ne_of_lt (cj8 (by assumption)) | exact Nat.ne_of_gt (cj8 (by assumption)) | exact cj9 (by assumption) | exact Ne.symm (cj9 (by assumption)) | exact Nat.ne_of_lt (cj9 (by assumption)) | exact Nat.ne_of_gt (cj9 (by assumption)) | exact ej5 (by assumption) | exact Ne.symm (ej5 (by assumption)) | exact Nat.ne_of_lt (ej5 (by assumption)) | exact Nat.ne_of_gt (ej5 (by assumption)) | exact ej6 (by assumption) | exact Ne.symm (ej6 (by assumption)) | exact Nat.ne_of_lt (ej6 (by assumption)) | exact Nat.ne_of_gt (ej6 (by assumption)) | exact ej7 (by assumption) | exact Ne.symm (ej7 (by assumption)) | exact Nat.ne_of_lt (ej7 (by assumption)) | exact Nat.ne_of_gt (ej7 (by assumption)) | exact ej8 (by assumption) | exact Ne.symm (ej8 (by assumption)) | exact Nat.ne_of_lt (ej8 (by assumption)) | exact Nat.ne_of_gt (ej8 (by assumption)) | exact ej9 (by assumption) | exact Ne.symm (ej9 (by assumption)) | exact Nat.ne_of_lt (ej9 (by assumption)) | exact Nat.ne_of_gt (ej9 (by assumption)))
  k_with "binaryOp RShift int int" => (k_here; (with_reducible refine shr1 ?_))
  k_with "binaryOp Mod int int" => (k_here; (with_reducible refine mod_pos ?k1 ?_); (case k1 => decide))
  k_with "binaryOp FloorDiv int int" => (k_here; (with_reducible refine fdiv_pos ?k1 ?k2 ?_); (case k1 => decide); (case k2 => decide +kernel))
  k_with "call ref" => (k_here; refine wpAny_call ?_; k_dflt (refine' code_def ?k1 ?k2 ?k3 ?k4 ?k5 ?kA ?kF ?kK ?k6 ?k7 ?k8 ?k9 ?kB ?_ ?c2 ?c3 ?c4 ?c5; (case kA => exact rfl); (case kF => exact rfl); (case kK => first | exact rfl | assumption); (case k1 => k_asm); (case k2 => k_asm); (case k3 => k_asm); (case k4 => k_asm); (case k5 => k_asm); (case k6 => k_is); (case k7 => k_is); (case k8 => (first | exact unL2 (by assumption) rfl | exact unL1 (by assumption) rfl | exact unL0 (by assumption) | ktr_room)); (case k9 => exact BindsTo.of_eq rfl); (case c5 => decide); (case kB => exact locs rfl); (case c2 => exact rfl); (case c3 => exact rfl); (case c4 => exact rfl); k_whole; intro g' L' h' FG' F' N' B' X' T'; (try dsimp only); (try k_lift B'); (try k_fold)))
  k_with "execs cons" => (k_here; first | (k_made; walk_at "execs cons") | k_gentoks | ((with_reducible refine wpAny_execs_cons ?_); (try dsimp only); (try k_fold)))
  k_with "idx" => (first | with_reducible assumption | (first | lia | omega))
  k_with "upd" => (first | (refine' Pick.head ?a; (case a => k_all)) | (refine' Pick.tail ?a ?b; (case a => k_ne); (case b => k_upd)))
  k_with "exec For Name Name cons nil" => (k_here; (with_unfolding_all refine' For_turns (by k_asm) ?_; k_whole))
  k_with "eval ListComp" => (k_here; k_dflt (refine LCg.ListComp_U (F₀ := by k_asm) (by with_unfolding_all rfl) (by decide) (by rfl) (by decide) (by rfl) ?_))
  k_with "pyIter ref" => refine held ?_
  k_steps
  refine Held.out ?_
  unfold Held
  rename_i oc dc _ _ lc _ l2 _ F1 N1
  have n2 : ∀ q ∈ news, q.1 < lc := ktn_ltOf l2.2
  refine turns_list (J_choices L' news ps) rfl (mem2 hm) F1 N1 ⟨oc, _, lc, _, _, [0], rfl, dc, .cons _ _ .nil, rfl, n2, l2.1, rfl, trivial⟩ ?hkeep ?turn ?done
  case hkeep =>
    intro i m' nx hJ_
    refine' hid fun kG_ => ?_
    obtain ⟨_, _, _, _, _, _, rfl, _⟩ := hJ_
    refine' kG_ ?_
    clear kG_
    exact mem2 hm
  case turn =>
    intro i v m₁ nx h3 tk3 I oI hv hJ hoff F3 N3
    refine' hid fun kG_ => ?_
    obtain ⟨oc2, vc, lc2, cv, cnn, xs, rfl, hdc, hcv, hxs, n3, o3, hkn⟩ := hJ
    obtain ⟨k, t, rfl, hki⟩ := IntsAre.at hi i v hv
    refine' kG_ ?_
    clear kG_
    have F4 := fr_knownL hkn F3
    dsimp only [kstB] at F4
    have hIc : @Ne Nat lc2 I := hoff _ (.head _)
    have hIo : @Ne Nat (L' + 1) I := hoff _ (.tail _ (.head _))
    have hIn : ∀ p ∈ news, p.1 ≠ I := fun p hp => hoff p (mem2 hp)
    have hxl : xs.length ≤ 16 := by rw [hxs]; exact chF_le (by rw [List.length_take]; (first | lia | omega))
    have hcn : ∀ p ∈ news, p.1 ≠ L' + 1 := fun p hp => Nat.ne_of_lt (Nat.lt_succ_of_lt (l1 p hp))
    have hcl : ∀ p ∈ news, p.1 ≠ lc2 := fun p hp => Nat.ne_of_lt (n3 p hp)
    clear F3 F1 N1 dc n2 l2
    k_with_none
    k_with "ne" => (refine neN ?_; (try dsimp only); with_reducible first | assumption | exact Ne.symm (by assumption) | exact ne1 | exact ne1.symm | exact ne2 | exact ne2.symm | exact ne3 | exact ne3.symm | exact ne4 | exact ne4.symm | exact ne5 | exact ne5.symm | exact nl1 (by assumption) | exact nl2 (by assumption) | exact nl3 (by assumption) | exact (nl1 (by assumption)).symm | exact (nl2 (by assumption)).symm | exact (nl3 (by assumption)).symm | exact Nat.ne_of_lt (by assumption) | exact Nat.ne_of_gt (by assumption) | exact cj1 (by assumption) | exact Ne.symm (cj1 (by assumption)) | exact Nat.ne_of_lt (cj1 (by assumption)) | exact Nat.ne_of_gt (cj1 (by assumption)) | exact cj2 (by assumption) | exact Ne.symm (cj2 (by assumption)) | exact Nat.ne_of_lt (cj2 (by assumption)) | exact Nat.ne_of_gt (cj2 (by assumption)) | exact cj3 (by assumption) | exact Ne.symm (cj3 (by assumption)) | exact Nat.ne_of_lt (cj3 (by assumption)) | exact Nat.ne_of_gt (cj3 (by assumption)) | exact cj4 (by assumption) | exact Ne.symm (cj4 (by assumption)) | exact Nat.ne_of_lt (cj4 (by assumption)) | exact Nat.ne_of_gt (cj4 (by assumption)) | exact cj5 (by assumption) | exact Ne.symm (cj5 (by assumption)) | exact Nat.ne_of_lt (cj5 (by assumption)) | exact Nat.ne_of_gt (cj5 (by assumption)) | exact cj6 (by assumption) | exact Ne.symm (cj6 (by assumption)) | exact Nat.ne_of_lt (cj6 (by assumption)) | exact Nat.ne_of_gt (cj6 (by assumption)) | exact cj7 (by assumption) | exact Ne.symm (cj7 (by assumption)) | exact Nat.ne_of_lt (cj7 (by assumption)) | exact Nat.ne_of_gt (cj7 (by assumption)) | exact cj8 (by assumption) | exact Ne.symm (cj8 (by assumption)) | exact Nat.ne_of_lt (cj8 (by assumption)) | exact Nat.ne_of_gt (cj8 (by assumption)) | exact cj9 (by assumption) | exact Ne.symm (cj9 (by assumption)) | exact Nat.ne_of_lt (cj9 (by assumption)) | exact Nat.ne_of_gt (cj9 (by assumption)) | exact ej5 (by assumption) | exact Ne.symm (ej5 (by assumption)) | exact Nat.ne_of_lt (ej5 (by assumption)) | exact Nat.ne_of_gt (ej5 (by assumption)) | exact ej6 (by assumption) | exact Ne.symm (ej6 (by assumption)) | exact Nat.ne_of_lt (ej6 (by assumption)) | exact Nat.ne_of_gt (ej6 (by assumption)) | exact ej7 (by assumption) | exact Ne.symm (ej7 (by assumption)) | exact Nat.ne_of_lt (ej7 (by assumption)) | exact Nat.ne_of_gt (ej7 (by assumption)) | exact ej8 (by assumption) | exact Ne.symm (ej8 (by assumption)) | exact Nat.ne_of_lt (ej8 (by assumption)) | exact Nat.ne_of_gt (ej8 (by assumption)) | exact ej9 (by assumption) | exact Ne.symm (ej9 (by assumption)) | exact Nat.ne_of_lt (ej9 (by assumption)) | exact Nat.ne_of_gt (ej9 (by assumption)))
    k_with "binaryOp RShift int int" => (k_here; (with_reducible refine shr1 ?_))
    k_with "binaryOp Mod int int" => (k_here; (with_reducible refine mod_pos ?k1 ?_); (case k1 => decide))
    k_with "binaryOp FloorDiv int int" => (k_here; (with_reducible refine fdiv_pos ?k1 ?k2 ?_); (case k1 => decide); (case k2 => decide +kernel))
    k_with "call ref" => (k_here; refine wpAny_call ?_; k_dflt (refine' code_def ?k1 ?k2 ?k3 ?k4 ?k5 ?kA ?kF ?kK ?k6 ?k7 ?k8 ?k9 ?kB ?_ ?c2 ?c3 ?c4 ?c5; (case kA => exact rfl); (case kF => exact rfl); (case kK => first | exact rfl | assumption); (case k1 => k_asm); (case k2 => k_asm); (case k3 => k_asm); (case k4 => k_asm); (case k5 => k_asm); (case k6 => k_is); (case k7 => k_is); (case k8 => (first | exact unL2 (by assumption) rfl | exact unL1 (by assumption) rfl | exact unL0 (by assumption) | ktr_room)); (case k9 => exact BindsTo.of_eq rfl); (case c5 => decide); (case kB => exact locs rfl); (case c2 => exact rfl); (case c3 => exact rfl); (case c4 => exact rfl); k_whole; intro g' L' h' FG' F' N' B' X' T'; (try dsimp only); (try k_lift B'); (try k_fold)))
    k_with "execs cons" => (k_here; first | (k_made; walk_at "execs cons") | k_gentoks | ((with_reducible refine wpAny_execs_cons ?_); (try dsimp only); (try k_fold)))
    k_with "idx" => (first | with_reducible assumption | (first | lia | omega))
    k_with "upd" => (first | (refine' Pick.head ?a; (case a => k_all)) | (refine' Pick.tail ?a ?b; (case a => k_ne); (case b => k_upd)))
    k_with "exec For Name Name cons nil" => (k_here; (with_unfolding_all refine' For_turns (by k_asm) ?_; k_whole))
    k_with "eval ListComp" => (k_here; k_dflt (refine LCg.ListComp_U (F₀ := by k_asm) (by with_unfolding_all rfl) (by decide) (by rfl) (by decide) (by rfl) ?_))
    k_with "CompSrc" => (refine LCg.CompSrc.ledger (by rfl) (by k_asm) (by k_asm) (by k_mem) (by kcf_size) ?_; intro g'; (refine' kcf_list _ (by first | assumption | l_ints) (fun k' t' I' oI' C' oC' D' m' ys' h' tk' E' hk' hC' hx' F' N' off' ne' hMark' => ?_) ?_); (all_goals (try (simp only [LCg.Off3, and_true] at off'))); kcf_last)
    k_steps
    try dsimp only
    rename_i D1 _ _ _ D2 _ _ _ l8 _ _ _
    refine TurnEnd.intro (nx := (D2, _) :: (L' + 1, _) :: news) (by k_asm) (by k_asm) re_ch ?ho ⟨_, _, D2, _, _, _, rfl, by assumption, by assumption, ?e, ktn_ltOf l8.2.2.2.2, l8.2.2.2.1, rfl, trivial⟩
    case ho =>
      intro p hp
      rcases List.mem_cons.mp hp with rfl | hp
      · exact Nat.ne_of_gt l8.2.1
      · rcases List.mem_cons.mp hp with rfl | hp
        · exact hIo
        · exact hIn p hp
    case e => rw [chF_take hki, hxs]
  case done =>
    intro m₁ nx h3 tk3 hJ F3 N3
    refine' hid fun kG_ => ?_
    obtain ⟨oc2, vc, lc2, cv, cnn, xs, rfl, hdc, hcv, hxs, n3, o3, hkn⟩ := hJ
    refine' kG_ ?_
    clear kG_
    have F4 := fr_knownL hkn F3
    dsimp only [kstB] at F4
    clear F3 F1 N1 dc n2 l2
    k_with_none
    k_with "ne" => (refine neN ?_; (try dsimp only); with_reducible first | assumption | exact Ne.symm (by assumption) | exact ne1 | exact ne1.symm | exact ne2 | exact ne2.symm | exact ne3 | exact ne3.symm | exact ne4 | exact ne4.symm | exact ne5 | exact ne5.symm | exact nl1 (by assumption) | exact nl2 (by assumption) | exact nl3 (by assumption) | exact (nl1 (by assumption)).symm | exact (nl2 (by assumption)).symm | exact (nl3 (by assumption)).symm | exact Nat.ne_of_lt (by assumption) | exact Nat.ne_of_gt (by assumption) | exact cj1 (by assumption) | exact Ne.symm (cj1 (by assumption)) | exact Nat.ne_of_lt (cj1 (by assumption)) | exact Nat.ne_of_gt (cj1 (by assumption)) | exact cj2 (by assumption) | exact Ne.symm (cj2 (by assumption)) | exact Nat.ne_of_lt (cj2 (by assumption)) | exact Nat.ne_of_gt (cj2 (by assumption)) | exact cj3 (by assumption) | exact Ne.symm (cj3 (by assumption)) | exact Nat.ne_of_lt (cj3 (by assumption)) | exact Nat.ne_of_gt (cj3 (by assumption)) | exact cj4 (by assumption) | exact Ne.symm (cj4 (by assumption)) | exact Nat.ne_of_lt (cj4 (by assumption)) | exact Nat.ne_of_gt (cj4 (by assumption)) | exact cj5 (by assumption) | exact Ne.symm (cj5 (by assumption)) | exact Nat.ne_of_lt (cj5 (by assumption)) | exact Nat.ne_of_gt (cj5 (by assumption)) | exact cj6 (by assumption) | exact Ne.symm (cj6 (by assumption)) | exact Nat.ne_of_lt (cj6 (by assumption)) | exact Nat.ne_of_gt (cj6 (by assumption)) | exact cj7 (by assumption) | exact Ne.symm (cj7 (by assumption)) | exact Nat.ne_of_lt (cj7 (by assumption)) | exact Nat.ne_of_gt (cj7 (by assumption)) | exact cj8 (by assumption) | exact Ne.symm (cj8 (by assumption)) | exact Nat.ne_of_lt (cj8 (by assumption)) | exact Nat.ne_of_gt (cj8 (by assumption)) | exact cj9 (by assumption) | exact Ne.symm (cj9 (by assumption)) | exact Nat.ne_of_lt (cj9 (by assumption)) | exact Nat.ne_of_gt (cj9 (by assumption)) | exact ej5 (by assumption) | exact Ne.symm (ej5 (by assumption)) | exact Nat.ne_of_lt (ej5 (by assumption)) | exact Nat.ne_of_gt (ej5 (by assumption)) | exact ej6 (by assumption) | exact Ne.symm (ej6 (by assumption)) | exact Nat.ne_of_lt (ej6 (by assumption)) | exact Nat.ne_of_gt (ej6 (by assumption)) | exact ej7 (by assumption) | exact Ne.symm (ej7 (by assumption)) | exact Nat.ne_of_lt (ej7 (by assumption)) | exact Nat.ne_of_gt (ej7 (by assumption)) | exact ej8 (by assumption) | exact Ne.symm (ej8 (by assumption)) | exact Nat.ne_of_lt (ej8 (by assumption)) | exact Nat.ne_of_gt (ej8 (by assumption)) | exact ej9 (by assumption) | exact Ne.symm (ej9 (by assumption)) | exact Nat.ne_of_lt (ej9 (by assumption)) | exact Nat.ne_of_gt (ej9 (by assumption)))
    k_with "binaryOp RShift int int" => (k_here; (with_reducible refine shr1 ?_))
    k_with "binaryOp Mod int int" => (k_here; (with_reducible refine mod_pos ?k1 ?_); (case k1 => decide))
    k_with "binaryOp FloorDiv int int" => (k_here; (with_reducible refine fdiv_pos ?k1 ?k2 ?_); (case k1 => decide); (case k2 => decide +kernel))
    k_with "call ref" => (k_here; refine wpAny_call ?_; k_dflt (refine' code_def ?k1 ?k2 ?k3 ?k4 ?k5 ?kA ?kF ?kK ?k6 ?k7 ?k8 ?k9 ?kB ?_ ?c2 ?c3 ?c4 ?c5; (case kA => exact rfl); (case kF => exact rfl); (case kK => first | exact rfl | assumption); (case k1 => k_asm); (case k2 => k_asm); (case k3 => k_asm); (case k4 => k_asm); (case k5 => k_asm); (case k6 => k_is); (case k7 => k_is); (case k8 => (first | exact unL2 (by assumption) rfl | exact unL1 (by assumption) rfl | exact unL0 (by assumption) | ktr_room)); (case k9 => exact BindsTo.of_eq rfl); (case c5 => decide); (case kB => exact locs rfl); (case c2 => exact rfl); (case c3 => exact rfl); (case c4 => exact rfl); k_whole; intro g' L' h' FG' F' N' B' X' T'; (try dsimp only); (try k_lift B'); (try k_fold)))
    k_with "execs cons" => (k_here; first | (k_made; walk_at "execs cons") | k_gentoks | ((with_reducible refine wpAny_execs_cons ?_); (try dsimp only); (try k_fold)))
    k_with "idx" => (first | with_reducible assumption | (first | lia | omega))
    k_with "upd" => (first | (refine' Pick.head ?a; (case a => k_all)) | (refine' Pick.tail ?a ?b; (case a => k_ne); (case b => k_upd)))
    k_with "exec For Name Name cons nil" => (k_here; (with_unfolding_all refine' For_turns (by k_asm) ?_; k_whole))
    k_with "eval ListComp" => (k_here; k_dflt (refine LCg.ListComp_U (F₀ := by k_asm) (by with_unfolding_all rfl) (by decide) (by rfl) (by decide) (by rfl) ?_))
    k_with "call builtin:sorted" => refine held ?_
    k_steps
    refine Held.out ?_
    unfold Held
    have hxs2 : xs = chF ps := by rw [hxs, List.take_of_length_le (by (first | lia | omega))]
    have hxl : xs.length ≤ 16 := by rw [hxs2]; exact chF_le h4
    have hcvl := hcv.length
    refine kso_sorted (by k_asm) (by k_asm) (kso_isList (by k_asm) (List.mem_cons_self ..) (by simp)) hcv (by (first | lia | omega)) ?_
    intro D9 vs9 ns9 c9 h9 F9 N9 l9 hI9 hyl9 hp9 ho9 hq9
    k_steps
    exact hret _ _ _ _ _ _ (by k_asm) (cb_drop (by assumption) (List.forall_mem_cons.mpr ⟨by k_mem, fun p hp => by simp [hp]⟩)) (fun q hq => l9 q (mem2 hq)) hI9 (hxs2 ▸ hp9) ho9
end

end
section
/-! _law_between -/
theorem ways_getD (xs : List Int) (i : Nat) (h : i < 10) : ((List.range 10).map fun (j : Nat) => wayG xs (j : Int)).getD i 0 = wayG xs (i : Int) := by
  simp [List.getD, h]
section
variable {w : World} {mean : ExcName → Option Value} {mg mb : Str → Option Value} {dp un : Nat} {gd : Option (List Code)} {cn : Str} {cs : Scope} {a : Addr} {ccd : Value} {cl : List (Str × Addr)} {outer : List Env} {A₀ : Around} {base h₀ : Heap} {L : Addr} {m : Str → Option Value} {s : Shared} {Q E : Value → Shared → Prop}

set_option maxHeartbeats 8000000 in
theorem between_tells {lr : Addr} {vs : List Value} {n : Nat} {xs S : List Int} {news : List (Addr × Obj)}
    (B : Below A₀ base outer h₀) (F : Fr h₀ L s.heap m) (X : (hd.heap_39 w.params).In h₀) (N : News h₀ L s.heap news) (T : Top hd.view_39 lz mean mg mb h₀) (hk : cs.kind = .function)
    (hm : (lr, listOf vs.toArray n) ∈ news) (hi : IntsAre vs xs) (hne : 0 < xs.length) (h5 : xs.length ≤ 5) (hb : ∀ x ∈ xs, 0 ≤ x ∧ x ≤ 9) (hS : S.Perm xs) (hSo : S.Pairwise (· ≤ ·))
    (hdp : dp + 2 < recursionLimit) (hun : un + 200 < cLine)
    (hret : ∀ h' tk' , Fr h₀ L h' m → News h₀ L h' news → Q (.bool true) { s with heap := h', toks := tk' }) :
    wpAny (model prg w) (ktrTop dp un gd cn cs L a ccd cl outer) (call (.ref 140) [.ref lr]) Q E s := by
  have hvl := hi.length
  replace N := news_in N hm
  revert X; unfold prg; w_top off; k_fill; intro X
  refine wpAny_call ?_
  k_dflt (refine' code_defC ?k1 ?k2 ?k3 ?k4 ?k5 ?kA ?kF ?kK ?k6 ?k7 ?k8 ?k9 ?kB ?kD ?_ ?c2 ?c3 ?c4; (case kA => exact rfl); (case kF => exact rfl); (case kK => assumption); (case k1 => k_asm); (case k2 => k_asm); (case k3 => k_asm); (case k4 => k_asm); (case k5 => k_asm); (case k6 => k_is); (case k7 => k_is); (case k8 => (first | exact unL2 (by assumption) rfl | exact unL1 (by assumption) rfl | exact unL0 (by assumption) | ktr_room)); (case k9 => exact BindsTo.of_eq rfl); (case kB => exact rfl); (case kD => decide +kernel); (case c2 => exact rfl); (case c3 => exact rfl); (case c4 => exact rfl); k_whole; intro g' L' h' tk' cells' FG' F' N' Y' B' X' T' l1; k_cells Y'; (try simp only [List.cons_append, List.nil_append] at N'); (try dsimp only); (try k_lift B'); (try k_fold))
  k_with_none
  k_with "ne" => (refine neN ?_; (try dsimp only); with_reducible first | assumption | exact Ne.symm (by assumption) | exact ne1 | exact ne1.symm | exact ne2 | exact ne2.symm | exact ne3 | exact ne3.symm | exact ne4 | exact ne4.symm | exact ne5 | exact ne5.symm | exact nl1 (by assumption) | exact nl2 (by assumption) | exact nl3 (by assumption) | exact (nl1 (by assumption)).symm | exact (nl2 (by assumption)).symm | exact (nl3 (by assumption)).symm | exact Nat.ne_of_lt (by assumption) | exact Nat.ne_of_gt (by assumption) | exact cj1 (by assumption) | exact Ne.symm (cj1 (by assumption)) | exact Nat.ne_of_lt (cj1 (by assumption)) | exact Nat.ne_of_gt (cj1 (by assumption)) | exact cj2 (by assumption) | exact Ne.symm (cj2 (by assumption)) | exact Nat.ne_of_lt (cj2 (by assumption)) | exact Nat.ne_of_gt (cj2 (by assumption)) | exact cj3 (by assumption) | exact Ne.symm (cj3 (by assumption)) | exact Nat.ne_of_lt (cj3 (by assumption)) | exact Nat.ne_of_gt (cj3 (by assumption)) | exact cj4 (by assumption) | exact Ne.symm (cj4 (by assumption)) | exact Nat.ne_of_lt (cj4 (by assumption)) | exact Nat.ne_of_gt (cj4 (by assumption)) | exact cj5 (by assumption) | exact Ne.symm (cj5 (by assumption)) | exact Nat.ne_of_lt (cj5 (by assumption)) | exact Nat.ne_of_gt (cj5 (by assumption)) | exact cj6 (by assumption) | exact Ne.symm (cj6 (by assumption)) | exact Nat.ne_of_lt (cj6 (by assumption)) | exact Nat.ne_of_gt (cj6 (by assumption)) | exact cj7 (by assumption) | exact Ne.symm (cj7 (by assumption)) | exact Nat.ne_of_lt (cj7 (by assumption)) | exact Nat.ne_of_gt (cj7 (by assumption)) | exact cj8 (by assumption) | exact Ne.symm (cj8 (by assumption)) | exact Nat.ne_of_lt (cj8 (by assumption)) | exact Nat.ne_of_gt (cj8 (by assumption)) | exact cj9 (by assumption) | exact Ne.symm (cj9 (by assumption)) | exact Nat.ne_of_lt (cj9 (by assumption)) | exact Nat.ne_of_gt (cj9 (by assumption)) | exact ej5 (by assumption) | exact Ne.symm (ej5 (by assumption)) | exact Nat.ne_of_lt (ej5 (by assumption)) | exact Nat.ne_of_gt (ej5 (by assumption)) | exact ej6 (by assumption) | exact Ne.symm (ej6 (by assumption)) | exact Nat.ne_of_lt (ej6 (by assumption)) | exact Nat.ne_of_gt (ej6 (by assumption)) | exact ej7 (by assumption) | exact Ne.symm (ej7 (by assumption)) | exact Nat.ne_of_lt (ej7 (by assumption)) | exact Nat.ne_of_gt (ej7 (by assumption)) | exact ej8 (by assumption) | exact Ne.symm (ej8 (by assumption)) | exact Nat.ne_of_lt (ej8 (by assumption)) | exact Nat.ne_of_gt (ej8 (by assumption)) | exact ej9 (by assumption) | exact Ne.symm (ej9 (by assumption)) | exact Nat.ne_of_lt (ej9 (by assumption)) | exact Nat.ne_of_gt (ej9 (by assumption)))
  k_with "binaryOp RShift int int" => (k_here; (with_reducible refine shr1 ?_))
  k_with "binaryOp Mod int int" => (k_here; (with_reducible refine mod_pos ?k1 ?_); (case k1 => decide))
  k_with "binaryOp FloorDiv int int" => (k_here; (with_reducible refine fdiv_pos ?k1 ?k2 ?_); (case k1 => decide); (case k2 => decide +kernel))
  k_with "execs cons" => (k_here; first | (k_made; walk_at "execs cons") | k_gentoks | ((with_reducible refine wpAny_execs_cons ?_); (try dsimp only); (try k_fold)))
  k_with "idx" => (first | with_reducible assumption | (first | lia | omega))
  k_with "upd" => (first | (refine' Pick.head ?a; (case a => k_all)) | (refine' Pick.tail ?a ?b; (case a => k_ne); (case b => k_upd)))
  k_with "eval ListComp" => (k_here; (with_reducible show wpAny _ _ (eval (PySem.Expr.ListComp _ [⟨PySem.Expr.Name _ _, _, [_], 0⟩] _ _) _) _ _ _); k_dflt (refine LCt.ListComp_T (F₀ := by k_asm) (by with_unfolding_all rfl) (by decide) (by rfl) (by decide) (by rfl) ?_))
  k_with "eval ListComp" => (k_here; (with_reducible show wpAny _ _ (eval (PySem.Expr.ListComp _ [⟨PySem.Expr.Name _ _, _, [], 0⟩] _ _) _) _ _ _); k_dflt (refine ListComp_C (_F₀ := by k_asm) (by with_unfolding_all rfl) (by rfl) (by decide) ?_))
  k_with "eval ListComp" => (k_here; (with_reducible show wpAny _ _ (eval (PySem.Expr.ListComp _ [⟨PySem.Expr.Name _ _, _, [], 0⟩] _ _) _) _ _ _); k_dflt (refine LCg.ListComp_U (F₀ := by k_asm) (by with_unfolding_all rfl) (by decide) (by rfl) (by decide) (by rfl) ?_))
  k_steps
  rename IsRange _ _ _ _ _ _ _ _ => rgX
  rename Fr _ _ _ _ => F1
  rename News _ _ _ _ => N1
  rename_i o1 o2 o3 d1 d2 d3 _ _ _ _ _ _ _
  refine CellSrc.range (n := 10) (fun i ys nx => nx = (L' + 1 + 1 + 1, o1) :: (L' + 1 + 1, o2) :: (L' + 1, o3) :: (lr, W.listOf vs.toArray n) :: news ∧ IntsAre ys ((List.range i).map fun (j : Nat) => wayG xs (j : Int))) rfl (fun _ => rfl) (fun _ => rfl) rfl (by with_unfolding_all rfl) F1 N1 rgX (by decide) (by rfl) (by decide) ⟨rfl, .nil⟩ ?turn ?done
  case turn =>
    intro i k t ys nx I oI C oC D K oK g h tk E' hke hJ hoK F2 N2 off ne
    refine' hid fun kG_ => ?_
    obtain ⟨rfl, hys⟩ := hJ
    refine' kG_ ?_
    clear kG_
    have offs := fun p hp => off p (mem4 (p := p) hp)
    refine' hid fun kG_ => ?_
    obtain ⟨z1, z2, z3, z4⟩ := off _ (.head _)
    obtain ⟨y1, y2, y3, y4⟩ := off _ (.tail _ (.head _))
    obtain ⟨x1, x2, x3, x4⟩ := off _ (.tail _ (.tail _ (.head _)))
    obtain ⟨v1, v2, v3, v4⟩ := off _ (.tail _ (.tail _ (.tail _ (.head _))))
    refine' kG_ ?_
    clear kG_
    have hk0 : 0 ≤ k := by (first | lia | omega)
    clear F1 N1
    k_with_none
    k_with "ne" => (refine neN ?_; (try dsimp only); with_reducible first | assumption | exact Ne.symm (by assumption) | exact ne1 | exact ne1.symm | exact ne2 | exact ne2.symm | exact ne3 | exact ne3.symm | exact ne4 | exact ne4.symm | exact ne5 | exact ne5.symm | exact nl1 (by assumption) | exact nl2 (by assumption) | exact nl3 (by assumption) | exact (nl1 (by assumption)).symm | exact (nl2 (by assumption)).symm | exact (nl3 (by assumption)).symm | exact Nat.ne_of_lt (by assumption) | exact Nat.ne_of_gt (by assumption) | exact cj1 (by assumption) | exact Ne.symm (cj1 (by assumption)) | exact Nat.ne_of_lt (cj1 (by assumption)) | exact Nat.ne_of_gt (cj1 (by assumption)) | exact cj2 (by assumption) | exact Ne.symm (cj2 (by assumption)) | exact Nat.ne_of_lt (cj2 (by assumption)) | exact Nat.ne_of_gt (cj2 (by assumption)) | exact cj3 (by assumption) | exact Ne.symm (cj3 (by assumption)) | exact Nat.ne_of_lt (cj3 (by assumption)) | exact Nat.ne_of_gt (cj3 (by assumption)) | exact cj4 (by assumption) | exact Ne.symm (cj4 (by assumption)) | exact Nat.ne_of_lt (cj4 (by assumption)) | exact Nat.ne_of_gt (cj4 (by assumption)) | exact cj5 (by assumption) | exact Ne.symm (cj5 (by assumption)) | exact Nat.ne_of_lt (cj5 (by assumption)) | exact Nat.ne_of_gt (cj5 (by assumption)) | exact cj6 (by assumption) | exact Ne.symm (cj6 (by assumption)) | exact Nat.ne_of_lt (cj6 (by assumption)) | exact Nat.ne_of_gt (cj6 (by assumption)) | exact cj7 (by assumption) | exact Ne.symm (cj7 (by assumption)) | exact Nat.ne_of_lt (cj7 (by assumption)) | exact Nat.ne_of_gt (cj7 (by assumption)) | exact cj8 (by assumption) | exact Ne.symm (cj8 (by assumption)) | exact Nat.ne_of_lt (cj8 (by assumption)) | exact Nat.ne_of_gt (cj8 (by assumption)) | exact cj9 (by assumption) | exact Ne.symm (cj9 (by assumption)) | exact Nat.ne_of_lt (cj9 (by assumption)) | exact Nat.ne_of_gt (cj9 (by assumption)) | exact ej5 (by assumption) | exact Ne.symm (ej5 (by assumption)) | exact Nat.ne_of_lt (ej5 (by assumption)) | exact Nat.ne_of_gt (ej5 (by assumption)) | exact ej6 (by assumption) | exact Ne.symm (ej6 (by assumption)) | exact Nat.ne_of_lt (ej6 (by assumption)) | exact Nat.ne_of_gt (ej6 (by assumption)) | exact ej7 (by assumption) | exact Ne.symm (ej7 (by assumption)) | exact Nat.ne_of_lt (ej7 (by assumption)) | exact Nat.ne_of_gt (ej7 (by assumption)) | exact ej8 (by assumption) | exact Ne.symm (ej8 (by assumption)) | exact Nat.ne_of_lt (ej8 (by assumption)) | exact Nat.ne_of_gt (ej8 (by assumption)) | exact ej9 (by assumption) | exact Ne.symm (ej9 (by assumption)) | exact Nat.ne_of_lt (ej9 (by assumption)) | exact Nat.ne_of_gt (ej9 (by assumption)))
    k_with "binaryOp RShift int int" => (k_here; (with_reducible refine shr1 ?_))
    k_with "binaryOp Mod int int" => (k_here; (with_reducible refine mod_pos ?k1 ?_); (case k1 => decide))
    k_with "binaryOp FloorDiv int int" => (k_here; (with_reducible refine fdiv_pos ?k1 ?k2 ?_); (case k1 => decide); (case k2 => decide +kernel))
    k_with "execs cons" => (k_here; first | (k_made; walk_at "execs cons") | k_gentoks | ((with_reducible refine wpAny_execs_cons ?_); (try dsimp only); (try k_fold)))
    k_with "idx" => (first | with_reducible assumption | (first | lia | omega))
    k_with "upd" => (first | (refine' Pick.head ?a; (case a => k_all)) | (refine' Pick.tail ?a ?b; (case a => k_ne); (case b => k_upd)))
    k_with "eval ListComp" => (k_here; (with_reducible show wpAny _ _ (eval (PySem.Expr.ListComp _ [⟨PySem.Expr.Name _ _, _, [_], 0⟩] _ _) _) _ _ _); k_dflt (refine LCt.ListComp_T (F₀ := by k_asm) (by with_unfolding_all rfl) (by decide) (by rfl) (by decide) (by rfl) ?_))
    k_with "eval ListComp" => (k_here; (with_reducible show wpAny _ _ (eval (PySem.Expr.ListComp _ [⟨PySem.Expr.Name _ _, _, [], 0⟩] _ _) _) _ _ _); k_dflt (refine ListComp_C (_F₀ := by k_asm) (by with_unfolding_all rfl) (by rfl) (by decide) ?_))
    k_with "eval ListComp" => (k_here; (with_reducible show wpAny _ _ (eval (PySem.Expr.ListComp _ [⟨PySem.Expr.Name _ _, _, [], 0⟩] _ _) _) _ _ _); k_dflt (refine LCg.ListComp_U (F₀ := by k_asm) (by with_unfolding_all rfl) (by decide) (by rfl) (by decide) (by rfl) ?_))
    k_with "CompSrc" => (refine LCg.CompSrc.ledger (by rfl) (by k_asm) (by k_asm) (by k_mem) (by kcf_size) ?_; intro g'; (refine' kcf_list _ (by first | assumption | l_ints) (fun k' t' I' oI' C' oC' D' m' ys' h' tk' E' hk' hC' hx' F' N' off' ne' hMark' => ?_) ?_); (all_goals (try (simp only [LCg.Off3, and_true] at off'))); kcf_last)
    k_steps
    refine CEnd.intro (by k_asm) (by k_asm) _ (fun p hp => .tail _ hp) off ⟨rfl, ?_⟩
    rw [List.range_succ, List.map_append]
    refine IntsAre.append hys ?_
    rw [List.map_cons, List.map_nil, show (i : Int) = k by (first | lia | omega)]
    exact .cons _ _ .nil
  case done =>
    intro D ys nx h tk hJ F2 N2 off
    refine' hid fun kG_ => ?_
    obtain ⟨rfl, hys⟩ := hJ
    refine' kG_ ?_
    clear kG_
    have z1 : @Ne Nat (L' + 1 + 1 + 1) D := off _ (.head _)
    have z2 : @Ne Nat (L' + 1 + 1) D := off _ (.tail _ (.head _))
    have z3 : @Ne Nat (L' + 1) D := off _ (.tail _ (.tail _ (.head _)))
    have z4 : @Ne Nat lr D := off _ (.tail _ (.tail _ (.tail _ (.head _))))
    have z5 : ∀ p ∈ news, p.1 ≠ D := fun p hp => off p (mem4 hp)
    have w0 : @LT.lt Nat _ lr L' := l1 _ (.head _)
    have w1 : ∀ p ∈ news, p.1 ≠ L' + 1 := fun p hp => by have q : @LT.lt Nat _ p.1 L' := l1 p (.tail _ hp); exact Nat.ne_of_lt (Nat.lt_succ_of_lt q)
    have w2 : ∀ p ∈ news, p.1 ≠ L' + 1 + 1 := fun p hp => by have q : @LT.lt Nat _ p.1 L' := l1 p (.tail _ hp); exact Nat.ne_of_lt (Nat.lt_succ_of_lt (Nat.lt_succ_of_lt q))
    have w3 : ∀ p ∈ news, p.1 ≠ L' + 1 + 1 + 1 := fun p hp => by have q : @LT.lt Nat _ p.1 L' := l1 p (.tail _ hp); exact Nat.ne_of_lt (Nat.lt_succ_of_lt (Nat.lt_succ_of_lt (Nat.lt_succ_of_lt q)))
    have hysl := hys.length
    rw [List.length_map, List.length_range] at hysl
    clear F1 N1
    k_with_none
    k_with "ne" => (refine neN ?_; (try dsimp only); with_reducible first | assumption | exact Ne.symm (by assumption) | exact ne1 | exact ne1.symm | exact ne2 | exact ne2.symm | exact ne3 | exact ne3.symm | exact ne4 | exact ne4.symm | exact ne5 | exact ne5.symm | exact nl1 (by assumption) | exact nl2 (by assumption) | exact nl3 (by assumption) | exact (nl1 (by assumption)).symm | exact (nl2 (by assumption)).symm | exact (nl3 (by assumption)).symm | exact Nat.ne_of_lt (by assumption) | exact Nat.ne_of_gt (by assumption) | exact cj1 (by assumption) | exact Ne.symm (cj1 (by assumption)) | exact Nat.ne_of_lt (cj1 (by assumption)) | exact Nat.ne_of_gt (cj1 (by assumption)) | exact cj2 (by assumption) | exact Ne.symm (cj2 (by assumption)) | exact Nat.ne_of_lt (cj2 (by assumption)) | exact Nat.ne_of_gt (cj2 (by assumption)) | exact cj3 (by assumption) | exact Ne.symm (cj3 (by assumption)) | exact Nat.ne_of_lt (cj3 (by assumption)) | exact Nat.ne_of_gt (cj3 (by assumption)) | exact cj4 (by assumption) | exact Ne.symm (cj4 (by assumption)) | exact Nat.ne_of_lt (cj4 (by assumption)) | exact Nat.ne_of_gt (cj4 (by assumption)) | exact cj5 (by assumption) | exact Ne.symm (cj5 (by assumption)) | exact Nat.ne_of_lt (cj5 (by assumption)) | exact Nat.ne_of_gt (cj5 (by assumption)) | exact cj6 (by assumption) | exact Ne.symm (cj6 (by assumption)) | exact Nat.ne_of_lt (cj6 (by assumption)) | exact Nat.ne_of_gt (cj6 (by assumption)) | exact cj7 (by assumption) | exact Ne.symm (cj7 (by assumption)) | exact Nat.ne_of_lt (cj7 (by assumption)) | exact Nat.ne_of_gt (cj7 (by assumption)) | exact cj8 (by assumption) | exact Ne.symm (cj8 (by assumption)) | exact Nat.ne_of_lt (cj8 (by assumption)) | exact Nat.ne_of_gt (cj8 (by assumption)) | exact cj9 (by assumption) | exact Ne.symm (cj9 (by assumption)) | exact Nat.ne_of_lt (cj9 (by assumption)) | exact Nat.ne_of_gt (cj9 (by assumption)) | exact ej5 (by assumption) | exact Ne.symm (ej5 (by assumption)) | exact Nat.ne_of_lt (ej5 (by assumption)) | exact Nat.ne_of_gt (ej5 (by assumption)) | exact ej6 (by assumption) | exact Ne.symm (ej6 (by assumption)) | exact Nat.ne_of_lt (ej6 (by assumption)) | exact Nat.ne_of_gt (ej6 (by assumption)) | exact ej7 (by assumption) | exact Ne.symm (ej7 (by assumption)) | exact Nat.ne_of_lt (ej7 (by assumption)) | exact Nat.ne_of_gt (ej7 (by assumption)) | exact ej8 (by assumption) | exact Ne.symm (ej8 (by assumption)) | exact Nat.ne_of_lt (ej8 (by assumption)) | exact Nat.ne_of_gt (ej8 (by assumption)) | exact ej9 (by assumption) | exact Ne.symm (ej9 (by assumption)) | exact Nat.ne_of_lt (ej9 (by assumption)) | exact Nat.ne_of_gt (ej9 (by assumption)))
    k_with "binaryOp RShift int int" => (k_here; (with_reducible refine shr1 ?_))
    k_with "binaryOp Mod int int" => (k_here; (with_reducible refine mod_pos ?k1 ?_); (case k1 => decide))
    k_with "binaryOp FloorDiv int int" => (k_here; (with_reducible refine fdiv_pos ?k1 ?k2 ?_); (case k1 => decide); (case k2 => decide +kernel))
    k_with "execs cons" => (k_here; first | (k_made; walk_at "execs cons") | k_gentoks | ((with_reducible refine wpAny_execs_cons ?_); (try dsimp only); (try k_fold)))
    k_with "idx" => (first | with_reducible assumption | (first | lia | omega))
    k_with "upd" => (first | (refine' Pick.head ?a; (case a => k_all)) | (refine' Pick.tail ?a ?b; (case a => k_ne); (case b => k_upd)))
    k_with "eval ListComp" => (k_here; (with_reducible show wpAny _ _ (eval (PySem.Expr.ListComp _ [⟨PySem.Expr.Name _ _, _, [_], 0⟩] _ _) _) _ _ _); k_dflt (refine LCt.ListComp_T (F₀ := by k_asm) (by with_unfolding_all rfl) (by decide) (by rfl) (by decide) (by rfl) ?_))
    k_with "eval ListComp" => (k_here; (with_reducible show wpAny _ _ (eval (PySem.Expr.ListComp _ [⟨PySem.Expr.Name _ _, _, [], 0⟩] _ _) _) _ _ _); k_dflt (refine ListComp_C (_F₀ := by k_asm) (by with_unfolding_all rfl) (by rfl) (by decide) ?_))
    k_with "eval ListComp" => (k_here; (with_reducible show wpAny _ _ (eval (PySem.Expr.ListComp _ [⟨PySem.Expr.Name _ _, _, [], 0⟩] _ _) _) _ _ _); k_dflt (refine LCg.ListComp_U (F₀ := by k_asm) (by with_unfolding_all rfl) (by decide) (by rfl) (by decide) (by rfl) ?_))
    k_with "call ref" => refine held ?_
    k_with "CompSrcT" => refine held ?_
    k_steps
    refine Held.out ?_
    unfold Held
    rename IsRange _ _ _ _ _ _ _ _ => rg2
    rename Fr _ _ _ _ => F3
    rename News _ _ _ _ => N3
    rename_i ow dw _ _ _ M tM kM hMin hMle _ ol _ _ dl _ _ _ _ _ _
    refine LCt.CompSrcT.range rfl F3 N3 rg2 (by decide) (rfl : _ = ((10 : Nat) : Int)) (by decide) ?_
    intro g2
    refine rest_T (fun i zs nx => nx = (D, LCg.lst ys) :: (L' + 1 + 1 + 1, ol) :: (L' + 1 + 1, ow) :: (L' + 1, o3) :: (lr, W.listOf vs.toArray n) :: news ∧ IntsAre zs (nearG xs M i)) ?turn ?done ⟨rfl, .nil⟩
    case turn =>
      intro i v zs nx I oI C oC D2 m₂ h4 tk4 E' hi10 hP hJ hC hx F4 N4 off4 ne4
      refine' hid fun kG_ => ?_
      obtain ⟨rfl, hzs⟩ := hJ
      obtain ⟨t, rfl⟩ := hP
      refine' kG_ ?_
      clear kG_
      have hi9 : (0 : Int) + (i : Int) < 10 := by (first | lia | omega)
      have hi0 : (0 : Int) ≤ 0 + (i : Int) := by (first | lia | omega)
      clear F3 N3
      k_with_none
      k_with "ne" => (refine neN ?_; (try dsimp only); with_reducible first | assumption | exact Ne.symm (by assumption) | exact ne1 | exact ne1.symm | exact ne2 | exact ne2.symm | exact ne3 | exact ne3.symm | exact ne4 | exact ne4.symm | exact ne5 | exact ne5.symm | exact nl1 (by assumption) | exact nl2 (by assumption) | exact nl3 (by assumption) | exact (nl1 (by assumption)).symm | exact (nl2 (by assumption)).symm | exact (nl3 (by assumption)).symm | exact Nat.ne_of_lt (by assumption) | exact Nat.ne_of_gt (by assumption) | exact cj1 (by assumption) | exact Ne.symm (cj1 (by assumption)) | exact Nat.ne_of_lt (cj1 (by assumption)) | exact Nat.ne_of_gt (cj1 (by assumption)) | exact cj2 (by assumption) | exact Ne.symm (cj2 (by assumption)) | exact Nat.ne_of_lt (cj2 (by assumption)) | exact Nat.ne_of_gt (cj2 (by assumption)) | exact cj3 (by assumption) | exact Ne.symm (cj3 (by assumption)) | exact Nat.ne_of_lt (cj3 (by assumption)) | exact Nat.ne_of_gt (cj3 (by assumption)) | exact cj4 (by assumption) | exact Ne.symm (cj4 (by assumption)) | exact Nat.ne_of_lt (cj4 (by assumption)) | exact Nat.ne_of_gt (cj4 (by assumption)) | exact cj5 (by assumption) | exact Ne.symm (cj5 (by assumption)) | exact Nat.ne_of_lt (cj5 (by assumption)) | exact Nat.ne_of_gt (cj5 (by assumption)) | exact cj6 (by assumption) | exact Ne.symm (cj6 (by assumption)) | exact Nat.ne_of_lt (cj6 (by assumption)) | exact Nat.ne_of_gt (cj6 (by assumption)) | exact cj7 (by assumption) | exact Ne.symm (cj7 (by assumption)) | exact Nat.ne_of_lt (cj7 (by assumption)) | exact Nat.ne_of_gt (cj7 (by assumption)) | exact cj8 (by assumption) | exact Ne.symm (cj8 (by assumption)) | exact Nat.ne_of_lt (cj8 (by assumption)) | exact Nat.ne_of_gt (cj8 (by assumption)) | exact cj9 (by assumption) | exact Ne.symm (cj9 (by assumption)) | exact Nat.ne_of_lt (cj9 (by assumption)) | exact Nat.ne_of_gt (cj9 (by assumption)) | exact ej5 (by assumption) | exact Ne.symm (ej5 (by assumption)) | exact Nat.ne_of_lt (ej5 (by assumption)) | exact Nat.ne_of_gt (ej5 (by assumption)) | exact ej6 (by assumption) | exact Ne.symm (ej6 (by assumption)) | exact Nat.ne_of_lt (ej6 (by assumption)) | exact Nat.ne_of_gt (ej6 (by assumption)) | exact ej7 (by assumption) | exact Ne.symm (ej7 (by assumption)) | exact Nat.ne_of_lt (ej7 (by assumption)) | exact Nat.ne_of_gt (ej7 (by assumption)) | exact ej8 (by assumption) | exact Ne.symm (ej8 (by assumption)) | exact Nat.ne_of_lt (ej8 (by assumption)) | exact Nat.ne_of_gt (ej8 (by assumption)) | exact ej9 (by assumption) | exact Ne.symm (ej9 (by assumption)) | exact Nat.ne_of_lt (ej9 (by assumption)) | exact Nat.ne_of_gt (ej9 (by assumption)))
      k_with "binaryOp RShift int int" => (k_here; (with_reducible refine shr1 ?_))
      k_with "binaryOp Mod int int" => (k_here; (with_reducible refine mod_pos ?k1 ?_); (case k1 => decide))
      k_with "binaryOp FloorDiv int int" => (k_here; (with_reducible refine fdiv_pos ?k1 ?k2 ?_); (case k1 => decide); (case k2 => decide +kernel))
      k_with "execs cons" => (k_here; first | (k_made; walk_at "execs cons") | k_gentoks | ((with_reducible refine wpAny_execs_cons ?_); (try dsimp only); (try k_fold)))
      k_with "idx" => (first | with_reducible assumption | (first | lia | omega))
      k_with "upd" => (first | (refine' Pick.head ?a; (case a => k_all)) | (refine' Pick.tail ?a ?b; (case a => k_ne); (case b => k_upd)))
      k_with "eval ListComp" => (k_here; (with_reducible show wpAny _ _ (eval (PySem.Expr.ListComp _ [⟨PySem.Expr.Name _ _, _, [_], 0⟩] _ _) _) _ _ _); k_dflt (refine LCt.ListComp_T (F₀ := by k_asm) (by with_unfolding_all rfl) (by decide) (by rfl) (by decide) (by rfl) ?_))
      k_with "eval ListComp" => (k_here; (with_reducible show wpAny _ _ (eval (PySem.Expr.ListComp _ [⟨PySem.Expr.Name _ _, _, [], 0⟩] _ _) _) _ _ _); k_dflt (refine ListComp_C (_F₀ := by k_asm) (by with_unfolding_all rfl) (by rfl) (by decide) ?_))
      k_with "eval ListComp" => (k_here; (with_reducible show wpAny _ _ (eval (PySem.Expr.ListComp _ [⟨PySem.Expr.Name _ _, _, [], 0⟩] _ _) _) _ _ _); k_dflt (refine LCg.ListComp_U (F₀ := by k_asm) (by with_unfolding_all rfl) (by decide) (by rfl) (by decide) (by rfl) ?_))
      k_steps
      · rename _ = M => hw
        rw [show ((0 : Int) + (i : Int)).toNat = i by (first | lia | omega), ways_getD _ _ hi10] at hw
        refine UEnd.intro F4 N4 _ (fun p hp => hp) off4 trivial ⟨rfl, ?_⟩
        simp only [nearG, if_pos hw]
        rw [show (0 : Int) + (i : Int) = (i : Int) by (first | lia | omega)]
        exact IntsAre.append hzs (.cons _ _ .nil)
      · rename _ ≠ M => hw
        rw [show ((0 : Int) + (i : Int)).toNat = i by (first | lia | omega), ways_getD _ _ hi10] at hw
        refine UEnd.intro F4 N4 _ (fun p hp => hp) off4 trivial ⟨rfl, ?_⟩
        simp only [nearG, if_neg hw]
        exact hzs
    case done =>
      intro zs nx hJ
      refine' hid fun kG_ => ?_
      obtain ⟨rfl, hzs⟩ := hJ
      refine' kG_ ?_
      clear kG_
      intro D2 h4 tk4 F4 N4 off4
      have hzl := hzs.length
      clear F3 N3
      k_with_none
      k_with "ne" => (refine neN ?_; (try dsimp only); with_reducible first | assumption | exact Ne.symm (by assumption) | exact ne1 | exact ne1.symm | exact ne2 | exact ne2.symm | exact ne3 | exact ne3.symm | exact ne4 | exact ne4.symm | exact ne5 | exact ne5.symm | exact nl1 (by assumption) | exact nl2 (by assumption) | exact nl3 (by assumption) | exact (nl1 (by assumption)).symm | exact (nl2 (by assumption)).symm | exact (nl3 (by assumption)).symm | exact Nat.ne_of_lt (by assumption) | exact Nat.ne_of_gt (by assumption) | exact cj1 (by assumption) | exact Ne.symm (cj1 (by assumption)) | exact Nat.ne_of_lt (cj1 (by assumption)) | exact Nat.ne_of_gt (cj1 (by assumption)) | exact cj2 (by assumption) | exact Ne.symm (cj2 (by assumption)) | exact Nat.ne_of_lt (cj2 (by assumption)) | exact Nat.ne_of_gt (cj2 (by assumption)) | exact cj3 (by assumption) | exact Ne.symm (cj3 (by assumption)) | exact Nat.ne_of_lt (cj3 (by assumption)) | exact Nat.ne_of_gt (cj3 (by assumption)) | exact cj4 (by assumption) | exact Ne.symm (cj4 (by assumption)) | exact Nat.ne_of_lt (cj4 (by assumption)) | exact Nat.ne_of_gt (cj4 (by assumption)) | exact cj5 (by assumption) | exact Ne.symm (cj5 (by assumption)) | exact Nat.ne_of_lt (cj5 (by assumption)) | exact Nat.ne_of_gt (cj5 (by assumption)) | exact cj6 (by assumption) | exact Ne.symm (cj6 (by assumption)) | exact Nat.ne_of_lt (cj6 (by assumption)) | exact Nat.ne_of_gt (cj6 (by assumption)) | exact cj7 (by assumption) | exact Ne.symm (cj7 (by assumption)) | exact Nat.ne_of_lt (cj7 (by assumption)) | exact Nat.ne_of_gt (cj7 (by assumption)) | exact cj8 (by assumption) | exact Ne.symm (cj8 (by assumption)) | exact Nat.ne_of_lt (cj8 (by assumption)) | exact Nat.ne_of_gt (cj8 (by assumption)) | exact cj9 (by assumption) | exact Ne.symm (cj9 (by assumption)) | exact Nat.ne_of_lt (cj9 (by assumption)) | exact Nat.ne_of_gt (cj9 (by assumption)) | exact ej5 (by assumption) | exact Ne.symm (ej5 (by assumption)) | exact Nat.ne_of_lt (ej5 (by assumption)) | exact Nat.ne_of_gt (ej5 (by assumption)) | exact ej6 (by assumption) | exact Ne.symm (ej6 (by assumption)) | exact Nat.ne_of_lt (ej6 (by assumption)) | exact Nat.ne_of_gt (ej6 (by assumption)) | exact ej7 (by assumption) | exact Ne.symm (ej7 (by assumption)) | exact Nat.ne_of_lt (ej7 (by assumption)) | exact Nat.ne_of_gt (ej7 (by assumption)) | exact ej8 (by assumption) | exact Ne.symm (ej8 (by assumption)) | exact Nat.ne_of_lt (ej8 (by assumption)) | exact Nat.ne_of_gt (ej8 (by assumption)) | exact ej9 (by assumption) | exact Ne.symm (ej9 (by assumption)) | exact Nat.ne_of_lt (ej9 (by assumption)) | exact Nat.ne_of_gt (ej9 (by assumption)))
      k_with "binaryOp RShift int int" => (k_here; (with_reducible refine shr1 ?_))
      k_with "binaryOp Mod int int" => (k_here; (with_reducible refine mod_pos ?k1 ?_); (case k1 => decide))
      k_with "binaryOp FloorDiv int int" => (k_here; (with_reducible refine fdiv_pos ?k1 ?k2 ?_); (case k1 => decide); (case k2 => decide +kernel))
      k_with "execs cons" => (k_here; first | (k_made; walk_at "execs cons") | k_gentoks | ((with_reducible refine wpAny_execs_cons ?_); (try dsimp only); (try k_fold)))
      k_with "idx" => (first | with_reducible assumption | (first | lia | omega))
      k_with "upd" => (first | (refine' Pick.head ?a; (case a => k_all)) | (refine' Pick.tail ?a ?b; (case a => k_ne); (case b => k_upd)))
      k_with "eval ListComp" => (k_here; (with_reducible show wpAny _ _ (eval (PySem.Expr.ListComp _ [⟨PySem.Expr.Name _ _, _, [_], 0⟩] _ _) _) _ _ _); k_dflt (refine LCt.ListComp_T (F₀ := by k_asm) (by with_unfolding_all rfl) (by decide) (by rfl) (by decide) (by rfl) ?_))
      k_with "eval ListComp" => (k_here; (with_reducible show wpAny _ _ (eval (PySem.Expr.ListComp _ [⟨PySem.Expr.Name _ _, _, [], 0⟩] _ _) _) _ _ _); k_dflt (refine ListComp_C (_F₀ := by k_asm) (by with_unfolding_all rfl) (by rfl) (by decide) ?_))
      k_with "eval ListComp" => (k_here; (with_reducible show wpAny _ _ (eval (PySem.Expr.ListComp _ [⟨PySem.Expr.Name _ _, _, [], 0⟩] _ _) _) _ _ _); k_dflt (refine LCg.ListComp_U (F₀ := by k_asm) (by with_unfolding_all rfl) (by decide) (by rfl) (by decide) (by rfl) ?_))
      k_with "call ref" => refine held ?_
      k_steps
      refine Held.out ?_
      unfold Held
      k_dflt (refine' medlow_tells (S := S) ?B ?F ?X ?N ?T ?hk ?hm ?hi ?hne ?hlen ?hS ?hSo ?hdp ?hun ?_; (case B => k_asm); (case F => k_asm); (case X => k_asm); (case N => k_asm); (case T => k_asm); (case hk => exact rfl); (case hm => k_mem); (case hi => exact hi); (case hne => (first | lia | omega)); (case hlen => (first | lia | omega)); (case hS => exact hS); (case hSo => exact hSo); (case hdp => (first | exact unL2 (by assumption) rfl | exact unL1 (by assumption) rfl | exact unL0 (by assumption) | ktr_room)); (case hun => (first | exact unL2 (by assumption) rfl | exact unL1 (by assumption) rfl | exact unL0 (by assumption) | ktr_units)))
      intro h6 tk6 t6 lo F6 N6 hlo
      k_steps
      refine Held.out ?_
      unfold Held
      k_dflt (refine' medhigh_tells (S := S) ?B ?F ?X ?N ?T ?hk ?hm ?hi ?hne ?hlen ?hS ?hSo ?hdp ?hun ?_; (case B => k_asm); (case F => k_asm); (case X => k_asm); (case N => k_asm); (case T => k_asm); (case hk => exact rfl); (case hm => k_mem); (case hi => exact hi); (case hne => (first | lia | omega)); (case hlen => (first | lia | omega)); (case hS => exact hS); (case hSo => exact hSo); (case hdp => (first | exact unL2 (by assumption) rfl | exact unL1 (by assumption) rfl | exact unL0 (by assumption) | ktr_room)); (case hun => (first | exact unL2 (by assumption) rfl | exact unL1 (by assumption) rfl | exact unL0 (by assumption) | ktr_units)))
      intro h7 tk7 t7 up F7 N7 hup
      k_steps
      have hl := hS.length_eq
      have hlo9 := hb lo (hlo ▸ hS.mem_iff.mp (getD_memI (by (first | lia | omega))))
      have hup9 := hb up (hup ▸ hS.mem_iff.mp (getD_memI (by (first | lia | omega))))
      have hlu : lo ≤ up := by rw [hlo, hup]; exact sorted_getD hSo (by (first | lia | omega)) (by (first | lia | omega))
      rename IsRange _ _ _ _ _ _ _ _ => rg3
      refine kll_range rfl (by k_asm) (by k_asm) rg3 (small_one (by (first | lia | omega)) (by (first | lia | omega)) (by (first | lia | omega)) (by (first | lia | omega))) (rangeSize_nat _ _) (by (first | lia | omega)) ?_
      intro D9 us9 c9 h9 tk9 F9 N9 l9 hI9
      have hus := hI9.length
      rw [rangeKs_length] at hus
      have hE : nearG xs M 10 = rangeKs lo (up + 1 - lo).toNat := by
        have q := near_range (near_iff hne h5 hb hS hSo hMin hMle) (hlo ▸ hlo9.1) (hlo ▸ hup ▸ hlu) 10 (hup ▸ (by (first | lia | omega) : up < ((10 : Nat) : Int)))
        rw [q, ← hlo, ← hup, rangeKs]
      have hL1 : h9.IsList D2 zs.toArray := ⟨_, (N9 _ (.tail _ (.head _))).1, rfl, _, rfl⟩
      have hL2 : h9.IsList D9 us9.toArray := ⟨_, (N9 _ (.head _)).1, rfl, _, rfl⟩
      refine eq_intsK hL1 hzs hL2 hI9 (by (first | exact unL2 (by assumption) rfl | exact unL1 (by assumption) rfl | exact unL0 (by assumption) | ktr_units)) ?_
      rw [decide_eq_true hE]
      clear rg3 rg2 rgX hMin hMle hE hL1 hL2 hI9 hzs hys
      k_steps
      exact hret _ _ (by k_asm) (cb_drop (by assumption) (fun p hp => mem7 hp))
end

end
section
/-! the law's own body, statement by statement -/
noncomputable abbrev StPost (h₀ : Heap) (L : Addr) (J : (Str → Option Value) → List (Addr × Obj) → Prop) (s : Shared) (Q : Flow → Shared → Prop) : Flow → Shared → Prop := fun f s' => match f with
  | .next => WEnd h₀ L J s s'
  | f => Q f s'
/-- the six cells, then the rest, which lies above them -/
noncomputable abbrev led6 (L : Addr) (c6 c5 c4 c3 c2 c1 : Obj) (tl : List (Addr × Obj)) : List (Addr × Obj) :=
  (L + 1 + 1 + 1 + 1 + 1 + 1, c6) :: (L + 1 + 1 + 1 + 1 + 1, c5) :: (L + 1 + 1 + 1 + 1, c4) :: (L + 1 + 1 + 1, c3) :: (L + 1 + 1, c2) :: (L + 1, c1) :: tl
noncomputable def Above (L : Addr) (tl : List (Addr × Obj)) : Prop := ∀ p ∈ tl, @Ne Nat p.1 (L + 1) ∧ @Ne Nat p.1 (L + 1 + 1) ∧ @Ne Nat p.1 (L + 1 + 1 + 1) ∧ @Ne Nat p.1 (L + 1 + 1 + 1 + 1) ∧ @Ne Nat p.1 (L + 1 + 1 + 1 + 1 + 1) ∧ @Ne Nat p.1 (L + 1 + 1 + 1 + 1 + 1 + 1)
theorem Above.ne2 {L : Addr} {tl : List (Addr × Obj)} (h : Above L tl) : ∀ p ∈ tl, p.1 ≠ L + 1 + 1 := fun p hp => (h p hp).2.1
theorem Above.ne3 {L : Addr} {tl : List (Addr × Obj)} (h : Above L tl) : ∀ p ∈ tl, p.1 ≠ L + 1 + 1 + 1 := fun p hp => (h p hp).2.2.1
theorem Above.ne4 {L : Addr} {tl : List (Addr × Obj)} (h : Above L tl) : ∀ p ∈ tl, p.1 ≠ L + 1 + 1 + 1 + 1 := fun p hp => (h p hp).2.2.2.1
theorem Above.ne5 {L : Addr} {tl : List (Addr × Obj)} (h : Above L tl) : ∀ p ∈ tl, p.1 ≠ L + 1 + 1 + 1 + 1 + 1 := fun p hp => (h p hp).2.2.2.2.1
theorem Above.ne6 {L : Addr} {tl : List (Addr × Obj)} (h : Above L tl) : ∀ p ∈ tl, p.1 ≠ L + 1 + 1 + 1 + 1 + 1 + 1 := fun p hp => (h p hp).2.2.2.2.2
noncomputable abbrev Six (L a : Addr) : Prop := @Ne Nat a (L + 1) ∧ @Ne Nat a (L + 1 + 1) ∧ @Ne Nat a (L + 1 + 1 + 1) ∧ @Ne Nat a (L + 1 + 1 + 1 + 1) ∧ @Ne Nat a (L + 1 + 1 + 1 + 1 + 1) ∧ @Ne Nat a (L + 1 + 1 + 1 + 1 + 1 + 1)
theorem abv_ne {L D : Addr} (h6 : @Ne Nat (L + 1 + 1 + 1 + 1 + 1 + 1) D) (h5 : @Ne Nat (L + 1 + 1 + 1 + 1 + 1) D) (h4 : @Ne Nat (L + 1 + 1 + 1 + 1) D) (h3 : @Ne Nat (L + 1 + 1 + 1) D) (h2 : @Ne Nat (L + 1 + 1) D) (h1 : @Ne Nat (L + 1) D) : Six L D := ⟨h1.symm, h2.symm, h3.symm, h4.symm, h5.symm, h6.symm⟩
theorem abv_and {L D : Addr} {R : Prop} (h : @Ne Nat (L + 1 + 1 + 1 + 1 + 1 + 1) D ∧ @Ne Nat (L + 1 + 1 + 1 + 1 + 1) D ∧ @Ne Nat (L + 1 + 1 + 1 + 1) D ∧ @Ne Nat (L + 1 + 1 + 1) D ∧ @Ne Nat (L + 1 + 1) D ∧ @Ne Nat (L + 1) D ∧ R) : Six L D := abv_ne h.1 h.2.1 h.2.2.1 h.2.2.2.1 h.2.2.2.2.1 h.2.2.2.2.2.1
theorem abv_gt {L D : Addr} (h : @LT.lt Nat _ (L + 1 + 1 + 1 + 1 + 1 + 1) D) : Six L D :=
  abv_ne (Nat.ne_of_lt h) (Nat.ne_of_lt (Nat.lt_of_succ_lt h)) (Nat.ne_of_lt (Nat.lt_of_succ_lt (Nat.lt_of_succ_lt h))) (Nat.ne_of_lt (Nat.lt_of_succ_lt (Nat.lt_of_succ_lt (Nat.lt_of_succ_lt h)))) (Nat.ne_of_lt (Nat.lt_of_succ_lt (Nat.lt_of_succ_lt (Nat.lt_of_succ_lt (Nat.lt_of_succ_lt h))))) (Nat.ne_of_lt (Nat.lt_of_succ_lt (Nat.lt_of_succ_lt (Nat.lt_of_succ_lt (Nat.lt_of_succ_lt (Nat.lt_of_succ_lt h))))))
theorem Above.cons {L a : Addr} {o : Obj} {tl : List (Addr × Obj)} (ha : @Ne Nat a (L + 1) ∧ @Ne Nat a (L + 1 + 1) ∧ @Ne Nat a (L + 1 + 1 + 1) ∧ @Ne Nat a (L + 1 + 1 + 1 + 1) ∧ @Ne Nat a (L + 1 + 1 + 1 + 1 + 1) ∧ @Ne Nat a (L + 1 + 1 + 1 + 1 + 1 + 1)) (h : Above L tl) : Above L ((a, o) :: tl) := fun p hp => by
  rcases List.mem_cons.mp hp with rfl | hp
  · exact ha
  · exact h p hp
theorem Above.nil {L : Addr} : Above L [] := fun _ h => nomatch h
theorem Above.app {L : Addr} {own tl : List (Addr × Obj)} (h1 : Above L own) (h2 : Above L tl) : Above L (own ++ tl) := fun p hp => (List.mem_append.mp hp).elim (h1 p) (h2 p)
theorem fn_st {X : Option Obj} {oc oc' : Value} {od od' : Option Addr} {name name' qual qual' : Str} {params params' : Arguments} {body body' : List Stmt} {scope scope' : Scope} {dV kV doc pm cdv ct dV' kV' doc' pm' cdv' ct' : Value} {an an' : Option Addr} {osl osl' : Array (Option Value)} {i : Nat} {st st' : Stmt} {P : Prop}
    (h : X = some ⟨oc, od, .func (fnOf name qual params body scope dV kV doc pm an cdv ct), osl⟩) (hst : body[i]? = some st) (e : X = some ⟨oc', od', .func (fnOf name' qual' params' body' scope' dV' kV' doc' pm' an' cdv' ct'), osl'⟩) (hb : body'[i]? = some st')
    (k : qual = qual' → scope = scope' → st = st' → P) : P := by
  have q := h.symm.trans e
  cases q
  exact k rfl rfl (Option.some.inj (hst.symm.trans hb))
theorem law_is {P : Prop} {x : Option Obj} {o o' : Obj} (h : x = some o) (e : x = some o') (k : o = o' → P) : P := k (Option.some.inj (h.symm.trans e))
noncomputable def pw (g : Int) : List Int := [2 ^ (8 - 3 * g).toNat, 2 ^ (7 - 3 * g).toNat, 2 ^ (6 - 3 * g).toNat, 2 ^ (11 - g).toNat]
theorem cons_all {α : Type} {P : α → Prop} {x : α} {l : List α} (h : P x) (k : ∀ p ∈ l, P p) : ∀ p ∈ x :: l, P p := List.forall_mem_cons.mpr ⟨h, k⟩
theorem led6_all {P : Addr × Obj → Prop} {L : Addr} {c6 c5 c4 c3 c2 c1 : Obj} {tl : List (Addr × Obj)} (h6 : P (L + 1 + 1 + 1 + 1 + 1 + 1, c6)) (h5 : P (L + 1 + 1 + 1 + 1 + 1, c5)) (h4 : P (L + 1 + 1 + 1 + 1, c4)) (h3 : P (L + 1 + 1 + 1, c3)) (h2 : P (L + 1 + 1, c2)) (h1 : P (L + 1, c1)) (ht : ∀ p ∈ tl, P p) : ∀ p ∈ led6 L c6 c5 c4 c3 c2 c1 tl, P p :=
  cons_all h6 (cons_all h5 (cons_all h4 (cons_all h3 (cons_all h2 (cons_all h1 ht)))))
theorem led6_new {L : Addr} {c6 c5 c4 c3 c2 c1 : Obj} {x : Addr × Obj} {tl : List (Addr × Obj)} : ∀ p ∈ led6 L c6 c5 c4 c3 c2 c1 (x :: tl), p ∈ x :: led6 L c6 c5 c4 c3 c2 c1 tl :=
  led6_all (P := (· ∈ x :: led6 L c6 c5 c4 c3 c2 c1 tl)) (by k_mem) (by k_mem) (by k_mem) (by k_mem) (by k_mem) (by k_mem) (cons_all (by k_mem) fun _ h => .tail _ (mem6 h))
theorem led6_tl {L : Addr} {c6 c5 c4 c3 c2 c1 : Obj} {tl tl' : List (Addr × Obj)} (h : ∀ p ∈ tl, p ∈ tl') : ∀ p ∈ led6 L c6 c5 c4 c3 c2 c1 tl, p ∈ led6 L c6 c5 c4 c3 c2 c1 tl' :=
  led6_all (P := (· ∈ led6 L c6 c5 c4 c3 c2 c1 tl')) (by k_mem) (by k_mem) (by k_mem) (by k_mem) (by k_mem) (by k_mem) fun p hp => mem6 (h p hp)
theorem led6_in {L : Addr} {c6 c5 c4 c3 c2 c1 : Obj} {tl : List (Addr × Obj)} {p : Addr × Obj} (h : p ∈ tl) : p ∈ led6 L c6 c5 c4 c3 c2 c1 tl := mem6 h
/-- lists of ints in the ledger -/
inductive ColP (led : List (Addr × Obj)) (v : Value) (q : List Int) : Prop
  | mk (a vs n : _) (_ : v = .ref a) (_ : (a, W.listOf vs.toArray n) ∈ led) (_ : IntsAre vs q)
inductive ColsP (led : List (Addr × Obj)) : List Value → List (List Int) → Prop
  | nil : ColsP led [] []
  | cons {v : Value} {q : List Int} {vs : List Value} {ps : List (List Int)} : ColP led v q → ColsP led vs ps → ColsP led (v :: vs) (q :: ps)
theorem ColP.mono {led led' : List (Addr × Obj)} (hs : ∀ p ∈ led, p ∈ led') {v : Value} {q : List Int} (h : ColP led v q) : ColP led' v q :=
  let ⟨a, vs, n, e, hm, hi⟩ := h; ⟨a, vs, n, e, hs _ hm, hi⟩
theorem ColsP.mono {led led' : List (Addr × Obj)} (hs : ∀ p ∈ led, p ∈ led') {vs : List Value} {ps : List (List Int)} (h : ColsP led vs ps) : ColsP led' vs ps := by
  induction h with
  | nil => exact .nil
  | cons h _ ih => exact .cons (h.mono hs) ih
theorem ColsP.length {led : List (Addr × Obj)} {vs : List Value} {ps : List (List Int)} (h : ColsP led vs ps) : vs.length = ps.length := by
  induction h with
  | nil => rfl
  | cons _ _ ih => simp [ih]
theorem ColsP.snoc {led : List (Addr × Obj)} {vs : List Value} {ps : List (List Int)} {v : Value} {q : List Int} (h : ColsP led vs ps) (k : ColP led v q) : ColsP led (vs ++ [v]) (ps ++ [q]) := by
  induction h with
  | nil => exact .cons k .nil
  | cons h _ ih => exact .cons h ih
theorem ColsP.at {led : List (Addr × Obj)} {vs : List Value} {ps : List (List Int)} (h : ColsP led vs ps) : ∀ {i : Nat} {q : List Int}, ps[i]? = some q → ∃ a us n, vs[i]? = some (.ref a) ∧ (a, W.listOf us.toArray n) ∈ led ∧ IntsAre us q := by
  induction h with
  | nil => intro i q e; simp at e
  | cons h r ih =>
    intro i q e
    cases i with
    | zero =>
      refine' hid fun kG_ => ?_
      obtain ⟨a, us, n, rfl, hm, hi⟩ := h
      refine' kG_ ?_
      clear kG_
      simp at e; subst e
      exact ⟨a, us, n, rfl, hm, hi⟩
    | succ i =>
      refine' hid fun kG_ => ?_
      obtain ⟨a, us, n, e', hm, hi⟩ := ih (i := i) (by simpa using e)
      refine' kG_ ?_
      clear kG_
      exact ⟨a, us, n, by simpa using e', hm, hi⟩
theorem pw_pow {g p : Int} {i : Nat} (h0 : 0 ≤ g) (h3 : g < 3) (h : (pw g)[i]? = some p) : ∃ e : Nat, e ≤ 11 ∧ p = 2 ^ e := by
  have hm := List.mem_of_getElem? h
  simp only [pw, List.mem_cons, List.not_mem_nil, or_false] at hm
  rcases hm with rfl | rfl | rfl | rfl
  · exact ⟨(8 - 3 * g).toNat, by (first | lia | omega), rfl⟩
  · exact ⟨(7 - 3 * g).toNat, by (first | lia | omega), rfl⟩
  · exact ⟨(6 - 3 * g).toNat, by (first | lia | omega), rfl⟩
  · exact ⟨(11 - g).toNat, by (first | lia | omega), rfl⟩
theorem pow_log {e : Nat} (h : e ≤ 11) : ((2 : Int) ^ e).natAbs.log2 < 9000 := by
  have : ∀ k : Fin 12, ((2 : Int) ^ k.val).natAbs.log2 < 9000 := by decide +kernel
  exact this ⟨e, by (first | lia | omega)⟩
/-- the columns; the sums; a column in order -/
noncomputable def colsF (g : Int) (md : List Int) : List (List Int) := (pw g).map fun p => md.map fun b => b / p % 2
noncomputable def colF (g : Int) (md : List Int) (k : Nat) : List Int := (colsF g md).getD k []
noncomputable def ordF (c : List Int) : List Int := List.replicate (c.length - c.sum.toNat) 0 ++ List.replicate c.sum.toNat 1
theorem ord_perm : ∀ (c : List Int), (∀ x ∈ c, x = 0 ∨ x = 1) → 0 ≤ c.sum ∧ c.sum ≤ c.length ∧ (ordF c).Perm c
  | [], _ => ⟨by simp, by simp, List.Perm.refl _⟩
  | x :: r, h => by
    refine' hid fun kG_ => ?_
    obtain ⟨h1, h2, h3⟩ := ord_perm r fun y hy => h y (.tail _ hy)
    refine' kG_ ?_
    clear kG_
    rcases h x (.head _) with rfl | rfl
    · refine ⟨by simp; (first | lia | omega), by simp; (first | lia | omega), ?_⟩
      unfold ordF at h3 ⊢
      have e : (0 :: r).length - (0 :: r).sum.toNat = (r.length - r.sum.toNat) + 1 := by simp; (first | lia | omega)
      have e2 : (0 :: r).sum = r.sum := by simp
      rw [e, e2, List.replicate_succ]
      exact h3.cons _
    · refine ⟨by simp; (first | lia | omega), by simp; (first | lia | omega), ?_⟩
      unfold ordF at h3 ⊢
      have e : (1 :: r).sum.toNat = r.sum.toNat + 1 := by simp; (first | lia | omega)
      have e2 : (1 :: r).length - (r.sum.toNat + 1) = r.length - r.sum.toNat := by simp
      rw [e, e2, List.replicate_succ]
      exact List.perm_middle.trans (h3.cons _)
theorem ord_sorted (c : List Int) : (ordF c).Pairwise (· ≤ ·) := by
  unfold ordF
  rw [List.pairwise_append]
  refine ⟨List.pairwise_replicate.mpr (Or.inr (Int.le_refl _)), List.pairwise_replicate.mpr (Or.inr (Int.le_refl _)), fun a ha b hb => ?_⟩
  rw [List.eq_of_mem_replicate ha, List.eq_of_mem_replicate hb]; decide
theorem ord_getD (c : List Int) (h1 : 0 ≤ c.sum) (h2 : c.sum ≤ c.length) (i : Nat) (hi : i < c.length) : (ordF c).getD i 0 = if i < c.length - c.sum.toNat then 0 else 1 := by
  unfold ordF
  by_cases h : i < c.length - c.sum.toNat
  · rw [if_pos h]
    simp [List.getD, List.getElem?_append, h]
  · rw [if_neg h]
    have q : i - (c.length - c.sum.toNat) < c.sum.toNat := by omega
    simp [List.getD, List.getElem?_append, h, q]
noncomputable def lowF (c : List Int) : Int := if 2 * c.sum ≤ c.length then 0 else 1
noncomputable def upF (c : List Int) : Int := if 2 * c.sum < c.length then 0 else 1
theorem low_eq (c : List Int) (h : ∀ x ∈ c, x = 0 ∨ x = 1) (hp : 0 < c.length) : (ordF c).getD ((c.length - 1) / 2) 0 = lowF c := by
  refine' hid fun kG_ => ?_
  obtain ⟨h1, h2, _⟩ := ord_perm c h
  refine' kG_ ?_
  clear kG_
  rw [ord_getD c h1 h2 _ (by (first | lia | omega)), lowF]
  by_cases q : 2 * c.sum ≤ c.length
  · rw [if_pos q, if_pos (by (first | lia | omega))]
  · rw [if_neg q, if_neg (by (first | lia | omega))]
theorem up_eq (c : List Int) (h : ∀ x ∈ c, x = 0 ∨ x = 1) (hp : 0 < c.length) : (ordF c).getD (c.length / 2) 0 = upF c := by
  refine' hid fun kG_ => ?_
  obtain ⟨h1, h2, _⟩ := ord_perm c h
  refine' kG_ ?_
  clear kG_
  rw [ord_getD c h1 h2 _ (by (first | lia | omega)), upF]
  by_cases q : 2 * c.sum < c.length
  · rw [if_pos q, if_pos (by (first | lia | omega))]
  · rw [if_neg q, if_neg (by (first | lia | omega))]
theorem col_at {g : Int} {md : List Int} {k : Nat} (hk : k < 4) : (colsF g md)[k]? = some (colF g md k) ∧ (colF g md k) = md.map fun b => b / (pw g).getD k 0 % 2 := by
  exact four (P := fun k => (colsF g md)[k]? = some (colF g md k) ∧ (colF g md k) = md.map fun b => b / (pw g).getD k 0 % 2) ⟨rfl, rfl⟩ ⟨rfl, rfl⟩ ⟨rfl, rfl⟩ ⟨rfl, rfl⟩ k hk
theorem col_bits {g : Int} {md : List Int} {k : Nat} (hk : k < 4) : ∀ x ∈ colF g md k, x = 0 ∨ x = 1 := by
  intro x hx
  rw [(col_at hk).2] at hx
  refine' hid fun kG_ => ?_
  obtain ⟨b, _, rfl⟩ := List.mem_map.mp hx
  refine' kG_ ?_
  clear kG_
  (first | lia | omega)
theorem col_len {g : Int} {md : List Int} {k : Nat} (hk : k < 4) : (colF g md k).length = md.length := by
  rw [(col_at hk).2, List.length_map]
noncomputable def minF (a b : Int) : Int := if b < a then b else a
noncomputable def costF (g : Int) (md : List Int) : List (Int × Int) := (List.range 4).map fun k => (absI ((md.length : Int) - 2 * (colF g md k).sum), (pw g).getD k 0)
theorem re_cost {L : Addr} {c6 c5 c4 c3 c2 c1 : Obj} {x ak pI pC pD p1 p2 p3 : Addr × Obj} {own tl : List (Addr × Obj)} : ∀ p ∈ pI :: pC :: pD :: led6 L c6 c5 c4 c3 c2 c1 (p1 :: p2 :: p3 :: ((x :: own) ++ tl)), p ∈ x :: ak :: pI :: pC :: pD :: led6 L c6 c5 c4 c3 c2 c1 (p1 :: p2 :: p3 :: (own ++ tl)) :=
  cons_all (P := (· ∈ x :: ak :: pI :: pC :: pD :: led6 L c6 c5 c4 c3 c2 c1 (p1 :: p2 :: p3 :: (own ++ tl)))) (by k_mem) (cons_all (by k_mem) (cons_all (by k_mem) (led6_all (by k_mem) (by k_mem) (by k_mem) (by k_mem) (by k_mem) (by k_mem) (cons_all (by k_mem) (cons_all (by k_mem) (cons_all (by k_mem) (cons_all (by k_mem) fun _ h => mem8 (mem6 h))))))))
theorem cost_at {g : Int} {md : List Int} {i : Nat} (h : i < 4) : (costF g md).take (i + 1) = (costF g md).take i ++ [(absI ((md.length : Int) - 2 * (colF g md i).sum), (pw g).getD i 0)] := by
  rw [List.take_add_one]
  congr 1
  simp [costF, h]
theorem pw_bd {g : Int} (h0 : 0 ≤ g) (h3 : g < 3) (k : Nat) (hk : k < 4) : 0 < (pw g).getD k 0 ∧ (pw g).getD k 0 < 65536 := by
  refine' hid fun kG_ => ?_
  obtain ⟨e, he, q⟩ := pw_pow (g := g) (i := k) (p := (pw g).getD k 0) h0 h3 (by simp [List.getD, pw, show k < 4 from hk])
  refine' kG_ ?_
  clear kG_
  rw [q]
  have : ∀ e : Fin 12, (0 : Int) < 2 ^ e.val ∧ (2 : Int) ^ e.val < 65536 := by decide +kernel
  exact this ⟨e, by (first | lia | omega)⟩
theorem cost_bd {g : Int} {md : List Int} (h0 : 0 ≤ g) (h3 : g < 3) : ∀ q ∈ costF g md, 0 ≤ q.2 ∧ q.2 < 65536 := by
  intro q hq
  refine' hid fun kG_ => ?_
  obtain ⟨k, hk, rfl⟩ := List.mem_map.mp hq
  refine' kG_ ?_
  clear kG_
  have := pw_bd h0 h3 k (List.mem_range.mp hk)
  exact ⟨Int.le_of_lt this.1, this.2⟩
theorem off1_all {D : Addr} : ∀ {l : List (Addr × Obj)}, LCg.Off1 D l → ∀ p ∈ l, @Ne Nat p.1 D
  | [], _, _, h => nomatch h
  | q :: r, h, p, hp => by
    rcases List.mem_cons.mp hp with rfl | hp
    · exact h.1
    · exact off1_all h.2 p hp
theorem abv_off {L D : Addr} {c6 c5 c4 c3 c2 c1 : Obj} {tl : List (Addr × Obj)} (h : LCg.Off1 D (led6 L c6 c5 c4 c3 c2 c1 tl)) : Six L D :=
  abv_ne (off1_all h _ (.head _)) (off1_all h _ (.tail _ (.head _))) (off1_all h _ (mem2 (.head _))) (off1_all h _ (mem3 (.head _))) (off1_all h _ (mem4 (.head _))) (off1_all h _ (mem5 (.head _)))
theorem list4 {α : Type} {l : List α} {a b c d : α} (h : l.length = 4) (h0 : l[0]? = some a) (h1 : l[1]? = some b) (h2 : l[2]? = some c) (h3 : l[3]? = some d) : l = [a, b, c, d] := by
  refine List.ext_getElem? fun i => ?_
  by_cases hi : i < 4
  · have q : i = 0 ∨ i = 1 ∨ i = 2 ∨ i = 3 := by (first | lia | omega)
    rcases q with rfl | rfl | rfl | rfl
    · exact h0
    · exact h1
    · exact h2
    · exact h3
  · rw [List.getElem?_eq_none (h ▸ Nat.not_lt.mp hi), List.getElem?_eq_none (show [a, b, c, d].length ≤ i from Nat.not_lt.mp hi)]
theorem list3_at {α : Type} {a b c d v u : α} {i : Nat} (h : i < 3) (e : [a, b, c].toArray[i]? = some v) (k : [a, b, c, d][i]? = some u) : v = u := by
  have q : i = 0 ∨ i = 1 ∨ i = 2 := by (first | lia | omega)
  rcases q with rfl | rfl | rfl
  · exact Option.some.inj (e.symm.trans k)
  · exact Option.some.inj (e.symm.trans k)
  · exact Option.some.inj (e.symm.trans k)
theorem known_eq {m : Str → Option Value} {ps : List (Str × Value)} (e : KnownAll m ps) : kstB m ps = m := funext fun _ => kstB_eq e.mem fun _ => rfl
theorem take_snoc {α β : Type} (f : α → β) {l : List α} {i : Nat} {x : α} (h : l[i]? = some x) : (l.take (i + 1)).map f = (l.take i).map f ++ [f x] := by
  rw [List.take_add_one, h, List.map_append]; rfl
theorem getD_some {α : Type} {l : List α} {i : Nat} {d : α} (h : i < l.length) : l[i]? = some (l.getD i d) := by simp [List.getD, h]
noncomputable def ringS (g : Int) : Str := if g = 2 then Str.ofString "-Ttx" else Str.ofString "-Ssx"
theorem strs_at {vs : List Value} {xs : List Str} (h : StrsAre vs xs) : ∀ (i : Nat) v, vs[i]? = some v → ∃ x t, v = .str x t ∧ xs[i]? = some x := by
  induction h with
  | nil => intro i v e; simp at e
  | cons x t _ ih =>
    intro i v e
    cases i with
    | zero => simp at e; exact ⟨x, t, e.symm, rfl⟩
    | succ i => simpa using ih i v (by simpa using e)
/-- what the three signs give -/
noncomputable def givF (x : Str) : List Bool := [Txt.item x 0 == Str.ofString "r", Txt.item x 1 == Str.ofString "w", !(Builtin.Str.occurrences (Str.ofString "xst") (Txt.item x 2) 0 (Str.ofString "xst").length 1).isEmpty]
theorem ne_bools3 {prog : Program} {w : World} {A : Around} {E : Value → Shared → Prop} {s : Shared} {a b : Addr} {b0 b1 b2 : Bool} {Q : Value → Shared → Prop} (hl : s.heap.IsList a [Value.bool b0, .bool b1, .bool b2].toArray) (hl' : s.heap.IsList b [Value.bool b0, .bool b1, .bool b2].toArray) (hu : A.units + 64 < cLine) (h : Q (.bool false) s) :
    wpAny (model prog w) A (compareOp .NotEq (.ref a) (.ref b)) Q E s := by
  refine' hid fun kG_ => ?_
  obtain ⟨o, ho, hc, n, hd⟩ := hl
  obtain ⟨o', ho', hc', n', hd'⟩ := hl'
  refine' kG_ ?_
  clear kG_
  refine ne_dataH_same (da := .list [.bool b0, .bool b1, .bool b2]) (db := .list [.bool b0, .bool b1, .bool b2]) (Reads.list ho hc hd (.cons (.bool b0) (.cons (.bool b1) (.cons (.bool b2) .nil)))) (Reads.list ho' hc' hd' (.cons (.bool b0) (.cons (.bool b1) (.cons (.bool b2) .nil)))) ?_ ?_ hu ?_ ?_
  · cases b0 <;> cases b1 <;> cases b2 <;> decide
  · cases b0 <;> cases b1 <;> cases b2 <;> decide
  · cases b0 <;> cases b1 <;> cases b2 <;> decide
  · have e : PySem.Spec.same (.list [.bool b0, .bool b1, .bool b2]) (.list [.bool b0, .bool b1, .bool b2]) = true := by cases b0 <;> cases b1 <;> cases b2 <;> decide
    rw [e]; exact h
theorem ms_sorted (cs : List Int) : (cs.mergeSort (fun a b => decide (a ≤ b))).Pairwise (· ≤ ·) := by
  have h := List.pairwise_mergeSort (le := fun (a b : Int) => decide (a ≤ b)) (fun a b c h1 h2 => by simp at *; (first | lia | omega)) (fun a b => by simp; (first | lia | omega)) cs
  exact h.imp (fun q => by simpa using q)
noncomputable def sgnF (g b : Int) : Str := Txt.slice (fmStr b) (some (1 + 3 * g)) (some (4 + 3 * g))

end
section
theorem modes_len {a : Int} {n : Nat} : min (2 + a % 2).toNat n + (0 + 1 + 1) ≤ 5 := Nat.le_trans (Nat.add_le_add_right (Nat.min_le_left _ _) _) (by (first | lia | omega))
noncomputable abbrev Post_modes (L ls : Addr) (c6 c5 c4 c3 c2 : Obj) (m' : Str → Option Value) (nx : List (Addr × Obj)) : Prop := KnownAll m' [(Str.ofString "script", .ref ls)] ∧ ∃ c1 lm vm nm md, nx = led6 L c6 c5 c4 c3 c2 c1 [(lm, W.listOf vm.toArray nm)] ∧ Above L [(lm, W.listOf vm.toArray nm)] ∧ c1.data = .cell (some (.ref lm)) ∧ IntsAre vm md ∧ 2 ≤ md.length ∧ md.length ≤ 5 ∧ ∀ x ∈ md, 0 ≤ x ∧ x < 65536
section
variable {w : World} {mean : ExcName → Option Value} {mg mb : Str → Option Value} {a : Addr} {ccd : Value} {h₀ : Heap} {L : Addr} {m : Str → Option Value} {s : Shared} {Q : Flow → Shared → Prop} {E : Value → Shared → Prop}
  {oc : Value} {od : Option Addr} {name qual : Str} {params : Arguments} {body : List Stmt} {scope : Scope} {dV kV doc pm cdv ct : Value} {an : Option Addr} {osl : Array (Option Value)} {st : Stmt}
set_option maxHeartbeats 4000000 in
theorem st_modes {ls : Addr} {vs : List Value} {sc : List Int} {c6 c5 c4 c3 c2 c1 : Obj} {v1 : Option Value} {ts : Tok}
    (ho : (hd.heap_39 w.params).lookup 145 = some ⟨oc, od, .func (fnOf name qual params body scope dV kV doc pm an cdv ct), osl⟩) (hst : body[0]? = some st)
    (B : Below callerA h₀ [] h₀) (X : (hd.heap_39 w.params).In h₀) (T : Top hd.view_39 lz mean mg mb h₀) (hl : h₀.IsList ls vs.toArray) (hi : IntsAre vs sc) (h63 : sc.length ≤ 63)
    (F : Fr h₀ L s.heap m) (hm : KnownAll m [(Str.ofString "script", .ref ls)]) (N : News h₀ L s.heap (led6 L c6 c5 c4 c3 c2 c1 [])) (d1 : c1.data = .cell v1) :
    wpAny (model prg w) (callerA.deeper (envOfC qual scope L a ccd)) (exec st (envOfC qual scope L a ccd))
      (StPost h₀ L (Post_modes L ls c6 c5 c4 c3 c2) s Q) E s := by
  revert X; unfold prg; w_top off; k_fill; intro X
  refine' fn_st ho hst ?e ?hb ?_
  case e => k_is
  case hb => exact rfl
  clear ho hst
  rintro rfl rfl rfl
  have F1 := fr_knownL hm F
  dsimp only [kstB] at F1
  clear F
  k_with_none
  k_with "ne" => (refine neN ?_; (try dsimp only); with_reducible first | assumption | exact Ne.symm (by assumption) | exact ne1 | exact ne1.symm | exact ne2 | exact ne2.symm | exact ne3 | exact ne3.symm | exact ne4 | exact ne4.symm | exact ne5 | exact ne5.symm | exact nl1 (by assumption) | exact nl2 (by assumption) | exact nl3 (by assumption) | exact (nl1 (by assumption)).symm | exact (nl2 (by assumption)).symm | exact (nl3 (by assumption)).symm | exact Nat.ne_of_lt (by assumption) | exact Nat.ne_of_gt (by assumption) | exact cj1 (by assumption) | exact Ne.symm (cj1 (by assumption)) | exact Nat.ne_of_lt (cj1 (by assumption)) | exact Nat.ne_of_gt (cj1 (by assumption)) | exact cj2 (by assumption) | exact Ne.symm (cj2 (by assumption)) | exact Nat.ne_of_lt (cj2 (by assumption)) | exact Nat.ne_of_gt (cj2 (by assumption)) | exact cj3 (by assumption) | exact Ne.symm (cj3 (by assumption)) | exact Nat.ne_of_lt (cj3 (by assumption)) | exact Nat.ne_of_gt (cj3 (by assumption)) | exact cj4 (by assumption) | exact Ne.symm (cj4 (by assumption)) | exact Nat.ne_of_lt (cj4 (by assumption)) | exact Nat.ne_of_gt (cj4 (by assumption)) | exact cj5 (by assumption) | exact Ne.symm (cj5 (by assumption)) | exact Nat.ne_of_lt (cj5 (by assumption)) | exact Nat.ne_of_gt (cj5 (by assumption)) | exact cj6 (by assumption) | exact Ne.symm (cj6 (by assumption)) | exact Nat.ne_of_lt (cj6 (by assumption)) | exact Nat.ne_of_gt (cj6 (by assumption)) | exact cj7 (by assumption) | exact Ne.symm (cj7 (by assumption)) | exact Nat.ne_of_lt (cj7 (by assumption)) | exact Nat.ne_of_gt (cj7 (by assumption)) | exact cj8 (by assumption) | exact Ne.symm (cj8 (by assumption)) | exact Nat.ne_of_lt (cj8 (by assumption)) | exact Nat.ne_of_gt (cj8 (by assumption)) | exact cj9 (by assumption) | exact Ne.symm (cj9 (by assumption)) | exact Nat.ne_of_lt (cj9 (by assumption)) | exact Nat.ne_of_gt (cj9 (by assumption)) | exact ej5 (by assumption) | exact Ne.symm (ej5 (by assumption)) | exact Nat.ne_of_lt (ej5 (by assumption)) | exact Nat.ne_of_gt (ej5 (by assumption)) | exact ej6 (by assumption) | exact Ne.symm (ej6 (by assumption)) | exact Nat.ne_of_lt (ej6 (by assumption)) | exact Nat.ne_of_gt (ej6 (by assumption)) | exact ej7 (by assumption) | exact Ne.symm (ej7 (by assumption)) | exact Nat.ne_of_lt (ej7 (by assumption)) | exact Nat.ne_of_gt (ej7 (by assumption)) | exact ej8 (by assumption) | exact Ne.symm (ej8 (by assumption)) | exact Nat.ne_of_lt (ej8 (by assumption)) | exact Nat.ne_of_gt (ej8 (by assumption)) | exact ej9 (by assumption) | exact Ne.symm (ej9 (by assumption)) | exact Nat.ne_of_lt (ej9 (by assumption)) | exact Nat.ne_of_gt (ej9 (by assumption)))
  k_with "binaryOp RShift int int" => (k_here; (with_reducible refine shr1 ?_))
  k_with "binaryOp Mod int int" => (k_here; (with_reducible refine mod_pos ?k1 ?_); (case k1 => decide))
  k_with "binaryOp FloorDiv int int" => (k_here; (with_reducible refine fdiv_pos ?k1 ?k2 ?_); (case k1 => decide); (case k2 => decide +kernel))
  k_with "call ref" => (k_here; refine wpAny_call ?_; k_dflt (refine' code_def ?k1 ?k2 ?k3 ?k4 ?k5 ?kA ?kF ?kK ?k6 ?k7 ?k8 ?k9 ?kB ?_ ?c2 ?c3 ?c4 ?c5; (case kA => exact rfl); (case kF => exact rfl); (case kK => first | exact rfl | assumption); (case k1 => k_asm); (case k2 => k_asm); (case k3 => k_asm); (case k4 => k_asm); (case k5 => k_asm); (case k6 => k_is); (case k7 => k_is); (case k8 => (first | exact unL2 (by assumption) rfl | exact unL1 (by assumption) rfl | exact unL0 (by assumption) | ktr_room)); (case k9 => exact BindsTo.of_eq rfl); (case c5 => decide); (case kB => exact locs rfl); (case c2 => exact rfl); (case c3 => exact rfl); (case c4 => exact rfl); k_whole; intro g' L' h' FG' F' N' B' X' T'; (try dsimp only); (try k_lift B'); (try k_fold)))
  k_with "execs cons" => (k_here; first | (k_made; walk_at "execs cons") | k_gentoks | ((with_reducible refine wpAny_execs_cons ?_); (try dsimp only); (try k_fold)))
  k_with "idx" => (first | with_reducible assumption | (first | lia | omega))
  k_with "upd" => (first | (refine' Pick.head ?a; (case a => k_all)) | (refine' Pick.tail ?a ?b; (case a => k_ne); (case b => k_upd)))
  k_with "eval ListComp" => (k_here; (with_reducible show wpAny _ _ (eval (PySem.Expr.ListComp _ [⟨PySem.Expr.Name _ _, _, [], 0⟩] _ _) _) _ _ _); k_dflt (refine LCg.ListComp_U (F₀ := by k_asm) (by with_unfolding_all rfl) (by decide) (by rfl) (by decide) (by rfl) ?_))
  k_with "CompSrc" => refine held ?_
  k_steps
  refine Held.out ?_
  unfold Held
  refine LCg.CompSrc.ledger (by rfl) (by k_asm) (by k_asm) (by k_mem) (by kcf_size) ?_
  intro g'
  refine kcf_list (fun q => q % 65536) (by assumption) (fun k' t' I' oI' C' oC' D' m' ys' h' tk' E' hk' hC' hx' F' N' off' ne' hMark' => ?_) ?_
  · simp only [LCg.Off3, and_true] at off'
    k_steps
  k_steps
  rename_i D _ _ o1 _ o _ _ dd
  dsimp only
  rename IntsAre ys _ => hI8
  refine WEnd.intro (nx := led6 L c6 c5 c4 c3 c2 o [(D, W.listOf ys.toArray ys.length)]) (by k_asm) (by k_asm) ?sub ⟨⟨rfl, trivial⟩, o, D, ys, ys.length, _, rfl, Above.cons ?ab Above.nil, dd, hI8, ?l2, ?l5, ?bd⟩
  case ab => exact abv_ne o1.2.2.2.1 o1.2.2.2.2.1 o1.2.2.2.2.2.1 o1.2.2.2.2.2.2.1 o1.2.2.2.2.2.2.2.1 o1.2.2.2.2.2.2.2.2
  case sub =>
    exact led6_all (by k_mem) (by k_mem) (by k_mem) (by k_mem) (by k_mem) (by k_mem) (cons_all (by k_mem) fun p hp => nomatch hp)
  case l2 => simp only [List.length_map, List.length_append, List.length_cons, List.length_nil]; exact Nat.le_add_left _ _
  case l5 => simp only [List.length_map, List.length_append, List.length_cons, List.length_nil, List.length_take]; exact modes_len
  case bd =>
    intro x hx
    refine' hid fun kG_ => ?_
    obtain ⟨y, _, rfl⟩ := List.mem_map.mp hx
    refine' kG_ ?_
    clear kG_
    exact ⟨Int.emod_nonneg _ (by decide), Int.emod_lt_of_pos _ (by decide)⟩
end

end
section
inductive Post_group (L : Addr) (c6 : Obj) (c5 : Obj) (c4 : Obj) (c3 : Obj) (c2 : Obj) (c1 : Obj) (tl : List (Addr × Obj)) (m' : Str → Option Value) (nx : List (Addr × Obj)) : Prop
  | mk (c2 g t : _) (_ : nx = led6 L c6 c5 c4 c3 c2 c1 tl) (_ : c2.data = .cell (some (.int g t))) (_ : 0 ≤ g) (_ : g < 3)
section
variable {w : World} {mean : ExcName → Option Value} {mg mb : Str → Option Value} {a : Addr} {ccd : Value} {h₀ : Heap} {L : Addr} {m : Str → Option Value} {s : Shared} {Q : Flow → Shared → Prop} {E : Value → Shared → Prop}
  {oc : Value} {od : Option Addr} {name qual : Str} {params : Arguments} {body : List Stmt} {scope : Scope} {dV kV doc pm cdv ct : Value} {an : Option Addr} {osl : Array (Option Value)} {st : Stmt}

set_option maxHeartbeats 8000000 in
theorem st_group {ls : Addr} {vs : List Value} {sc : List Int} {c6 c5 c4 c3 c2 c1 : Obj} {v2 : Option Value} {tl : List (Addr × Obj)}
    (ho : (hd.heap_39 w.params).lookup 145 = some ⟨oc, od, .func (fnOf name qual params body scope dV kV doc pm an cdv ct), osl⟩) (hst : body[1]? = some st)
    (B : Below callerA h₀ [] h₀) (X : (hd.heap_39 w.params).In h₀) (T : Top hd.view_39 lz mean mg mb h₀) (F : Fr h₀ L s.heap m)
    (hl : h₀.IsList ls vs.toArray) (hi : IntsAre vs sc) (h63 : sc.length ≤ 63) (hm : KnownAll m [(Str.ofString "script", .ref ls)]) (N : News h₀ L s.heap (led6 L c6 c5 c4 c3 c2 c1 tl)) (hab : Above L tl) (d2 : c2.data = .cell v2) :
    wpAny (model prg w) (callerA.deeper (envOfC qual scope L a ccd)) (exec st (envOfC qual scope L a ccd))
      (StPost h₀ L (Post_group L c6 c5 c4 c3 c2 c1 tl) s Q) E s := by
  revert X; unfold prg; w_top off; k_fill; intro X
  refine' fn_st ho hst ?e ?hb ?_
  case e => k_is
  case hb => exact rfl
  clear ho hst
  rintro rfl rfl rfl
  have F1 := fr_knownL hm F
  dsimp only [kstB] at F1
  clear F
  have a2 := hab.ne2
  k_with_none
  k_with "ne" => (refine neN ?_; (try dsimp only); with_reducible first | assumption | exact Ne.symm (by assumption) | exact ne1 | exact ne1.symm | exact ne2 | exact ne2.symm | exact ne3 | exact ne3.symm | exact ne4 | exact ne4.symm | exact ne5 | exact ne5.symm | exact nl1 (by assumption) | exact nl2 (by assumption) | exact nl3 (by assumption) | exact (nl1 (by assumption)).symm | exact (nl2 (by assumption)).symm | exact (nl3 (by assumption)).symm | exact Nat.ne_of_lt (by assumption) | exact Nat.ne_of_gt (by assumption) | exact cj1 (by assumption) | exact Ne.symm (cj1 (by assumption)) | exact Nat.ne_of_lt (cj1 (by assumption)) | exact Nat.ne_of_gt (cj1 (by assumption)) | exact cj2 (by assumption) | exact Ne.symm (cj2 (by assumption)) | exact Nat.ne_of_lt (cj2 (by assumption)) | exact Nat.ne_of_gt (cj2 (by assumption)) | exact cj3 (by assumption) | exact Ne.symm (cj3 (by assumption)) | exact Nat.ne_of_lt (cj3 (by assumption)) | exact Nat.ne_of_gt (cj3 (by assumption)) | exact cj4 (by assumption) | exact Ne.symm (cj4 (by assumption)) | exact Nat.ne_of_lt (cj4 (by assumption)) | exact Nat.ne_of_gt (cj4 (by assumption)) | exact cj5 (by assumption) | exact Ne.symm (cj5 (by assumption)) | exact Nat.ne_of_lt (cj5 (by assumption)) | exact Nat.ne_of_gt (cj5 (by assumption)) | exact cj6 (by assumption) | exact Ne.symm (cj6 (by assumption)) | exact Nat.ne_of_lt (cj6 (by assumption)) | exact Nat.ne_of_gt (cj6 (by assumption)) | exact cj7 (by assumption) | exact Ne.symm (cj7 (by assumption)) | exact Nat.ne_of_lt (cj7 (by assumption)) | exact Nat.ne_of_gt (cj7 (by assumption)) | exact cj8 (by assumption) | exact Ne.symm (cj8 (by assumption)) | exact Nat.ne_of_lt (cj8 (by assumption)) | exact Nat.ne_of_gt (cj8 (by assumption)) | exact cj9 (by assumption) | exact Ne.symm (cj9 (by assumption)) | exact Nat.ne_of_lt (cj9 (by assumption)) | exact Nat.ne_of_gt (cj9 (by assumption)) | exact ej5 (by assumption) | exact Ne.symm (ej5 (by assumption)) | exact Nat.ne_of_lt (ej5 (by assumption)) | exact Nat.ne_of_gt (ej5 (by assumption)) | exact ej6 (by assumption) | exact Ne.symm (ej6 (by assumption)) | exact Nat.ne_of_lt (ej6 (by assumption)) | exact Nat.ne_of_gt (ej6 (by assumption)) | exact ej7 (by assumption) | exact Ne.symm (ej7 (by assumption)) | exact Nat.ne_of_lt (ej7 (by assumption)) | exact Nat.ne_of_gt (ej7 (by assumption)) | exact ej8 (by assumption) | exact Ne.symm (ej8 (by assumption)) | exact Nat.ne_of_lt (ej8 (by assumption)) | exact Nat.ne_of_gt (ej8 (by assumption)) | exact ej9 (by assumption) | exact Ne.symm (ej9 (by assumption)) | exact Nat.ne_of_lt (ej9 (by assumption)) | exact Nat.ne_of_gt (ej9 (by assumption)))
  k_with "binaryOp RShift int int" => (k_here; (with_reducible refine shr1 ?_))
  k_with "binaryOp Mod int int" => (k_here; (with_reducible refine mod_pos ?k1 ?_); (case k1 => decide))
  k_with "binaryOp FloorDiv int int" => (k_here; (with_reducible refine fdiv_pos ?k1 ?k2 ?_); (case k1 => decide); (case k2 => decide +kernel))
  k_with "call ref" => (k_here; refine wpAny_call ?_; k_dflt (refine' code_def ?k1 ?k2 ?k3 ?k4 ?k5 ?kA ?kF ?kK ?k6 ?k7 ?k8 ?k9 ?kB ?_ ?c2 ?c3 ?c4 ?c5; (case kA => exact rfl); (case kF => exact rfl); (case kK => first | exact rfl | assumption); (case k1 => k_asm); (case k2 => k_asm); (case k3 => k_asm); (case k4 => k_asm); (case k5 => k_asm); (case k6 => k_is); (case k7 => k_is); (case k8 => (first | exact unL2 (by assumption) rfl | exact unL1 (by assumption) rfl | exact unL0 (by assumption) | ktr_room)); (case k9 => exact BindsTo.of_eq rfl); (case c5 => decide); (case kB => exact locs rfl); (case c2 => exact rfl); (case c3 => exact rfl); (case c4 => exact rfl); k_whole; intro g' L' h' FG' F' N' B' X' T'; (try dsimp only); (try k_lift B'); (try k_fold)))
  k_with "execs cons" => (k_here; first | (k_made; walk_at "execs cons") | k_gentoks | ((with_reducible refine wpAny_execs_cons ?_); (try dsimp only); (try k_fold)))
  k_with "idx" => (first | with_reducible assumption | (first | lia | omega))
  k_with "upd" => (first | (refine' Pick.head ?a; (case a => k_all)) | (refine' Pick.tail ?a ?b; (case a => k_ne); (case b => k_upd)))
  k_steps
  dsimp only
  refine WEnd.intro (by k_asm) (by k_asm) (fun p hp => hp) ⟨_, _, _, rfl, by assumption, by (first | lia | omega), by (first | lia | omega)⟩
end

end
section
inductive Post_powers (L : Addr) (c6 : Obj) (c5 : Obj) (c4 : Obj) (c3 : Obj) (c2 : Obj) (c1 : Obj) (tl : List (Addr × Obj)) (g : Int) (m' : Str → Option Value) (nx : List (Addr × Obj)) : Prop
  | mk (c3 lp vp np : _) (_ : nx = led6 L c6 c5 c4 c3 c2 c1 ((lp, W.listOf vp.toArray np) :: tl)) (_ : Above L ((lp, W.listOf vp.toArray np) :: tl)) (_ : c3.data = .cell (some (.ref lp))) (_ : IntsAre vp (pw g))
section
variable {w : World} {mean : ExcName → Option Value} {mg mb : Str → Option Value} {a : Addr} {ccd : Value} {h₀ : Heap} {L : Addr} {m : Str → Option Value} {s : Shared} {Q : Flow → Shared → Prop} {E : Value → Shared → Prop}
  {oc : Value} {od : Option Addr} {name qual : Str} {params : Arguments} {body : List Stmt} {scope : Scope} {dV kV doc pm cdv ct : Value} {an : Option Addr} {osl : Array (Option Value)} {st : Stmt}
set_option maxHeartbeats 8000000 in
theorem st_powers {c6 c5 c4 c3 c2 c1 : Obj} {v3 : Option Value} {tl : List (Addr × Obj)} {g : Int} {tg : Tok}
    (ho : (hd.heap_39 w.params).lookup 145 = some ⟨oc, od, .func (fnOf name qual params body scope dV kV doc pm an cdv ct), osl⟩) (hst : body[2]? = some st)
    (B : Below callerA h₀ [] h₀) (X : (hd.heap_39 w.params).In h₀) (T : Top hd.view_39 lz mean mg mb h₀) (F : Fr h₀ L s.heap m)
    (N : News h₀ L s.heap (led6 L c6 c5 c4 c3 c2 c1 tl)) (hab : Above L tl) (d2 : c2.data = .cell (some (.int g tg))) (d3 : c3.data = .cell v3) (hg0 : 0 ≤ g) (hg3 : g < 3) :
    wpAny (model prg w) (callerA.deeper (envOfC qual scope L a ccd)) (exec st (envOfC qual scope L a ccd))
      (StPost h₀ L (Post_powers L c6 c5 c4 c3 c2 c1 tl g) s Q) E s := by
  revert X; unfold prg; w_top off; k_fill; intro X
  refine' fn_st ho hst ?e ?hb ?_
  case e => k_is
  case hb => exact rfl
  clear ho hst
  rintro rfl rfl rfl
  have a3 := hab.ne3
  k_with_none
  k_with "ne" => (refine neN ?_; (try dsimp only); with_reducible first | assumption | exact Ne.symm (by assumption) | exact ne1 | exact ne1.symm | exact ne2 | exact ne2.symm | exact ne3 | exact ne3.symm | exact ne4 | exact ne4.symm | exact ne5 | exact ne5.symm | exact nl1 (by assumption) | exact nl2 (by assumption) | exact nl3 (by assumption) | exact (nl1 (by assumption)).symm | exact (nl2 (by assumption)).symm | exact (nl3 (by assumption)).symm | exact Nat.ne_of_lt (by assumption) | exact Nat.ne_of_gt (by assumption) | exact cj1 (by assumption) | exact Ne.symm (cj1 (by assumption)) | exact Nat.ne_of_lt (cj1 (by assumption)) | exact Nat.ne_of_gt (cj1 (by assumption)) | exact cj2 (by assumption) | exact Ne.symm (cj2 (by assumption)) | exact Nat.ne_of_lt (cj2 (by assumption)) | exact Nat.ne_of_gt (cj2 (by assumption)) | exact cj3 (by assumption) | exact Ne.symm (cj3 (by assumption)) | exact Nat.ne_of_lt (cj3 (by assumption)) | exact Nat.ne_of_gt (cj3 (by assumption)) | exact cj4 (by assumption) | exact Ne.symm (cj4 (by assumption)) | exact Nat.ne_of_lt (cj4 (by assumption)) | exact Nat.ne_of_gt (cj4 (by assumption)) | exact cj5 (by assumption) | exact Ne.symm (cj5 (by assumption)) | exact Nat.ne_of_lt (cj5 (by assumption)) | exact Nat.ne_of_gt (cj5 (by assumption)) | exact cj6 (by assumption) | exact Ne.symm (cj6 (by assumption)) | exact Nat.ne_of_lt (cj6 (by assumption)) | exact Nat.ne_of_gt (cj6 (by assumption)) | exact cj7 (by assumption) | exact Ne.symm (cj7 (by assumption)) | exact Nat.ne_of_lt (cj7 (by assumption)) | exact Nat.ne_of_gt (cj7 (by assumption)) | exact cj8 (by assumption) | exact Ne.symm (cj8 (by assumption)) | exact Nat.ne_of_lt (cj8 (by assumption)) | exact Nat.ne_of_gt (cj8 (by assumption)) | exact cj9 (by assumption) | exact Ne.symm (cj9 (by assumption)) | exact Nat.ne_of_lt (cj9 (by assumption)) | exact Nat.ne_of_gt (cj9 (by assumption)) | exact ej5 (by assumption) | exact Ne.symm (ej5 (by assumption)) | exact Nat.ne_of_lt (ej5 (by assumption)) | exact Nat.ne_of_gt (ej5 (by assumption)) | exact ej6 (by assumption) | exact Ne.symm (ej6 (by assumption)) | exact Nat.ne_of_lt (ej6 (by assumption)) | exact Nat.ne_of_gt (ej6 (by assumption)) | exact ej7 (by assumption) | exact Ne.symm (ej7 (by assumption)) | exact Nat.ne_of_lt (ej7 (by assumption)) | exact Nat.ne_of_gt (ej7 (by assumption)) | exact ej8 (by assumption) | exact Ne.symm (ej8 (by assumption)) | exact Nat.ne_of_lt (ej8 (by assumption)) | exact Nat.ne_of_gt (ej8 (by assumption)) | exact ej9 (by assumption) | exact Ne.symm (ej9 (by assumption)) | exact Nat.ne_of_lt (ej9 (by assumption)) | exact Nat.ne_of_gt (ej9 (by assumption)))
  k_with "binaryOp RShift int int" => (k_here; (with_reducible refine shr1 ?_))
  k_with "binaryOp Mod int int" => (k_here; (with_reducible refine mod_pos ?k1 ?_); (case k1 => decide))
  k_with "binaryOp FloorDiv int int" => (k_here; (with_reducible refine fdiv_pos ?k1 ?k2 ?_); (case k1 => decide); (case k2 => decide +kernel))
  k_with "call ref" => (k_here; refine wpAny_call ?_; k_dflt (refine' code_def ?k1 ?k2 ?k3 ?k4 ?k5 ?kA ?kF ?kK ?k6 ?k7 ?k8 ?k9 ?kB ?_ ?c2 ?c3 ?c4 ?c5; (case kA => exact rfl); (case kF => exact rfl); (case kK => first | exact rfl | assumption); (case k1 => k_asm); (case k2 => k_asm); (case k3 => k_asm); (case k4 => k_asm); (case k5 => k_asm); (case k6 => k_is); (case k7 => k_is); (case k8 => (first | exact unL2 (by assumption) rfl | exact unL1 (by assumption) rfl | exact unL0 (by assumption) | ktr_room)); (case k9 => exact BindsTo.of_eq rfl); (case c5 => decide); (case kB => exact locs rfl); (case c2 => exact rfl); (case c3 => exact rfl); (case c4 => exact rfl); k_whole; intro g' L' h' FG' F' N' B' X' T'; (try dsimp only); (try k_lift B'); (try k_fold)))
  k_with "execs cons" => (k_here; first | (k_made; walk_at "execs cons") | k_gentoks | ((with_reducible refine wpAny_execs_cons ?_); (try dsimp only); (try k_fold)))
  k_with "idx" => (first | with_reducible assumption | (first | lia | omega))
  k_with "upd" => (first | (refine' Pick.head ?a; (case a => k_all)) | (refine' Pick.tail ?a ?b; (case a => k_ne); (case b => k_upd)))
  k_with "binaryOp Pow int int" => (k_here; (refine pow_int_small ?k1 ?k2 ?k3 ?_); (case k1 => (first | lia | omega)); (case k2 => (first | lia | omega)); (case k3 => decide))
  k_steps
  rename News _ _ _ _ => N9
  rename_i lp _ l1 _ o _ dd
  dsimp only
  exact WEnd.intro (by k_asm) N9 led6_new ⟨o, lp, _, 0, rfl, Above.cons (abv_gt (by (first | lia | omega))) hab, dd, .cons _ _ (.cons _ _ (.cons _ _ (.cons _ _ .nil)))⟩
end

end
section
noncomputable abbrev J_columns (L : Addr) (c6 c5 c4 c3 c2 c1 : Obj) (tl : List (Addr × Obj)) (g : Int) (lm lp : Addr) (vm vp : List Value) (nm np : Nat) (md : List Int) (i : Nat) (ys : List Value) (nx : List (Addr × Obj)) : Prop := ∃ own, nx = led6 L c6 c5 c4 c3 c2 c1 ((lm, W.listOf vm.toArray nm) :: (lp, W.listOf vp.toArray np) :: (own ++ tl)) ∧ Above L own ∧ ColsP own ys (((pw g).map fun p => md.map fun b => b / p % 2).take i)
inductive Post_columns (L : Addr) (c6 : Obj) (c5 : Obj) (c4 : Obj) (c3 : Obj) (c2 : Obj) (c1 : Obj) (tl : List (Addr × Obj)) (g : Int) (md : List Int) (m' : Str → Option Value) (nx : List (Addr × Obj)) : Prop
  | mk (c4 lc vc nc own : _) (_ : nx = led6 L c6 c5 c4 c3 c2 c1 ((lc, W.listOf vc.toArray nc) :: (own ++ tl))) (_ : Above L ((lc, W.listOf vc.toArray nc) :: (own ++ tl))) (_ : c4.data = .cell (some (.ref lc))) (_ : ColsP ((lc, W.listOf vc.toArray nc) :: (own ++ tl)) vc ((pw g).map fun p => md.map fun b => b / p % 2))
section
variable {w : World} {mean : ExcName → Option Value} {mg mb : Str → Option Value} {a : Addr} {ccd : Value} {h₀ : Heap} {L : Addr} {m : Str → Option Value} {s : Shared} {Q : Flow → Shared → Prop} {E : Value → Shared → Prop}
  {oc : Value} {od : Option Addr} {name qual : Str} {params : Arguments} {body : List Stmt} {scope : Scope} {dV kV doc pm cdv ct : Value} {an : Option Addr} {osl : Array (Option Value)} {st : Stmt}
set_option maxHeartbeats 8000000 in
theorem st_columns {c6 c5 c4 c3 c2 c1 : Obj} {v4 : Option Value} {tl : List (Addr × Obj)} {g : Int} {lm lp : Addr} {vm vp : List Value} {nm np : Nat} {md : List Int}
    (ho : (hd.heap_39 w.params).lookup 145 = some ⟨oc, od, .func (fnOf name qual params body scope dV kV doc pm an cdv ct), osl⟩) (hst : body[3]? = some st)
    (B : Below callerA h₀ [] h₀) (X : (hd.heap_39 w.params).In h₀) (T : Top hd.view_39 lz mean mg mb h₀) (F : Fr h₀ L s.heap m)
    (N : News h₀ L s.heap (led6 L c6 c5 c4 c3 c2 c1 tl)) (hab : Above L tl) (d1 : c1.data = .cell (some (.ref lm))) (d3 : c3.data = .cell (some (.ref lp))) (d4 : c4.data = .cell v4) (hg0 : 0 ≤ g) (hg3 : g < 3)
    (hlm : (lm, W.listOf vm.toArray nm) ∈ tl) (him : IntsAre vm md) (h5 : md.length ≤ 5) (hlp : (lp, W.listOf vp.toArray np) ∈ tl) (hip : IntsAre vp (pw g)) :
    wpAny (model prg w) (callerA.deeper (envOfC qual scope L a ccd)) (exec st (envOfC qual scope L a ccd))
      (StPost h₀ L (Post_columns L c6 c5 c4 c3 c2 c1 tl g md) s Q) E s := by
  revert X; unfold prg; w_top off; k_fill; intro X
  refine' fn_st ho hst ?e ?hb ?_
  case e => k_is
  case hb => exact rfl
  clear ho hst
  rintro rfl rfl rfl
  have a4 := hab.ne4
  replace N : News h₀ L s.heap (led6 L c6 c5 c4 c3 c2 c1 ((lm, W.listOf vm.toArray nm) :: (lp, W.listOf vp.toArray np) :: tl)) := fun p hp => N p (led6_tl (fun q hq => by
    rcases List.mem_cons.mp hq with rfl | hq
    · exact hlm
    · rcases List.mem_cons.mp hq with rfl | hq
      · exact hlp
      · exact hq) p hp)
  have am := hab _ hlm
  have ap := hab _ hlp
  dsimp only at am ap
  have hml := him.length
  k_with_none
  k_with "ne" => (refine neN ?_; (try dsimp only); with_reducible first | assumption | exact Ne.symm (by assumption) | exact ne1 | exact ne1.symm | exact ne2 | exact ne2.symm | exact ne3 | exact ne3.symm | exact ne4 | exact ne4.symm | exact ne5 | exact ne5.symm | exact nl1 (by assumption) | exact nl2 (by assumption) | exact nl3 (by assumption) | exact (nl1 (by assumption)).symm | exact (nl2 (by assumption)).symm | exact (nl3 (by assumption)).symm | exact Nat.ne_of_lt (by assumption) | exact Nat.ne_of_gt (by assumption) | exact cj1 (by assumption) | exact Ne.symm (cj1 (by assumption)) | exact Nat.ne_of_lt (cj1 (by assumption)) | exact Nat.ne_of_gt (cj1 (by assumption)) | exact cj2 (by assumption) | exact Ne.symm (cj2 (by assumption)) | exact Nat.ne_of_lt (cj2 (by assumption)) | exact Nat.ne_of_gt (cj2 (by assumption)) | exact cj3 (by assumption) | exact Ne.symm (cj3 (by assumption)) | exact Nat.ne_of_lt (cj3 (by assumption)) | exact Nat.ne_of_gt (cj3 (by assumption)) | exact cj4 (by assumption) | exact Ne.symm (cj4 (by assumption)) | exact Nat.ne_of_lt (cj4 (by assumption)) | exact Nat.ne_of_gt (cj4 (by assumption)) | exact cj5 (by assumption) | exact Ne.symm (cj5 (by assumption)) | exact Nat.ne_of_lt (cj5 (by assumption)) | exact Nat.ne_of_gt (cj5 (by assumption)) | exact cj6 (by assumption) | exact Ne.symm (cj6 (by assumption)) | exact Nat.ne_of_lt (cj6 (by assumption)) | exact Nat.ne_of_gt (cj6 (by assumption)) | exact cj7 (by assumption) | exact Ne.symm (cj7 (by assumption)) | exact Nat.ne_of_lt (cj7 (by assumption)) | exact Nat.ne_of_gt (cj7 (by assumption)) | exact cj8 (by assumption) | exact Ne.symm (cj8 (by assumption)) | exact Nat.ne_of_lt (cj8 (by assumption)) | exact Nat.ne_of_gt (cj8 (by assumption)) | exact cj9 (by assumption) | exact Ne.symm (cj9 (by assumption)) | exact Nat.ne_of_lt (cj9 (by assumption)) | exact Nat.ne_of_gt (cj9 (by assumption)) | exact ej5 (by assumption) | exact Ne.symm (ej5 (by assumption)) | exact Nat.ne_of_lt (ej5 (by assumption)) | exact Nat.ne_of_gt (ej5 (by assumption)) | exact ej6 (by assumption) | exact Ne.symm (ej6 (by assumption)) | exact Nat.ne_of_lt (ej6 (by assumption)) | exact Nat.ne_of_gt (ej6 (by assumption)) | exact ej7 (by assumption) | exact Ne.symm (ej7 (by assumption)) | exact Nat.ne_of_lt (ej7 (by assumption)) | exact Nat.ne_of_gt (ej7 (by assumption)) | exact ej8 (by assumption) | exact Ne.symm (ej8 (by assumption)) | exact Nat.ne_of_lt (ej8 (by assumption)) | exact Nat.ne_of_gt (ej8 (by assumption)) | exact ej9 (by assumption) | exact Ne.symm (ej9 (by assumption)) | exact Nat.ne_of_lt (ej9 (by assumption)) | exact Nat.ne_of_gt (ej9 (by assumption)))
  k_with "binaryOp RShift int int" => (k_here; (with_reducible refine shr1 ?_))
  k_with "binaryOp Mod int int" => (k_here; (with_reducible refine mod_pos ?k1 ?_); (case k1 => decide))
  k_with "call ref" => (k_here; refine wpAny_call ?_; k_dflt (refine' code_def ?k1 ?k2 ?k3 ?k4 ?k5 ?kA ?kF ?kK ?k6 ?k7 ?k8 ?k9 ?kB ?_ ?c2 ?c3 ?c4 ?c5; (case kA => exact rfl); (case kF => exact rfl); (case kK => first | exact rfl | assumption); (case k1 => k_asm); (case k2 => k_asm); (case k3 => k_asm); (case k4 => k_asm); (case k5 => k_asm); (case k6 => k_is); (case k7 => k_is); (case k8 => (first | exact unL2 (by assumption) rfl | exact unL1 (by assumption) rfl | exact unL0 (by assumption) | ktr_room)); (case k9 => exact BindsTo.of_eq rfl); (case c5 => decide); (case kB => exact locs rfl); (case c2 => exact rfl); (case c3 => exact rfl); (case c4 => exact rfl); k_whole; intro g' L' h' FG' F' N' B' X' T'; (try dsimp only); (try k_lift B'); (try k_fold)))
  k_with "execs cons" => (k_here; first | (k_made; walk_at "execs cons") | k_gentoks | ((with_reducible refine wpAny_execs_cons ?_); (try dsimp only); (try k_fold)))
  k_with "idx" => (first | with_reducible assumption | (first | lia | omega))
  k_with "upd" => (first | (refine' Pick.head ?a; (case a => k_all)) | (refine' Pick.tail ?a ?b; (case a => k_ne); (case b => k_upd)))
  k_with "eval ListComp" => (k_here; (with_reducible show wpAny _ _ (eval (PySem.Expr.ListComp _ [⟨PySem.Expr.Name _ _, _, [], 0⟩] _ _) _) _ _ _); k_dflt (refine ListComp_C (_F₀ := by k_asm) (by with_unfolding_all rfl) (by rfl) (by decide) ?_))
  k_with "eval ListComp" => (k_here; (with_reducible show wpAny _ _ (eval (PySem.Expr.ListComp _ [⟨PySem.Expr.Name _ _, _, [], 0⟩] _ _) _) _ _ _); k_dflt (refine LCg.ListComp_U (F₀ := by k_asm) (by with_unfolding_all rfl) (by decide) (by rfl) (by decide) (by rfl) ?_))
  k_steps
  refine CellSrc.list (J_columns L c6 c5 c4 c3 c2 c1 tl g lm lp vm vp nm np md) rfl (fun _ => rfl) (fun _ => rfl) rfl (by with_unfolding_all rfl) F N (led6_in (.tail _ (.head _))) (by rw [hip.length, sizeLine_eq]; show 4 ≤ _; (first | lia | omega)) ⟨[], rfl, Above.nil, .nil⟩ ?hkeep ?turn ?done
  case hkeep =>
    intro i ys nx hJ_
    refine' hid fun kG_ => ?_
    obtain ⟨own, rfl, _⟩ := hJ_
    refine' kG_ ?_
    clear kG_
    exact led6_in (.tail _ (.head _))
  case turn =>
    intro i v ys nx I oI C oC D K oK g1 h tk E' hv hJ hoK F2 N2 off ne
    refine' hid fun kG_ => ?_
    obtain ⟨own, rfl, hown, hcols⟩ := hJ
    obtain ⟨p, t, rfl, hpi⟩ := IntsAre.at hip i v hv
    obtain ⟨e, he, rfl⟩ := pw_pow hg0 hg3 hpi
    refine' kG_ ?_
    clear kG_
    clear F N
    k_with_none
    k_with "ne" => (refine neN ?_; (try dsimp only); with_reducible first | assumption | exact Ne.symm (by assumption) | exact ne1 | exact ne1.symm | exact ne2 | exact ne2.symm | exact ne3 | exact ne3.symm | exact ne4 | exact ne4.symm | exact ne5 | exact ne5.symm | exact nl1 (by assumption) | exact nl2 (by assumption) | exact nl3 (by assumption) | exact (nl1 (by assumption)).symm | exact (nl2 (by assumption)).symm | exact (nl3 (by assumption)).symm | exact Nat.ne_of_lt (by assumption) | exact Nat.ne_of_gt (by assumption) | exact cj1 (by assumption) | exact Ne.symm (cj1 (by assumption)) | exact Nat.ne_of_lt (cj1 (by assumption)) | exact Nat.ne_of_gt (cj1 (by assumption)) | exact cj2 (by assumption) | exact Ne.symm (cj2 (by assumption)) | exact Nat.ne_of_lt (cj2 (by assumption)) | exact Nat.ne_of_gt (cj2 (by assumption)) | exact cj3 (by assumption) | exact Ne.symm (cj3 (by assumption)) | exact Nat.ne_of_lt (cj3 (by assumption)) | exact Nat.ne_of_gt (cj3 (by assumption)) | exact cj4 (by assumption) | exact Ne.symm (cj4 (by assumption)) | exact Nat.ne_of_lt (cj4 (by assumption)) | exact Nat.ne_of_gt (cj4 (by assumption)) | exact cj5 (by assumption) | exact Ne.symm (cj5 (by assumption)) | exact Nat.ne_of_lt (cj5 (by assumption)) | exact Nat.ne_of_gt (cj5 (by assumption)) | exact cj6 (by assumption) | exact Ne.symm (cj6 (by assumption)) | exact Nat.ne_of_lt (cj6 (by assumption)) | exact Nat.ne_of_gt (cj6 (by assumption)) | exact cj7 (by assumption) | exact Ne.symm (cj7 (by assumption)) | exact Nat.ne_of_lt (cj7 (by assumption)) | exact Nat.ne_of_gt (cj7 (by assumption)) | exact cj8 (by assumption) | exact Ne.symm (cj8 (by assumption)) | exact Nat.ne_of_lt (cj8 (by assumption)) | exact Nat.ne_of_gt (cj8 (by assumption)) | exact cj9 (by assumption) | exact Ne.symm (cj9 (by assumption)) | exact Nat.ne_of_lt (cj9 (by assumption)) | exact Nat.ne_of_gt (cj9 (by assumption)) | exact ej5 (by assumption) | exact Ne.symm (ej5 (by assumption)) | exact Nat.ne_of_lt (ej5 (by assumption)) | exact Nat.ne_of_gt (ej5 (by assumption)) | exact ej6 (by assumption) | exact Ne.symm (ej6 (by assumption)) | exact Nat.ne_of_lt (ej6 (by assumption)) | exact Nat.ne_of_gt (ej6 (by assumption)) | exact ej7 (by assumption) | exact Ne.symm (ej7 (by assumption)) | exact Nat.ne_of_lt (ej7 (by assumption)) | exact Nat.ne_of_gt (ej7 (by assumption)) | exact ej8 (by assumption) | exact Ne.symm (ej8 (by assumption)) | exact Nat.ne_of_lt (ej8 (by assumption)) | exact Nat.ne_of_gt (ej8 (by assumption)) | exact ej9 (by assumption) | exact Ne.symm (ej9 (by assumption)) | exact Nat.ne_of_lt (ej9 (by assumption)) | exact Nat.ne_of_gt (ej9 (by assumption)))
    k_with "binaryOp RShift int int" => (k_here; (with_reducible refine shr1 ?_))
    k_with "binaryOp Mod int int" => (k_here; (with_reducible refine mod_pos ?k1 ?_); (case k1 => decide))
    k_with "call ref" => (k_here; refine wpAny_call ?_; k_dflt (refine' code_def ?k1 ?k2 ?k3 ?k4 ?k5 ?kA ?kF ?kK ?k6 ?k7 ?k8 ?k9 ?kB ?_ ?c2 ?c3 ?c4 ?c5; (case kA => exact rfl); (case kF => exact rfl); (case kK => first | exact rfl | assumption); (case k1 => k_asm); (case k2 => k_asm); (case k3 => k_asm); (case k4 => k_asm); (case k5 => k_asm); (case k6 => k_is); (case k7 => k_is); (case k8 => (first | exact unL2 (by assumption) rfl | exact unL1 (by assumption) rfl | exact unL0 (by assumption) | ktr_room)); (case k9 => exact BindsTo.of_eq rfl); (case c5 => decide); (case kB => exact locs rfl); (case c2 => exact rfl); (case c3 => exact rfl); (case c4 => exact rfl); k_whole; intro g' L' h' FG' F' N' B' X' T'; (try dsimp only); (try k_lift B'); (try k_fold)))
    k_with "execs cons" => (k_here; first | (k_made; walk_at "execs cons") | k_gentoks | ((with_reducible refine wpAny_execs_cons ?_); (try dsimp only); (try k_fold)))
    k_with "idx" => (first | with_reducible assumption | (first | lia | omega))
    k_with "upd" => (first | (refine' Pick.head ?a; (case a => k_all)) | (refine' Pick.tail ?a ?b; (case a => k_ne); (case b => k_upd)))
    k_with "eval ListComp" => (k_here; (with_reducible show wpAny _ _ (eval (PySem.Expr.ListComp _ [⟨PySem.Expr.Name _ _, _, [], 0⟩] _ _) _) _ _ _); k_dflt (refine ListComp_C (_F₀ := by k_asm) (by with_unfolding_all rfl) (by rfl) (by decide) ?_))
    k_with "eval ListComp" => (k_here; (with_reducible show wpAny _ _ (eval (PySem.Expr.ListComp _ [⟨PySem.Expr.Name _ _, _, [], 0⟩] _ _) _) _ _ _); k_dflt (refine LCg.ListComp_U (F₀ := by k_asm) (by with_unfolding_all rfl) (by decide) (by rfl) (by decide) (by rfl) ?_))
    k_with "CompSrc" => refine held ?_
    k_steps
    refine Held.out ?_
    unfold Held
    have hol : (lm, W.listOf vm.toArray nm) ∈ led6 L c6 c5 c4 c3 c2 c1 ((lm, W.listOf vm.toArray nm) :: (lp, W.listOf vp.toArray np) :: (own ++ tl)) := led6_in (.head _)
    refine LCg.CompSrc.ledger (by rfl) (by k_asm) (by k_asm) (mem4 hol) (by rw [List.size_toArray, hml, sizeLine_eq]; (first | lia | omega)) ?_
    intro g'
    k_with_none
    k_with "ne" => (refine neN ?_; (try dsimp only); with_reducible first | assumption | exact Ne.symm (by assumption) | exact ne1 | exact ne1.symm | exact ne2 | exact ne2.symm | exact ne3 | exact ne3.symm | exact ne4 | exact ne4.symm | exact ne5 | exact ne5.symm | exact nl1 (by assumption) | exact nl2 (by assumption) | exact nl3 (by assumption) | exact (nl1 (by assumption)).symm | exact (nl2 (by assumption)).symm | exact (nl3 (by assumption)).symm | exact Nat.ne_of_lt (by assumption) | exact Nat.ne_of_gt (by assumption) | exact cj1 (by assumption) | exact Ne.symm (cj1 (by assumption)) | exact Nat.ne_of_lt (cj1 (by assumption)) | exact Nat.ne_of_gt (cj1 (by assumption)) | exact cj2 (by assumption) | exact Ne.symm (cj2 (by assumption)) | exact Nat.ne_of_lt (cj2 (by assumption)) | exact Nat.ne_of_gt (cj2 (by assumption)) | exact cj3 (by assumption) | exact Ne.symm (cj3 (by assumption)) | exact Nat.ne_of_lt (cj3 (by assumption)) | exact Nat.ne_of_gt (cj3 (by assumption)) | exact cj4 (by assumption) | exact Ne.symm (cj4 (by assumption)) | exact Nat.ne_of_lt (cj4 (by assumption)) | exact Nat.ne_of_gt (cj4 (by assumption)) | exact cj5 (by assumption) | exact Ne.symm (cj5 (by assumption)) | exact Nat.ne_of_lt (cj5 (by assumption)) | exact Nat.ne_of_gt (cj5 (by assumption)) | exact cj6 (by assumption) | exact Ne.symm (cj6 (by assumption)) | exact Nat.ne_of_lt (cj6 (by assumption)) | exact Nat.ne_of_gt (cj6 (by assumption)) | exact cj7 (by assumption) | exact Ne.symm (cj7 (by assumption)) | exact Nat.ne_of_lt (cj7 (by assumption)) | exact Nat.ne_of_gt (cj7 (by assumption)) | exact cj8 (by assumption) | exact Ne.symm (cj8 (by assumption)) | exact Nat.ne_of_lt (cj8 (by assumption)) | exact Nat.ne_of_gt (cj8 (by assumption)) | exact cj9 (by assumption) | exact Ne.symm (cj9 (by assumption)) | exact Nat.ne_of_lt (cj9 (by assumption)) | exact Nat.ne_of_gt (cj9 (by assumption)) | exact ej5 (by assumption) | exact Ne.symm (ej5 (by assumption)) | exact Nat.ne_of_lt (ej5 (by assumption)) | exact Nat.ne_of_gt (ej5 (by assumption)) | exact ej6 (by assumption) | exact Ne.symm (ej6 (by assumption)) | exact Nat.ne_of_lt (ej6 (by assumption)) | exact Nat.ne_of_gt (ej6 (by assumption)) | exact ej7 (by assumption) | exact Ne.symm (ej7 (by assumption)) | exact Nat.ne_of_lt (ej7 (by assumption)) | exact Nat.ne_of_gt (ej7 (by assumption)) | exact ej8 (by assumption) | exact Ne.symm (ej8 (by assumption)) | exact Nat.ne_of_lt (ej8 (by assumption)) | exact Nat.ne_of_gt (ej8 (by assumption)) | exact ej9 (by assumption) | exact Ne.symm (ej9 (by assumption)) | exact Nat.ne_of_lt (ej9 (by assumption)) | exact Nat.ne_of_gt (ej9 (by assumption)))
    k_with "binaryOp RShift int int" => (k_here; (with_reducible refine shr1 ?_))
    k_with "binaryOp Mod int int" => (k_here; (with_reducible refine mod_pos ?k1 ?_); (case k1 => decide))
    k_with "call ref" => (k_here; refine wpAny_call ?_; k_dflt (refine' code_def ?k1 ?k2 ?k3 ?k4 ?k5 ?kA ?kF ?kK ?k6 ?k7 ?k8 ?k9 ?kB ?_ ?c2 ?c3 ?c4 ?c5; (case kA => exact rfl); (case kF => exact rfl); (case kK => first | exact rfl | assumption); (case k1 => k_asm); (case k2 => k_asm); (case k3 => k_asm); (case k4 => k_asm); (case k5 => k_asm); (case k6 => k_is); (case k7 => k_is); (case k8 => (first | exact unL2 (by assumption) rfl | exact unL1 (by assumption) rfl | exact unL0 (by assumption) | ktr_room)); (case k9 => exact BindsTo.of_eq rfl); (case c5 => decide); (case kB => exact locs rfl); (case c2 => exact rfl); (case c3 => exact rfl); (case c4 => exact rfl); k_whole; intro g' L' h' FG' F' N' B' X' T'; (try dsimp only); (try k_lift B'); (try k_fold)))
    k_with "execs cons" => (k_here; first | (k_made; walk_at "execs cons") | k_gentoks | ((with_reducible refine wpAny_execs_cons ?_); (try dsimp only); (try k_fold)))
    k_with "idx" => (first | with_reducible assumption | (first | lia | omega))
    k_with "upd" => (first | (refine' Pick.head ?a; (case a => k_all)) | (refine' Pick.tail ?a ?b; (case a => k_ne); (case b => k_upd)))
    k_with "eval ListComp" => (k_here; (with_reducible show wpAny _ _ (eval (PySem.Expr.ListComp _ [⟨PySem.Expr.Name _ _, _, [], 0⟩] _ _) _) _ _ _); k_dflt (refine ListComp_C (_F₀ := by k_asm) (by with_unfolding_all rfl) (by rfl) (by decide) ?_))
    k_with "eval ListComp" => (k_here; (with_reducible show wpAny _ _ (eval (PySem.Expr.ListComp _ [⟨PySem.Expr.Name _ _, _, [], 0⟩] _ _) _) _ _ _); k_dflt (refine LCg.ListComp_U (F₀ := by k_asm) (by with_unfolding_all rfl) (by decide) (by rfl) (by decide) (by rfl) ?_))
    k_with "binaryOp FloorDiv int int" => refine held ?_
    refine kcf_list (fun b => b / 2 ^ e % 2) him (fun k' t' I' oI' C' oC' D' m' ys' h' tk' E' hk' hC' hx' F' N' off' ne' hMark' => ?_) ?_
    · simp only [LCg.Off3, and_true] at off'
      k_steps
      refine Held.out ?_
      unfold Held
      refine fdiv_pos (Int.pow_pos (by decide)) (pow_log he) ?_
      k_steps
    k_steps
    rename News _ _ _ _ => N9
    rename IntsAre ys _ => hI8
    rename_i D2 _ _ _ o1
    refine CEnd.intro (by k_asm) N9 (led6 L c6 c5 c4 c3 c2 c1 ((lm, W.listOf vm.toArray nm) :: (lp, W.listOf vp.toArray np) :: (((D2, W.listOf ys.toArray ys.length) :: own) ++ tl))) ?sub ?off ⟨(D2, W.listOf ys.toArray ys.length) :: own, rfl, ?ab, ?cols⟩
    case ab => exact Above.cons (abv_and o1.2.2.2.2) hown
    case cols =>
      rw [List.take_add_one, List.getElem?_map, hpi]
      exact (hcols.mono fun p hp => .tail _ hp).snoc ⟨D2, ys, ys.length, rfl, .head _, hI8⟩
    case sub =>
      exact cons_all (by k_mem) (cons_all (by k_mem) (cons_all (by k_mem) (cons_all (by k_mem) (led6_all (by k_mem) (by k_mem) (by k_mem) (by k_mem) (by k_mem) (by k_mem) (cons_all (by k_mem) (cons_all (by k_mem) (cons_all (by k_mem) fun p hp => (by first | exact mem6 hp | exact mem7 hp | exact mem8 hp | exact .tail _ (mem8 hp) | exact mem2 (mem8 hp) | exact mem3 (mem8 hp) | exact mem4 (mem8 hp) | exact mem5 (mem8 hp) | exact mem6 (mem8 hp) | exact mem7 (mem8 hp) | exact mem8 (mem8 hp)))))))))
    case off =>
      exact led6_all (off _ (.head _)) (off _ (.tail _ (.head _))) (off _ (mem2 (.head _))) (off _ (mem3 (.head _))) (off _ (mem4 (.head _))) (off _ (mem5 (.head _))) (cons_all (off _ (mem6 (.head _))) (cons_all (off _ (mem7 (.head _))) (cons_all ⟨Ne.symm o1.1, Ne.symm o1.2.1, Ne.symm o1.2.2.1, Ne.symm o1.2.2.2.1⟩ fun p h => off _ (mem8 h))))
  case done =>
    intro D ys nx h tk hJ F2 N2 off
    refine' hid fun kG_ => ?_
    obtain ⟨own, rfl, hown, hcols⟩ := hJ
    refine' kG_ ?_
    clear kG_
    have e6 : @Ne Nat (L + 1 + 1 + 1 + 1 + 1 + 1) D := off _ (.head _)
    have e5 : @Ne Nat (L + 1 + 1 + 1 + 1 + 1) D := off _ (.tail _ (.head _))
    have e4 : @Ne Nat (L + 1 + 1 + 1 + 1) D := off _ (mem2 (.head _))
    have e3 : @Ne Nat (L + 1 + 1 + 1) D := off _ (mem3 (.head _))
    have e2 : @Ne Nat (L + 1 + 1) D := off _ (mem4 (.head _))
    have e1 : @Ne Nat (L + 1) D := off _ (mem5 (.head _))
    have hall : Above L (own ++ tl) := hown.app hab
    have b4 := hall.ne4
    have hys := hcols.length
    clear F N
    k_with_none
    k_with "ne" => (refine neN ?_; (try dsimp only); with_reducible first | assumption | exact Ne.symm (by assumption) | exact ne1 | exact ne1.symm | exact ne2 | exact ne2.symm | exact ne3 | exact ne3.symm | exact ne4 | exact ne4.symm | exact ne5 | exact ne5.symm | exact nl1 (by assumption) | exact nl2 (by assumption) | exact nl3 (by assumption) | exact (nl1 (by assumption)).symm | exact (nl2 (by assumption)).symm | exact (nl3 (by assumption)).symm | exact Nat.ne_of_lt (by assumption) | exact Nat.ne_of_gt (by assumption) | exact cj1 (by assumption) | exact Ne.symm (cj1 (by assumption)) | exact Nat.ne_of_lt (cj1 (by assumption)) | exact Nat.ne_of_gt (cj1 (by assumption)) | exact cj2 (by assumption) | exact Ne.symm (cj2 (by assumption)) | exact Nat.ne_of_lt (cj2 (by assumption)) | exact Nat.ne_of_gt (cj2 (by assumption)) | exact cj3 (by assumption) | exact Ne.symm (cj3 (by assumption)) | exact Nat.ne_of_lt (cj3 (by assumption)) | exact Nat.ne_of_gt (cj3 (by assumption)) | exact cj4 (by assumption) | exact Ne.symm (cj4 (by assumption)) | exact Nat.ne_of_lt (cj4 (by assumption)) | exact Nat.ne_of_gt (cj4 (by assumption)) | exact cj5 (by assumption) | exact Ne.symm (cj5 (by assumption)) | exact Nat.ne_of_lt (cj5 (by assumption)) | exact Nat.ne_of_gt (cj5 (by assumption)) | exact cj6 (by assumption) | exact Ne.symm (cj6 (by assumption)) | exact Nat.ne_of_lt (cj6 (by assumption)) | exact Nat.ne_of_gt (cj6 (by assumption)) | exact cj7 (by assumption) | exact Ne.symm (cj7 (by assumption)) | exact Nat.ne_of_lt (cj7 (by assumption)) | exact Nat.ne_of_gt (cj7 (by assumption)) | exact cj8 (by assumption) | exact Ne.symm (cj8 (by assumption)) | exact Nat.ne_of_lt (cj8 (by assumption)) | exact Nat.ne_of_gt (cj8 (by assumption)) | exact cj9 (by assumption) | exact Ne.symm (cj9 (by assumption)) | exact Nat.ne_of_lt (cj9 (by assumption)) | exact Nat.ne_of_gt (cj9 (by assumption)) | exact ej5 (by assumption) | exact Ne.symm (ej5 (by assumption)) | exact Nat.ne_of_lt (ej5 (by assumption)) | exact Nat.ne_of_gt (ej5 (by assumption)) | exact ej6 (by assumption) | exact Ne.symm (ej6 (by assumption)) | exact Nat.ne_of_lt (ej6 (by assumption)) | exact Nat.ne_of_gt (ej6 (by assumption)) | exact ej7 (by assumption) | exact Ne.symm (ej7 (by assumption)) | exact Nat.ne_of_lt (ej7 (by assumption)) | exact Nat.ne_of_gt (ej7 (by assumption)) | exact ej8 (by assumption) | exact Ne.symm (ej8 (by assumption)) | exact Nat.ne_of_lt (ej8 (by assumption)) | exact Nat.ne_of_gt (ej8 (by assumption)) | exact ej9 (by assumption) | exact Ne.symm (ej9 (by assumption)) | exact Nat.ne_of_lt (ej9 (by assumption)) | exact Nat.ne_of_gt (ej9 (by assumption)))
    k_with "binaryOp RShift int int" => (k_here; (with_reducible refine shr1 ?_))
    k_with "binaryOp Mod int int" => (k_here; (with_reducible refine mod_pos ?k1 ?_); (case k1 => decide))
    k_with "call ref" => (k_here; refine wpAny_call ?_; k_dflt (refine' code_def ?k1 ?k2 ?k3 ?k4 ?k5 ?kA ?kF ?kK ?k6 ?k7 ?k8 ?k9 ?kB ?_ ?c2 ?c3 ?c4 ?c5; (case kA => exact rfl); (case kF => exact rfl); (case kK => first | exact rfl | assumption); (case k1 => k_asm); (case k2 => k_asm); (case k3 => k_asm); (case k4 => k_asm); (case k5 => k_asm); (case k6 => k_is); (case k7 => k_is); (case k8 => (first | exact unL2 (by assumption) rfl | exact unL1 (by assumption) rfl | exact unL0 (by assumption) | ktr_room)); (case k9 => exact BindsTo.of_eq rfl); (case c5 => decide); (case kB => exact locs rfl); (case c2 => exact rfl); (case c3 => exact rfl); (case c4 => exact rfl); k_whole; intro g' L' h' FG' F' N' B' X' T'; (try dsimp only); (try k_lift B'); (try k_fold)))
    k_with "execs cons" => (k_here; first | (k_made; walk_at "execs cons") | k_gentoks | ((with_reducible refine wpAny_execs_cons ?_); (try dsimp only); (try k_fold)))
    k_with "idx" => (first | with_reducible assumption | (first | lia | omega))
    k_with "upd" => (first | (refine' Pick.head ?a; (case a => k_all)) | (refine' Pick.tail ?a ?b; (case a => k_ne); (case b => k_upd)))
    k_with "eval ListComp" => (k_here; (with_reducible show wpAny _ _ (eval (PySem.Expr.ListComp _ [⟨PySem.Expr.Name _ _, _, [], 0⟩] _ _) _) _ _ _); k_dflt (refine ListComp_C (_F₀ := by k_asm) (by with_unfolding_all rfl) (by rfl) (by decide) ?_))
    k_with "eval ListComp" => (k_here; (with_reducible show wpAny _ _ (eval (PySem.Expr.ListComp _ [⟨PySem.Expr.Name _ _, _, [], 0⟩] _ _) _) _ _ _); k_dflt (refine LCg.ListComp_U (F₀ := by k_asm) (by with_unfolding_all rfl) (by decide) (by rfl) (by decide) (by rfl) ?_))
    k_steps
    rename News _ _ _ _ => N9
    rename_i o _ dd
    dsimp only
    refine WEnd.intro (nx := led6 L c6 c5 o c3 c2 c1 ((D, W.listOf ys.toArray ys.length) :: (own ++ tl))) (by k_asm) N9 ?sub ⟨o, D, ys, ys.length, own, rfl, Above.cons (abv_ne e6 e5 e4 e3 e2 e1) hall, dd, ?cols⟩
    case sub =>
      exact led6_all (by k_mem) (by k_mem) (by k_mem) (by k_mem) (by k_mem) (by k_mem) (cons_all (by k_mem) fun p hp => (by first | exact mem6 hp | exact mem7 hp | exact mem8 hp | exact .tail _ (mem8 hp) | exact mem2 (mem8 hp) | exact mem3 (mem8 hp) | exact mem4 (mem8 hp) | exact mem5 (mem8 hp) | exact mem6 (mem8 hp) | exact mem7 (mem8 hp) | exact mem8 (mem8 hp)))
    case cols =>
      rw [hip.length, List.take_of_length_le (by simp [pw])] at hcols
      exact hcols.mono fun p hp => .tail _ (List.mem_append_left _ hp)
end

end
section
noncomputable abbrev Post_lower (L : Addr) (m : Str → Option Value) (c6 : Obj) (c5 : Obj) (c4 : Obj) (c3 : Obj) (c2 : Obj) (c1 : Obj) (tl : List (Addr × Obj)) (g : Int) (md : List Int) (m' : Str → Option Value) (nx : List (Addr × Obj)) : Prop := ∃ t, m' = setM m (Str.ofString "lower") (.int (((List.range 4).map fun k => (pw g).getD k 0 * lowF (colF g md k)).sum) t) ∧ nx = led6 L c6 c5 c4 c3 c2 c1 tl
section
variable {w : World} {mean : ExcName → Option Value} {mg mb : Str → Option Value} {a : Addr} {ccd : Value} {h₀ : Heap} {L : Addr} {m : Str → Option Value} {s : Shared} {Q : Flow → Shared → Prop} {E : Value → Shared → Prop}
  {oc : Value} {od : Option Addr} {name qual : Str} {params : Arguments} {body : List Stmt} {scope : Scope} {dV kV doc pm cdv ct : Value} {an : Option Addr} {osl : Array (Option Value)} {st : Stmt}
set_option maxHeartbeats 8000000 in
theorem st_lower {c6 c5 c4 c3 c2 c1 : Obj} {tl : List (Addr × Obj)} {g : Int} {lp lc : Addr} {vp vc : List Value} {np nc : Nat} {md : List Int}
    (ho : (hd.heap_39 w.params).lookup 145 = some ⟨oc, od, .func (fnOf name qual params body scope dV kV doc pm an cdv ct), osl⟩) (hst : body[4]? = some st)
    (B : Below callerA h₀ [] h₀) (X : (hd.heap_39 w.params).In h₀) (T : Top hd.view_39 lz mean mg mb h₀) (F : Fr h₀ L s.heap m)
    (N : News h₀ L s.heap (led6 L c6 c5 c4 c3 c2 c1 tl)) (hab : Above L tl) (d3 : c3.data = .cell (some (.ref lp))) (d4 : c4.data = .cell (some (.ref lc))) (hg0 : 0 ≤ g) (hg3 : g < 3)
    (h2 : 2 ≤ md.length) (h5 : md.length ≤ 5) (hlp : (lp, W.listOf vp.toArray np) ∈ tl) (hip : IntsAre vp (pw g)) (hlc : (lc, W.listOf vc.toArray nc) ∈ tl) (hic : ColsP tl vc (colsF g md)) :
    wpAny (model prg w) (callerA.deeper (envOfC qual scope L a ccd)) (exec st (envOfC qual scope L a ccd))
      (StPost h₀ L (Post_lower L m c6 c5 c4 c3 c2 c1 tl g md) s Q) E s := by
  revert X; unfold prg; w_top off; k_fill; intro X
  refine' fn_st ho hst ?e ?hb ?_
  case e => k_is
  case hb => exact rfl
  clear ho hst
  rintro rfl rfl rfl
  replace N : News h₀ L s.heap (led6 L c6 c5 c4 c3 c2 c1 ((lp, W.listOf vp.toArray np) :: (lc, W.listOf vc.toArray nc) :: tl)) := fun p hp => N p (led6_tl (fun q hq => by
    rcases List.mem_cons.mp hq with rfl | hq
    · exact hlp
    · rcases List.mem_cons.mp hq with rfl | hq
      · exact hlc
      · exact hq) p hp)
  have hcl := hic.length
  have hpl := hip.length
  k_with_none
  k_with "ne" => (refine neN ?_; (try dsimp only); with_reducible first | assumption | exact Ne.symm (by assumption) | exact ne1 | exact ne1.symm | exact ne2 | exact ne2.symm | exact ne3 | exact ne3.symm | exact ne4 | exact ne4.symm | exact ne5 | exact ne5.symm | exact nl1 (by assumption) | exact nl2 (by assumption) | exact nl3 (by assumption) | exact (nl1 (by assumption)).symm | exact (nl2 (by assumption)).symm | exact (nl3 (by assumption)).symm | exact Nat.ne_of_lt (by assumption) | exact Nat.ne_of_gt (by assumption) | exact cj1 (by assumption) | exact Ne.symm (cj1 (by assumption)) | exact Nat.ne_of_lt (cj1 (by assumption)) | exact Nat.ne_of_gt (cj1 (by assumption)) | exact cj2 (by assumption) | exact Ne.symm (cj2 (by assumption)) | exact Nat.ne_of_lt (cj2 (by assumption)) | exact Nat.ne_of_gt (cj2 (by assumption)) | exact cj3 (by assumption) | exact Ne.symm (cj3 (by assumption)) | exact Nat.ne_of_lt (cj3 (by assumption)) | exact Nat.ne_of_gt (cj3 (by assumption)) | exact cj4 (by assumption) | exact Ne.symm (cj4 (by assumption)) | exact Nat.ne_of_lt (cj4 (by assumption)) | exact Nat.ne_of_gt (cj4 (by assumption)) | exact cj5 (by assumption) | exact Ne.symm (cj5 (by assumption)) | exact Nat.ne_of_lt (cj5 (by assumption)) | exact Nat.ne_of_gt (cj5 (by assumption)) | exact cj6 (by assumption) | exact Ne.symm (cj6 (by assumption)) | exact Nat.ne_of_lt (cj6 (by assumption)) | exact Nat.ne_of_gt (cj6 (by assumption)) | exact cj7 (by assumption) | exact Ne.symm (cj7 (by assumption)) | exact Nat.ne_of_lt (cj7 (by assumption)) | exact Nat.ne_of_gt (cj7 (by assumption)) | exact cj8 (by assumption) | exact Ne.symm (cj8 (by assumption)) | exact Nat.ne_of_lt (cj8 (by assumption)) | exact Nat.ne_of_gt (cj8 (by assumption)) | exact cj9 (by assumption) | exact Ne.symm (cj9 (by assumption)) | exact Nat.ne_of_lt (cj9 (by assumption)) | exact Nat.ne_of_gt (cj9 (by assumption)) | exact ej5 (by assumption) | exact Ne.symm (ej5 (by assumption)) | exact Nat.ne_of_lt (ej5 (by assumption)) | exact Nat.ne_of_gt (ej5 (by assumption)) | exact ej6 (by assumption) | exact Ne.symm (ej6 (by assumption)) | exact Nat.ne_of_lt (ej6 (by assumption)) | exact Nat.ne_of_gt (ej6 (by assumption)) | exact ej7 (by assumption) | exact Ne.symm (ej7 (by assumption)) | exact Nat.ne_of_lt (ej7 (by assumption)) | exact Nat.ne_of_gt (ej7 (by assumption)) | exact ej8 (by assumption) | exact Ne.symm (ej8 (by assumption)) | exact Nat.ne_of_lt (ej8 (by assumption)) | exact Nat.ne_of_gt (ej8 (by assumption)) | exact ej9 (by assumption) | exact Ne.symm (ej9 (by assumption)) | exact Nat.ne_of_lt (ej9 (by assumption)) | exact Nat.ne_of_gt (ej9 (by assumption)))
  k_with "binaryOp RShift int int" => (k_here; (with_reducible refine shr1 ?_))
  k_with "binaryOp Mod int int" => (k_here; (with_reducible refine mod_pos ?k1 ?_); (case k1 => decide))
  k_with "binaryOp FloorDiv int int" => (k_here; (with_reducible refine fdiv_pos ?k1 ?k2 ?_); (case k1 => decide); (case k2 => decide +kernel))
  k_with "execs cons" => (k_here; first | (k_made; walk_at "execs cons") | k_gentoks | ((with_reducible refine wpAny_execs_cons ?_); (try dsimp only); (try k_fold)))
  k_with "idx" => (first | with_reducible assumption | (first | lia | omega))
  k_with "upd" => (first | (refine' Pick.head ?a; (case a => k_all)) | (refine' Pick.tail ?a ?b; (case a => k_ne); (case b => k_upd)))
  k_with "eval ListComp" => (k_here; (with_reducible show wpAny _ _ (eval (PySem.Expr.ListComp _ [⟨PySem.Expr.Name _ _, _, [], 0⟩] _ _) _) _ _ _); k_dflt (refine LCg.ListComp_U (F₀ := by k_asm) (by with_unfolding_all rfl) (by decide) (by rfl) (by decide) (by rfl) ?_))
  k_with "CompSrc" => refine held ?_
  k_steps
  refine Held.out ?_
  unfold Held
  rename IsRange _ _ _ _ _ _ _ _ => rgX
  rename Fr _ _ _ _ => F1
  rename News _ _ _ _ => N1
  refine LCg.CompSrc.range rfl F1 N1 rgX (by decide) (rfl : _ = ((4 : Nat) : Int)) (by decide) ?_
  intro g2
  refine rest_U (fun i ys nx => nx = led6 L c6 c5 c4 c3 c2 c1 ((lp, W.listOf vp.toArray np) :: (lc, W.listOf vc.toArray nc) :: tl) ∧ IntsAre ys ((List.range i).map fun k => (pw g).getD k 0 * lowF (colF g md k))) ?turn ?done ⟨rfl, .nil⟩
  case turn =>
    intro i v ys nx I oI C oC D m₂ h tk E' hi4 hP hJ hC hx F2 N2 off ne
    refine' hid fun kG_ => ?_
    obtain ⟨rfl, hys⟩ := hJ
    obtain ⟨t, rfl⟩ := hP
    obtain ⟨ak, us, nk, eki, hmk, hik⟩ := hic.at (col_at (g := g) (md := md) hi4).1
    refine' kG_ ?_
    clear kG_
    have hbits := col_bits (g := g) (md := md) hi4
    have hlen := col_len (g := g) (md := md) hi4
    clear F1 N1
    k_with_none
    k_with "ne" => (refine neN ?_; (try dsimp only); with_reducible first | assumption | exact Ne.symm (by assumption) | exact ne1 | exact ne1.symm | exact ne2 | exact ne2.symm | exact ne3 | exact ne3.symm | exact ne4 | exact ne4.symm | exact ne5 | exact ne5.symm | exact nl1 (by assumption) | exact nl2 (by assumption) | exact nl3 (by assumption) | exact (nl1 (by assumption)).symm | exact (nl2 (by assumption)).symm | exact (nl3 (by assumption)).symm | exact Nat.ne_of_lt (by assumption) | exact Nat.ne_of_gt (by assumption) | exact cj1 (by assumption) | exact Ne.symm (cj1 (by assumption)) | exact Nat.ne_of_lt (cj1 (by assumption)) | exact Nat.ne_of_gt (cj1 (by assumption)) | exact cj2 (by assumption) | exact Ne.symm (cj2 (by assumption)) | exact Nat.ne_of_lt (cj2 (by assumption)) | exact Nat.ne_of_gt (cj2 (by assumption)) | exact cj3 (by assumption) | exact Ne.symm (cj3 (by assumption)) | exact Nat.ne_of_lt (cj3 (by assumption)) | exact Nat.ne_of_gt (cj3 (by assumption)) | exact cj4 (by assumption) | exact Ne.symm (cj4 (by assumption)) | exact Nat.ne_of_lt (cj4 (by assumption)) | exact Nat.ne_of_gt (cj4 (by assumption)) | exact cj5 (by assumption) | exact Ne.symm (cj5 (by assumption)) | exact Nat.ne_of_lt (cj5 (by assumption)) | exact Nat.ne_of_gt (cj5 (by assumption)) | exact cj6 (by assumption) | exact Ne.symm (cj6 (by assumption)) | exact Nat.ne_of_lt (cj6 (by assumption)) | exact Nat.ne_of_gt (cj6 (by assumption)) | exact cj7 (by assumption) | exact Ne.symm (cj7 (by assumption)) | exact Nat.ne_of_lt (cj7 (by assumption)) | exact Nat.ne_of_gt (cj7 (by assumption)) | exact cj8 (by assumption) | exact Ne.symm (cj8 (by assumption)) | exact Nat.ne_of_lt (cj8 (by assumption)) | exact Nat.ne_of_gt (cj8 (by assumption)) | exact cj9 (by assumption) | exact Ne.symm (cj9 (by assumption)) | exact Nat.ne_of_lt (cj9 (by assumption)) | exact Nat.ne_of_gt (cj9 (by assumption)) | exact ej5 (by assumption) | exact Ne.symm (ej5 (by assumption)) | exact Nat.ne_of_lt (ej5 (by assumption)) | exact Nat.ne_of_gt (ej5 (by assumption)) | exact ej6 (by assumption) | exact Ne.symm (ej6 (by assumption)) | exact Nat.ne_of_lt (ej6 (by assumption)) | exact Nat.ne_of_gt (ej6 (by assumption)) | exact ej7 (by assumption) | exact Ne.symm (ej7 (by assumption)) | exact Nat.ne_of_lt (ej7 (by assumption)) | exact Nat.ne_of_gt (ej7 (by assumption)) | exact ej8 (by assumption) | exact Ne.symm (ej8 (by assumption)) | exact Nat.ne_of_lt (ej8 (by assumption)) | exact Nat.ne_of_gt (ej8 (by assumption)) | exact ej9 (by assumption) | exact Ne.symm (ej9 (by assumption)) | exact Nat.ne_of_lt (ej9 (by assumption)) | exact Nat.ne_of_gt (ej9 (by assumption)))
    k_with "binaryOp RShift int int" => (k_here; (with_reducible refine shr1 ?_))
    k_with "binaryOp Mod int int" => (k_here; (with_reducible refine mod_pos ?k1 ?_); (case k1 => decide))
    k_with "binaryOp FloorDiv int int" => (k_here; (with_reducible refine fdiv_pos ?k1 ?k2 ?_); (case k1 => decide); (case k2 => decide +kernel))
    k_with "execs cons" => (k_here; first | (k_made; walk_at "execs cons") | k_gentoks | ((with_reducible refine wpAny_execs_cons ?_); (try dsimp only); (try k_fold)))
    k_with "idx" => (first | with_reducible assumption | (first | lia | omega))
    k_with "upd" => (first | (refine' Pick.head ?a; (case a => k_all)) | (refine' Pick.tail ?a ?b; (case a => k_ne); (case b => k_upd)))
    k_with "eval ListComp" => (k_here; (with_reducible show wpAny _ _ (eval (PySem.Expr.ListComp _ [⟨PySem.Expr.Name _ _, _, [], 0⟩] _ _) _) _ _ _); k_dflt (refine LCg.ListComp_U (F₀ := by k_asm) (by with_unfolding_all rfl) (by decide) (by rfl) (by decide) (by rfl) ?_))
    k_with "subscriptTail Name Name ref int" => refine held ?_
    k_with "call ref" => refine held ?_
    k_steps
    refine Held.out ?_
    unfold Held
    refine ksa_sub (by k_asm) (mem3 (led6_in (.head _))) hip (by (first | lia | omega)) (by show _ < ((4 : Nat) : Int); (first | lia | omega)) (by (first | lia | omega)) ?_
    intro tp
    k_steps
    refine Held.out ?_
    unfold Held
    refine item_at (vs := vc) (n := nc) (v := .ref ak) (by k_asm) (mem3 (led6_in (.tail _ (.head _)))) (by (first | lia | omega)) (by (first | lia | omega)) (by rw [show ((0 : Int) + (i : Int)).toNat = i by (first | lia | omega)]; exact eki) ?_
    k_steps
    refine Held.out ?_
    unfold Held
    k_dflt (refine' medlow_tells (S := ordF (colF g md i)) ?B ?F ?X ?N ?T ?hk ?hm ?hi ?hne ?hlen ?hS ?hSo ?hdp ?hun ?_; (case B => k_asm); (case F => k_asm); (case X => k_asm); (case N => k_asm); (case T => k_asm); (case hk => exact rfl); (case hm => exact mem3 (led6_in (mem2 hmk))); (case hi => exact hik); (case hne => (first | lia | omega)); (case hlen => (first | lia | omega)); (case hS => exact (ord_perm _ hbits).2.2); (case hSo => exact ord_sorted _); (case hdp => (first | exact unL2 (by assumption) rfl | exact unL1 (by assumption) rfl | exact unL0 (by assumption) | ktr_room)); (case hun => (first | exact unL2 (by assumption) rfl | exact unL1 (by assumption) rfl | exact unL0 (by assumption) | ktr_units)))
    intro h7 tk7 t7 lo F7 N7 hlo
    rw [low_eq _ hbits (by (first | lia | omega))] at hlo
    k_steps
    refine PyProof.Rows.mul_int ?_ ?_
    · rw [show ((0 : Int) + (i : Int)).toNat = i by (first | lia | omega), hlo]
      refine UEnd.intro F7 N7 _ (fun p hp => hp) off trivial ⟨rfl, ?_⟩
      rw [List.range_succ, List.map_append]
      exact IntsAre.append hys (.cons _ _ .nil)
    · refine IntMulOk.of_right ?_
      rw [hlo, lowF]
      split <;> decide
  case done =>
    intro ys nx hJ
    refine' hid fun kG_ => ?_
    obtain ⟨rfl, hys⟩ := hJ
    refine' kG_ ?_
    clear kG_
    intro D h tk F2 N2 off
    clear F1 N1
    k_with_none
    k_with "ne" => (refine neN ?_; (try dsimp only); with_reducible first | assumption | exact Ne.symm (by assumption) | exact ne1 | exact ne1.symm | exact ne2 | exact ne2.symm | exact ne3 | exact ne3.symm | exact ne4 | exact ne4.symm | exact ne5 | exact ne5.symm | exact nl1 (by assumption) | exact nl2 (by assumption) | exact nl3 (by assumption) | exact (nl1 (by assumption)).symm | exact (nl2 (by assumption)).symm | exact (nl3 (by assumption)).symm | exact Nat.ne_of_lt (by assumption) | exact Nat.ne_of_gt (by assumption) | exact cj1 (by assumption) | exact Ne.symm (cj1 (by assumption)) | exact Nat.ne_of_lt (cj1 (by assumption)) | exact Nat.ne_of_gt (cj1 (by assumption)) | exact cj2 (by assumption) | exact Ne.symm (cj2 (by assumption)) | exact Nat.ne_of_lt (cj2 (by assumption)) | exact Nat.ne_of_gt (cj2 (by assumption)) | exact cj3 (by assumption) | exact Ne.symm (cj3 (by assumption)) | exact Nat.ne_of_lt (cj3 (by assumption)) | exact Nat.ne_of_gt (cj3 (by assumption)) | exact cj4 (by assumption) | exact Ne.symm (cj4 (by assumption)) | exact Nat.ne_of_lt (cj4 (by assumption)) | exact Nat.ne_of_gt (cj4 (by assumption)) | exact cj5 (by assumption) | exact Ne.symm (cj5 (by assumption)) | exact Nat.ne_of_lt (cj5 (by assumption)) | exact Nat.ne_of_gt (cj5 (by assumption)) | exact cj6 (by assumption) | exact Ne.symm (cj6 (by assumption)) | exact Nat.ne_of_lt (cj6 (by assumption)) | exact Nat.ne_of_gt (cj6 (by assumption)) | exact cj7 (by assumption) | exact Ne.symm (cj7 (by assumption)) | exact Nat.ne_of_lt (cj7 (by assumption)) | exact Nat.ne_of_gt (cj7 (by assumption)) | exact cj8 (by assumption) | exact Ne.symm (cj8 (by assumption)) | exact Nat.ne_of_lt (cj8 (by assumption)) | exact Nat.ne_of_gt (cj8 (by assumption)) | exact cj9 (by assumption) | exact Ne.symm (cj9 (by assumption)) | exact Nat.ne_of_lt (cj9 (by assumption)) | exact Nat.ne_of_gt (cj9 (by assumption)) | exact ej5 (by assumption) | exact Ne.symm (ej5 (by assumption)) | exact Nat.ne_of_lt (ej5 (by assumption)) | exact Nat.ne_of_gt (ej5 (by assumption)) | exact ej6 (by assumption) | exact Ne.symm (ej6 (by assumption)) | exact Nat.ne_of_lt (ej6 (by assumption)) | exact Nat.ne_of_gt (ej6 (by assumption)) | exact ej7 (by assumption) | exact Ne.symm (ej7 (by assumption)) | exact Nat.ne_of_lt (ej7 (by assumption)) | exact Nat.ne_of_gt (ej7 (by assumption)) | exact ej8 (by assumption) | exact Ne.symm (ej8 (by assumption)) | exact Nat.ne_of_lt (ej8 (by assumption)) | exact Nat.ne_of_gt (ej8 (by assumption)) | exact ej9 (by assumption) | exact Ne.symm (ej9 (by assumption)) | exact Nat.ne_of_lt (ej9 (by assumption)) | exact Nat.ne_of_gt (ej9 (by assumption)))
    k_with "binaryOp RShift int int" => (k_here; (with_reducible refine shr1 ?_))
    k_with "binaryOp Mod int int" => (k_here; (with_reducible refine mod_pos ?k1 ?_); (case k1 => decide))
    k_with "binaryOp FloorDiv int int" => (k_here; (with_reducible refine fdiv_pos ?k1 ?k2 ?_); (case k1 => decide); (case k2 => decide +kernel))
    k_with "execs cons" => (k_here; first | (k_made; walk_at "execs cons") | k_gentoks | ((with_reducible refine wpAny_execs_cons ?_); (try dsimp only); (try k_fold)))
    k_with "idx" => (first | with_reducible assumption | (first | lia | omega))
    k_with "upd" => (first | (refine' Pick.head ?a; (case a => k_all)) | (refine' Pick.tail ?a ?b; (case a => k_ne); (case b => k_upd)))
    k_with "eval ListComp" => (k_here; (with_reducible show wpAny _ _ (eval (PySem.Expr.ListComp _ [⟨PySem.Expr.Name _ _, _, [], 0⟩] _ _) _) _ _ _); k_dflt (refine LCg.ListComp_U (F₀ := by k_asm) (by with_unfolding_all rfl) (by decide) (by rfl) (by decide) (by rfl) ?_))
    k_steps
    rename News _ _ _ _ => N9
    dsimp only
    exact WEnd.intro (by k_asm) N9 (fun p hp => .tail _ (led6_tl (fun q hq => mem2 hq) p hp)) ⟨_, rfl, rfl⟩
end

end
section
noncomputable abbrev Post_upper (L : Addr) (m : Str → Option Value) (c6 : Obj) (c5 : Obj) (c4 : Obj) (c3 : Obj) (c2 : Obj) (c1 : Obj) (tl : List (Addr × Obj)) (g : Int) (md : List Int) (m' : Str → Option Value) (nx : List (Addr × Obj)) : Prop := ∃ t, m' = setM m (Str.ofString "upper") (.int (((List.range 4).map fun k => (pw g).getD k 0 * upF (colF g md k)).sum) t) ∧ nx = led6 L c6 c5 c4 c3 c2 c1 tl
section
variable {w : World} {mean : ExcName → Option Value} {mg mb : Str → Option Value} {a : Addr} {ccd : Value} {h₀ : Heap} {L : Addr} {m : Str → Option Value} {s : Shared} {Q : Flow → Shared → Prop} {E : Value → Shared → Prop}
  {oc : Value} {od : Option Addr} {name qual : Str} {params : Arguments} {body : List Stmt} {scope : Scope} {dV kV doc pm cdv ct : Value} {an : Option Addr} {osl : Array (Option Value)} {st : Stmt}
set_option maxHeartbeats 8000000 in
theorem st_upper {c6 c5 c4 c3 c2 c1 : Obj} {tl : List (Addr × Obj)} {g : Int} {lp lc : Addr} {vp vc : List Value} {np nc : Nat} {md : List Int}
    (ho : (hd.heap_39 w.params).lookup 145 = some ⟨oc, od, .func (fnOf name qual params body scope dV kV doc pm an cdv ct), osl⟩) (hst : body[5]? = some st)
    (B : Below callerA h₀ [] h₀) (X : (hd.heap_39 w.params).In h₀) (T : Top hd.view_39 lz mean mg mb h₀) (F : Fr h₀ L s.heap m)
    (N : News h₀ L s.heap (led6 L c6 c5 c4 c3 c2 c1 tl)) (hab : Above L tl) (d3 : c3.data = .cell (some (.ref lp))) (d4 : c4.data = .cell (some (.ref lc))) (hg0 : 0 ≤ g) (hg3 : g < 3)
    (h2 : 2 ≤ md.length) (h5 : md.length ≤ 5) (hlp : (lp, W.listOf vp.toArray np) ∈ tl) (hip : IntsAre vp (pw g)) (hlc : (lc, W.listOf vc.toArray nc) ∈ tl) (hic : ColsP tl vc (colsF g md)) :
    wpAny (model prg w) (callerA.deeper (envOfC qual scope L a ccd)) (exec st (envOfC qual scope L a ccd))
      (StPost h₀ L (Post_upper L m c6 c5 c4 c3 c2 c1 tl g md) s Q) E s := by
  revert X; unfold prg; w_top off; k_fill; intro X
  refine' fn_st ho hst ?e ?hb ?_
  case e => k_is
  case hb => exact rfl
  clear ho hst
  rintro rfl rfl rfl
  replace N : News h₀ L s.heap (led6 L c6 c5 c4 c3 c2 c1 ((lp, W.listOf vp.toArray np) :: (lc, W.listOf vc.toArray nc) :: tl)) := fun p hp => N p (led6_tl (fun q hq => by
    rcases List.mem_cons.mp hq with rfl | hq
    · exact hlp
    · rcases List.mem_cons.mp hq with rfl | hq
      · exact hlc
      · exact hq) p hp)
  have hcl := hic.length
  have hpl := hip.length
  k_with_none
  k_with "ne" => (refine neN ?_; (try dsimp only); with_reducible first | assumption | exact Ne.symm (by assumption) | exact ne1 | exact ne1.symm | exact ne2 | exact ne2.symm | exact ne3 | exact ne3.symm | exact ne4 | exact ne4.symm | exact ne5 | exact ne5.symm | exact nl1 (by assumption) | exact nl2 (by assumption) | exact nl3 (by assumption) | exact (nl1 (by assumption)).symm | exact (nl2 (by assumption)).symm | exact (nl3 (by assumption)).symm | exact Nat.ne_of_lt (by assumption) | exact Nat.ne_of_gt (by assumption) | exact cj1 (by assumption) | exact Ne.symm (cj1 (by assumption)) | exact Nat.ne_of_lt (cj1 (by assumption)) | exact Nat.ne_of_gt (cj1 (by assumption)) | exact cj2 (by assumption) | exact Ne.symm (cj2 (by assumption)) | exact Nat.ne_of_lt (cj2 (by assumption)) | exact Nat.ne_of_gt (cj2 (by assumption)) | exact cj3 (by assumption) | exact Ne.symm (cj3 (by assumption)) | exact Nat.ne_of_lt (cj3 (by assumption)) | exact Nat.ne_of_gt (cj3 (by assumption)) | exact cj4 (by assumption) | exact Ne.symm (cj4 (by assumption)) | exact Nat.ne_of_lt (cj4 (by assumption)) | exact Nat.ne_of_gt (cj4 (by assumption)) | exact cj5 (by assumption) | exact Ne.symm (cj5 (by assumption)) | exact Nat.ne_of_lt (cj5 (by assumption)) | exact Nat.ne_of_gt (cj5 (by assumption)) | exact cj6 (by assumption) | exact Ne.symm (cj6 (by assumption)) | exact Nat.ne_of_lt (cj6 (by assumption)) | exact Nat.ne_of_gt (cj6 (by assumption)) | exact cj7 (by assumption) | exact Ne.symm (cj7 (by assumption)) | exact Nat.ne_of_lt (cj7 (by assumption)) | exact Nat.ne_of_gt (cj7 (by assumption)) | exact cj8 (by assumption) | exact Ne.symm (cj8 (by assumption)) | exact Nat.ne_of_lt (cj8 (by assumption)) | exact Nat.ne_of_gt (cj8 (by assumption)) | exact cj9 (by assumption) | exact Ne.symm (cj9 (by assumption)) | exact Nat.ne_of_lt (cj9 (by assumption)) | exact Nat.ne_of_gt (cj9 (by assumption)) | exact ej5 (by assumption) | exact Ne.symm (ej5 (by assumption)) | exact Nat.ne_of_lt (ej5 (by assumption)) | exact Nat.ne_of_gt (ej5 (by assumption)) | exact ej6 (by assumption) | exact Ne.symm (ej6 (by assumption)) | exact Nat.ne_of_lt (ej6 (by assumption)) | exact Nat.ne_of_gt (ej6 (by assumption)) | exact ej7 (by assumption) | exact Ne.symm (ej7 (by assumption)) | exact Nat.ne_of_lt (ej7 (by assumption)) | exact Nat.ne_of_gt (ej7 (by assumption)) | exact ej8 (by assumption) | exact Ne.symm (ej8 (by assumption)) | exact Nat.ne_of_lt (ej8 (by assumption)) | exact Nat.ne_of_gt (ej8 (by assumption)) | exact ej9 (by assumption) | exact Ne.symm (ej9 (by assumption)) | exact Nat.ne_of_lt (ej9 (by assumption)) | exact Nat.ne_of_gt (ej9 (by assumption)))
  k_with "binaryOp RShift int int" => (k_here; (with_reducible refine shr1 ?_))
  k_with "binaryOp Mod int int" => (k_here; (with_reducible refine mod_pos ?k1 ?_); (case k1 => decide))
  k_with "binaryOp FloorDiv int int" => (k_here; (with_reducible refine fdiv_pos ?k1 ?k2 ?_); (case k1 => decide); (case k2 => decide +kernel))
  k_with "execs cons" => (k_here; first | (k_made; walk_at "execs cons") | k_gentoks | ((with_reducible refine wpAny_execs_cons ?_); (try dsimp only); (try k_fold)))
  k_with "idx" => (first | with_reducible assumption | (first | lia | omega))
  k_with "upd" => (first | (refine' Pick.head ?a; (case a => k_all)) | (refine' Pick.tail ?a ?b; (case a => k_ne); (case b => k_upd)))
  k_with "eval ListComp" => (k_here; (with_reducible show wpAny _ _ (eval (PySem.Expr.ListComp _ [⟨PySem.Expr.Name _ _, _, [], 0⟩] _ _) _) _ _ _); k_dflt (refine LCg.ListComp_U (F₀ := by k_asm) (by with_unfolding_all rfl) (by decide) (by rfl) (by decide) (by rfl) ?_))
  k_with "CompSrc" => refine held ?_
  k_steps
  refine Held.out ?_
  unfold Held
  rename IsRange _ _ _ _ _ _ _ _ => rgX
  rename Fr _ _ _ _ => F1
  rename News _ _ _ _ => N1
  refine LCg.CompSrc.range rfl F1 N1 rgX (by decide) (rfl : _ = ((4 : Nat) : Int)) (by decide) ?_
  intro g2
  refine rest_U (fun i ys nx => nx = led6 L c6 c5 c4 c3 c2 c1 ((lp, W.listOf vp.toArray np) :: (lc, W.listOf vc.toArray nc) :: tl) ∧ IntsAre ys ((List.range i).map fun k => (pw g).getD k 0 * upF (colF g md k))) ?turn ?done ⟨rfl, .nil⟩
  case turn =>
    intro i v ys nx I oI C oC D m₂ h tk E' hi4 hP hJ hC hx F2 N2 off ne
    refine' hid fun kG_ => ?_
    obtain ⟨rfl, hys⟩ := hJ
    obtain ⟨t, rfl⟩ := hP
    obtain ⟨ak, us, nk, eki, hmk, hik⟩ := hic.at (col_at (g := g) (md := md) hi4).1
    refine' kG_ ?_
    clear kG_
    have hbits := col_bits (g := g) (md := md) hi4
    have hlen := col_len (g := g) (md := md) hi4
    clear F1 N1
    k_with_none
    k_with "ne" => (refine neN ?_; (try dsimp only); with_reducible first | assumption | exact Ne.symm (by assumption) | exact ne1 | exact ne1.symm | exact ne2 | exact ne2.symm | exact ne3 | exact ne3.symm | exact ne4 | exact ne4.symm | exact ne5 | exact ne5.symm | exact nl1 (by assumption) | exact nl2 (by assumption) | exact nl3 (by assumption) | exact (nl1 (by assumption)).symm | exact (nl2 (by assumption)).symm | exact (nl3 (by assumption)).symm | exact Nat.ne_of_lt (by assumption) | exact Nat.ne_of_gt (by assumption) | exact cj1 (by assumption) | exact Ne.symm (cj1 (by assumption)) | exact Nat.ne_of_lt (cj1 (by assumption)) | exact Nat.ne_of_gt (cj1 (by assumption)) | exact cj2 (by assumption) | exact Ne.symm (cj2 (by assumption)) | exact Nat.ne_of_lt (cj2 (by assumption)) | exact Nat.ne_of_gt (cj2 (by assumption)) | exact cj3 (by assumption) | exact Ne.symm (cj3 (by assumption)) | exact Nat.ne_of_lt (cj3 (by assumption)) | exact Nat.ne_of_gt (cj3 (by assumption)) | exact cj4 (by assumption) | exact Ne.symm (cj4 (by assumption)) | exact Nat.ne_of_lt (cj4 (by assumption)) | exact Nat.ne_of_gt (cj4 (by assumption)) | exact cj5 (by assumption) | exact Ne.symm (cj5 (by assumption)) | exact Nat.ne_of_lt (cj5 (by assumption)) | exact Nat.ne_of_gt (cj5 (by assumption)) | exact cj6 (by assumption) | exact Ne.symm (cj6 (by assumption)) | exact Nat.ne_of_lt (cj6 (by assumption)) | exact Nat.ne_of_gt (cj6 (by assumption)) | exact cj7 (by assumption) | exact Ne.symm (cj7 (by assumption)) | exact Nat.ne_of_lt (cj7 (by assumption)) | exact Nat.ne_of_gt (cj7 (by assumption)) | exact cj8 (by assumption) | exact Ne.symm (cj8 (by assumption)) | exact Nat.ne_of_lt (cj8 (by assumption)) | exact Nat.ne_of_gt (cj8 (by assumption)) | exact cj9 (by assumption) | exact Ne.symm (cj9 (by assumption)) | exact Nat.ne_of_lt (cj9 (by assumption)) | exact Nat.ne_of_gt (cj9 (by assumption)) | exact ej5 (by assumption) | exact Ne.symm (ej5 (by assumption)) | exact Nat.ne_of_lt (ej5 (by assumption)) | exact Nat.ne_of_gt (ej5 (by assumption)) | exact ej6 (by assumption) | exact Ne.symm (ej6 (by assumption)) | exact Nat.ne_of_lt (ej6 (by assumption)) | exact Nat.ne_of_gt (ej6 (by assumption)) | exact ej7 (by assumption) | exact Ne.symm (ej7 (by assumption)) | exact Nat.ne_of_lt (ej7 (by assumption)) | exact Nat.ne_of_gt (ej7 (by assumption)) | exact ej8 (by assumption) | exact Ne.symm (ej8 (by assumption)) | exact Nat.ne_of_lt (ej8 (by assumption)) | exact Nat.ne_of_gt (ej8 (by assumption)) | exact ej9 (by assumption) | exact Ne.symm (ej9 (by assumption)) | exact Nat.ne_of_lt (ej9 (by assumption)) | exact Nat.ne_of_gt (ej9 (by assumption)))
    k_with "binaryOp RShift int int" => (k_here; (with_reducible refine shr1 ?_))
    k_with "binaryOp Mod int int" => (k_here; (with_reducible refine mod_pos ?k1 ?_); (case k1 => decide))
    k_with "binaryOp FloorDiv int int" => (k_here; (with_reducible refine fdiv_pos ?k1 ?k2 ?_); (case k1 => decide); (case k2 => decide +kernel))
    k_with "execs cons" => (k_here; first | (k_made; walk_at "execs cons") | k_gentoks | ((with_reducible refine wpAny_execs_cons ?_); (try dsimp only); (try k_fold)))
    k_with "idx" => (first | with_reducible assumption | (first | lia | omega))
    k_with "upd" => (first | (refine' Pick.head ?a; (case a => k_all)) | (refine' Pick.tail ?a ?b; (case a => k_ne); (case b => k_upd)))
    k_with "eval ListComp" => (k_here; (with_reducible show wpAny _ _ (eval (PySem.Expr.ListComp _ [⟨PySem.Expr.Name _ _, _, [], 0⟩] _ _) _) _ _ _); k_dflt (refine LCg.ListComp_U (F₀ := by k_asm) (by with_unfolding_all rfl) (by decide) (by rfl) (by decide) (by rfl) ?_))
    k_with "subscriptTail Name Name ref int" => refine held ?_
    k_with "call ref" => refine held ?_
    k_steps
    refine Held.out ?_
    unfold Held
    refine ksa_sub (by k_asm) (mem3 (led6_in (.head _))) hip (by (first | lia | omega)) (by show _ < ((4 : Nat) : Int); (first | lia | omega)) (by (first | lia | omega)) ?_
    intro tp
    k_steps
    refine Held.out ?_
    unfold Held
    refine item_at (vs := vc) (n := nc) (v := .ref ak) (by k_asm) (mem3 (led6_in (.tail _ (.head _)))) (by (first | lia | omega)) (by (first | lia | omega)) (by rw [show ((0 : Int) + (i : Int)).toNat = i by (first | lia | omega)]; exact eki) ?_
    k_steps
    refine Held.out ?_
    unfold Held
    k_dflt (refine' medhigh_tells (S := ordF (colF g md i)) ?B ?F ?X ?N ?T ?hk ?hm ?hi ?hne ?hlen ?hS ?hSo ?hdp ?hun ?_; (case B => k_asm); (case F => k_asm); (case X => k_asm); (case N => k_asm); (case T => k_asm); (case hk => exact rfl); (case hm => exact mem3 (led6_in (mem2 hmk))); (case hi => exact hik); (case hne => (first | lia | omega)); (case hlen => (first | lia | omega)); (case hS => exact (ord_perm _ hbits).2.2); (case hSo => exact ord_sorted _); (case hdp => (first | exact unL2 (by assumption) rfl | exact unL1 (by assumption) rfl | exact unL0 (by assumption) | ktr_room)); (case hun => (first | exact unL2 (by assumption) rfl | exact unL1 (by assumption) rfl | exact unL0 (by assumption) | ktr_units)))
    intro h7 tk7 t7 lo F7 N7 hlo
    rw [up_eq _ hbits (by (first | lia | omega))] at hlo
    k_steps
    refine PyProof.Rows.mul_int ?_ ?_
    · rw [show ((0 : Int) + (i : Int)).toNat = i by (first | lia | omega), hlo]
      refine UEnd.intro F7 N7 _ (fun p hp => hp) off trivial ⟨rfl, ?_⟩
      rw [List.range_succ, List.map_append]
      exact IntsAre.append hys (.cons _ _ .nil)
    · refine IntMulOk.of_right ?_
      rw [hlo, upF]
      split <;> decide
  case done =>
    intro ys nx hJ
    refine' hid fun kG_ => ?_
    obtain ⟨rfl, hys⟩ := hJ
    refine' kG_ ?_
    clear kG_
    intro D h tk F2 N2 off
    clear F1 N1
    k_with_none
    k_with "ne" => (refine neN ?_; (try dsimp only); with_reducible first | assumption | exact Ne.symm (by assumption) | exact ne1 | exact ne1.symm | exact ne2 | exact ne2.symm | exact ne3 | exact ne3.symm | exact ne4 | exact ne4.symm | exact ne5 | exact ne5.symm | exact nl1 (by assumption) | exact nl2 (by assumption) | exact nl3 (by assumption) | exact (nl1 (by assumption)).symm | exact (nl2 (by assumption)).symm | exact (nl3 (by assumption)).symm | exact Nat.ne_of_lt (by assumption) | exact Nat.ne_of_gt (by assumption) | exact cj1 (by assumption) | exact Ne.symm (cj1 (by assumption)) | exact Nat.ne_of_lt (cj1 (by assumption)) | exact Nat.ne_of_gt (cj1 (by assumption)) | exact cj2 (by assumption) | exact Ne.symm (cj2 (by assumption)) | exact Nat.ne_of_lt (cj2 (by assumption)) | exact Nat.ne_of_gt (cj2 (by assumption)) | exact cj3 (by assumption) | exact Ne.symm (cj3 (by assumption)) | exact Nat.ne_of_lt (cj3 (by assumption)) | exact Nat.ne_of_gt (cj3 (by assumption)) | exact cj4 (by assumption) | exact Ne.symm (cj4 (by assumption)) | exact Nat.ne_of_lt (cj4 (by assumption)) | exact Nat.ne_of_gt (cj4 (by assumption)) | exact cj5 (by assumption) | exact Ne.symm (cj5 (by assumption)) | exact Nat.ne_of_lt (cj5 (by assumption)) | exact Nat.ne_of_gt (cj5 (by assumption)) | exact cj6 (by assumption) | exact Ne.symm (cj6 (by assumption)) | exact Nat.ne_of_lt (cj6 (by assumption)) | exact Nat.ne_of_gt (cj6 (by assumption)) | exact cj7 (by assumption) | exact Ne.symm (cj7 (by assumption)) | exact Nat.ne_of_lt (cj7 (by assumption)) | exact Nat.ne_of_gt (cj7 (by assumption)) | exact cj8 (by assumption) | exact Ne.symm (cj8 (by assumption)) | exact Nat.ne_of_lt (cj8 (by assumption)) | exact Nat.ne_of_gt (cj8 (by assumption)) | exact cj9 (by assumption) | exact Ne.symm (cj9 (by assumption)) | exact Nat.ne_of_lt (cj9 (by assumption)) | exact Nat.ne_of_gt (cj9 (by assumption)) | exact ej5 (by assumption) | exact Ne.symm (ej5 (by assumption)) | exact Nat.ne_of_lt (ej5 (by assumption)) | exact Nat.ne_of_gt (ej5 (by assumption)) | exact ej6 (by assumption) | exact Ne.symm (ej6 (by assumption)) | exact Nat.ne_of_lt (ej6 (by assumption)) | exact Nat.ne_of_gt (ej6 (by assumption)) | exact ej7 (by assumption) | exact Ne.symm (ej7 (by assumption)) | exact Nat.ne_of_lt (ej7 (by assumption)) | exact Nat.ne_of_gt (ej7 (by assumption)) | exact ej8 (by assumption) | exact Ne.symm (ej8 (by assumption)) | exact Nat.ne_of_lt (ej8 (by assumption)) | exact Nat.ne_of_gt (ej8 (by assumption)) | exact ej9 (by assumption) | exact Ne.symm (ej9 (by assumption)) | exact Nat.ne_of_lt (ej9 (by assumption)) | exact Nat.ne_of_gt (ej9 (by assumption)))
    k_with "binaryOp RShift int int" => (k_here; (with_reducible refine shr1 ?_))
    k_with "binaryOp Mod int int" => (k_here; (with_reducible refine mod_pos ?k1 ?_); (case k1 => decide))
    k_with "binaryOp FloorDiv int int" => (k_here; (with_reducible refine fdiv_pos ?k1 ?k2 ?_); (case k1 => decide); (case k2 => decide +kernel))
    k_with "execs cons" => (k_here; first | (k_made; walk_at "execs cons") | k_gentoks | ((with_reducible refine wpAny_execs_cons ?_); (try dsimp only); (try k_fold)))
    k_with "idx" => (first | with_reducible assumption | (first | lia | omega))
    k_with "upd" => (first | (refine' Pick.head ?a; (case a => k_all)) | (refine' Pick.tail ?a ?b; (case a => k_ne); (case b => k_upd)))
    k_with "eval ListComp" => (k_here; (with_reducible show wpAny _ _ (eval (PySem.Expr.ListComp _ [⟨PySem.Expr.Name _ _, _, [], 0⟩] _ _) _) _ _ _); k_dflt (refine LCg.ListComp_U (F₀ := by k_asm) (by with_unfolding_all rfl) (by decide) (by rfl) (by decide) (by rfl) ?_))
    k_steps
    rename News _ _ _ _ => N9
    dsimp only
    exact WEnd.intro (by k_asm) N9 (fun p hp => .tail _ (led6_tl (fun q hq => mem2 hq) p hp)) ⟨_, rfl, rfl⟩
end

end
section
noncomputable abbrev Post_least (L : Addr) (m : Str → Option Value) (c6 : Obj) (c5 : Obj) (c4 : Obj) (c3 : Obj) (c2 : Obj) (c1 : Obj) (tl : List (Addr × Obj)) (g : Int) (md : List Int) (m' : Str → Option Value) (nx : List (Addr × Obj)) : Prop := ∃ t, m' = setM m (Str.ofString "least") (.int (((List.range 4).map fun k => minF (colF g md k).sum ((md.length : Int) - (colF g md k).sum)).sum) t) ∧ nx = led6 L c6 c5 c4 c3 c2 c1 tl
section
variable {w : World} {mean : ExcName → Option Value} {mg mb : Str → Option Value} {a : Addr} {ccd : Value} {h₀ : Heap} {L : Addr} {m : Str → Option Value} {s : Shared} {Q : Flow → Shared → Prop} {E : Value → Shared → Prop}
  {oc : Value} {od : Option Addr} {name qual : Str} {params : Arguments} {body : List Stmt} {scope : Scope} {dV kV doc pm cdv ct : Value} {an : Option Addr} {osl : Array (Option Value)} {st : Stmt}
set_option maxHeartbeats 8000000 in
theorem st_least {c6 c5 c4 c3 c2 c1 : Obj} {tl : List (Addr × Obj)} {g : Int} {lm lc : Addr} {vm vc : List Value} {nm nc : Nat} {md : List Int}
    (ho : (hd.heap_39 w.params).lookup 145 = some ⟨oc, od, .func (fnOf name qual params body scope dV kV doc pm an cdv ct), osl⟩) (hst : body[6]? = some st)
    (B : Below callerA h₀ [] h₀) (X : (hd.heap_39 w.params).In h₀) (T : Top hd.view_39 lz mean mg mb h₀) (F : Fr h₀ L s.heap m)
    (N : News h₀ L s.heap (led6 L c6 c5 c4 c3 c2 c1 tl)) (hab : Above L tl) (d1 : c1.data = .cell (some (.ref lm))) (d4 : c4.data = .cell (some (.ref lc)))
    (h2 : 2 ≤ md.length) (h5 : md.length ≤ 5) (hlm : (lm, W.listOf vm.toArray nm) ∈ tl) (him : IntsAre vm md) (hlc : (lc, W.listOf vc.toArray nc) ∈ tl) (hic : ColsP tl vc (colsF g md)) :
    wpAny (model prg w) (callerA.deeper (envOfC qual scope L a ccd)) (exec st (envOfC qual scope L a ccd))
      (StPost h₀ L (Post_least L m c6 c5 c4 c3 c2 c1 tl g md) s Q) E s := by
  revert X; unfold prg; w_top off; k_fill; intro X
  refine' fn_st ho hst ?e ?hb ?_
  case e => k_is
  case hb => exact rfl
  clear ho hst
  rintro rfl rfl rfl
  replace N : News h₀ L s.heap (led6 L c6 c5 c4 c3 c2 c1 ((lm, W.listOf vm.toArray nm) :: (lc, W.listOf vc.toArray nc) :: tl)) := fun p hp => N p (led6_tl (fun q hq => by
    rcases List.mem_cons.mp hq with rfl | hq
    · exact hlm
    · rcases List.mem_cons.mp hq with rfl | hq
      · exact hlc
      · exact hq) p hp)
  have hcl := hic.length
  have hml := him.length
  have hc4 : (colsF g md).length = 4 := rfl
  k_with_none
  k_with "ne" => (refine neN ?_; (try dsimp only); with_reducible first | assumption | exact Ne.symm (by assumption) | exact ne1 | exact ne1.symm | exact ne2 | exact ne2.symm | exact ne3 | exact ne3.symm | exact ne4 | exact ne4.symm | exact ne5 | exact ne5.symm | exact nl1 (by assumption) | exact nl2 (by assumption) | exact nl3 (by assumption) | exact (nl1 (by assumption)).symm | exact (nl2 (by assumption)).symm | exact (nl3 (by assumption)).symm | exact Nat.ne_of_lt (by assumption) | exact Nat.ne_of_gt (by assumption) | exact cj1 (by assumption) | exact Ne.symm (cj1 (by assumption)) | exact Nat.ne_of_lt (cj1 (by assumption)) | exact Nat.ne_of_gt (cj1 (by assumption)) | exact cj2 (by assumption) | exact Ne.symm (cj2 (by assumption)) | exact Nat.ne_of_lt (cj2 (by assumption)) | exact Nat.ne_of_gt (cj2 (by assumption)) | exact cj3 (by assumption) | exact Ne.symm (cj3 (by assumption)) | exact Nat.ne_of_lt (cj3 (by assumption)) | exact Nat.ne_of_gt (cj3 (by assumption)) | exact cj4 (by assumption) | exact Ne.symm (cj4 (by assumption)) | exact Nat.ne_of_lt (cj4 (by assumption)) | exact Nat.ne_of_gt (cj4 (by assumption)) | exact cj5 (by assumption) | exact Ne.symm (cj5 (by assumption)) | exact Nat.ne_of_lt (cj5 (by assumption)) | exact Nat.ne_of_gt (cj5 (by assumption)) | exact cj6 (by assumption) | exact Ne.symm (cj6 (by assumption)) | exact Nat.ne_of_lt (cj6 (by assumption)) | exact Nat.ne_of_gt (cj6 (by assumption)) | exact cj7 (by assumption) | exact Ne.symm (cj7 (by assumption)) | exact Nat.ne_of_lt (cj7 (by assumption)) | exact Nat.ne_of_gt (cj7 (by assumption)) | exact cj8 (by assumption) | exact Ne.symm (cj8 (by assumption)) | exact Nat.ne_of_lt (cj8 (by assumption)) | exact Nat.ne_of_gt (cj8 (by assumption)) | exact cj9 (by assumption) | exact Ne.symm (cj9 (by assumption)) | exact Nat.ne_of_lt (cj9 (by assumption)) | exact Nat.ne_of_gt (cj9 (by assumption)) | exact ej5 (by assumption) | exact Ne.symm (ej5 (by assumption)) | exact Nat.ne_of_lt (ej5 (by assumption)) | exact Nat.ne_of_gt (ej5 (by assumption)) | exact ej6 (by assumption) | exact Ne.symm (ej6 (by assumption)) | exact Nat.ne_of_lt (ej6 (by assumption)) | exact Nat.ne_of_gt (ej6 (by assumption)) | exact ej7 (by assumption) | exact Ne.symm (ej7 (by assumption)) | exact Nat.ne_of_lt (ej7 (by assumption)) | exact Nat.ne_of_gt (ej7 (by assumption)) | exact ej8 (by assumption) | exact Ne.symm (ej8 (by assumption)) | exact Nat.ne_of_lt (ej8 (by assumption)) | exact Nat.ne_of_gt (ej8 (by assumption)) | exact ej9 (by assumption) | exact Ne.symm (ej9 (by assumption)) | exact Nat.ne_of_lt (ej9 (by assumption)) | exact Nat.ne_of_gt (ej9 (by assumption)))
  k_with "binaryOp RShift int int" => (k_here; (with_reducible refine shr1 ?_))
  k_with "binaryOp Mod int int" => (k_here; (with_reducible refine mod_pos ?k1 ?_); (case k1 => decide))
  k_with "binaryOp FloorDiv int int" => (k_here; (with_reducible refine fdiv_pos ?k1 ?k2 ?_); (case k1 => decide); (case k2 => decide +kernel))
  k_with "call ref" => (k_here; refine wpAny_call ?_; k_dflt (refine' code_def ?k1 ?k2 ?k3 ?k4 ?k5 ?kA ?kF ?kK ?k6 ?k7 ?k8 ?k9 ?kB ?_ ?c2 ?c3 ?c4 ?c5; (case kA => exact rfl); (case kF => exact rfl); (case kK => first | exact rfl | assumption); (case k1 => k_asm); (case k2 => k_asm); (case k3 => k_asm); (case k4 => k_asm); (case k5 => k_asm); (case k6 => k_is); (case k7 => k_is); (case k8 => (first | exact unL2 (by assumption) rfl | exact unL1 (by assumption) rfl | exact unL0 (by assumption) | ktr_room)); (case k9 => exact BindsTo.of_eq rfl); (case c5 => decide); (case kB => exact locs rfl); (case c2 => exact rfl); (case c3 => exact rfl); (case c4 => exact rfl); k_whole; intro g' L' h' FG' F' N' B' X' T'; (try dsimp only); (try k_lift B'); (try k_fold)))
  k_with "execs cons" => (k_here; first | (k_made; walk_at "execs cons") | k_gentoks | ((with_reducible refine wpAny_execs_cons ?_); (try dsimp only); (try k_fold)))
  k_with "idx" => (first | with_reducible assumption | (first | lia | omega))
  k_with "upd" => (first | (refine' Pick.head ?a; (case a => k_all)) | (refine' Pick.tail ?a ?b; (case a => k_ne); (case b => k_upd)))
  k_with "eval ListComp" => (k_here; (with_reducible show wpAny _ _ (eval (PySem.Expr.ListComp _ [⟨PySem.Expr.Name _ _, _, [], 0⟩] _ _) _) _ _ _); k_dflt (refine LCg.ListComp_U (F₀ := by k_asm) (by with_unfolding_all rfl) (by decide) (by rfl) (by decide) (by rfl) ?_))
  k_with "CompSrc" => refine held ?_
  k_steps
  refine Held.out ?_
  unfold Held
  rename Fr _ _ _ _ => F1
  rename News _ _ _ _ => N1
  refine LCg.CompSrc.ledger rfl F1 N1 (led6_in (.tail _ (.head _))) (by rw [List.size_toArray, hcl, hc4, sizeLine_eq]; (first | lia | omega)) ?_
  intro g2
  refine rest_U (fun i ys nx => nx = led6 L c6 c5 c4 c3 c2 c1 ((lm, W.listOf vm.toArray nm) :: (lc, W.listOf vc.toArray nc) :: tl) ∧ IntsAre ys ((List.range i).map fun k => minF (colF g md k).sum ((md.length : Int) - (colF g md k).sum))) ?turn ?done ⟨rfl, .nil⟩
  case turn =>
    intro i v ys nx I oI C oC D m₂ h tk E' hi4 hP hJ hC hx F2 N2 off ne
    refine' hid fun kG_ => ?_
    obtain ⟨rfl, hys⟩ := hJ
    refine' kG_ ?_
    clear kG_
    rw [List.size_toArray, hcl, hc4] at hi4
    have hPv : vc[i]? = some v := by simpa using hP
    refine' hid fun kG_ => ?_
    obtain ⟨ak, us, nk, eki, hmk, hik⟩ := hic.at (col_at (g := g) (md := md) hi4).1
    refine' kG_ ?_
    clear kG_
    rw [hPv] at eki
    cases eki
    have hlen := col_len (g := g) (md := md) hi4
    have hul := hik.length
    clear F1 N1
    replace N2 := news_in N2 (mem3 (led6_in (mem2 hmk)))
    k_with_none
    k_with "ne" => (refine neN ?_; (try dsimp only); with_reducible first | assumption | exact Ne.symm (by assumption) | exact ne1 | exact ne1.symm | exact ne2 | exact ne2.symm | exact ne3 | exact ne3.symm | exact ne4 | exact ne4.symm | exact ne5 | exact ne5.symm | exact nl1 (by assumption) | exact nl2 (by assumption) | exact nl3 (by assumption) | exact (nl1 (by assumption)).symm | exact (nl2 (by assumption)).symm | exact (nl3 (by assumption)).symm | exact Nat.ne_of_lt (by assumption) | exact Nat.ne_of_gt (by assumption) | exact cj1 (by assumption) | exact Ne.symm (cj1 (by assumption)) | exact Nat.ne_of_lt (cj1 (by assumption)) | exact Nat.ne_of_gt (cj1 (by assumption)) | exact cj2 (by assumption) | exact Ne.symm (cj2 (by assumption)) | exact Nat.ne_of_lt (cj2 (by assumption)) | exact Nat.ne_of_gt (cj2 (by assumption)) | exact cj3 (by assumption) | exact Ne.symm (cj3 (by assumption)) | exact Nat.ne_of_lt (cj3 (by assumption)) | exact Nat.ne_of_gt (cj3 (by assumption)) | exact cj4 (by assumption) | exact Ne.symm (cj4 (by assumption)) | exact Nat.ne_of_lt (cj4 (by assumption)) | exact Nat.ne_of_gt (cj4 (by assumption)) | exact cj5 (by assumption) | exact Ne.symm (cj5 (by assumption)) | exact Nat.ne_of_lt (cj5 (by assumption)) | exact Nat.ne_of_gt (cj5 (by assumption)) | exact cj6 (by assumption) | exact Ne.symm (cj6 (by assumption)) | exact Nat.ne_of_lt (cj6 (by assumption)) | exact Nat.ne_of_gt (cj6 (by assumption)) | exact cj7 (by assumption) | exact Ne.symm (cj7 (by assumption)) | exact Nat.ne_of_lt (cj7 (by assumption)) | exact Nat.ne_of_gt (cj7 (by assumption)) | exact cj8 (by assumption) | exact Ne.symm (cj8 (by assumption)) | exact Nat.ne_of_lt (cj8 (by assumption)) | exact Nat.ne_of_gt (cj8 (by assumption)) | exact cj9 (by assumption) | exact Ne.symm (cj9 (by assumption)) | exact Nat.ne_of_lt (cj9 (by assumption)) | exact Nat.ne_of_gt (cj9 (by assumption)) | exact ej5 (by assumption) | exact Ne.symm (ej5 (by assumption)) | exact Nat.ne_of_lt (ej5 (by assumption)) | exact Nat.ne_of_gt (ej5 (by assumption)) | exact ej6 (by assumption) | exact Ne.symm (ej6 (by assumption)) | exact Nat.ne_of_lt (ej6 (by assumption)) | exact Nat.ne_of_gt (ej6 (by assumption)) | exact ej7 (by assumption) | exact Ne.symm (ej7 (by assumption)) | exact Nat.ne_of_lt (ej7 (by assumption)) | exact Nat.ne_of_gt (ej7 (by assumption)) | exact ej8 (by assumption) | exact Ne.symm (ej8 (by assumption)) | exact Nat.ne_of_lt (ej8 (by assumption)) | exact Nat.ne_of_gt (ej8 (by assumption)) | exact ej9 (by assumption) | exact Ne.symm (ej9 (by assumption)) | exact Nat.ne_of_lt (ej9 (by assumption)) | exact Nat.ne_of_gt (ej9 (by assumption)))
    k_with "binaryOp RShift int int" => (k_here; (with_reducible refine shr1 ?_))
    k_with "binaryOp Mod int int" => (k_here; (with_reducible refine mod_pos ?k1 ?_); (case k1 => decide))
    k_with "binaryOp FloorDiv int int" => (k_here; (with_reducible refine fdiv_pos ?k1 ?k2 ?_); (case k1 => decide); (case k2 => decide +kernel))
    k_with "call ref" => (k_here; refine wpAny_call ?_; k_dflt (refine' code_def ?k1 ?k2 ?k3 ?k4 ?k5 ?kA ?kF ?kK ?k6 ?k7 ?k8 ?k9 ?kB ?_ ?c2 ?c3 ?c4 ?c5; (case kA => exact rfl); (case kF => exact rfl); (case kK => first | exact rfl | assumption); (case k1 => k_asm); (case k2 => k_asm); (case k3 => k_asm); (case k4 => k_asm); (case k5 => k_asm); (case k6 => k_is); (case k7 => k_is); (case k8 => (first | exact unL2 (by assumption) rfl | exact unL1 (by assumption) rfl | exact unL0 (by assumption) | ktr_room)); (case k9 => exact BindsTo.of_eq rfl); (case c5 => decide); (case kB => exact locs rfl); (case c2 => exact rfl); (case c3 => exact rfl); (case c4 => exact rfl); k_whole; intro g' L' h' FG' F' N' B' X' T'; (try dsimp only); (try k_lift B'); (try k_fold)))
    k_with "execs cons" => (k_here; first | (k_made; walk_at "execs cons") | k_gentoks | ((with_reducible refine wpAny_execs_cons ?_); (try dsimp only); (try k_fold)))
    k_with "idx" => (first | with_reducible assumption | (first | lia | omega))
    k_with "upd" => (first | (refine' Pick.head ?a; (case a => k_all)) | (refine' Pick.tail ?a ?b; (case a => k_ne); (case b => k_upd)))
    k_with "eval ListComp" => (k_here; (with_reducible show wpAny _ _ (eval (PySem.Expr.ListComp _ [⟨PySem.Expr.Name _ _, _, [], 0⟩] _ _) _) _ _ _); k_dflt (refine LCg.ListComp_U (F₀ := by k_asm) (by with_unfolding_all rfl) (by decide) (by rfl) (by decide) (by rfl) ?_))
    k_with "call builtin:len" => refine held ?_
    k_steps
    refine Held.out ?_
    unfold Held
    refine len_led (by k_asm) (mem4 (led6_in (.head _))) (by (first | lia | omega)) ?_
    k_steps
    rename News _ _ _ _ => N9
    refine UEnd.intro (by k_asm) N9 _ (fun p hp => .tail _ hp) off (Or.inr ⟨_, led6_in (.tail _ (.head _)), rfl, _, rfl⟩) ⟨rfl, ?_⟩
    rw [List.range_succ, List.map_append, hml]
    exact IntsAre.append hys (.cons _ _ .nil)
  case done =>
    intro ys nx hJ
    refine' hid fun kG_ => ?_
    obtain ⟨rfl, hys⟩ := hJ
    refine' kG_ ?_
    clear kG_
    rw [List.size_toArray, hcl, hc4] at hys
    intro D h tk F2 N2 off
    clear F1 N1
    k_with_none
    k_with "ne" => (refine neN ?_; (try dsimp only); with_reducible first | assumption | exact Ne.symm (by assumption) | exact ne1 | exact ne1.symm | exact ne2 | exact ne2.symm | exact ne3 | exact ne3.symm | exact ne4 | exact ne4.symm | exact ne5 | exact ne5.symm | exact nl1 (by assumption) | exact nl2 (by assumption) | exact nl3 (by assumption) | exact (nl1 (by assumption)).symm | exact (nl2 (by assumption)).symm | exact (nl3 (by assumption)).symm | exact Nat.ne_of_lt (by assumption) | exact Nat.ne_of_gt (by assumption) | exact cj1 (by assumption) | exact Ne.symm (cj1 (by assumption)) | exact Nat.ne_of_lt (cj1 (by assumption)) | exact Nat.ne_of_gt (cj1 (by assumption)) | exact cj2 (by assumption) | exact Ne.symm (cj2 (by assumption)) | exact Nat.ne_of_lt (cj2 (by assumption)) | exact Nat.ne_of_gt (cj2 (by assumption)) | exact cj3 (by assumption) | exact Ne.symm (cj3 (by assumption)) | exact Nat.ne_of_lt (cj3 (by assumption)) | exact Nat.ne_of_gt (cj3 (by assumption)) | exact cj4 (by assumption) | exact Ne.symm (cj4 (by assumption)) | exact Nat.ne_of_lt (cj4 (by assumption)) | exact Nat.ne_of_gt (cj4 (by assumption)) | exact cj5 (by assumption) | exact Ne.symm (cj5 (by assumption)) | exact Nat.ne_of_lt (cj5 (by assumption)) | exact Nat.ne_of_gt (cj5 (by assumption)) | exact cj6 (by assumption) | exact Ne.symm (cj6 (by assumption)) | exact Nat.ne_of_lt (cj6 (by assumption)) | exact Nat.ne_of_gt (cj6 (by assumption)) | exact cj7 (by assumption) | exact Ne.symm (cj7 (by assumption)) | exact Nat.ne_of_lt (cj7 (by assumption)) | exact Nat.ne_of_gt (cj7 (by assumption)) | exact cj8 (by assumption) | exact Ne.symm (cj8 (by assumption)) | exact Nat.ne_of_lt (cj8 (by assumption)) | exact Nat.ne_of_gt (cj8 (by assumption)) | exact cj9 (by assumption) | exact Ne.symm (cj9 (by assumption)) | exact Nat.ne_of_lt (cj9 (by assumption)) | exact Nat.ne_of_gt (cj9 (by assumption)) | exact ej5 (by assumption) | exact Ne.symm (ej5 (by assumption)) | exact Nat.ne_of_lt (ej5 (by assumption)) | exact Nat.ne_of_gt (ej5 (by assumption)) | exact ej6 (by assumption) | exact Ne.symm (ej6 (by assumption)) | exact Nat.ne_of_lt (ej6 (by assumption)) | exact Nat.ne_of_gt (ej6 (by assumption)) | exact ej7 (by assumption) | exact Ne.symm (ej7 (by assumption)) | exact Nat.ne_of_lt (ej7 (by assumption)) | exact Nat.ne_of_gt (ej7 (by assumption)) | exact ej8 (by assumption) | exact Ne.symm (ej8 (by assumption)) | exact Nat.ne_of_lt (ej8 (by assumption)) | exact Nat.ne_of_gt (ej8 (by assumption)) | exact ej9 (by assumption) | exact Ne.symm (ej9 (by assumption)) | exact Nat.ne_of_lt (ej9 (by assumption)) | exact Nat.ne_of_gt (ej9 (by assumption)))
    k_with "binaryOp RShift int int" => (k_here; (with_reducible refine shr1 ?_))
    k_with "binaryOp Mod int int" => (k_here; (with_reducible refine mod_pos ?k1 ?_); (case k1 => decide))
    k_with "binaryOp FloorDiv int int" => (k_here; (with_reducible refine fdiv_pos ?k1 ?k2 ?_); (case k1 => decide); (case k2 => decide +kernel))
    k_with "call ref" => (k_here; refine wpAny_call ?_; k_dflt (refine' code_def ?k1 ?k2 ?k3 ?k4 ?k5 ?kA ?kF ?kK ?k6 ?k7 ?k8 ?k9 ?kB ?_ ?c2 ?c3 ?c4 ?c5; (case kA => exact rfl); (case kF => exact rfl); (case kK => first | exact rfl | assumption); (case k1 => k_asm); (case k2 => k_asm); (case k3 => k_asm); (case k4 => k_asm); (case k5 => k_asm); (case k6 => k_is); (case k7 => k_is); (case k8 => (first | exact unL2 (by assumption) rfl | exact unL1 (by assumption) rfl | exact unL0 (by assumption) | ktr_room)); (case k9 => exact BindsTo.of_eq rfl); (case c5 => decide); (case kB => exact locs rfl); (case c2 => exact rfl); (case c3 => exact rfl); (case c4 => exact rfl); k_whole; intro g' L' h' FG' F' N' B' X' T'; (try dsimp only); (try k_lift B'); (try k_fold)))
    k_with "execs cons" => (k_here; first | (k_made; walk_at "execs cons") | k_gentoks | ((with_reducible refine wpAny_execs_cons ?_); (try dsimp only); (try k_fold)))
    k_with "idx" => (first | with_reducible assumption | (first | lia | omega))
    k_with "upd" => (first | (refine' Pick.head ?a; (case a => k_all)) | (refine' Pick.tail ?a ?b; (case a => k_ne); (case b => k_upd)))
    k_with "eval ListComp" => (k_here; (with_reducible show wpAny _ _ (eval (PySem.Expr.ListComp _ [⟨PySem.Expr.Name _ _, _, [], 0⟩] _ _) _) _ _ _); k_dflt (refine LCg.ListComp_U (F₀ := by k_asm) (by with_unfolding_all rfl) (by decide) (by rfl) (by decide) (by rfl) ?_))
    k_steps
    rename News _ _ _ _ => N9
    dsimp only
    exact WEnd.intro (by k_asm) N9 (fun p hp => .tail _ (led6_tl (fun q hq => mem2 hq) p hp)) ⟨_, rfl, rfl⟩
end

end
section
noncomputable abbrev J_costs (L : Addr) (c6 c5 c4 c3 c2 c1 : Obj) (tl : List (Addr × Obj)) (g : Int) (lm lp lc : Addr) (vm vp vc : List Value) (nm np nc : Nat) (md : List Int) (i : Nat) (ys : List Value) (nx : List (Addr × Obj)) : Prop := ∃ own, nx = led6 L c6 c5 c4 c3 c2 c1 ((lm, W.listOf vm.toArray nm) :: (lp, W.listOf vp.toArray np) :: (lc, W.listOf vc.toArray nc) :: (own ++ tl)) ∧ Above L own ∧ PairsP own ys ((costF g md).take i)
inductive Post_costs (L : Addr) (m : Str → Option Value) (c6 : Obj) (c5 : Obj) (c4 : Obj) (c3 : Obj) (c2 : Obj) (c1 : Obj) (tl : List (Addr × Obj)) (g : Int) (md : List Int) (m' : Str → Option Value) (nx : List (Addr × Obj)) : Prop
  | mk (lk vk nk own tn : _) (_ : m' = setM m (Str.ofString "costs") (.ref lk)) (_ : nx = led6 L c6 c5 c4 c3 c2 c1 ((lk, W.listOf vk.toArray nk) :: (own ++ tl))) (_ : Above L ((lk, W.listOf vk.toArray nk) :: (own ++ tl))) (_ : PairsP (own ++ tl) vk tn) (_ : tn.Perm (costF g md)) (_ : (∀ i, i < 3 → cT tn i ≤ cT tn (i + 1)))
section
variable {w : World} {mean : ExcName → Option Value} {mg mb : Str → Option Value} {a : Addr} {ccd : Value} {h₀ : Heap} {L : Addr} {m : Str → Option Value} {s : Shared} {Q : Flow → Shared → Prop} {E : Value → Shared → Prop}
  {oc : Value} {od : Option Addr} {name qual : Str} {params : Arguments} {body : List Stmt} {scope : Scope} {dV kV doc pm cdv ct : Value} {an : Option Addr} {osl : Array (Option Value)} {st : Stmt}
set_option maxHeartbeats 8000000 in
theorem st_costs {c6 c5 c4 c3 c2 c1 : Obj} {tl : List (Addr × Obj)} {g : Int} {lm lp lc : Addr} {vm vp vc : List Value} {nm np nc : Nat} {md : List Int}
    (ho : (hd.heap_39 w.params).lookup 145 = some ⟨oc, od, .func (fnOf name qual params body scope dV kV doc pm an cdv ct), osl⟩) (hst : body[7]? = some st)
    (B : Below callerA h₀ [] h₀) (X : (hd.heap_39 w.params).In h₀) (T : Top hd.view_39 lz mean mg mb h₀) (F : Fr h₀ L s.heap m)
    (N : News h₀ L s.heap (led6 L c6 c5 c4 c3 c2 c1 tl)) (hab : Above L tl) (d1 : c1.data = .cell (some (.ref lm))) (d3 : c3.data = .cell (some (.ref lp))) (d4 : c4.data = .cell (some (.ref lc))) (hg0 : 0 ≤ g) (hg3 : g < 3)
    (h2 : 2 ≤ md.length) (h5 : md.length ≤ 5) (hlm : (lm, W.listOf vm.toArray nm) ∈ tl) (him : IntsAre vm md) (hlp : (lp, W.listOf vp.toArray np) ∈ tl) (hip : IntsAre vp (pw g)) (hlc : (lc, W.listOf vc.toArray nc) ∈ tl) (hic : ColsP tl vc (colsF g md)) :
    wpAny (model prg w) (callerA.deeper (envOfC qual scope L a ccd)) (exec st (envOfC qual scope L a ccd))
      (StPost h₀ L (Post_costs L m c6 c5 c4 c3 c2 c1 tl g md) s Q) E s := by
  revert X; unfold prg; w_top off; k_fill; intro X
  refine' fn_st ho hst ?e ?hb ?_
  case e => k_is
  case hb => exact rfl
  clear ho hst
  rintro rfl rfl rfl
  replace N : News h₀ L s.heap (led6 L c6 c5 c4 c3 c2 c1 ((lm, W.listOf vm.toArray nm) :: (lp, W.listOf vp.toArray np) :: (lc, W.listOf vc.toArray nc) :: tl)) := fun p hp => N p (led6_tl (fun q hq => by
    rcases List.mem_cons.mp hq with rfl | hq
    · exact hlm
    · rcases List.mem_cons.mp hq with rfl | hq
      · exact hlp
      · rcases List.mem_cons.mp hq with rfl | hq
        · exact hlc
        · exact hq) p hp)
  have hcl := hic.length
  have hml := him.length
  have hpl := hip.length
  k_with_none
  k_with "ne" => (refine neN ?_; (try dsimp only); with_reducible first | assumption | exact Ne.symm (by assumption) | exact ne1 | exact ne1.symm | exact ne2 | exact ne2.symm | exact ne3 | exact ne3.symm | exact ne4 | exact ne4.symm | exact ne5 | exact ne5.symm | exact nl1 (by assumption) | exact nl2 (by assumption) | exact nl3 (by assumption) | exact (nl1 (by assumption)).symm | exact (nl2 (by assumption)).symm | exact (nl3 (by assumption)).symm | exact Nat.ne_of_lt (by assumption) | exact Nat.ne_of_gt (by assumption) | exact cj1 (by assumption) | exact Ne.symm (cj1 (by assumption)) | exact Nat.ne_of_lt (cj1 (by assumption)) | exact Nat.ne_of_gt (cj1 (by assumption)) | exact cj2 (by assumption) | exact Ne.symm (cj2 (by assumption)) | exact Nat.ne_of_lt (cj2 (by assumption)) | exact Nat.ne_of_gt (cj2 (by assumption)) | exact cj3 (by assumption) | exact Ne.symm (cj3 (by assumption)) | exact Nat.ne_of_lt (cj3 (by assumption)) | exact Nat.ne_of_gt (cj3 (by assumption)) | exact cj4 (by assumption) | exact Ne.symm (cj4 (by assumption)) | exact Nat.ne_of_lt (cj4 (by assumption)) | exact Nat.ne_of_gt (cj4 (by assumption)) | exact cj5 (by assumption) | exact Ne.symm (cj5 (by assumption)) | exact Nat.ne_of_lt (cj5 (by assumption)) | exact Nat.ne_of_gt (cj5 (by assumption)) | exact cj6 (by assumption) | exact Ne.symm (cj6 (by assumption)) | exact Nat.ne_of_lt (cj6 (by assumption)) | exact Nat.ne_of_gt (cj6 (by assumption)) | exact cj7 (by assumption) | exact Ne.symm (cj7 (by assumption)) | exact Nat.ne_of_lt (cj7 (by assumption)) | exact Nat.ne_of_gt (cj7 (by assumption)) | exact cj8 (by assumption) | exact Ne.symm (cj8 (by assumption)) | exact Nat.ne_of_lt (cj8 (by assumption)) | exact Nat.ne_of_gt (cj8 (by assumption)) | exact cj9 (by assumption) | exact Ne.symm (cj9 (by assumption)) | exact Nat.ne_of_lt (cj9 (by assumption)) | exact Nat.ne_of_gt (cj9 (by assumption)) | exact ej5 (by assumption) | exact Ne.symm (ej5 (by assumption)) | exact Nat.ne_of_lt (ej5 (by assumption)) | exact Nat.ne_of_gt (ej5 (by assumption)) | exact ej6 (by assumption) | exact Ne.symm (ej6 (by assumption)) | exact Nat.ne_of_lt (ej6 (by assumption)) | exact Nat.ne_of_gt (ej6 (by assumption)) | exact ej7 (by assumption) | exact Ne.symm (ej7 (by assumption)) | exact Nat.ne_of_lt (ej7 (by assumption)) | exact Nat.ne_of_gt (ej7 (by assumption)) | exact ej8 (by assumption) | exact Ne.symm (ej8 (by assumption)) | exact Nat.ne_of_lt (ej8 (by assumption)) | exact Nat.ne_of_gt (ej8 (by assumption)) | exact ej9 (by assumption) | exact Ne.symm (ej9 (by assumption)) | exact Nat.ne_of_lt (ej9 (by assumption)) | exact Nat.ne_of_gt (ej9 (by assumption)))
  k_with "binaryOp RShift int int" => (k_here; (with_reducible refine shr1 ?_))
  k_with "binaryOp Mod int int" => (k_here; (with_reducible refine mod_pos ?k1 ?_); (case k1 => decide))
  k_with "binaryOp FloorDiv int int" => (k_here; (with_reducible refine fdiv_pos ?k1 ?k2 ?_); (case k1 => decide); (case k2 => decide +kernel))
  k_with "call ref" => (k_here; refine wpAny_call ?_; k_dflt (refine' code_def ?k1 ?k2 ?k3 ?k4 ?k5 ?kA ?kF ?kK ?k6 ?k7 ?k8 ?k9 ?kB ?_ ?c2 ?c3 ?c4 ?c5; (case kA => exact rfl); (case kF => exact rfl); (case kK => first | exact rfl | assumption); (case k1 => k_asm); (case k2 => k_asm); (case k3 => k_asm); (case k4 => k_asm); (case k5 => k_asm); (case k6 => k_is); (case k7 => k_is); (case k8 => (first | exact unL2 (by assumption) rfl | exact unL1 (by assumption) rfl | exact unL0 (by assumption) | ktr_room)); (case k9 => exact BindsTo.of_eq rfl); (case c5 => decide); (case kB => exact locs rfl); (case c2 => exact rfl); (case c3 => exact rfl); (case c4 => exact rfl); k_whole; intro g' L' h' FG' F' N' B' X' T'; (try dsimp only); (try k_lift B'); (try k_fold)))
  k_with "execs cons" => (k_here; first | (k_made; walk_at "execs cons") | k_gentoks | ((with_reducible refine wpAny_execs_cons ?_); (try dsimp only); (try k_fold)))
  k_with "idx" => (first | with_reducible assumption | (first | lia | omega))
  k_with "upd" => (first | (refine' Pick.head ?a; (case a => k_all)) | (refine' Pick.tail ?a ?b; (case a => k_ne); (case b => k_upd)))
  k_with "eval ListComp" => (k_here; (with_reducible show wpAny _ _ (eval (PySem.Expr.ListComp _ [⟨PySem.Expr.Name _ _, _, [], 0⟩] _ _) _) _ _ _); k_dflt (refine LCg.ListComp_U (F₀ := by k_asm) (by with_unfolding_all rfl) (by decide) (by rfl) (by decide) (by rfl) ?_))
  k_with "CompSrc" => refine held ?_
  k_steps
  refine Held.out ?_
  unfold Held
  rename IsRange _ _ _ _ _ _ _ _ => rgX
  rename Fr _ _ _ _ => F1
  rename News _ _ _ _ => N1
  refine LCg.CompSrc.range rfl F1 N1 rgX (by decide) (rfl : _ = ((4 : Nat) : Int)) (by decide) ?_
  intro g2
  refine rest_U (J_costs L c6 c5 c4 c3 c2 c1 tl g lm lp lc vm vp vc nm np nc md) ?turn ?done ⟨[], rfl, Above.nil, .nil⟩
  case turn =>
    intro i v ys nx I oI C oC D m₂ h tk E' hi4 hP hJ hC hx F2 N2 off ne
    refine' hid fun kG_ => ?_
    obtain ⟨own, rfl, hown, hys⟩ := hJ
    obtain ⟨t, rfl⟩ := hP
    obtain ⟨ak, us, nk, eki, hmk, hik⟩ := hic.at (col_at (g := g) (md := md) hi4).1
    refine' kG_ ?_
    clear kG_
    have hlen := col_len (g := g) (md := md) hi4
    have hul := hik.length
    clear F1 N1
    replace N2 := news_in N2 (mem3 (led6_in (mem3 (List.mem_append_right _ hmk))))
    k_with_none
    k_with "ne" => (refine neN ?_; (try dsimp only); with_reducible first | assumption | exact Ne.symm (by assumption) | exact ne1 | exact ne1.symm | exact ne2 | exact ne2.symm | exact ne3 | exact ne3.symm | exact ne4 | exact ne4.symm | exact ne5 | exact ne5.symm | exact nl1 (by assumption) | exact nl2 (by assumption) | exact nl3 (by assumption) | exact (nl1 (by assumption)).symm | exact (nl2 (by assumption)).symm | exact (nl3 (by assumption)).symm | exact Nat.ne_of_lt (by assumption) | exact Nat.ne_of_gt (by assumption) | exact cj1 (by assumption) | exact Ne.symm (cj1 (by assumption)) | exact Nat.ne_of_lt (cj1 (by assumption)) | exact Nat.ne_of_gt (cj1 (by assumption)) | exact cj2 (by assumption) | exact Ne.symm (cj2 (by assumption)) | exact Nat.ne_of_lt (cj2 (by assumption)) | exact Nat.ne_of_gt (cj2 (by assumption)) | exact cj3 (by assumption) | exact Ne.symm (cj3 (by assumption)) | exact Nat.ne_of_lt (cj3 (by assumption)) | exact Nat.ne_of_gt (cj3 (by assumption)) | exact cj4 (by assumption) | exact Ne.symm (cj4 (by assumption)) | exact Nat.ne_of_lt (cj4 (by assumption)) | exact Nat.ne_of_gt (cj4 (by assumption)) | exact cj5 (by assumption) | exact Ne.symm (cj5 (by assumption)) | exact Nat.ne_of_lt (cj5 (by assumption)) | exact Nat.ne_of_gt (cj5 (by assumption)) | exact cj6 (by assumption) | exact Ne.symm (cj6 (by assumption)) | exact Nat.ne_of_lt (cj6 (by assumption)) | exact Nat.ne_of_gt (cj6 (by assumption)) | exact cj7 (by assumption) | exact Ne.symm (cj7 (by assumption)) | exact Nat.ne_of_lt (cj7 (by assumption)) | exact Nat.ne_of_gt (cj7 (by assumption)) | exact cj8 (by assumption) | exact Ne.symm (cj8 (by assumption)) | exact Nat.ne_of_lt (cj8 (by assumption)) | exact Nat.ne_of_gt (cj8 (by assumption)) | exact cj9 (by assumption) | exact Ne.symm (cj9 (by assumption)) | exact Nat.ne_of_lt (cj9 (by assumption)) | exact Nat.ne_of_gt (cj9 (by assumption)) | exact ej5 (by assumption) | exact Ne.symm (ej5 (by assumption)) | exact Nat.ne_of_lt (ej5 (by assumption)) | exact Nat.ne_of_gt (ej5 (by assumption)) | exact ej6 (by assumption) | exact Ne.symm (ej6 (by assumption)) | exact Nat.ne_of_lt (ej6 (by assumption)) | exact Nat.ne_of_gt (ej6 (by assumption)) | exact ej7 (by assumption) | exact Ne.symm (ej7 (by assumption)) | exact Nat.ne_of_lt (ej7 (by assumption)) | exact Nat.ne_of_gt (ej7 (by assumption)) | exact ej8 (by assumption) | exact Ne.symm (ej8 (by assumption)) | exact Nat.ne_of_lt (ej8 (by assumption)) | exact Nat.ne_of_gt (ej8 (by assumption)) | exact ej9 (by assumption) | exact Ne.symm (ej9 (by assumption)) | exact Nat.ne_of_lt (ej9 (by assumption)) | exact Nat.ne_of_gt (ej9 (by assumption)))
    k_with "binaryOp RShift int int" => (k_here; (with_reducible refine shr1 ?_))
    k_with "binaryOp Mod int int" => (k_here; (with_reducible refine mod_pos ?k1 ?_); (case k1 => decide))
    k_with "binaryOp FloorDiv int int" => (k_here; (with_reducible refine fdiv_pos ?k1 ?k2 ?_); (case k1 => decide); (case k2 => decide +kernel))
    k_with "call ref" => (k_here; refine wpAny_call ?_; k_dflt (refine' code_def ?k1 ?k2 ?k3 ?k4 ?k5 ?kA ?kF ?kK ?k6 ?k7 ?k8 ?k9 ?kB ?_ ?c2 ?c3 ?c4 ?c5; (case kA => exact rfl); (case kF => exact rfl); (case kK => first | exact rfl | assumption); (case k1 => k_asm); (case k2 => k_asm); (case k3 => k_asm); (case k4 => k_asm); (case k5 => k_asm); (case k6 => k_is); (case k7 => k_is); (case k8 => (first | exact unL2 (by assumption) rfl | exact unL1 (by assumption) rfl | exact unL0 (by assumption) | ktr_room)); (case k9 => exact BindsTo.of_eq rfl); (case c5 => decide); (case kB => exact locs rfl); (case c2 => exact rfl); (case c3 => exact rfl); (case c4 => exact rfl); k_whole; intro g' L' h' FG' F' N' B' X' T'; (try dsimp only); (try k_lift B'); (try k_fold)))
    k_with "execs cons" => (k_here; first | (k_made; walk_at "execs cons") | k_gentoks | ((with_reducible refine wpAny_execs_cons ?_); (try dsimp only); (try k_fold)))
    k_with "idx" => (first | with_reducible assumption | (first | lia | omega))
    k_with "upd" => (first | (refine' Pick.head ?a; (case a => k_all)) | (refine' Pick.tail ?a ?b; (case a => k_ne); (case b => k_upd)))
    k_with "eval ListComp" => (k_here; (with_reducible show wpAny _ _ (eval (PySem.Expr.ListComp _ [⟨PySem.Expr.Name _ _, _, [], 0⟩] _ _) _) _ _ _); k_dflt (refine LCg.ListComp_U (F₀ := by k_asm) (by with_unfolding_all rfl) (by decide) (by rfl) (by decide) (by rfl) ?_))
    k_with "call builtin:len" => refine held ?_
    k_with "subscriptTail Name Name ref int" => refine held ?_
    k_steps
    refine Held.out ?_
    unfold Held
    refine len_led (by k_asm) (mem4 (led6_in (.head _))) (by (first | lia | omega)) ?_
    k_steps
    refine Held.out ?_
    unfold Held
    refine item_at (vs := vc) (n := nc) (v := .ref ak) (by k_asm) (mem4 (led6_in (mem2 (.head _)))) (by (first | lia | omega)) (by (first | lia | omega)) (by rw [show ((0 : Int) + (i : Int)).toNat = i by (first | lia | omega)]; exact eki) ?_
    k_steps
    refine Held.out ?_
    unfold Held
    refine ksa_sub (by k_asm) (mem4 (led6_in (.tail _ (.head _)))) hip (by (first | lia | omega)) (by show _ < ((4 : Nat) : Int); (first | lia | omega)) (by (first | lia | omega)) ?_
    intro tp
    k_steps
    rename News _ _ _ _ => N9
    rename_i D2 _ _ l1
    rw [hml, show ((0 : Int) + (i : Int)).toNat = i by (first | lia | omega)] at N9
    refine UEnd.intro (by k_asm) N9 (led6 L c6 c5 c4 c3 c2 c1 ((lm, W.listOf vm.toArray nm) :: (lp, W.listOf vp.toArray np) :: (lc, W.listOf vc.toArray nc) :: (((D2, _) :: own) ++ tl))) re_cost ?off trivial ⟨(D2, _) :: own, rfl, Above.cons (abv_gt (by (first | lia | omega))) hown, ?cols⟩
    case cols =>
      rw [cost_at hi4]
      exact (hys.mono fun p hp => .tail _ hp).append (.cons ⟨D2, _, _, _, rfl, .head _⟩ .nil)
    case off =>
      exact led6_all (off _ (.head _)) (off _ (.tail _ (.head _))) (off _ (mem2 (.head _))) (off _ (mem3 (.head _))) (off _ (mem4 (.head _))) (off _ (mem5 (.head _))) (cons_all (off _ (mem6 (.head _))) (cons_all (off _ (mem7 (.head _))) (cons_all (off _ (mem8 (.head _))) (cons_all ⟨Nat.ne_of_gt l1.2.1, Nat.ne_of_gt l1.2.2.1, Nat.ne_of_gt l1.2.2.2.1⟩ fun p h => off _ (.tail _ (mem8 h))))))
  case done =>
    intro ys nx hJ
    refine' hid fun kG_ => ?_
    obtain ⟨own, rfl, hown, hys⟩ := hJ
    refine' kG_ ?_
    clear kG_
    intro D h tk F2 N2 off
    clear F1 N1
    k_with_none
    k_with "ne" => (refine neN ?_; (try dsimp only); with_reducible first | assumption | exact Ne.symm (by assumption) | exact ne1 | exact ne1.symm | exact ne2 | exact ne2.symm | exact ne3 | exact ne3.symm | exact ne4 | exact ne4.symm | exact ne5 | exact ne5.symm | exact nl1 (by assumption) | exact nl2 (by assumption) | exact nl3 (by assumption) | exact (nl1 (by assumption)).symm | exact (nl2 (by assumption)).symm | exact (nl3 (by assumption)).symm | exact Nat.ne_of_lt (by assumption) | exact Nat.ne_of_gt (by assumption) | exact cj1 (by assumption) | exact Ne.symm (cj1 (by assumption)) | exact Nat.ne_of_lt (cj1 (by assumption)) | exact Nat.ne_of_gt (cj1 (by assumption)) | exact cj2 (by assumption) | exact Ne.symm (cj2 (by assumption)) | exact Nat.ne_of_lt (cj2 (by assumption)) | exact Nat.ne_of_gt (cj2 (by assumption)) | exact cj3 (by assumption) | exact Ne.symm (cj3 (by assumption)) | exact Nat.ne_of_lt (cj3 (by assumption)) | exact Nat.ne_of_gt (cj3 (by assumption)) | exact cj4 (by assumption) | exact Ne.symm (cj4 (by assumption)) | exact Nat.ne_of_lt (cj4 (by assumption)) | exact Nat.ne_of_gt (cj4 (by assumption)) | exact cj5 (by assumption) | exact Ne.symm (cj5 (by assumption)) | exact Nat.ne_of_lt (cj5 (by assumption)) | exact Nat.ne_of_gt (cj5 (by assumption)) | exact cj6 (by assumption) | exact Ne.symm (cj6 (by assumption)) | exact Nat.ne_of_lt (cj6 (by assumption)) | exact Nat.ne_of_gt (cj6 (by assumption)) | exact cj7 (by assumption) | exact Ne.symm (cj7 (by assumption)) | exact Nat.ne_of_lt (cj7 (by assumption)) | exact Nat.ne_of_gt (cj7 (by assumption)) | exact cj8 (by assumption) | exact Ne.symm (cj8 (by assumption)) | exact Nat.ne_of_lt (cj8 (by assumption)) | exact Nat.ne_of_gt (cj8 (by assumption)) | exact cj9 (by assumption) | exact Ne.symm (cj9 (by assumption)) | exact Nat.ne_of_lt (cj9 (by assumption)) | exact Nat.ne_of_gt (cj9 (by assumption)) | exact ej5 (by assumption) | exact Ne.symm (ej5 (by assumption)) | exact Nat.ne_of_lt (ej5 (by assumption)) | exact Nat.ne_of_gt (ej5 (by assumption)) | exact ej6 (by assumption) | exact Ne.symm (ej6 (by assumption)) | exact Nat.ne_of_lt (ej6 (by assumption)) | exact Nat.ne_of_gt (ej6 (by assumption)) | exact ej7 (by assumption) | exact Ne.symm (ej7 (by assumption)) | exact Nat.ne_of_lt (ej7 (by assumption)) | exact Nat.ne_of_gt (ej7 (by assumption)) | exact ej8 (by assumption) | exact Ne.symm (ej8 (by assumption)) | exact Nat.ne_of_lt (ej8 (by assumption)) | exact Nat.ne_of_gt (ej8 (by assumption)) | exact ej9 (by assumption) | exact Ne.symm (ej9 (by assumption)) | exact Nat.ne_of_lt (ej9 (by assumption)) | exact Nat.ne_of_gt (ej9 (by assumption)))
    k_with "binaryOp RShift int int" => (k_here; (with_reducible refine shr1 ?_))
    k_with "binaryOp Mod int int" => (k_here; (with_reducible refine mod_pos ?k1 ?_); (case k1 => decide))
    k_with "binaryOp FloorDiv int int" => (k_here; (with_reducible refine fdiv_pos ?k1 ?k2 ?_); (case k1 => decide); (case k2 => decide +kernel))
    k_with "call ref" => (k_here; refine wpAny_call ?_; k_dflt (refine' code_def ?k1 ?k2 ?k3 ?k4 ?k5 ?kA ?kF ?kK ?k6 ?k7 ?k8 ?k9 ?kB ?_ ?c2 ?c3 ?c4 ?c5; (case kA => exact rfl); (case kF => exact rfl); (case kK => first | exact rfl | assumption); (case k1 => k_asm); (case k2 => k_asm); (case k3 => k_asm); (case k4 => k_asm); (case k5 => k_asm); (case k6 => k_is); (case k7 => k_is); (case k8 => (first | exact unL2 (by assumption) rfl | exact unL1 (by assumption) rfl | exact unL0 (by assumption) | ktr_room)); (case k9 => exact BindsTo.of_eq rfl); (case c5 => decide); (case kB => exact locs rfl); (case c2 => exact rfl); (case c3 => exact rfl); (case c4 => exact rfl); k_whole; intro g' L' h' FG' F' N' B' X' T'; (try dsimp only); (try k_lift B'); (try k_fold)))
    k_with "execs cons" => (k_here; first | (k_made; walk_at "execs cons") | k_gentoks | ((with_reducible refine wpAny_execs_cons ?_); (try dsimp only); (try k_fold)))
    k_with "idx" => (first | with_reducible assumption | (first | lia | omega))
    k_with "upd" => (first | (refine' Pick.head ?a; (case a => k_all)) | (refine' Pick.tail ?a ?b; (case a => k_ne); (case b => k_upd)))
    k_with "eval ListComp" => (k_here; (with_reducible show wpAny _ _ (eval (PySem.Expr.ListComp _ [⟨PySem.Expr.Name _ _, _, [], 0⟩] _ _) _) _ _ _); k_dflt (refine LCg.ListComp_U (F₀ := by k_asm) (by with_unfolding_all rfl) (by decide) (by rfl) (by decide) (by rfl) ?_))
    k_with "call builtin:sorted" => refine held ?_
    k_steps
    refine Held.out ?_
    unfold Held
    rw [List.take_of_length_le (by simp [costF])] at hys
    refine sorted_pairs F2 N2 (.head _) (fun p hp => .tail _ (led6_in (mem3 (List.mem_append_left _ hp)))) hys (by simp [costF]) (cost_bd hg0 hg3) ?_
    intro D9 us9 c9 qs h9 F9 N9 l9 hp9 hq9 ho9
    have z6 : @LT.lt Nat _ (L + 1 + 1 + 1 + 1 + 1 + 1) D9 := l9 _ (.tail _ (.head _))
    k_with_none
    k_with "ne" => (refine neN ?_; (try dsimp only); with_reducible first | assumption | exact Ne.symm (by assumption) | exact ne1 | exact ne1.symm | exact ne2 | exact ne2.symm | exact ne3 | exact ne3.symm | exact ne4 | exact ne4.symm | exact ne5 | exact ne5.symm | exact nl1 (by assumption) | exact nl2 (by assumption) | exact nl3 (by assumption) | exact (nl1 (by assumption)).symm | exact (nl2 (by assumption)).symm | exact (nl3 (by assumption)).symm | exact Nat.ne_of_lt (by assumption) | exact Nat.ne_of_gt (by assumption) | exact cj1 (by assumption) | exact Ne.symm (cj1 (by assumption)) | exact Nat.ne_of_lt (cj1 (by assumption)) | exact Nat.ne_of_gt (cj1 (by assumption)) | exact cj2 (by assumption) | exact Ne.symm (cj2 (by assumption)) | exact Nat.ne_of_lt (cj2 (by assumption)) | exact Nat.ne_of_gt (cj2 (by assumption)) | exact cj3 (by assumption) | exact Ne.symm (cj3 (by assumption)) | exact Nat.ne_of_lt (cj3 (by assumption)) | exact Nat.ne_of_gt (cj3 (by assumption)) | exact cj4 (by assumption) | exact Ne.symm (cj4 (by assumption)) | exact Nat.ne_of_lt (cj4 (by assumption)) | exact Nat.ne_of_gt (cj4 (by assumption)) | exact cj5 (by assumption) | exact Ne.symm (cj5 (by assumption)) | exact Nat.ne_of_lt (cj5 (by assumption)) | exact Nat.ne_of_gt (cj5 (by assumption)) | exact cj6 (by assumption) | exact Ne.symm (cj6 (by assumption)) | exact Nat.ne_of_lt (cj6 (by assumption)) | exact Nat.ne_of_gt (cj6 (by assumption)) | exact cj7 (by assumption) | exact Ne.symm (cj7 (by assumption)) | exact Nat.ne_of_lt (cj7 (by assumption)) | exact Nat.ne_of_gt (cj7 (by assumption)) | exact cj8 (by assumption) | exact Ne.symm (cj8 (by assumption)) | exact Nat.ne_of_lt (cj8 (by assumption)) | exact Nat.ne_of_gt (cj8 (by assumption)) | exact cj9 (by assumption) | exact Ne.symm (cj9 (by assumption)) | exact Nat.ne_of_lt (cj9 (by assumption)) | exact Nat.ne_of_gt (cj9 (by assumption)) | exact ej5 (by assumption) | exact Ne.symm (ej5 (by assumption)) | exact Nat.ne_of_lt (ej5 (by assumption)) | exact Nat.ne_of_gt (ej5 (by assumption)) | exact ej6 (by assumption) | exact Ne.symm (ej6 (by assumption)) | exact Nat.ne_of_lt (ej6 (by assumption)) | exact Nat.ne_of_gt (ej6 (by assumption)) | exact ej7 (by assumption) | exact Ne.symm (ej7 (by assumption)) | exact Nat.ne_of_lt (ej7 (by assumption)) | exact Nat.ne_of_gt (ej7 (by assumption)) | exact ej8 (by assumption) | exact Ne.symm (ej8 (by assumption)) | exact Nat.ne_of_lt (ej8 (by assumption)) | exact Nat.ne_of_gt (ej8 (by assumption)) | exact ej9 (by assumption) | exact Ne.symm (ej9 (by assumption)) | exact Nat.ne_of_lt (ej9 (by assumption)) | exact Nat.ne_of_gt (ej9 (by assumption)))
    k_with "binaryOp RShift int int" => (k_here; (with_reducible refine shr1 ?_))
    k_with "binaryOp Mod int int" => (k_here; (with_reducible refine mod_pos ?k1 ?_); (case k1 => decide))
    k_with "binaryOp FloorDiv int int" => (k_here; (with_reducible refine fdiv_pos ?k1 ?k2 ?_); (case k1 => decide); (case k2 => decide +kernel))
    k_with "call ref" => (k_here; refine wpAny_call ?_; k_dflt (refine' code_def ?k1 ?k2 ?k3 ?k4 ?k5 ?kA ?kF ?kK ?k6 ?k7 ?k8 ?k9 ?kB ?_ ?c2 ?c3 ?c4 ?c5; (case kA => exact rfl); (case kF => exact rfl); (case kK => first | exact rfl | assumption); (case k1 => k_asm); (case k2 => k_asm); (case k3 => k_asm); (case k4 => k_asm); (case k5 => k_asm); (case k6 => k_is); (case k7 => k_is); (case k8 => (first | exact unL2 (by assumption) rfl | exact unL1 (by assumption) rfl | exact unL0 (by assumption) | ktr_room)); (case k9 => exact BindsTo.of_eq rfl); (case c5 => decide); (case kB => exact locs rfl); (case c2 => exact rfl); (case c3 => exact rfl); (case c4 => exact rfl); k_whole; intro g' L' h' FG' F' N' B' X' T'; (try dsimp only); (try k_lift B'); (try k_fold)))
    k_with "execs cons" => (k_here; first | (k_made; walk_at "execs cons") | k_gentoks | ((with_reducible refine wpAny_execs_cons ?_); (try dsimp only); (try k_fold)))
    k_with "idx" => (first | with_reducible assumption | (first | lia | omega))
    k_with "upd" => (first | (refine' Pick.head ?a; (case a => k_all)) | (refine' Pick.tail ?a ?b; (case a => k_ne); (case b => k_upd)))
    k_with "eval ListComp" => (k_here; (with_reducible show wpAny _ _ (eval (PySem.Expr.ListComp _ [⟨PySem.Expr.Name _ _, _, [], 0⟩] _ _) _) _ _ _); k_dflt (refine LCg.ListComp_U (F₀ := by k_asm) (by with_unfolding_all rfl) (by decide) (by rfl) (by decide) (by rfl) ?_))
    k_steps
    rename News _ _ _ _ => N8
    dsimp only
    refine WEnd.intro (nx := led6 L c6 c5 c4 c3 c2 c1 ((D9, W.listOf us9.toArray c9) :: (own ++ tl))) (by k_asm) N8 ?sub ⟨D9, us9, c9, own, qs, rfl, rfl, Above.cons (abv_gt z6) (hown.app hab), hp9.mono (fun p hp => List.mem_append_left _ hp), hq9, ho9⟩
    case sub =>
      exact led6_all (by k_mem) (by k_mem) (by k_mem) (by k_mem) (by k_mem) (by k_mem) (cons_all (by k_mem) fun p hp => (by first | exact mem6 hp | exact mem7 hp | exact mem8 hp | exact .tail _ (mem8 hp) | exact mem2 (mem8 hp) | exact mem3 (mem8 hp) | exact mem4 (mem8 hp) | exact mem5 (mem8 hp) | exact mem6 (mem8 hp) | exact mem7 (mem8 hp) | exact mem8 (mem8 hp)))
end

end
section
inductive Post_told (L : Addr) (m : Str → Option Value) (c6 : Obj) (c5 : Obj) (c4 : Obj) (c3 : Obj) (c2 : Obj) (c1 : Obj) (tl : List (Addr × Obj)) (le : Int) (lo : Int) (tn : List (Int × Int)) (m' : Str → Option Value) (nx : List (Addr × Obj)) : Prop
  | mk (D vs n own fs : _) (_ : m' = setM m (Str.ofString "told") (.ref D)) (_ : nx = led6 L c6 c5 c4 c3 c2 c1 ((D, W.listOf vs.toArray n) :: (own ++ tl))) (_ : Above L ((D, W.listOf vs.toArray n) :: (own ++ tl))) (_ : PairsP own vs fs) (_ : fs.Perm (allSub tn le lo)) (_ : (fs.map (·.1)).Pairwise (· ≤ ·)) (_ : fs.head? = some (le, lo))
section
variable {w : World} {mean : ExcName → Option Value} {mg mb : Str → Option Value} {a : Addr} {ccd : Value} {h₀ : Heap} {L : Addr} {m : Str → Option Value} {s : Shared} {Q : Flow → Shared → Prop} {E : Value → Shared → Prop}
  {oc : Value} {od : Option Addr} {name qual : Str} {params : Arguments} {body : List Stmt} {scope : Scope} {dV kV doc pm cdv ct : Value} {an : Option Addr} {osl : Array (Option Value)} {st : Stmt}
set_option maxHeartbeats 8000000 in
theorem st_told {c6 c5 c4 c3 c2 c1 : Obj} {tl : List (Addr × Obj)} {le lo : Int} {t1 t2 : Tok} {lk : Addr} {vk : List Value} {nk : Nat} {tn : List (Int × Int)} {Dom : Int → Prop}
    (ho : (hd.heap_39 w.params).lookup 145 = some ⟨oc, od, .func (fnOf name qual params body scope dV kV doc pm an cdv ct), osl⟩) (hst : body[8]? = some st)
    (B : Below callerA h₀ [] h₀) (X : (hd.heap_39 w.params).In h₀) (T : Top hd.view_39 lz mean mg mb h₀) (F : Fr h₀ L s.heap m)
    (N : News h₀ L s.heap (led6 L c6 c5 c4 c3 c2 c1 tl)) (hab : Above L tl) (hm : KnownAll m [(Str.ofString "least", .int le t1), (Str.ofString "lower", .int lo t2), (Str.ofString "costs", .ref lk)])
    (hlk : (lk, W.listOf vk.toArray nk) ∈ tl) (hp : PairsP tl vk tn) (h4 : tn.length = 4) (hw : 0 ≤ le) (hD0 : Dom lo) (hDp : ∀ q ∈ tn, Dom q.2) (hDx : ∀ a b, Dom a → Dom b → Dom (bx a b)) (hDb : ∀ a, Dom a → 0 ≤ a ∧ a < 65536)
    (hc : ∀ q ∈ tn, 0 ≤ q.1) (hcs : ∀ i, i < 3 → cT tn i ≤ cT tn (i + 1)) :
    wpAny (model prg w) (callerA.deeper (envOfC qual scope L a ccd)) (exec st (envOfC qual scope L a ccd))
      (StPost h₀ L (Post_told L m c6 c5 c4 c3 c2 c1 tl le lo tn) s Q) E s := by
  revert X; unfold prg; w_top off; k_fill; intro X
  refine' fn_st ho hst ?e ?hb ?_
  case e => k_is
  case hb => exact rfl
  clear ho hst
  rintro rfl rfl rfl
  have F1 : Fr h₀ L s.heap (kstB m [(Str.ofString "least", .int le t1), (Str.ofString "lower", .int lo t2), (Str.ofString "costs", .ref lk)]) := fr_knownL hm F
  dsimp only [kstB] at F1
  k_with_none
  k_with "ne" => (refine neN ?_; (try dsimp only); with_reducible first | assumption | exact Ne.symm (by assumption) | exact ne1 | exact ne1.symm | exact ne2 | exact ne2.symm | exact ne3 | exact ne3.symm | exact ne4 | exact ne4.symm | exact ne5 | exact ne5.symm | exact nl1 (by assumption) | exact nl2 (by assumption) | exact nl3 (by assumption) | exact (nl1 (by assumption)).symm | exact (nl2 (by assumption)).symm | exact (nl3 (by assumption)).symm | exact Nat.ne_of_lt (by assumption) | exact Nat.ne_of_gt (by assumption) | exact cj1 (by assumption) | exact Ne.symm (cj1 (by assumption)) | exact Nat.ne_of_lt (cj1 (by assumption)) | exact Nat.ne_of_gt (cj1 (by assumption)) | exact cj2 (by assumption) | exact Ne.symm (cj2 (by assumption)) | exact Nat.ne_of_lt (cj2 (by assumption)) | exact Nat.ne_of_gt (cj2 (by assumption)) | exact cj3 (by assumption) | exact Ne.symm (cj3 (by assumption)) | exact Nat.ne_of_lt (cj3 (by assumption)) | exact Nat.ne_of_gt (cj3 (by assumption)) | exact cj4 (by assumption) | exact Ne.symm (cj4 (by assumption)) | exact Nat.ne_of_lt (cj4 (by assumption)) | exact Nat.ne_of_gt (cj4 (by assumption)) | exact cj5 (by assumption) | exact Ne.symm (cj5 (by assumption)) | exact Nat.ne_of_lt (cj5 (by assumption)) | exact Nat.ne_of_gt (cj5 (by assumption)) | exact cj6 (by assumption) | exact Ne.symm (cj6 (by assumption)) | exact Nat.ne_of_lt (cj6 (by assumption)) | exact Nat.ne_of_gt (cj6 (by assumption)) | exact cj7 (by assumption) | exact Ne.symm (cj7 (by assumption)) | exact Nat.ne_of_lt (cj7 (by assumption)) | exact Nat.ne_of_gt (cj7 (by assumption)) | exact cj8 (by assumption) | exact Ne.symm (cj8 (by assumption)) | exact Nat.ne_of_lt (cj8 (by assumption)) | exact Nat.ne_of_gt (cj8 (by assumption)) | exact cj9 (by assumption) | exact Ne.symm (cj9 (by assumption)) | exact Nat.ne_of_lt (cj9 (by assumption)) | exact Nat.ne_of_gt (cj9 (by assumption)) | exact ej5 (by assumption) | exact Ne.symm (ej5 (by assumption)) | exact Nat.ne_of_lt (ej5 (by assumption)) | exact Nat.ne_of_gt (ej5 (by assumption)) | exact ej6 (by assumption) | exact Ne.symm (ej6 (by assumption)) | exact Nat.ne_of_lt (ej6 (by assumption)) | exact Nat.ne_of_gt (ej6 (by assumption)) | exact ej7 (by assumption) | exact Ne.symm (ej7 (by assumption)) | exact Nat.ne_of_lt (ej7 (by assumption)) | exact Nat.ne_of_gt (ej7 (by assumption)) | exact ej8 (by assumption) | exact Ne.symm (ej8 (by assumption)) | exact Nat.ne_of_lt (ej8 (by assumption)) | exact Nat.ne_of_gt (ej8 (by assumption)) | exact ej9 (by assumption) | exact Ne.symm (ej9 (by assumption)) | exact Nat.ne_of_lt (ej9 (by assumption)) | exact Nat.ne_of_gt (ej9 (by assumption)))
  k_with "binaryOp RShift int int" => (k_here; (with_reducible refine shr1 ?_))
  k_with "binaryOp Mod int int" => (k_here; (with_reducible refine mod_pos ?k1 ?_); (case k1 => decide))
  k_with "binaryOp FloorDiv int int" => (k_here; (with_reducible refine fdiv_pos ?k1 ?k2 ?_); (case k1 => decide); (case k2 => decide +kernel))
  k_with "execs cons" => (k_here; first | (k_made; walk_at "execs cons") | k_gentoks | ((with_reducible refine wpAny_execs_cons ?_); (try dsimp only); (try k_fold)))
  k_with "idx" => (first | with_reducible assumption | (first | lia | omega))
  k_with "upd" => (first | (refine' Pick.head ?a; (case a => k_all)) | (refine' Pick.tail ?a ?b; (case a => k_ne); (case b => k_upd)))
  k_with "call ref" => refine held ?_
  k_steps
  refine Held.out ?_
  unfold Held
  k_dflt (refine' nearest_tells (Dom := Dom) ?B ?F ?X ?N ?T ?hk ?hm ?hp ?h4 ?hw ?hD0 ?hDp ?hDx ?hDb ?hc ?hcs ?hdp ?hun ?_; (case B => k_asm); (case F => exact F); (case X => k_asm); (case N => exact N); (case T => k_asm); (case hk => exact rfl); (case hm => exact led6_in hlk); (case hp => exact hp.mono fun p hp => led6_in hp); (case h4 => exact h4); (case hw => exact hw); (case hD0 => exact hD0); (case hDp => exact hDp); (case hDx => exact hDx); (case hDb => exact hDb); (case hc => exact hc); (case hcs => exact hcs); (case hdp => (first | exact unL2 (by assumption) rfl | exact unL1 (by assumption) rfl | exact unL0 (by assumption) | ktr_room)); (case hun => (first | exact unL2 (by assumption) rfl | exact unL1 (by assumption) rfl | exact unL0 (by assumption) | ktr_units)))
  intro h5 tk5 D vs n own fs F5 N5 lD lown hpf hperm hso hhd
  clear F1 F N
  k_with_none
  k_with "ne" => (refine neN ?_; (try dsimp only); with_reducible first | assumption | exact Ne.symm (by assumption) | exact ne1 | exact ne1.symm | exact ne2 | exact ne2.symm | exact ne3 | exact ne3.symm | exact ne4 | exact ne4.symm | exact ne5 | exact ne5.symm | exact nl1 (by assumption) | exact nl2 (by assumption) | exact nl3 (by assumption) | exact (nl1 (by assumption)).symm | exact (nl2 (by assumption)).symm | exact (nl3 (by assumption)).symm | exact Nat.ne_of_lt (by assumption) | exact Nat.ne_of_gt (by assumption) | exact cj1 (by assumption) | exact Ne.symm (cj1 (by assumption)) | exact Nat.ne_of_lt (cj1 (by assumption)) | exact Nat.ne_of_gt (cj1 (by assumption)) | exact cj2 (by assumption) | exact Ne.symm (cj2 (by assumption)) | exact Nat.ne_of_lt (cj2 (by assumption)) | exact Nat.ne_of_gt (cj2 (by assumption)) | exact cj3 (by assumption) | exact Ne.symm (cj3 (by assumption)) | exact Nat.ne_of_lt (cj3 (by assumption)) | exact Nat.ne_of_gt (cj3 (by assumption)) | exact cj4 (by assumption) | exact Ne.symm (cj4 (by assumption)) | exact Nat.ne_of_lt (cj4 (by assumption)) | exact Nat.ne_of_gt (cj4 (by assumption)) | exact cj5 (by assumption) | exact Ne.symm (cj5 (by assumption)) | exact Nat.ne_of_lt (cj5 (by assumption)) | exact Nat.ne_of_gt (cj5 (by assumption)) | exact cj6 (by assumption) | exact Ne.symm (cj6 (by assumption)) | exact Nat.ne_of_lt (cj6 (by assumption)) | exact Nat.ne_of_gt (cj6 (by assumption)) | exact cj7 (by assumption) | exact Ne.symm (cj7 (by assumption)) | exact Nat.ne_of_lt (cj7 (by assumption)) | exact Nat.ne_of_gt (cj7 (by assumption)) | exact cj8 (by assumption) | exact Ne.symm (cj8 (by assumption)) | exact Nat.ne_of_lt (cj8 (by assumption)) | exact Nat.ne_of_gt (cj8 (by assumption)) | exact cj9 (by assumption) | exact Ne.symm (cj9 (by assumption)) | exact Nat.ne_of_lt (cj9 (by assumption)) | exact Nat.ne_of_gt (cj9 (by assumption)) | exact ej5 (by assumption) | exact Ne.symm (ej5 (by assumption)) | exact Nat.ne_of_lt (ej5 (by assumption)) | exact Nat.ne_of_gt (ej5 (by assumption)) | exact ej6 (by assumption) | exact Ne.symm (ej6 (by assumption)) | exact Nat.ne_of_lt (ej6 (by assumption)) | exact Nat.ne_of_gt (ej6 (by assumption)) | exact ej7 (by assumption) | exact Ne.symm (ej7 (by assumption)) | exact Nat.ne_of_lt (ej7 (by assumption)) | exact Nat.ne_of_gt (ej7 (by assumption)) | exact ej8 (by assumption) | exact Ne.symm (ej8 (by assumption)) | exact Nat.ne_of_lt (ej8 (by assumption)) | exact Nat.ne_of_gt (ej8 (by assumption)) | exact ej9 (by assumption) | exact Ne.symm (ej9 (by assumption)) | exact Nat.ne_of_lt (ej9 (by assumption)) | exact Nat.ne_of_gt (ej9 (by assumption)))
  k_with "binaryOp RShift int int" => (k_here; (with_reducible refine shr1 ?_))
  k_with "binaryOp Mod int int" => (k_here; (with_reducible refine mod_pos ?k1 ?_); (case k1 => decide))
  k_with "binaryOp FloorDiv int int" => (k_here; (with_reducible refine fdiv_pos ?k1 ?k2 ?_); (case k1 => decide); (case k2 => decide +kernel))
  k_with "execs cons" => (k_here; first | (k_made; walk_at "execs cons") | k_gentoks | ((with_reducible refine wpAny_execs_cons ?_); (try dsimp only); (try k_fold)))
  k_with "idx" => (first | with_reducible assumption | (first | lia | omega))
  k_with "upd" => (first | (refine' Pick.head ?a; (case a => k_all)) | (refine' Pick.tail ?a ?b; (case a => k_ne); (case b => k_upd)))
  k_steps
  rename News _ _ _ _ => N8
  have zD : @LT.lt Nat _ (L + 1 + 1 + 1 + 1 + 1 + 1) D := lD _ (.head _)
  have hoa : Above L own := fun p hp => by
    have z : @LT.lt Nat _ (L + 1 + 1 + 1 + 1 + 1 + 1) p.1 := lown p hp _ (.head _)
    exact abv_gt z
  dsimp only
  refine WEnd.intro (nx := led6 L c6 c5 c4 c3 c2 c1 ((D, W.listOf vs.toArray n) :: (own ++ tl))) (by k_asm) N8 ?sub ⟨D, vs, n, own, fs, rfl, rfl, Above.cons (abv_gt zD) (hoa.app hab), hpf, hperm, hso, hhd⟩
  case sub =>
    exact led6_all (.tail _ (List.mem_append_right _ (by k_mem))) (.tail _ (List.mem_append_right _ (by k_mem))) (.tail _ (List.mem_append_right _ (by k_mem))) (.tail _ (List.mem_append_right _ (by k_mem))) (.tail _ (List.mem_append_right _ (by k_mem))) (.tail _ (List.mem_append_right _ (by k_mem))) (cons_all (by k_mem) fun p hp => .tail _ ((List.mem_append.mp hp).elim (fun h => List.mem_append_left _ h) fun h => List.mem_append_right _ (mem6 h)))
end

end
section
inductive Post_ways (L : Addr) (m : Str → Option Value) (c6 : Obj) (c5 : Obj) (c4 : Obj) (c3 : Obj) (c2 : Obj) (c1 : Obj) (tl : List (Addr × Obj)) (fs : List (Int × Int)) (m' : Str → Option Value) (nx : List (Addr × Obj)) : Prop
  | mk (D vs n : _) (_ : m' = setM m (Str.ofString "ways") (.ref D)) (_ : nx = led6 L c6 c5 c4 c3 c2 c1 ((D, W.listOf vs.toArray n) :: tl)) (_ : Above L ((D, W.listOf vs.toArray n) :: tl)) (_ : IntsAre vs (fs.map (·.1)))
section
variable {w : World} {mean : ExcName → Option Value} {mg mb : Str → Option Value} {a : Addr} {ccd : Value} {h₀ : Heap} {L : Addr} {m : Str → Option Value} {s : Shared} {Q : Flow → Shared → Prop} {E : Value → Shared → Prop}
  {oc : Value} {od : Option Addr} {name qual : Str} {params : Arguments} {body : List Stmt} {scope : Scope} {dV kV doc pm cdv ct : Value} {an : Option Addr} {osl : Array (Option Value)} {st : Stmt}
set_option maxHeartbeats 8000000 in
theorem st_ways {c6 c5 c4 c3 c2 c1 : Obj} {tl : List (Addr × Obj)} {lt : Addr} {vt : List Value} {nt : Nat} {fs : List (Int × Int)}
    (ho : (hd.heap_39 w.params).lookup 145 = some ⟨oc, od, .func (fnOf name qual params body scope dV kV doc pm an cdv ct), osl⟩) (hst : body[9]? = some st)
    (B : Below callerA h₀ [] h₀) (X : (hd.heap_39 w.params).In h₀) (T : Top hd.view_39 lz mean mg mb h₀) (F : Fr h₀ L s.heap m)
    (N : News h₀ L s.heap (led6 L c6 c5 c4 c3 c2 c1 tl)) (hab : Above L tl) (hm : KnownAll m [(Str.ofString "told", .ref lt)]) (hlt : (lt, W.listOf vt.toArray nt) ∈ tl) (hp : PairsP tl vt fs) (h16 : fs.length ≤ 16) :
    wpAny (model prg w) (callerA.deeper (envOfC qual scope L a ccd)) (exec st (envOfC qual scope L a ccd))
      (StPost h₀ L (Post_ways L m c6 c5 c4 c3 c2 c1 tl fs) s Q) E s := by
  revert X; unfold prg; w_top off; k_fill; intro X
  refine' fn_st ho hst ?e ?hb ?_
  case e => k_is
  case hb => exact rfl
  clear ho hst
  rintro rfl rfl rfl
  have F1 : Fr h₀ L s.heap (kstB m [(Str.ofString "told", .ref lt)]) := fr_knownL hm F
  dsimp only [kstB] at F1
  have hvl := hp.length
  k_with_none
  k_with "ne" => (refine neN ?_; (try dsimp only); with_reducible first | assumption | exact Ne.symm (by assumption) | exact ne1 | exact ne1.symm | exact ne2 | exact ne2.symm | exact ne3 | exact ne3.symm | exact ne4 | exact ne4.symm | exact ne5 | exact ne5.symm | exact nl1 (by assumption) | exact nl2 (by assumption) | exact nl3 (by assumption) | exact (nl1 (by assumption)).symm | exact (nl2 (by assumption)).symm | exact (nl3 (by assumption)).symm | exact Nat.ne_of_lt (by assumption) | exact Nat.ne_of_gt (by assumption) | exact cj1 (by assumption) | exact Ne.symm (cj1 (by assumption)) | exact Nat.ne_of_lt (cj1 (by assumption)) | exact Nat.ne_of_gt (cj1 (by assumption)) | exact cj2 (by assumption) | exact Ne.symm (cj2 (by assumption)) | exact Nat.ne_of_lt (cj2 (by assumption)) | exact Nat.ne_of_gt (cj2 (by assumption)) | exact cj3 (by assumption) | exact Ne.symm (cj3 (by assumption)) | exact Nat.ne_of_lt (cj3 (by assumption)) | exact Nat.ne_of_gt (cj3 (by assumption)) | exact cj4 (by assumption) | exact Ne.symm (cj4 (by assumption)) | exact Nat.ne_of_lt (cj4 (by assumption)) | exact Nat.ne_of_gt (cj4 (by assumption)) | exact cj5 (by assumption) | exact Ne.symm (cj5 (by assumption)) | exact Nat.ne_of_lt (cj5 (by assumption)) | exact Nat.ne_of_gt (cj5 (by assumption)) | exact cj6 (by assumption) | exact Ne.symm (cj6 (by assumption)) | exact Nat.ne_of_lt (cj6 (by assumption)) | exact Nat.ne_of_gt (cj6 (by assumption)) | exact cj7 (by assumption) | exact Ne.symm (cj7 (by assumption)) | exact Nat.ne_of_lt (cj7 (by assumption)) | exact Nat.ne_of_gt (cj7 (by assumption)) | exact cj8 (by assumption) | exact Ne.symm (cj8 (by assumption)) | exact Nat.ne_of_lt (cj8 (by assumption)) | exact Nat.ne_of_gt (cj8 (by assumption)) | exact cj9 (by assumption) | exact Ne.symm (cj9 (by assumption)) | exact Nat.ne_of_lt (cj9 (by assumption)) | exact Nat.ne_of_gt (cj9 (by assumption)) | exact ej5 (by assumption) | exact Ne.symm (ej5 (by assumption)) | exact Nat.ne_of_lt (ej5 (by assumption)) | exact Nat.ne_of_gt (ej5 (by assumption)) | exact ej6 (by assumption) | exact Ne.symm (ej6 (by assumption)) | exact Nat.ne_of_lt (ej6 (by assumption)) | exact Nat.ne_of_gt (ej6 (by assumption)) | exact ej7 (by assumption) | exact Ne.symm (ej7 (by assumption)) | exact Nat.ne_of_lt (ej7 (by assumption)) | exact Nat.ne_of_gt (ej7 (by assumption)) | exact ej8 (by assumption) | exact Ne.symm (ej8 (by assumption)) | exact Nat.ne_of_lt (ej8 (by assumption)) | exact Nat.ne_of_gt (ej8 (by assumption)) | exact ej9 (by assumption) | exact Ne.symm (ej9 (by assumption)) | exact Nat.ne_of_lt (ej9 (by assumption)) | exact Nat.ne_of_gt (ej9 (by assumption)))
  k_with "binaryOp RShift int int" => (k_here; (with_reducible refine shr1 ?_))
  k_with "binaryOp Mod int int" => (k_here; (with_reducible refine mod_pos ?k1 ?_); (case k1 => decide))
  k_with "binaryOp FloorDiv int int" => (k_here; (with_reducible refine fdiv_pos ?k1 ?k2 ?_); (case k1 => decide); (case k2 => decide +kernel))
  k_with "call ref" => (k_here; refine wpAny_call ?_; k_dflt (refine' code_def ?k1 ?k2 ?k3 ?k4 ?k5 ?kA ?kF ?kK ?k6 ?k7 ?k8 ?k9 ?kB ?_ ?c2 ?c3 ?c4 ?c5; (case kA => exact rfl); (case kF => exact rfl); (case kK => first | exact rfl | assumption); (case k1 => k_asm); (case k2 => k_asm); (case k3 => k_asm); (case k4 => k_asm); (case k5 => k_asm); (case k6 => k_is); (case k7 => k_is); (case k8 => (first | exact unL2 (by assumption) rfl | exact unL1 (by assumption) rfl | exact unL0 (by assumption) | ktr_room)); (case k9 => exact BindsTo.of_eq rfl); (case c5 => decide); (case kB => exact locs rfl); (case c2 => exact rfl); (case c3 => exact rfl); (case c4 => exact rfl); k_whole; intro g' L' h' FG' F' N' B' X' T'; (try dsimp only); (try k_lift B'); (try k_fold)))
  k_with "execs cons" => (k_here; first | (k_made; walk_at "execs cons") | k_gentoks | ((with_reducible refine wpAny_execs_cons ?_); (try dsimp only); (try k_fold)))
  k_with "idx" => (first | with_reducible assumption | (first | lia | omega))
  k_with "upd" => (first | (refine' Pick.head ?a; (case a => k_all)) | (refine' Pick.tail ?a ?b; (case a => k_ne); (case b => k_upd)))
  k_with "eval ListComp" => (k_here; k_dflt (refine LCp.ListComp_P (F₀ := by k_asm) (by with_unfolding_all rfl) (by decide) (by rfl) (by decide) (by rfl) (by rfl) (by decide) ?_))
  k_with "exec Assign cons ListComp" => (k_here; k_dflt (refine LCp.Assign_ListComp_P (F₀ := by k_asm) (by rfl) (by with_unfolding_all rfl) (by with_unfolding_all rfl) (by decide) (by rfl) (by decide) (by rfl) (by rfl) (by decide) (by rfl) (by rfl) ?_))
  k_with "SrcLP" => refine held ?_
  k_steps
  refine Held.out ?_
  unfold Held
  have eM : (fun z => if z = Str.ofString "told" then some (Value.ref lt) else m z) = m := known_eq hm
  rw [eM]
  clear F1
  refine LCp.SrcLP.ledger rfl F N (led6_in hlt) (by rw [List.size_toArray, hvl, sizeLine_eq]; (first | lia | omega)) ?_
  intro g2
  have hsz : vt.toArray.size = fs.length := by simp [hvl]
  refine rest_P (fun i ys nx => nx = led6 L c6 c5 c4 c3 c2 c1 tl ∧ IntsAre ys ((fs.take i).map (·.1))) ?pair ?done ⟨rfl, .nil⟩
  case pair =>
    intro i v ys nx hi hP hJ
    refine' hid fun kG_ => ?_
    obtain ⟨rfl, hys⟩ := hJ
    refine' kG_ ?_
    clear kG_
    rw [hsz] at hi
    have hPv : vt[i]? = some v := by simpa using hP
    refine' hid fun kG_ => ?_
    obtain ⟨ai, n', t1, t2, e, hmm⟩ := hp.at hi
    refine' kG_ ?_
    clear kG_
    rw [hPv] at e
    cases e
    refine ⟨ai, n', _, _, rfl, led6_in hmm, ?_⟩
    intro I oI C oC D m₂ h tk E' hC hx hx2 F2 N2 off ne
    clear F N
    k_with_none
    k_with "ne" => (refine neN ?_; (try dsimp only); with_reducible first | assumption | exact Ne.symm (by assumption) | exact ne1 | exact ne1.symm | exact ne2 | exact ne2.symm | exact ne3 | exact ne3.symm | exact ne4 | exact ne4.symm | exact ne5 | exact ne5.symm | exact nl1 (by assumption) | exact nl2 (by assumption) | exact nl3 (by assumption) | exact (nl1 (by assumption)).symm | exact (nl2 (by assumption)).symm | exact (nl3 (by assumption)).symm | exact Nat.ne_of_lt (by assumption) | exact Nat.ne_of_gt (by assumption) | exact cj1 (by assumption) | exact Ne.symm (cj1 (by assumption)) | exact Nat.ne_of_lt (cj1 (by assumption)) | exact Nat.ne_of_gt (cj1 (by assumption)) | exact cj2 (by assumption) | exact Ne.symm (cj2 (by assumption)) | exact Nat.ne_of_lt (cj2 (by assumption)) | exact Nat.ne_of_gt (cj2 (by assumption)) | exact cj3 (by assumption) | exact Ne.symm (cj3 (by assumption)) | exact Nat.ne_of_lt (cj3 (by assumption)) | exact Nat.ne_of_gt (cj3 (by assumption)) | exact cj4 (by assumption) | exact Ne.symm (cj4 (by assumption)) | exact Nat.ne_of_lt (cj4 (by assumption)) | exact Nat.ne_of_gt (cj4 (by assumption)) | exact cj5 (by assumption) | exact Ne.symm (cj5 (by assumption)) | exact Nat.ne_of_lt (cj5 (by assumption)) | exact Nat.ne_of_gt (cj5 (by assumption)) | exact cj6 (by assumption) | exact Ne.symm (cj6 (by assumption)) | exact Nat.ne_of_lt (cj6 (by assumption)) | exact Nat.ne_of_gt (cj6 (by assumption)) | exact cj7 (by assumption) | exact Ne.symm (cj7 (by assumption)) | exact Nat.ne_of_lt (cj7 (by assumption)) | exact Nat.ne_of_gt (cj7 (by assumption)) | exact cj8 (by assumption) | exact Ne.symm (cj8 (by assumption)) | exact Nat.ne_of_lt (cj8 (by assumption)) | exact Nat.ne_of_gt (cj8 (by assumption)) | exact cj9 (by assumption) | exact Ne.symm (cj9 (by assumption)) | exact Nat.ne_of_lt (cj9 (by assumption)) | exact Nat.ne_of_gt (cj9 (by assumption)) | exact ej5 (by assumption) | exact Ne.symm (ej5 (by assumption)) | exact Nat.ne_of_lt (ej5 (by assumption)) | exact Nat.ne_of_gt (ej5 (by assumption)) | exact ej6 (by assumption) | exact Ne.symm (ej6 (by assumption)) | exact Nat.ne_of_lt (ej6 (by assumption)) | exact Nat.ne_of_gt (ej6 (by assumption)) | exact ej7 (by assumption) | exact Ne.symm (ej7 (by assumption)) | exact Nat.ne_of_lt (ej7 (by assumption)) | exact Nat.ne_of_gt (ej7 (by assumption)) | exact ej8 (by assumption) | exact Ne.symm (ej8 (by assumption)) | exact Nat.ne_of_lt (ej8 (by assumption)) | exact Nat.ne_of_gt (ej8 (by assumption)) | exact ej9 (by assumption) | exact Ne.symm (ej9 (by assumption)) | exact Nat.ne_of_lt (ej9 (by assumption)) | exact Nat.ne_of_gt (ej9 (by assumption)))
    k_with "binaryOp RShift int int" => (k_here; (with_reducible refine shr1 ?_))
    k_with "binaryOp Mod int int" => (k_here; (with_reducible refine mod_pos ?k1 ?_); (case k1 => decide))
    k_with "binaryOp FloorDiv int int" => (k_here; (with_reducible refine fdiv_pos ?k1 ?k2 ?_); (case k1 => decide); (case k2 => decide +kernel))
    k_with "call ref" => (k_here; refine wpAny_call ?_; k_dflt (refine' code_def ?k1 ?k2 ?k3 ?k4 ?k5 ?kA ?kF ?kK ?k6 ?k7 ?k8 ?k9 ?kB ?_ ?c2 ?c3 ?c4 ?c5; (case kA => exact rfl); (case kF => exact rfl); (case kK => first | exact rfl | assumption); (case k1 => k_asm); (case k2 => k_asm); (case k3 => k_asm); (case k4 => k_asm); (case k5 => k_asm); (case k6 => k_is); (case k7 => k_is); (case k8 => (first | exact unL2 (by assumption) rfl | exact unL1 (by assumption) rfl | exact unL0 (by assumption) | ktr_room)); (case k9 => exact BindsTo.of_eq rfl); (case c5 => decide); (case kB => exact locs rfl); (case c2 => exact rfl); (case c3 => exact rfl); (case c4 => exact rfl); k_whole; intro g' L' h' FG' F' N' B' X' T'; (try dsimp only); (try k_lift B'); (try k_fold)))
    k_with "execs cons" => (k_here; first | (k_made; walk_at "execs cons") | k_gentoks | ((with_reducible refine wpAny_execs_cons ?_); (try dsimp only); (try k_fold)))
    k_with "idx" => (first | with_reducible assumption | (first | lia | omega))
    k_with "upd" => (first | (refine' Pick.head ?a; (case a => k_all)) | (refine' Pick.tail ?a ?b; (case a => k_ne); (case b => k_upd)))
    k_with "eval ListComp" => (k_here; k_dflt (refine LCp.ListComp_P (F₀ := by k_asm) (by with_unfolding_all rfl) (by decide) (by rfl) (by decide) (by rfl) (by rfl) (by decide) ?_))
    k_with "exec Assign cons ListComp" => (k_here; k_dflt (refine LCp.Assign_ListComp_P (F₀ := by k_asm) (by rfl) (by with_unfolding_all rfl) (by with_unfolding_all rfl) (by decide) (by rfl) (by decide) (by rfl) (by rfl) (by decide) (by rfl) (by rfl) ?_))
    k_steps
    refine UEnd.intro F2 N2 _ (fun p hp => hp) off (Or.inr ⟨_, led6_in hlt, rfl, _, rfl⟩) ⟨rfl, ?_⟩
    rw [take_snoc _ (getD_some (d := (0, 0)) hi)]
    exact IntsAre.append hys (.cons _ _ .nil)
  case done =>
    intro ys nx hJ
    refine' hid fun kG_ => ?_
    obtain ⟨rfl, hys⟩ := hJ
    refine' kG_ ?_
    clear kG_
    rw [hsz, List.take_length] at hys
    intro D h tk F2 N2 off
    dsimp only
    exact WEnd.intro F2 N2 led6_new ⟨D, ys, ys.length, rfl, rfl, Above.cons (abv_off off) hab, hys⟩
end

end
section
inductive Post_every (L : Addr) (m : Str → Option Value) (c6 : Obj) (c5 : Obj) (c4 : Obj) (c3 : Obj) (c2 : Obj) (c1 : Obj) (tl : List (Addr × Obj)) (fs : List (Int × Int)) (m' : Str → Option Value) (nx : List (Addr × Obj)) : Prop
  | mk (D vs n : _) (_ : m' = setM m (Str.ofString "every") (.ref D)) (_ : nx = led6 L c6 c5 c4 c3 c2 c1 ((D, W.listOf vs.toArray n) :: tl)) (_ : Above L ((D, W.listOf vs.toArray n) :: tl)) (_ : IntsAre vs (fs.map (·.2)))
section
variable {w : World} {mean : ExcName → Option Value} {mg mb : Str → Option Value} {a : Addr} {ccd : Value} {h₀ : Heap} {L : Addr} {m : Str → Option Value} {s : Shared} {Q : Flow → Shared → Prop} {E : Value → Shared → Prop}
  {oc : Value} {od : Option Addr} {name qual : Str} {params : Arguments} {body : List Stmt} {scope : Scope} {dV kV doc pm cdv ct : Value} {an : Option Addr} {osl : Array (Option Value)} {st : Stmt}
set_option maxHeartbeats 8000000 in
theorem st_every {c6 c5 c4 c3 c2 c1 : Obj} {tl : List (Addr × Obj)} {lt : Addr} {vt : List Value} {nt : Nat} {fs : List (Int × Int)}
    (ho : (hd.heap_39 w.params).lookup 145 = some ⟨oc, od, .func (fnOf name qual params body scope dV kV doc pm an cdv ct), osl⟩) (hst : body[10]? = some st)
    (B : Below callerA h₀ [] h₀) (X : (hd.heap_39 w.params).In h₀) (T : Top hd.view_39 lz mean mg mb h₀) (F : Fr h₀ L s.heap m)
    (N : News h₀ L s.heap (led6 L c6 c5 c4 c3 c2 c1 tl)) (hab : Above L tl) (hm : KnownAll m [(Str.ofString "told", .ref lt)]) (hlt : (lt, W.listOf vt.toArray nt) ∈ tl) (hp : PairsP tl vt fs) (h16 : fs.length ≤ 16) :
    wpAny (model prg w) (callerA.deeper (envOfC qual scope L a ccd)) (exec st (envOfC qual scope L a ccd))
      (StPost h₀ L (Post_every L m c6 c5 c4 c3 c2 c1 tl fs) s Q) E s := by
  revert X; unfold prg; w_top off; k_fill; intro X
  refine' fn_st ho hst ?e ?hb ?_
  case e => k_is
  case hb => exact rfl
  clear ho hst
  rintro rfl rfl rfl
  have F1 : Fr h₀ L s.heap (kstB m [(Str.ofString "told", .ref lt)]) := fr_knownL hm F
  dsimp only [kstB] at F1
  have hvl := hp.length
  k_with_none
  k_with "ne" => (refine neN ?_; (try dsimp only); with_reducible first | assumption | exact Ne.symm (by assumption) | exact ne1 | exact ne1.symm | exact ne2 | exact ne2.symm | exact ne3 | exact ne3.symm | exact ne4 | exact ne4.symm | exact ne5 | exact ne5.symm | exact nl1 (by assumption) | exact nl2 (by assumption) | exact nl3 (by assumption) | exact (nl1 (by assumption)).symm | exact (nl2 (by assumption)).symm | exact (nl3 (by assumption)).symm | exact Nat.ne_of_lt (by assumption) | exact Nat.ne_of_gt (by assumption) | exact cj1 (by assumption) | exact Ne.symm (cj1 (by assumption)) | exact Nat.ne_of_lt (cj1 (by assumption)) | exact Nat.ne_of_gt (cj1 (by assumption)) | exact cj2 (by assumption) | exact Ne.symm (cj2 (by assumption)) | exact Nat.ne_of_lt (cj2 (by assumption)) | exact Nat.ne_of_gt (cj2 (by assumption)) | exact cj3 (by assumption) | exact Ne.symm (cj3 (by assumption)) | exact Nat.ne_of_lt (cj3 (by assumption)) | exact Nat.ne_of_gt (cj3 (by assumption)) | exact cj4 (by assumption) | exact Ne.symm (cj4 (by assumption)) | exact Nat.ne_of_lt (cj4 (by assumption)) | exact Nat.ne_of_gt (cj4 (by assumption)) | exact cj5 (by assumption) | exact Ne.symm (cj5 (by assumption)) | exact Nat.ne_of_lt (cj5 (by assumption)) | exact Nat.ne_of_gt (cj5 (by assumption)) | exact cj6 (by assumption) | exact Ne.symm (cj6 (by assumption)) | exact Nat.ne_of_lt (cj6 (by assumption)) | exact Nat.ne_of_gt (cj6 (by assumption)) | exact cj7 (by assumption) | exact Ne.symm (cj7 (by assumption)) | exact Nat.ne_of_lt (cj7 (by assumption)) | exact Nat.ne_of_gt (cj7 (by assumption)) | exact cj8 (by assumption) | exact Ne.symm (cj8 (by assumption)) | exact Nat.ne_of_lt (cj8 (by assumption)) | exact Nat.ne_of_gt (cj8 (by assumption)) | exact cj9 (by assumption) | exact Ne.symm (cj9 (by assumption)) | exact Nat.ne_of_lt (cj9 (by assumption)) | exact Nat.ne_of_gt (cj9 (by assumption)) | exact ej5 (by assumption) | exact Ne.symm (ej5 (by assumption)) | exact Nat.ne_of_lt (ej5 (by assumption)) | exact Nat.ne_of_gt (ej5 (by assumption)) | exact ej6 (by assumption) | exact Ne.symm (ej6 (by assumption)) | exact Nat.ne_of_lt (ej6 (by assumption)) | exact Nat.ne_of_gt (ej6 (by assumption)) | exact ej7 (by assumption) | exact Ne.symm (ej7 (by assumption)) | exact Nat.ne_of_lt (ej7 (by assumption)) | exact Nat.ne_of_gt (ej7 (by assumption)) | exact ej8 (by assumption) | exact Ne.symm (ej8 (by assumption)) | exact Nat.ne_of_lt (ej8 (by assumption)) | exact Nat.ne_of_gt (ej8 (by assumption)) | exact ej9 (by assumption) | exact Ne.symm (ej9 (by assumption)) | exact Nat.ne_of_lt (ej9 (by assumption)) | exact Nat.ne_of_gt (ej9 (by assumption)))
  k_with "binaryOp RShift int int" => (k_here; (with_reducible refine shr1 ?_))
  k_with "binaryOp Mod int int" => (k_here; (with_reducible refine mod_pos ?k1 ?_); (case k1 => decide))
  k_with "binaryOp FloorDiv int int" => (k_here; (with_reducible refine fdiv_pos ?k1 ?k2 ?_); (case k1 => decide); (case k2 => decide +kernel))
  k_with "call ref" => (k_here; refine wpAny_call ?_; k_dflt (refine' code_def ?k1 ?k2 ?k3 ?k4 ?k5 ?kA ?kF ?kK ?k6 ?k7 ?k8 ?k9 ?kB ?_ ?c2 ?c3 ?c4 ?c5; (case kA => exact rfl); (case kF => exact rfl); (case kK => first | exact rfl | assumption); (case k1 => k_asm); (case k2 => k_asm); (case k3 => k_asm); (case k4 => k_asm); (case k5 => k_asm); (case k6 => k_is); (case k7 => k_is); (case k8 => (first | exact unL2 (by assumption) rfl | exact unL1 (by assumption) rfl | exact unL0 (by assumption) | ktr_room)); (case k9 => exact BindsTo.of_eq rfl); (case c5 => decide); (case kB => exact locs rfl); (case c2 => exact rfl); (case c3 => exact rfl); (case c4 => exact rfl); k_whole; intro g' L' h' FG' F' N' B' X' T'; (try dsimp only); (try k_lift B'); (try k_fold)))
  k_with "execs cons" => (k_here; first | (k_made; walk_at "execs cons") | k_gentoks | ((with_reducible refine wpAny_execs_cons ?_); (try dsimp only); (try k_fold)))
  k_with "idx" => (first | with_reducible assumption | (first | lia | omega))
  k_with "upd" => (first | (refine' Pick.head ?a; (case a => k_all)) | (refine' Pick.tail ?a ?b; (case a => k_ne); (case b => k_upd)))
  k_with "eval ListComp" => (k_here; k_dflt (refine LCp.ListComp_P (F₀ := by k_asm) (by with_unfolding_all rfl) (by decide) (by rfl) (by decide) (by rfl) (by rfl) (by decide) ?_))
  k_with "exec Assign cons ListComp" => (k_here; k_dflt (refine LCp.Assign_ListComp_P (F₀ := by k_asm) (by rfl) (by with_unfolding_all rfl) (by with_unfolding_all rfl) (by decide) (by rfl) (by decide) (by rfl) (by rfl) (by decide) (by rfl) (by rfl) ?_))
  k_with "SrcLP" => refine held ?_
  k_steps
  refine Held.out ?_
  unfold Held
  have eM : (fun z => if z = Str.ofString "told" then some (Value.ref lt) else m z) = m := known_eq hm
  rw [eM]
  clear F1
  refine LCp.SrcLP.ledger rfl F N (led6_in hlt) (by rw [List.size_toArray, hvl, sizeLine_eq]; (first | lia | omega)) ?_
  intro g2
  have hsz : vt.toArray.size = fs.length := by simp [hvl]
  refine rest_P (fun i ys nx => nx = led6 L c6 c5 c4 c3 c2 c1 tl ∧ IntsAre ys ((fs.take i).map (·.2))) ?pair ?done ⟨rfl, .nil⟩
  case pair =>
    intro i v ys nx hi hP hJ
    refine' hid fun kG_ => ?_
    obtain ⟨rfl, hys⟩ := hJ
    refine' kG_ ?_
    clear kG_
    rw [hsz] at hi
    have hPv : vt[i]? = some v := by simpa using hP
    refine' hid fun kG_ => ?_
    obtain ⟨ai, n', t1, t2, e, hmm⟩ := hp.at hi
    refine' kG_ ?_
    clear kG_
    rw [hPv] at e
    cases e
    refine ⟨ai, n', _, _, rfl, led6_in hmm, ?_⟩
    intro I oI C oC D m₂ h tk E' hC hx hx2 F2 N2 off ne
    clear F N
    k_with_none
    k_with "ne" => (refine neN ?_; (try dsimp only); with_reducible first | assumption | exact Ne.symm (by assumption) | exact ne1 | exact ne1.symm | exact ne2 | exact ne2.symm | exact ne3 | exact ne3.symm | exact ne4 | exact ne4.symm | exact ne5 | exact ne5.symm | exact nl1 (by assumption) | exact nl2 (by assumption) | exact nl3 (by assumption) | exact (nl1 (by assumption)).symm | exact (nl2 (by assumption)).symm | exact (nl3 (by assumption)).symm | exact Nat.ne_of_lt (by assumption) | exact Nat.ne_of_gt (by assumption) | exact cj1 (by assumption) | exact Ne.symm (cj1 (by assumption)) | exact Nat.ne_of_lt (cj1 (by assumption)) | exact Nat.ne_of_gt (cj1 (by assumption)) | exact cj2 (by assumption) | exact Ne.symm (cj2 (by assumption)) | exact Nat.ne_of_lt (cj2 (by assumption)) | exact Nat.ne_of_gt (cj2 (by assumption)) | exact cj3 (by assumption) | exact Ne.symm (cj3 (by assumption)) | exact Nat.ne_of_lt (cj3 (by assumption)) | exact Nat.ne_of_gt (cj3 (by assumption)) | exact cj4 (by assumption) | exact Ne.symm (cj4 (by assumption)) | exact Nat.ne_of_lt (cj4 (by assumption)) | exact Nat.ne_of_gt (cj4 (by assumption)) | exact cj5 (by assumption) | exact Ne.symm (cj5 (by assumption)) | exact Nat.ne_of_lt (cj5 (by assumption)) | exact Nat.ne_of_gt (cj5 (by assumption)) | exact cj6 (by assumption) | exact Ne.symm (cj6 (by assumption)) | exact Nat.ne_of_lt (cj6 (by assumption)) | exact Nat.ne_of_gt (cj6 (by assumption)) | exact cj7 (by assumption) | exact Ne.symm (cj7 (by assumption)) | exact Nat.ne_of_lt (cj7 (by assumption)) | exact Nat.ne_of_gt (cj7 (by assumption)) | exact cj8 (by assumption) | exact Ne.symm (cj8 (by assumption)) | exact Nat.ne_of_lt (cj8 (by assumption)) | exact Nat.ne_of_gt (cj8 (by assumption)) | exact cj9 (by assumption) | exact Ne.symm (cj9 (by assumption)) | exact Nat.ne_of_lt (cj9 (by assumption)) | exact Nat.ne_of_gt (cj9 (by assumption)) | exact ej5 (by assumption) | exact Ne.symm (ej5 (by assumption)) | exact Nat.ne_of_lt (ej5 (by assumption)) | exact Nat.ne_of_gt (ej5 (by assumption)) | exact ej6 (by assumption) | exact Ne.symm (ej6 (by assumption)) | exact Nat.ne_of_lt (ej6 (by assumption)) | exact Nat.ne_of_gt (ej6 (by assumption)) | exact ej7 (by assumption) | exact Ne.symm (ej7 (by assumption)) | exact Nat.ne_of_lt (ej7 (by assumption)) | exact Nat.ne_of_gt (ej7 (by assumption)) | exact ej8 (by assumption) | exact Ne.symm (ej8 (by assumption)) | exact Nat.ne_of_lt (ej8 (by assumption)) | exact Nat.ne_of_gt (ej8 (by assumption)) | exact ej9 (by assumption) | exact Ne.symm (ej9 (by assumption)) | exact Nat.ne_of_lt (ej9 (by assumption)) | exact Nat.ne_of_gt (ej9 (by assumption)))
    k_with "binaryOp RShift int int" => (k_here; (with_reducible refine shr1 ?_))
    k_with "binaryOp Mod int int" => (k_here; (with_reducible refine mod_pos ?k1 ?_); (case k1 => decide))
    k_with "binaryOp FloorDiv int int" => (k_here; (with_reducible refine fdiv_pos ?k1 ?k2 ?_); (case k1 => decide); (case k2 => decide +kernel))
    k_with "call ref" => (k_here; refine wpAny_call ?_; k_dflt (refine' code_def ?k1 ?k2 ?k3 ?k4 ?k5 ?kA ?kF ?kK ?k6 ?k7 ?k8 ?k9 ?kB ?_ ?c2 ?c3 ?c4 ?c5; (case kA => exact rfl); (case kF => exact rfl); (case kK => first | exact rfl | assumption); (case k1 => k_asm); (case k2 => k_asm); (case k3 => k_asm); (case k4 => k_asm); (case k5 => k_asm); (case k6 => k_is); (case k7 => k_is); (case k8 => (first | exact unL2 (by assumption) rfl | exact unL1 (by assumption) rfl | exact unL0 (by assumption) | ktr_room)); (case k9 => exact BindsTo.of_eq rfl); (case c5 => decide); (case kB => exact locs rfl); (case c2 => exact rfl); (case c3 => exact rfl); (case c4 => exact rfl); k_whole; intro g' L' h' FG' F' N' B' X' T'; (try dsimp only); (try k_lift B'); (try k_fold)))
    k_with "execs cons" => (k_here; first | (k_made; walk_at "execs cons") | k_gentoks | ((with_reducible refine wpAny_execs_cons ?_); (try dsimp only); (try k_fold)))
    k_with "idx" => (first | with_reducible assumption | (first | lia | omega))
    k_with "upd" => (first | (refine' Pick.head ?a; (case a => k_all)) | (refine' Pick.tail ?a ?b; (case a => k_ne); (case b => k_upd)))
    k_with "eval ListComp" => (k_here; k_dflt (refine LCp.ListComp_P (F₀ := by k_asm) (by with_unfolding_all rfl) (by decide) (by rfl) (by decide) (by rfl) (by rfl) (by decide) ?_))
    k_with "exec Assign cons ListComp" => (k_here; k_dflt (refine LCp.Assign_ListComp_P (F₀ := by k_asm) (by rfl) (by with_unfolding_all rfl) (by with_unfolding_all rfl) (by decide) (by rfl) (by decide) (by rfl) (by rfl) (by decide) (by rfl) (by rfl) ?_))
    k_steps
    refine UEnd.intro F2 N2 _ (fun p hp => hp) off (Or.inr ⟨_, led6_in hlt, rfl, _, rfl⟩) ⟨rfl, ?_⟩
    rw [take_snoc _ (getD_some (d := (0, 0)) hi)]
    exact IntsAre.append hys (.cons _ _ .nil)
  case done =>
    intro ys nx hJ
    refine' hid fun kG_ => ?_
    obtain ⟨rfl, hys⟩ := hJ
    refine' kG_ ?_
    clear kG_
    rw [hsz, List.take_length] at hys
    intro D h tk F2 N2 off
    dsimp only
    exact WEnd.intro F2 N2 led6_new ⟨D, ys, ys.length, rfl, rfl, Above.cons (abv_off off) hab, hys⟩
end

end
section
noncomputable abbrev Post_if1 (L : Addr) (m : Str → Option Value) (c6 : Obj) (c5 : Obj) (c4 : Obj) (c3 : Obj) (c2 : Obj) (c1 : Obj) (tl : List (Addr × Obj)) (m' : Str → Option Value) (nx : List (Addr × Obj)) : Prop := m' = m ∧ nx = led6 L c6 c5 c4 c3 c2 c1 tl
section
variable {w : World} {mean : ExcName → Option Value} {mg mb : Str → Option Value} {a : Addr} {ccd : Value} {h₀ : Heap} {L : Addr} {m : Str → Option Value} {s : Shared} {Q : Flow → Shared → Prop} {E : Value → Shared → Prop}
  {oc : Value} {od : Option Addr} {name qual : Str} {params : Arguments} {body : List Stmt} {scope : Scope} {dV kV doc pm cdv ct : Value} {an : Option Addr} {osl : Array (Option Value)} {st : Stmt}
set_option maxHeartbeats 8000000 in
theorem st_if1 {c6 c5 c4 c3 c2 c1 : Obj} {tl : List (Addr × Obj)} {lw lv lp : Addr} {vw vv vp : List Value} {nw nv np : Nat} {ws es ps : List Int}
    (ho : (hd.heap_39 w.params).lookup 145 = some ⟨oc, od, .func (fnOf name qual params body scope dV kV doc pm an cdv ct), osl⟩) (hst : body[11]? = some st)
    (B : Below callerA h₀ [] h₀) (X : (hd.heap_39 w.params).In h₀) (T : Top hd.view_39 lz mean mg mb h₀) (F : Fr h₀ L s.heap m)
    (N : News h₀ L s.heap (led6 L c6 c5 c4 c3 c2 c1 tl)) (hab : Above L tl) (hm : KnownAll m [(Str.ofString "ways", .ref lw), (Str.ofString "every", .ref lv)]) (d3 : c3.data = .cell (some (.ref lp)))
    (hlw : (lw, W.listOf vw.toArray nw) ∈ tl) (hiw : IntsAre vw ws) (hlv : (lv, W.listOf vv.toArray nv) ∈ tl) (hiv : IntsAre vv es) (hlp : (lp, W.listOf vp.toArray np) ∈ tl) (hip : IntsAre vp ps) (h16 : ws.length ≤ 16) (g16 : es.length ≤ 16) (p4 : ps.length = 4)
    (hso : ws.Pairwise (· ≤ ·)) (hpe : es.Perm (chF ps)) :
    wpAny (model prg w) (callerA.deeper (envOfC qual scope L a ccd)) (exec st (envOfC qual scope L a ccd))
      (StPost h₀ L (Post_if1 L m c6 c5 c4 c3 c2 c1 tl) s Q) E s := by
  revert X; unfold prg; w_top off; k_fill; intro X
  refine' fn_st ho hst ?e ?hb ?_
  case e => k_is
  case hb => exact rfl
  clear ho hst
  rintro rfl rfl rfl
  have F1 : Fr h₀ L s.heap (kstB m [(Str.ofString "ways", .ref lw), (Str.ofString "every", .ref lv)]) := fr_knownL hm F
  dsimp only [kstB] at F1
  have eM : (fun z => if z = Str.ofString "ways" then some (Value.ref lw) else if z = Str.ofString "every" then some (Value.ref lv) else m z) = m := known_eq hm
  clear F
  have l1 := hiw.length
  have l2 := hiv.length
  k_with_none
  k_with "ne" => (refine neN ?_; (try dsimp only); with_reducible first | assumption | exact Ne.symm (by assumption) | exact ne1 | exact ne1.symm | exact ne2 | exact ne2.symm | exact ne3 | exact ne3.symm | exact ne4 | exact ne4.symm | exact ne5 | exact ne5.symm | exact nl1 (by assumption) | exact nl2 (by assumption) | exact nl3 (by assumption) | exact (nl1 (by assumption)).symm | exact (nl2 (by assumption)).symm | exact (nl3 (by assumption)).symm | exact Nat.ne_of_lt (by assumption) | exact Nat.ne_of_gt (by assumption) | exact cj1 (by assumption) | exact Ne.symm (cj1 (by assumption)) | exact Nat.ne_of_lt (cj1 (by assumption)) | exact Nat.ne_of_gt (cj1 (by assumption)) | exact cj2 (by assumption) | exact Ne.symm (cj2 (by assumption)) | exact Nat.ne_of_lt (cj2 (by assumption)) | exact Nat.ne_of_gt (cj2 (by assumption)) | exact cj3 (by assumption) | exact Ne.symm (cj3 (by assumption)) | exact Nat.ne_of_lt (cj3 (by assumption)) | exact Nat.ne_of_gt (cj3 (by assumption)) | exact cj4 (by assumption) | exact Ne.symm (cj4 (by assumption)) | exact Nat.ne_of_lt (cj4 (by assumption)) | exact Nat.ne_of_gt (cj4 (by assumption)) | exact cj5 (by assumption) | exact Ne.symm (cj5 (by assumption)) | exact Nat.ne_of_lt (cj5 (by assumption)) | exact Nat.ne_of_gt (cj5 (by assumption)) | exact cj6 (by assumption) | exact Ne.symm (cj6 (by assumption)) | exact Nat.ne_of_lt (cj6 (by assumption)) | exact Nat.ne_of_gt (cj6 (by assumption)) | exact cj7 (by assumption) | exact Ne.symm (cj7 (by assumption)) | exact Nat.ne_of_lt (cj7 (by assumption)) | exact Nat.ne_of_gt (cj7 (by assumption)) | exact cj8 (by assumption) | exact Ne.symm (cj8 (by assumption)) | exact Nat.ne_of_lt (cj8 (by assumption)) | exact Nat.ne_of_gt (cj8 (by assumption)) | exact cj9 (by assumption) | exact Ne.symm (cj9 (by assumption)) | exact Nat.ne_of_lt (cj9 (by assumption)) | exact Nat.ne_of_gt (cj9 (by assumption)) | exact ej5 (by assumption) | exact Ne.symm (ej5 (by assumption)) | exact Nat.ne_of_lt (ej5 (by assumption)) | exact Nat.ne_of_gt (ej5 (by assumption)) | exact ej6 (by assumption) | exact Ne.symm (ej6 (by assumption)) | exact Nat.ne_of_lt (ej6 (by assumption)) | exact Nat.ne_of_gt (ej6 (by assumption)) | exact ej7 (by assumption) | exact Ne.symm (ej7 (by assumption)) | exact Nat.ne_of_lt (ej7 (by assumption)) | exact Nat.ne_of_gt (ej7 (by assumption)) | exact ej8 (by assumption) | exact Ne.symm (ej8 (by assumption)) | exact Nat.ne_of_lt (ej8 (by assumption)) | exact Nat.ne_of_gt (ej8 (by assumption)) | exact ej9 (by assumption) | exact Ne.symm (ej9 (by assumption)) | exact Nat.ne_of_lt (ej9 (by assumption)) | exact Nat.ne_of_gt (ej9 (by assumption)))
  k_with "binaryOp RShift int int" => (k_here; (with_reducible refine shr1 ?_))
  k_with "binaryOp Mod int int" => (k_here; (with_reducible refine mod_pos ?k1 ?_); (case k1 => decide))
  k_with "binaryOp FloorDiv int int" => (k_here; (with_reducible refine fdiv_pos ?k1 ?k2 ?_); (case k1 => decide); (case k2 => decide +kernel))
  k_with "execs cons" => (k_here; first | (k_made; walk_at "execs cons") | k_gentoks | ((with_reducible refine wpAny_execs_cons ?_); (try dsimp only); (try k_fold)))
  k_with "idx" => (first | with_reducible assumption | (first | lia | omega))
  k_with "upd" => (first | (refine' Pick.head ?a; (case a => k_all)) | (refine' Pick.tail ?a ?b; (case a => k_ne); (case b => k_upd)))
  k_with "call ref" => refine held ?_
  k_with "call builtin:sorted" => refine held ?_
  k_with "compareOp NotEq ref ref" => refine held ?_
  k_steps
  refine Held.out ?_
  unfold Held
  refine kso_sorted (by k_asm) (by k_asm) (kso_isList (by k_asm) (led6_in hlw) (by simp)) hiw (by (first | lia | omega)) ?_
  intro D1 v1 n1 k1 h1 F2 N2 b1 hI1 hyl1 hp1 ho1 hq1
  have e1 : ws = n1 := sorted_unique hp1.symm hso ho1
  k_steps
  refine Held.out ?_
  unfold Held
  refine ne_intsK (kso_isList (by k_asm) (.tail _ (led6_in hlw)) (by simp)) hiw (kso_isList (by k_asm) (.head _) (by simp)) hI1 (by (first | exact unL2 (by assumption) rfl | exact unL1 (by assumption) rfl | exact unL0 (by assumption) | ktr_units)) ?_
  rw [decide_eq_true e1]
  k_steps
  refine Held.out ?_
  unfold Held
  refine kso_sorted (by k_asm) (by k_asm) (kso_isList (by k_asm) (.tail _ (led6_in hlv)) (by simp)) hiv (by (first | lia | omega)) ?_
  intro D2 v2 n2 k2 h2 F3 N3 b2 hI2 hyl2 hp2 ho2 hq2
  k_steps
  refine Held.out ?_
  unfold Held
  k_dflt (refine' choices_tells ?B ?F ?X ?N ?T ?hk ?hm ?hi ?h4 ?hdp ?hun ?_; (case B => k_asm); (case F => k_asm); (case X => k_asm); (case N => k_asm); (case T => k_asm); (case hk => exact rfl); (case hm => exact mem2 (led6_in hlp)); (case hi => exact hip); (case h4 => (first | lia | omega)); (case hdp => (first | exact unL2 (by assumption) rfl | exact unL1 (by assumption) rfl | exact unL0 (by assumption) | ktr_room)); (case hun => (first | exact unL2 (by assumption) rfl | exact unL1 (by assumption) rfl | exact unL0 (by assumption) | ktr_units)))
  intro h4 tk4 D3 v3 k3 n3 F4 N4 b3 hI3 hp3 ho3
  have e2 : n2 = n3 := sorted_unique (hp2.trans (hpe.trans hp3.symm)) ho2 ho3
  k_steps
  refine Held.out ?_
  unfold Held
  refine ne_intsK (kso_isList (by k_asm) (.tail _ (.head _)) (by simp)) hI2 (kso_isList (by k_asm) (.head _) (by simp)) hI3 (by (first | exact unL2 (by assumption) rfl | exact unL1 (by assumption) rfl | exact unL0 (by assumption) | ktr_units)) ?_
  rw [decide_eq_true e2]
  k_steps
  dsimp only
  exact WEnd.intro F4 N4 (fun p hp => mem3 hp) ⟨eM, rfl⟩
end

end
section
noncomputable abbrev Post_ring (L : Addr) (m : Str → Option Value) (c6 : Obj) (c5 : Obj) (c4 : Obj) (c3 : Obj) (c2 : Obj) (c1 : Obj) (tl : List (Addr × Obj)) (g : Int) (m' : Str → Option Value) (nx : List (Addr × Obj)) : Prop := m' = m ∧ ∃ c5 t, nx = led6 L c6 c5 c4 c3 c2 c1 tl ∧ c5.data = .cell (some (.str (ringS g) t))
section
variable {w : World} {mean : ExcName → Option Value} {mg mb : Str → Option Value} {a : Addr} {ccd : Value} {h₀ : Heap} {L : Addr} {m : Str → Option Value} {s : Shared} {Q : Flow → Shared → Prop} {E : Value → Shared → Prop}
  {oc : Value} {od : Option Addr} {name qual : Str} {params : Arguments} {body : List Stmt} {scope : Scope} {dV kV doc pm cdv ct : Value} {an : Option Addr} {osl : Array (Option Value)} {st : Stmt}

set_option maxHeartbeats 8000000 in
theorem st_ring {c6 c5 c4 c3 c2 c1 : Obj} {tl : List (Addr × Obj)} {v5 : Option Value} {g : Int} {tg : Tok}
    (ho : (hd.heap_39 w.params).lookup 145 = some ⟨oc, od, .func (fnOf name qual params body scope dV kV doc pm an cdv ct), osl⟩) (hst : body[12]? = some st)
    (B : Below callerA h₀ [] h₀) (X : (hd.heap_39 w.params).In h₀) (T : Top hd.view_39 lz mean mg mb h₀) (F : Fr h₀ L s.heap m)
    (N : News h₀ L s.heap (led6 L c6 c5 c4 c3 c2 c1 tl)) (hab : Above L tl) (d2 : c2.data = .cell (some (.int g tg))) (d5 : c5.data = .cell v5) :
    wpAny (model prg w) (callerA.deeper (envOfC qual scope L a ccd)) (exec st (envOfC qual scope L a ccd))
      (StPost h₀ L (Post_ring L m c6 c5 c4 c3 c2 c1 tl g) s Q) E s := by
  revert X; unfold prg; w_top off; k_fill; intro X
  refine' fn_st ho hst ?e ?hb ?_
  case e => k_is
  case hb => exact rfl
  clear ho hst
  rintro rfl rfl rfl
  have a5 := hab.ne5
  k_with_none
  k_with "ne" => (refine neN ?_; (try dsimp only); with_reducible first | assumption | exact Ne.symm (by assumption) | exact ne1 | exact ne1.symm | exact ne2 | exact ne2.symm | exact ne3 | exact ne3.symm | exact ne4 | exact ne4.symm | exact ne5 | exact ne5.symm | exact nl1 (by assumption) | exact nl2 (by assumption) | exact nl3 (by assumption) | exact (nl1 (by assumption)).symm | exact (nl2 (by assumption)).symm | exact (nl3 (by assumption)).symm | exact Nat.ne_of_lt (by assumption) | exact Nat.ne_of_gt (by assumption) | exact cj1 (by assumption) | exact Ne.symm (cj1 (by assumption)) | exact Nat.ne_of_lt (cj1 (by assumption)) | exact Nat.ne_of_gt (cj1 (by assumption)) | exact cj2 (by assumption) | exact Ne.symm (cj2 (by assumption)) | exact Nat.ne_of_lt (cj2 (by assumption)) | exact Nat.ne_of_gt (cj2 (by assumption)) | exact cj3 (by assumption) | exact Ne.symm (cj3 (by assumption)) | exact Nat.ne_of_lt (cj3 (by assumption)) | exact Nat.ne_of_gt (cj3 (by assumption)) | exact cj4 (by assumption) | exact Ne.symm (cj4 (by assumption)) | exact Nat.ne_of_lt (cj4 (by assumption)) | exact Nat.ne_of_gt (cj4 (by assumption)) | exact cj5 (by assumption) | exact Ne.symm (cj5 (by assumption)) | exact Nat.ne_of_lt (cj5 (by assumption)) | exact Nat.ne_of_gt (cj5 (by assumption)) | exact cj6 (by assumption) | exact Ne.symm (cj6 (by assumption)) | exact Nat.ne_of_lt (cj6 (by assumption)) | exact Nat.ne_of_gt (cj6 (by assumption)) | exact cj7 (by assumption) | exact Ne.symm (cj7 (by assumption)) | exact Nat.ne_of_lt (cj7 (by assumption)) | exact Nat.ne_of_gt (cj7 (by assumption)) | exact cj8 (by assumption) | exact Ne.symm (cj8 (by assumption)) | exact Nat.ne_of_lt (cj8 (by assumption)) | exact Nat.ne_of_gt (cj8 (by assumption)) | exact cj9 (by assumption) | exact Ne.symm (cj9 (by assumption)) | exact Nat.ne_of_lt (cj9 (by assumption)) | exact Nat.ne_of_gt (cj9 (by assumption)) | exact ej5 (by assumption) | exact Ne.symm (ej5 (by assumption)) | exact Nat.ne_of_lt (ej5 (by assumption)) | exact Nat.ne_of_gt (ej5 (by assumption)) | exact ej6 (by assumption) | exact Ne.symm (ej6 (by assumption)) | exact Nat.ne_of_lt (ej6 (by assumption)) | exact Nat.ne_of_gt (ej6 (by assumption)) | exact ej7 (by assumption) | exact Ne.symm (ej7 (by assumption)) | exact Nat.ne_of_lt (ej7 (by assumption)) | exact Nat.ne_of_gt (ej7 (by assumption)) | exact ej8 (by assumption) | exact Ne.symm (ej8 (by assumption)) | exact Nat.ne_of_lt (ej8 (by assumption)) | exact Nat.ne_of_gt (ej8 (by assumption)) | exact ej9 (by assumption) | exact Ne.symm (ej9 (by assumption)) | exact Nat.ne_of_lt (ej9 (by assumption)) | exact Nat.ne_of_gt (ej9 (by assumption)))
  k_with "binaryOp RShift int int" => (k_here; (with_reducible refine shr1 ?_))
  k_with "binaryOp Mod int int" => (k_here; (with_reducible refine mod_pos ?k1 ?_); (case k1 => decide))
  k_with "binaryOp FloorDiv int int" => (k_here; (with_reducible refine fdiv_pos ?k1 ?k2 ?_); (case k1 => decide); (case k2 => decide +kernel))
  k_with "call ref" => (k_here; refine wpAny_call ?_; k_dflt (refine' code_def ?k1 ?k2 ?k3 ?k4 ?k5 ?kA ?kF ?kK ?k6 ?k7 ?k8 ?k9 ?kB ?_ ?c2 ?c3 ?c4 ?c5; (case kA => exact rfl); (case kF => exact rfl); (case kK => first | exact rfl | assumption); (case k1 => k_asm); (case k2 => k_asm); (case k3 => k_asm); (case k4 => k_asm); (case k5 => k_asm); (case k6 => k_is); (case k7 => k_is); (case k8 => (first | exact unL2 (by assumption) rfl | exact unL1 (by assumption) rfl | exact unL0 (by assumption) | ktr_room)); (case k9 => exact BindsTo.of_eq rfl); (case c5 => decide); (case kB => exact locs rfl); (case c2 => exact rfl); (case c3 => exact rfl); (case c4 => exact rfl); k_whole; intro g' L' h' FG' F' N' B' X' T'; (try dsimp only); (try k_lift B'); (try k_fold)))
  k_with "execs cons" => (k_here; first | (k_made; walk_at "execs cons") | k_gentoks | ((with_reducible refine wpAny_execs_cons ?_); (try dsimp only); (try k_fold)))
  k_with "idx" => (first | with_reducible assumption | (first | lia | omega))
  k_with "upd" => (first | (refine' Pick.head ?a; (case a => k_all)) | (refine' Pick.tail ?a ?b; (case a => k_ne); (case b => k_upd)))
  k_steps
  · dsimp only
    rename g = 2 => hg
    exact WEnd.intro (by k_asm) (by k_asm) (fun p hp => hp) ⟨rfl, _, _, rfl, by rw [ringS, if_pos hg]; assumption⟩
  · dsimp only
    rename g ≠ 2 => hg
    exact WEnd.intro (by k_asm) (by k_asm) (fun p hp => hp) ⟨rfl, _, _, rfl, by rw [ringS, if_neg hg]; assumption⟩
end

end
section
inductive Post_texts (L : Addr) (m : Str → Option Value) (c6 : Obj) (c5 : Obj) (c4 : Obj) (c3 : Obj) (c2 : Obj) (c1 : Obj) (tl : List (Addr × Obj)) (md : List Int) (m' : Str → Option Value) (nx : List (Addr × Obj)) : Prop
  | mk (D vs n : _) (_ : m' = setM m (Str.ofString "texts") (.ref D)) (_ : nx = led6 L c6 c5 c4 c3 c2 c1 ((D, W.listOf vs.toArray n) :: tl)) (_ : Above L ((D, W.listOf vs.toArray n) :: tl)) (_ : StrsAre vs (md.map fmStr))
section
variable {w : World} {mean : ExcName → Option Value} {mg mb : Str → Option Value} {a : Addr} {ccd : Value} {h₀ : Heap} {L : Addr} {m : Str → Option Value} {s : Shared} {Q : Flow → Shared → Prop} {E : Value → Shared → Prop}
  {oc : Value} {od : Option Addr} {name qual : Str} {params : Arguments} {body : List Stmt} {scope : Scope} {dV kV doc pm cdv ct : Value} {an : Option Addr} {osl : Array (Option Value)} {st : Stmt}
set_option maxHeartbeats 8000000 in
theorem st_texts {c6 c5 c4 c3 c2 c1 : Obj} {tl : List (Addr × Obj)} {lm : Addr} {vm : List Value} {nm : Nat} {md : List Int}
    (ho : (hd.heap_39 w.params).lookup 145 = some ⟨oc, od, .func (fnOf name qual params body scope dV kV doc pm an cdv ct), osl⟩) (hst : body[13]? = some st)
    (B : Below callerA h₀ [] h₀) (X : (hd.heap_39 w.params).In h₀) (T : Top hd.view_39 lz mean mg mb h₀) (F : Fr h₀ L s.heap m)
    (N : News h₀ L s.heap (led6 L c6 c5 c4 c3 c2 c1 tl)) (hab : Above L tl) (d1 : c1.data = .cell (some (.ref lm))) (h5 : md.length ≤ 5) (hlm : (lm, W.listOf vm.toArray nm) ∈ tl) (him : IntsAre vm md) :
    wpAny (model prg w) (callerA.deeper (envOfC qual scope L a ccd)) (exec st (envOfC qual scope L a ccd))
      (StPost h₀ L (Post_texts L m c6 c5 c4 c3 c2 c1 tl md) s Q) E s := by
  revert X; unfold prg; w_top off; k_fill; intro X
  refine' fn_st ho hst ?e ?hb ?_
  case e => k_is
  case hb => exact rfl
  clear ho hst
  rintro rfl rfl rfl
  have hml := him.length
  k_with_none
  k_with "ne" => (refine neN ?_; (try dsimp only); with_reducible first | assumption | exact Ne.symm (by assumption) | exact ne1 | exact ne1.symm | exact ne2 | exact ne2.symm | exact ne3 | exact ne3.symm | exact ne4 | exact ne4.symm | exact ne5 | exact ne5.symm | exact nl1 (by assumption) | exact nl2 (by assumption) | exact nl3 (by assumption) | exact (nl1 (by assumption)).symm | exact (nl2 (by assumption)).symm | exact (nl3 (by assumption)).symm | exact Nat.ne_of_lt (by assumption) | exact Nat.ne_of_gt (by assumption) | exact cj1 (by assumption) | exact Ne.symm (cj1 (by assumption)) | exact Nat.ne_of_lt (cj1 (by assumption)) | exact Nat.ne_of_gt (cj1 (by assumption)) | exact cj2 (by assumption) | exact Ne.symm (cj2 (by assumption)) | exact Nat.ne_of_lt (cj2 (by assumption)) | exact Nat.ne_of_gt (cj2 (by assumption)) | exact cj3 (by assumption) | exact Ne.symm (cj3 (by assumption)) | exact Nat.ne_of_lt (cj3 (by assumption)) | exact Nat.ne_of_gt (cj3 (by assumption)) | exact cj4 (by assumption) | exact Ne.symm (cj4 (by assumption)) | exact Nat.ne_of_lt (cj4 (by assumption)) | exact Nat.ne_of_gt (cj4 (by assumption)) | exact cj5 (by assumption) | exact Ne.symm (cj5 (by assumption)) | exact Nat.ne_of_lt (cj5 (by assumption)) | exact Nat.ne_of_gt (cj5 (by assumption)) | exact cj6 (by assumption) | exact Ne.symm (cj6 (by assumption)) | exact Nat.ne_of_lt (cj6 (by assumption)) | exact Nat.ne_of_gt (cj6 (by assumption)) | exact cj7 (by assumption) | exact Ne.symm (cj7 (by assumption)) | exact Nat.ne_of_lt (cj7 (by assumption)) | exact Nat.ne_of_gt (cj7 (by assumption)) | exact cj8 (by assumption) | exact Ne.symm (cj8 (by assumption)) | exact Nat.ne_of_lt (cj8 (by assumption)) | exact Nat.ne_of_gt (cj8 (by assumption)) | exact cj9 (by assumption) | exact Ne.symm (cj9 (by assumption)) | exact Nat.ne_of_lt (cj9 (by assumption)) | exact Nat.ne_of_gt (cj9 (by assumption)) | exact ej5 (by assumption) | exact Ne.symm (ej5 (by assumption)) | exact Nat.ne_of_lt (ej5 (by assumption)) | exact Nat.ne_of_gt (ej5 (by assumption)) | exact ej6 (by assumption) | exact Ne.symm (ej6 (by assumption)) | exact Nat.ne_of_lt (ej6 (by assumption)) | exact Nat.ne_of_gt (ej6 (by assumption)) | exact ej7 (by assumption) | exact Ne.symm (ej7 (by assumption)) | exact Nat.ne_of_lt (ej7 (by assumption)) | exact Nat.ne_of_gt (ej7 (by assumption)) | exact ej8 (by assumption) | exact Ne.symm (ej8 (by assumption)) | exact Nat.ne_of_lt (ej8 (by assumption)) | exact Nat.ne_of_gt (ej8 (by assumption)) | exact ej9 (by assumption) | exact Ne.symm (ej9 (by assumption)) | exact Nat.ne_of_lt (ej9 (by assumption)) | exact Nat.ne_of_gt (ej9 (by assumption)))
  k_with "binaryOp RShift int int" => (k_here; (with_reducible refine shr1 ?_))
  k_with "binaryOp Mod int int" => (k_here; (with_reducible refine mod_pos ?k1 ?_); (case k1 => decide))
  k_with "binaryOp FloorDiv int int" => (k_here; (with_reducible refine fdiv_pos ?k1 ?k2 ?_); (case k1 => decide); (case k2 => decide +kernel))
  k_with "execs cons" => (k_here; first | (k_made; walk_at "execs cons") | k_gentoks | ((with_reducible refine wpAny_execs_cons ?_); (try dsimp only); (try k_fold)))
  k_with "idx" => (first | with_reducible assumption | (first | lia | omega))
  k_with "upd" => (first | (refine' Pick.head ?a; (case a => k_all)) | (refine' Pick.tail ?a ?b; (case a => k_ne); (case b => k_upd)))
  k_with "eval ListComp" => (k_here; (with_reducible show wpAny _ _ (eval (PySem.Expr.ListComp _ [⟨PySem.Expr.Name _ _, _, [], 0⟩] _ _) _) _ _ _); k_dflt (refine LCg.ListComp_U (F₀ := by k_asm) (by with_unfolding_all rfl) (by decide) (by rfl) (by decide) (by rfl) ?_))
  k_with "exec Assign cons ListComp" => (k_here; k_dflt (refine LCg.Assign_ListComp_U (F₀ := by k_asm) (by rfl) (by with_unfolding_all rfl) (by with_unfolding_all rfl) (by decide) (by rfl) (by decide) (by rfl) (by rfl) (by rfl) ?_))
  k_with "CompSrc" => refine held ?_
  k_steps
  refine Held.out ?_
  unfold Held
  refine LCg.CompSrc.ledger rfl F N (led6_in hlm) (by rw [List.size_toArray, hml, sizeLine_eq]; (first | lia | omega)) ?_
  intro g2
  have hsz : vm.toArray.size = md.length := by simp [hml]
  refine rest_U (fun i ys nx => nx = led6 L c6 c5 c4 c3 c2 c1 tl ∧ StrsAre ys ((md.take i).map fmStr)) ?turn ?done ⟨rfl, .nil⟩
  case turn =>
    intro i v ys nx I oI C oC D m₂ h tk E' hi hP hJ hC hx F2 N2 off ne
    refine' hid fun kG_ => ?_
    obtain ⟨rfl, hys⟩ := hJ
    refine' kG_ ?_
    clear kG_
    rw [hsz] at hi
    have hPv : vm[i]? = some v := by simpa using hP
    refine' hid fun kG_ => ?_
    obtain ⟨k, t, rfl, hki⟩ := IntsAre.at him i v hPv
    refine' kG_ ?_
    clear kG_
    clear F N
    k_with_none
    k_with "ne" => (refine neN ?_; (try dsimp only); with_reducible first | assumption | exact Ne.symm (by assumption) | exact ne1 | exact ne1.symm | exact ne2 | exact ne2.symm | exact ne3 | exact ne3.symm | exact ne4 | exact ne4.symm | exact ne5 | exact ne5.symm | exact nl1 (by assumption) | exact nl2 (by assumption) | exact nl3 (by assumption) | exact (nl1 (by assumption)).symm | exact (nl2 (by assumption)).symm | exact (nl3 (by assumption)).symm | exact Nat.ne_of_lt (by assumption) | exact Nat.ne_of_gt (by assumption) | exact cj1 (by assumption) | exact Ne.symm (cj1 (by assumption)) | exact Nat.ne_of_lt (cj1 (by assumption)) | exact Nat.ne_of_gt (cj1 (by assumption)) | exact cj2 (by assumption) | exact Ne.symm (cj2 (by assumption)) | exact Nat.ne_of_lt (cj2 (by assumption)) | exact Nat.ne_of_gt (cj2 (by assumption)) | exact cj3 (by assumption) | exact Ne.symm (cj3 (by assumption)) | exact Nat.ne_of_lt (cj3 (by assumption)) | exact Nat.ne_of_gt (cj3 (by assumption)) | exact cj4 (by assumption) | exact Ne.symm (cj4 (by assumption)) | exact Nat.ne_of_lt (cj4 (by assumption)) | exact Nat.ne_of_gt (cj4 (by assumption)) | exact cj5 (by assumption) | exact Ne.symm (cj5 (by assumption)) | exact Nat.ne_of_lt (cj5 (by assumption)) | exact Nat.ne_of_gt (cj5 (by assumption)) | exact cj6 (by assumption) | exact Ne.symm (cj6 (by assumption)) | exact Nat.ne_of_lt (cj6 (by assumption)) | exact Nat.ne_of_gt (cj6 (by assumption)) | exact cj7 (by assumption) | exact Ne.symm (cj7 (by assumption)) | exact Nat.ne_of_lt (cj7 (by assumption)) | exact Nat.ne_of_gt (cj7 (by assumption)) | exact cj8 (by assumption) | exact Ne.symm (cj8 (by assumption)) | exact Nat.ne_of_lt (cj8 (by assumption)) | exact Nat.ne_of_gt (cj8 (by assumption)) | exact cj9 (by assumption) | exact Ne.symm (cj9 (by assumption)) | exact Nat.ne_of_lt (cj9 (by assumption)) | exact Nat.ne_of_gt (cj9 (by assumption)) | exact ej5 (by assumption) | exact Ne.symm (ej5 (by assumption)) | exact Nat.ne_of_lt (ej5 (by assumption)) | exact Nat.ne_of_gt (ej5 (by assumption)) | exact ej6 (by assumption) | exact Ne.symm (ej6 (by assumption)) | exact Nat.ne_of_lt (ej6 (by assumption)) | exact Nat.ne_of_gt (ej6 (by assumption)) | exact ej7 (by assumption) | exact Ne.symm (ej7 (by assumption)) | exact Nat.ne_of_lt (ej7 (by assumption)) | exact Nat.ne_of_gt (ej7 (by assumption)) | exact ej8 (by assumption) | exact Ne.symm (ej8 (by assumption)) | exact Nat.ne_of_lt (ej8 (by assumption)) | exact Nat.ne_of_gt (ej8 (by assumption)) | exact ej9 (by assumption) | exact Ne.symm (ej9 (by assumption)) | exact Nat.ne_of_lt (ej9 (by assumption)) | exact Nat.ne_of_gt (ej9 (by assumption)))
    k_with "binaryOp RShift int int" => (k_here; (with_reducible refine shr1 ?_))
    k_with "binaryOp Mod int int" => (k_here; (with_reducible refine mod_pos ?k1 ?_); (case k1 => decide))
    k_with "binaryOp FloorDiv int int" => (k_here; (with_reducible refine fdiv_pos ?k1 ?k2 ?_); (case k1 => decide); (case k2 => decide +kernel))
    k_with "execs cons" => (k_here; first | (k_made; walk_at "execs cons") | k_gentoks | ((with_reducible refine wpAny_execs_cons ?_); (try dsimp only); (try k_fold)))
    k_with "idx" => (first | with_reducible assumption | (first | lia | omega))
    k_with "upd" => (first | (refine' Pick.head ?a; (case a => k_all)) | (refine' Pick.tail ?a ?b; (case a => k_ne); (case b => k_upd)))
    k_with "eval ListComp" => (k_here; (with_reducible show wpAny _ _ (eval (PySem.Expr.ListComp _ [⟨PySem.Expr.Name _ _, _, [], 0⟩] _ _) _) _ _ _); k_dflt (refine LCg.ListComp_U (F₀ := by k_asm) (by with_unfolding_all rfl) (by decide) (by rfl) (by decide) (by rfl) ?_))
    k_with "exec Assign cons ListComp" => (k_here; k_dflt (refine LCg.Assign_ListComp_U (F₀ := by k_asm) (by rfl) (by with_unfolding_all rfl) (by with_unfolding_all rfl) (by decide) (by rfl) (by decide) (by rfl) (by rfl) (by rfl) ?_))
    k_with "call ref" => refine held ?_
    k_steps
    refine Held.out ?_
    unfold Held
    k_dflt (refine' filemode_tells ?B ?F ?X ?N ?T ?hk ?hdp ?hun ?_; (case B => k_asm); (case F => k_asm); (case X => k_asm); (case N => k_asm); (case T => k_asm); (case hk => exact rfl); (case hdp => (first | exact unL2 (by assumption) rfl | exact unL1 (by assumption) rfl | exact unL0 (by assumption) | ktr_room)); (case hun => (first | exact unL2 (by assumption) rfl | exact unL1 (by assumption) rfl | exact unL0 (by assumption) | ktr_units)))
    intro h7 tk7 t7 x F7 N7 hx7 hxl
    subst hx7
    refine UEnd.intro F7 N7 _ (fun p hp => hp) off (Or.inr ⟨_, led6_in hlm, rfl, _, rfl⟩) ⟨rfl, ?_⟩
    rw [take_snoc _ hki]
    exact strs_snoc hys _ _
  case done =>
    intro ys nx hJ
    refine' hid fun kG_ => ?_
    obtain ⟨rfl, hys⟩ := hJ
    refine' kG_ ?_
    clear kG_
    rw [hsz, List.take_length] at hys
    intro D h tk F2 N2 off
    exact WEnd.intro F2 N2 led6_new ⟨D, ys, ys.length, rfl, rfl, Above.cons (abv_off off) hab, hys⟩
end

end
section
inductive Post_shown (L : Addr) (m : Str → Option Value) (c6 : Obj) (c5 : Obj) (c4 : Obj) (c3 : Obj) (c2 : Obj) (c1 : Obj) (tl : List (Addr × Obj)) (xs : List Str) (g : Int) (m' : Str → Option Value) (nx : List (Addr × Obj)) : Prop
  | mk (D vs n : _) (_ : m' = setM m (Str.ofString "shown") (.ref D)) (_ : nx = led6 L c6 c5 c4 c3 c2 c1 ((D, W.listOf vs.toArray n) :: tl)) (_ : Above L ((D, W.listOf vs.toArray n) :: tl)) (_ : StrsAre vs (xs.map fun x => Txt.slice x (some (1 + 3 * g)) (some (4 + 3 * g))))
section
variable {w : World} {mean : ExcName → Option Value} {mg mb : Str → Option Value} {a : Addr} {ccd : Value} {h₀ : Heap} {L : Addr} {m : Str → Option Value} {s : Shared} {Q : Flow → Shared → Prop} {E : Value → Shared → Prop}
  {oc : Value} {od : Option Addr} {name qual : Str} {params : Arguments} {body : List Stmt} {scope : Scope} {dV kV doc pm cdv ct : Value} {an : Option Addr} {osl : Array (Option Value)} {st : Stmt}
set_option maxHeartbeats 8000000 in
theorem st_shown {c6 c5 c4 c3 c2 c1 : Obj} {tl : List (Addr × Obj)} {lx : Addr} {vx : List Value} {nx₀ : Nat} {xs : List Str} {g : Int} {tg : Tok}
    (ho : (hd.heap_39 w.params).lookup 145 = some ⟨oc, od, .func (fnOf name qual params body scope dV kV doc pm an cdv ct), osl⟩) (hst : body[15]? = some st)
    (B : Below callerA h₀ [] h₀) (X : (hd.heap_39 w.params).In h₀) (T : Top hd.view_39 lz mean mg mb h₀) (F : Fr h₀ L s.heap m)
    (N : News h₀ L s.heap (led6 L c6 c5 c4 c3 c2 c1 tl)) (hab : Above L tl) (hm : KnownAll m [(Str.ofString "texts", .ref lx)]) (d2 : c2.data = .cell (some (.int g tg))) (hg0 : 0 ≤ g) (hg3 : g < 3) (h5 : xs.length ≤ 5) (hlx : (lx, W.listOf vx.toArray nx₀) ∈ tl) (hix : StrsAre vx xs) (h10 : ∀ x ∈ xs, x.length = 10) :
    wpAny (model prg w) (callerA.deeper (envOfC qual scope L a ccd)) (exec st (envOfC qual scope L a ccd))
      (StPost h₀ L (Post_shown L m c6 c5 c4 c3 c2 c1 tl xs g) s Q) E s := by
  revert X; unfold prg; w_top off; k_fill; intro X
  refine' fn_st ho hst ?e ?hb ?_
  case e => k_is
  case hb => exact rfl
  clear ho hst
  rintro rfl rfl rfl
  have F1 : Fr h₀ L s.heap (kstB m [(Str.ofString "texts", .ref lx)]) := fr_knownL hm F
  dsimp only [kstB] at F1
  have eM : (fun z => if z = Str.ofString "texts" then some (Value.ref lx) else m z) = m := known_eq hm
  have hxl := hix.length
  k_with_none
  k_with "ne" => (refine neN ?_; (try dsimp only); with_reducible first | assumption | exact Ne.symm (by assumption) | exact ne1 | exact ne1.symm | exact ne2 | exact ne2.symm | exact ne3 | exact ne3.symm | exact ne4 | exact ne4.symm | exact ne5 | exact ne5.symm | exact nl1 (by assumption) | exact nl2 (by assumption) | exact nl3 (by assumption) | exact (nl1 (by assumption)).symm | exact (nl2 (by assumption)).symm | exact (nl3 (by assumption)).symm | exact Nat.ne_of_lt (by assumption) | exact Nat.ne_of_gt (by assumption) | exact cj1 (by assumption) | exact Ne.symm (cj1 (by assumption)) | exact Nat.ne_of_lt (cj1 (by assumption)) | exact Nat.ne_of_gt (cj1 (by assumption)) | exact cj2 (by assumption) | exact Ne.symm (cj2 (by assumption)) | exact Nat.ne_of_lt (cj2 (by assumption)) | exact Nat.ne_of_gt (cj2 (by assumption)) | exact cj3 (by assumption) | exact Ne.symm (cj3 (by assumption)) | exact Nat.ne_of_lt (cj3 (by assumption)) | exact Nat.ne_of_gt (cj3 (by assumption)) | exact cj4 (by assumption) | exact Ne.symm (cj4 (by assumption)) | exact Nat.ne_of_lt (cj4 (by assumption)) | exact Nat.ne_of_gt (cj4 (by assumption)) | exact cj5 (by assumption) | exact Ne.symm (cj5 (by assumption)) | exact Nat.ne_of_lt (cj5 (by assumption)) | exact Nat.ne_of_gt (cj5 (by assumption)) | exact cj6 (by assumption) | exact Ne.symm (cj6 (by assumption)) | exact Nat.ne_of_lt (cj6 (by assumption)) | exact Nat.ne_of_gt (cj6 (by assumption)) | exact cj7 (by assumption) | exact Ne.symm (cj7 (by assumption)) | exact Nat.ne_of_lt (cj7 (by assumption)) | exact Nat.ne_of_gt (cj7 (by assumption)) | exact cj8 (by assumption) | exact Ne.symm (cj8 (by assumption)) | exact Nat.ne_of_lt (cj8 (by assumption)) | exact Nat.ne_of_gt (cj8 (by assumption)) | exact cj9 (by assumption) | exact Ne.symm (cj9 (by assumption)) | exact Nat.ne_of_lt (cj9 (by assumption)) | exact Nat.ne_of_gt (cj9 (by assumption)) | exact ej5 (by assumption) | exact Ne.symm (ej5 (by assumption)) | exact Nat.ne_of_lt (ej5 (by assumption)) | exact Nat.ne_of_gt (ej5 (by assumption)) | exact ej6 (by assumption) | exact Ne.symm (ej6 (by assumption)) | exact Nat.ne_of_lt (ej6 (by assumption)) | exact Nat.ne_of_gt (ej6 (by assumption)) | exact ej7 (by assumption) | exact Ne.symm (ej7 (by assumption)) | exact Nat.ne_of_lt (ej7 (by assumption)) | exact Nat.ne_of_gt (ej7 (by assumption)) | exact ej8 (by assumption) | exact Ne.symm (ej8 (by assumption)) | exact Nat.ne_of_lt (ej8 (by assumption)) | exact Nat.ne_of_gt (ej8 (by assumption)) | exact ej9 (by assumption) | exact Ne.symm (ej9 (by assumption)) | exact Nat.ne_of_lt (ej9 (by assumption)) | exact Nat.ne_of_gt (ej9 (by assumption)))
  k_with "binaryOp RShift int int" => (k_here; (with_reducible refine shr1 ?_))
  k_with "binaryOp Mod int int" => (k_here; (with_reducible refine mod_pos ?k1 ?_); (case k1 => decide))
  k_with "binaryOp FloorDiv int int" => (k_here; (with_reducible refine fdiv_pos ?k1 ?k2 ?_); (case k1 => decide); (case k2 => decide +kernel))
  k_with "call ref" => (k_here; refine wpAny_call ?_; k_dflt (refine' code_def ?k1 ?k2 ?k3 ?k4 ?k5 ?kA ?kF ?kK ?k6 ?k7 ?k8 ?k9 ?kB ?_ ?c2 ?c3 ?c4 ?c5; (case kA => exact rfl); (case kF => exact rfl); (case kK => first | exact rfl | assumption); (case k1 => k_asm); (case k2 => k_asm); (case k3 => k_asm); (case k4 => k_asm); (case k5 => k_asm); (case k6 => k_is); (case k7 => k_is); (case k8 => (first | exact unL2 (by assumption) rfl | exact unL1 (by assumption) rfl | exact unL0 (by assumption) | ktr_room)); (case k9 => exact BindsTo.of_eq rfl); (case c5 => decide); (case kB => exact locs rfl); (case c2 => exact rfl); (case c3 => exact rfl); (case c4 => exact rfl); k_whole; intro g' L' h' FG' F' N' B' X' T'; (try dsimp only); (try k_lift B'); (try k_fold)))
  k_with "execs cons" => (k_here; first | (k_made; walk_at "execs cons") | k_gentoks | ((with_reducible refine wpAny_execs_cons ?_); (try dsimp only); (try k_fold)))
  k_with "idx" => (first | with_reducible assumption | (first | lia | omega))
  k_with "upd" => (first | (refine' Pick.head ?a; (case a => k_all)) | (refine' Pick.tail ?a ?b; (case a => k_ne); (case b => k_upd)))
  k_with "exec Assign cons ListComp" => (k_here; k_dflt (refine LCg.Assign_ListComp_U (F₀ := by k_asm) (by rfl) (by with_unfolding_all rfl) (by with_unfolding_all rfl) (by decide) (by rfl) (by decide) (by rfl) (by rfl) (by rfl) ?_))
  k_with "CompSrc" => refine held ?_
  k_steps
  refine Held.out ?_
  unfold Held
  rw [eM]
  clear F1
  refine LCg.CompSrc.ledger rfl F N (led6_in hlx) (by rw [List.size_toArray, hxl, sizeLine_eq]; (first | lia | omega)) ?_
  intro g2
  have hsz : vx.toArray.size = xs.length := by simp [hxl]
  refine rest_U (fun i ys nx => nx = led6 L c6 c5 c4 c3 c2 c1 tl ∧ StrsAre ys ((xs.take i).map fun x => Txt.slice x (some (1 + 3 * g)) (some (4 + 3 * g)))) ?turn ?done ⟨rfl, .nil⟩
  case turn =>
    intro i v ys nx I oI C oC D m₂ h tk E' hi hP hJ hC hx F2 N2 off ne
    refine' hid fun kG_ => ?_
    obtain ⟨rfl, hys⟩ := hJ
    refine' kG_ ?_
    clear kG_
    rw [hsz] at hi
    have hPv : vx[i]? = some v := by simpa using hP
    refine' hid fun kG_ => ?_
    obtain ⟨x, t, rfl, hki⟩ := strs_at hix i v hPv
    refine' kG_ ?_
    clear kG_
    have hx10 := h10 x (List.mem_of_getElem? hki)
    have q1 : 0 ≤ 1 + 3 * g := by (first | lia | omega)
    have q2 : 0 ≤ 4 + 3 * g := by (first | lia | omega)
    clear F N
    k_with_none
    k_with "ne" => (refine neN ?_; (try dsimp only); with_reducible first | assumption | exact Ne.symm (by assumption) | exact ne1 | exact ne1.symm | exact ne2 | exact ne2.symm | exact ne3 | exact ne3.symm | exact ne4 | exact ne4.symm | exact ne5 | exact ne5.symm | exact nl1 (by assumption) | exact nl2 (by assumption) | exact nl3 (by assumption) | exact (nl1 (by assumption)).symm | exact (nl2 (by assumption)).symm | exact (nl3 (by assumption)).symm | exact Nat.ne_of_lt (by assumption) | exact Nat.ne_of_gt (by assumption) | exact cj1 (by assumption) | exact Ne.symm (cj1 (by assumption)) | exact Nat.ne_of_lt (cj1 (by assumption)) | exact Nat.ne_of_gt (cj1 (by assumption)) | exact cj2 (by assumption) | exact Ne.symm (cj2 (by assumption)) | exact Nat.ne_of_lt (cj2 (by assumption)) | exact Nat.ne_of_gt (cj2 (by assumption)) | exact cj3 (by assumption) | exact Ne.symm (cj3 (by assumption)) | exact Nat.ne_of_lt (cj3 (by assumption)) | exact Nat.ne_of_gt (cj3 (by assumption)) | exact cj4 (by assumption) | exact Ne.symm (cj4 (by assumption)) | exact Nat.ne_of_lt (cj4 (by assumption)) | exact Nat.ne_of_gt (cj4 (by assumption)) | exact cj5 (by assumption) | exact Ne.symm (cj5 (by assumption)) | exact Nat.ne_of_lt (cj5 (by assumption)) | exact Nat.ne_of_gt (cj5 (by assumption)) | exact cj6 (by assumption) | exact Ne.symm (cj6 (by assumption)) | exact Nat.ne_of_lt (cj6 (by assumption)) | exact Nat.ne_of_gt (cj6 (by assumption)) | exact cj7 (by assumption) | exact Ne.symm (cj7 (by assumption)) | exact Nat.ne_of_lt (cj7 (by assumption)) | exact Nat.ne_of_gt (cj7 (by assumption)) | exact cj8 (by assumption) | exact Ne.symm (cj8 (by assumption)) | exact Nat.ne_of_lt (cj8 (by assumption)) | exact Nat.ne_of_gt (cj8 (by assumption)) | exact cj9 (by assumption) | exact Ne.symm (cj9 (by assumption)) | exact Nat.ne_of_lt (cj9 (by assumption)) | exact Nat.ne_of_gt (cj9 (by assumption)) | exact ej5 (by assumption) | exact Ne.symm (ej5 (by assumption)) | exact Nat.ne_of_lt (ej5 (by assumption)) | exact Nat.ne_of_gt (ej5 (by assumption)) | exact ej6 (by assumption) | exact Ne.symm (ej6 (by assumption)) | exact Nat.ne_of_lt (ej6 (by assumption)) | exact Nat.ne_of_gt (ej6 (by assumption)) | exact ej7 (by assumption) | exact Ne.symm (ej7 (by assumption)) | exact Nat.ne_of_lt (ej7 (by assumption)) | exact Nat.ne_of_gt (ej7 (by assumption)) | exact ej8 (by assumption) | exact Ne.symm (ej8 (by assumption)) | exact Nat.ne_of_lt (ej8 (by assumption)) | exact Nat.ne_of_gt (ej8 (by assumption)) | exact ej9 (by assumption) | exact Ne.symm (ej9 (by assumption)) | exact Nat.ne_of_lt (ej9 (by assumption)) | exact Nat.ne_of_gt (ej9 (by assumption)))
    k_with "binaryOp RShift int int" => (k_here; (with_reducible refine shr1 ?_))
    k_with "binaryOp Mod int int" => (k_here; (with_reducible refine mod_pos ?k1 ?_); (case k1 => decide))
    k_with "binaryOp FloorDiv int int" => (k_here; (with_reducible refine fdiv_pos ?k1 ?k2 ?_); (case k1 => decide); (case k2 => decide +kernel))
    k_with "call ref" => (k_here; refine wpAny_call ?_; k_dflt (refine' code_def ?k1 ?k2 ?k3 ?k4 ?k5 ?kA ?kF ?kK ?k6 ?k7 ?k8 ?k9 ?kB ?_ ?c2 ?c3 ?c4 ?c5; (case kA => exact rfl); (case kF => exact rfl); (case kK => first | exact rfl | assumption); (case k1 => k_asm); (case k2 => k_asm); (case k3 => k_asm); (case k4 => k_asm); (case k5 => k_asm); (case k6 => k_is); (case k7 => k_is); (case k8 => (first | exact unL2 (by assumption) rfl | exact unL1 (by assumption) rfl | exact unL0 (by assumption) | ktr_room)); (case k9 => exact BindsTo.of_eq rfl); (case c5 => decide); (case kB => exact locs rfl); (case c2 => exact rfl); (case c3 => exact rfl); (case c4 => exact rfl); k_whole; intro g' L' h' FG' F' N' B' X' T'; (try dsimp only); (try k_lift B'); (try k_fold)))
    k_with "execs cons" => (k_here; first | (k_made; walk_at "execs cons") | k_gentoks | ((with_reducible refine wpAny_execs_cons ?_); (try dsimp only); (try k_fold)))
    k_with "idx" => (first | with_reducible assumption | (first | lia | omega))
    k_with "upd" => (first | (refine' Pick.head ?a; (case a => k_all)) | (refine' Pick.tail ?a ?b; (case a => k_ne); (case b => k_upd)))
    k_with "exec Assign cons ListComp" => (k_here; k_dflt (refine LCg.Assign_ListComp_U (F₀ := by k_asm) (by rfl) (by with_unfolding_all rfl) (by with_unfolding_all rfl) (by decide) (by rfl) (by decide) (by rfl) (by rfl) (by rfl) ?_))
    k_steps
    rename News _ _ _ _ => N9
    refine UEnd.intro (by k_asm) N9 _ (fun p hp => hp) off (Or.inr ⟨_, led6_in hlx, rfl, _, rfl⟩) ⟨rfl, ?_⟩
    rw [take_snoc _ hki]
    exact strs_snoc hys _ _
  case done =>
    intro ys nx hJ
    refine' hid fun kG_ => ?_
    obtain ⟨rfl, hys⟩ := hJ
    refine' kG_ ?_
    clear kG_
    rw [hsz, List.take_length] at hys
    intro D h tk F2 N2 off
    exact WEnd.intro F2 N2 led6_new ⟨D, ys, ys.length, rfl, rfl, Above.cons (abv_off off) hab, hys⟩
end

end
section
noncomputable abbrev Post_given (L : Addr) (m : Str → Option Value) (c6 : Obj) (c5 : Obj) (c4 : Obj) (c3 : Obj) (c2 : Obj) (c1 : Obj) (tl : List (Addr × Obj)) (x : Str) (m' : Str → Option Value) (nx : List (Addr × Obj)) : Prop := ∃ D, m' = setM m (Str.ofString "given") (.ref D) ∧ nx = led6 L c6 c5 c4 c3 c2 c1 ((D, W.listOf ((givF x).map Value.bool).toArray 0) :: tl) ∧ Above L ((D, W.listOf ((givF x).map Value.bool).toArray 0) :: tl)
section
variable {w : World} {mean : ExcName → Option Value} {mg mb : Str → Option Value} {a : Addr} {ccd : Value} {h₀ : Heap} {L : Addr} {m : Str → Option Value} {s : Shared} {Q : Flow → Shared → Prop} {E : Value → Shared → Prop}
  {oc : Value} {od : Option Addr} {name qual : Str} {params : Arguments} {body : List Stmt} {scope : Scope} {dV kV doc pm cdv ct : Value} {an : Option Addr} {osl : Array (Option Value)} {st : Stmt}
set_option maxHeartbeats 8000000 in
theorem st_given {c6 c5 c4 c3 c2 c1 : Obj} {tl : List (Addr × Obj)} {lx : Addr} {vx : List Value} {nx₀ : Nat} {x : Str} {tx : Tok}
    (ho : (hd.heap_39 w.params).lookup 145 = some ⟨oc, od, .func (fnOf name qual params body scope dV kV doc pm an cdv ct), osl⟩) (hst : body[16]? = some st)
    (B : Below callerA h₀ [] h₀) (X : (hd.heap_39 w.params).In h₀) (T : Top hd.view_39 lz mean mg mb h₀) (F : Fr h₀ L s.heap m)
    (N : News h₀ L s.heap (led6 L c6 c5 c4 c3 c2 c1 tl)) (hab : Above L tl) (hm : KnownAll m [(Str.ofString "shown", .ref lx)]) (hlx : (lx, W.listOf vx.toArray nx₀) ∈ tl) (hix : vx[0]? = some (.str x tx)) (h3 : x.length = 3) :
    wpAny (model prg w) (callerA.deeper (envOfC qual scope L a ccd)) (exec st (envOfC qual scope L a ccd))
      (StPost h₀ L (Post_given L m c6 c5 c4 c3 c2 c1 tl x) s Q) E s := by
  revert X; unfold prg; w_top off; k_fill; intro X
  refine' fn_st ho hst ?e ?hb ?_
  case e => k_is
  case hb => exact rfl
  clear ho hst
  rintro rfl rfl rfl
  have F1 : Fr h₀ L s.heap (kstB m [(Str.ofString "shown", .ref lx)]) := fr_knownL hm F
  dsimp only [kstB] at F1
  have eM : (fun z => if z = Str.ofString "shown" then some (Value.ref lx) else m z) = m := known_eq hm
  clear F
  k_with_none
  k_with "ne" => (refine neN ?_; (try dsimp only); with_reducible first | assumption | exact Ne.symm (by assumption) | exact ne1 | exact ne1.symm | exact ne2 | exact ne2.symm | exact ne3 | exact ne3.symm | exact ne4 | exact ne4.symm | exact ne5 | exact ne5.symm | exact nl1 (by assumption) | exact nl2 (by assumption) | exact nl3 (by assumption) | exact (nl1 (by assumption)).symm | exact (nl2 (by assumption)).symm | exact (nl3 (by assumption)).symm | exact Nat.ne_of_lt (by assumption) | exact Nat.ne_of_gt (by assumption) | exact cj1 (by assumption) | exact Ne.symm (cj1 (by assumption)) | exact Nat.ne_of_lt (cj1 (by assumption)) | exact Nat.ne_of_gt (cj1 (by assumption)) | exact cj2 (by assumption) | exact Ne.symm (cj2 (by assumption)) | exact Nat.ne_of_lt (cj2 (by assumption)) | exact Nat.ne_of_gt (cj2 (by assumption)) | exact cj3 (by assumption) | exact Ne.symm (cj3 (by assumption)) | exact Nat.ne_of_lt (cj3 (by assumption)) | exact Nat.ne_of_gt (cj3 (by assumption)) | exact cj4 (by assumption) | exact Ne.symm (cj4 (by assumption)) | exact Nat.ne_of_lt (cj4 (by assumption)) | exact Nat.ne_of_gt (cj4 (by assumption)) | exact cj5 (by assumption) | exact Ne.symm (cj5 (by assumption)) | exact Nat.ne_of_lt (cj5 (by assumption)) | exact Nat.ne_of_gt (cj5 (by assumption)) | exact cj6 (by assumption) | exact Ne.symm (cj6 (by assumption)) | exact Nat.ne_of_lt (cj6 (by assumption)) | exact Nat.ne_of_gt (cj6 (by assumption)) | exact cj7 (by assumption) | exact Ne.symm (cj7 (by assumption)) | exact Nat.ne_of_lt (cj7 (by assumption)) | exact Nat.ne_of_gt (cj7 (by assumption)) | exact cj8 (by assumption) | exact Ne.symm (cj8 (by assumption)) | exact Nat.ne_of_lt (cj8 (by assumption)) | exact Nat.ne_of_gt (cj8 (by assumption)) | exact cj9 (by assumption) | exact Ne.symm (cj9 (by assumption)) | exact Nat.ne_of_lt (cj9 (by assumption)) | exact Nat.ne_of_gt (cj9 (by assumption)) | exact ej5 (by assumption) | exact Ne.symm (ej5 (by assumption)) | exact Nat.ne_of_lt (ej5 (by assumption)) | exact Nat.ne_of_gt (ej5 (by assumption)) | exact ej6 (by assumption) | exact Ne.symm (ej6 (by assumption)) | exact Nat.ne_of_lt (ej6 (by assumption)) | exact Nat.ne_of_gt (ej6 (by assumption)) | exact ej7 (by assumption) | exact Ne.symm (ej7 (by assumption)) | exact Nat.ne_of_lt (ej7 (by assumption)) | exact Nat.ne_of_gt (ej7 (by assumption)) | exact ej8 (by assumption) | exact Ne.symm (ej8 (by assumption)) | exact Nat.ne_of_lt (ej8 (by assumption)) | exact Nat.ne_of_gt (ej8 (by assumption)) | exact ej9 (by assumption) | exact Ne.symm (ej9 (by assumption)) | exact Nat.ne_of_lt (ej9 (by assumption)) | exact Nat.ne_of_gt (ej9 (by assumption)))
  k_with "binaryOp RShift int int" => (k_here; (with_reducible refine shr1 ?_))
  k_with "binaryOp Mod int int" => (k_here; (with_reducible refine mod_pos ?k1 ?_); (case k1 => decide))
  k_with "binaryOp FloorDiv int int" => (k_here; (with_reducible refine fdiv_pos ?k1 ?k2 ?_); (case k1 => decide); (case k2 => decide +kernel))
  k_with "call ref" => (k_here; refine wpAny_call ?_; k_dflt (refine' code_def ?k1 ?k2 ?k3 ?k4 ?k5 ?kA ?kF ?kK ?k6 ?k7 ?k8 ?k9 ?kB ?_ ?c2 ?c3 ?c4 ?c5; (case kA => exact rfl); (case kF => exact rfl); (case kK => first | exact rfl | assumption); (case k1 => k_asm); (case k2 => k_asm); (case k3 => k_asm); (case k4 => k_asm); (case k5 => k_asm); (case k6 => k_is); (case k7 => k_is); (case k8 => (first | exact unL2 (by assumption) rfl | exact unL1 (by assumption) rfl | exact unL0 (by assumption) | ktr_room)); (case k9 => exact BindsTo.of_eq rfl); (case c5 => decide); (case kB => exact locs rfl); (case c2 => exact rfl); (case c3 => exact rfl); (case c4 => exact rfl); k_whole; intro g' L' h' FG' F' N' B' X' T'; (try dsimp only); (try k_lift B'); (try k_fold)))
  k_with "execs cons" => (k_here; first | (k_made; walk_at "execs cons") | k_gentoks | ((with_reducible refine wpAny_execs_cons ?_); (try dsimp only); (try k_fold)))
  k_with "idx" => (first | with_reducible assumption | (first | lia | omega))
  k_with "upd" => (first | (refine' Pick.head ?a; (case a => k_all)) | (refine' Pick.tail ?a ?b; (case a => k_ne); (case b => k_upd)))
  k_with "subscriptTail Subscript Constant str int" => (k_here; (refine item_str ?k1 ?k2 ?k3 ?_); (case k1 => decide); (case k2 => (first | lia | omega)); (case k3 => (first | lia | omega)); intro _)
  k_with "subscriptTail Name Constant ref int" => refine held ?_
  k_steps
  refine Held.out ?_
  unfold Held
  refine item_at (by k_asm) (led6_in hlx) (by decide) (by decide) hix ?_
  k_steps
  refine Held.out ?_
  unfold Held
  refine item_at (by k_asm) (led6_in hlx) (by decide) (by decide) hix ?_
  k_steps
  refine Held.out ?_
  unfold Held
  refine item_at (by k_asm) (led6_in hlx) (by decide) (by decide) hix ?_
  k_steps
  rename News _ _ _ _ => N9
  rename_i D _ l1 _ _
  dsimp only
  refine WEnd.intro (by k_asm) N9 led6_new ⟨D, ?e, rfl, Above.cons (abv_gt (by (first | lia | omega))) hab⟩
  exact congrArg (fun q => setM q (Str.ofString "given") (.ref D)) eM
end

end
section
noncomputable abbrev Post_if3 (L : Addr) (m : Str → Option Value) (c6 : Obj) (c5 : Obj) (c4 : Obj) (c3 : Obj) (c2 : Obj) (c1 : Obj) (tl : List (Addr × Obj)) (m' : Str → Option Value) (nx : List (Addr × Obj)) : Prop := m' = m ∧ nx = led6 L c6 c5 c4 c3 c2 c1 tl
section
variable {w : World} {mean : ExcName → Option Value} {mg mb : Str → Option Value} {a : Addr} {ccd : Value} {h₀ : Heap} {L : Addr} {m : Str → Option Value} {s : Shared} {Q : Flow → Shared → Prop} {E : Value → Shared → Prop}
  {oc : Value} {od : Option Addr} {name qual : Str} {params : Arguments} {body : List Stmt} {scope : Scope} {dV kV doc pm cdv ct : Value} {an : Option Addr} {osl : Array (Option Value)} {st : Stmt}
set_option maxHeartbeats 8000000 in
theorem st_if3 {c6 c5 c4 c3 c2 c1 : Obj} {tl : List (Addr × Obj)} {lg lc : Addr} {vc : List Value} {nc : Nat} {g : Int} {md : List Int} {bs : List Bool}
    (ho : (hd.heap_39 w.params).lookup 145 = some ⟨oc, od, .func (fnOf name qual params body scope dV kV doc pm an cdv ct), osl⟩) (hst : body[17]? = some st)
    (B : Below callerA h₀ [] h₀) (X : (hd.heap_39 w.params).In h₀) (T : Top hd.view_39 lz mean mg mb h₀) (F : Fr h₀ L s.heap m)
    (N : News h₀ L s.heap (led6 L c6 c5 c4 c3 c2 c1 tl)) (hab : Above L tl) (hm : KnownAll m [(Str.ofString "given", .ref lg)]) (d4 : c4.data = .cell (some (.ref lc))) (hlg : (lg, W.listOf (bs.map Value.bool).toArray 0) ∈ tl)
    (h2 : 2 ≤ md.length) (h5 : md.length ≤ 5) (hlc : (lc, W.listOf vc.toArray nc) ∈ tl) (hic : ColsP tl vc (colsF g md)) (hbs : bs = (List.range 3).map fun k => decide ((colF g md k).getD 0 0 = 1)) :
    wpAny (model prg w) (callerA.deeper (envOfC qual scope L a ccd)) (exec st (envOfC qual scope L a ccd))
      (StPost h₀ L (Post_if3 L m c6 c5 c4 c3 c2 c1 tl) s Q) E s := by
  revert X; unfold prg; w_top off; k_fill; intro X
  refine' fn_st ho hst ?e ?hb ?_
  case e => k_is
  case hb => exact rfl
  clear ho hst
  rintro rfl rfl rfl
  have F1 : Fr h₀ L s.heap (kstB m [(Str.ofString "given", .ref lg)]) := fr_knownL hm F
  dsimp only [kstB] at F1
  have eM : (fun z => if z = Str.ofString "given" then some (Value.ref lg) else m z) = m := known_eq hm
  clear F
  have hcl := hic.length
  k_with_none
  k_with "ne" => (refine neN ?_; (try dsimp only); with_reducible first | assumption | exact Ne.symm (by assumption) | exact ne1 | exact ne1.symm | exact ne2 | exact ne2.symm | exact ne3 | exact ne3.symm | exact ne4 | exact ne4.symm | exact ne5 | exact ne5.symm | exact nl1 (by assumption) | exact nl2 (by assumption) | exact nl3 (by assumption) | exact (nl1 (by assumption)).symm | exact (nl2 (by assumption)).symm | exact (nl3 (by assumption)).symm | exact Nat.ne_of_lt (by assumption) | exact Nat.ne_of_gt (by assumption) | exact cj1 (by assumption) | exact Ne.symm (cj1 (by assumption)) | exact Nat.ne_of_lt (cj1 (by assumption)) | exact Nat.ne_of_gt (cj1 (by assumption)) | exact cj2 (by assumption) | exact Ne.symm (cj2 (by assumption)) | exact Nat.ne_of_lt (cj2 (by assumption)) | exact Nat.ne_of_gt (cj2 (by assumption)) | exact cj3 (by assumption) | exact Ne.symm (cj3 (by assumption)) | exact Nat.ne_of_lt (cj3 (by assumption)) | exact Nat.ne_of_gt (cj3 (by assumption)) | exact cj4 (by assumption) | exact Ne.symm (cj4 (by assumption)) | exact Nat.ne_of_lt (cj4 (by assumption)) | exact Nat.ne_of_gt (cj4 (by assumption)) | exact cj5 (by assumption) | exact Ne.symm (cj5 (by assumption)) | exact Nat.ne_of_lt (cj5 (by assumption)) | exact Nat.ne_of_gt (cj5 (by assumption)) | exact cj6 (by assumption) | exact Ne.symm (cj6 (by assumption)) | exact Nat.ne_of_lt (cj6 (by assumption)) | exact Nat.ne_of_gt (cj6 (by assumption)) | exact cj7 (by assumption) | exact Ne.symm (cj7 (by assumption)) | exact Nat.ne_of_lt (cj7 (by assumption)) | exact Nat.ne_of_gt (cj7 (by assumption)) | exact cj8 (by assumption) | exact Ne.symm (cj8 (by assumption)) | exact Nat.ne_of_lt (cj8 (by assumption)) | exact Nat.ne_of_gt (cj8 (by assumption)) | exact cj9 (by assumption) | exact Ne.symm (cj9 (by assumption)) | exact Nat.ne_of_lt (cj9 (by assumption)) | exact Nat.ne_of_gt (cj9 (by assumption)) | exact ej5 (by assumption) | exact Ne.symm (ej5 (by assumption)) | exact Nat.ne_of_lt (ej5 (by assumption)) | exact Nat.ne_of_gt (ej5 (by assumption)) | exact ej6 (by assumption) | exact Ne.symm (ej6 (by assumption)) | exact Nat.ne_of_lt (ej6 (by assumption)) | exact Nat.ne_of_gt (ej6 (by assumption)) | exact ej7 (by assumption) | exact Ne.symm (ej7 (by assumption)) | exact Nat.ne_of_lt (ej7 (by assumption)) | exact Nat.ne_of_gt (ej7 (by assumption)) | exact ej8 (by assumption) | exact Ne.symm (ej8 (by assumption)) | exact Nat.ne_of_lt (ej8 (by assumption)) | exact Nat.ne_of_gt (ej8 (by assumption)) | exact ej9 (by assumption) | exact Ne.symm (ej9 (by assumption)) | exact Nat.ne_of_lt (ej9 (by assumption)) | exact Nat.ne_of_gt (ej9 (by assumption)))
  k_with "binaryOp RShift int int" => (k_here; (with_reducible refine shr1 ?_))
  k_with "binaryOp Mod int int" => (k_here; (with_reducible refine mod_pos ?k1 ?_); (case k1 => decide))
  k_with "binaryOp FloorDiv int int" => (k_here; (with_reducible refine fdiv_pos ?k1 ?k2 ?_); (case k1 => decide); (case k2 => decide +kernel))
  k_with "call ref" => (k_here; refine wpAny_call ?_; k_dflt (refine' code_def ?k1 ?k2 ?k3 ?k4 ?k5 ?kA ?kF ?kK ?k6 ?k7 ?k8 ?k9 ?kB ?_ ?c2 ?c3 ?c4 ?c5; (case kA => exact rfl); (case kF => exact rfl); (case kK => first | exact rfl | assumption); (case k1 => k_asm); (case k2 => k_asm); (case k3 => k_asm); (case k4 => k_asm); (case k5 => k_asm); (case k6 => k_is); (case k7 => k_is); (case k8 => (first | exact unL2 (by assumption) rfl | exact unL1 (by assumption) rfl | exact unL0 (by assumption) | ktr_room)); (case k9 => exact BindsTo.of_eq rfl); (case c5 => decide); (case kB => exact locs rfl); (case c2 => exact rfl); (case c3 => exact rfl); (case c4 => exact rfl); k_whole; intro g' L' h' FG' F' N' B' X' T'; (try dsimp only); (try k_lift B'); (try k_fold)))
  k_with "execs cons" => (k_here; first | (k_made; walk_at "execs cons") | k_gentoks | ((with_reducible refine wpAny_execs_cons ?_); (try dsimp only); (try k_fold)))
  k_with "idx" => (first | with_reducible assumption | (first | lia | omega))
  k_with "upd" => (first | (refine' Pick.head ?a; (case a => k_all)) | (refine' Pick.tail ?a ?b; (case a => k_ne); (case b => k_upd)))
  k_with "eval ListComp" => (k_here; (with_reducible show wpAny _ _ (eval (PySem.Expr.ListComp _ [⟨PySem.Expr.Name _ _, _, [], 0⟩] _ _) _) _ _ _); k_dflt (refine LCg.ListComp_U (F₀ := by k_asm) (by with_unfolding_all rfl) (by decide) (by rfl) (by decide) (by rfl) ?_))
  k_with "CompSrc" => refine held ?_
  k_with "subscriptTail Name Slice ref ref" => refine held ?_
  k_with "compareOp NotEq ref ref" => refine held ?_
  refine' hid fun kG_ => ?_
  obtain ⟨a0, u0, n0, q0, m0, i0⟩ := hic.at (col_at (g := g) (md := md) (k := 0) (by (first | lia | omega))).1
  obtain ⟨a1, u1, n1, q1, m1, i1⟩ := hic.at (col_at (g := g) (md := md) (k := 1) (by (first | lia | omega))).1
  obtain ⟨a2, u2, n2, q2, m2, i2⟩ := hic.at (col_at (g := g) (md := md) (k := 2) (by (first | lia | omega))).1
  obtain ⟨a3, u3, n3, q3, m3, i3⟩ := hic.at (col_at (g := g) (md := md) (k := 3) (by (first | lia | omega))).1
  refine' kG_ ?_
  clear kG_
  have hvc : vc = [.ref a0, .ref a1, .ref a2, .ref a3] := list4 (hcl.trans rfl) q0 q1 q2 q3
  subst hvc
  k_steps
  refine Held.out ?_
  unfold Held
  refine kmk_slice_lit (zs := [.ref a0, .ref a1, .ref a2]) F1 N ⟨_, (N _ (led6_in hlc)).1, rfl, nc, rfl⟩ .none (.int _ _) (by rfl) ?_ (by with_unfolding_all rfl) (by intro _; with_unfolding_all rfl) (by rw [sizeLine_eq]; show 4 ≤ _; (first | lia | omega))
  intro D1 h' F2 N2 lD1
  rw [eM] at F2 ⊢
  refine LCg.CompSrc.ledger rfl F2 N2 (.head _) (by rw [sizeLine_eq]; show 3 ≤ _; (first | lia | omega)) ?_
  intro g2
  refine rest_U (fun i ys nx => nx = (D1, W.listOf [Value.ref a0, .ref a1, .ref a2].toArray 0) :: led6 L c6 c5 c4 c3 c2 c1 tl ∧ ys = (List.range i).map fun k => Value.bool (decide ((colF g md k).getD 0 0 = 1))) ?turn ?done ⟨rfl, rfl⟩
  case turn =>
    intro i v ys nx I oI C oC D m₂ h tk E' hi hP hJ hC hx F3 N3 off ne
    refine' hid fun kG_ => ?_
    obtain ⟨rfl, hys⟩ := hJ
    refine' kG_ ?_
    clear kG_
    have hi3 : i < 3 := hi
    refine' hid fun kG_ => ?_
    obtain ⟨ak, us, nk, eki, hmk, hik⟩ := hic.at (col_at (g := g) (md := md) (k := i) (by (first | lia | omega))).1
    refine' kG_ ?_
    clear kG_
    have hv : v = .ref ak := list3_at hi3 hP eki
    subst hv
    have hlen := col_len (g := g) (md := md) (k := i) (by (first | lia | omega))
    have hul := hik.length
    clear F1 N F2 N2
    replace N3 := news_in N3 (mem4 (led6_in hmk))
    k_with_none
    k_with "ne" => (refine neN ?_; (try dsimp only); with_reducible first | assumption | exact Ne.symm (by assumption) | exact ne1 | exact ne1.symm | exact ne2 | exact ne2.symm | exact ne3 | exact ne3.symm | exact ne4 | exact ne4.symm | exact ne5 | exact ne5.symm | exact nl1 (by assumption) | exact nl2 (by assumption) | exact nl3 (by assumption) | exact (nl1 (by assumption)).symm | exact (nl2 (by assumption)).symm | exact (nl3 (by assumption)).symm | exact Nat.ne_of_lt (by assumption) | exact Nat.ne_of_gt (by assumption) | exact cj1 (by assumption) | exact Ne.symm (cj1 (by assumption)) | exact Nat.ne_of_lt (cj1 (by assumption)) | exact Nat.ne_of_gt (cj1 (by assumption)) | exact cj2 (by assumption) | exact Ne.symm (cj2 (by assumption)) | exact Nat.ne_of_lt (cj2 (by assumption)) | exact Nat.ne_of_gt (cj2 (by assumption)) | exact cj3 (by assumption) | exact Ne.symm (cj3 (by assumption)) | exact Nat.ne_of_lt (cj3 (by assumption)) | exact Nat.ne_of_gt (cj3 (by assumption)) | exact cj4 (by assumption) | exact Ne.symm (cj4 (by assumption)) | exact Nat.ne_of_lt (cj4 (by assumption)) | exact Nat.ne_of_gt (cj4 (by assumption)) | exact cj5 (by assumption) | exact Ne.symm (cj5 (by assumption)) | exact Nat.ne_of_lt (cj5 (by assumption)) | exact Nat.ne_of_gt (cj5 (by assumption)) | exact cj6 (by assumption) | exact Ne.symm (cj6 (by assumption)) | exact Nat.ne_of_lt (cj6 (by assumption)) | exact Nat.ne_of_gt (cj6 (by assumption)) | exact cj7 (by assumption) | exact Ne.symm (cj7 (by assumption)) | exact Nat.ne_of_lt (cj7 (by assumption)) | exact Nat.ne_of_gt (cj7 (by assumption)) | exact cj8 (by assumption) | exact Ne.symm (cj8 (by assumption)) | exact Nat.ne_of_lt (cj8 (by assumption)) | exact Nat.ne_of_gt (cj8 (by assumption)) | exact cj9 (by assumption) | exact Ne.symm (cj9 (by assumption)) | exact Nat.ne_of_lt (cj9 (by assumption)) | exact Nat.ne_of_gt (cj9 (by assumption)) | exact ej5 (by assumption) | exact Ne.symm (ej5 (by assumption)) | exact Nat.ne_of_lt (ej5 (by assumption)) | exact Nat.ne_of_gt (ej5 (by assumption)) | exact ej6 (by assumption) | exact Ne.symm (ej6 (by assumption)) | exact Nat.ne_of_lt (ej6 (by assumption)) | exact Nat.ne_of_gt (ej6 (by assumption)) | exact ej7 (by assumption) | exact Ne.symm (ej7 (by assumption)) | exact Nat.ne_of_lt (ej7 (by assumption)) | exact Nat.ne_of_gt (ej7 (by assumption)) | exact ej8 (by assumption) | exact Ne.symm (ej8 (by assumption)) | exact Nat.ne_of_lt (ej8 (by assumption)) | exact Nat.ne_of_gt (ej8 (by assumption)) | exact ej9 (by assumption) | exact Ne.symm (ej9 (by assumption)) | exact Nat.ne_of_lt (ej9 (by assumption)) | exact Nat.ne_of_gt (ej9 (by assumption)))
    k_with "binaryOp RShift int int" => (k_here; (with_reducible refine shr1 ?_))
    k_with "binaryOp Mod int int" => (k_here; (with_reducible refine mod_pos ?k1 ?_); (case k1 => decide))
    k_with "binaryOp FloorDiv int int" => (k_here; (with_reducible refine fdiv_pos ?k1 ?k2 ?_); (case k1 => decide); (case k2 => decide +kernel))
    k_with "call ref" => (k_here; refine wpAny_call ?_; k_dflt (refine' code_def ?k1 ?k2 ?k3 ?k4 ?k5 ?kA ?kF ?kK ?k6 ?k7 ?k8 ?k9 ?kB ?_ ?c2 ?c3 ?c4 ?c5; (case kA => exact rfl); (case kF => exact rfl); (case kK => first | exact rfl | assumption); (case k1 => k_asm); (case k2 => k_asm); (case k3 => k_asm); (case k4 => k_asm); (case k5 => k_asm); (case k6 => k_is); (case k7 => k_is); (case k8 => (first | exact unL2 (by assumption) rfl | exact unL1 (by assumption) rfl | exact unL0 (by assumption) | ktr_room)); (case k9 => exact BindsTo.of_eq rfl); (case c5 => decide); (case kB => exact locs rfl); (case c2 => exact rfl); (case c3 => exact rfl); (case c4 => exact rfl); k_whole; intro g' L' h' FG' F' N' B' X' T'; (try dsimp only); (try k_lift B'); (try k_fold)))
    k_with "execs cons" => (k_here; first | (k_made; walk_at "execs cons") | k_gentoks | ((with_reducible refine wpAny_execs_cons ?_); (try dsimp only); (try k_fold)))
    k_with "idx" => (first | with_reducible assumption | (first | lia | omega))
    k_with "upd" => (first | (refine' Pick.head ?a; (case a => k_all)) | (refine' Pick.tail ?a ?b; (case a => k_ne); (case b => k_upd)))
    k_with "eval ListComp" => (k_here; (with_reducible show wpAny _ _ (eval (PySem.Expr.ListComp _ [⟨PySem.Expr.Name _ _, _, [], 0⟩] _ _) _) _ _ _); k_dflt (refine LCg.ListComp_U (F₀ := by k_asm) (by with_unfolding_all rfl) (by decide) (by rfl) (by decide) (by rfl) ?_))
    k_steps
    refine UEnd.intro F3 N3 _ (fun p hp => .tail _ hp) off (Or.inr ⟨_, .head _, rfl, _, rfl⟩) ⟨rfl, ?_⟩
    rw [List.range_succ, List.map_append, hys]
    rfl
  case done =>
    intro ys nx hJ
    refine' hid fun kG_ => ?_
    obtain ⟨rfl, hys⟩ := hJ
    refine' kG_ ?_
    clear kG_
    intro D h tk F3 N3 off
    clear F1 N F2 N2
    k_with_none
    k_with "ne" => (refine neN ?_; (try dsimp only); with_reducible first | assumption | exact Ne.symm (by assumption) | exact ne1 | exact ne1.symm | exact ne2 | exact ne2.symm | exact ne3 | exact ne3.symm | exact ne4 | exact ne4.symm | exact ne5 | exact ne5.symm | exact nl1 (by assumption) | exact nl2 (by assumption) | exact nl3 (by assumption) | exact (nl1 (by assumption)).symm | exact (nl2 (by assumption)).symm | exact (nl3 (by assumption)).symm | exact Nat.ne_of_lt (by assumption) | exact Nat.ne_of_gt (by assumption) | exact cj1 (by assumption) | exact Ne.symm (cj1 (by assumption)) | exact Nat.ne_of_lt (cj1 (by assumption)) | exact Nat.ne_of_gt (cj1 (by assumption)) | exact cj2 (by assumption) | exact Ne.symm (cj2 (by assumption)) | exact Nat.ne_of_lt (cj2 (by assumption)) | exact Nat.ne_of_gt (cj2 (by assumption)) | exact cj3 (by assumption) | exact Ne.symm (cj3 (by assumption)) | exact Nat.ne_of_lt (cj3 (by assumption)) | exact Nat.ne_of_gt (cj3 (by assumption)) | exact cj4 (by assumption) | exact Ne.symm (cj4 (by assumption)) | exact Nat.ne_of_lt (cj4 (by assumption)) | exact Nat.ne_of_gt (cj4 (by assumption)) | exact cj5 (by assumption) | exact Ne.symm (cj5 (by assumption)) | exact Nat.ne_of_lt (cj5 (by assumption)) | exact Nat.ne_of_gt (cj5 (by assumption)) | exact cj6 (by assumption) | exact Ne.symm (cj6 (by assumption)) | exact Nat.ne_of_lt (cj6 (by assumption)) | exact Nat.ne_of_gt (cj6 (by assumption)) | exact cj7 (by assumption) | exact Ne.symm (cj7 (by assumption)) | exact Nat.ne_of_lt (cj7 (by assumption)) | exact Nat.ne_of_gt (cj7 (by assumption)) | exact cj8 (by assumption) | exact Ne.symm (cj8 (by assumption)) | exact Nat.ne_of_lt (cj8 (by assumption)) | exact Nat.ne_of_gt (cj8 (by assumption)) | exact cj9 (by assumption) | exact Ne.symm (cj9 (by assumption)) | exact Nat.ne_of_lt (cj9 (by assumption)) | exact Nat.ne_of_gt (cj9 (by assumption)) | exact ej5 (by assumption) | exact Ne.symm (ej5 (by assumption)) | exact Nat.ne_of_lt (ej5 (by assumption)) | exact Nat.ne_of_gt (ej5 (by assumption)) | exact ej6 (by assumption) | exact Ne.symm (ej6 (by assumption)) | exact Nat.ne_of_lt (ej6 (by assumption)) | exact Nat.ne_of_gt (ej6 (by assumption)) | exact ej7 (by assumption) | exact Ne.symm (ej7 (by assumption)) | exact Nat.ne_of_lt (ej7 (by assumption)) | exact Nat.ne_of_gt (ej7 (by assumption)) | exact ej8 (by assumption) | exact Ne.symm (ej8 (by assumption)) | exact Nat.ne_of_lt (ej8 (by assumption)) | exact Nat.ne_of_gt (ej8 (by assumption)) | exact ej9 (by assumption) | exact Ne.symm (ej9 (by assumption)) | exact Nat.ne_of_lt (ej9 (by assumption)) | exact Nat.ne_of_gt (ej9 (by assumption)))
    k_with "binaryOp RShift int int" => (k_here; (with_reducible refine shr1 ?_))
    k_with "binaryOp Mod int int" => (k_here; (with_reducible refine mod_pos ?k1 ?_); (case k1 => decide))
    k_with "binaryOp FloorDiv int int" => (k_here; (with_reducible refine fdiv_pos ?k1 ?k2 ?_); (case k1 => decide); (case k2 => decide +kernel))
    k_with "call ref" => (k_here; refine wpAny_call ?_; k_dflt (refine' code_def ?k1 ?k2 ?k3 ?k4 ?k5 ?kA ?kF ?kK ?k6 ?k7 ?k8 ?k9 ?kB ?_ ?c2 ?c3 ?c4 ?c5; (case kA => exact rfl); (case kF => exact rfl); (case kK => first | exact rfl | assumption); (case k1 => k_asm); (case k2 => k_asm); (case k3 => k_asm); (case k4 => k_asm); (case k5 => k_asm); (case k6 => k_is); (case k7 => k_is); (case k8 => (first | exact unL2 (by assumption) rfl | exact unL1 (by assumption) rfl | exact unL0 (by assumption) | ktr_room)); (case k9 => exact BindsTo.of_eq rfl); (case c5 => decide); (case kB => exact locs rfl); (case c2 => exact rfl); (case c3 => exact rfl); (case c4 => exact rfl); k_whole; intro g' L' h' FG' F' N' B' X' T'; (try dsimp only); (try k_lift B'); (try k_fold)))
    k_with "execs cons" => (k_here; first | (k_made; walk_at "execs cons") | k_gentoks | ((with_reducible refine wpAny_execs_cons ?_); (try dsimp only); (try k_fold)))
    k_with "idx" => (first | with_reducible assumption | (first | lia | omega))
    k_with "upd" => (first | (refine' Pick.head ?a; (case a => k_all)) | (refine' Pick.tail ?a ?b; (case a => k_ne); (case b => k_upd)))
    k_with "eval ListComp" => (k_here; (with_reducible show wpAny _ _ (eval (PySem.Expr.ListComp _ [⟨PySem.Expr.Name _ _, _, [], 0⟩] _ _) _) _ _ _); k_dflt (refine LCg.ListComp_U (F₀ := by k_asm) (by with_unfolding_all rfl) (by decide) (by rfl) (by decide) (by rfl) ?_))
    k_with "compareOp NotEq ref ref" => refine held ?_
    k_steps
    refine Held.out ?_
    unfold Held
    have hb3 : bs.map Value.bool = [Value.bool (decide ((colF g md 0).getD 0 0 = 1)), .bool (decide ((colF g md 1).getD 0 0 = 1)), .bool (decide ((colF g md 2).getD 0 0 = 1))] := by rw [hbs]; rfl
    have hy3 : ys = [Value.bool (decide ((colF g md 0).getD 0 0 = 1)), .bool (decide ((colF g md 1).getD 0 0 = 1)), .bool (decide ((colF g md 2).getD 0 0 = 1))] := by rw [hys]; rfl
    rw [hb3] at hlg
    rw [hy3] at N3
    refine ne_bools3 ⟨_, (N3 _ (mem2 (led6_in hlg))).1, rfl, _, rfl⟩ ⟨_, (N3 _ (.head _)).1, rfl, _, rfl⟩ (by (first | exact unL2 (by assumption) rfl | exact unL1 (by assumption) rfl | exact unL0 (by assumption) | ktr_units)) ?_
    k_steps
    dsimp only
    exact WEnd.intro F3 N3 (fun p hp => mem2 hp) ⟨rfl, rfl⟩
end

end
section
noncomputable abbrev Post_if2 (L : Addr) (m : Str → Option Value) (c6 : Obj) (c5 : Obj) (c4 : Obj) (c3 : Obj) (c2 : Obj) (c1 : Obj) (tl : List (Addr × Obj)) (m' : Str → Option Value) (nx : List (Addr × Obj)) : Prop := m' = m ∧ nx = led6 L c6 c5 c4 c3 c2 c1 tl
section
variable {w : World} {mean : ExcName → Option Value} {mg mb : Str → Option Value} {a : Addr} {ccd : Value} {h₀ : Heap} {L : Addr} {m : Str → Option Value} {s : Shared} {Q : Flow → Shared → Prop} {E : Value → Shared → Prop}
  {oc : Value} {od : Option Addr} {name qual : Str} {params : Arguments} {body : List Stmt} {scope : Scope} {dV kV doc pm cdv ct : Value} {an : Option Addr} {osl : Array (Option Value)} {st : Stmt}
set_option maxHeartbeats 8000000 in
theorem st_if2 {c6 c5 c4 c3 c2 c1 : Obj} {tl : List (Addr × Obj)} {lx : Addr} {vx : List Value} {nx₀ : Nat} {xs : List Str}
    (ho : (hd.heap_39 w.params).lookup 145 = some ⟨oc, od, .func (fnOf name qual params body scope dV kV doc pm an cdv ct), osl⟩) (hst : body[14]? = some st)
    (B : Below callerA h₀ [] h₀) (X : (hd.heap_39 w.params).In h₀) (T : Top hd.view_39 lz mean mg mb h₀) (F : Fr h₀ L s.heap m)
    (N : News h₀ L s.heap (led6 L c6 c5 c4 c3 c2 c1 tl)) (hab : Above L tl) (hm : KnownAll m [(Str.ofString "texts", .ref lx)]) (h2 : 2 ≤ xs.length) (h5 : xs.length ≤ 5) (hlx : (lx, W.listOf vx.toArray nx₀) ∈ tl) (hix : StrsAre vx xs) (h10 : ∀ x ∈ xs, x.length = 10) (h9 : ∀ x ∈ xs, (Txt.slice x (some 1) none).length = 9) :
    wpAny (model prg w) (callerA.deeper (envOfC qual scope L a ccd)) (exec st (envOfC qual scope L a ccd))
      (StPost h₀ L (Post_if2 L m c6 c5 c4 c3 c2 c1 tl) s Q) E s := by
  revert X; unfold prg; w_top off; k_fill; intro X
  refine' fn_st ho hst ?e ?hb ?_
  case e => k_is
  case hb => exact rfl
  clear ho hst
  rintro rfl rfl rfl
  have F1 : Fr h₀ L s.heap (kstB m [(Str.ofString "texts", .ref lx)]) := fr_knownL hm F
  dsimp only [kstB] at F1
  have eM : (fun z => if z = Str.ofString "texts" then some (Value.ref lx) else m z) = m := known_eq hm
  have hxl := hix.length
  k_with_none
  k_with "ne" => (refine neN ?_; (try dsimp only); with_reducible first | assumption | exact Ne.symm (by assumption) | exact ne1 | exact ne1.symm | exact ne2 | exact ne2.symm | exact ne3 | exact ne3.symm | exact ne4 | exact ne4.symm | exact ne5 | exact ne5.symm | exact nl1 (by assumption) | exact nl2 (by assumption) | exact nl3 (by assumption) | exact (nl1 (by assumption)).symm | exact (nl2 (by assumption)).symm | exact (nl3 (by assumption)).symm | exact Nat.ne_of_lt (by assumption) | exact Nat.ne_of_gt (by assumption) | exact cj1 (by assumption) | exact Ne.symm (cj1 (by assumption)) | exact Nat.ne_of_lt (cj1 (by assumption)) | exact Nat.ne_of_gt (cj1 (by assumption)) | exact cj2 (by assumption) | exact Ne.symm (cj2 (by assumption)) | exact Nat.ne_of_lt (cj2 (by assumption)) | exact Nat.ne_of_gt (cj2 (by assumption)) | exact cj3 (by assumption) | exact Ne.symm (cj3 (by assumption)) | exact Nat.ne_of_lt (cj3 (by assumption)) | exact Nat.ne_of_gt (cj3 (by assumption)) | exact cj4 (by assumption) | exact Ne.symm (cj4 (by assumption)) | exact Nat.ne_of_lt (cj4 (by assumption)) | exact Nat.ne_of_gt (cj4 (by assumption)) | exact cj5 (by assumption) | exact Ne.symm (cj5 (by assumption)) | exact Nat.ne_of_lt (cj5 (by assumption)) | exact Nat.ne_of_gt (cj5 (by assumption)) | exact cj6 (by assumption) | exact Ne.symm (cj6 (by assumption)) | exact Nat.ne_of_lt (cj6 (by assumption)) | exact Nat.ne_of_gt (cj6 (by assumption)) | exact cj7 (by assumption) | exact Ne.symm (cj7 (by assumption)) | exact Nat.ne_of_lt (cj7 (by assumption)) | exact Nat.ne_of_gt (cj7 (by assumption)) | exact cj8 (by assumption) | exact Ne.symm (cj8 (by assumption)) | exact Nat.ne_of_lt (cj8 (by assumption)) | exact Nat.ne_of_gt (cj8 (by assumption)) | exact cj9 (by assumption) | exact Ne.symm (cj9 (by assumption)) | exact Nat.ne_of_lt (cj9 (by assumption)) | exact Nat.ne_of_gt (cj9 (by assumption)) | exact ej5 (by assumption) | exact Ne.symm (ej5 (by assumption)) | exact Nat.ne_of_lt (ej5 (by assumption)) | exact Nat.ne_of_gt (ej5 (by assumption)) | exact ej6 (by assumption) | exact Ne.symm (ej6 (by assumption)) | exact Nat.ne_of_lt (ej6 (by assumption)) | exact Nat.ne_of_gt (ej6 (by assumption)) | exact ej7 (by assumption) | exact Ne.symm (ej7 (by assumption)) | exact Nat.ne_of_lt (ej7 (by assumption)) | exact Nat.ne_of_gt (ej7 (by assumption)) | exact ej8 (by assumption) | exact Ne.symm (ej8 (by assumption)) | exact Nat.ne_of_lt (ej8 (by assumption)) | exact Nat.ne_of_gt (ej8 (by assumption)) | exact ej9 (by assumption) | exact Ne.symm (ej9 (by assumption)) | exact Nat.ne_of_lt (ej9 (by assumption)) | exact Nat.ne_of_gt (ej9 (by assumption)))
  k_with "binaryOp RShift int int" => (k_here; (with_reducible refine shr1 ?_))
  k_with "binaryOp Mod int int" => (k_here; (with_reducible refine mod_pos ?k1 ?_); (case k1 => decide))
  k_with "binaryOp FloorDiv int int" => (k_here; (with_reducible refine fdiv_pos ?k1 ?k2 ?_); (case k1 => decide); (case k2 => decide +kernel))
  k_with "execs cons" => (k_here; first | (k_made; walk_at "execs cons") | k_gentoks | ((with_reducible refine wpAny_execs_cons ?_); (try dsimp only); (try k_fold)))
  k_with "idx" => (first | with_reducible assumption | (first | lia | omega))
  k_with "upd" => (first | (refine' Pick.head ?a; (case a => k_all)) | (refine' Pick.tail ?a ?b; (case a => k_ne); (case b => k_upd)))
  k_with "eval ListComp" => (k_here; (with_reducible show wpAny _ _ (eval (PySem.Expr.ListComp _ [⟨PySem.Expr.Name _ _, _, [], 0⟩] _ _) _) _ _ _); k_dflt (refine LCg.ListComp_U (F₀ := by k_asm) (by with_unfolding_all rfl) (by decide) (by rfl) (by decide) (by rfl) ?_))
  k_with "CompSrc" => refine held ?_
  k_steps
  refine Held.out ?_
  unfold Held
  rw [eM]
  clear F1
  refine LCg.CompSrc.ledger rfl F N (led6_in hlx) (by rw [List.size_toArray, hxl, sizeLine_eq]; (first | lia | omega)) ?_
  intro g2
  have hsz : vx.toArray.size = xs.length := by simp [hxl]
  refine rest_U (fun i ys nx => nx = led6 L c6 c5 c4 c3 c2 c1 tl ∧ ∃ cs : List Int, IntsAre ys cs ∧ cs.length = i ∧ ∀ c ∈ cs, 0 ≤ c ∧ c ≤ 9) ?turn ?done ⟨rfl, [], .nil, rfl, fun _ h => nomatch h⟩
  case turn =>
    intro i v ys nx I oI C oC D m₂ h tk E' hi hP hJ hC hx F2 N2 off ne
    refine' hid fun kG_ => ?_
    obtain ⟨rfl, cs, hys, hcl, hcb⟩ := hJ
    refine' kG_ ?_
    clear kG_
    rw [hsz] at hi
    have hPv : vx[i]? = some v := by simpa using hP
    refine' hid fun kG_ => ?_
    obtain ⟨x, t, rfl, hki⟩ := strs_at hix i v hPv
    refine' kG_ ?_
    clear kG_
    have hx10 := h10 x (List.mem_of_getElem? hki)
    have hx9 := h9 x (List.mem_of_getElem? hki)
    clear F N
    k_with_none
    k_with "ne" => (refine neN ?_; (try dsimp only); with_reducible first | assumption | exact Ne.symm (by assumption) | exact ne1 | exact ne1.symm | exact ne2 | exact ne2.symm | exact ne3 | exact ne3.symm | exact ne4 | exact ne4.symm | exact ne5 | exact ne5.symm | exact nl1 (by assumption) | exact nl2 (by assumption) | exact nl3 (by assumption) | exact (nl1 (by assumption)).symm | exact (nl2 (by assumption)).symm | exact (nl3 (by assumption)).symm | exact Nat.ne_of_lt (by assumption) | exact Nat.ne_of_gt (by assumption) | exact cj1 (by assumption) | exact Ne.symm (cj1 (by assumption)) | exact Nat.ne_of_lt (cj1 (by assumption)) | exact Nat.ne_of_gt (cj1 (by assumption)) | exact cj2 (by assumption) | exact Ne.symm (cj2 (by assumption)) | exact Nat.ne_of_lt (cj2 (by assumption)) | exact Nat.ne_of_gt (cj2 (by assumption)) | exact cj3 (by assumption) | exact Ne.symm (cj3 (by assumption)) | exact Nat.ne_of_lt (cj3 (by assumption)) | exact Nat.ne_of_gt (cj3 (by assumption)) | exact cj4 (by assumption) | exact Ne.symm (cj4 (by assumption)) | exact Nat.ne_of_lt (cj4 (by assumption)) | exact Nat.ne_of_gt (cj4 (by assumption)) | exact cj5 (by assumption) | exact Ne.symm (cj5 (by assumption)) | exact Nat.ne_of_lt (cj5 (by assumption)) | exact Nat.ne_of_gt (cj5 (by assumption)) | exact cj6 (by assumption) | exact Ne.symm (cj6 (by assumption)) | exact Nat.ne_of_lt (cj6 (by assumption)) | exact Nat.ne_of_gt (cj6 (by assumption)) | exact cj7 (by assumption) | exact Ne.symm (cj7 (by assumption)) | exact Nat.ne_of_lt (cj7 (by assumption)) | exact Nat.ne_of_gt (cj7 (by assumption)) | exact cj8 (by assumption) | exact Ne.symm (cj8 (by assumption)) | exact Nat.ne_of_lt (cj8 (by assumption)) | exact Nat.ne_of_gt (cj8 (by assumption)) | exact cj9 (by assumption) | exact Ne.symm (cj9 (by assumption)) | exact Nat.ne_of_lt (cj9 (by assumption)) | exact Nat.ne_of_gt (cj9 (by assumption)) | exact ej5 (by assumption) | exact Ne.symm (ej5 (by assumption)) | exact Nat.ne_of_lt (ej5 (by assumption)) | exact Nat.ne_of_gt (ej5 (by assumption)) | exact ej6 (by assumption) | exact Ne.symm (ej6 (by assumption)) | exact Nat.ne_of_lt (ej6 (by assumption)) | exact Nat.ne_of_gt (ej6 (by assumption)) | exact ej7 (by assumption) | exact Ne.symm (ej7 (by assumption)) | exact Nat.ne_of_lt (ej7 (by assumption)) | exact Nat.ne_of_gt (ej7 (by assumption)) | exact ej8 (by assumption) | exact Ne.symm (ej8 (by assumption)) | exact Nat.ne_of_lt (ej8 (by assumption)) | exact Nat.ne_of_gt (ej8 (by assumption)) | exact ej9 (by assumption) | exact Ne.symm (ej9 (by assumption)) | exact Nat.ne_of_lt (ej9 (by assumption)) | exact Nat.ne_of_gt (ej9 (by assumption)))
    k_with "binaryOp RShift int int" => (k_here; (with_reducible refine shr1 ?_))
    k_with "binaryOp Mod int int" => (k_here; (with_reducible refine mod_pos ?k1 ?_); (case k1 => decide))
    k_with "binaryOp FloorDiv int int" => (k_here; (with_reducible refine fdiv_pos ?k1 ?k2 ?_); (case k1 => decide); (case k2 => decide +kernel))
    k_with "execs cons" => (k_here; first | (k_made; walk_at "execs cons") | k_gentoks | ((with_reducible refine wpAny_execs_cons ?_); (try dsimp only); (try k_fold)))
    k_with "idx" => (first | with_reducible assumption | (first | lia | omega))
    k_with "upd" => (first | (refine' Pick.head ?a; (case a => k_all)) | (refine' Pick.tail ?a ?b; (case a => k_ne); (case b => k_upd)))
    k_with "eval ListComp" => (k_here; (with_reducible show wpAny _ _ (eval (PySem.Expr.ListComp _ [⟨PySem.Expr.Name _ _, _, [], 0⟩] _ _) _) _ _ _); k_dflt (refine LCg.ListComp_U (F₀ := by k_asm) (by with_unfolding_all rfl) (by decide) (by rfl) (by decide) (by rfl) ?_))
    k_with "call builtin:len" => refine held ?_
    k_steps
    refine Held.out ?_
    unfold Held
    rename Heap.IsList _ _ _ => hL
    rename CarriedAll _ _ => hCA
    rename Fr _ _ _ _ => F9
    rename News _ _ _ _ => N9
    have hcl9 := hCA.len
    rw [List.length_map] at hcl9
    have hf9 := List.length_filter_le (fun a => !(Builtin.Str.occurrences (Str.ofString "rwxst") a 0 (Str.ofString "rwxst").length 1).isEmpty) (signs (Txt.slice x (some 1) none))
    rw [signs_length, hx9] at hf9
    refine len_list hL (by simp; (first | lia | omega)) ?_
    refine UEnd.intro F9 N9 _ (fun p hp => hp) off (Or.inr ⟨_, led6_in hlx, rfl, _, rfl⟩) ⟨rfl, cs ++ [_], IntsAre.append hys (.cons _ _ .nil), by simp [hcl], ?_⟩
    intro c hc
    rcases List.mem_append.mp hc with hc | hc
    · exact hcb c hc
    · rw [List.mem_singleton.mp hc]
      simp
      (first | lia | omega)
  case done =>
    intro ys nx hJ
    refine' hid fun kG_ => ?_
    obtain ⟨rfl, cs, hys, hcl, hcb⟩ := hJ
    refine' kG_ ?_
    clear kG_
    intro D h tk F2 N2 off
    have hyl := hys.length
    clear F N
    k_with_none
    k_with "ne" => (refine neN ?_; (try dsimp only); with_reducible first | assumption | exact Ne.symm (by assumption) | exact ne1 | exact ne1.symm | exact ne2 | exact ne2.symm | exact ne3 | exact ne3.symm | exact ne4 | exact ne4.symm | exact ne5 | exact ne5.symm | exact nl1 (by assumption) | exact nl2 (by assumption) | exact nl3 (by assumption) | exact (nl1 (by assumption)).symm | exact (nl2 (by assumption)).symm | exact (nl3 (by assumption)).symm | exact Nat.ne_of_lt (by assumption) | exact Nat.ne_of_gt (by assumption) | exact cj1 (by assumption) | exact Ne.symm (cj1 (by assumption)) | exact Nat.ne_of_lt (cj1 (by assumption)) | exact Nat.ne_of_gt (cj1 (by assumption)) | exact cj2 (by assumption) | exact Ne.symm (cj2 (by assumption)) | exact Nat.ne_of_lt (cj2 (by assumption)) | exact Nat.ne_of_gt (cj2 (by assumption)) | exact cj3 (by assumption) | exact Ne.symm (cj3 (by assumption)) | exact Nat.ne_of_lt (cj3 (by assumption)) | exact Nat.ne_of_gt (cj3 (by assumption)) | exact cj4 (by assumption) | exact Ne.symm (cj4 (by assumption)) | exact Nat.ne_of_lt (cj4 (by assumption)) | exact Nat.ne_of_gt (cj4 (by assumption)) | exact cj5 (by assumption) | exact Ne.symm (cj5 (by assumption)) | exact Nat.ne_of_lt (cj5 (by assumption)) | exact Nat.ne_of_gt (cj5 (by assumption)) | exact cj6 (by assumption) | exact Ne.symm (cj6 (by assumption)) | exact Nat.ne_of_lt (cj6 (by assumption)) | exact Nat.ne_of_gt (cj6 (by assumption)) | exact cj7 (by assumption) | exact Ne.symm (cj7 (by assumption)) | exact Nat.ne_of_lt (cj7 (by assumption)) | exact Nat.ne_of_gt (cj7 (by assumption)) | exact cj8 (by assumption) | exact Ne.symm (cj8 (by assumption)) | exact Nat.ne_of_lt (cj8 (by assumption)) | exact Nat.ne_of_gt (cj8 (by assumption)) | exact cj9 (by assumption) | exact Ne.symm (cj9 (by assumption)) | exact Nat.ne_of_lt (cj9 (by assumption)) | exact Nat.ne_of_gt (cj9 (by assumption)) | exact ej5 (by assumption) | exact Ne.symm (ej5 (by assumption)) | exact Nat.ne_of_lt (ej5 (by assumption)) | exact Nat.ne_of_gt (ej5 (by assumption)) | exact ej6 (by assumption) | exact Ne.symm (ej6 (by assumption)) | exact Nat.ne_of_lt (ej6 (by assumption)) | exact Nat.ne_of_gt (ej6 (by assumption)) | exact ej7 (by assumption) | exact Ne.symm (ej7 (by assumption)) | exact Nat.ne_of_lt (ej7 (by assumption)) | exact Nat.ne_of_gt (ej7 (by assumption)) | exact ej8 (by assumption) | exact Ne.symm (ej8 (by assumption)) | exact Nat.ne_of_lt (ej8 (by assumption)) | exact Nat.ne_of_gt (ej8 (by assumption)) | exact ej9 (by assumption) | exact Ne.symm (ej9 (by assumption)) | exact Nat.ne_of_lt (ej9 (by assumption)) | exact Nat.ne_of_gt (ej9 (by assumption)))
    k_with "binaryOp RShift int int" => (k_here; (with_reducible refine shr1 ?_))
    k_with "binaryOp Mod int int" => (k_here; (with_reducible refine mod_pos ?k1 ?_); (case k1 => decide))
    k_with "binaryOp FloorDiv int int" => (k_here; (with_reducible refine fdiv_pos ?k1 ?k2 ?_); (case k1 => decide); (case k2 => decide +kernel))
    k_with "execs cons" => (k_here; first | (k_made; walk_at "execs cons") | k_gentoks | ((with_reducible refine wpAny_execs_cons ?_); (try dsimp only); (try k_fold)))
    k_with "idx" => (first | with_reducible assumption | (first | lia | omega))
    k_with "upd" => (first | (refine' Pick.head ?a; (case a => k_all)) | (refine' Pick.tail ?a ?b; (case a => k_ne); (case b => k_upd)))
    k_with "eval ListComp" => (k_here; (with_reducible show wpAny _ _ (eval (PySem.Expr.ListComp _ [⟨PySem.Expr.Name _ _, _, [], 0⟩] _ _) _) _ _ _); k_dflt (refine LCg.ListComp_U (F₀ := by k_asm) (by with_unfolding_all rfl) (by decide) (by rfl) (by decide) (by rfl) ?_))
    k_with "call ref" => refine held ?_
    k_steps
    refine Held.out ?_
    unfold Held
    rw [hsz] at hcl
    k_dflt (refine' between_tells (xs := cs) (S := cs.mergeSort (fun a b => decide (a ≤ b))) ?B ?F ?X ?N ?T ?hk ?hm ?hi ?hne ?h5 ?hb ?hS ?hSo ?hdp ?hun ?_; (case B => k_asm); (case F => k_asm); (case X => k_asm); (case N => k_asm); (case T => k_asm); (case hk => exact rfl); (case hm => exact .head _); (case hi => exact hys); (case hne => (first | lia | omega)); (case h5 => (first | lia | omega)); (case hb => exact hcb); (case hS => exact List.mergeSort_perm _ _); (case hSo => exact ms_sorted _); (case hdp => (first | exact unL2 (by assumption) rfl | exact unL1 (by assumption) rfl | exact unL0 (by assumption) | ktr_room)); (case hun => (first | exact unL2 (by assumption) rfl | exact unL1 (by assumption) rfl | exact unL0 (by assumption) | ktr_units)))
    intro h7 tk7 F7 N7
    k_steps
    dsimp only
    exact WEnd.intro F7 N7 (fun p hp => .tail _ hp) ⟨rfl, rfl⟩
end

end
section
theorem eq_nope {a b c d : Int} (h1 : a = b → c = d) (h2 : c = d → a = b) (h : ((a == b) != (c == d)) = true) : False := by
  have e : (a == b) = (c == d) := by rw [Bool.eq_iff_iff, beq_iff_eq, beq_iff_eq]; exact ⟨h1, h2⟩
  rw [e] at h
  simp at h
theorem led6_off {L I : Addr} {c6' c6 c5 c4 c3 c2 c1 : Obj} {tl : List (Addr × Obj)} (h : ∀ p ∈ led6 L c6' c5 c4 c3 c2 c1 tl, p.1 ≠ I) : ∀ p ∈ led6 L c6 c5 c4 c3 c2 c1 tl, p.1 ≠ I := by
  intro p hp
  rcases List.mem_cons.mp hp with rfl | hp
  · exact h (_, c6') (.head _)
  · exact h p (.tail _ hp)
noncomputable abbrev J_for (L : Addr) (c5 c4 c3 c2 c1 : Obj) (tl : List (Addr × Obj)) (lt lw lx : Addr) (lo up : Int) (t1 t2 : Tok) (_ : Nat) (m' : Str → Option Value) (nx : List (Addr × Obj)) : Prop := (∃ c6 v6, nx = led6 L c6 c5 c4 c3 c2 c1 tl ∧ c6.data = .cell v6) ∧ KnownAll m' [(Str.ofString "told", .ref lt), (Str.ofString "ways", .ref lw), (Str.ofString "shown", .ref lx), (Str.ofString "lower", .int lo t1), (Str.ofString "upper", .int up t2)]
noncomputable abbrev J_for2 (L : Addr) (o6 c5 c4 c3 c2 c1 : Obj) (tl : List (Addr × Obj)) (ai I : Addr) (oI : Obj) (q : Int × Int) (u1 u2 : Tok) (n' : Nat) (xs : List Str) (g : Int) (r : Str) (j : Nat) (ys : List Value) (nx : List (Addr × Obj)) : Prop := nx = (ai, tupO [Value.int q.1 u1, Value.int q.2 u2] n') :: (I, oI) :: led6 L o6 c5 c4 c3 c2 c1 tl ∧ IntsAre ys ((xs.take j).map fun y => apF (sgnF g q.2) y r)
noncomputable abbrev Post_for (L : Addr) (c6 : Obj) (c5 : Obj) (c4 : Obj) (c3 : Obj) (c2 : Obj) (c1 : Obj) (tl : List (Addr × Obj)) (v6 : Option Value) (m' : Str → Option Value) (nx : List (Addr × Obj)) : Prop := ∃ c6 v6, nx = led6 L c6 c5 c4 c3 c2 c1 tl ∧ c6.data = .cell v6
section
variable {w : World} {mean : ExcName → Option Value} {mg mb : Str → Option Value} {a : Addr} {ccd : Value} {h₀ : Heap} {L : Addr} {m : Str → Option Value} {s : Shared} {Q : Flow → Shared → Prop} {E : Value → Shared → Prop}
  {oc : Value} {od : Option Addr} {name qual : Str} {params : Arguments} {body : List Stmt} {scope : Scope} {dV kV doc pm cdv ct : Value} {an : Option Addr} {osl : Array (Option Value)} {st : Stmt}
set_option maxHeartbeats 8000000 in
theorem st_for {c6 c5 c4 c3 c2 c1 : Obj} {tl : List (Addr × Obj)} {lt lw lx : Addr} {vt vw vx : List Value} {nt nw nx₀ : Nat} {fs : List (Int × Int)} {ws : List Int} {xs : List Str} {g lo up : Int} {tg t1 t2 tr : Tok} {r : Str} {v6 : Option Value}
    (ho : (hd.heap_39 w.params).lookup 145 = some ⟨oc, od, .func (fnOf name qual params body scope dV kV doc pm an cdv ct), osl⟩) (hst : body[18]? = some st)
    (B : Below callerA h₀ [] h₀) (X : (hd.heap_39 w.params).In h₀) (T : Top hd.view_39 lz mean mg mb h₀) (F : Fr h₀ L s.heap m)
    (N : News h₀ L s.heap (led6 L c6 c5 c4 c3 c2 c1 tl)) (hab : Above L tl) (hm : KnownAll m [(Str.ofString "told", .ref lt), (Str.ofString "ways", .ref lw), (Str.ofString "shown", .ref lx), (Str.ofString "lower", .int lo t1), (Str.ofString "upper", .int up t2)])
    (d2 : c2.data = .cell (some (.int g tg))) (d5 : c5.data = .cell (some (.str r tr))) (d6 : c6.data = .cell v6) (hg0 : 0 ≤ g) (hg3 : g < 3)
    (hlt : (lt, W.listOf vt.toArray nt) ∈ tl) (hpf : PairsP tl vt fs) (hlw : (lw, W.listOf vw.toArray nw) ∈ tl) (hiw : IntsAre vw ws) (hlx : (lx, W.listOf vx.toArray nx₀) ∈ tl) (hix : StrsAre vx xs) (h5 : xs.length ≤ 5) (hw0 : 0 < ws.length) (hxs : ∀ y ∈ xs, y.length = 3 ∧ 0 ≤ Txt.find r (Txt.item y 2))
    (hturn : ∀ q ∈ fs, (sgnF g q.2).length = 3 ∧ 0 ≤ Txt.find r (Txt.item (sgnF g q.2) 2) ∧ (xs.map fun y => apF (sgnF g q.2) y r).sum = q.1 ∧ (q.1 = ws.getD 0 0 ↔ (Builtin.bitAnd q.2 lo = lo ∧ Builtin.bitAnd q.2 up = q.2))) (hE : PassesOwn (model prg w) (callerA.deeper (envOfC qual scope L a ccd)) (envOfC qual scope L a ccd) E) :
    wpAny (model prg w) (callerA.deeper (envOfC qual scope L a ccd)) (exec st (envOfC qual scope L a ccd))
      (StPost h₀ L (Post_for L c6 c5 c4 c3 c2 c1 tl v6) s Q) E s := by
  revert X; unfold prg; w_top off; k_fill; intro X
  refine' fn_st ho hst ?e ?hb ?_
  case e => k_is
  case hb => exact rfl
  clear ho hst
  rintro rfl rfl rfl
  have F1 : Fr h₀ L s.heap (kstB m [(Str.ofString "told", .ref lt), (Str.ofString "ways", .ref lw), (Str.ofString "shown", .ref lx), (Str.ofString "lower", .int lo t1), (Str.ofString "upper", .int up t2)]) := fr_knownL hm F
  dsimp only [kstB] at F1
  clear F
  k_with_none
  k_with "ne" => (refine neN ?_; (try dsimp only); with_reducible first | assumption | exact Ne.symm (by assumption) | exact ne1 | exact ne1.symm | exact ne2 | exact ne2.symm | exact ne3 | exact ne3.symm | exact ne4 | exact ne4.symm | exact ne5 | exact ne5.symm | exact nl1 (by assumption) | exact nl2 (by assumption) | exact nl3 (by assumption) | exact (nl1 (by assumption)).symm | exact (nl2 (by assumption)).symm | exact (nl3 (by assumption)).symm | exact Nat.ne_of_lt (by assumption) | exact Nat.ne_of_gt (by assumption) | exact cj1 (by assumption) | exact Ne.symm (cj1 (by assumption)) | exact Nat.ne_of_lt (cj1 (by assumption)) | exact Nat.ne_of_gt (cj1 (by assumption)) | exact cj2 (by assumption) | exact Ne.symm (cj2 (by assumption)) | exact Nat.ne_of_lt (cj2 (by assumption)) | exact Nat.ne_of_gt (cj2 (by assumption)) | exact cj3 (by assumption) | exact Ne.symm (cj3 (by assumption)) | exact Nat.ne_of_lt (cj3 (by assumption)) | exact Nat.ne_of_gt (cj3 (by assumption)) | exact cj4 (by assumption) | exact Ne.symm (cj4 (by assumption)) | exact Nat.ne_of_lt (cj4 (by assumption)) | exact Nat.ne_of_gt (cj4 (by assumption)) | exact cj5 (by assumption) | exact Ne.symm (cj5 (by assumption)) | exact Nat.ne_of_lt (cj5 (by assumption)) | exact Nat.ne_of_gt (cj5 (by assumption)) | exact cj6 (by assumption) | exact Ne.symm (cj6 (by assumption)) | exact Nat.ne_of_lt (cj6 (by assumption)) | exact Nat.ne_of_gt (cj6 (by assumption)) | exact cj7 (by assumption) | exact Ne.symm (cj7 (by assumption)) | exact Nat.ne_of_lt (cj7 (by assumption)) | exact Nat.ne_of_gt (cj7 (by assumption)) | exact cj8 (by assumption) | exact Ne.symm (cj8 (by assumption)) | exact Nat.ne_of_lt (cj8 (by assumption)) | exact Nat.ne_of_gt (cj8 (by assumption)) | exact cj9 (by assumption) | exact Ne.symm (cj9 (by assumption)) | exact Nat.ne_of_lt (cj9 (by assumption)) | exact Nat.ne_of_gt (cj9 (by assumption)) | exact ej5 (by assumption) | exact Ne.symm (ej5 (by assumption)) | exact Nat.ne_of_lt (ej5 (by assumption)) | exact Nat.ne_of_gt (ej5 (by assumption)) | exact ej6 (by assumption) | exact Ne.symm (ej6 (by assumption)) | exact Nat.ne_of_lt (ej6 (by assumption)) | exact Nat.ne_of_gt (ej6 (by assumption)) | exact ej7 (by assumption) | exact Ne.symm (ej7 (by assumption)) | exact Nat.ne_of_lt (ej7 (by assumption)) | exact Nat.ne_of_gt (ej7 (by assumption)) | exact ej8 (by assumption) | exact Ne.symm (ej8 (by assumption)) | exact Nat.ne_of_lt (ej8 (by assumption)) | exact Nat.ne_of_gt (ej8 (by assumption)) | exact ej9 (by assumption) | exact Ne.symm (ej9 (by assumption)) | exact Nat.ne_of_lt (ej9 (by assumption)) | exact Nat.ne_of_gt (ej9 (by assumption)))
  k_with "binaryOp RShift int int" => (k_here; (with_reducible refine shr1 ?_))
  k_with "binaryOp Mod int int" => (k_here; (with_reducible refine mod_pos ?k1 ?_); (case k1 => decide))
  k_with "binaryOp FloorDiv int int" => (k_here; (with_reducible refine fdiv_pos ?k1 ?k2 ?_); (case k1 => decide); (case k2 => decide +kernel))
  k_with "execs cons" => (k_here; first | (k_made; walk_at "execs cons") | k_gentoks | ((with_reducible refine wpAny_execs_cons ?_); (try dsimp only); (try k_fold)))
  k_with "idx" => (first | with_reducible assumption | (first | lia | omega))
  k_with "upd" => (first | (refine' Pick.head ?a; (case a => k_all)) | (refine' Pick.tail ?a ?b; (case a => k_ne); (case b => k_upd)))
  k_with "exec For Tuple Name cons nil" => (k_here; (with_unfolding_all refine' For_turns (by k_asm) ?_; k_whole))
  k_with "eval ListComp" => (k_here; (with_reducible show wpAny _ _ (eval (PySem.Expr.ListComp _ [⟨PySem.Expr.Name _ _, _, [], 0⟩] _ _) _) _ _ _); k_dflt (refine LCg.ListComp_U (F₀ := by k_asm) (by with_unfolding_all rfl) (by decide) (by rfl) (by decide) (by rfl) ?_))
  k_with "pyIter ref" => refine held ?_
  refine For_turns F1 ?_ (hE := hE)
  k_steps
  refine Held.out ?_
  unfold Held
  refine turns_list (J_for L c5 c4 c3 c2 c1 tl lt lw lx lo up t1 t2) rfl (led6_in hlt) F1 N ⟨⟨c6, v6, rfl, d6⟩, rfl, rfl, rfl, rfl, rfl, trivial⟩ ?hkeep ?turn ?done
  case hkeep =>
    rintro i m' nx ⟨⟨_, _, rfl, _⟩, _⟩
    exact led6_in hlt
  case turn =>
    intro i v m₁ nx h3 tk3 I oI hv hJ hoff F3 N3
    refine' hid fun kG_ => ?_
    obtain ⟨⟨c6', v6', rfl, d6'⟩, hkn⟩ := hJ
    refine' kG_ ?_
    clear kG_
    have hi : i < fs.length := by
      have := (List.getElem?_eq_some_iff.mp hv).1
      have := hpf.length
      (first | lia | omega)
    refine' hid fun kG_ => ?_
    obtain ⟨ai, n', u1, u2, e, hmm⟩ := hpf.at hi
    refine' kG_ ?_
    clear kG_
    rw [hv] at e
    cases e
    refine' hid fun kG_ => ?_
    obtain ⟨s1, s2, s3, s4⟩ := hturn _ (getD_mem hi)
    refine' kG_ ?_
    clear kG_
    generalize fs.getD i (0, 0) = q at s1 s2 s3 s4 hmm
    have F4 := fr_knownL hkn F3
    dsimp only [kstB] at F4
    have a6 := hab.ne6
    have i6 : @Ne Nat (L + 1 + 1 + 1 + 1 + 1 + 1) I := hoff _ (.head _)
    have am := hab _ hmm
    dsimp only at am
    replace N3 := news_in N3 (.tail _ (led6_in hmm))
    clear F3 F1 N
    show wpAny _ _ _ _ _ _
    try k_fold
    k_with_none
    k_with "ne" => (refine neN ?_; (try dsimp only); with_reducible first | assumption | exact Ne.symm (by assumption) | exact ne1 | exact ne1.symm | exact ne2 | exact ne2.symm | exact ne3 | exact ne3.symm | exact ne4 | exact ne4.symm | exact ne5 | exact ne5.symm | exact nl1 (by assumption) | exact nl2 (by assumption) | exact nl3 (by assumption) | exact (nl1 (by assumption)).symm | exact (nl2 (by assumption)).symm | exact (nl3 (by assumption)).symm | exact Nat.ne_of_lt (by assumption) | exact Nat.ne_of_gt (by assumption) | exact cj1 (by assumption) | exact Ne.symm (cj1 (by assumption)) | exact Nat.ne_of_lt (cj1 (by assumption)) | exact Nat.ne_of_gt (cj1 (by assumption)) | exact cj2 (by assumption) | exact Ne.symm (cj2 (by assumption)) | exact Nat.ne_of_lt (cj2 (by assumption)) | exact Nat.ne_of_gt (cj2 (by assumption)) | exact cj3 (by assumption) | exact Ne.symm (cj3 (by assumption)) | exact Nat.ne_of_lt (cj3 (by assumption)) | exact Nat.ne_of_gt (cj3 (by assumption)) | exact cj4 (by assumption) | exact Ne.symm (cj4 (by assumption)) | exact Nat.ne_of_lt (cj4 (by assumption)) | exact Nat.ne_of_gt (cj4 (by assumption)) | exact cj5 (by assumption) | exact Ne.symm (cj5 (by assumption)) | exact Nat.ne_of_lt (cj5 (by assumption)) | exact Nat.ne_of_gt (cj5 (by assumption)) | exact cj6 (by assumption) | exact Ne.symm (cj6 (by assumption)) | exact Nat.ne_of_lt (cj6 (by assumption)) | exact Nat.ne_of_gt (cj6 (by assumption)) | exact cj7 (by assumption) | exact Ne.symm (cj7 (by assumption)) | exact Nat.ne_of_lt (cj7 (by assumption)) | exact Nat.ne_of_gt (cj7 (by assumption)) | exact cj8 (by assumption) | exact Ne.symm (cj8 (by assumption)) | exact Nat.ne_of_lt (cj8 (by assumption)) | exact Nat.ne_of_gt (cj8 (by assumption)) | exact cj9 (by assumption) | exact Ne.symm (cj9 (by assumption)) | exact Nat.ne_of_lt (cj9 (by assumption)) | exact Nat.ne_of_gt (cj9 (by assumption)) | exact ej5 (by assumption) | exact Ne.symm (ej5 (by assumption)) | exact Nat.ne_of_lt (ej5 (by assumption)) | exact Nat.ne_of_gt (ej5 (by assumption)) | exact ej6 (by assumption) | exact Ne.symm (ej6 (by assumption)) | exact Nat.ne_of_lt (ej6 (by assumption)) | exact Nat.ne_of_gt (ej6 (by assumption)) | exact ej7 (by assumption) | exact Ne.symm (ej7 (by assumption)) | exact Nat.ne_of_lt (ej7 (by assumption)) | exact Nat.ne_of_gt (ej7 (by assumption)) | exact ej8 (by assumption) | exact Ne.symm (ej8 (by assumption)) | exact Nat.ne_of_lt (ej8 (by assumption)) | exact Nat.ne_of_gt (ej8 (by assumption)) | exact ej9 (by assumption) | exact Ne.symm (ej9 (by assumption)) | exact Nat.ne_of_lt (ej9 (by assumption)) | exact Nat.ne_of_gt (ej9 (by assumption)))
    k_with "binaryOp RShift int int" => (k_here; (with_reducible refine shr1 ?_))
    k_with "binaryOp Mod int int" => (k_here; (with_reducible refine mod_pos ?k1 ?_); (case k1 => decide))
    k_with "binaryOp FloorDiv int int" => (k_here; (with_reducible refine fdiv_pos ?k1 ?k2 ?_); (case k1 => decide); (case k2 => decide +kernel))
    k_with "execs cons" => (k_here; first | (k_made; walk_at "execs cons") | k_gentoks | ((with_reducible refine wpAny_execs_cons ?_); (try dsimp only); (try k_fold)))
    k_with "idx" => (first | with_reducible assumption | (first | lia | omega))
    k_with "upd" => (first | (refine' Pick.head ?a; (case a => k_all)) | (refine' Pick.tail ?a ?b; (case a => k_ne); (case b => k_upd)))
    k_with "exec For Tuple Name cons nil" => (k_here; (with_unfolding_all refine' For_turns (by k_asm) ?_; k_whole))
    k_with "eval ListComp" => (k_here; (with_reducible show wpAny _ _ (eval (PySem.Expr.ListComp _ [⟨PySem.Expr.Name _ _, _, [], 0⟩] _ _) _) _ _ _); k_dflt (refine LCg.ListComp_U (F₀ := by k_asm) (by with_unfolding_all rfl) (by decide) (by rfl) (by decide) (by rfl) ?_))
    k_with "call ref" => refine held ?_
    k_with "CompSrc" => refine held ?_
    k_steps
    refine Held.out ?_
    unfold Held
    k_dflt (refine' filemode_tells ?B ?F ?X ?N ?T ?hk ?hdp ?hun ?_; (case B => k_asm); (case F => k_asm); (case X => k_asm); (case N => k_asm); (case T => k_asm); (case hk => exact rfl); (case hdp => (first | exact unL2 (by assumption) rfl | exact unL1 (by assumption) rfl | exact unL0 (by assumption) | ktr_room)); (case hun => (first | exact unL2 (by assumption) rfl | exact unL1 (by assumption) rfl | exact unL0 (by assumption) | ktr_units)))
    intro h5 tk5 t5 y F5 N5 hy hyl
    have q1 : 0 ≤ 1 + 3 * g := by (first | lia | omega)
    have q2 : 0 ≤ 4 + 3 * g := by (first | lia | omega)
    k_steps
    refine Held.out ?_
    unfold Held
    rename Fr _ _ _ _ => F6
    rename News _ _ _ _ => N6
    rename_i o6 d6n
    have hsg : Txt.slice y (some (1 + 3 * g)) (some (4 + 3 * g)) = sgnF g q.2 := by rw [hy]; rfl
    rw [hsg] at d6n
    have hxl := hix.length
    have hsz : vx.toArray.size = xs.length := by simp [hxl]
    refine LCg.CompSrc.ledger rfl F6 N6 (mem2 (led6_in hlx)) (by rw [hsz, sizeLine_eq]; (first | lia | omega)) ?_
    intro g2
    refine rest_U (J_for2 L o6 c5 c4 c3 c2 c1 tl ai I oI q u1 u2 n' xs g r) ?t2 ?d2 ⟨rfl, .nil⟩
    case t2 =>
      intro j v ys nx J2 oJ C oC D m₂ h7 tk7 E' hj hP hJ hC hx F7 N7 off ne
      refine' hid fun kG_ => ?_
      obtain ⟨rfl, hys⟩ := hJ
      refine' kG_ ?_
      clear kG_
      rw [hsz] at hj
      have hPv : vx[j]? = some v := by simpa using hP
      refine' hid fun kG_ => ?_
      obtain ⟨z, tz, rfl, hkj⟩ := strs_at hix j v hPv
      obtain ⟨z1, z2⟩ := hxs z (List.mem_of_getElem? hkj)
      refine' kG_ ?_
      clear kG_
      clear F6 N6
      k_with_none
      k_with "ne" => (refine neN ?_; (try dsimp only); with_reducible first | assumption | exact Ne.symm (by assumption) | exact ne1 | exact ne1.symm | exact ne2 | exact ne2.symm | exact ne3 | exact ne3.symm | exact ne4 | exact ne4.symm | exact ne5 | exact ne5.symm | exact nl1 (by assumption) | exact nl2 (by assumption) | exact nl3 (by assumption) | exact (nl1 (by assumption)).symm | exact (nl2 (by assumption)).symm | exact (nl3 (by assumption)).symm | exact Nat.ne_of_lt (by assumption) | exact Nat.ne_of_gt (by assumption) | exact cj1 (by assumption) | exact Ne.symm (cj1 (by assumption)) | exact Nat.ne_of_lt (cj1 (by assumption)) | exact Nat.ne_of_gt (cj1 (by assumption)) | exact cj2 (by assumption) | exact Ne.symm (cj2 (by assumption)) | exact Nat.ne_of_lt (cj2 (by assumption)) | exact Nat.ne_of_gt (cj2 (by assumption)) | exact cj3 (by assumption) | exact Ne.symm (cj3 (by assumption)) | exact Nat.ne_of_lt (cj3 (by assumption)) | exact Nat.ne_of_gt (cj3 (by assumption)) | exact cj4 (by assumption) | exact Ne.symm (cj4 (by assumption)) | exact Nat.ne_of_lt (cj4 (by assumption)) | exact Nat.ne_of_gt (cj4 (by assumption)) | exact cj5 (by assumption) | exact Ne.symm (cj5 (by assumption)) | exact Nat.ne_of_lt (cj5 (by assumption)) | exact Nat.ne_of_gt (cj5 (by assumption)) | exact cj6 (by assumption) | exact Ne.symm (cj6 (by assumption)) | exact Nat.ne_of_lt (cj6 (by assumption)) | exact Nat.ne_of_gt (cj6 (by assumption)) | exact cj7 (by assumption) | exact Ne.symm (cj7 (by assumption)) | exact Nat.ne_of_lt (cj7 (by assumption)) | exact Nat.ne_of_gt (cj7 (by assumption)) | exact cj8 (by assumption) | exact Ne.symm (cj8 (by assumption)) | exact Nat.ne_of_lt (cj8 (by assumption)) | exact Nat.ne_of_gt (cj8 (by assumption)) | exact cj9 (by assumption) | exact Ne.symm (cj9 (by assumption)) | exact Nat.ne_of_lt (cj9 (by assumption)) | exact Nat.ne_of_gt (cj9 (by assumption)) | exact ej5 (by assumption) | exact Ne.symm (ej5 (by assumption)) | exact Nat.ne_of_lt (ej5 (by assumption)) | exact Nat.ne_of_gt (ej5 (by assumption)) | exact ej6 (by assumption) | exact Ne.symm (ej6 (by assumption)) | exact Nat.ne_of_lt (ej6 (by assumption)) | exact Nat.ne_of_gt (ej6 (by assumption)) | exact ej7 (by assumption) | exact Ne.symm (ej7 (by assumption)) | exact Nat.ne_of_lt (ej7 (by assumption)) | exact Nat.ne_of_gt (ej7 (by assumption)) | exact ej8 (by assumption) | exact Ne.symm (ej8 (by assumption)) | exact Nat.ne_of_lt (ej8 (by assumption)) | exact Nat.ne_of_gt (ej8 (by assumption)) | exact ej9 (by assumption) | exact Ne.symm (ej9 (by assumption)) | exact Nat.ne_of_lt (ej9 (by assumption)) | exact Nat.ne_of_gt (ej9 (by assumption)))
      k_with "binaryOp RShift int int" => (k_here; (with_reducible refine shr1 ?_))
      k_with "binaryOp Mod int int" => (k_here; (with_reducible refine mod_pos ?k1 ?_); (case k1 => decide))
      k_with "binaryOp FloorDiv int int" => (k_here; (with_reducible refine fdiv_pos ?k1 ?k2 ?_); (case k1 => decide); (case k2 => decide +kernel))
      k_with "execs cons" => (k_here; first | (k_made; walk_at "execs cons") | k_gentoks | ((with_reducible refine wpAny_execs_cons ?_); (try dsimp only); (try k_fold)))
      k_with "idx" => (first | with_reducible assumption | (first | lia | omega))
      k_with "upd" => (first | (refine' Pick.head ?a; (case a => k_all)) | (refine' Pick.tail ?a ?b; (case a => k_ne); (case b => k_upd)))
      k_with "exec For Tuple Name cons nil" => (k_here; (with_unfolding_all refine' For_turns (by k_asm) ?_; k_whole))
      k_with "eval ListComp" => (k_here; (with_reducible show wpAny _ _ (eval (PySem.Expr.ListComp _ [⟨PySem.Expr.Name _ _, _, [], 0⟩] _ _) _) _ _ _); k_dflt (refine LCg.ListComp_U (F₀ := by k_asm) (by with_unfolding_all rfl) (by decide) (by rfl) (by decide) (by rfl) ?_))
      k_with "call ref" => refine held ?_
      k_steps
      refine Held.out ?_
      unfold Held
      k_dflt (refine' apart_tells ?B ?F ?X ?N ?T ?hk ?hx ?hy ?h1 ?h2 ?hdp ?hun ?_; (case B => k_asm); (case F => k_asm); (case X => k_asm); (case N => k_asm); (case T => k_asm); (case hk => exact rfl); (case hx => exact s1); (case hy => exact z1); (case h1 => exact s2); (case h2 => exact z2); (case hdp => (first | exact unL2 (by assumption) rfl | exact unL1 (by assumption) rfl | exact unL0 (by assumption) | ktr_room)); (case hun => (first | exact unL2 (by assumption) rfl | exact unL1 (by assumption) rfl | exact unL0 (by assumption) | ktr_units)))
      intro h8 tk8 t8 v8 F8 N8 hv8
      subst hv8
      refine UEnd.intro F8 N8 _ (fun p hp => hp) off (Or.inr ⟨_, mem2 (led6_in hlx), rfl, _, rfl⟩) ⟨rfl, ?_⟩
      rw [take_snoc _ hkj]
      exact IntsAre.append hys (.cons _ _ .nil)
    case d2 =>
      intro ys nx hJ
      refine' hid fun kG_ => ?_
      obtain ⟨rfl, hys⟩ := hJ
      refine' kG_ ?_
      clear kG_
      rw [hsz, List.take_length] at hys
      intro D h7 tk7 F7 N7 off
      clear F6 N6
      k_with_none
      k_with "ne" => (refine neN ?_; (try dsimp only); with_reducible first | assumption | exact Ne.symm (by assumption) | exact ne1 | exact ne1.symm | exact ne2 | exact ne2.symm | exact ne3 | exact ne3.symm | exact ne4 | exact ne4.symm | exact ne5 | exact ne5.symm | exact nl1 (by assumption) | exact nl2 (by assumption) | exact nl3 (by assumption) | exact (nl1 (by assumption)).symm | exact (nl2 (by assumption)).symm | exact (nl3 (by assumption)).symm | exact Nat.ne_of_lt (by assumption) | exact Nat.ne_of_gt (by assumption) | exact cj1 (by assumption) | exact Ne.symm (cj1 (by assumption)) | exact Nat.ne_of_lt (cj1 (by assumption)) | exact Nat.ne_of_gt (cj1 (by assumption)) | exact cj2 (by assumption) | exact Ne.symm (cj2 (by assumption)) | exact Nat.ne_of_lt (cj2 (by assumption)) | exact Nat.ne_of_gt (cj2 (by assumption)) | exact cj3 (by assumption) | exact Ne.symm (cj3 (by assumption)) | exact Nat.ne_of_lt (cj3 (by assumption)) | exact Nat.ne_of_gt (cj3 (by assumption)) | exact cj4 (by assumption) | exact Ne.symm (cj4 (by assumption)) | exact Nat.ne_of_lt (cj4 (by assumption)) | exact Nat.ne_of_gt (cj4 (by assumption)) | exact cj5 (by assumption) | exact Ne.symm (cj5 (by assumption)) | exact Nat.ne_of_lt (cj5 (by assumption)) | exact Nat.ne_of_gt (cj5 (by assumption)) | exact cj6 (by assumption) | exact Ne.symm (cj6 (by assumption)) | exact Nat.ne_of_lt (cj6 (by assumption)) | exact Nat.ne_of_gt (cj6 (by assumption)) | exact cj7 (by assumption) | exact Ne.symm (cj7 (by assumption)) | exact Nat.ne_of_lt (cj7 (by assumption)) | exact Nat.ne_of_gt (cj7 (by assumption)) | exact cj8 (by assumption) | exact Ne.symm (cj8 (by assumption)) | exact Nat.ne_of_lt (cj8 (by assumption)) | exact Nat.ne_of_gt (cj8 (by assumption)) | exact cj9 (by assumption) | exact Ne.symm (cj9 (by assumption)) | exact Nat.ne_of_lt (cj9 (by assumption)) | exact Nat.ne_of_gt (cj9 (by assumption)) | exact ej5 (by assumption) | exact Ne.symm (ej5 (by assumption)) | exact Nat.ne_of_lt (ej5 (by assumption)) | exact Nat.ne_of_gt (ej5 (by assumption)) | exact ej6 (by assumption) | exact Ne.symm (ej6 (by assumption)) | exact Nat.ne_of_lt (ej6 (by assumption)) | exact Nat.ne_of_gt (ej6 (by assumption)) | exact ej7 (by assumption) | exact Ne.symm (ej7 (by assumption)) | exact Nat.ne_of_lt (ej7 (by assumption)) | exact Nat.ne_of_gt (ej7 (by assumption)) | exact ej8 (by assumption) | exact Ne.symm (ej8 (by assumption)) | exact Nat.ne_of_lt (ej8 (by assumption)) | exact Nat.ne_of_gt (ej8 (by assumption)) | exact ej9 (by assumption) | exact Ne.symm (ej9 (by assumption)) | exact Nat.ne_of_lt (ej9 (by assumption)) | exact Nat.ne_of_gt (ej9 (by assumption)))
      k_with "binaryOp RShift int int" => (k_here; (with_reducible refine shr1 ?_))
      k_with "binaryOp Mod int int" => (k_here; (with_reducible refine mod_pos ?k1 ?_); (case k1 => decide))
      k_with "binaryOp FloorDiv int int" => (k_here; (with_reducible refine fdiv_pos ?k1 ?k2 ?_); (case k1 => decide); (case k2 => decide +kernel))
      k_with "execs cons" => (k_here; first | (k_made; walk_at "execs cons") | k_gentoks | ((with_reducible refine wpAny_execs_cons ?_); (try dsimp only); (try k_fold)))
      k_with "idx" => (first | with_reducible assumption | (first | lia | omega))
      k_with "upd" => (first | (refine' Pick.head ?a; (case a => k_all)) | (refine' Pick.tail ?a ?b; (case a => k_ne); (case b => k_upd)))
      k_with "exec For Tuple Name cons nil" => (k_here; (with_unfolding_all refine' For_turns (by k_asm) ?_; k_whole))
      k_with "eval ListComp" => (k_here; (with_reducible show wpAny _ _ (eval (PySem.Expr.ListComp _ [⟨PySem.Expr.Name _ _, _, [], 0⟩] _ _) _) _ _ _); k_dflt (refine LCg.ListComp_U (F₀ := by k_asm) (by with_unfolding_all rfl) (by decide) (by rfl) (by decide) (by rfl) ?_))
      k_with "subscriptTail Name Constant ref int" => refine held ?_
      k_steps
      · exact absurd s3 (by assumption)
      · refine Held.out ?_
        unfold Held
        refine ksa_sub (by k_asm) (mem3 (led6_in hlw)) hiw (by decide) (by (first | lia | omega)) (by decide) ?_
        intro tw
        k_steps
        · rename (_ != _) = true => hne
          have hlo9 : Builtin.bitAnd q.2 lo = lo := by assumption
          exact (eq_nope (fun h => (s4.mp h).2) (fun h => s4.mpr ⟨hlo9, h⟩) hne).elim
        · dsimp only
          rename News _ _ _ _ => N9
          exact TurnEnd.intro (nx := led6 L o6 c5 c4 c3 c2 c1 tl) (by k_asm) N9 (fun p hp => mem2 hp) (led6_off hoff) ⟨⟨o6, _, rfl, d6n⟩, rfl, rfl, rfl, rfl, rfl, trivial⟩
      · refine Held.out ?_
        unfold Held
        refine ksa_sub (by k_asm) (mem3 (led6_in hlw)) hiw (by decide) (by (first | lia | omega)) (by decide) ?_
        intro tw
        k_steps
        · rename (_ != _) = true => hne
          have hlo9 : Builtin.bitAnd q.2 lo ≠ lo := by assumption
          exact (eq_nope (fun h => (s4.mp h).1) (fun h => absurd h hlo9) hne).elim
        · dsimp only
          rename News _ _ _ _ => N9
          exact TurnEnd.intro (nx := led6 L o6 c5 c4 c3 c2 c1 tl) (by k_asm) N9 (fun p hp => mem2 hp) (led6_off hoff) ⟨⟨o6, _, rfl, d6n⟩, rfl, rfl, rfl, rfl, rfl, trivial⟩
  case done =>
    intro m₁ nx h3 tk3 hJ F3 N3
    refine' hid fun kG_ => ?_
    obtain ⟨⟨c6', v6', rfl, d6'⟩, hkn⟩ := hJ
    refine' kG_ ?_
    clear kG_
    exact WEnd.intro F3 N3 (fun p hp => hp) ⟨c6', v6', rfl, d6'⟩
end

end
section
/-! the plain law: masks over the four bits -/
noncomputable def phi (g : Int) (x : Nat) : Int := (if x.testBit 0 then (pw g).getD 0 0 else 0) + (if x.testBit 1 then (pw g).getD 1 0 else 0) + (if x.testBit 2 then (pw g).getD 2 0 else 0) + (if x.testBit 3 then (pw g).getD 3 0 else 0)
theorem g3 {g : Int} (h0 : 0 ≤ g) (h3 : g < 3) : g = 0 ∨ g = 1 ∨ g = 2 := by (first | lia | omega)
theorem phi_xor_lt {g : Int} (h0 : 0 ≤ g) (h3 : g < 3) {x y : Nat} (hx : x < 16) (hy : y < 16) : bx (phi g x) (phi g y) = phi g (x ^^^ y) := by
  rcases g3 h0 h3 with rfl | rfl | rfl
  · exact (by decide +kernel : ∀ x y : Fin 16, bx (phi 0 x.val) (phi 0 y.val) = phi 0 (x.val ^^^ y.val)) ⟨x, hx⟩ ⟨y, hy⟩
  · exact (by decide +kernel : ∀ x y : Fin 16, bx (phi 1 x.val) (phi 1 y.val) = phi 1 (x.val ^^^ y.val)) ⟨x, hx⟩ ⟨y, hy⟩
  · exact (by decide +kernel : ∀ x y : Fin 16, bx (phi 2 x.val) (phi 2 y.val) = phi 2 (x.val ^^^ y.val)) ⟨x, hx⟩ ⟨y, hy⟩
theorem phi_and {g : Int} (h0 : 0 ≤ g) (h3 : g < 3) {x y : Nat} (hx : x < 16) (hy : y < 16) : Builtin.bitAnd (phi g x) (phi g y) = phi g (x &&& y) := by
  rcases g3 h0 h3 with rfl | rfl | rfl
  · exact (by decide +kernel : ∀ x y : Fin 16, Builtin.bitAnd (phi 0 x.val) (phi 0 y.val) = phi 0 (x.val &&& y.val)) ⟨x, hx⟩ ⟨y, hy⟩
  · exact (by decide +kernel : ∀ x y : Fin 16, Builtin.bitAnd (phi 1 x.val) (phi 1 y.val) = phi 1 (x.val &&& y.val)) ⟨x, hx⟩ ⟨y, hy⟩
  · exact (by decide +kernel : ∀ x y : Fin 16, Builtin.bitAnd (phi 2 x.val) (phi 2 y.val) = phi 2 (x.val &&& y.val)) ⟨x, hx⟩ ⟨y, hy⟩
theorem phi_inj {g : Int} (h0 : 0 ≤ g) (h3 : g < 3) {x y : Nat} (hx : x < 16) (hy : y < 16) (h : phi g x = phi g y) : x = y := by
  rcases g3 h0 h3 with rfl | rfl | rfl
  · exact (by decide +kernel : ∀ x y : Fin 16, phi 0 x.val = phi 0 y.val → x.val = y.val) ⟨x, hx⟩ ⟨y, hy⟩ h
  · exact (by decide +kernel : ∀ x y : Fin 16, phi 1 x.val = phi 1 y.val → x.val = y.val) ⟨x, hx⟩ ⟨y, hy⟩ h
  · exact (by decide +kernel : ∀ x y : Fin 16, phi 2 x.val = phi 2 y.val → x.val = y.val) ⟨x, hx⟩ ⟨y, hy⟩ h
theorem phi_bd {g : Int} (h0 : 0 ≤ g) (h3 : g < 3) {x : Nat} (hx : x < 16) : 0 ≤ phi g x ∧ phi g x < 65536 := by
  rcases g3 h0 h3 with rfl | rfl | rfl
  · exact (by decide +kernel : ∀ x : Fin 16, 0 ≤ phi 0 x.val ∧ phi 0 x.val < 65536) ⟨x, hx⟩
  · exact (by decide +kernel : ∀ x : Fin 16, 0 ≤ phi 1 x.val ∧ phi 1 x.val < 65536) ⟨x, hx⟩
  · exact (by decide +kernel : ∀ x : Fin 16, 0 ≤ phi 2 x.val ∧ phi 2 x.val < 65536) ⟨x, hx⟩
theorem phi_mod (g : Int) (x : Nat) : phi g (x % 16) = phi g x := by
  have e : ∀ k, k < 4 → (x % 16).testBit k = x.testBit k := fun k hk => by
    rw [show (16 : Nat) = 2 ^ 4 from rfl, Nat.testBit_mod_two_pow]; simp [hk]
  unfold phi
  rw [e 0 (by decide), e 1 (by decide), e 2 (by decide), e 3 (by decide)]
theorem phi_xor {g : Int} (h0 : 0 ≤ g) (h3 : g < 3) (x y : Nat) : bx (phi g x) (phi g y) = phi g (x ^^^ y) := by
  rw [← phi_mod g x, ← phi_mod g y, phi_xor_lt h0 h3 (Nat.mod_lt _ (by decide)) (Nat.mod_lt _ (by decide)), ← phi_mod g (x ^^^ y)]
  congr 1
  exact (Nat.xor_mod_two_pow (n := 4)).symm
theorem phi_pow {g : Int} {k : Nat} (hk : k < 4) : phi g (2 ^ k) = (pw g).getD k 0 := by
  refine four (P := fun k => phi g (2 ^ k) = (pw g).getD k 0) ?_ ?_ ?_ ?_ k hk
  · simp [phi, show (1 : Nat).testBit 0 = true from rfl, show (1 : Nat).testBit 1 = false from rfl, show (1 : Nat).testBit 2 = false from rfl, show (1 : Nat).testBit 3 = false from rfl]
  · simp [phi, show (2 : Nat).testBit 0 = false from rfl, show (2 : Nat).testBit 1 = true from rfl, show (2 : Nat).testBit 2 = false from rfl, show (2 : Nat).testBit 3 = false from rfl]
  · simp [phi, show (4 : Nat).testBit 0 = false from rfl, show (4 : Nat).testBit 1 = false from rfl, show (4 : Nat).testBit 2 = true from rfl, show (4 : Nat).testBit 3 = false from rfl]
  · simp [phi, show (8 : Nat).testBit 0 = false from rfl, show (8 : Nat).testBit 1 = false from rfl, show (8 : Nat).testBit 2 = false from rfl, show (8 : Nat).testBit 3 = true from rfl]
/-- a mask from its four bits -/
noncomputable def mk4 (b : Nat → Bool) : Nat := (b 0).toNat + 2 * (b 1).toNat + 4 * (b 2).toNat + 8 * (b 3).toNat
theorem mk4_lt4 : ∀ b0 b1 b2 b3 : Bool, b0.toNat + 2 * b1.toNat + 4 * b2.toNat + 8 * b3.toNat < 16 := by decide +kernel
theorem mk4_lt (b : Nat → Bool) : mk4 b < 16 := mk4_lt4 _ _ _ _
theorem mk4_all : ∀ b0 b1 b2 b3 : Bool, ((b0.toNat + 2 * b1.toNat + 4 * b2.toNat + 8 * b3.toNat).testBit 0 = b0 ∧ (b0.toNat + 2 * b1.toNat + 4 * b2.toNat + 8 * b3.toNat).testBit 1 = b1) ∧ (b0.toNat + 2 * b1.toNat + 4 * b2.toNat + 8 * b3.toNat).testBit 2 = b2 ∧ (b0.toNat + 2 * b1.toNat + 4 * b2.toNat + 8 * b3.toNat).testBit 3 = b3 := by decide +kernel
theorem mk4_bit (b : Nat → Bool) {k : Nat} (hk : k < 4) : (mk4 b).testBit k = b k := by
  have h := mk4_all (b 0) (b 1) (b 2) (b 3)
  exact four (P := fun k => (mk4 b).testBit k = b k) h.1.1 h.1.2 h.2.1 h.2.2 k hk
/-- all subsets, on masks -/
noncomputable def MP (g : Int) (q : Int × Nat) : Int × Int := (q.1, phi g q.2)
noncomputable def pset : List (Int × Nat) → Int → Nat → List (Int × Nat)
  | [], w, x => [(w, x)]
  | q :: r, w, x => pset r w x ++ pset r (w + q.1) (x ^^^ q.2)
theorem xor_swap (a b c : Nat) : a ^^^ b ^^^ c = a ^^^ c ^^^ b := by rw [Nat.xor_assoc, Nat.xor_comm b c, Nat.xor_assoc]
theorem pset_perm {l l' : List (Int × Nat)} (h : l.Perm l') : ∀ w x, (pset l w x).Perm (pset l' w x) := by
  induction h with
  | nil => exact fun _ _ => .refl _
  | cons q _ ih => exact fun w x => (ih w x).append (ih _ _)
  | swap p q r =>
    intro w x
    simp only [pset]
    rw [show w + q.1 + p.1 = w + p.1 + q.1 by (first | lia | omega), xor_swap x q.2 p.2, List.append_assoc, List.append_assoc]
    refine List.Perm.append_left _ ?_
    rw [← List.append_assoc, ← List.append_assoc]
    exact List.Perm.append_right _ List.perm_append_comm
  | trans _ _ h1 h2 => exact fun w x => (h1 w x).trans (h2 w x)
/-- the tree that the heap walks: each node turns one more, or that one instead -/
noncomputable def treeT : List (Int × Nat) → Int → Nat → List (Int × Nat)
  | [], _, _ => []
  | q :: r, w, x => (w + q.1, x ^^^ q.2) :: (treeT r (w + q.1) (x ^^^ q.2) ++ treeT r w x)
theorem tree_pset : ∀ (r : List (Int × Nat)) (w : Int) (x : Nat), ((w, x) :: treeT r w x).Perm (pset r w x)
  | [], _, _ => .refl _
  | q :: r, w, x => List.Perm.trans (List.Perm.cons _ (List.perm_append_comm (l₁ := (w + q.1, x ^^^ q.2) :: treeT r (w + q.1) (x ^^^ q.2)) (l₂ := treeT r w x))) ((tree_pset r w x).append (tree_pset r _ _))
theorem xor_dr (x y : Nat) : x ^^^ y ^^^ y = x := by rw [Nat.xor_assoc, Nat.xor_self, Nat.xor_zero]
theorem at_map {g : Int} {tn : List (Int × Nat)} {i : Nat} {q : Int × Nat} (h : tn[i]? = some q) : cT (tn.map (MP g)) i = q.1 ∧ pT (tn.map (MP g)) i = phi g q.2 := by
  unfold cT pT
  rw [List.getD, List.getElem?_map, h]
  exact ⟨rfl, rfl⟩
theorem drop_at {α : Type} {l r : List α} {i : Nat} {q : α} (h : l.drop i = q :: r) : l[i]? = some q ∧ l.drop (i + 1) = r := by
  refine ⟨?_, ?_⟩
  · have e := List.getElem?_drop (xs := l) (i := i) (j := 0)
    rw [h] at e
    exact e.symm
  · rw [← List.drop_drop, h]
    rfl
theorem sub_tree {g : Int} (h0 : 0 ≤ g) (h3 : g < 3) (tn : List (Int × Nat)) : ∀ (d : Nat) (w : Int) (x : Nat) (q : Int × Nat) (r : List (Int × Nat)), d ≤ 3 → tn.drop (3 - d) = q :: r → r.length = d →
    sub (tn.map (MP g)) d (w + q.1) (phi g (x ^^^ q.2)) = ((w + q.1, x ^^^ q.2) :: (treeT r (w + q.1) (x ^^^ q.2) ++ treeT r w x)).map (MP g)
  | 0, w, x, q, [], _, _, _ => rfl
  | d + 1, w, x, q, q2 :: r, hd, hq, hr => by
    refine' hid fun kG_ => ?_
    obtain ⟨k, hk⟩ : ∃ k, 2 - d = k := ⟨_, rfl⟩
    refine' kG_ ?_
    clear kG_
    have e1 : 3 - (d + 1) = k := by (first | lia | omega)
    have e2 : 3 - d = k + 1 := by (first | lia | omega)
    rw [e1] at hq
    refine' hid fun kG_ => ?_
    obtain ⟨a1, a2⟩ := drop_at hq
    obtain ⟨b1, b2⟩ := drop_at a2
    obtain ⟨c1, c2⟩ := at_map (g := g) a1
    obtain ⟨c3, c4⟩ := at_map (g := g) b1
    refine' kG_ ?_
    clear kG_
    have hl : r.length = d := Nat.succ.inj hr
    have i1 := sub_tree h0 h3 tn d (w + q.1) (x ^^^ q.2) q2 r (Nat.le_of_succ_le hd) (e2 ▸ a2) hl
    have i2 := sub_tree h0 h3 tn d w x q2 r (Nat.le_of_succ_le hd) (e2 ▸ a2) hl
    simp only [sub]
    rw [e2, hk, c1, c2, c3, c4, phi_xor h0 h3, phi_xor h0 h3, phi_xor h0 h3, xor_dr, show w + q.1 + q2.1 - q.1 = w + q2.1 by (first | lia | omega), i1, i2, ← List.map_append]
    rfl
theorem all_pset {g : Int} (h0 : 0 ≤ g) (h3 : g < 3) {tn : List (Int × Nat)} (h4 : tn.length = 4) (le : Int) (lo : Nat) : (allSub (tn.map (MP g)) le (phi g lo)).Perm ((pset tn le lo).map (MP g)) := by
  match tn, h4 with
  | q :: r, h4 =>
    refine' hid fun kG_ => ?_
    obtain ⟨c1, c2⟩ := at_map (g := g) (tn := q :: r) (i := 0) rfl
    refine' kG_ ?_
    clear kG_
    have e := sub_tree h0 h3 (q :: r) 3 le lo q r (Nat.le_refl _) rfl (Nat.succ.inj h4)
    rw [allSub, c1, c2, phi_xor h0 h3, e]
    exact (tree_pset (q :: r) le lo).map (MP g)
theorem perm_ex {α β : Type} {f : α → β} {l' m : List β} (h : l'.Perm m) : ∀ l : List α, m = l.map f → ∃ k : List α, l' = k.map f ∧ k.Perm l := by
  induction h with
  | nil => intro l e; cases l with
    | nil => exact ⟨[], rfl, .refl _⟩
    | cons _ _ => cases e
  | cons x _ ih => intro l e; cases l with
    | nil => cases e
    | cons y r =>
      simp only [List.map_cons, List.cons.injEq] at e
      refine' hid fun kG_ => ?_
      obtain ⟨k, e1, e2⟩ := ih r e.2
      refine' kG_ ?_
      clear kG_
      exact ⟨y :: k, by rw [List.map_cons, e1, e.1], e2.cons _⟩
  | swap x y r => intro l e; match l, e with
    | a :: b :: l, e =>
      simp only [List.map_cons, List.cons.injEq] at e
      exact ⟨b :: a :: l, by simp [e.1, e.2.1, e.2.2], .swap ..⟩
  | trans _ _ h1 h2 => intro l e; obtain ⟨k, e1, e2⟩ := h2 l e; obtain ⟨k', e3, e4⟩ := h1 k e1; exact ⟨k', e3, e4.trans e2⟩
/-! the plain law: each turn of the last for -/
noncomputable def sK (g : Int) (md : List Int) (k : Nat) : Int := (colF g md k).sum
noncomputable def valK (g : Int) (md : List Int) (k : Nat) (b : Bool) : Int := if b then (md.length : Int) - sK g md k else sK g md k
noncomputable def val (g : Int) (md : List Int) (x : Nat) : Int := valK g md 0 (x.testBit 0) + valK g md 1 (x.testBit 1) + valK g md 2 (x.testBit 2) + valK g md 3 (x.testBit 3)
noncomputable def lowB (g : Int) (md : List Int) (k : Nat) : Bool := decide (¬ 2 * sK g md k ≤ (md.length : Int))
noncomputable def upB (g : Int) (md : List Int) (k : Nat) : Bool := decide (¬ 2 * sK g md k < (md.length : Int))
noncomputable def lowM (g : Int) (md : List Int) : Nat := mk4 (lowB g md)
noncomputable def upM (g : Int) (md : List Int) : Nat := mk4 (upB g md)
noncomputable def loV (g : Int) (md : List Int) : Int := ((List.range 4).map fun k => (pw g).getD k 0 * lowF (colF g md k)).sum
noncomputable def upV (g : Int) (md : List Int) : Int := ((List.range 4).map fun k => (pw g).getD k 0 * upF (colF g md k)).sum
noncomputable def leV (g : Int) (md : List Int) : Int := ((List.range 4).map fun k => minF (colF g md k).sum ((md.length : Int) - (colF g md k).sum)).sum
noncomputable def costN (g : Int) (md : List Int) : List (Int × Nat) := (List.range 4).map fun k => (absI ((md.length : Int) - 2 * (colF g md k).sum), 2 ^ k)
theorem cost_map (g : Int) (md : List Int) : costF g md = (costN g md).map (MP g) := by
  unfold costF costN
  rw [List.map_map]
  refine List.map_congr_left fun k hk => ?_
  simp only [Function.comp, MP]
  rw [phi_pow (List.mem_range.mp hk)]
theorem low_bit {g : Int} {md : List Int} {k : Nat} (hk : k < 4) : lowF (colF g md k) = if lowB g md k then 1 else 0 := by
  unfold lowF lowB
  rw [col_len hk]
  show (if 2 * sK g md k ≤ (md.length : Int) then (0 : Int) else 1) = _
  by_cases h : 2 * sK g md k ≤ (md.length : Int)
  · rw [if_pos h]; simp [h]
  · rw [if_neg h]; simp [h]
theorem up_bit {g : Int} {md : List Int} {k : Nat} (hk : k < 4) : upF (colF g md k) = if upB g md k then 1 else 0 := by
  unfold upF upB
  rw [col_len hk]
  show (if 2 * sK g md k < (md.length : Int) then (0 : Int) else 1) = _
  by_cases h : 2 * sK g md k < (md.length : Int)
  · rw [if_pos h]; simp [h]
  · rw [if_neg h]; simp [h]
theorem mul_bit (p : Int) (b : Bool) : p * (if b then 1 else 0) = if b then p else 0 := by cases b <;> simp
theorem lo_phi (g : Int) (md : List Int) : loV g md = phi g (lowM g md) := by
  unfold loV phi lowM
  rw [mk4_bit _ (by decide), mk4_bit _ (by decide), mk4_bit _ (by decide), mk4_bit _ (by decide)]
  simp only [show List.range 4 = [0, 1, 2, 3] from rfl, List.map_cons, List.map_nil, List.sum_cons, List.sum_nil]
  rw [low_bit (by decide), low_bit (by decide), low_bit (by decide), low_bit (by decide), mul_bit, mul_bit, mul_bit, mul_bit]
  (first | lia | omega)
theorem up_phi (g : Int) (md : List Int) : upV g md = phi g (upM g md) := by
  unfold upV phi upM
  rw [mk4_bit _ (by decide), mk4_bit _ (by decide), mk4_bit _ (by decide), mk4_bit _ (by decide)]
  simp only [show List.range 4 = [0, 1, 2, 3] from rfl, List.map_cons, List.map_nil, List.sum_cons, List.sum_nil]
  rw [up_bit (by decide), up_bit (by decide), up_bit (by decide), up_bit (by decide), mul_bit, mul_bit, mul_bit, mul_bit]
  (first | lia | omega)
noncomputable def costK (g : Int) (md : List Int) (k : Nat) : Int := absI ((md.length : Int) - 2 * sK g md k)
theorem val_low {g : Int} {md : List Int} (k : Nat) : valK g md k (lowB g md k) = minF (sK g md k) ((md.length : Int) - sK g md k) := by
  unfold valK lowB minF
  by_cases h : 2 * sK g md k ≤ (md.length : Int)
  · rw [if_neg (by (first | lia | omega) : ¬ (md.length : Int) - sK g md k < sK g md k)]; simp [h]
  · rw [if_pos (by (first | lia | omega) : (md.length : Int) - sK g md k < sK g md k)]; simp [h]
theorem val_turn {g : Int} {md : List Int} (k : Nat) : valK g md k (!lowB g md k) = valK g md k (lowB g md k) + costK g md k := by
  unfold valK lowB costK absI
  by_cases h : 2 * sK g md k ≤ (md.length : Int)
  · rw [if_neg (by (first | lia | omega) : ¬ (md.length : Int) - 2 * sK g md k < 0)]; simp [h]; (first | lia | omega)
  · rw [if_pos (by (first | lia | omega) : (md.length : Int) - 2 * sK g md k < 0)]; simp [h]; (first | lia | omega)
theorem le_val (g : Int) (md : List Int) : leV g md = val g md (lowM g md) := by
  unfold leV val lowM
  rw [mk4_bit _ (by decide), mk4_bit _ (by decide), mk4_bit _ (by decide), mk4_bit _ (by decide), val_low, val_low, val_low, val_low]
  simp only [show List.range 4 = [0, 1, 2, 3] from rfl, List.map_cons, List.map_nil, List.sum_cons, List.sum_nil, sK]
  (first | lia | omega)
/-- stage k: the bits from k on are the lower mask's -/
noncomputable def Stage (g : Int) (md : List Int) (k : Nat) (w : Int) (x : Nat) : Prop := x < 16 ∧ w = val g md x ∧ ∀ j, k ≤ j → j < 4 → x.testBit j = lowB g md j
theorem stage_keep {g : Int} {md : List Int} {k : Nat} {w : Int} {x : Nat} (h : Stage g md k w x) : Stage g md (k + 1) w x := ⟨h.1, h.2.1, fun j h1 h2 => h.2.2 j (by (first | lia | omega)) h2⟩
theorem flip_bit (x k j : Nat) : (x ^^^ 2 ^ k).testBit j = if j = k then !x.testBit j else x.testBit j := by
  rw [Nat.testBit_xor, Nat.testBit_two_pow]
  by_cases h : j = k
  · simp [h]
  · rw [if_neg h, decide_eq_false (fun e => h e.symm)]; simp
theorem stage_flip {g : Int} {md : List Int} {k : Nat} {w : Int} {x : Nat} (hk : k < 4) (h : Stage g md k w x) : Stage g md (k + 1) (w + costK g md k) (x ^^^ 2 ^ k) := by
  refine' hid fun kG_ => ?_
  obtain ⟨h1, rfl, h3⟩ := h
  refine' kG_ ?_
  clear kG_
  have hb := h3 k (Nat.le_refl _) hk
  have ht := val_turn (g := g) (md := md) k
  rw [← hb] at ht
  refine ⟨Nat.xor_lt_two_pow (n := 4) h1 (Nat.pow_lt_pow_right (by decide) hk), ?_, fun j q1 q2 => ?_⟩
  · unfold val
    simp only [flip_bit]
    clear hb h3
    cases k with
    | zero => simp at ht ⊢; (first | lia | omega)
    | succ k =>
      cases k with
      | zero => simp at ht ⊢; (first | lia | omega)
      | succ k =>
        cases k with
        | zero => simp at ht ⊢; (first | lia | omega)
        | succ k =>
          cases k with
          | zero => simp at ht ⊢; (first | lia | omega)
          | succ k => exact absurd hk (Nat.not_lt_of_le (Nat.le_add_left 4 k))
  · rw [flip_bit, if_neg (by (first | lia | omega))]
    exact h3 j (by (first | lia | omega)) q2
theorem pset_mem {r : Int × Nat} {l : List (Int × Nat)} {w : Int} {x : Nat} {q : Int × Nat} (h : q ∈ pset (r :: l) w x) : q ∈ pset l w x ∨ q ∈ pset l (w + r.1) (x ^^^ r.2) := List.mem_append.mp h
theorem pset_val {g : Int} {md : List Int} : ∀ q ∈ pset (costN g md) (leV g md) (lowM g md), q.2 < 16 ∧ q.1 = val g md q.2 := by
  have step : ∀ (n k : Nat), n + k = 4 → ∀ w x, Stage g md k w x → ∀ q ∈ pset ((List.range' k n).map fun k => (costK g md k, 2 ^ k)) w x, q.2 < 16 ∧ q.1 = val g md q.2 := by
    intro n
    induction n with
    | zero =>
      intro k _ w x h q hq
      rw [List.mem_singleton.mp hq]
      exact ⟨h.1, h.2.1⟩
    | succ n ih =>
      intro k hk w x h q hq
      rcases pset_mem hq with hq | hq
      · exact ih (k + 1) (by (first | lia | omega)) _ _ (stage_keep h) q hq
      · exact ih (k + 1) (by (first | lia | omega)) _ _ (stage_flip (by (first | lia | omega)) h) q hq
  refine step 4 0 rfl _ _ ⟨mk4_lt _, le_val g md, fun j _ hj => mk4_bit _ hj⟩
/-- the masks that come are all -/
noncomputable def pmask (lo : Nat) : List Nat := (pset [((0 : Int), 1), (0, 2), (0, 4), (0, 8)] 0 lo).map (·.2)
theorem pset_snd : ∀ (l l' : List (Int × Nat)), l.map (·.2) = l'.map (·.2) → ∀ w w' x, (pset l w x).map (·.2) = (pset l' w' x).map (·.2)
  | [], [], _, _, _, _ => rfl
  | q :: l, q' :: l', h, w, w', x => by
    simp only [List.map_cons, List.cons.injEq] at h
    simp only [pset, List.map_append]
    rw [h.1, pset_snd l l' h.2 w w' x, pset_snd l l' h.2 (w + q.1) (w' + q'.1) _]
theorem mask_all {g : Int} (h0 : 0 ≤ g) (h3 : g < 3) {lo : Nat} (h : lo < 16) : ((pmask lo).map (phi g)).Perm (chF (pw g)) := by
  rcases g3 h0 h3 with rfl | rfl | rfl
  · exact (by decide +kernel : ∀ lo : Fin 16, ((pmask lo.val).map (phi 0)).Perm (chF (pw 0))) ⟨lo, h⟩
  · exact (by decide +kernel : ∀ lo : Fin 16, ((pmask lo.val).map (phi 1)).Perm (chF (pw 1))) ⟨lo, h⟩
  · exact (by decide +kernel : ∀ lo : Fin 16, ((pmask lo.val).map (phi 2)).Perm (chF (pw 2))) ⟨lo, h⟩
theorem told_all {g : Int} {md : List Int} (h0 : 0 ≤ g) (h3 : g < 3) {tn fs : List (Int × Int)} (hp : tn.Perm (costF g md)) (hf : fs.Perm (allSub tn (leV g md) (loV g md))) : fs.Perm ((pset (costN g md) (leV g md) (lowM g md)).map (MP g)) := by
  refine' hid fun kG_ => ?_
  obtain ⟨k, rfl, hk⟩ := perm_ex hp _ (cost_map g md)
  refine' kG_ ?_
  clear kG_
  have h4 : k.length = 4 := by rw [hk.length_eq]; rfl
  rw [lo_phi] at hf
  exact hf.trans ((all_pset h0 h3 h4 _ _).trans ((pset_perm hk _ _).map _))
theorem told_every {g : Int} {md : List Int} (h0 : 0 ≤ g) (h3 : g < 3) {tn fs : List (Int × Int)} (hp : tn.Perm (costF g md)) (hf : fs.Perm (allSub tn (leV g md) (loV g md))) : (fs.map (·.2)).Perm (chF (pw g)) := by
  refine ((told_all h0 h3 hp hf).map _).trans ?_
  have e : (pset (costN g md) (leV g md) (lowM g md)).map (·.2) = pmask (lowM g md) := pset_snd _ _ rfl _ _ _
  rw [List.map_map, show ((fun q : Int × Int => q.2) ∘ MP g) = (fun q : Int × Nat => phi g q.2) from rfl, show (fun q : Int × Nat => phi g q.2) = phi g ∘ (fun q : Int × Nat => q.2) from rfl, ← List.map_map, e]
  exact mask_all h0 h3 (mk4_lt _)
theorem told_each {g : Int} {md : List Int} (h0 : 0 ≤ g) (h3 : g < 3) {tn fs : List (Int × Int)} (hp : tn.Perm (costF g md)) (hf : fs.Perm (allSub tn (leV g md) (loV g md))) : ∀ q ∈ fs, ∃ x < 16, q = (val g md x, phi g x) := by
  intro q hq
  refine' hid fun kG_ => ?_
  obtain ⟨p, h1, rfl⟩ := List.mem_map.mp ((told_all h0 h3 hp hf).mem_iff.mp hq)
  obtain ⟨h2, h4⟩ := pset_val p h1
  refine' kG_ ?_
  clear kG_
  exact ⟨p.2, h2, by rw [MP, h4]⟩
/-- between -/
theorem and_bits : ∀ x y : Fin 16, ((x.val &&& y.val = y.val ↔ ((y.val.testBit 0 → x.val.testBit 0) ∧ (y.val.testBit 1 → x.val.testBit 1) ∧ (y.val.testBit 2 → x.val.testBit 2) ∧ (y.val.testBit 3 → x.val.testBit 3)))) := by decide +kernel
theorem and_bits' : ∀ x y : Fin 16, ((x.val &&& y.val = x.val ↔ ((x.val.testBit 0 → y.val.testBit 0) ∧ (x.val.testBit 1 → y.val.testBit 1) ∧ (x.val.testBit 2 → y.val.testBit 2) ∧ (x.val.testBit 3 → y.val.testBit 3)))) := by decide +kernel
theorem valK_least {g : Int} {md : List Int} (k : Nat) (b : Bool) : minF (sK g md k) ((md.length : Int) - sK g md k) ≤ valK g md k b ∧ (valK g md k b = minF (sK g md k) ((md.length : Int) - sK g md k) ↔ ((lowB g md k = true → b = true) ∧ (b = true → upB g md k = true))) := by
  unfold valK lowB upB minF
  cases b
  · by_cases h : (md.length : Int) - sK g md k < sK g md k
    · rw [if_pos h]; simp; (first | lia | omega)
    · rw [if_neg h]; simp; (first | lia | omega)
  · by_cases h : (md.length : Int) - sK g md k < sK g md k
    · rw [if_pos h]; simp; (first | lia | omega)
    · rw [if_neg h]; simp; (first | lia | omega)
theorem le2 {a b a' b' : Int} (h1 : a ≤ a') (h2 : b ≤ b') (h : a' + b' = a + b) : a' = a ∧ b' = b := ⟨by (first | lia | omega), by (first | lia | omega)⟩
theorem between_iff {g : Int} {md : List Int} (h0 : 0 ≤ g) (h3 : g < 3) {x : Nat} (hx : x < 16) : (val g md x = leV g md ↔ (Builtin.bitAnd (phi g x) (loV g md) = loV g md ∧ Builtin.bitAnd (phi g x) (upV g md) = phi g x)) := by
  have hl : lowM g md < 16 := mk4_lt _
  have hu : upM g md < 16 := mk4_lt _
  rw [lo_phi, up_phi, phi_and h0 h3 hx hl, phi_and h0 h3 hx hu]
  have e1 : phi g (x &&& lowM g md) = phi g (lowM g md) ↔ x &&& lowM g md = lowM g md := ⟨phi_inj h0 h3 (Nat.lt_of_le_of_lt Nat.and_le_left hx) hl, fun e => by rw [e]⟩
  have e2 : phi g (x &&& upM g md) = phi g x ↔ x &&& upM g md = x := ⟨phi_inj h0 h3 (Nat.lt_of_le_of_lt Nat.and_le_left hx) hx, fun e => by rw [e]⟩
  have b1 := and_bits ⟨x, hx⟩ ⟨lowM g md, hl⟩
  have b2 := and_bits' ⟨x, hx⟩ ⟨upM g md, hu⟩
  dsimp only at b1 b2
  rw [e1, e2, b1, b2]
  unfold lowM upM
  rw [mk4_bit _ (by decide), mk4_bit _ (by decide), mk4_bit _ (by decide), mk4_bit _ (by decide), mk4_bit _ (by decide), mk4_bit _ (by decide), mk4_bit _ (by decide), mk4_bit _ (by decide)]
  refine' hid fun kG_ => ?_
  obtain ⟨p0, q0⟩ := valK_least (g := g) (md := md) 0 (x.testBit 0)
  obtain ⟨p1, q1⟩ := valK_least (g := g) (md := md) 1 (x.testBit 1)
  obtain ⟨p2, q2⟩ := valK_least (g := g) (md := md) 2 (x.testBit 2)
  obtain ⟨p3, q3⟩ := valK_least (g := g) (md := md) 3 (x.testBit 3)
  refine' kG_ ?_
  clear kG_
  have e : leV g md = minF (sK g md 0) ((md.length : Int) - sK g md 0) + minF (sK g md 1) ((md.length : Int) - sK g md 1) + minF (sK g md 2) ((md.length : Int) - sK g md 2) + minF (sK g md 3) ((md.length : Int) - sK g md 3) := by
    unfold leV
    simp only [show List.range 4 = [0, 1, 2, 3] from rfl, List.map_cons, List.map_nil, List.sum_cons, List.sum_nil, sK]
    omega
  rw [e]
  unfold val
  constructor
  · intro h
    have r1 := le2 (Int.add_le_add (Int.add_le_add p0 p1) p2) p3 h
    have r2 := le2 (Int.add_le_add p0 p1) p2 r1.1
    have r3 := le2 p0 p1 r2.1
    have a0 := q0.mp r3.1
    have a1 := q1.mp r3.2
    have a2 := q2.mp r2.2
    have a3 := q3.mp r1.2
    exact ⟨⟨a0.1, a1.1, a2.1, a3.1⟩, ⟨a0.2, a1.2, a2.2, a3.2⟩⟩
  · rintro ⟨⟨a0, a1, a2, a3⟩, ⟨c0, c1, c2, c3⟩⟩
    rw [q0.mpr ⟨a0, c0⟩, q1.mpr ⟨a1, c1⟩, q2.mpr ⟨a2, c2⟩, q3.mpr ⟨a3, c3⟩]
/-- the signs -/
noncomputable def sigS (g : Int) (b0 b1 b2 b3 : Bool) : Str := ⟨#[if b0 then 114 else 45, if b1 then 119 else 45, if b2 then (if b3 then (if g = 2 then 116 else 115) else 120) else (if b3 then (if g = 2 then 84 else 83) else 45)]⟩
noncomputable def bitB (g m : Int) (k : Nat) : Bool := decide (m / (pw g).getD k 0 % 2 = 1)
theorem cut1 (r0 a0 a1 a2 a3 a4 a5 a6 a7 a8 : Nat) : Txt.slice ⟨([r0, a0, a1, a2, a3, a4, a5, a6, a7, a8] : List Nat).toArray⟩ (some 1) (some 4) = ⟨#[a0, a1, a2]⟩ := rfl
theorem cut4 (r0 a0 a1 a2 a3 a4 a5 a6 a7 a8 : Nat) : Txt.slice ⟨([r0, a0, a1, a2, a3, a4, a5, a6, a7, a8] : List Nat).toArray⟩ (some 4) (some 7) = ⟨#[a3, a4, a5]⟩ := rfl
theorem cut7 (r0 a0 a1 a2 a3 a4 a5 a6 a7 a8 : Nat) : Txt.slice ⟨([r0, a0, a1, a2, a3, a4, a5, a6, a7, a8] : List Nat).toArray⟩ (some 7) (some 10) = ⟨#[a6, a7, a8]⟩ := rfl
theorem bit_at0 (m : Int) : bitB 0 m 0 = decide (m / 256 % 2 = 1) ∧ bitB 0 m 1 = decide (m / 128 % 2 = 1) ∧ bitB 0 m 2 = decide (m / 64 % 2 = 1) ∧ bitB 0 m 3 = decide (m / 2048 % 2 = 1) := ⟨rfl, rfl, rfl, rfl⟩
theorem bit_at1 (m : Int) : bitB 1 m 0 = decide (m / 32 % 2 = 1) ∧ bitB 1 m 1 = decide (m / 16 % 2 = 1) ∧ bitB 1 m 2 = decide (m / 8 % 2 = 1) ∧ bitB 1 m 3 = decide (m / 1024 % 2 = 1) := ⟨rfl, rfl, rfl, rfl⟩
theorem bit_at2 (m : Int) : bitB 2 m 0 = decide (m / 4 % 2 = 1) ∧ bitB 2 m 1 = decide (m / 2 % 2 = 1) ∧ bitB 2 m 2 = decide (m / 1 % 2 = 1) ∧ bitB 2 m 3 = decide (m / 512 % 2 = 1) := ⟨rfl, rfl, rfl, rfl⟩
theorem sgn1 (P : Prop) [Decidable P] (c : Nat) : (if P then c else 45) = if decide P then c else 45 := by by_cases h : P <;> simp [h]
theorem sgn3 (P R : Prop) [Decidable P] [Decidable R] (c1 c2 c3 : Nat) : (if P then (if R then c1 else c3) else (if R then c2 else 45)) = if decide P then (if decide R then c1 else c3) else (if decide R then c2 else 45) := by by_cases h : P <;> by_cases k : R <;> simp [h, k]
theorem fm_str (m : Int) : fmStr m = ⟨([rowChar m 0 (tbl.getD 0 []), sgn m 0, sgn m 1, sgn m 2, sgn m 3, sgn m 4, sgn m 5, sgn m 6, sgn m 7, sgn m 8] : List Nat).toArray⟩ := by unfold fmStr; rw [fm_list]
theorem arr3 {a b c a' b' c' : Nat} (h1 : a = a') (h2 : b = b') (h3 : c = c') : (⟨#[a, b, c]⟩ : Str) = ⟨#[a', b', c']⟩ := by rw [h1, h2, h3]
theorem sgn_sig {g : Int} (h0 : 0 ≤ g) (h3 : g < 3) (m : Int) : sgnF g m = sigS g (bitB g m 0) (bitB g m 1) (bitB g m 2) (bitB g m 3) := by
  unfold sgnF
  rw [fm_str]
  rcases g3 h0 h3 with rfl | rfl | rfl
  · refine' hid fun kG_ => ?_
    obtain ⟨e0, e1, e2, e3⟩ := bit_at0 m
    refine' kG_ ?_
    clear kG_
    rw [e0, e1, e2, e3]
    refine (cut1 _ _ _ _ _ _ _ _ _ _).trans (arr3 (sgn1 _ _) (sgn1 _ _) (sgn3 _ _ _ _ _))
  · refine' hid fun kG_ => ?_
    obtain ⟨e0, e1, e2, e3⟩ := bit_at1 m
    refine' kG_ ?_
    clear kG_
    rw [e0, e1, e2, e3]
    refine (cut4 _ _ _ _ _ _ _ _ _ _).trans (arr3 (sgn1 _ _) (sgn1 _ _) (sgn3 _ _ _ _ _))
  · refine' hid fun kG_ => ?_
    obtain ⟨e0, e1, e2, e3⟩ := bit_at2 m
    refine' kG_ ?_
    clear kG_
    rw [e0, e1, e2, e3]
    refine (cut7 _ _ _ _ _ _ _ _ _ _).trans (arr3 (sgn1 _ _) (sgn1 _ _) (sgn3 _ _ _ _ _))
noncomputable def dif (b c : Bool) : Int := if b = c then 0 else 1
theorem ap_sig {g : Int} (h0 : 0 ≤ g) (h3 : g < 3) : ∀ b0 b1 b2 b3 c0 c1 c2 c3 : Bool, apF (sigS g b0 b1 b2 b3) (sigS g c0 c1 c2 c3) (ringS g) = dif b0 c0 + dif b1 c1 + dif b2 c2 + dif b3 c3 := by
  rcases g3 h0 h3 with rfl | rfl | rfl
  · decide +kernel
  · decide +kernel
  · decide +kernel
theorem find_sig {g : Int} (h0 : 0 ≤ g) (h3 : g < 3) : ∀ b0 b1 b2 b3 : Bool, (sigS g b0 b1 b2 b3).length = 3 ∧ 0 ≤ Txt.find (ringS g) (Txt.item (sigS g b0 b1 b2 b3) 2) := by
  rcases g3 h0 h3 with rfl | rfl | rfl
  · decide +kernel
  · decide +kernel
  · decide +kernel
theorem giv_sig {g : Int} (h0 : 0 ≤ g) (h3 : g < 3) : ∀ b0 b1 b2 b3 : Bool, givF (sigS g b0 b1 b2 b3) = [b0, b1, b2] := by
  rcases g3 h0 h3 with rfl | rfl | rfl
  · decide +kernel
  · decide +kernel
  · decide +kernel
theorem bit_phi {g : Int} (h0 : 0 ≤ g) (h3 : g < 3) {x : Nat} (hx : x < 16) : bitB g (phi g x) 0 = x.testBit 0 ∧ bitB g (phi g x) 1 = x.testBit 1 ∧ bitB g (phi g x) 2 = x.testBit 2 ∧ bitB g (phi g x) 3 = x.testBit 3 := by
  rcases g3 h0 h3 with rfl | rfl | rfl
  · exact (by decide +kernel : ∀ x : Fin 16, bitB 0 (phi 0 x.val) 0 = x.val.testBit 0 ∧ bitB 0 (phi 0 x.val) 1 = x.val.testBit 1 ∧ bitB 0 (phi 0 x.val) 2 = x.val.testBit 2 ∧ bitB 0 (phi 0 x.val) 3 = x.val.testBit 3) ⟨x, hx⟩
  · exact (by decide +kernel : ∀ x : Fin 16, bitB 1 (phi 1 x.val) 0 = x.val.testBit 0 ∧ bitB 1 (phi 1 x.val) 1 = x.val.testBit 1 ∧ bitB 1 (phi 1 x.val) 2 = x.val.testBit 2 ∧ bitB 1 (phi 1 x.val) 3 = x.val.testBit 3) ⟨x, hx⟩
  · exact (by decide +kernel : ∀ x : Fin 16, bitB 2 (phi 2 x.val) 0 = x.val.testBit 0 ∧ bitB 2 (phi 2 x.val) 1 = x.val.testBit 1 ∧ bitB 2 (phi 2 x.val) 2 = x.val.testBit 2 ∧ bitB 2 (phi 2 x.val) 3 = x.val.testBit 3) ⟨x, hx⟩
theorem dif_sum {g : Int} {k : Nat} (hk : k < 4) (b : Bool) : ∀ md : List Int, (md.map fun m => dif b (bitB g m k)).sum = valK g md k b := by
  intro md
  induction md with
  | nil =>
    unfold valK sK
    rw [(col_at hk).2]
    cases b <;> simp
  | cons m r ih =>
    unfold valK sK at ih ⊢
    rw [(col_at hk).2] at ih ⊢
    simp only [List.map_cons, List.sum_cons, List.length_cons, ih]
    unfold dif bitB
    rcases (by (first | lia | omega) : m / (pw g).getD k 0 % 2 = 0 ∨ m / (pw g).getD k 0 % 2 = 1) with e | e
    · rw [e]; cases b <;> simp <;> (first | lia | omega)
    · rw [e]; cases b <;> simp <;> (first | lia | omega)
theorem sum4 {f0 f1 f2 f3 : Int → Int} : ∀ md : List Int, (md.map fun m => f0 m + f1 m + f2 m + f3 m).sum = (md.map f0).sum + (md.map f1).sum + (md.map f2).sum + (md.map f3).sum
  | [] => rfl
  | m :: r => by
    have := sum4 (f0 := f0) (f1 := f1) (f2 := f2) (f3 := f3) r
    simp only [List.map_cons, List.sum_cons, this]
    (first | lia | omega)
theorem turn_sum {g : Int} (h0 : 0 ≤ g) (h3 : g < 3) (md : List Int) {x : Nat} (hx : x < 16) : ((md.map (sgnF g)).map fun y => apF (sgnF g (phi g x)) y (ringS g)).sum = val g md x := by
  rw [List.map_map]
  have e : ((fun y => apF (sgnF g (phi g x)) y (ringS g)) ∘ sgnF g) = fun m => dif (x.testBit 0) (bitB g m 0) + dif (x.testBit 1) (bitB g m 1) + dif (x.testBit 2) (bitB g m 2) + dif (x.testBit 3) (bitB g m 3) := by
    funext m
    refine' hid fun kG_ => ?_
    obtain ⟨b0, b1, b2, b3⟩ := bit_phi h0 h3 hx
    refine' kG_ ?_
    clear kG_
    show apF (sgnF g (phi g x)) (sgnF g m) (ringS g) = _
    rw [sgn_sig h0 h3, sgn_sig h0 h3, ap_sig h0 h3, b0, b1, b2, b3]
  rw [e, sum4, dif_sum (by decide), dif_sum (by decide), dif_sum (by decide), dif_sum (by decide)]
  rfl
theorem turn_all {g : Int} {md : List Int} (h0 : 0 ≤ g) (h3 : g < 3) {tn fs : List (Int × Int)} (hp : tn.Perm (costF g md)) (hf : fs.Perm (allSub tn (leV g md) (loV g md))) (hh : fs.head? = some (leV g md, loV g md)) :
    ∀ q ∈ fs, (sgnF g q.2).length = 3 ∧ 0 ≤ Txt.find (ringS g) (Txt.item (sgnF g q.2) 2) ∧ ((md.map (sgnF g)).map fun y => apF (sgnF g q.2) y (ringS g)).sum = q.1 ∧ (q.1 = (fs.map (·.1)).getD 0 0 ↔ (Builtin.bitAnd q.2 (loV g md) = loV g md ∧ Builtin.bitAnd q.2 (upV g md) = q.2)) := by
  intro q hq
  refine' hid fun kG_ => ?_
  obtain ⟨x, hx, rfl⟩ := told_each h0 h3 hp hf q hq
  refine' kG_ ?_
  clear kG_
  have hz : (fs.map (·.1)).getD 0 0 = leV g md := by
    cases fs with
    | nil => cases hh
    | cons a r => simp at hh; rw [hh]; rfl
  have hs := find_sig h0 h3 (bitB g (phi g x) 0) (bitB g (phi g x) 1) (bitB g (phi g x) 2) (bitB g (phi g x) 3)
  rw [← sgn_sig h0 h3] at hs
  exact ⟨hs.1, hs.2, turn_sum h0 h3 md hx, by rw [hz]; exact between_iff h0 h3 hx⟩
theorem shown_all {g : Int} (h0 : 0 ≤ g) (h3 : g < 3) (md : List Int) : ∀ y ∈ md.map (sgnF g), y.length = 3 ∧ 0 ≤ Txt.find (ringS g) (Txt.item y 2) := by
  intro y hy
  refine' hid fun kG_ => ?_
  obtain ⟨m, _, rfl⟩ := List.mem_map.mp hy
  refine' kG_ ?_
  clear kG_
  rw [sgn_sig h0 h3]
  exact find_sig h0 h3 _ _ _ _
theorem given_all {g : Int} (h0 : 0 ≤ g) (h3 : g < 3) {md : List Int} (h2 : 0 < md.length) : givF (sgnF g (md.getD 0 0)) = (List.range 3).map fun k => decide ((colF g md k).getD 0 0 = 1) := by
  rw [sgn_sig h0 h3, giv_sig h0 h3]
  have e : ∀ k, k < 4 → (colF g md k).getD 0 0 = md.getD 0 0 / (pw g).getD k 0 % 2 := fun k hk => by
    rw [(col_at hk).2]
    cases md with
    | nil => simp at h2
    | cons a r => rfl
  simp only [show List.range 3 = [0, 1, 2] from rfl, List.map_cons, List.map_nil, e 0 (by decide), e 1 (by decide), e 2 (by decide), bitB]
noncomputable def DomG (g a : Int) : Prop := ∃ x < 16, a = phi g x
theorem dom_xor {g : Int} (h0 : 0 ≤ g) (h3 : g < 3) : ∀ a b, DomG g a → DomG g b → DomG g (bx a b) := by
  rintro a b ⟨x, hx, rfl⟩ ⟨y, hy, rfl⟩
  exact ⟨x ^^^ y, Nat.xor_lt_two_pow (n := 4) hx hy, phi_xor_lt h0 h3 hx hy⟩
theorem dom_bd {g : Int} (h0 : 0 ≤ g) (h3 : g < 3) : ∀ a, DomG g a → 0 ≤ a ∧ a < 65536 := by
  intro a hJ_
  refine' hid fun kG_ => ?_
  obtain ⟨x, hx, rfl⟩ := hJ_
  refine' kG_ ?_
  clear kG_
  exact phi_bd h0 h3 hx
theorem dom_cost {g : Int} {md : List Int} {tn : List (Int × Int)} (hp : tn.Perm (costF g md)) : ∀ q ∈ tn, DomG g q.2 ∧ 0 ≤ q.1 := by
  intro q hq
  refine' hid fun kG_ => ?_
  obtain ⟨k, hk, rfl⟩ := List.mem_map.mp (hp.mem_iff.mp hq)
  refine' kG_ ?_
  clear kG_
  have hk := List.mem_range.mp hk
  refine ⟨⟨2 ^ k, Nat.pow_lt_pow_right (n := 4) (by decide) hk, (phi_pow hk).symm⟩, ?_⟩
  show 0 ≤ absI _
  unfold absI
  split <;> (first | lia | omega)

end
section
section
variable {w : World} {mean : ExcName → Option Value} {mg mb : Str → Option Value} {a : Addr} {ccd : Value} {h₀ : Heap} {L : Addr} {m : Str → Option Value} {s : Shared} {Q : Flow → Shared → Prop} {E : Value → Shared → Prop}
  {oc : Value} {od : Option Addr} {name qual : Str} {params : Arguments} {body : List Stmt} {scope : Scope} {dV kV doc pm cdv ct : Value} {an : Option Addr} {osl : Array (Option Value)} {st : Stmt}
theorem st_ret (ho : (hd.heap_39 w.params).lookup 145 = some ⟨oc, od, .func (fnOf name qual params body scope dV kV doc pm an cdv ct), osl⟩) (hst : body[19]? = some st)
    (B : Below callerA h₀ [] h₀) (X : (hd.heap_39 w.params).In h₀) (T : Top hd.view_39 lz mean mg mb h₀) (F : Fr h₀ L s.heap m)
    (hQ : ∀ tk, Q (.ret (.bool true)) { s with toks := tk }) :
    wpAny (model prg w) (callerA.deeper (envOfC qual scope L a ccd)) (exec st (envOfC qual scope L a ccd)) Q E s := by
  revert X; unfold prg; w_top off; k_fill; intro X
  refine' law_is ho ?e ?_
  case e => k_is
  intro hq
  clear ho
  cases hq
  simp only [List.getElem?_cons_zero, List.getElem?_cons_succ, Option.some.injEq] at hst
  subst hst
  k_with_none
  k_with "ne" => (refine neN ?_; (try dsimp only); with_reducible first | assumption | exact Ne.symm (by assumption) | exact ne1 | exact ne1.symm | exact ne2 | exact ne2.symm | exact ne3 | exact ne3.symm | exact ne4 | exact ne4.symm | exact ne5 | exact ne5.symm | exact nl1 (by assumption) | exact nl2 (by assumption) | exact nl3 (by assumption) | exact (nl1 (by assumption)).symm | exact (nl2 (by assumption)).symm | exact (nl3 (by assumption)).symm | exact Nat.ne_of_lt (by assumption) | exact Nat.ne_of_gt (by assumption) | exact cj1 (by assumption) | exact Ne.symm (cj1 (by assumption)) | exact Nat.ne_of_lt (cj1 (by assumption)) | exact Nat.ne_of_gt (cj1 (by assumption)) | exact cj2 (by assumption) | exact Ne.symm (cj2 (by assumption)) | exact Nat.ne_of_lt (cj2 (by assumption)) | exact Nat.ne_of_gt (cj2 (by assumption)) | exact cj3 (by assumption) | exact Ne.symm (cj3 (by assumption)) | exact Nat.ne_of_lt (cj3 (by assumption)) | exact Nat.ne_of_gt (cj3 (by assumption)) | exact cj4 (by assumption) | exact Ne.symm (cj4 (by assumption)) | exact Nat.ne_of_lt (cj4 (by assumption)) | exact Nat.ne_of_gt (cj4 (by assumption)) | exact cj5 (by assumption) | exact Ne.symm (cj5 (by assumption)) | exact Nat.ne_of_lt (cj5 (by assumption)) | exact Nat.ne_of_gt (cj5 (by assumption)) | exact cj6 (by assumption) | exact Ne.symm (cj6 (by assumption)) | exact Nat.ne_of_lt (cj6 (by assumption)) | exact Nat.ne_of_gt (cj6 (by assumption)) | exact cj7 (by assumption) | exact Ne.symm (cj7 (by assumption)) | exact Nat.ne_of_lt (cj7 (by assumption)) | exact Nat.ne_of_gt (cj7 (by assumption)) | exact cj8 (by assumption) | exact Ne.symm (cj8 (by assumption)) | exact Nat.ne_of_lt (cj8 (by assumption)) | exact Nat.ne_of_gt (cj8 (by assumption)) | exact cj9 (by assumption) | exact Ne.symm (cj9 (by assumption)) | exact Nat.ne_of_lt (cj9 (by assumption)) | exact Nat.ne_of_gt (cj9 (by assumption)) | exact ej5 (by assumption) | exact Ne.symm (ej5 (by assumption)) | exact Nat.ne_of_lt (ej5 (by assumption)) | exact Nat.ne_of_gt (ej5 (by assumption)) | exact ej6 (by assumption) | exact Ne.symm (ej6 (by assumption)) | exact Nat.ne_of_lt (ej6 (by assumption)) | exact Nat.ne_of_gt (ej6 (by assumption)) | exact ej7 (by assumption) | exact Ne.symm (ej7 (by assumption)) | exact Nat.ne_of_lt (ej7 (by assumption)) | exact Nat.ne_of_gt (ej7 (by assumption)) | exact ej8 (by assumption) | exact Ne.symm (ej8 (by assumption)) | exact Nat.ne_of_lt (ej8 (by assumption)) | exact Nat.ne_of_gt (ej8 (by assumption)) | exact ej9 (by assumption) | exact Ne.symm (ej9 (by assumption)) | exact Nat.ne_of_lt (ej9 (by assumption)) | exact Nat.ne_of_gt (ej9 (by assumption)))
  k_with "binaryOp RShift int int" => (k_here; (with_reducible refine shr1 ?_))
  k_with "binaryOp Mod int int" => (k_here; (with_reducible refine mod_pos ?k1 ?_); (case k1 => decide))
  k_with "binaryOp FloorDiv int int" => (k_here; (with_reducible refine fdiv_pos ?k1 ?k2 ?_); (case k1 => decide); (case k2 => decide +kernel))
  k_with "call ref" => (k_here; refine wpAny_call ?_; k_dflt (refine' code_def ?k1 ?k2 ?k3 ?k4 ?k5 ?kA ?kF ?kK ?k6 ?k7 ?k8 ?k9 ?kB ?_ ?c2 ?c3 ?c4 ?c5; (case kA => exact rfl); (case kF => exact rfl); (case kK => first | exact rfl | assumption); (case k1 => k_asm); (case k2 => k_asm); (case k3 => k_asm); (case k4 => k_asm); (case k5 => k_asm); (case k6 => k_is); (case k7 => k_is); (case k8 => (first | exact unL2 (by assumption) rfl | exact unL1 (by assumption) rfl | exact unL0 (by assumption) | ktr_room)); (case k9 => exact BindsTo.of_eq rfl); (case c5 => decide); (case kB => exact locs rfl); (case c2 => exact rfl); (case c3 => exact rfl); (case c4 => exact rfl); k_whole; intro g' L' h' FG' F' N' B' X' T'; (try dsimp only); (try k_lift B'); (try k_fold)))
  k_with "execs cons" => (k_here; first | (k_made; walk_at "execs cons") | k_gentoks | ((with_reducible refine wpAny_execs_cons ?_); (try dsimp only); (try k_fold)))
  k_with "idx" => (first | with_reducible assumption | (first | lia | omega))
  k_with "upd" => (first | (refine' Pick.head ?a; (case a => k_all)) | (refine' Pick.tail ?a ?b; (case a => k_ne); (case b => k_upd)))
  k_steps
  exact hQ _
theorem law_len (ho : (hd.heap_39 w.params).lookup 145 = some ⟨oc, od, .func (fnOf name qual params body scope dV kV doc pm an cdv ct), osl⟩)
    (X : (hd.heap_39 w.params).In h₀) : body.length = 20 := by
  revert X; w_top off; k_fill; intro X
  refine' law_is ho ?e ?_
  case e => k_is
  intro hq
  clear ho
  cases hq
  rfl
end

end
section
/-! the law's body, joined -/
theorem exec_step {prog : Program} {w : World} {A : Around} {env : Env} {body : List Stmt} {i : Nat} {st : Stmt} {Q : Flow → Shared → Prop} {E : Value → Shared → Prop} {s : Shared} (hst : body[i]? = some st)
    (h : wpAny (model prog w) A (exec st env) (fun f s' => match f with | .next => wpAny (model prog w) A (execs (body.drop (i + 1)) env) Q E s' | f => Q f s') E s) : wpAny (model prog w) A (execs (body.drop i) env) Q E s := by
  refine' hid fun kG_ => ?_
  obtain ⟨hlt, e⟩ := List.getElem?_eq_some_iff.mp hst
  refine' kG_ ?_
  clear kG_
  rw [List.drop_eq_getElem_cons hlt, e]
  exact wpAny_execs_cons h
theorem step {prog : Program} {w : World} {A : Around} {env : Env} {body : List Stmt} {i : Nat} {st : Stmt} {Q : Flow → Shared → Prop} {E : Value → Shared → Prop} {s : Shared} {h₀ : Heap} {L : Addr} {J : (Str → Option Value) → List (Addr × Obj) → Prop} (hst : body[i]? = some st)
    (h1 : wpAny (model prog w) A (exec st env) (StPost h₀ L J s Q) E s)
    (h2 : ∀ h' tk m' nx, Fr h₀ L h' m' → News h₀ L h' nx → J m' nx → wpAny (model prog w) A (execs (body.drop (i + 1)) env) Q E { s with heap := h', toks := tk }) : wpAny (model prog w) A (execs (body.drop i) env) Q E s := by
  refine exec_step hst (wpAny_mono h1 (fun f s' h => ?_) fun _ _ h => h)
  cases f with
  | next => obtain ⟨h', tk, m', nx, rfl, F, N, hJ⟩ := h; exact h2 h' tk m' nx F N hJ
  | _ => exact h
theorem le_nonneg (g : Int) (md : List Int) : 0 ≤ leV g md := by
  have e : ∀ k, k < 4 → 0 ≤ minF (colF g md k).sum ((md.length : Int) - (colF g md k).sum) := fun k hk => by
    refine' hid fun kG_ => ?_
    obtain ⟨h1, h2, _⟩ := ord_perm (colF g md k) (col_bits hk)
    refine' kG_ ?_
    clear kG_
    rw [col_len hk] at h2
    unfold minF
    split <;> omega
  have e0 := e 0 (by decide)
  have e1 := e 1 (by decide)
  have e2 := e 2 (by decide)
  have e3 := e 3 (by decide)
  unfold leV
  simp only [show List.range 4 = [0, 1, 2, 3] from rfl, List.map_cons, List.map_nil, List.sum_cons, List.sum_nil]
  omega
theorem fm_ten (md : List Int) : ∀ x ∈ md.map fmStr, x.length = 10 := by
  intro x hx
  refine' hid fun kG_ => ?_
  obtain ⟨b, _, rfl⟩ := List.mem_map.mp hx
  refine' kG_ ?_
  clear kG_
  rw [fm_str]; rfl
theorem fm_nine (md : List Int) : ∀ x ∈ md.map fmStr, (Txt.slice x (some 1) none).length = 9 := by
  intro x hx
  refine' hid fun kG_ => ?_
  obtain ⟨b, _, rfl⟩ := List.mem_map.mp hx
  refine' kG_ ?_
  clear kG_
  rw [slice_sgns]; rfl
theorem strs_first {vs : List Value} {xs : List Str} {x : Str} (h : StrsAre vs xs) (e : xs[0]? = some x) : ∃ t, vs[0]? = some (.str x t) := by
  cases h with
  | nil => simp at e
  | cons y t _ => simp at e; subst e; exact ⟨t, rfl⟩
theorem set_new {m' m : Str → Option Value} {x : Str} {v : Value} (e : m' = setM m x v) : m' x = some v := by rw [e]; exact if_pos rfl
theorem set_old {m' m : Str → Option Value} {x y : Str} {v u : Value} (e : m' = setM m x v) (k : m y = some u) (h : setM m x v y = m y) : m' y = some u := by rw [e, h]; exact k
noncomputable abbrev Sub (a b : List (Addr × Obj)) : Prop := ∀ p ∈ a, p ∈ b
theorem Sub.cons {x : Addr × Obj} {a : List (Addr × Obj)} : Sub a (x :: a) := fun _ h => .tail _ h
theorem Sub.app {x : Addr × Obj} {o a : List (Addr × Obj)} : Sub a (x :: (o ++ a)) := fun _ h => .tail _ (List.mem_append_right _ h)
theorem Sub.own {x : Addr × Obj} {o a : List (Addr × Obj)} : Sub (o ++ a) (x :: (o ++ a)) := fun _ h => .tail _ h
theorem Sub.own' {x : Addr × Obj} {o a : List (Addr × Obj)} : Sub o (x :: (o ++ a)) := fun _ h => .tail _ (List.mem_append_left _ h)
theorem Sub.trans {a b c : List (Addr × Obj)} (h : Sub a b) (k : Sub b c) : Sub a c := fun p hp => k p (h p hp)
theorem first_shown {g : Int} {md : List Int} {vy : List Value} (h2 : 2 ≤ md.length) (hiy : StrsAre vy (md.map (sgnF g))) (hsh : ∀ y ∈ md.map (sgnF g), y.length = 3 ∧ 0 ≤ Txt.find (ringS g) (Txt.item y 2)) : ∃ t, vy[0]? = some (.str (sgnF g (md.getD 0 0)) t) ∧ (sgnF g (md.getD 0 0)).length = 3 := by
  cases md with
  | nil => exact absurd h2 (by decide)
  | cons x r =>
    refine' hid fun kG_ => ?_
    obtain ⟨t, e⟩ := strs_first (x := sgnF g x) hiy rfl
    refine' kG_ ?_
    clear kG_
    exact ⟨t, e, (hsh _ (.head _)).1⟩
section
variable {w : World} {mean : ExcName → Option Value} {mg mb : Str → Option Value} {a : Addr} {ccd : Value} {h₀ : Heap} {L : Addr} {m : Str → Option Value} {s : Shared} {Q : Flow → Shared → Prop} {E : Value → Shared → Prop}
  {oc : Value} {od : Option Addr} {name qual : Str} {params : Arguments} {body : List Stmt} {scope : Scope} {dV kV doc pm cdv ct : Value} {an : Option Addr} {osl : Array (Option Value)}
set_option maxHeartbeats 8000000 in
/-- from the tenth statement on -/
theorem tail_all {c6 c5 c4 c3 c2 c1 : Obj} {tl5 : List (Addr × Obj)} {g : Int} {tg tlo tup : Tok} {v5 v6 : Option Value} {lm lp lc lt : Addr} {vm vp vc vt : List Value} {nm np nc nt : Nat} {md : List Int} {fs : List (Int × Int)}
    (ho : (hd.heap_39 w.params).lookup 145 = some ⟨oc, od, .func (fnOf name qual params body scope dV kV doc pm an cdv ct), osl⟩)
    (B : Below callerA h₀ [] h₀) (X : (hd.heap_39 w.params).In h₀) (T : Top hd.view_39 lz mean mg mb h₀) (F : Fr h₀ L s.heap m) (N : News h₀ L s.heap (led6 L c6 c5 c4 c3 c2 c1 tl5)) (hab : Above L tl5)
    (d1 : c1.data = .cell (some (.ref lm))) (d2 : c2.data = .cell (some (.int g tg))) (d3 : c3.data = .cell (some (.ref lp))) (d4 : c4.data = .cell (some (.ref lc))) (d5 : c5.data = .cell v5) (d6 : c6.data = .cell v6) (hg0 : 0 ≤ g) (hg3 : g < 3)
    (h2 : 2 ≤ md.length) (h5 : md.length ≤ 5) (hlm : (lm, W.listOf vm.toArray nm) ∈ tl5) (him : IntsAre vm md) (hlp : (lp, W.listOf vp.toArray np) ∈ tl5) (hip : IntsAre vp (pw g)) (hlc : (lc, W.listOf vc.toArray nc) ∈ tl5) (hic : ColsP tl5 vc (colsF g md))
    (hlen : body.length = 20) (hE : PassesOwn (model prg w) (callerA.deeper (envOfC qual scope L a ccd)) (envOfC qual scope L a ccd) E)
    (hQ : ∀ h' tk m', Fr h₀ L h' m' → Q (.ret (.bool true)) { s with heap := h', toks := tk })
    (f1 : m (Str.ofString "lower") = some (.int (loV g md) tlo)) (f2 : m (Str.ofString "upper") = some (.int (upV g md) tup)) (f5 : m (Str.ofString "told") = some (.ref lt))
    (hlt : (lt, W.listOf vt.toArray nt) ∈ tl5) (hfs : PairsP tl5 vt fs) (h16 : fs.length ≤ 16) (hfo : (fs.map (·.1)).Pairwise (· ≤ ·)) (hev : (fs.map (·.2)).Perm (chF (pw g)))
    (htu : ∀ q ∈ fs, (sgnF g q.2).length = 3 ∧ 0 ≤ Txt.find (ringS g) (Txt.item (sgnF g q.2) 2) ∧ ((md.map (sgnF g)).map fun y => apF (sgnF g q.2) y (ringS g)).sum = q.1 ∧ (q.1 = (fs.map (·.1)).getD 0 0 ↔ (Builtin.bitAnd q.2 (loV g md) = loV g md ∧ Builtin.bitAnd q.2 (upV g md) = q.2)))
    (hw0 : 0 < (fs.map (·.1)).length) :
    wpAny (model prg w) (callerA.deeper (envOfC qual scope L a ccd)) (execs (body.drop 9) (envOfC qual scope L a ccd)) Q E s := by
  have hst : ∀ i, (h : i < 20) → body[i]? = some (body[i]'(hlen ▸ h)) := fun i h => List.getElem?_eq_getElem _
  refine step (hst 9 (by decide)) (st_ways ho (hst 9 (by decide)) B X T F N hab ⟨f5, trivial⟩ hlt hfs h16) ?_
  clear F N hab
  intro h10' k10 m10 nx10 F N hJ_
  refine' hid fun kG_ => ?_
  obtain ⟨lw, vw, nw, e, rfl, hab, hiw⟩ := hJ_
  refine' kG_ ?_
  clear kG_
  have f6 := set_new e
  replace f1 := set_old e f1 rfl
  replace f2 := set_old e f2 rfl
  replace f5 := set_old e f5 rfl
  clear e
  have hlw : (lw, W.listOf vw.toArray nw) ∈ (lw, W.listOf vw.toArray nw) :: tl5 := .head _
  have u : Sub tl5 ((lw, W.listOf vw.toArray nw) :: tl5) := Sub.cons
  generalize (lw, W.listOf vw.toArray nw) :: tl5 = tl6 at *
  refine step (hst 10 (by decide)) (st_every ho (hst 10 (by decide)) B X T F N hab ⟨f5, trivial⟩ (u _ hlt) (hfs.mono u) h16) ?_
  clear F N hab
  intro h11' k11 m11 nx11 F N hJ_
  refine' hid fun kG_ => ?_
  obtain ⟨lv, vv, nv, e, rfl, hab, hiv⟩ := hJ_
  refine' kG_ ?_
  clear kG_
  have f7 := set_new e
  replace f1 := set_old e f1 rfl
  replace f2 := set_old e f2 rfl
  replace f5 := set_old e f5 rfl
  replace f6 := set_old e f6 rfl
  clear e
  have hlv : (lv, W.listOf vv.toArray nv) ∈ (lv, W.listOf vv.toArray nv) :: tl6 := .head _
  replace hlw := Sub.cons (x := (lv, W.listOf vv.toArray nv)) _ hlw
  replace u := u.trans (Sub.cons (x := (lv, W.listOf vv.toArray nv)))
  generalize (lv, W.listOf vv.toArray nv) :: tl6 = tl7 at *
  refine step (hst 11 (by decide)) (st_if1 ho (hst 11 (by decide)) B X T F N hab ⟨f6, f7, trivial⟩ d3 hlw hiw hlv hiv (u _ hlp) hip (by rw [List.length_map]; exact h16) (by rw [List.length_map]; exact h16) rfl hfo hev) ?_
  clear F N hev hfo hlv hiv h16 f7 hlp hip d3
  intro h12' k12 m12 nx12 F N hJ_
  refine' hid fun kG_ => ?_
  obtain ⟨rfl, rfl⟩ := hJ_
  refine' kG_ ?_
  clear kG_
  refine step (hst 12 (by decide)) (st_ring ho (hst 12 (by decide)) B X T F N hab d2 d5) ?_
  clear F N d5
  intro h13' k13 m13 nx13 F N hJ_
  refine' hid fun kG_ => ?_
  obtain ⟨rfl, c5, tr, rfl, d5⟩ := hJ_
  refine' kG_ ?_
  clear kG_
  refine step (hst 13 (by decide)) (st_texts ho (hst 13 (by decide)) B X T F N hab d1 h5 (u _ hlm) him) ?_
  clear F N hab hlm him d1
  intro h14' k14 m14 nx14 F N hJ_
  refine' hid fun kG_ => ?_
  obtain ⟨lx, vx, nx₀, e, rfl, hab, hix⟩ := hJ_
  refine' kG_ ?_
  clear kG_
  have f8 := set_new e
  replace f1 := set_old e f1 rfl
  replace f2 := set_old e f2 rfl
  replace f5 := set_old e f5 rfl
  replace f6 := set_old e f6 rfl
  clear e
  have hlx : (lx, W.listOf vx.toArray nx₀) ∈ (lx, W.listOf vx.toArray nx₀) :: tl7 := .head _
  replace hlw := Sub.cons (x := (lx, W.listOf vx.toArray nx₀)) _ hlw
  replace u := u.trans (Sub.cons (x := (lx, W.listOf vx.toArray nx₀)))
  generalize (lx, W.listOf vx.toArray nx₀) :: tl7 = tl8 at *
  refine step (hst 14 (by decide)) (st_if2 ho (hst 14 (by decide)) B X T F N hab ⟨f8, trivial⟩ (by rw [List.length_map]; exact h2) (by rw [List.length_map]; exact h5) hlx hix (fm_ten md) (fm_nine md)) ?_
  clear F N
  intro h15' k15 m15 nx15 F N hJ_
  refine' hid fun kG_ => ?_
  obtain ⟨rfl, rfl⟩ := hJ_
  refine' kG_ ?_
  clear kG_
  refine step (hst 15 (by decide)) (st_shown ho (hst 15 (by decide)) B X T F N hab ⟨f8, trivial⟩ d2 hg0 hg3 (by rw [List.length_map]; exact h5) hlx hix (fm_ten md)) ?_
  clear F N hab f8 hlx hix
  intro h16' k16 m16 nx16 F N hJ_
  refine' hid fun kG_ => ?_
  obtain ⟨ly, vy, ny, e, rfl, hab, hiy⟩ := hJ_
  refine' kG_ ?_
  clear kG_
  have f9 := set_new e
  replace f1 := set_old e f1 rfl
  replace f2 := set_old e f2 rfl
  replace f5 := set_old e f5 rfl
  replace f6 := set_old e f6 rfl
  clear e
  have hly : (ly, W.listOf vy.toArray ny) ∈ (ly, W.listOf vy.toArray ny) :: tl8 := .head _
  replace hlw := Sub.cons (x := (ly, W.listOf vy.toArray ny)) _ hlw
  replace u := u.trans (Sub.cons (x := (ly, W.listOf vy.toArray ny)))
  generalize (ly, W.listOf vy.toArray ny) :: tl8 = tl9 at *
  replace hiy : StrsAre vy (md.map (sgnF g)) := by rw [List.map_map] at hiy; exact hiy
  have hsh := shown_all hg0 hg3 md
  refine' hid fun kG_ => ?_
  obtain ⟨t0, hy0, hs0⟩ := first_shown h2 hiy hsh
  refine' kG_ ?_
  clear kG_
  refine step (hst 16 (by decide)) (st_given ho (hst 16 (by decide)) B X T F N hab ⟨f9, trivial⟩ hly hy0 hs0) ?_
  clear F N hab hy0 hs0
  intro h17' k17 m17 nx17 F N hJ_
  refine' hid fun kG_ => ?_
  obtain ⟨lg, e, rfl, hab⟩ := hJ_
  refine' kG_ ?_
  clear kG_
  have f10 := set_new e
  replace f1 := set_old e f1 rfl
  replace f2 := set_old e f2 rfl
  replace f5 := set_old e f5 rfl
  replace f6 := set_old e f6 rfl
  replace f9 := set_old e f9 rfl
  clear e
  have hbs := given_all hg0 hg3 (md := md) (Nat.lt_of_lt_of_le (by decide) h2)
  generalize givF (sgnF g (md.getD 0 0)) = bs at *
  have hlg : (lg, W.listOf (bs.map Value.bool).toArray 0) ∈ (lg, W.listOf (bs.map Value.bool).toArray 0) :: tl9 := .head _
  replace hlw := Sub.cons (x := (lg, W.listOf (bs.map Value.bool).toArray 0)) _ hlw
  replace hly := Sub.cons (x := (lg, W.listOf (bs.map Value.bool).toArray 0)) _ hly
  replace u := u.trans (Sub.cons (x := (lg, W.listOf (bs.map Value.bool).toArray 0)))
  generalize (lg, W.listOf (bs.map Value.bool).toArray 0) :: tl9 = tl10 at *
  refine step (hst 17 (by decide)) (st_if3 ho (hst 17 (by decide)) B X T F N hab ⟨f10, trivial⟩ d4 hlg h2 h5 (u _ hlc) (hic.mono u) hbs) ?_
  clear F N hbs hlg f10
  intro h18' k18 m18 nx18 F N hJ_
  refine' hid fun kG_ => ?_
  obtain ⟨rfl, rfl⟩ := hJ_
  refine' kG_ ?_
  clear kG_
  refine step (hst 18 (by decide)) (st_for ho (hst 18 (by decide)) B X T F N hab (lo := loV g md) (up := upV g md) (t1 := tlo) (t2 := tup) ⟨f5, f6, f9, f1, f2, trivial⟩ d2 d5 d6 hg0 hg3 (u _ hlt) (hfs.mono u) hlw hiw hly hiy (by rw [List.length_map]; exact h5) hw0 hsh htu hE) ?_
  rintro h19' k19 m19 nx19 F N -
  refine exec_step (hst 19 (by decide)) (st_ret ho (hst 19 (by decide)) B X T F fun tk => ?_)
  exact hQ _ _ _ F
set_option maxHeartbeats 8000000 in
/-- from the fifth statement on -/
theorem rest_all {c6 c5 c4 c3 c2 c1 : Obj} {tl3 : List (Addr × Obj)} {g : Int} {tg : Tok} {v5 v6 : Option Value} {lm lp lc : Addr} {vm vp vc : List Value} {nm np nc : Nat} {md : List Int}
    (ho : (hd.heap_39 w.params).lookup 145 = some ⟨oc, od, .func (fnOf name qual params body scope dV kV doc pm an cdv ct), osl⟩)
    (B : Below callerA h₀ [] h₀) (X : (hd.heap_39 w.params).In h₀) (T : Top hd.view_39 lz mean mg mb h₀) (F : Fr h₀ L s.heap m) (N : News h₀ L s.heap (led6 L c6 c5 c4 c3 c2 c1 tl3)) (hab : Above L tl3)
    (d1 : c1.data = .cell (some (.ref lm))) (d2 : c2.data = .cell (some (.int g tg))) (d3 : c3.data = .cell (some (.ref lp))) (d4 : c4.data = .cell (some (.ref lc))) (d5 : c5.data = .cell v5) (d6 : c6.data = .cell v6) (hg0 : 0 ≤ g) (hg3 : g < 3)
    (h2 : 2 ≤ md.length) (h5 : md.length ≤ 5) (hlm : (lm, W.listOf vm.toArray nm) ∈ tl3) (him : IntsAre vm md) (hlp : (lp, W.listOf vp.toArray np) ∈ tl3) (hip : IntsAre vp (pw g)) (hlc : (lc, W.listOf vc.toArray nc) ∈ tl3) (hic : ColsP tl3 vc (colsF g md))
    (hlen : body.length = 20) (hE : PassesOwn (model prg w) (callerA.deeper (envOfC qual scope L a ccd)) (envOfC qual scope L a ccd) E)
    (hQ : ∀ h' tk m', Fr h₀ L h' m' → Q (.ret (.bool true)) { s with heap := h', toks := tk }) :
    wpAny (model prg w) (callerA.deeper (envOfC qual scope L a ccd)) (execs (body.drop 4) (envOfC qual scope L a ccd)) Q E s := by
  have hst : ∀ i, (h : i < 20) → body[i]? = some (body[i]'(hlen ▸ h)) := fun i h => List.getElem?_eq_getElem _
  refine step (hst 4 (by decide)) (st_lower ho (hst 4 (by decide)) B X T F N hab d3 d4 hg0 hg3 h2 h5 hlp hip hlc hic) ?_
  clear F N
  intro h5' k5 m5 nx5 F N hJ_
  refine' hid fun kG_ => ?_
  obtain ⟨tlo, e, rfl⟩ := hJ_
  refine' kG_ ?_
  clear kG_
  have f1 : m5 (Str.ofString "lower") = some (.int (loV g md) tlo) := set_new e
  clear e
  refine step (hst 5 (by decide)) (st_upper ho (hst 5 (by decide)) B X T F N hab d3 d4 hg0 hg3 h2 h5 hlp hip hlc hic) ?_
  clear F N
  intro h6' k6 m6 nx6 F N hJ_
  refine' hid fun kG_ => ?_
  obtain ⟨tup, e, rfl⟩ := hJ_
  refine' kG_ ?_
  clear kG_
  have f2 : m6 (Str.ofString "upper") = some (.int (upV g md) tup) := set_new e
  replace f1 := set_old e f1 rfl
  clear e
  refine step (hst 6 (by decide)) (st_least ho (hst 6 (by decide)) B X T F N hab d1 d4 h2 h5 hlm him hlc hic) ?_
  clear F N
  intro h7' k7 m7 nx7 F N hJ_
  refine' hid fun kG_ => ?_
  obtain ⟨tle, e, rfl⟩ := hJ_
  refine' kG_ ?_
  clear kG_
  have f3 : m7 (Str.ofString "least") = some (.int (leV g md) tle) := set_new e
  replace f1 := set_old e f1 rfl
  replace f2 := set_old e f2 rfl
  clear e
  refine step (hst 7 (by decide)) (st_costs ho (hst 7 (by decide)) B X T F N hab d1 d3 d4 hg0 hg3 h2 h5 hlm him hlp hip hlc hic) ?_
  clear F N hab
  intro h8' k8 m8 nx8 F N hJ_
  refine' hid fun kG_ => ?_
  obtain ⟨lk, vk, nk, own8, tn, e, rfl, hab, htn, hpt, hso⟩ := hJ_
  refine' kG_ ?_
  clear kG_
  have f4 := set_new e
  replace f1 := set_old e f1 rfl
  replace f2 := set_old e f2 rfl
  replace f3 := set_old e f3 rfl
  clear e
  have hlk : (lk, W.listOf vk.toArray nk) ∈ (lk, W.listOf vk.toArray nk) :: (own8 ++ tl3) := .head _
  have u : Sub tl3 ((lk, W.listOf vk.toArray nk) :: (own8 ++ tl3)) := Sub.app
  replace htn := htn.mono (Sub.own (x := (lk, W.listOf vk.toArray nk)))
  generalize (lk, W.listOf vk.toArray nk) :: (own8 ++ tl3) = tl4 at *
  refine step (hst 8 (by decide)) (st_told (Dom := DomG g) ho (hst 8 (by decide)) B X T F N hab ⟨f3, f1, f4, trivial⟩ hlk htn (by rw [hpt.length_eq]; rfl) (le_nonneg g md) ⟨_, mk4_lt _, lo_phi g md⟩ (fun q hq => (dom_cost hpt q hq).1) (dom_xor hg0 hg3) (dom_bd hg0 hg3) (fun q hq => (dom_cost hpt q hq).2) hso) ?_
  clear F N f3 f4 hab hlk htn hso
  intro h9' k9 m9 nx9 F N hJ_
  refine' hid fun kG_ => ?_
  obtain ⟨lt, vt, nt, own9, fs, e, rfl, hab, hfs, hpf, hfo, hfh⟩ := hJ_
  refine' kG_ ?_
  clear kG_
  have f5 := set_new e
  replace f1 := set_old e f1 rfl
  replace f2 := set_old e f2 rfl
  clear e
  have hlt : (lt, W.listOf vt.toArray nt) ∈ (lt, W.listOf vt.toArray nt) :: (own9 ++ tl4) := .head _
  replace u := u.trans (Sub.app (x := (lt, W.listOf vt.toArray nt)) (o := own9))
  replace hfs := hfs.mono (Sub.own' (x := (lt, W.listOf vt.toArray nt)) (a := tl4))
  generalize (lt, W.listOf vt.toArray nt) :: (own9 ++ tl4) = tl5 at *
  have h16 : fs.length ≤ 16 := by have := hpf.length_eq; rw [allSub_len] at this; exact Nat.le_of_eq this
  have hev := told_every hg0 hg3 hpt hpf
  have htu := turn_all hg0 hg3 hpt hpf hfh
  have hw0 : 0 < (fs.map (·.1)).length := by
    cases fs with
    | nil => cases hfh
    | cons _ _ => exact Nat.succ_pos _
  clear hpf hfh hpt
  exact tail_all ho B X T F N hab d1 d2 d3 d4 d5 d6 hg0 hg3 h2 h5 (u _ hlm) him (u _ hlp) hip (u _ hlc) (hic.mono u) hlen hE hQ f1 f2 f5 hlt hfs h16 hfo hev htu hw0
set_option maxHeartbeats 8000000 in
theorem st_all {ls : Addr} {vs : List Value} {sc : List Int} {c6 c5 c4 c3 c2 c1 : Obj} {v1 v2 v3 v4 v5 v6 : Option Value}
    (ho : (hd.heap_39 w.params).lookup 145 = some ⟨oc, od, .func (fnOf name qual params body scope dV kV doc pm an cdv ct), osl⟩)
    (B : Below callerA h₀ [] h₀) (X : (hd.heap_39 w.params).In h₀) (T : Top hd.view_39 lz mean mg mb h₀) (hl : h₀.IsList ls vs.toArray) (hi : IntsAre vs sc) (h63 : sc.length ≤ 63)
    (F : Fr h₀ L s.heap m) (hm : KnownAll m [(Str.ofString "script", .ref ls)]) (N : News h₀ L s.heap (led6 L c6 c5 c4 c3 c2 c1 []))
    (d1 : c1.data = .cell v1) (d2 : c2.data = .cell v2) (d3 : c3.data = .cell v3) (d4 : c4.data = .cell v4) (d5 : c5.data = .cell v5) (d6 : c6.data = .cell v6)
    (hE : PassesOwn (model prg w) (callerA.deeper (envOfC qual scope L a ccd)) (envOfC qual scope L a ccd) E)
    (hQ : ∀ h' tk m', Fr h₀ L h' m' → Q (.ret (.bool true)) { s with heap := h', toks := tk }) :
    wpAny (model prg w) (callerA.deeper (envOfC qual scope L a ccd)) (execs body (envOfC qual scope L a ccd)) Q E s := by
  have hlen := law_len ho X
  have hst : ∀ i, (h : i < 20) → body[i]? = some (body[i]'(hlen ▸ h)) := fun i h => List.getElem?_eq_getElem _
  show wpAny _ _ (execs (body.drop 0) _) _ _ _
  refine step (hst 0 (by decide)) (st_modes (ts := 0) ho (hst 0 (by decide)) B X T hl hi h63 F hm N d1) ?_
  clear F hm N d1
  intro h1 k1 m1 nx1 F N hJ_
  refine' hid fun kG_ => ?_
  obtain ⟨hm, c1, lm, vm, nm, md, rfl, hab, d1, him, h2, h5, -⟩ := hJ_
  refine' kG_ ?_
  clear kG_
  refine step (hst 1 (by decide)) (st_group ho (hst 1 (by decide)) B X T F hl hi h63 hm N hab d2) ?_
  clear F hm N d2 hl hi h63
  intro h2' k2 m2 nx2 F N hJ_
  refine' hid fun kG_ => ?_
  obtain ⟨c2, g, tg, rfl, d2, hg0, hg3⟩ := hJ_
  refine' kG_ ?_
  clear kG_
  refine step (hst 2 (by decide)) (st_powers ho (hst 2 (by decide)) B X T F N hab d2 d3 hg0 hg3) ?_
  clear F N d3 hab
  intro h3' k3 m3 nx3 F N hJ_
  refine' hid fun kG_ => ?_
  obtain ⟨c3, lp, vp, np, rfl, hab, d3, hip⟩ := hJ_
  refine' kG_ ?_
  clear kG_
  have hlm : (lm, W.listOf vm.toArray nm) ∈ (lp, W.listOf vp.toArray np) :: [(lm, W.listOf vm.toArray nm)] := .tail _ (.head _)
  have hlp : (lp, W.listOf vp.toArray np) ∈ (lp, W.listOf vp.toArray np) :: [(lm, W.listOf vm.toArray nm)] := .head _
  generalize (lp, W.listOf vp.toArray np) :: [(lm, W.listOf vm.toArray nm)] = tl2 at *
  refine step (hst 3 (by decide)) (st_columns ho (hst 3 (by decide)) B X T F N hab d1 d3 d4 hg0 hg3 hlm him h5 hlp hip) ?_
  clear F N d4 hab
  intro h4' k4 m4 nx4 F N hJ_
  refine' hid fun kG_ => ?_
  obtain ⟨c4, lc, vc, nc, own, rfl, hab, d4, hic⟩ := hJ_
  refine' kG_ ?_
  clear kG_
  have hlc : (lc, W.listOf vc.toArray nc) ∈ (lc, W.listOf vc.toArray nc) :: (own ++ tl2) := .head _
  replace hlm := Sub.app (x := (lc, W.listOf vc.toArray nc)) (o := own) _ hlm
  replace hlp := Sub.app (x := (lc, W.listOf vc.toArray nc)) (o := own) _ hlp
  generalize (lc, W.listOf vc.toArray nc) :: (own ++ tl2) = tl3 at *
  exact rest_all ho B X T F N hab d1 d2 d3 d4 d5 d6 hg0 hg3 h2 h5 hlm him hlp hip hlc hic hlen hE hQ
end

end
section
section
theorem st_all' {w : World} {mean : ExcName → Option Value} {mg mb : Str → Option Value} {a : Addr} {ccd : Value} {h₀ : Heap} {L : Addr} {m : Str → Option Value} {s : Shared} {Q : Flow → Shared → Prop} {E : Value → Shared → Prop}
    {o : Obj} {oc : Value} {od : Option Addr} {name qual : Str} {params : Arguments} {body : List Stmt} {scope : Scope} {dV kV doc pm cdv ct : Value} {an : Option Addr} {osl : Array (Option Value)}
    {ls : Addr} {vs : List Value} {sc : List Int} {c6 c5 c4 c3 c2 c1 : Obj} {v1 v2 v3 v4 v5 v6 : Option Value}
    (ho : (hd.heap_39 w.params).lookup 145 = some o) (he : o = ⟨oc, od, .func (fnOf name qual params body scope dV kV doc pm an cdv ct), osl⟩)
    (B : Below callerA h₀ [] h₀) (X : (hd.heap_39 w.params).In h₀) (T : Top hd.view_39 lz mean mg mb h₀) (hl : h₀.IsList ls vs.toArray) (hi : IntsAre vs sc) (h63 : sc.length ≤ 63)
    (F : Fr h₀ L s.heap m) (hm : KnownAll m [(Str.ofString "script", .ref ls)]) (N : News h₀ L s.heap (led6 L c6 c5 c4 c3 c2 c1 []))
    (d1 : c1.data = .cell v1) (d2 : c2.data = .cell v2) (d3 : c3.data = .cell v3) (d4 : c4.data = .cell v4) (d5 : c5.data = .cell v5) (d6 : c6.data = .cell v6)
    (hE : PassesOwn (model prg w) (callerA.deeper (envOfC qual scope L a ccd)) (envOfC qual scope L a ccd) E)
    (hQ : ∀ h' tk m', Fr h₀ L h' m' → Q (.ret (.bool true)) { s with heap := h', toks := tk }) :
    wpAny (model prg w) (callerA.deeper (envOfC qual scope L a ccd)) (execs body (envOfC qual scope L a ccd)) Q E s := by
  subst he
  exact st_all ho B X T hl hi h63 F hm N d1 d2 d3 d4 d5 d6 hE hQ
set_option maxHeartbeats 8000000 in
theorem law_holds : PySem.Challenge.rw_om0049_02.Holds := hd (by
  k_with_none
  k_with "ne" => (refine neN ?_; (try dsimp only); with_reducible first | assumption | exact Ne.symm (by assumption) | exact ne1 | exact ne1.symm | exact ne2 | exact ne2.symm | exact ne3 | exact ne3.symm | exact ne4 | exact ne4.symm | exact ne5 | exact ne5.symm | exact nl1 (by assumption) | exact nl2 (by assumption) | exact nl3 (by assumption) | exact (nl1 (by assumption)).symm | exact (nl2 (by assumption)).symm | exact (nl3 (by assumption)).symm | exact Nat.ne_of_lt (by assumption) | exact Nat.ne_of_gt (by assumption) | exact cj1 (by assumption) | exact Ne.symm (cj1 (by assumption)) | exact Nat.ne_of_lt (cj1 (by assumption)) | exact Nat.ne_of_gt (cj1 (by assumption)) | exact cj2 (by assumption) | exact Ne.symm (cj2 (by assumption)) | exact Nat.ne_of_lt (cj2 (by assumption)) | exact Nat.ne_of_gt (cj2 (by assumption)) | exact cj3 (by assumption) | exact Ne.symm (cj3 (by assumption)) | exact Nat.ne_of_lt (cj3 (by assumption)) | exact Nat.ne_of_gt (cj3 (by assumption)) | exact cj4 (by assumption) | exact Ne.symm (cj4 (by assumption)) | exact Nat.ne_of_lt (cj4 (by assumption)) | exact Nat.ne_of_gt (cj4 (by assumption)) | exact cj5 (by assumption) | exact Ne.symm (cj5 (by assumption)) | exact Nat.ne_of_lt (cj5 (by assumption)) | exact Nat.ne_of_gt (cj5 (by assumption)) | exact cj6 (by assumption) | exact Ne.symm (cj6 (by assumption)) | exact Nat.ne_of_lt (cj6 (by assumption)) | exact Nat.ne_of_gt (cj6 (by assumption)) | exact cj7 (by assumption) | exact Ne.symm (cj7 (by assumption)) | exact Nat.ne_of_lt (cj7 (by assumption)) | exact Nat.ne_of_gt (cj7 (by assumption)) | exact cj8 (by assumption) | exact Ne.symm (cj8 (by assumption)) | exact Nat.ne_of_lt (cj8 (by assumption)) | exact Nat.ne_of_gt (cj8 (by assumption)) | exact cj9 (by assumption) | exact Ne.symm (cj9 (by assumption)) | exact Nat.ne_of_lt (cj9 (by assumption)) | exact Nat.ne_of_gt (cj9 (by assumption)) | exact ej5 (by assumption) | exact Ne.symm (ej5 (by assumption)) | exact Nat.ne_of_lt (ej5 (by assumption)) | exact Nat.ne_of_gt (ej5 (by assumption)) | exact ej6 (by assumption) | exact Ne.symm (ej6 (by assumption)) | exact Nat.ne_of_lt (ej6 (by assumption)) | exact Nat.ne_of_gt (ej6 (by assumption)) | exact ej7 (by assumption) | exact Ne.symm (ej7 (by assumption)) | exact Nat.ne_of_lt (ej7 (by assumption)) | exact Nat.ne_of_gt (ej7 (by assumption)) | exact ej8 (by assumption) | exact Ne.symm (ej8 (by assumption)) | exact Nat.ne_of_lt (ej8 (by assumption)) | exact Nat.ne_of_gt (ej8 (by assumption)) | exact ej9 (by assumption) | exact Ne.symm (ej9 (by assumption)) | exact Nat.ne_of_lt (ej9 (by assumption)) | exact Nat.ne_of_gt (ej9 (by assumption)))
  k_with "binaryOp RShift int int" => (k_here; (with_reducible refine shr1 ?_))
  k_with "binaryOp Mod int int" => (k_here; (with_reducible refine mod_pos ?k1 ?_); (case k1 => decide))
  k_with "binaryOp FloorDiv int int" => (k_here; (with_reducible refine fdiv_pos ?k1 ?k2 ?_); (case k1 => decide); (case k2 => decide +kernel))
  k_with "call ref" => (k_here; refine wpAny_call ?_; k_dflt (refine' code_def ?k1 ?k2 ?k3 ?k4 ?k5 ?kA ?kF ?kK ?k6 ?k7 ?k8 ?k9 ?kB ?_ ?c2 ?c3 ?c4 ?c5; (case kA => exact rfl); (case kF => exact rfl); (case kK => first | exact rfl | assumption); (case k1 => k_asm); (case k2 => k_asm); (case k3 => k_asm); (case k4 => k_asm); (case k5 => k_asm); (case k6 => k_is); (case k7 => k_is); (case k8 => (first | exact unL2 (by assumption) rfl | exact unL1 (by assumption) rfl | exact unL0 (by assumption) | ktr_room)); (case k9 => exact BindsTo.of_eq rfl); (case c5 => decide); (case kB => exact locs rfl); (case c2 => exact rfl); (case c3 => exact rfl); (case c4 => exact rfl); k_whole; intro g' L' h' FG' F' N' B' X' T'; (try dsimp only); (try k_lift B'); (try k_fold)))
  k_with "execs cons" => (k_here; first | (k_made; walk_at "execs cons") | k_gentoks | ((with_reducible refine wpAny_execs_cons ?_); (try dsimp only); (try k_fold)))
  k_with "idx" => (first | with_reducible assumption | (first | lia | omega))
  k_with "upd" => (first | (refine' Pick.head ?a; (case a => k_all)) | (refine' Pick.tail ?a ?b; (case a => k_ne); (case b => k_upd)))
  k_go0
  all_goals try k_fold
  rename News _ _ _ _ => N0
  rename Fr _ _ _ _ => F0
  refine' st_all' ?ho ?he ?B ?X ?T ?hl ?hi ?h63 F0 ?hm N0 ?d1 ?d2 ?d3 ?d4 ?d5 ?d6 ?hE ?hQ
  case ho => k_is
  case he => exact rfl
  case B => assumption
  case X => assumption
  case T => assumption
  case hl => assumption
  case hi => assumption
  case h63 => (first | lia | omega)
  case hm => exact ⟨rfl, trivial⟩
  case d1 => assumption
  case d2 => assumption
  case d3 => assumption
  case d4 => assumption
  case d5 => assumption
  case d6 => assumption
  case hE => passes_own
  case hQ =>
    intro h' tk m' F9
    clear N0 F0
    k_steps)
end

end
end
end Mine
theorem PySem.Challenge.cw_om0049_02_holds : PySem.Challenge.rw_om0049_02.Holds :=
  Mine.law_holds
