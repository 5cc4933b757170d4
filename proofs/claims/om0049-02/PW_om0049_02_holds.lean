import PyProof.Rows.All
import Wide.All
import OpenK.AllK
import Wide.FinOn
import PySem.Challenge.RW_om0049_02
open PySem PySem.W PyProof.Rows PySem.Spec PySem.Calls
set_option Elab.async false
set_option maxRecDepth 100000
set_option maxHeartbeats 8000000
namespace Mine
open_top hd for PySem.Challenge.rw_om0049_02
section
noncomputable abbrev prg : Program := PySem.Challenge.rw_om0049_02.row.prog
noncomputable abbrev lz : List Str := looseW hd.view_39 [Str.ofString "_filemode_table"]

section
variable {prog : Program} {w : World} {A : Around} {E : Value → Shared → Prop} {s : Shared} {t u : Tok} {a b : Int} {Q : Value → Shared → Prop}
theorem shr1 (h : Q (.int (a / 2) s.toks) { s with toks := s.toks + 1 }) : wpAny (model prog w) A (binaryOp .RShift (.int a t) (.int 1 u)) Q E s := by
  refine rshift_int (by decide) ?_
  have e : a.fdiv (2 ^ (1 : Int).toNat) = a / 2 := by
    show a.fdiv 2 = a / 2
    exact Int.fdiv_eq_ediv_of_nonneg _ (by decide)
  rw [e]; exact h
theorem mod_pos (hb : 0 < b) (h : Q (.int (a % b) s.toks) { s with toks := s.toks + 1 }) : wpAny (model prog w) A (binaryOp .Mod (.int a t) (.int b u)) Q E s := by
  refine mod_int' (Int.ne_of_gt hb) ?_
  rw [Int.fmod_eq_emod_of_nonneg _ (Int.le_of_lt hb)]; exact h
theorem fdiv_pos (hb : 0 < b) (hl : b.natAbs.log2 < 9000) (h : Q (.int (a / b) s.toks) { s with toks := s.toks + 1 }) : wpAny (model prog w) A (binaryOp .FloorDiv (.int a t) (.int b u)) Q E s := by
  refine floordiv_int (Int.ne_of_gt hb) ?_ (Or.inl (PyProof.noPylong_of_log2 hl))
  rw [Int.fdiv_eq_ediv_of_nonneg _ (Int.le_of_lt hb)]; exact h
end

/-- one object of a ledger, and the others -/
inductive Pick (l : Addr) (o : Obj) : List (Addr × Obj) → List (Addr × Obj) → Prop
  | head {r} : (∀ p ∈ r, p.1 ≠ l) → Pick l o ((l, o) :: r) r
  | tail {p r r'} : p.1 ≠ l → Pick l o r r' → Pick l o (p :: r) (p :: r')
theorem Pick.off {l : Addr} {o : Obj} {news rest : List (Addr × Obj)} (h : Pick l o news rest) : ∀ p ∈ rest, p.1 ≠ l := by
  induction h with
  | head h => exact h
  | tail h _ ih =>
    intro q hq
    rcases List.mem_cons.mp hq with rfl | hq
    · exact h
    · exact ih q hq
theorem Pick.sub {l : Addr} {o : Obj} {news rest : List (Addr × Obj)} (h : Pick l o news rest) : ∀ p ∈ (l, o) :: rest, p ∈ news := by
  induction h with
  | head h => exact fun p hp => hp
  | tail h _ ih =>
    intro q hq
    rcases List.mem_cons.mp hq with rfl | hq
    · exact List.mem_cons_of_mem _ (ih _ (List.mem_cons_self ..))
    · rcases List.mem_cons.mp hq with rfl | hq
      · exact List.mem_cons_self ..
      · exact List.mem_cons_of_mem _ (ih _ (List.mem_cons_of_mem _ hq))
theorem Pick.news {l : Addr} {o : Obj} {news rest : List (Addr × Obj)} {h₀ h : Heap} {L : Addr} (P : Pick l o news rest) (N : News h₀ L h news) : News h₀ L h ((l, o) :: rest) := fun p hp => N p (P.sub p hp)

theorem ints_eq {vs : List Value} {xs ys : List Int} (h : IntsAre vs xs) (e : xs = ys) : IntsAre vs ys := e ▸ h

theorem at_int {Q : Value → Shared → Prop} {x y : Int} {t : Tok} {s : Shared} (e : x = y) (h : Q (.int x t) s) : Q (.int y t) s := e ▸ h

/-- siftdown from 0, on plain lists -/
def sd (new : Int) : Nat → List Int → Nat → List Int
  | 0, xs, pos => xs.set pos new
  | f + 1, xs, pos =>
    if pos = 0 then xs.set pos new
    else if new < xs.getD ((pos - 1) / 2) 0 then sd new f (xs.set pos (xs.getD ((pos - 1) / 2) 0)) ((pos - 1) / 2)
    else xs.set pos new
theorem sd_fuel (new : Int) : ∀ (f g : Nat) (xs : List Int) (pos : Nat), pos ≤ f → pos ≤ g → sd new f xs pos = sd new g xs pos
  | 0, 0, _, _, _, _ => rfl
  | 0, g + 1, xs, pos, h, _ => by
    have : pos = 0 := by omega
    subst this; simp [sd]
  | f + 1, 0, xs, pos, _, h => by
    have : pos = 0 := by omega
    subst this; simp [sd]
  | f + 1, g + 1, xs, pos, h1, h2 => by
    simp only [sd]
    split
    · rfl
    · split
      · exact sd_fuel new f g _ _ (by omega) (by omega)
      · rfl
theorem sd_length (new : Int) : ∀ (f : Nat) (xs : List Int) (pos : Nat), (sd new f xs pos).length = xs.length
  | 0, xs, pos => by simp [sd]
  | f + 1, xs, pos => by
    simp only [sd]
    split
    · simp
    · split
      · rw [sd_length new f]; simp
      · simp
theorem sd_go {new p : Int} {xs ys : List Int} (h0 : 0 < p) (hlt : new < xs.getD ((p - 1) / 2).toNat 0) (e : sd new p.toNat xs p.toNat = ys) :
    sd new ((p - 1) / 2).toNat (xs.set p.toNat (xs.getD ((p - 1) / 2).toNat 0)) ((p - 1) / 2).toNat = ys := by
  obtain ⟨k, hk⟩ : ∃ k, p.toNat = k + 1 := ⟨p.toNat - 1, by omega⟩
  have h2 : ((p - 1) / 2).toNat = (p.toNat - 1) / 2 := by omega
  rw [← e]
  rw [h2] at hlt ⊢
  rw [hk] at hlt ⊢
  simp only [sd, Nat.add_one_ne_zero, if_false]
  rw [if_pos hlt]
  exact sd_fuel _ _ _ _ _ (Nat.le_refl _) (by omega)
theorem sd_stop {new p : Int} {xs ys : List Int} (h0 : 0 < p) (hlt : ¬ new < xs.getD ((p - 1) / 2).toNat 0) (e : sd new p.toNat xs p.toNat = ys) : xs.set p.toNat new = ys := by
  obtain ⟨k, hk⟩ : ∃ k, p.toNat = k + 1 := ⟨p.toNat - 1, by omega⟩
  have h2 : ((p - 1) / 2).toNat = (p.toNat - 1) / 2 := by omega
  rw [← e]
  rw [h2] at hlt
  rw [hk] at hlt ⊢
  simp only [sd, Nat.add_one_ne_zero, if_false]
  rw [if_neg hlt]
theorem sd_zero {new p : Int} {xs ys : List Int} (h0 : ¬ 0 < p) (e : sd new p.toNat xs p.toNat = ys) : xs.set p.toNat new = ys := by
  rw [← e]
  have : p.toNat = 0 := by omega
  rw [this]; rfl

/-- siftup from 0: the way down -/
def suL (n : Nat) : Nat → List Int → Nat → List Int × Nat
  | 0, xs, pos => (xs, pos)
  | f + 1, xs, pos =>
    if 2 * pos + 1 < n then
      if 2 * pos + 2 < n ∧ ¬ xs.getD (2 * pos + 1) 0 < xs.getD (2 * pos + 2) 0 then suL n f (xs.set pos (xs.getD (2 * pos + 2) 0)) (2 * pos + 2)
      else suL n f (xs.set pos (xs.getD (2 * pos + 1) 0)) (2 * pos + 1)
    else (xs, pos)
def suF (xs : List Int) : List Int :=
  let r := suL xs.length xs.length xs 0
  sd (xs.getD 0 0) r.2 (r.1.set r.2 (xs.getD 0 0)) r.2
def pushF (xs : List Int) (x : Int) : List Int := sd x xs.length (xs ++ [x]) xs.length
def popV (xs : List Int) : Int := if xs.length = 1 then xs.getLastD 0 else xs.getD 0 0
def popF (xs : List Int) : List Int := if xs.length = 1 then [] else suF (xs.dropLast.set 0 (xs.getLastD 0))
theorem suL_fuel (n : Nat) : ∀ (f g : Nat) (xs : List Int) (pos : Nat), n - pos ≤ f → n - pos ≤ g → suL n f xs pos = suL n g xs pos
  | 0, 0, _, _, _, _ => rfl
  | 0, g + 1, xs, pos, h, _ => by simp only [suL]; rw [if_neg (by omega)]
  | f + 1, 0, xs, pos, _, h => by simp only [suL]; rw [if_neg (by omega)]
  | f + 1, g + 1, xs, pos, h1, h2 => by
    simp only [suL]
    split
    · split
      · exact suL_fuel n f g _ _ (by omega) (by omega)
      · exact suL_fuel n f g _ _ (by omega) (by omega)
    · rfl
theorem suL_length (n : Nat) : ∀ (f : Nat) (xs : List Int) (pos : Nat), (suL n f xs pos).1.length = xs.length
  | 0, _, _ => rfl
  | f + 1, xs, pos => by
    simp only [suL]
    split
    · split <;> (rw [suL_length n f]; simp)
    · rfl
theorem suL_lt (n : Nat) : ∀ (f : Nat) (xs : List Int) (pos : Nat), pos < n → (suL n f xs pos).2 < n
  | 0, _, _, h => h
  | f + 1, xs, pos, h => by
    simp only [suL]
    split
    · split
      · exact suL_lt n f _ _ (by omega)
      · exact suL_lt n f _ _ (by omega)
    · exact h
theorem suL_right {n : Nat} {p : Int} {xs : List Int} {r : List Int × Nat} (hp : 0 ≤ p) (h1 : 2 * p + 1 + 1 < (n : Int)) (hlt : ¬ xs.getD (2 * p + 1).toNat 0 < xs.getD (2 * p + 1 + 1).toNat 0) (e : suL n (n - p.toNat) xs p.toNat = r) :
    suL n (n - (2 * p + 1 + 1).toNat) (xs.set p.toNat (xs.getD (2 * p + 1 + 1).toNat 0)) (2 * p + 1 + 1).toNat = r := by
  obtain ⟨k, hk⟩ : ∃ k, n - p.toNat = k + 1 := ⟨n - p.toNat - 1, by omega⟩
  have e1 : (2 * p + 1).toNat = 2 * p.toNat + 1 := by omega
  have e2 : (2 * p + 1 + 1).toNat = 2 * p.toNat + 2 := by omega
  rw [e1, e2] at hlt
  rw [e2, ← e, hk]
  simp only [suL]
  rw [if_pos (by omega), if_pos ⟨by omega, hlt⟩]
  exact suL_fuel _ _ _ _ _ (by omega) (by omega)
theorem suL_left {n : Nat} {p : Int} {xs : List Int} {r : List Int × Nat} (hp : 0 ≤ p) (h1 : 2 * p + 1 < (n : Int)) (hlt : ¬ (2 * p + 1 + 1 < (n : Int)) ∨ xs.getD (2 * p + 1).toNat 0 < xs.getD (2 * p + 1 + 1).toNat 0) (e : suL n (n - p.toNat) xs p.toNat = r) :
    suL n (n - (2 * p + 1).toNat) (xs.set p.toNat (xs.getD (2 * p + 1).toNat 0)) (2 * p + 1).toNat = r := by
  obtain ⟨k, hk⟩ : ∃ k, n - p.toNat = k + 1 := ⟨n - p.toNat - 1, by omega⟩
  have e1 : (2 * p + 1).toNat = 2 * p.toNat + 1 := by omega
  have e2 : (2 * p + 1 + 1).toNat = 2 * p.toNat + 2 := by omega
  rw [e1, e2] at hlt
  rw [e1, ← e, hk]
  simp only [suL]
  rw [if_pos (by omega), if_neg (fun h => hlt.elim (fun q => by omega) (fun q => h.2 q))]
  exact suL_fuel _ _ _ _ _ (by omega) (by omega)
theorem suL_done {n : Nat} {p : Int} {xs : List Int} {r : List Int × Nat} (hp : 0 ≤ p) (h1 : ¬ 2 * p + 1 < (n : Int)) (e : suL n (n - p.toNat) xs p.toNat = r) : r = (xs, p.toNat) := by
  rw [← e]
  cases n - p.toNat with
  | zero => rfl
  | succ k => simp only [suL]; rw [if_neg (by omega)]
theorem push_eq (xs : List Int) (x : Int) (p : Int) (hp : p.toNat = xs.length) : sd ((xs ++ [x]).getD p.toNat 0) p.toNat (xs ++ [x]) p.toNat = pushF xs x := by
  rw [hp]
  have e : (xs ++ [x]).getD xs.length 0 = x := by simp [List.getD]
  rw [e]; rfl
theorem suL_rightC {n : Nat} {p c : Int} {xs : List Int} {r : List Int × Nat} (hc : c = 2 * p + 1) (hp : 0 ≤ p) (h1 : c + 1 < (n : Int)) (hlt : ¬ xs.getD c.toNat 0 < xs.getD (c + 1).toNat 0) (e : suL n (n - p.toNat) xs p.toNat = r) :
    suL n (n - (c + 1).toNat) (xs.set p.toNat (xs.getD (c + 1).toNat 0)) (c + 1).toNat = r := by
  subst hc; exact suL_right hp h1 hlt e
theorem suL_leftC {n : Nat} {p c : Int} {xs : List Int} {r : List Int × Nat} (hc : c = 2 * p + 1) (hp : 0 ≤ p) (h1 : c < (n : Int)) (hlt : ¬ (c + 1 < (n : Int)) ∨ xs.getD c.toNat 0 < xs.getD (c + 1).toNat 0) (e : suL n (n - p.toNat) xs p.toNat = r) :
    suL n (n - c.toNat) (xs.set p.toNat (xs.getD c.toNat 0)) c.toNat = r := by
  subst hc; exact suL_left hp h1 hlt e
theorem suL_doneC {n : Nat} {p c : Int} {xs : List Int} {r : List Int × Nat} (hc : c = 2 * p + 1) (hp : 0 ≤ p) (h1 : ¬ c < (n : Int)) (e : suL n (n - p.toNat) xs p.toNat = r) : r = (xs, p.toNat) := by
  subst hc; exact suL_done hp h1 e
theorem su_end {p c new : Int} {xs ys : List Int} (hc : c = 2 * p + 1) (hp : 0 ≤ p) (h1 : ¬ c < (xs.length : Int)) (e : suL xs.length (xs.length - p.toNat) ys p.toNat = suL xs.length xs.length xs 0) (hl : ys.length = xs.length) (hp1 : p < xs.length) (hn : new = xs.getD 0 0) :
    sd ((ys.set p.toNat new).getD p.toNat 0) p.toNat (ys.set p.toNat new) p.toNat = suF xs := by
  have q := suL_doneC hc hp h1 e
  have g : (ys.set p.toNat new).getD p.toNat 0 = new := by
    have : p.toNat < ys.length := by omega
    simp [List.getD, this]
  rw [g, hn]
  simp only [suF, q]
theorem suF_length (xs : List Int) : (suF xs).length = xs.length := by
  simp only [suF, sd_length, List.length_set, suL_length]
theorem pushF_length (xs : List Int) (x : Int) : (pushF xs x).length = xs.length + 1 := by
  simp [pushF, sd_length]
theorem popF_length (xs : List Int) (h : 0 < xs.length) : (popF xs).length = xs.length - 1 := by
  unfold popF
  split
  · simp_all
  · simp [suF_length]
theorem pop_eq1 {xs : List Int} (h : ¬ 0 < xs.dropLast.length) (h2 : 0 < xs.length) : popV xs = xs.getLastD 0 ∧ popF xs = xs.dropLast := by
  have e : xs.length = 1 := by simp at h; omega
  have d : xs.dropLast = [] := List.eq_nil_of_length_eq_zero (by simp [e])
  simp [popV, popF, e, d]
theorem pop_eq2 {xs : List Int} (h : 0 < xs.dropLast.length) : popV xs = xs.dropLast.getD 0 0 ∧ popF xs = suF (xs.dropLast.set 0 (xs.getLastD 0)) := by
  have e : xs.length ≠ 1 := by simp at h; omega
  have g : xs.dropLast.getD 0 0 = xs.getD 0 0 := by
    match xs, h with
    | a :: b :: r, _ => simp [List.getD]
  simp only [popV, popF, if_neg e, g, and_self]
end
section
/-! enumerate over a tuple, and a for with an else -/
section
variable {prog : Program} {w : World} {A : Around} {E : Value → Shared → Prop} {s : Shared}

theorem nextOf_tup_item {it l : Addr} {i : Nat} {items : Array Value} {x : Value} {Q : Value → Shared → Prop} (hit : s.heap.IsTupleIter it l i)
    (hl : s.heap.IsTuple l items) (hx : items[i]? = some x)
    (hQ : ∀ h', h'.IsTupleIter it l (i + 1) → Heap.SameBut it s.heap h' → Q x { s with heap := h' }) :
    wpAny (model prog w) A (Builtin.SmallTypes.nextOf (.ref it)) Q E s := by
  obtain ⟨o, ho, hc, hd⟩ := id hit
  obtain ⟨ol, hol, _, nl, hdl⟩ := hl
  unfold Builtin.SmallTypes.nextOf
  refine wpAny_bind (wpAny_callSpecial?_slot (name := Str.ofString "__next__") hit.typeIs PySem.F.slot_tuple_iterator_next
    (wpAny_call_entry PySem.F.slot_tuple_iterator_next hit.typeIs PySem.F.entry_tuple_iterator_next ?_ (PySem.F.args_tuple_iterator_next_1 _)))
  show wpAny _ _ (field (.ref it) 0 >>= _) _ _ s
  refine wpAny_bind (wpAny_field ho hd (x := .ref l) rfl ?_)
  show wpAny _ _ (if (Value.ref l == Value.none) = true then _ else _) _ _ s
  rw [if_neg (show ¬ ((Value.ref l == Value.none) = true) from Bool.false_ne_true)]
  show wpAny _ _ (field (.ref it) 1 >>= _) _ _ s
  refine wpAny_bind (wpAny_field ho hd (x := .int i 0) rfl ?_)
  show wpAny _ _ (seqItems? (.ref l) >>= _) _ _ s
  refine wpAny_bind (wpAny_seqItems hol hdl ?_)
  simp only [Int.toNat_natCast, hx]
  refine wpAny_bind (wpAny_setField ho hd (by simp) (wpAny_pure ⟨x, rfl, wpAny_pure (hQ _ ?_ (Heap.SameBut.update ..))⟩))
  exact ⟨_, Heap.get?_update_self _ ho (Obj.isFreed_of_fields (Obj.data_mapFields hd _)), (Obj.cls_mapFields ..).trans hc, by
    rw [Obj.data_mapFields hd]; simp [rawInt]⟩

theorem nextOf_tup_end {it l : Addr} {i : Nat} {items : Array Value} {Q : Value → Shared → Prop} (hh : A.handled = none)
    (hit : s.heap.IsTupleIter it l i) (hl : s.heap.IsTuple l items) (hx : items[i]? = none)
    (hE : ∀ h' e, Heap.ExtBut it s.heap h' → (∃ o, h'.get? e = some o ∧ o.cls = .type "StopIteration") → E (.ref e) { s with heap := h' }) :
    wpAny (model prog w) A (Builtin.SmallTypes.nextOf (.ref it)) Q E s := by
  obtain ⟨o, ho, hc, hd⟩ := id hit
  obtain ⟨ol, hol, _, nl, hdl⟩ := hl
  unfold Builtin.SmallTypes.nextOf
  refine wpAny_bind (wpAny_callSpecial?_slot (name := Str.ofString "__next__") hit.typeIs PySem.F.slot_tuple_iterator_next
    (wpAny_call_entry PySem.F.slot_tuple_iterator_next hit.typeIs PySem.F.entry_tuple_iterator_next ?_ (PySem.F.args_tuple_iterator_next_1 _)))
  show wpAny _ _ (field (.ref it) 0 >>= _) _ _ s
  refine wpAny_bind (wpAny_field ho hd (x := .ref l) rfl ?_)
  show wpAny _ _ (if (Value.ref l == Value.none) = true then _ else _) _ _ s
  rw [if_neg (show ¬ ((Value.ref l == Value.none) = true) from Bool.false_ne_true)]
  show wpAny _ _ (field (.ref it) 1 >>= _) _ _ s
  refine wpAny_bind (wpAny_field ho hd (x := .int i 0) rfl ?_)
  show wpAny _ _ (seqItems? (.ref l) >>= _) _ _ s
  refine wpAny_bind (wpAny_seqItems hol hdl ?_)
  simp only [Int.toNat_natCast, hx]
  refine wpAny_bind (wpAny_rule (wpAny_bind (wpAny_setField ho hd (by simp) ?_)))
  show wpAny _ _ (newExc (.type "StopIteration") [] >>= _) _ _ _
  refine wpAny_bind ?_
  simp only [newExc, newTuple]
  refine wpAny_bind (wpAny_newObj_type ?_ (by size_fits))
  refine wpAny_bind (m := firstArgMember _ _) (wpAny_of_eq (a := Value.none) (by first | rfl | (simp only [firstArgMember]; rfl)) ?_)
  refine wpAny_newObj_type ?_ (by size_fits)
  simp only [raiseNew]
  refine wpAny_bind (wpAny_handled ?_)
  first | rw [show A.in1.handled = none from hh] | rw [hh]
  refine wpAny_bind (wpAny_pure (wpAny_throw ?_))
  exact hE _ _ (((Heap.SameBut.update ..).extBut.push _).push _) ⟨_, Heap.get?_push_size _ rfl, rfl⟩
end

theorem draws_tup {prog : Program} {w : World} {A : Around} (hh : A.handled = none) (it l : Addr) (hne : l ≠ it) (items : Array Value) :
    Draws prog w A it [it, l] items.size (fun i v => items[i]? = some v) (fun i h => h.IsTupleIter it l i ∧ h.IsTuple l items) where
  live := fun _ _ st => let ⟨o, ho, _⟩ := st.1; ⟨o, ho⟩
  frame := fun _ _ _ st hk => ⟨st.1.at fun o e => hk it (by simp) o e, st.2.at fun o e => hk l (by simp) o e⟩
  item := fun i s Q E hi st hQ => by
    refine nextOf_tup_item st.1 st.2 (x := items[i]) (by simp [hi]) fun h' hit' hs' => ?_
    exact hQ _ h' s.toks (by simp [hi]) ⟨hit', st.2.extBut hs'.extBut hne⟩ hs'
  done := fun s Q E st hE => nextOf_tup_end hh st.1 st.2 (by simp) hE

section
open PySem.AutoSeq1 (wpAny_loadPart')
set_option maxHeartbeats 1000000 in
theorem meets_enum_newT (l : Addr) (items : Array Value) (n : Nat) (dct : Option Addr) (sl : Array (Option Value)) :
    Meets (Builtin.«enumerate.__new__» ⟨[.type "enumerate", .ref l], []⟩) (fun _ R s => s.heap.get? l = some { cls := .type "tuple", dict := dct, data := .seq items n, slots := sl } ∧
      R (.ok (.ret (.ref (s.heap.push { cls := .type "tuple_iterator", data := .fields #[.ref l, .int 0 0] }).objs.size)))
        { s with heap := (s.heap.push { cls := .type "tuple_iterator", data := .fields #[.ref l, .int 0 0] }).push { cls := .type "enumerate", data := .fields #[.none, .bool false, .ref s.heap.objs.size, rawInt 0, .none, .none] } }) :=
  .of_wp fun prog w A R s h => by
    obtain ⟨hp, g, d, tk, os⟩ := s; obtain ⟨hl, h⟩ := h
    have hsub := sub_enumerate
    have hL : Heap.IsTuple (Shared.heap ⟨hp, g, d, tk, os⟩) l items := ⟨_, hl, rfl, n, rfl⟩
    wp_walk using wpAny_loadPart' hl
    refine wpAny_stack_any fun st => wpAny_pure ?_
    split
    · rename_i c _ _ _ _ _
      cases (c == Value.type "enumerate")
      · wp_walk using wpAny_loadPart' hl, wpAny_pyIter_tuple hL
        exact ⟨_, rfl, h⟩
      · wp_walk using wpAny_loadPart' hl, wpAny_pyIter_tuple hL
        exact ⟨_, rfl, h⟩
    · wp_walk using wpAny_loadPart' hl, wpAny_pyIter_tuple hL
      exact ⟨_, rfl, h⟩
end
section
variable {prog : Program} {w : World} {A : Around} {E : Value → Shared → Prop} {s : Shared}
theorem call_enum_tup {l : Addr} {items : Array Value} {Q : Value → Shared → Prop} (hL : s.heap.IsTuple l items)
    (h : ∀ h', IsEnum h' (s.heap.objs.size + 1) s.heap.objs.size 0 .none → h'.IsTupleIter s.heap.objs.size l 0 → h'.objs.size = s.heap.objs.size + 2 →
      (∀ b o, s.heap.get? b = some o → h'.get? b = some o) → Q (.ref (s.heap.objs.size + 1)) { s with heap := h' }) :
    wpAny (model prog w) A (call (.type "enumerate") [.ref l]) Q E s := by
  obtain ⟨⟨c, dct, dt, sl⟩, hl, hc, n, hd⟩ := hL
  replace hc : c = .type "tuple" := hc
  replace hd : dt = .seq items n := hd
  subst hc hd
  refine callType_new PySem.F.called_enumerate (by decide) (PySem.F.typeCall_enumerate_1 _) (PySem.F.newCall_enumerate_1 _) (fun obj => PySem.F.args_object_init_2 obj _) PySem.F.entry_enumerate_new
    (meets_enum_newT l items n dct sl) ⟨hl, ?_⟩
  have hz : (s.heap.push { cls := .type "tuple_iterator", data := .fields #[.ref l, .int 0 0] }).objs.size = s.heap.objs.size + 1 := Heap.size_push ..
  show _ ∧ _
  rw [hz]
  have he : IsEnum ((s.heap.push { cls := .type "tuple_iterator", data := .fields #[.ref l, .int 0 0] }).push
      { cls := .type "enumerate", data := .fields #[.none, .bool false, .ref s.heap.objs.size, rawInt 0, .none, .none] }) (s.heap.objs.size + 1) s.heap.objs.size 0 .none := by
    have := Heap.get?_push_size (s.heap.push { cls := .type "tuple_iterator", data := .fields #[.ref l, .int 0 0] })
      (o := { cls := .type "enumerate", data := .fields #[.none, .bool false, .ref s.heap.objs.size, rawInt 0, .none, .none] }) rfl
    rw [hz] at this; exact this
  refine ⟨⟨_, he, rfl⟩, h _ he ⟨_, Heap.get?_push_of_some _ (Heap.get?_push_size _ rfl), rfl, rfl⟩ (by rw [Heap.size_push, hz]) fun b o x => Heap.get?_push_of_some _ (Heap.get?_push_of_some _ x)⟩
end

section
variable {prog : Program} {w : World} {A : Around} {E : Value → Shared → Prop} {s : Shared} {env : Env} {h₀ : Heap} {body : List Stmt} {Q : Flow → Shared → Prop}

def EnumEnd (h₀ : Heap) (L : Addr) (s : Shared) (own : List (Addr × Obj)) (Jn : (Str → Option Value) → List (Addr × Obj) → Prop) (s₃ : Shared) : Prop :=
  ∃ h' tk' m' news', s₃ = { s with heap := h', toks := tk' } ∧ Fr h₀ L h' m' ∧ News h₀ L h' (own ++ news') ∧ (∀ p ∈ news', ∀ q ∈ own, q.1 ≠ p.1) ∧ Jn m' news'
theorem EnumEnd.intro {L : Addr} {own news' all : List (Addr × Obj)} {Jn : (Str → Option Value) → List (Addr × Obj) → Prop} {h' : Heap} {tk' : Nat} {m' : Str → Option Value} (F : Fr h₀ L h' m') (N : News h₀ L h' all) (hs : ∀ p ∈ own ++ news', p ∈ all)
    (ho : ∀ p ∈ news', ∀ q ∈ own, q.1 ≠ p.1) (hJ : Jn m' news') : EnumEnd h₀ L s own Jn { s with heap := h', toks := tk' } := ⟨h', tk', m', news', rfl, F, fun p hp => N p (hs p hp), ho, hJ⟩
def ElseEnd (h₀ : Heap) (L : Addr) (s : Shared) (led : List (Addr × Obj)) (Jn : (Str → Option Value) → Prop) (s₃ : Shared) : Prop :=
  ∃ h' tk' m', s₃ = { s with heap := h', toks := tk' } ∧ Fr h₀ L h' m' ∧ News h₀ L h' led ∧ Jn m'
theorem ElseEnd.intro {L : Addr} {led all : List (Addr × Obj)} {Jn : (Str → Option Value) → Prop} {h' : Heap} {tk' : Nat} {m' : Str → Option Value} (F : Fr h₀ L h' m') (N : News h₀ L h' all) (hs : ∀ p ∈ led, p ∈ all)
    (hJ : Jn m') : ElseEnd h₀ L s led Jn { s with heap := h', toks := tk' } := ⟨h', tk', m', rfl, F, fun p hp => N p (hs p hp), hJ⟩

/-- enumerate over a tuple that stood ahead of the frame, by an invariant -/
theorem enum_tup_inv {elts : List PySem.Expr} {k : Nat} {pos : Pos} {l : Addr} {items : Array Value} {m₀ : Str → Option Value} {news : List (Addr × Obj)}
    (J : Nat → (Str → Option Value) → List (Addr × Obj) → Prop)
    (hh : A.handled = none) (F : Fr h₀ env.locals s.heap m₀) (N : News h₀ env.locals s.heap news) (hl : h₀.IsTuple l items) (h0 : J 0 m₀ news)
    (step : ∀ i x T t m₁ news₁ h tk own, items[i]? = some x → J i m₁ news₁ → (∀ p ∈ news₁, ∀ q ∈ own, q.1 ≠ p.1) → h.IsTuple T #[.int (i : Int) t, x] → Fr h₀ env.locals h m₁ → News h₀ env.locals h (own ++ news₁) →
      wpAny (model prog w) A (assign (.Tuple elts k pos) env (.ref T)) (fun _ s₂ => wpAny (model prog w) A (execs body env) (fun f s₃ => match f with
        | .ret v => Q (.ret v) s₃
        | .brk => Q .next s₃
        | _ => EnumEnd h₀ env.locals s own (J (i + 1)) s₃) E s₂) E { s with heap := h, toks := tk })
    (done : ∀ h' tk m' news', Fr h₀ env.locals h' m' → News h₀ env.locals h' news' → J items.size m' news' → Q .next { s with heap := h', toks := tk }) :
    wpAny (model prog w) A (call (.type "enumerate") [.ref l]) (fun xv s₁ => wpAny (model prog w) A (pyIter xv) (fun it s₂ => TurnsAt prog w A h₀ env (.Tuple elts k pos) body Q E it s₂) E s₁) E s := by
  have hls : s.heap.IsTuple l items := hl.at fun o e => F.keep l o e
  obtain ⟨ol, hol, _⟩ := id hl
  have hlt : l < s.heap.objs.size := Heap.lt_size (F.keep _ _ hol)
  have hLs : env.locals < s.heap.objs.size := F.ns.lt
  refine call_enum_tup hls fun h' hE hI hsz hk => ?_
  refine wpAny_pyIter_enum hE ?_
  have W := (WalksT.enumerateD (draws_tup (prog := prog) (w := w) (A := A.in1) hh s.heap.objs.size l (Nat.ne_of_lt hlt) items) (s.heap.objs.size + 1) (Nat.succ_ne_self _) (by
    intro hm
    rcases List.mem_cons.mp hm with e | hm
    · exact Nat.succ_ne_self _ e
    · exact Nat.ne_of_gt (Nat.lt_succ_of_lt hlt) (List.mem_singleton.mp hm)) (by simp)).toU
  have F' : Fr h₀ env.locals h' m₀ := ⟨F.ns.keeps hk, fun b o e => hk b o (F.keep b o e), F.above⟩
  have N' : News h₀ env.locals h' news := fun p hp => ⟨hk _ _ (N p hp).1, (N p hp).2⟩
  have hnone : ∀ b, s.heap.objs.size ≤ b → h₀.get? b = none := fun b hb => ktu_new F hb
  have wrof : ∀ b, b ∈ [s.heap.objs.size + 1, s.heap.objs.size] → s.heap.objs.size ≤ b := fun b hb => by
    rcases List.mem_cons.mp hb with e | hb
    · rw [e]; exact Nat.le_succ _
    · rw [List.mem_singleton.mp hb]; exact Nat.le_refl _
  refine ⟨s.heap.objs.size + 1, [s.heap.objs.size + 1, s.heap.objs.size, l], [s.heap.objs.size + 1, s.heap.objs.size], items.size, _, _, _, m₀, news, J, rfl, KTurns.ofWalksU W, ?_, fun b hb => hnone b (wrof b hb), ?_, ⟨⟨_, hE⟩, hI, hls.at fun o e => hk _ _ e⟩, F', N', h0, ?_, ?_⟩
  · intro hm
    rcases List.mem_cons.mp hm with e | hm
    · exact Nat.ne_of_lt (Nat.lt_succ_of_lt hLs) e
    · rcases List.mem_cons.mp hm with e | hm
      · exact Nat.ne_of_lt hLs e
      · have e := List.mem_singleton.mp hm
        exact absurd (Nat.lt_of_lt_of_le (Heap.lt_size hol) F.above) (e ▸ Nat.lt_irrefl _)
  · intro p hp hm
    exact absurd (Heap.lt_size (N p hp).1) (Nat.not_lt.mpr (wrof _ hm))
  · intro i v m₁ news₁ h₁ tk₁ own hi hP hJ hoff hown hget hall hst F₁ N₁
    obtain ⟨T, vals, rfl, ⟨t, x, hx, rfl⟩, hT⟩ := hP
    have hown' : ∀ q ∈ own, q.1 ∈ [s.heap.objs.size + 1, s.heap.objs.size] := fun q hq => by
      have h1 := hown q hq
      rcases List.mem_cons.mp h1 with e | h1
      · rw [e]; exact List.mem_cons_self ..
      · rcases List.mem_cons.mp h1 with e | h1
        · rw [e]; exact List.mem_cons_of_mem _ (List.mem_cons_self ..)
        · have e := List.mem_singleton.mp h1
          have hn := (N₁ q (List.mem_append_left _ hq)).2.2
          rw [e, hol] at hn; cases hn
    refine wpAny_mono (step i x T t m₁ news₁ h₁ tk₁ own hx hJ (fun p hp q hq e => hoff p hp (e ▸ hown' q hq)) hT F₁ N₁) (fun _ s₂ hs₂ => wpAny_mono hs₂ (fun f s₃ hf => ?_) fun _ _ e => e) fun _ _ e => e
    have hoff2 : ∀ news' : List (Addr × Obj), News h₀ env.locals s₃.heap (own ++ news') → (∀ p ∈ news', ∀ q ∈ own, q.1 ≠ p.1) → ∀ p ∈ news', p.1 ∉ [s.heap.objs.size + 1, s.heap.objs.size] := by
      intro news' N' ho p hp hm
      obtain ⟨o, ho'⟩ : ∃ o, h₁.get? p.1 = some o := by
        rcases List.mem_cons.mp hm with e | hm
        · obtain ⟨⟨old, q⟩, _⟩ := hst
          exact ⟨_, e ▸ q⟩
        · have e := List.mem_singleton.mp hm
          obtain ⟨_, ⟨o, q, _⟩, _⟩ := hst
          exact ⟨o, e ▸ q⟩
      have hfp : p.1 ∈ [s.heap.objs.size + 1, s.heap.objs.size, l] := by
        rcases List.mem_cons.mp hm with e | hm
        · rw [e]; exact List.mem_cons_self ..
        · rw [List.mem_singleton.mp hm]; exact List.mem_cons_of_mem _ (List.mem_cons_self ..)
      have hq := hall p.1 hfp (hnone _ (wrof _ hm)) o ho'
      exact ho p hp _ hq rfl
    cases f with
    | ret v => exact hf
    | brk => exact hf
    | next =>
      obtain ⟨h', tk', m', news', e, F'', N'', ho, hj⟩ := hf
      exact ⟨rfl, h', tk', m', news', e, F'', N'', hoff2 news' (by rw [e]; exact N'') ho, hj⟩
    | cont =>
      obtain ⟨h', tk', m', news', e, F'', N'', ho, hj⟩ := hf
      exact ⟨rfl, h', tk', m', news', e, F'', N'', hoff2 news' (by rw [e]; exact N'') ho, hj⟩
  · intro h'' tk m' news' F'' N'' _ hJ
    exact done h'' tk m' news' F'' N'' hJ

/-- a for with an else over a tuple that stood ahead of the frame, by an invariant; what the turns make is forgotten but for m -/
theorem forElse_tup {target : PySem.Expr} {iter : PySem.Expr} {orelse : List Stmt} {pos : Pos} {l : Addr} {items : Array Value} {m₀ : Str → Option Value} {news : List (Addr × Obj)}
    (J : Nat → (Str → Option Value) → Prop)
    (hh : A.handled = none) (F : Fr h₀ env.locals s.heap m₀) (N : News h₀ env.locals s.heap news) (hl : h₀.IsTuple l items) (h0 : J 0 m₀)
    (hit : ∀ Q' : Value → Shared → Prop, Q' (.ref l) s → wpAny (model prog w) A (eval iter env) Q' E s)
    (step : ∀ i x m₁ h tk I o, items[i]? = some x → J i m₁ → (∀ p ∈ news, p.1 < I) → Fr h₀ env.locals h m₁ → News h₀ env.locals h ((I, o) :: news) →
      wpAny (model prog w) A (assign target env x) (fun _ s₂ => wpAny (model prog w) A (execs body env) (fun f s₃ => match f with
        | .ret v => Q (.ret v) s₃
        | .brk => Q .next s₃
        | _ => ElseEnd h₀ env.locals s ((I, o) :: news) (J (i + 1)) s₃) E s₂) E { s with heap := h, toks := tk })
    (done : ∀ h' tk m', Fr h₀ env.locals h' m' → News h₀ env.locals h' news → J items.size m' → wpAny (model prog w) A (execs orelse env) Q E { s with heap := h', toks := tk })
    (hs : ∀ x, foldedSetIterable iter env x = pure x := by intro _; rfl)
    (hE : PassesOwn (model prog w) A env E := by passes_own) :
    wpAny (model prog w) A (exec (.For target iter body orelse pos) env) Q E s := by
  have hls : s.heap.IsTuple l items := hl.at fun o e => F.keep l o e
  obtain ⟨ol, hol, _⟩ := id hl
  have hlt : l < s.heap.objs.size := Heap.lt_size (F.keep _ _ hol)
  have hLs : env.locals < s.heap.objs.size := F.ns.lt
  have hIn : h₀.get? s.heap.objs.size = none := ktu_new F (Nat.le_refl _)
  have W := Walks.tuple (prog := prog) (w := w) (A := A) hh s.heap.objs.size l (Nat.ne_of_lt hlt) items
  refine wpAny_For (hit _ ?_) hs
  refine wpAny_pyIter_tuple hls ?_
  refine codeAny_forLoop_any (fun k s' => ∃ h' tk m' i, s' = { s with heap := h', toks := tk } ∧ (h'.IsTupleIter s.heap.objs.size l i ∧ h'.IsTuple l items) ∧ Fr h₀ env.locals h' m' ∧ News h₀ env.locals h' news ∧ J i m' ∧ i ≤ items.size ∧ k = items.size + 1 - i) ?_ (items.size + 1)
    ⟨_, s.toks, m₀, 0, rfl, ⟨⟨_, Heap.get?_push_size _ rfl, rfl, rfl⟩, hls.push _⟩, F.push _, fun p hp => ⟨Heap.get?_push_of_some _ (N p hp).1, (N p hp).2⟩, h0, Nat.zero_le _, rfl⟩
  rintro k s' ⟨h', tk, m', i, rfl, hst', F', N', hJ, hi, rfl⟩
  have hne : ∀ b o, h₀.get? b = some o → b ≠ s.heap.objs.size := fun b o e q => by rw [q, hIn] at e; cases e
  have next : ∀ h₁ : Heap, (∀ b o, b ∉ [s.heap.objs.size] → h'.get? b = some o → h₁.get? b = some o) → Fr h₀ env.locals h₁ m' ∧ News h₀ env.locals h₁ news := fun h₁ hk₁ =>
    ⟨⟨F'.ns.at' fun o e => hk₁ _ o (fun q => Nat.ne_of_lt hLs (List.mem_singleton.mp q)) e, fun b o e => hk₁ b o (fun q => hne b o e (List.mem_singleton.mp q)) (F'.keep b o e), F'.above⟩,
     fun p hp => ⟨hk₁ _ _ (fun q => absurd (Heap.lt_size (N p hp).1) (by rw [List.mem_singleton.mp q]; exact Nat.lt_irrefl _)) (N' p hp).1, (N' p hp).2⟩⟩
  by_cases hlt' : i < items.size
  · refine W.item i _ _ _ hlt' hst' fun v h₁ tk₁ hv hst₁ hk₁ => ?_
    refine letGo_tupleiter hst₁.1 ?_
    obtain ⟨F₁, N₁⟩ := next h₁ hk₁
    obtain ⟨o, ho, hor⟩ := id hst₁.1
    have N₂ : News h₀ env.locals h₁ ((s.heap.objs.size, o) :: news) := fun p hp => by
      rcases List.mem_cons.mp hp with rfl | hp
      · exact ⟨ho, Nat.ne_of_gt hLs, hIn⟩
      · exact N₁ p hp
    refine wpAny_mono (step i v m' h₁ tk₁ _ o hv hJ (fun p hp => Heap.lt_size (N p hp).1) F₁ N₂) (fun _ s₂ h₂' => wpAny_mono h₂' (fun f s₃ h₃ => ?_) hE) hE
    cases f with
    | ret v => exact h₃
    | brk => exact h₃
    | cont =>
      obtain ⟨h₃', tk₃, m₂, rfl, F₃, N₃, hJ₃⟩ := h₃
      refine ⟨items.size + 1 - (i + 1), by omega, h₃', tk₃, m₂, i + 1, rfl, ⟨⟨o, (N₃ _ (List.mem_cons_self ..)).1, hor⟩, hl.at fun o e => F₃.keep _ _ e⟩, F₃, fun p hp => N₃ p (List.mem_cons_of_mem _ hp), hJ₃, hlt', rfl⟩
    | next =>
      obtain ⟨h₃', tk₃, m₂, rfl, F₃, N₃, hJ₃⟩ := h₃
      refine ⟨items.size + 1 - (i + 1), by omega, h₃', tk₃, m₂, i + 1, rfl, ⟨⟨o, (N₃ _ (List.mem_cons_self ..)).1, hor⟩, hl.at fun o e => F₃.keep _ _ e⟩, F₃, fun p hp => N₃ p (List.mem_cons_of_mem _ hp), hJ₃, hlt', rfl⟩
  · have hin : i = items.size := by omega
    subst hin
    refine W.done _ _ _ hst' fun h₁ tk₁ hk₁ => ?_
    obtain ⟨F₁, N₁⟩ := next h₁ hk₁
    exact wpAny_mono (done h₁ tk₁ m' F₁ N₁ hJ) (fun f s₃ h₃ => h₃) hE
end
end
section
/-! filemode -/
def tbl : List (List (Int × Nat)) := [[(40960, 108), (49152, 115), (32768, 45), (24576, 98), (16384, 100), (8192, 99), (4096, 112)], [(256, 114)], [(128, 119)], [(2112, 115), (2048, 83), (64, 120)], [(32, 114)], [(16, 119)], [(1032, 115), (1024, 83), (8, 120)], [(4, 114)], [(2, 119)], [(513, 116), (512, 84), (1, 120)]]
def rowHit (mode : Int) (i : Nat) (p : Int × Nat) : Bool := if i = 0 then Builtin.bitAnd mode 61440 == p.1 else Builtin.bitAnd mode p.1 == p.1
def rowChar (mode : Int) (i : Nat) (row : List (Int × Nat)) : Nat := match row.find? (rowHit mode i) with
  | some p => p.2
  | none => if i = 0 then 63 else 45
def fmChars (mode : Int) : Nat → List Nat
  | 0 => []
  | i + 1 => fmChars mode i ++ [rowChar mode i (tbl.getD i [])]
def fmStr (mode : Int) : Str := ⟨(fmChars mode 10).toArray⟩
def one (c : Nat) : Str := ⟨#[c]⟩

theorem glue_ones : ∀ (cs : List Nat) (a : Array Nat), (cs.map one).foldl (fun acc p => acc ++ (Str.ofString "").cps ++ p.cps) a = a ++ cs.toArray
  | [], a => by simp
  | c :: r, a => by
    rw [List.map_cons, List.foldl_cons, glue_ones r]
    have e : (Str.ofString "").cps = #[] := by decide +kernel
    rw [e]
    simp [one]
theorem fm_join (mode : Int) : Txt.join (Str.ofString "") ((fmChars mode 10).map one) = fmStr mode := by
  unfold Txt.join Builtin.Str.glued fmStr
  cases h : fmChars mode 10 with
  | nil => rfl
  | cons c r =>
    simp only [List.map_cons, List.drop_succ_cons, List.drop_zero, List.headD_cons]
    rw [glue_ones]
    simp [one]
theorem fm_length (mode : Int) : ∀ i, (fmChars mode i).length = i
  | 0 => rfl
  | i + 1 => by simp [fmChars, fm_length mode i]
theorem strs_snoc {vs : List Value} {ys : List Str} (h : StrsAre vs ys) (y : Str) (t : Tok) : StrsAre (vs ++ [.str y t]) (ys ++ [y]) := by
  induction h with
  | nil => exact .cons y t .nil
  | cons z u _ ih => exact .cons z u ih
theorem fr_known {h₀ h : Heap} {L : Addr} {m : Str → Option Value} {x : Str} {v : Value} (e : m x = some v) (F : Fr h₀ L h m) : Fr h₀ L h (fun y => if y = x then some v else m y) := by
  have q : (fun y => if y = x then some v else m y) = m := by
    funext y
    by_cases hy : y = x
    · rw [if_pos hy, hy, e]
    · rw [if_neg hy]
  rw [q]; exact F

theorem fr_known2 {h₀ h : Heap} {L : Addr} {m : Str → Option Value} {x y : Str} {v u : Value} (e : m x = some v) (e2 : m y = some u) (F : Fr h₀ L h m) : Fr h₀ L h (fun z => if z = x then some v else if z = y then some u else m z) := by
  have q : (fun z => if z = x then some v else if z = y then some u else m z) = m := by
    funext z
    by_cases hz : z = x
    · rw [if_pos hz, hz, e]
    · rw [if_neg hz]
      by_cases hz2 : z = y
      · rw [if_pos hz2, hz2, e2]
      · rw [if_neg hz2]
  rw [q]; exact F
theorem fr_known3 {h₀ h : Heap} {L : Addr} {m : Str → Option Value} {x y y3 : Str} {v u u3 : Value} (e : m x = some v) (e2 : m y = some u) (e3 : m y3 = some u3) (F : Fr h₀ L h m) : Fr h₀ L h (fun z => if z = x then some v else if z = y then some u else if z = y3 then some u3 else m z) := by
  have q : (fun z => if z = x then some v else if z = y then some u else if z = y3 then some u3 else m z) = m := by
    funext z
    by_cases hz : z = x
    · rw [if_pos hz, hz, e]
    · rw [if_neg hz]
      by_cases hz2 : z = y
      · rw [if_pos hz2, hz2, e2]
      · rw [if_neg hz2]
        by_cases hz3 : z = y3
        · rw [if_pos hz3, hz3, e3]
        · rw [if_neg hz3]
  rw [q]; exact F
def isTupO (o : Obj) : Bool := match o.cls with
  | .type c => c == "tuple"
  | _ => false
def seqO (o : Obj) : Option (List Value) := match o.data with
  | .seq items _ => some items.toList
  | _ => none
theorem isTuple_of {h : Heap} {q : Addr} {o : Obj} {vs : List Value} (e : h.get? q = some o) (h1 : isTupO o = true) (h2 : seqO o = some vs) : h.IsTuple q vs.toArray := by
  obtain ⟨c, d, dt, sl⟩ := o
  refine ⟨_, e, ?_, ?_⟩
  · unfold isTupO at h1
    dsimp only at h1 ⊢
    split at h1
    · rw [beq_iff_eq.mp h1]
    · cases h1
  · unfold seqO at h2
    dsimp only at h2 ⊢
    split at h2
    · rename_i items n
      cases h2
      exact ⟨n, by simp⟩
    · cases h2
def tupIn (K : Frag) (v : Value) : Option (List Value) := match v with
  | .ref q => (match K.lookup q with
    | some o => if isTupO o then seqO o else none
    | none => none)
  | _ => none
theorem tupIn_of {K : Frag} {h : Heap} (X : K.In h) {v : Value} {vs : List Value} (e : tupIn K v = some vs) : ∃ q, v = .ref q ∧ h.IsTuple q vs.toArray := by
  unfold tupIn at e
  split at e
  · rename_i q
    split at e
    · rename_i o ho
      split at e
      · rename_i h1
        exact ⟨q, rfl, isTuple_of (X _ _ ho) h1 e⟩
      · cases e
    · cases e
  · cases e
def pairOk (K : Frag) (v : Value) (p : Int × Nat) : Bool := match tupIn K v with
  | some [.int b _, .str x _] => b == p.1 && x == one p.2
  | _ => false
def allOk {β : Type} (f : Value → β → Bool) : List Value → List β → Bool
  | [], [] => true
  | v :: vs, p :: ps => f v p && allOk f vs ps
  | _, _ => false
theorem allOk_len {β : Type} {f : Value → β → Bool} : ∀ {vs : List Value} {ps : List β}, allOk f vs ps = true → vs.length = ps.length
  | [], [], _ => rfl
  | [], _ :: _, h => by cases h
  | _ :: _, [], h => by cases h
  | v :: vs, p :: ps, h => by
    have h' := (Bool.and_eq_true_iff.mp h).2
    simp [allOk_len h']
theorem allOk_at {β : Type} {f : Value → β → Bool} : ∀ {vs : List Value} {ps : List β}, allOk f vs ps = true → ∀ (i : Nat) v, vs[i]? = some v → ∃ p, ps[i]? = some p ∧ f v p = true
  | [], _, _, i, v, h => by simp at h
  | _ :: _, [], h, _, _, _ => by cases h
  | v :: vs, p :: ps, h, 0, u, e => by
    have h' := Bool.and_eq_true_iff.mp h
    simp at e; subst e
    exact ⟨p, rfl, h'.1⟩
  | v :: vs, p :: ps, h, i + 1, u, e => by
    have h' := Bool.and_eq_true_iff.mp h
    have := allOk_at h'.2 i u (by simpa using e)
    simpa using this
def rowOk (K : Frag) (v : Value) (row : List (Int × Nat)) : Bool := match tupIn K v with
  | some vs => allOk (pairOk K) vs row
  | none => false
def tabOk (K : Frag) (a : Addr) : Bool := match tupIn K (.ref a) with
  | some vs => allOk (rowOk K) vs tbl
  | none => false
theorem tab_ok (p : Params) : tabOk (hd.heap_39 p) 109 = true := by kernel_rfl
def PairAt (h : Heap) (v : Value) (p : Int × Nat) : Prop := ∃ q tb tc, v = .ref q ∧ h.IsTuple q #[.int p.1 tb, .str (one p.2) tc]
def RowAt (h : Heap) (v : Value) (row : List (Int × Nat)) : Prop := ∃ (q : Addr) (vs : List Value), v = .ref q ∧ h.IsTuple q vs.toArray ∧ vs.length = row.length ∧ ∀ (i : Nat) u, vs[i]? = some u → ∃ p, row[i]? = some p ∧ PairAt h u p
theorem pair_of {K : Frag} {h : Heap} (X : K.In h) {v : Value} {p : Int × Nat} (e : pairOk K v p = true) : PairAt h v p := by
  unfold pairOk at e
  split at e
  · rename_i b tb x tc hv
    obtain ⟨q, rfl, hq⟩ := tupIn_of X hv
    have e' := Bool.and_eq_true_iff.mp e
    have e1 : b = p.1 := beq_iff_eq.mp e'.1
    have e2 : x = one p.2 := by have := e'.2; simpa using this
    subst e1 e2
    exact ⟨q, tb, tc, rfl, hq⟩
  · cases e
theorem row_of {K : Frag} {h : Heap} (X : K.In h) {v : Value} {row : List (Int × Nat)} (e : rowOk K v row = true) : RowAt h v row := by
  unfold rowOk at e
  split at e
  · rename_i vs hv
    obtain ⟨q, rfl, hq⟩ := tupIn_of X hv
    refine ⟨q, vs, rfl, hq, allOk_len e, fun i u hu => ?_⟩
    obtain ⟨p, h1, h2⟩ := allOk_at e i u hu
    exact ⟨p, h1, pair_of X h2⟩
  · cases e
theorem tab_of {K : Frag} {h : Heap} {a : Addr} (X : K.In h) (e : tabOk K a = true) : ∃ vs : List Value, h.IsTuple a vs.toArray ∧ vs.length = 10 ∧ ∀ (i : Nat) u, vs[i]? = some u → ∃ row, tbl[i]? = some row ∧ RowAt h u row := by
  unfold tabOk at e
  split at e
  · rename_i vs hv
    obtain ⟨q, hq, ht⟩ := tupIn_of X hv
    cases hq
    refine ⟨vs, ht, by rw [allOk_len e]; rfl, fun i u hu => ?_⟩
    obtain ⟨p, h1, h2⟩ := allOk_at e i u hu
    exact ⟨p, h1, row_of X h2⟩
  · cases e
theorem find_at {β : Type} {f : β → Bool} : ∀ {row : List β} {k : Nat} {p : β}, row[k]? = some p → f p = true → (∀ j q, j < k → row[j]? = some q → f q = false) → row.find? f = some p
  | [], _, _, h, _, _ => by simp at h
  | q :: r, 0, p, h, hp, _ => by simp at h; subst h; simp [hp]
  | q :: r, k + 1, p, h, hp, hn => by
    have h0 : f q = false := hn 0 q (Nat.succ_pos _) rfl
    rw [List.find?_cons, h0]
    exact find_at (by simpa using h) hp fun j u hj hu => hn (j + 1) u (by omega) (by simpa using hu)
theorem find_none {β : Type} {f : β → Bool} {row : List β} (hn : ∀ (j : Nat) q, j < row.length → row[j]? = some q → f q = false) : row.find? f = none := by
  rw [List.find?_eq_none]
  intro x hx
  obtain ⟨j, hj, e⟩ := List.getElem_of_mem hx
  rw [hn j x hj (by rw [List.getElem?_eq_getElem hj, e])]
  simp
theorem strs_next {vs : List Value} {mode : Int} {i c : Nat} {t : Tok} {row : List (Int × Nat)} (h : StrsAre vs ((fmChars mode i).map one)) (hrow : tbl[i]? = some row) (e : rowChar mode i row = c) :
    StrsAre (vs ++ [.str (one c) t]) ((fmChars mode (i + 1)).map one) := by
  have e1 : tbl.getD i [] = row := by simp [List.getD, hrow]
  simp only [fmChars, List.map_append, List.map_cons, List.map_nil, e1, e]
  exact strs_snoc h _ _
theorem char_hit {mode : Int} {i k : Nat} {row : List (Int × Nat)} {p : Int × Nat} (h : row[k]? = some p) (hp : rowHit mode i p = true) (hn : ∀ j q, j < k → row[j]? = some q → rowHit mode i q = false) : rowChar mode i row = p.2 := by
  unfold rowChar; rw [find_at h hp hn]
theorem char_none {mode : Int} {i : Nat} {row : List (Int × Nat)} (hn : ∀ (j : Nat) q, j < row.length → row[j]? = some q → rowHit mode i q = false) : rowChar mode i row = if i = 0 then 63 else 45 := by
  unfold rowChar; rw [find_none hn]
theorem hit_more {mode : Int} {i k : Nat} {row : List (Int × Nat)} {p : Int × Nat} (h : row[k]? = some p) (hp : rowHit mode i p = false) (hn : ∀ j q, j < k → row[j]? = some q → rowHit mode i q = false) : ∀ j q, j < k + 1 → row[j]? = some q → rowHit mode i q = false := by
  intro j q hj hq
  by_cases e : j = k
  · subst e; rw [h] at hq; cases hq; exact hp
  · exact hn j q (by omega) hq
theorem hit0 {mode : Int} {i : Nat} {p : Int × Nat} (hi : (i : Int) = 0) (h : Builtin.bitAnd mode 61440 = p.1) : rowHit mode i p = true := by
  have : i = 0 := by omega
  simp [rowHit, this, h]
theorem miss0 {mode : Int} {i : Nat} {p : Int × Nat} (hi : (i : Int) = 0) (h : Builtin.bitAnd mode 61440 ≠ p.1) : rowHit mode i p = false := by
  have : i = 0 := by omega
  simp [rowHit, this, h]
theorem hit1 {mode : Int} {i : Nat} {p : Int × Nat} (hi : (i : Int) ≠ 0) (h : Builtin.bitAnd mode p.1 = p.1) : rowHit mode i p = true := by
  have : i ≠ 0 := by omega
  simp [rowHit, this, h]
theorem miss1 {mode : Int} {i : Nat} {p : Int × Nat} (hi : (i : Int) ≠ 0) (h : Builtin.bitAnd mode p.1 ≠ p.1) : rowHit mode i p = false := by
  have : i ≠ 0 := by omega
  simp [rowHit, this, h]
theorem led_sub {own news : List (Addr × Obj)} {x io : Addr × Obj} : ∀ p ∈ own ++ (x :: news), p ∈ x :: io :: (own ++ news) := by
  intro p hp
  rcases List.mem_append.mp hp with hp | hp
  · exact List.mem_cons_of_mem _ (List.mem_cons_of_mem _ (List.mem_append_left _ hp))
  · rcases List.mem_cons.mp hp with rfl | hp
    · exact List.mem_cons_self ..
    · exact List.mem_cons_of_mem _ (List.mem_cons_of_mem _ (List.mem_append_right _ hp))
theorem led_sub0 {own news : List (Addr × Obj)} {x : Addr × Obj} : ∀ p ∈ own ++ (x :: news), p ∈ x :: (own ++ news) := by
  intro p hp
  rcases List.mem_append.mp hp with hp | hp
  · exact List.mem_cons_of_mem _ (List.mem_append_left _ hp)
  · rcases List.mem_cons.mp hp with rfl | hp
    · exact List.mem_cons_self ..
    · exact List.mem_cons_of_mem _ (List.mem_append_right _ hp)
theorem led_off {own news : List (Addr × Obj)} {pa : Addr} {x : Obj} (hA : ∀ p ∈ own ++ news, p.1 ≠ pa) (hN : ∀ p ∈ news, ∀ q ∈ own, q.1 ≠ p.1) : ∀ p ∈ (pa, x) :: news, ∀ q ∈ own, q.1 ≠ p.1 := by
  intro p hp q hq
  rcases List.mem_cons.mp hp with rfl | hp
  · exact hA q (List.mem_append_left _ hq)
  · exact hN p hp q hq
theorem led_swap {x y : Addr × Obj} {l : List (Addr × Obj)} : ∀ p ∈ x :: y :: l, p ∈ y :: x :: l := by
  intro p hp
  rcases List.mem_cons.mp hp with rfl | hp
  · exact List.mem_cons_of_mem _ (List.mem_cons_self ..)
  · rcases List.mem_cons.mp hp with rfl | hp
    · exact List.mem_cons_self ..
    · exact List.mem_cons_of_mem _ (List.mem_cons_of_mem _ hp)
theorem fm_join' {mode : Int} : Txt.join (Str.ofString "") ((fmChars mode 10).map one) = fmStr mode := fm_join mode
theorem at_str {Q : Value → Shared → Prop} {x y : Str} {t : Tok} {s : Shared} (e : x = y) (h : Q (.str x t) s) : Q (.str y t) s := e ▸ h
theorem ones_weight : ∀ cs : List Nat, ((cs.map one).map (·.length)).sum + (cs.map one).length = 2 * cs.length
  | [] => rfl
  | c :: r => by
    have h := ones_weight r
    have e : (one c).length = 1 := rfl
    simp only [List.map_cons, List.sum_cons, List.length_cons, e] at h ⊢
    omega
theorem fm_weight (mode : Int) : (((fmChars mode 10).map one).map (·.length)).sum + ((fmChars mode 10).map one).length ≤ 1048576 := by
  rw [ones_weight, fm_length]; decide
theorem adr2 {a b : Addr} {o1 o2 q1 q2 : Obj} {l : List (Addr × Obj)} : ((a, o1) :: (b, o2) :: l).map (·.1) = ((a, q1) :: (b, q2) :: l).map (·.1) := rfl
theorem adr1 {a : Addr} {o1 q1 : Obj} {l : List (Addr × Obj)} : ((a, o1) :: l).map (·.1) = ((a, q1) :: l).map (·.1) := rfl
end
section
local macro_rules | `(tactic| walk_at "binaryOp RShift int int") => `(tactic| (k_here; (with_reducible refine shr1 ?_)))
local macro_rules | `(tactic| walk_at "binaryOp Mod int int") => `(tactic| (k_here; (with_reducible refine mod_pos ?k1 ?_); (case k1 => decide)))
local macro_rules | `(tactic| walk_at "binaryOp FloorDiv int int") => `(tactic| (k_here; (with_reducible refine fdiv_pos ?k1 ?k2 ?_); (case k1 => decide); (case k2 => decide +kernel)))
local macro_rules | `(tactic| k_all) => `(tactic| with_reducible assumption)
local macro_rules | `(tactic| l_idx) => `(tactic| omega)
local macro_rules | `(tactic| k_upd) => `(tactic| first | (refine' Pick.head ?a; (case a => k_all)) | (refine' Pick.tail ?a ?b; (case a => k_ne); (case b => k_upd)))
local macro_rules | `(tactic| walk_at "call ref") => `(tactic| (k_here; refine wpAny_call ?_; k_dflt (refine' code_def ?k1 ?k2 ?k3 ?k4 ?k5 ?kA ?kF ?kK ?k6 ?k7 ?k8 ?k9 ?kB ?_ ?c2 ?c3 ?c4 ?c5; (case kA => exact rfl); (case kF => exact rfl); (case kK => first | exact rfl | assumption); (case k1 => k_asm); (case k2 => k_asm); (case k3 => k_asm); (case k4 => k_asm); (case k5 => k_asm); (case k6 => k_is); (case k7 => k_is); (case k8 => ktr_room); (case k9 => exact BindsTo.of_eq rfl); (case c5 => decide); (case kB => exact locs rfl); (case c2 => exact rfl); (case c3 => exact rfl); (case c4 => exact rfl); k_whole; intro g' L' h' FG' F' N' B' X' T'; (try dsimp only); (try k_lift B'); (try k_fold))))
section
variable {w : World} {mean : ExcName → Option Value} {mg mb : Str → Option Value} {dp un : Nat} {gd : Option (List Code)} {cn : Str} {cs : Scope} {a : Addr} {ccd : Value} {cl : List (Str × Addr)} {outer : List Env} {A₀ : Around} {base h₀ : Heap} {L : Addr} {m : Str → Option Value} {s : Shared} {Q E : Value → Shared → Prop}
local macro_rules | `(tactic| walk_at "exec For Tuple Call cons nil") => `(tactic| (k_here; (rename Fr _ _ _ _ => lF'); (with_unfolding_all refine' For_turns lF' ?_; k_whole)))

set_option maxHeartbeats 1000000 in
theorem filemode_tells {news : List (Addr × Obj)} {mode : Int} {t0 : Tok}
    (B : Below A₀ base outer h₀) (F : Fr h₀ L s.heap m) (X : (hd.heap_39 w.params).In h₀) (N : News h₀ L s.heap news) (T : Top hd.view_39 lz mean mg mb h₀) (hk : cs.kind = .function)
    (hdp : dp + 2 < recursionLimit) (hun : un + 16 < cLine)
    (hret : ∀ h' tk' t' x, Fr h₀ L h' m → News h₀ L h' news → x = fmStr mode → x.length = 10 → Q (.str x t') { s with heap := h', toks := tk' }) :
    wpAny (model prg w) (ktrTop dp un gd cn cs L a ccd cl outer) (call (.ref 116) [.int mode t0]) Q E s := by
  revert X; unfold prg; w_top off; k_fill; intro X
  refine wpAny_call ?_
  k_dflt cell_enter
  k_with_none
  k_steps
  rename_i pa h1 hpa h2 F1 N1
  rename Frag.In _ _ => X1
  obtain ⟨tv, htv, hlen, hrows⟩ := tab_of X1 (tab_ok _)
  refine enum_tup_inv (fun i m' nx => ∃ vs n, nx = (pa, W.listOf vs.toArray n) :: news ∧ StrsAre vs ((fmChars mode i).map one) ∧ m' (Str.ofString "mode") = some (.int mode t0) ∧ m' (Str.ofString "perm") = some (.ref pa)) rfl F1 N1 htv ⟨[], 0, rfl, .nil, rfl, rfl⟩ ?_ ?_
  · intro i x T2 t2 m₁ news₁ h3 tk3 own hx hJ hoff hT F3 N3
    obtain ⟨vs, n, rfl, hs, hm1, hm2⟩ := hJ
    have hx' : tv[i]? = some x := by simpa using hx
    obtain ⟨row, hrow, q, rv, rfl, hq, hrl, hpairs⟩ := hrows i x hx'
    have hi10 : i < 10 := by
      have := (List.getElem?_eq_some_iff.mp hx').1
      omega
    have hT' : IsTup h3 T2 _ := hT
    have hvl : vs.length = i := by have := hs.length; simp [fm_length] at this; exact this
    have F4 := fr_known2 hm1 hm2 F3
    have hoffA : ∀ p ∈ own ++ news, p.1 ≠ pa := fun p hp => by
      rcases List.mem_append.mp hp with hp | hp
      · exact hoff (pa, W.listOf vs.toArray n) (List.mem_cons_self ..) p hp
      · exact Nat.ne_of_lt (hpa p hp)
    have hoffN : ∀ p ∈ news, ∀ q ∈ own, q.1 ≠ p.1 := fun p hp => hoff p (List.mem_cons_of_mem _ hp)
    have N4 : News _ _ _ ((pa, W.listOf vs.toArray n) :: (own ++ news)) := fun p hp => N3 p (by
      rcases List.mem_cons.mp hp with rfl | hp
      · exact List.mem_append_right _ (List.mem_cons_self ..)
      · rcases List.mem_append.mp hp with hp | hp
        · exact List.mem_append_left _ hp
        · exact List.mem_append_right _ (List.mem_cons_of_mem _ hp))
    clear F3 F1 N1 N3 hx hx' hT hrows hoff hpa
    k_steps
    rename Fr _ _ _ _ => F5
    rename News _ _ _ _ => N5
    refine forElse_tup (fun k m' => m' (Str.ofString "mode") = some (.int mode t0) ∧ m' (Str.ofString "perm") = some (.ref pa) ∧ m' (Str.ofString "index") = some (.int (i : Int) t2) ∧ ∀ j p, j < k → row[j]? = some p → rowHit mode i p = false) rfl F5 N5 hq ⟨rfl, rfl, rfl, fun j p h => absurd h (Nat.not_lt_zero _)⟩ (fun Q' h => ld F5 rfl h) ?_ ?_
    · intro k x m2 h5 tk5 I o hx2 hJ2 hI F6 N6
      obtain ⟨a1, a2, a3, a4⟩ := hJ2
      obtain ⟨p, hp, q2, tb, tc, rfl, hq2⟩ := hpairs k x (by simpa using hx2)
      have hT2 : IsTup h5 q2 _ := hq2.at fun o e => F6.keep _ _ e
      have F7 := fr_known3 a1 a2 a3 F6
      have hoffB : ∀ p ∈ (I, o) :: (own ++ news), p.1 ≠ pa := fun p hp => by
        rcases List.mem_cons.mp hp with rfl | hp
        · exact Nat.ne_of_gt (hI (pa, W.listOf vs.toArray n) (List.mem_cons_self ..))
        · exact hoffA p hp
      have N7 : News _ _ _ ((pa, W.listOf vs.toArray n) :: (I, o) :: (own ++ news)) := fun p hp => N6 p (by
        rcases List.mem_cons.mp hp with rfl | hp
        · exact List.mem_cons_of_mem _ (List.mem_cons_self ..)
        · rcases List.mem_cons.mp hp with rfl | hp
          · exact List.mem_cons_self ..
          · exact List.mem_cons_of_mem _ (List.mem_cons_of_mem _ hp))
      clear F6 N6 F5 N5 hx2 hq2
      k_steps
      · rename News _ _ _ _ => NN
        simp only [List.push_toArray] at NN
        exact EnumEnd.intro (news' := (pa, _) :: news) (by k_asm) NN led_sub (led_off hoffA hoffN) ⟨_, _, rfl, strs_next hs hrow (char_hit hp (hit0 (by omega) (by assumption)) a4), rfl, rfl⟩
      · exact ElseEnd.intro (by k_asm) (by k_asm) led_swap ⟨rfl, rfl, rfl, hit_more hp (miss0 (by omega) (by assumption)) a4⟩
      · rename News _ _ _ _ => NN
        simp only [List.push_toArray] at NN
        exact EnumEnd.intro (news' := (pa, _) :: news) (by k_asm) NN led_sub (led_off hoffA hoffN) ⟨_, _, rfl, strs_next hs hrow (char_hit hp (hit1 (by assumption) (by assumption)) a4), rfl, rfl⟩
      · exact ElseEnd.intro (by k_asm) (by k_asm) led_swap ⟨rfl, rfl, rfl, hit_more hp (miss1 (by assumption) (by assumption)) a4⟩
    · intro h6 tk6 m6 F6 N6 hJ6
      obtain ⟨a1, a2, a3, a4⟩ := hJ6
      have F7 := fr_known3 a1 a2 a3 F6
      have hrv : rowChar mode i row = if i = 0 then 63 else 45 := char_none fun j q hj hq => a4 j q (by simpa [hrl] using hj) hq
      clear F6 F5 N5
      k_steps
      · rename News _ _ _ _ => NN
        simp only [List.push_toArray] at NN
        exact EnumEnd.intro (news' := (pa, _) :: news) (by k_asm) NN led_sub0 (led_off hoffA hoffN) ⟨_, _, rfl, strs_next (c := 63) hs hrow (hrv.trans (if_pos (by omega))), rfl, rfl⟩
      · rename News _ _ _ _ => NN
        simp only [List.push_toArray] at NN
        exact EnumEnd.intro (news' := (pa, _) :: news) (by k_asm) NN led_sub0 (led_off hoffA hoffN) ⟨_, _, rfl, strs_next (c := 45) hs hrow (hrv.trans (if_neg (by omega))), rfl, rfl⟩
  · intro h6 tk6 m6 news6 F6 N6 hJ6
    obtain ⟨vs, n, rfl, hs, hm1, hm2⟩ := hJ6
    rw [show tv.toArray.size = 10 by simpa using hlen] at hs
    have F7 := fr_known2 hm1 hm2 F6
    clear F6 F1 N1
    k_steps
    refine join_listW (D := pa) (by is_list) (by simpa using hs) (by decide +kernel) (fm_weight mode) ?_
    intro t9 k9
    rw [fm_join]
    k_steps
    exact hret _ _ _ _ (by k_asm) (cb_drop (by assumption) (fun p hp => List.mem_cons_of_mem _ hp)) rfl (by simp [fmStr, Str.length, fm_length])
end
end
section
/-! loops by an invariant over the frame and the ledger; the ends are names of our own, so that the walk stands still there -/
def KnownAll (m : Str → Option Value) : List (Str × Value) → Prop
  | [] => True
  | p :: r => m p.1 = some p.2 ∧ KnownAll m r
theorem KnownAll.mem {m : Str → Option Value} : ∀ {ps : List (Str × Value)}, KnownAll m ps → ∀ p ∈ ps, m p.1 = some p.2
  | [], _, _, h => nomatch h
  | q :: r, h, p, hp => by
    rcases List.mem_cons.mp hp with rfl | hp
    · exact h.1
    · exact KnownAll.mem h.2 p hp
theorem fr_knownL {h₀ h : Heap} {L : Addr} {m : Str → Option Value} {ps : List (Str × Value)} (e : KnownAll m ps) (F : Fr h₀ L h m) : Fr h₀ L h (kstB m ps) := by
  have q : kstB m ps = m := funext fun z => kstB_eq e.mem fun _ => rfl
  rw [q]; exact F
theorem fr_knownX {h₀ h : Heap} {L : Addr} {m : Str → Option Value} {ps : List (Str × Value)} {x : Str} {v : Value} (e : KnownAll m ps) (F : Fr h₀ L h (fun y => if y = x then some v else m y)) : Fr h₀ L h (fun y => if y = x then some v else kstB m ps y) := by
  have q : kstB m ps = m := funext fun z => kstB_eq e.mem fun _ => rfl
  rw [q]; exact F

def Held (P : Prop) : Prop := P
theorem held {P : Prop} (h : Held P) : P := h
theorem Held.out {P : Prop} (h : Held P) : P := h

def TEnd (h₀ : Heap) (L : Addr) (J : (Str → Option Value) → List (Addr × Obj) → Prop) (own : List (Addr × Obj)) (adr : List Addr) (s₁ s₂ : Shared) : Prop := InvEndN h₀ L J own adr s₁ s₂
theorem TEnd.intro {h₀ : Heap} {L : Addr} {J : (Str → Option Value) → List (Addr × Obj) → Prop} {m' : Str → Option Value} {own news' nx : List (Addr × Obj)} {adr : List Addr} {s₁ : Shared} {h' : Heap} {tk : Nat} (F : Fr h₀ L h' m') (N : News h₀ L h' news')
    (hj : J m' nx) (ha : nx.map (·.1) = adr) (hn : ∀ p ∈ nx, p ∈ news') (ho : ∀ p ∈ own, p ∈ news') : TEnd h₀ L J own adr s₁ { s₁ with heap := h', toks := tk } := InvEndN.intro F N hj ha hn ho
def WEnd (h₀ : Heap) (L : Addr) (J : (Str → Option Value) → List (Addr × Obj) → Prop) (s s₂ : Shared) : Prop :=
  ∃ h' tk m' nx, s₂ = { s with heap := h', toks := tk } ∧ Fr h₀ L h' m' ∧ News h₀ L h' nx ∧ J m' nx
theorem WEnd.intro {h₀ : Heap} {L : Addr} {J : (Str → Option Value) → List (Addr × Obj) → Prop} {m' : Str → Option Value} {news' nx : List (Addr × Obj)} {s : Shared} {h' : Heap} {tk : Nat} (F : Fr h₀ L h' m') (N : News h₀ L h' news')
    (hn : ∀ p ∈ nx, p ∈ news') (hj : J m' nx) : WEnd h₀ L J s { s with heap := h', toks := tk } := ⟨h', tk, m', nx, rfl, F, fun p hp => N p (hn p hp), hj⟩

section
variable {prog : Program} {w : World} {A : Around} {E : Value → Shared → Prop} {s : Shared} {env : Env} {h₀ : Heap} {L : Addr} {x : Str} {body : List Stmt} {Q : Flow → Shared → Prop}
theorem range_inv {r : Addr} {a₀ b₀ : Int} {t₀ u₀ v₀ : Tok} {n : Nat} {m₀ : Str → Option Value} {news : List (Addr × Obj)} (J : Nat → (Str → Option Value) → List (Addr × Obj) → Prop)
    (hh : A.handled = none) (hr : IsRange s.heap r a₀ b₀ 1 t₀ u₀ v₀) (hsmall : Builtin.Range.small a₀ b₀ 1 = true) (hn : Builtin.Range.rangeSize a₀ b₀ 1 = (n : Int)) (F : Fr h₀ env.locals s.heap m₀) (N : News h₀ env.locals s.heap news) (hj : J 0 m₀ news)
    (turn : ∀ (i : Nat) t m₁ nx h tk own, i < n → nx.map (·.1) = news.map (·.1) → OwnOff own (news.map (·.1)) → J i m₁ nx →
      Fr h₀ env.locals h (fun y => if y = x then some (.int (a₀ + (i : Int)) t) else m₁ y) → News h₀ env.locals h (nx ++ own) →
      wpAny (model prog w) A (execs body env) (fun f s₃ => match f with
        | .ret v => Q (.ret v) s₃
        | .brk => Q .next s₃
        | _ => TEnd h₀ env.locals (J (i + 1)) own (news.map (·.1)) { s with heap := h, toks := tk } s₃) E { s with heap := h, toks := tk })
    (done : ∀ m₁ nx h tk, J n m₁ nx → Fr h₀ env.locals h m₁ → News h₀ env.locals h nx → Q .next { s with heap := h, toks := tk }) :
    wpAny (model prog w) A (pyIter (.ref r)) (fun it s₂ => LoopAtV prog w A h₀ env x body Q E it s₂) E s := by
  refine wpAny_pyIter_range hr hsmall ?_
  have W : Walks prog w A s.heap.objs.size [s.heap.objs.size] [s.heap.objs.size] n (fun i v => i < n ∧ ∃ t, v = .int (a₀ + i * 1) t)
      (fun i h => IsRangeIter h s.heap.objs.size (a₀ + (i : Nat) * 1) ((n : Int) - (i : Nat)) 1) := (Walks.range hh _ a₀ 1 n).bound
  refine loop_invN J W ?_ ?_ ?_ ?_ (by show IsRangeIter _ _ _ _ _; rw [hn]; simpa using Heap.get?_push_size _ rfl) (F.push _) (fun p hp => ⟨Heap.get?_push_of_some _ (N p hp).1, (N p hp).2⟩) hj ?_ ?_
  · intro hm
    exact absurd F.ns.lt ((List.mem_singleton.mp hm) ▸ Nat.lt_irrefl _)
  · intro b hb
    rw [List.mem_singleton.mp hb]
    exact next_is_new F
  · intro p hp hI
    exact absurd (Heap.lt_size (N p hp).1) ((List.mem_singleton.mp hI) ▸ Nat.lt_irrefl _)
  · intro p hp hI
    exact absurd (Heap.lt_size (N p hp).1) ((List.mem_singleton.mp hI) ▸ Nat.lt_irrefl _)
  · rintro i v m₁ nx h tk own hi ⟨_, t, rfl⟩ ha hoff hJ F₁ N₁
    have e1 : a₀ + (i : Int) * 1 = a₀ + (i : Int) := by omega
    rw [e1] at F₁
    refine wpAny_mono (turn i t m₁ nx h tk own hi ha hoff hJ F₁ N₁) (fun f s₃ hf => ?_) fun _ _ e => e
    cases f <;> exact hf
  · intro m₁ nx h tk hJ F₁ N₁
    exact done m₁ nx h tk hJ F₁ N₁

theorem list_inv {l : Addr} {vs : List Value} {ns : List Int} {nn : Nat} {m₀ : Str → Option Value} {news : List (Addr × Obj)} (J : Nat → (Str → Option Value) → List (Addr × Obj) → Prop)
    (hh : A.handled = none) (hl : (l, W.listOf vs.toArray nn) ∈ news) (hi : IntsAre vs ns) (F : Fr h₀ env.locals s.heap m₀) (N : News h₀ env.locals s.heap news) (hj : J 0 m₀ news) (hkeep : ∀ i m nx, J i m nx → (l, W.listOf vs.toArray nn) ∈ nx)
    (turn : ∀ (i : Nat) k t m₁ nx h tk own, ns[i]? = some k → nx.map (·.1) = news.map (·.1) → OwnOff own (news.map (·.1)) → J i m₁ nx →
      Fr h₀ env.locals h (fun y => if y = x then some (.int k t) else m₁ y) → News h₀ env.locals h (nx ++ own) →
      wpAny (model prog w) A (execs body env) (fun f s₃ => match f with
        | .ret v => Q (.ret v) s₃
        | .brk => Q .next s₃
        | _ => TEnd h₀ env.locals (J (i + 1)) own (news.map (·.1)) { s with heap := h, toks := tk } s₃) E { s with heap := h, toks := tk })
    (done : ∀ m₁ nx h tk, J ns.length m₁ nx → Fr h₀ env.locals h m₁ → News h₀ env.locals h nx → Q .next { s with heap := h, toks := tk }) :
    wpAny (model prog w) A (pyIter (.ref l)) (fun it s₂ => LoopAtV prog w A h₀ env x body Q E it s₂) E s := by
  refine iter_invNL J hh hl hi F N hj ?_ ?_
  · intro i k t m₁ nx h tk own hk ha hoff _ hJ F₁ N₁
    refine wpAny_mono (turn i k t m₁ nx h tk own hk ha hoff hJ F₁ N₁) (fun f s₃ hf => ?_) fun _ _ e => e
    have up : TEnd h₀ env.locals (J (i + 1)) own (news.map (·.1)) { s with heap := h, toks := tk } s₃ →
        InvEndN h₀ env.locals (fun m' nx => (l, W.listOf vs.toArray nn) ∈ nx ∧ J (i + 1) m' nx) own (news.map (·.1)) { s with heap := h, toks := tk } s₃ := by
      rintro ⟨h', tk', m', news', nx', e', F', N', hn', ho', ha, hJ'⟩
      exact ⟨h', tk', m', news', nx', e', F', N', hn', ho', ha, hkeep _ _ _ hJ', hJ'⟩
    cases f with
    | ret v => exact hf
    | brk => exact hf
    | next => exact up hf
    | cont => exact up hf
  · intro m₁ nx h tk _ hJ F₁ N₁
    exact done m₁ nx h tk hJ F₁ N₁

theorem while_inv {test : PySem.Expr} {pos : Pos} {m : Str → Option Value} {news : List (Addr × Obj)} (J : Nat → (Str → Option Value) → List (Addr × Obj) → Prop) {n₀ : Nat}
    (F : Fr h₀ L s.heap m) (N : News h₀ L s.heap news) (hJ : J n₀ m news)
    (turn : ∀ n m₁ nx h₁ tk₁, J n m₁ nx → Fr h₀ L h₁ m₁ → News h₀ L h₁ nx →
      wpAny (model prog w) A (isTrue test env (eval test env)) (fun b s₂ =>
        if b = true then wpAny (model prog w) A (execs body env) (fun f s₃ => match f with
          | .ret v => Q (.ret v) s₃
          | .brk => Q .next s₃
          | _ => WEnd h₀ L (fun m' nx' => ∃ n', n' < n ∧ J n' m' nx') s s₃) E s₂ else Q .next s₂) E { s with heap := h₁, toks := tk₁ })
    (hE : PassesOwn (model prog w) A env E := by passes_own) :
    wpAny (model prog w) A (exec (.While test body [] pos) env) Q E s := by
  refine While_inv2 J F N hJ ?_ hE
  intro n m₁ nx h₁ tk₁ F₁ N₁ hJ₁
  refine wpAny_mono (turn n m₁ nx h₁ tk₁ hJ₁ F₁ N₁) (fun b s₂ p => ?_) fun _ _ x => x
  cases b with
  | false => simpa using p
  | true =>
    simp only [if_true] at p ⊢
    refine wpAny_mono p (fun f s₃ q => ?_) fun _ _ x => x
    cases f with
    | ret v => exact q
    | brk => exact q
    | next =>
      obtain ⟨h', tk', m', nx', e, F', N', n', hn', hJ'⟩ := q
      exact ⟨h', tk', m', nx', n', e, F', N', hn', hJ'⟩
    | cont =>
      obtain ⟨h', tk', m', nx', e, F', N', n', hn', hJ'⟩ := q
      exact ⟨h', tk', m', nx', n', e, F', N', hn', hJ'⟩
end
end
section
/-! the signs -/
def given (mode : Int) (place : Nat) : Bool := decide (mode / 2 ^ (8 - place) % 2 = 1)
def isR (c : Nat) : Bool := c == 114 || c == 119 || c == 120 || c == 115 || c == 116
theorem and_pow (x : Int) (k : Nat) : (Builtin.bitAnd x (2 ^ k) == 2 ^ k) = decide (x / 2 ^ k % 2 = 1) := by
  rw [kbt_bit]
  have hp : (0 : Int) < 2 ^ k := Int.pow_pos (by decide)
  rcases (by omega : x / 2 ^ k % 2 = 0 ∨ x / 2 ^ k % 2 = 1) with h | h
  · rw [h]; simp; omega
  · rw [h]; simp
theorem half_even (x y : Int) : Builtin.bitAnd x (2 * y) = 2 * Builtin.bitAnd (x / 2) y := by
  rw [kbt_halves x (2 * y)]
  rw [show 2 * y / 2 = y by omega, if_neg (by omega)]
  omega
theorem half_odd (x y : Int) : Builtin.bitAnd x (2 * y + 1) = 2 * Builtin.bitAnd (x / 2) y + x % 2 := by
  rw [kbt_halves x (2 * y + 1)]
  rw [show (2 * y + 1) / 2 = y by omega]
  split <;> omega
theorem and513 (x : Int) : Builtin.bitAnd x 513 = 512 * (x / 512 % 2) + x % 2 := by
  have e : Builtin.bitAnd x 513 = 2 * Builtin.bitAnd (x / 2) 256 + x % 2 := half_odd x 256
  have e2 : Builtin.bitAnd (x / 2) 256 = (x / 2 / 256 % 2) * 256 := kbt_bit (x / 2) 8
  rw [e, e2]; omega
theorem and1032 (x : Int) : Builtin.bitAnd x 1032 = 1024 * (x / 1024 % 2) + 8 * (x / 8 % 2) := by
  have e1 : Builtin.bitAnd x 1032 = 2 * Builtin.bitAnd (x / 2) 516 := half_even x 516
  have e2 : Builtin.bitAnd (x / 2) 516 = 2 * Builtin.bitAnd (x / 2 / 2) 258 := half_even _ 258
  have e3 : Builtin.bitAnd (x / 2 / 2) 258 = 2 * Builtin.bitAnd (x / 2 / 2 / 2) 129 := half_even _ 129
  have e4 : Builtin.bitAnd (x / 2 / 2 / 2) 129 = 2 * Builtin.bitAnd (x / 2 / 2 / 2 / 2) 64 + x / 2 / 2 / 2 % 2 := half_odd _ 64
  have e5 : Builtin.bitAnd (x / 2 / 2 / 2 / 2) 64 = (x / 2 / 2 / 2 / 2 / 64 % 2) * 64 := kbt_bit _ 6
  rw [e1, e2, e3, e4, e5]; omega
theorem and2112 (x : Int) : Builtin.bitAnd x 2112 = 2048 * (x / 2048 % 2) + 64 * (x / 64 % 2) := by
  have e1 : Builtin.bitAnd x 2112 = 2 * Builtin.bitAnd (x / 2) 1056 := half_even x 1056
  have e2 : Builtin.bitAnd (x / 2) 1056 = 2 * Builtin.bitAnd (x / 2 / 2) 528 := half_even _ 528
  have e3 : Builtin.bitAnd (x / 2 / 2) 528 = 2 * Builtin.bitAnd (x / 2 / 2 / 2) 264 := half_even _ 264
  have e4 : Builtin.bitAnd (x / 2 / 2 / 2) 264 = 2 * Builtin.bitAnd (x / 2 / 2 / 2 / 2) 132 := half_even _ 132
  have e5 : Builtin.bitAnd (x / 2 / 2 / 2 / 2) 132 = 2 * Builtin.bitAnd (x / 2 / 2 / 2 / 2 / 2) 66 := half_even _ 66
  have e6 : Builtin.bitAnd (x / 2 / 2 / 2 / 2 / 2) 66 = 2 * Builtin.bitAnd (x / 2 / 2 / 2 / 2 / 2 / 2) 33 := half_even _ 33
  have e7 : Builtin.bitAnd (x / 2 / 2 / 2 / 2 / 2 / 2) 33 = 2 * Builtin.bitAnd (x / 2 / 2 / 2 / 2 / 2 / 2 / 2) 16 + x / 2 / 2 / 2 / 2 / 2 / 2 % 2 := half_odd _ 16
  have e8 : Builtin.bitAnd (x / 2 / 2 / 2 / 2 / 2 / 2 / 2) 16 = (x / 2 / 2 / 2 / 2 / 2 / 2 / 2 / 16 % 2) * 16 := kbt_bit _ 4
  rw [e1, e2, e3, e4, e5, e6, e7, e8]; omega
/-- a row of one right, and a row of the third sign -/
theorem row1 (x : Int) (i k c : Nat) (hi : i ≠ 0) : rowChar x i [((2 : Int) ^ k, c)] = if x / 2 ^ k % 2 = 1 then c else 45 := by
  unfold rowChar
  simp only [List.find?, rowHit, if_neg hi, and_pow]
  by_cases h : x / 2 ^ k % 2 = 1
  · simp [h]
  · simp [h]
theorem row3 (x : Int) (i : Nat) (b bs bx : Int) (c1 c2 c3 : Nat) (hi : i ≠ 0) (hs : Builtin.bitAnd x bs = bs * (x / bs % 2)) (hx : Builtin.bitAnd x bx = bx * (x / bx % 2)) (hb : Builtin.bitAnd x b = bs * (x / bs % 2) + bx * (x / bx % 2)) (he : b = bs + bx) (h1 : 0 < bx) (h2 : bx < bs) :
    rowChar x i [(b, c1), (bs, c2), (bx, c3)] = if x / bx % 2 = 1 then (if x / bs % 2 = 1 then c1 else c3) else (if x / bs % 2 = 1 then c2 else 45) := by
  unfold rowChar
  simp only [List.find?, rowHit, if_neg hi, hs, hx, hb]
  rcases (by omega : x / bs % 2 = 0 ∨ x / bs % 2 = 1) with h | h <;> rcases (by omega : x / bx % 2 = 0 ∨ x / bx % 2 = 1) with g | g
  · rw [h, g]
    have q1 : (bs * 0 + bx * 0 == b) = false := by simp; omega
    have q2 : (bs * 0 == bs) = false := by simp; omega
    have q3 : (bx * 0 == bx) = false := by simp; omega
    simp only [q1, q2, q3]
    simp [hi]
  · rw [h, g]
    have q1 : (bs * 0 + bx * 1 == b) = false := by simp; omega
    have q2 : (bs * 0 == bs) = false := by simp; omega
    have q3 : (bx * 1 == bx) = true := by simp
    simp only [q1, q2, q3]
    simp
  · rw [h, g]
    have q1 : (bs * 1 + bx * 0 == b) = false := by simp; omega
    have q2 : (bs * 1 == bs) = true := by simp
    simp only [q1, q2]
    simp
  · rw [h, g]
    have q1 : (bs * 1 + bx * 1 == b) = true := by simp; omega
    simp only [q1]
    simp
/-- the sign of a place, as code -/
def sgn (x : Int) : Nat → Nat
  | 0 => if x / 256 % 2 = 1 then 114 else 45
  | 1 => if x / 128 % 2 = 1 then 119 else 45
  | 2 => if x / 64 % 2 = 1 then (if x / 2048 % 2 = 1 then 115 else 120) else (if x / 2048 % 2 = 1 then 83 else 45)
  | 3 => if x / 32 % 2 = 1 then 114 else 45
  | 4 => if x / 16 % 2 = 1 then 119 else 45
  | 5 => if x / 8 % 2 = 1 then (if x / 1024 % 2 = 1 then 115 else 120) else (if x / 1024 % 2 = 1 then 83 else 45)
  | 6 => if x / 4 % 2 = 1 then 114 else 45
  | 7 => if x / 2 % 2 = 1 then 119 else 45
  | _ => if x / 1 % 2 = 1 then (if x / 512 % 2 = 1 then 116 else 120) else (if x / 512 % 2 = 1 then 84 else 45)
theorem fm_list (x : Int) : fmChars x 10 = [rowChar x 0 (tbl.getD 0 []), sgn x 0, sgn x 1, sgn x 2, sgn x 3, sgn x 4, sgn x 5, sgn x 6, sgn x 7, sgn x 8] := by
  have r0 : rowChar x 1 (tbl.getD 1 []) = sgn x 0 := row1 x 1 8 114 (by decide)
  have r1 : rowChar x 2 (tbl.getD 2 []) = sgn x 1 := row1 x 2 7 119 (by decide)
  have r2 : rowChar x 3 (tbl.getD 3 []) = sgn x 2 := row3 x 3 2112 2048 64 115 83 120 (by decide) ((kbt_bit x 11).trans (Int.mul_comm _ _)) ((kbt_bit x 6).trans (Int.mul_comm _ _)) (and2112 x) (by decide) (by decide) (by decide)
  have r3 : rowChar x 4 (tbl.getD 4 []) = sgn x 3 := row1 x 4 5 114 (by decide)
  have r4 : rowChar x 5 (tbl.getD 5 []) = sgn x 4 := row1 x 5 4 119 (by decide)
  have r5 : rowChar x 6 (tbl.getD 6 []) = sgn x 5 := row3 x 6 1032 1024 8 115 83 120 (by decide) ((kbt_bit x 10).trans (Int.mul_comm _ _)) ((kbt_bit x 3).trans (Int.mul_comm _ _)) (and1032 x) (by decide) (by decide) (by decide)
  have r6 : rowChar x 7 (tbl.getD 7 []) = sgn x 6 := row1 x 7 2 114 (by decide)
  have r7 : rowChar x 8 (tbl.getD 8 []) = sgn x 7 := row1 x 8 1 119 (by decide)
  have r8 : rowChar x 9 (tbl.getD 9 []) = sgn x 8 := row3 x 9 513 512 1 116 84 120 (by decide) ((kbt_bit x 9).trans (Int.mul_comm _ _)) ((kbt_bit x 0).trans (Int.mul_comm _ _)) (by rw [and513]; omega) (by decide) (by decide) (by decide)
  simp only [fmChars, List.nil_append, List.cons_append, r0, r1, r2, r3, r4, r5, r6, r7, r8]
theorem sgn_given (x : Int) : ∀ i, i < 9 → isR (sgn x i) = given x i ∧ sgn x i ∈ [114, 119, 120, 115, 116, 83, 84, 45] := by
  intro i hi
  have key : ∀ (P : Prop) [Decidable P] (c : Nat), isR c = true → c ∈ [114, 119, 120, 115, 116, 83, 84, 45] → isR (if P then c else 45) = decide P ∧ (if P then c else 45) ∈ [114, 119, 120, 115, 116, 83, 84, 45] := by
    intro P _ c hc hm
    by_cases h : P
    · rw [if_pos h]; exact ⟨by rw [hc]; simp [h], hm⟩
    · rw [if_neg h]; exact ⟨by rw [show isR 45 = false by decide]; simp [h], by decide⟩
  have key3 : ∀ (P R : Prop) [Decidable P] [Decidable R] (c1 c2 c3 : Nat), isR c1 = true → isR c3 = true → isR c2 = false → c1 ∈ [114, 119, 120, 115, 116, 83, 84, 45] → c2 ∈ [114, 119, 120, 115, 116, 83, 84, 45] → c3 ∈ [114, 119, 120, 115, 116, 83, 84, 45] →
      isR (if P then (if R then c1 else c3) else (if R then c2 else 45)) = decide P ∧ (if P then (if R then c1 else c3) else (if R then c2 else 45)) ∈ [114, 119, 120, 115, 116, 83, 84, 45] := by
    intro P R _ _ c1 c2 c3 h1 h3 h2 m1 m2 m3
    by_cases h : P <;> by_cases g : R
    · rw [if_pos h, if_pos g]; exact ⟨by rw [h1]; simp [h], m1⟩
    · rw [if_pos h, if_neg g]; exact ⟨by rw [h3]; simp [h], m3⟩
    · rw [if_neg h, if_pos g]; exact ⟨by rw [h2]; simp [h], m2⟩
    · rw [if_neg h, if_neg g]; exact ⟨by rw [show isR 45 = false by decide]; simp [h], by decide⟩
  match i, hi with
  | 0, _ => exact key _ 114 (by decide) (by decide)
  | 1, _ => exact key _ 119 (by decide) (by decide)
  | 2, _ => exact key3 _ _ 115 83 120 (by decide) (by decide) (by decide) (by decide) (by decide) (by decide)
  | 3, _ => exact key _ 114 (by decide) (by decide)
  | 4, _ => exact key _ 119 (by decide) (by decide)
  | 5, _ => exact key3 _ _ 115 83 120 (by decide) (by decide) (by decide) (by decide) (by decide) (by decide)
  | 6, _ => exact key _ 114 (by decide) (by decide)
  | 7, _ => exact key _ 119 (by decide) (by decide)
  | 8, _ => exact key3 _ _ 116 84 120 (by decide) (by decide) (by decide) (by decide) (by decide) (by decide)
theorem occ_isR : ∀ c ∈ [114, 119, 120, 115, 116, 83, 84, 45], (Builtin.Str.occurrences (Str.ofString "rwxst") (one c) 0 (Str.ofString "rwxst").length 1).isEmpty = !isR c := by decide +kernel
def sgns (x : Int) : Str := ⟨#[sgn x 0, sgn x 1, sgn x 2, sgn x 3, sgn x 4, sgn x 5, sgn x 6, sgn x 7, sgn x 8]⟩
theorem slice_sgns (x : Int) : Txt.slice (fmStr x) (some 1) none = sgns x := by
  unfold fmStr
  rw [fm_list, slice_from_eq (b := 10) (by decide) (by show (1 : Int) ≤ 10; decide) (by rfl)]
  rfl
theorem item_sgns (x : Int) : ∀ i : Nat, i < 9 → Txt.item (sgns x) (0 + (i : Int)) = one (sgn x i)
  | 0, _ => rfl
  | 1, _ => rfl
  | 2, _ => rfl
  | 3, _ => rfl
  | 4, _ => rfl
  | 5, _ => rfl
  | 6, _ => rfl
  | 7, _ => rfl
  | 8, _ => rfl
section
variable {prog : Program} {w : World} {A : Around} {E : Value → Shared → Prop} {s : Shared} {t u : Tok} {Q : Value → Shared → Prop}
theorem notIn_sign {x : Int} {i : Nat} {y : Str} (hy : y = sgns x) (hi : i < 9) (h : Q (.bool (!given x i)) s) : wpAny (model prog w) A (compareOp .NotIn (.str (Txt.item y (0 + (i : Int))) u) (.str (Str.ofString "rwxst") t)) Q E s := by
  subst hy
  refine notIn_str ?_
  have g := sgn_given x i hi
  rw [item_sgns x i hi, occ_isR _ g.2, g.1, Bool.not_not]
  exact h
end
theorem occ_given {x : Int} {i : Nat} {y : Str} {b : Bool} (hy : y = sgns x) (hi : i < 9) (h : (Builtin.Str.occurrences (Str.ofString "rwxst") (Txt.item y (0 + (i : Int))) 0 (Str.ofString "rwxst").length 1).isEmpty = b) : given x i = !b := by
  subst hy
  have g := sgn_given x i hi
  rw [item_sgns x i hi, occ_isR _ g.2, g.1] at h
  rw [← h, Bool.not_not]
end
section
/-! the medians, list.index -/
theorem sorted_unique : ∀ {a b : List Int}, a.Perm b → a.Pairwise (· ≤ ·) → b.Pairwise (· ≤ ·) → a = b
  | [], b, p, _, _ => (List.Perm.nil_eq p).symm ▸ rfl
  | x :: r, [], p, _, _ => by simpa using p.length_eq
  | x :: r, y :: q, p, ha, hb => by
    have h1 : x ∈ y :: q := p.mem_iff.mp (List.mem_cons_self ..)
    have h2 : y ∈ x :: r := p.mem_iff.mpr (List.mem_cons_self ..)
    have hxy : x = y := by
      rcases List.mem_cons.mp h1 with e | e
      · exact e
      · rcases List.mem_cons.mp h2 with f | f
        · exact f.symm
        · exact Int.le_antisymm ((List.pairwise_cons.mp ha).1 y f) ((List.pairwise_cons.mp hb).1 x e)
    subst hxy
    rw [sorted_unique (List.Perm.cons_inv p) (List.pairwise_cons.mp ha).2 (List.pairwise_cons.mp hb).2]

section
variable {prog : Program} {w : World} {A : Around} {E : Value → Shared → Prop} {s : Shared} {h₀ : Heap} {L D : Addr} {m : Str → Option Value} {news : List (Addr × Obj)}
theorem index_ints {vs : List Value} {ns : List Int} {n j : Nat} {k : Int} {t : Tok} {Q : Value → Shared → Prop} (N : News h₀ L s.heap news) (hm : (D, W.listOf vs.toArray n) ∈ news) (hi : IntsAre vs ns) (hj : ns[j]? = some k) (hf : ∀ i < j, ns[i]? ≠ some k) (hz : ns.length ≤ 1000)
    (h : Q (.int (j : Int) s.toks) { s with toks := s.toks + 1 }) : wpAny (model prog w) A (call (.builtin "list.index") [.ref D, .int k t]) Q E s := by
  have hl := hi.length
  obtain ⟨hj1, hj2⟩ := List.getElem?_eq_some_iff.mp hj
  have at_ : ∀ (i : Nat) (hi' : i < vs.length), ∃ t', vs[i] = Value.int (ns[i]'(by omega)) t' := by
    intro i hi'
    obtain ⟨k', t', e1, e2⟩ := IntsAre.at hi i vs[i] (by simp)
    have e3 : ns[i]'(by omega) = k' := by
      have := List.getElem?_eq_getElem (l := ns) (i := i) (by omega)
      rw [this] at e2; exact Option.some.inj e2
    exact ⟨t', by rw [e1, e3]⟩
  have allI : ∀ y ∈ vs, ∃ k' t', y = Value.int k' t' := by
    intro y hy
    obtain ⟨i, hi', e⟩ := List.getElem_of_mem hy
    obtain ⟨t', q⟩ := at_ i hi'
    exact ⟨_, t', e ▸ q⟩
  have hints : kf_ints vs = true := by
    clear hj hf hj1 hj2 at_ hm hl hz
    induction hi with
    | nil => rfl
    | cons k' t' _ ih =>
      have := ih (fun y hy => allI y (List.mem_cons_of_mem _ hy))
      simpa [kf_ints] using this
  refine call_meets PySem.F.slot_list_index ⟨_, (N _ hm).1, rfl⟩ PySem.F.entry_list_index (PySem.F.args_list_index_2 _ _)
    (MeetsSeq.list_index D vs.toArray n (.int k t) (isInt k) (fun y hy => kf_eq (l := vs) hints y (by simpa using hy)) j (by simp; omega) (by omega) ?_ ?_) ⟨(N _ hm).1, h⟩
  · obtain ⟨t', e⟩ := at_ j (by omega)
    simp only [List.getElem_toArray, e, hj2]
    simp [isInt]
  · intro i hi' hlt
    have hiv : i < vs.length := by simpa using hi'
    obtain ⟨t', e⟩ := at_ i hiv
    have hne := hf i hlt
    rw [List.getElem?_eq_getElem (by omega)] at hne
    simp only [List.getElem_toArray, e]
    simp only [isInt, beq_eq_false_iff_ne, ne_eq]
    intro q
    exact hne (by rw [q])
end
end
section
local macro_rules | `(tactic| walk_at "binaryOp RShift int int") => `(tactic| (k_here; (with_reducible refine shr1 ?_)))
local macro_rules | `(tactic| walk_at "binaryOp Mod int int") => `(tactic| (k_here; (with_reducible refine mod_pos ?k1 ?_); (case k1 => decide)))
local macro_rules | `(tactic| walk_at "binaryOp FloorDiv int int") => `(tactic| (k_here; (with_reducible refine fdiv_pos ?k1 ?k2 ?_); (case k1 => decide); (case k2 => decide +kernel)))
local macro_rules | `(tactic| k_all) => `(tactic| with_reducible assumption)
local macro_rules | `(tactic| l_idx) => `(tactic| omega)
local macro_rules | `(tactic| k_upd) => `(tactic| first | (refine' Pick.head ?a; (case a => k_all)) | (refine' Pick.tail ?a ?b; (case a => k_ne); (case b => k_upd)))
local macro_rules | `(tactic| walk_at "call ref") => `(tactic| (k_here; refine wpAny_call ?_; k_dflt (refine' code_def ?k1 ?k2 ?k3 ?k4 ?k5 ?kA ?kF ?kK ?k6 ?k7 ?k8 ?k9 ?kB ?_ ?c2 ?c3 ?c4 ?c5; (case kA => exact rfl); (case kF => exact rfl); (case kK => first | exact rfl | assumption); (case k1 => k_asm); (case k2 => k_asm); (case k3 => k_asm); (case k4 => k_asm); (case k5 => k_asm); (case k6 => k_is); (case k7 => k_is); (case k8 => ktr_room); (case k9 => exact BindsTo.of_eq rfl); (case c5 => decide); (case kB => exact locs rfl); (case c2 => exact rfl); (case c3 => exact rfl); (case c4 => exact rfl); k_whole; intro g' L' h' FG' F' N' B' X' T'; (try dsimp only); (try k_lift B'); (try k_fold))))
section
variable {w : World} {mean : ExcName → Option Value} {mg mb : Str → Option Value} {dp un : Nat} {gd : Option (List Code)} {cn : Str} {cs : Scope} {a : Addr} {ccd : Value} {cl : List (Str × Addr)} {outer : List Env} {A₀ : Around} {base h₀ : Heap} {L : Addr} {m : Str → Option Value} {s : Shared} {Q E : Value → Shared → Prop}

set_option maxHeartbeats 1000000 in
theorem medlow_tells {l : Addr} {vs : List Value} {n : Nat} {xs S : List Int} {news : List (Addr × Obj)}
    (B : Below A₀ base outer h₀) (F : Fr h₀ L s.heap m) (X : (hd.heap_39 w.params).In h₀) (N : News h₀ L s.heap news) (T : Top hd.view_39 lz mean mg mb h₀) (hk : cs.kind = .function)
    (hm : (l, W.listOf vs.toArray n) ∈ news) (hi : IntsAre vs xs) (hne : 0 < xs.length) (hlen : xs.length < 64) (hS : S.Perm xs) (hSo : S.Pairwise (· ≤ ·))
    (hdp : dp + 1 < recursionLimit) (hun : un + 8 < cLine)
    (hret : ∀ h' tk' t' v, Fr h₀ L h' m → News h₀ L h' news → v = S.getD ((xs.length - 1) / 2) 0 → Q (.int v t') { s with heap := h', toks := tk' }) :
    wpAny (model prg w) (ktrTop dp un gd cn cs L a ccd cl outer) (call (.ref 34) [.ref l]) Q E s := by
  revert X; unfold prg; w_top off; k_fill; intro X
  refine wpAny_call ?_
  k_dflt cell_enter
  k_with_none
  k_steps
  have hv := hi.length
  refine kso_sorted (by k_asm) (by k_asm) (kso_isList (by k_asm) hm (by simp)) hi hlen ?_
  intro D' vs' ns' c' h' F' N' l1 hI' hyl' hp' ho' hq'
  have hu : ns' = S := sorted_unique (hp'.trans hS.symm) ho' hSo
  k_steps
  · exfalso; omega
  · exact at_int (by rw [hu, hS.length_eq]; congr 1; omega) (hret _ _ _ _ (by k_asm) (cb_drop (by assumption) (fun p hp => List.mem_cons_of_mem _ hp)) rfl)
  · exact at_int (by rw [hu, hS.length_eq]; congr 1; omega) (hret _ _ _ _ (by k_asm) (cb_drop (by assumption) (fun p hp => List.mem_cons_of_mem _ hp)) rfl)

set_option maxHeartbeats 1000000 in
theorem medhigh_tells {l : Addr} {vs : List Value} {n : Nat} {xs S : List Int} {news : List (Addr × Obj)}
    (B : Below A₀ base outer h₀) (F : Fr h₀ L s.heap m) (X : (hd.heap_39 w.params).In h₀) (N : News h₀ L s.heap news) (T : Top hd.view_39 lz mean mg mb h₀) (hk : cs.kind = .function)
    (hm : (l, W.listOf vs.toArray n) ∈ news) (hi : IntsAre vs xs) (hne : 0 < xs.length) (hlen : xs.length < 64) (hS : S.Perm xs) (hSo : S.Pairwise (· ≤ ·))
    (hdp : dp + 1 < recursionLimit) (hun : un + 8 < cLine)
    (hret : ∀ h' tk' t' v, Fr h₀ L h' m → News h₀ L h' news → v = S.getD (xs.length / 2) 0 → Q (.int v t') { s with heap := h', toks := tk' }) :
    wpAny (model prg w) (ktrTop dp un gd cn cs L a ccd cl outer) (call (.ref 41) [.ref l]) Q E s := by
  revert X; unfold prg; w_top off; k_fill; intro X
  refine wpAny_call ?_
  k_dflt cell_enter
  k_with_none
  k_steps
  have hv := hi.length
  refine kso_sorted (by k_asm) (by k_asm) (kso_isList (by k_asm) hm (by simp)) hi hlen ?_
  intro D' vs' ns' c' h' F' N' l1 hI' hyl' hp' ho' hq'
  have hu : ns' = S := sorted_unique (hp'.trans hS.symm) ho' hSo
  k_steps
  · exfalso; omega
  · exact at_int (by rw [hu, hS.length_eq]; congr 1) (hret _ _ _ _ (by k_asm) (cb_drop (by assumption) (fun p hp => List.mem_cons_of_mem _ hp)) rfl)
end
end
section
/-! tuples of ints: `<`, lists of them -/
def lexLt : List Int → List Int → Bool
  | [], [] => false
  | [], _ :: _ => true
  | _ :: _, [] => false
  | a :: r, b :: q => if a = b then lexLt r q else decide (a < b)

section
variable {prog : Program} {w : World} {A : Around} {E : Value → Shared → Prop} {s : Shared}
theorem tuple_lt_tree {vs us : List Value} {x y : List Int} {a b : Addr} {oa ob : Obj} {na nb : Nat} {P : PySem.Fin → Shared → Prop} (ha : s.heap.get? a = some oa) (da : oa.data = .seq vs.toArray na)
    (hb : s.heap.get? b = some ob) (cb : ob.cls = .type "tuple") (db : ob.data = .seq us.toArray nb) (hi : IntsAre vs x) (hj : IntsAre us y) (h : P (.done (.ret (.bool (lexLt x y)))) s) :
    wpAny (model prog w) A (Builtin.«tuple.__lt__» ⟨[.ref a, .ref b], []⟩) P E s := by
  have hTb : s.TypeIs (.ref b) "tuple" := ⟨_, hb, cb⟩
  show wpAny _ _ (isInstance (.ref b) (.type "tuple") >>= _) _ _ s
  refine wpAny_bind (wpAny_isInstance hTb isSubtype_tuple_tuple ?_)
  simp only [Bool.not_true, Bool.false_eq_true, if_false]
  refine wpAny_bind (wpAny_tupleItemsOf ha da ?_)
  refine wpAny_bind (wpAny_tupleItemsOf hb db ?_)
  refine wpAny_bind ?_
  refine wpAny_forIn_list _
    (fun rest r s' => r.1 = none ∧ s' = s ∧ ∃ x' y' xs' ys', rest = List.zip xs' ys' ∧ IntsAre xs' x' ∧ IntsAre ys' y' ∧ lexLt x' y' = lexLt x y ∧ decide (xs'.length < ys'.length) = decide (vs.toArray.size < us.toArray.size))
    _ ?_ ?_ _ _ ⟨rfl, rfl, x, y, vs, us, by simp, hi, hj, rfl, by simp⟩
  · rintro ⟨u, v⟩ rest r s' ⟨hr, rfl, x', y', xs', ys', hz, hx', hy', hdec, hlen⟩
    cases hx' with
    | nil => simp at hz
    | cons k1 t1 hx'' =>
      cases hy' with
      | nil => simp at hz
      | cons k2 t2 hy'' =>
        simp only [List.zip_cons_cons, List.cons.injEq, Prod.mk.injEq] at hz
        obtain ⟨⟨rfl, rfl⟩, rfl⟩ := hz
        refine wpAny_bind (wpAny_eqBool_int ?_)
        by_cases hk : k1 = k2
        · subst hk
          simp only [beq_self_eq_true, Bool.not_true, Bool.false_eq_true, if_false]
          refine wpAny_pure ⟨rfl, rfl, _, _, _, _, rfl, hx'', hy'', ?_, by simpa using hlen⟩
          rw [← hdec]; simp [lexLt]
        · have hne : (k1 == k2) = false := by simpa using hk
          simp only [hne, Bool.not_false, if_true]
          have hf : lexLt x y = decide (k1 < k2) := by rw [← hdec]; simp [lexLt, hk]
          rw [hf] at h
          refine wpAny_bind (wpAny_rule ?_)
          refine wpAny_bind (show wpAny _ _ (compareOp .Lt (.int k1 t1) (.int k2 t2)) _ _ _ from PyProof.Rows.lt_int ?_)
          exact wpAny_bind (wpAny_pure (wpAny_pure (wpAny_pure h)))
  · rintro ⟨r1, r2⟩ s' ⟨hr, rfl, x', y', xs', ys', hz, hx', hy', hdec, hlen⟩
    simp only at hr
    subst hr
    refine wpAny_pure ?_
    have hfin : decide (vs.toArray.size < us.toArray.size) = lexLt x y := by
      rw [← hdec, ← hlen]
      cases hx' with
      | nil =>
        cases hy' with
        | nil => simp [lexLt]
        | cons _ _ => simp [lexLt]
      | cons _ _ _ =>
        cases hy' with
        | nil => simp [lexLt]
        | cons _ _ _ => simp at hz
    show P (.done (.ret (.bool (decide (vs.toArray.size < us.toArray.size))))) s'
    rw [hfin]; exact h

theorem tuple_lt {vs us : List Value} {x y : List Int} {a b : Addr} {oa ob : Obj} {na nb : Nat} {Q : Value → Shared → Prop} (hu : A.units < cLine) (ha : s.heap.get? a = some oa) (ca : oa.cls = .type "tuple") (da : oa.data = .seq vs.toArray na)
    (hb : s.heap.get? b = some ob) (cb : ob.cls = .type "tuple") (db : ob.data = .seq us.toArray nb) (hi : IntsAre vs x) (hj : IntsAre us y) (h : Q (.bool (lexLt x y)) s) :
    wpAny (model prog w) A (compareOp .Lt (.ref a) (.ref b)) Q E s := by
  have hTa : s.TypeIs (.ref a) "tuple" := ⟨_, ha, ca⟩
  have hTb : s.TypeIs (.ref b) "tuple" := ⟨_, hb, cb⟩
  show wpAny _ _ (richCompare .Lt (.ref a) (.ref b)) _ _ _
  exact wpAny_richCompare_same_room (op := .Lt) hTa hTb F.slot_tuple_lt
    (wpAny_call_entry F.slot_tuple_lt hTa F.entry_tuple_lt (tuple_lt_tree ha da hb cb db hi hj ⟨_, rfl, (fun e => nomatch e), h⟩) (F.args_tuple_lt_2 _ _)) hu
end
end
section
/-! tuples (way, bits, at) in the ledger, read as one key -/
abbrev tupO (us : List Value) (n : Nat) : Obj := { cls := .type "tuple", data := .seq us.toArray n }
def codeK (w b t : Int) : Int := w * 1048576 + b * 16 + t
def TupK (led : List (Addr × Obj)) (v : Value) (k : Int) : Prop :=
  ∃ a us n w b t, v = .ref a ∧ (a, tupO us n) ∈ led ∧ IntsAre us [w, b, t] ∧ k = codeK w b t ∧ 0 ≤ w ∧ 0 ≤ b ∧ b < 65536 ∧ 0 ≤ t ∧ t < 16
inductive TupsK (led : List (Addr × Obj)) : List Value → List Int → Prop
  | nil : TupsK led [] []
  | cons {v : Value} {k : Int} {vs : List Value} {xs : List Int} : TupK led v k → TupsK led vs xs → TupsK led (v :: vs) (k :: xs)
theorem TupK.mono {led led' : List (Addr × Obj)} (hs : ∀ p ∈ led, p ∈ led') {v : Value} {k : Int} (h : TupK led v k) : TupK led' v k :=
  let ⟨a, us, n, w, b, t, e, hm, r⟩ := h; ⟨a, us, n, w, b, t, e, hs _ hm, r⟩
theorem TupsK.mono {led led' : List (Addr × Obj)} (hs : ∀ p ∈ led, p ∈ led') : ∀ {vs : List Value} {xs : List Int}, TupsK led vs xs → TupsK led' vs xs
  | _, _, .nil => .nil
  | _, _, .cons h r => .cons (h.mono hs) (TupsK.mono hs r)
theorem TupsK.length {led : List (Addr × Obj)} : ∀ {vs : List Value} {xs : List Int}, TupsK led vs xs → vs.length = xs.length
  | _, _, .nil => rfl
  | _, _, .cons _ r => by simp [TupsK.length r]
theorem TupsK.at {led : List (Addr × Obj)} : ∀ {vs : List Value} {xs : List Int}, TupsK led vs xs → ∀ {i : Nat}, i < xs.length → ∃ a, vs[i]? = some (.ref a) ∧ TupK led (.ref a) (xs.getD i 0)
  | _, _, .nil, _, h => absurd h (Nat.not_lt_zero _)
  | _, _, .cons h r, 0, _ => by
    obtain ⟨a, us, n, w, b, t, rfl, q⟩ := id h
    exact ⟨a, rfl, h⟩
  | _, _, .cons h r, i + 1, hi => by
    obtain ⟨a, e, q⟩ := TupsK.at r (i := i) (by simpa using hi)
    exact ⟨a, by simpa using e, by simpa using q⟩
theorem TupsK.set {led : List (Addr × Obj)} : ∀ {vs : List Value} {xs : List Int}, TupsK led vs xs → ∀ {i : Nat} {v : Value} {k : Int}, TupK led v k → TupsK led (vs.set i v) (xs.set i k)
  | _, _, .nil, i, _, _, _ => by simpa using TupsK.nil
  | _, _, .cons h r, 0, _, _, q => .cons q r
  | _, _, .cons h r, i + 1, _, _, q => .cons h (TupsK.set r q)
theorem TupsK.append {led : List (Addr × Obj)} : ∀ {vs us : List Value} {xs ys : List Int}, TupsK led vs xs → TupsK led us ys → TupsK led (vs ++ us) (xs ++ ys)
  | _, _, _, _, .nil, q => q
  | _, _, _, _, .cons h r, q => .cons h (TupsK.append r q)
theorem TupsK.dropLast {led : List (Addr × Obj)} {vs : List Value} {xs : List Int} (h : TupsK led vs xs) : TupsK led vs.dropLast xs.dropLast := by
  induction h with
  | nil => exact .nil
  | cons h r ih =>
    cases r with
    | nil => exact .nil
    | cons h2 r2 => exact .cons h ih
theorem TupsK.last {led : List (Addr × Obj)} {vs : List Value} {xs : List Int} (h : TupsK led vs xs) : 0 < xs.length → ∃ a, vs.getLast? = some (.ref a) ∧ TupK led (.ref a) (xs.getLastD 0) := by
  induction h with
  | nil => exact fun h => absurd h (Nat.not_lt_zero _)
  | cons h r ih =>
    intro _
    cases r with
    | nil =>
      obtain ⟨a, us, n, w, b, t, rfl, q⟩ := id h
      exact ⟨a, rfl, h⟩
    | cons h2 r2 =>
      obtain ⟨a, e, q⟩ := ih (by simp)
      exact ⟨a, by simpa using e, by simpa using q⟩
theorem tups_eq {led : List (Addr × Obj)} {vs : List Value} {xs ys : List Int} (h : TupsK led vs xs) (e : xs = ys) : TupsK led vs ys := e ▸ h
theorem lex3 {w b t w' b' t' : Int} (h1 : 0 ≤ b) (h2 : b < 65536) (h3 : 0 ≤ t) (h4 : t < 16) (h1' : 0 ≤ b') (h2' : b' < 65536) (h3' : 0 ≤ t') (h4' : t' < 16) :
    lexLt [w, b, t] [w', b', t'] = decide (codeK w b t < codeK w' b' t') := by
  unfold codeK
  by_cases e1 : w = w'
  · subst e1
    by_cases e2 : b = b'
    · subst e2
      by_cases e3 : t = t'
      · subst e3; simp [lexLt]
      · simp only [lexLt, if_pos, if_neg e3]
        exact decide_eq_decide.mpr (by omega)
    · simp only [lexLt, if_pos, if_neg e2]
      exact decide_eq_decide.mpr (by omega)
  · simp only [lexLt, if_neg e1]
    exact decide_eq_decide.mpr (by omega)
section
variable {prog : Program} {w : World} {A : Around} {E : Value → Shared → Prop} {s : Shared} {h₀ : Heap} {L l : Addr}
theorem lt_K {news led : List (Addr × Obj)} {a b : Addr} {k j : Int} {Q : Value → Shared → Prop} (hu : A.units < cLine) (N : News h₀ L s.heap news) (hs : ∀ p ∈ led, p ∈ news) (h1 : TupK led (.ref a) k) (h2 : TupK led (.ref b) j) (h : Q (.bool (decide (k < j))) s) :
    wpAny (model prog w) A (compareOp .Lt (.ref a) (.ref b)) Q E s := by
  obtain ⟨a1, us, n, w1, b1, t1, e1, m1, i1, rfl, c1, c2, c3, c4, c5⟩ := h1
  obtain ⟨a2, us2, n2, w2, b2, t2, e2, m2, i2, rfl, d1, d2, d3, d4, d5⟩ := h2
  cases e1; cases e2
  refine tuple_lt hu (N _ (hs _ m1)).1 rfl rfl (N _ (hs _ m2)).1 rfl rfl i1 i2 ?_
  rw [lex3 c2 c3 c4 c5 d2 d3 d4 d5]; exact h
theorem item_K {value slice : PySem.Expr} {news led : List (Addr × Obj)} {vs : List Value} {xs : List Int} {n : Nat} {k : Int} {u : Tok} {Q : Value → Shared → Prop} (N : News h₀ L s.heap news) (hm : (l, W.listOf vs.toArray n) ∈ news) (hd : TupsK led vs xs)
    (h0 : 0 ≤ k) (h1 : k < (xs.length : Int)) (hfit : k < 2 ^ 63) (h : ∀ a, TupK led (.ref a) (xs.getD k.toNat 0) → vs[k.toNat]? = some (.ref a) → Q (.ref a) s)
    (hs : subscripted slice false (.ref l) (.int k u) = operate [.ref l, .int k u] (getItem (.ref l) (.int k u)) := by with_unfolding_all rfl) :
    wpAny (model prog w) A (subscriptTail value slice (.ref l) (.int k u)) Q E s := by
  have hl : s.heap.IsList l vs.toArray := ⟨_, (N _ hm).1, rfl, n, rfl⟩
  have hk : k.toNat < xs.length := by omega
  obtain ⟨a, e, q⟩ := hd.at hk
  exact tail_any hl.typeIs slot_list_getitem.lookup (wpAny_getItem_list hl h0 hfit (by simpa using e) (h a q e)) hs
theorem set_K {m : Str → Option Value} {news news' led : List (Addr × Obj)} {vs : List Value} {xs : List Int} {n : Nat} {k j : Int} {t : Tok} {v : Value} {Q : Unit → Shared → Prop} (F : Fr h₀ L s.heap m) (N : News h₀ L s.heap news) (U : Upd l (W.listOf vs.toArray n) (W.listOf (vs.set k.toNat v).toArray n) news news')
    (hi : TupsK led vs xs) (hv : TupK led v j) (h0 : 0 ≤ k) (h1 : k < xs.length) (hfit : k < 2 ^ 63) (h : ∀ h', Fr h₀ L h' m → News h₀ L h' news' → TupsK led (vs.set k.toNat v) (xs.set k.toNat j) → (xs.set k.toNat j).length = xs.length → Q () { s with heap := h' }) :
    wpAny (model prog w) A (setItem (.ref l) (.int k t) v) Q E s := by
  obtain ⟨pre, post, rfl, rfl, a, b⟩ := U.split
  have z := N (l, W.listOf vs.toArray n) (List.mem_append.mpr (.inr (.head _)))
  have hl := hi.length
  have hs : vs.toArray.size = xs.length := by rw [List.size_toArray]; exact hl
  refine ki_setAt z.1 h0 hfit (by omega) (h _ (F.change (Heap.SameBut.update ..) z.2.1 z.2.2) (ki_turn _ N a b ?_ ?_) (hi.set hv) (List.length_set ..))
  · show vs.toArray.setIfInBounds k.toNat v = (vs.set k.toNat v).toArray
    apply Array.toList_inj.mp
    simp
  · simp
theorem len_led {news : List (Addr × Obj)} {vs : List Value} {n : Nat} {Q : Value → Shared → Prop} (N : News h₀ L s.heap news) (hm : (l, W.listOf vs.toArray n) ∈ news) (hfit : (vs.length : Int) < 2 ^ 63)
    (h : Q (.int (vs.length : Int) (s.toks + 1)) { s with toks := s.toks + 1 + 1 }) : wpAny (model prog w) A (call (.builtin "len") [.ref l]) Q E s := by
  have hl : s.heap.IsList l vs.toArray := ⟨_, (N _ hm).1, rfl, n, rfl⟩
  have e : vs.toArray.size = vs.length := by rw [List.size_toArray]
  exact len_list hl (by rw [e]; exact hfit) (by rw [e]; exact h)
theorem pop_K {m : Str → Option Value} {news news' led : List (Addr × Obj)} {us : List Value} {xs : List Int} {n : Nat} {Q : Value → Shared → Prop} (F : Fr h₀ L s.heap m) (N : News h₀ L s.heap news) (U : Upd l (W.listOf us.toArray n) (W.listOf us.dropLast.toArray (n + 1)) news news') (hi : TupsK led us xs) (hne : 0 < xs.length)
    (hz : xs.length < 1000) (h : ∀ h' ai, Fr h₀ L h' m → News h₀ L h' news' → TupsK led us.dropLast xs.dropLast → TupK led (.ref ai) (xs.getLastD 0) → Q (.ref ai) { s with heap := h' }) : wpAny (model prog w) A (call (.builtin "list.pop") [.ref l]) Q E s := by
  obtain ⟨ai, h1, h2⟩ := hi.last hne
  have hl := hi.length
  have hnn : us ≠ [] := List.length_pos_iff.mp (by omega)
  have e1 : us = us.dropLast ++ [.ref ai] := by
    have := List.dropLast_concat_getLast hnn
    rw [List.getLast?_eq_some_getLast hnn] at h1
    rw [← Option.some.inj h1]; exact this.symm
  refine kl_pop F N (p := us.dropLast) (y := .ref ai) ?_ U (by rw [sizeLine_eq]; simp; omega) fun h' F' N' => h h' ai F' N' hi.dropLast h2
  have e := kpa_last (.ref ai) us.dropLast
  rw [← e1] at e
  simpa using e
theorem truth_led {news : List (Addr × Obj)} {vs : List Value} {n : Nat} {Q : Bool → Shared → Prop} (N : News h₀ L s.heap news) (hm : (l, W.listOf vs.toArray n) ∈ news) (hfit : (vs.length : Int) < 2 ^ 63)
    (h : Q (decide (0 < vs.length)) { s with toks := s.toks + 1 + 1 }) : wpAny (model prog w) A (truthy (.ref l)) Q E s := by
  have hl : s.heap.IsList l vs.toArray := ⟨_, (N _ hm).1, rfl, n, rfl⟩
  refine wpAny_truthy_list hl (by simpa using hfit) ?_
  have e : (!vs.toArray.isEmpty) = decide (0 < vs.length) := by
    cases vs <;> simp
  rw [e]; exact h
end
end
section
/-! what the heap functions keep: the items, and the order -/
theorem getD_set (xs : List Int) (i j : Nat) (v : Int) (hi : i < xs.length) : (xs.set i v).getD j 0 = if i = j then v else xs.getD j 0 := by
  simp only [List.getD, List.getElem?_set]
  by_cases h : i = j
  · subst h; simp [hi]
  · simp [h]
theorem swap_perm {xs : List Int} {i j : Nat} {v : Int} (hij : i ≠ j) (hi : i < xs.length) (hj : j < xs.length) : ((xs.set i (xs.getD j 0)).set j v).Perm (xs.set i v) := by
  have h := List.set_set_perm (as := xs.set i v) (i := i) (j := j) (by simpa using hi) (by simpa using hj)
  have e1 : (xs.set i v)[j]'(by simpa using hj) = xs.getD j 0 := by
    rw [List.getElem_set_ne hij]; simp [List.getD, hj]
  have e2 : (xs.set i v)[i]'(by simpa using hi) = v := by simp
  rw [e1, e2, List.set_set] at h
  exact h
theorem sd_perm (new : Int) : ∀ (f : Nat) (xs : List Int) (pos : Nat), pos < xs.length → (sd new f xs pos).Perm (xs.set pos new)
  | 0, xs, pos, _ => List.Perm.refl _
  | f + 1, xs, pos, h => by
    simp only [sd]
    split
    · exact List.Perm.refl _
    · split
      · refine (sd_perm new f _ _ (by rw [List.length_set]; omega)).trans ?_
        exact swap_perm (by omega) h (by omega)
      · exact List.Perm.refl _
theorem suL_perm (n : Nat) (v : Int) : ∀ (f : Nat) (xs : List Int) (pos : Nat), xs.length = n → pos < n → ((suL n f xs pos).1.set (suL n f xs pos).2 v).Perm (xs.set pos v)
  | 0, xs, pos, _, _ => List.Perm.refl _
  | f + 1, xs, pos, hn, h => by
    simp only [suL]
    split
    · split
      · refine (suL_perm n v f _ _ (by rw [List.length_set]; exact hn) (by omega)).trans ?_
        exact swap_perm (by omega) (by omega) (by omega)
      · refine (suL_perm n v f _ _ (by rw [List.length_set]; exact hn) (by omega)).trans ?_
        exact swap_perm (by omega) (by omega) (by omega)
    · exact List.Perm.refl _
theorem suF_perm (xs : List Int) (h : 0 < xs.length) : (suF xs).Perm xs := by
  simp only [suF]
  have hlt := suL_lt xs.length xs.length xs 0 h
  refine (sd_perm _ _ _ _ (by rw [List.length_set, suL_length]; exact hlt)).trans ?_
  rw [List.set_set]
  refine (suL_perm xs.length _ xs.length xs 0 rfl h).trans ?_
  have e : xs.set 0 (xs.getD 0 0) = xs := by
    cases xs with
    | nil => rfl
    | cons a r => rfl
  rw [e]
theorem pushF_perm (xs : List Int) (x : Int) : (pushF xs x).Perm (x :: xs) := by
  refine (sd_perm x _ _ _ (by simp)).trans ?_
  have e : (xs ++ [x]).set xs.length x = xs ++ [x] := by
    rw [List.set_append_right _ _ (Nat.le_refl _)]; simp
  rw [e]
  exact (List.perm_append_comm (l₁ := xs) (l₂ := [x]))
theorem pop_perm (xs : List Int) (h : 0 < xs.length) : (popV xs :: popF xs).Perm xs := by
  by_cases e : xs.length = 1
  · match xs, e with
    | [a], _ => simp [popV, popF]
  · match xs, e, h with
    | a :: b :: r, _, _ =>
      have hne : (a :: b :: r).length ≠ 1 := by simp
      simp only [popV, popF, if_neg hne]
      have e1 : (a :: b :: r).getD 0 0 = a := rfl
      have e2 : (a :: b :: r).dropLast = a :: (b :: r).dropLast := rfl
      have e3 : (a :: b :: r).getLastD 0 = (b :: r).getLastD 0 := rfl
      rw [e1, e2, e3]
      have p1 := suF_perm ((a :: (b :: r).dropLast).set 0 ((b :: r).getLastD 0)) (by simp)
      refine List.Perm.cons _ (p1.trans ?_)
      show ((b :: r).getLastD 0 :: (b :: r).dropLast).Perm (b :: r)
      have hnn : (b :: r) ≠ [] := by simp
      have e4 := List.dropLast_concat_getLast hnn
      have e5 : (b :: r).getLastD 0 = (b :: r).getLast hnn := by rw [List.getLastD_eq_getLast?, List.getLast?_eq_some_getLast hnn]; rfl
      rw [e5]
      have p2 := List.perm_append_comm (l₁ := [(b :: r).getLast hnn]) (l₂ := (b :: r).dropLast)
      rw [e4] at p2
      exact p2
def IsHeap (xs : List Int) : Prop := ∀ i, 0 < i → i < xs.length → xs.getD ((i - 1) / 2) 0 ≤ xs.getD i 0
def Apt (xs : List Int) (pos : Nat) : Prop := ∀ i, 0 < i → i < xs.length → i ≠ pos → (i - 1) / 2 ≠ pos → xs.getD ((i - 1) / 2) 0 ≤ xs.getD i 0
theorem sd_heap (new : Int) : ∀ (f : Nat) (xs : List Int) (pos : Nat), pos ≤ f → pos < xs.length → Apt xs pos →
    (∀ i, 0 < i → i < xs.length → (i - 1) / 2 = pos → new ≤ xs.getD i 0 ∧ (0 < pos → xs.getD ((pos - 1) / 2) 0 ≤ xs.getD i 0)) → IsHeap (sd new f xs pos) := by
  have stop : ∀ (xs : List Int) (pos : Nat), pos < xs.length → Apt xs pos → (∀ i, 0 < i → i < xs.length → (i - 1) / 2 = pos → new ≤ xs.getD i 0) → (0 < pos → xs.getD ((pos - 1) / 2) 0 ≤ new) → IsHeap (xs.set pos new) := by
    intro xs pos hp hA hB hC i h0 hi
    rw [List.length_set] at hi
    rw [getD_set _ _ _ _ hp, getD_set _ _ _ _ hp]
    by_cases e1 : pos = i
    · subst e1
      rw [if_neg (by omega), if_pos rfl]
      exact hC h0
    · rw [if_neg e1]
      by_cases e2 : pos = (i - 1) / 2
      · rw [if_pos e2]; exact hB i h0 hi e2.symm
      · rw [if_neg e2]; exact hA i h0 hi (Ne.symm e1) (Ne.symm e2)
  intro f
  induction f with
  | zero =>
    intro xs pos hf hp hA hB
    exact stop xs pos hp hA (fun i a b c => (hB i a b c).1) (fun h => absurd h (by omega))
  | succ f ih =>
    intro xs pos hf hp hA hB
    simp only [sd]
    split
    · rename_i h
      exact stop xs pos hp hA (fun i a b c => (hB i a b c).1) (fun h' => absurd h' (by omega))
    · rename_i h
      split
      · rename_i hlt
        have hpp : (pos - 1) / 2 < xs.length := by omega
        refine ih _ _ (by omega) (by rw [List.length_set]; exact hpp) ?_ ?_
        · intro i h0 hi n1 n2
          rw [List.length_set] at hi
          rw [getD_set _ _ _ _ hp, getD_set _ _ _ _ hp]
          by_cases e1 : pos = i
          · subst e1; exact absurd rfl n2
          · rw [if_neg e1]
            by_cases e2 : pos = (i - 1) / 2
            · rw [if_pos e2]; exact (hB i h0 hi e2.symm).2 (by omega)
            · rw [if_neg e2]; exact hA i h0 hi (Ne.symm e1) (Ne.symm e2)
        · intro i h0 hi e
          rw [List.length_set] at hi
          rw [getD_set _ _ _ _ hp, getD_set _ _ _ _ hp]
          have up : 0 < (pos - 1) / 2 → xs.getD (((pos - 1) / 2 - 1) / 2) 0 ≤ xs.getD ((pos - 1) / 2) 0 := fun q => hA _ q hpp (by omega) (by omega)
          rw [if_neg (by omega : pos ≠ ((pos - 1) / 2 - 1) / 2)]
          by_cases e1 : pos = i
          · subst e1
            rw [if_pos rfl]
            exact ⟨Int.le_of_lt hlt, up⟩
          · rw [if_neg e1]
            have h1 := hA i h0 hi (Ne.symm e1) (by omega)
            rw [e] at h1
            exact ⟨by omega, fun q => Int.le_trans (up q) h1⟩
      · rename_i hlt
        exact stop xs pos hp hA (fun i a b c => (hB i a b c).1) (fun _ => by omega)
theorem suL_heap (n : Nat) : ∀ (f : Nat) (xs : List Int) (pos : Nat), n - pos ≤ f → xs.length = n → pos < n → Apt xs pos →
    (∀ i, 0 < i → i < xs.length → (i - 1) / 2 = pos → 0 < pos → xs.getD ((pos - 1) / 2) 0 ≤ xs.getD i 0) → Apt (suL n f xs pos).1 (suL n f xs pos).2 ∧ n ≤ 2 * (suL n f xs pos).2 + 1 := by
  intro f
  induction f with
  | zero => intro xs pos hf hn hp; omega
  | succ f ih =>
    intro xs pos hf hn hp hA hB
    have go : ∀ c, c < n → (c = 2 * pos + 1 ∨ c = 2 * pos + 2) → (∀ i, i < n → (i = 2 * pos + 1 ∨ i = 2 * pos + 2) → xs.getD c 0 ≤ xs.getD i 0) →
        Apt (suL n f (xs.set pos (xs.getD c 0)) c).1 (suL n f (xs.set pos (xs.getD c 0)) c).2 ∧ n ≤ 2 * (suL n f (xs.set pos (xs.getD c 0)) c).2 + 1 := by
      intro c hc hcc hmin
      have hpl : pos < xs.length := by omega
      refine ih _ _ (by omega) (by rw [List.length_set]; exact hn) hc ?_ ?_
      · intro i h0 hi n1 n2
        rw [List.length_set] at hi
        rw [getD_set _ _ _ _ hpl, getD_set _ _ _ _ hpl]
        by_cases e1 : pos = i
        · subst e1
          rw [if_neg (by omega), if_pos rfl]
          exact hB c (by omega) (by omega) (by omega) h0
        · rw [if_neg e1]
          by_cases e2 : pos = (i - 1) / 2
          · rw [if_pos e2]; exact hmin i (by omega) (by omega)
          · rw [if_neg e2]; exact hA i h0 hi (Ne.symm e1) (Ne.symm e2)
      · intro i h0 hi e hc0
        rw [List.length_set] at hi
        rw [getD_set _ _ _ _ hpl, getD_set _ _ _ _ hpl]
        rw [if_pos (by omega), if_neg (by omega)]
        have := hA i h0 hi (by omega) (by omega)
        rw [e] at this
        exact this
    simp only [suL]
    split
    · rename_i h1
      split
      · rename_i h2
        refine go _ h2.1 (Or.inr rfl) ?_
        rintro i hi (rfl | rfl)
        · have := h2.2; omega
        · exact Int.le_refl _
      · rename_i h2
        refine go _ h1 (Or.inl rfl) ?_
        rintro i hi (rfl | rfl)
        · exact Int.le_refl _
        · by_cases q : xs.getD (2 * pos + 1) 0 < xs.getD (2 * pos + 2) 0
          · exact Int.le_of_lt q
          · exact absurd ⟨hi, q⟩ h2
    · rename_i h1
      exact ⟨hA, by dsimp only; omega⟩
theorem suF_heap (xs : List Int) (h : 0 < xs.length) (hA : Apt xs 0) : IsHeap (suF xs) := by
  have hlt := suL_lt xs.length xs.length xs 0 h
  obtain ⟨hA', hleaf⟩ := suL_heap xs.length xs.length xs 0 (by omega) rfl h hA (fun i a b c d => absurd d (by omega))
  simp only [suF]
  refine sd_heap _ _ _ _ (Nat.le_refl _) (by rw [List.length_set, suL_length]; exact hlt) ?_ ?_
  · intro i h0 hi n1 n2
    rw [List.length_set] at hi
    rw [getD_set _ _ _ _ (by rw [suL_length]; exact hlt), getD_set _ _ _ _ (by rw [suL_length]; exact hlt), if_neg (Ne.symm n1), if_neg (Ne.symm n2)]
    exact hA' i h0 hi n1 n2
  · intro i h0 hi e
    rw [List.length_set, suL_length] at hi
    omega
theorem push_heap (xs : List Int) (x : Int) (h : IsHeap xs) : IsHeap (pushF xs x) := by
  refine sd_heap x _ _ _ (Nat.le_refl _) (by simp) ?_ ?_
  · intro i h0 hi n1 n2
    simp only [List.length_append, List.length_cons, List.length_nil] at hi
    have e1 : (xs ++ [x]).getD i 0 = xs.getD i 0 := by simp [List.getD, List.getElem?_append_left (show i < xs.length by omega)]
    have e2 : (xs ++ [x]).getD ((i - 1) / 2) 0 = xs.getD ((i - 1) / 2) 0 := by simp [List.getD, List.getElem?_append_left (show (i - 1) / 2 < xs.length by omega)]
    rw [e1, e2]
    exact h i h0 (by omega)
  · intro i h0 hi e
    simp only [List.length_append, List.length_cons, List.length_nil] at hi
    omega
theorem pop_heap (xs : List Int) (h : IsHeap xs) (hp : 0 < xs.length) : IsHeap (popF xs) := by
  unfold popF
  split
  · intro i h0 hi; exact absurd hi (Nat.not_lt_zero _)
  · rename_i hne
    refine suF_heap _ (by simp; omega) ?_
    intro i h0 hi n1 n2
    rw [List.length_set, List.length_dropLast] at hi
    have hd0 : 0 < xs.dropLast.length := by simp; omega
    rw [getD_set _ _ _ _ hd0, getD_set _ _ _ _ hd0, if_neg (by omega), if_neg (by omega)]
    have e : ∀ j, j < xs.length - 1 → xs.dropLast.getD j 0 = xs.getD j 0 := fun j hj => by
      have hj2 : j < xs.length := by omega
      simp [List.getD, hj, hj2]
    rw [e _ (by omega), e _ (by omega)]
    exact h i h0 (by omega)
theorem heap_least (xs : List Int) (h : IsHeap xs) : ∀ i, i < xs.length → xs.getD 0 0 ≤ xs.getD i 0 := by
  intro i
  induction i using Nat.strongRecOn with
  | ind i ih =>
    intro hi
    by_cases e : i = 0
    · subst e; exact Int.le_refl _
    · exact Int.le_trans (ih ((i - 1) / 2) (by omega) (by omega)) (h i (by omega) hi)
theorem pop_least (xs : List Int) (h : IsHeap xs) (hp : 0 < xs.length) : ∀ y ∈ xs, popV xs ≤ y := by
  have e : popV xs = xs.getD 0 0 := by
    unfold popV
    split
    · match xs, ‹xs.length = 1› with
      | [a], _ => rfl
    · rfl
  intro y hy
  obtain ⟨i, hi, rfl⟩ := List.getElem_of_mem hy
  have := heap_least xs h i hi
  rw [e]
  simpa [List.getD, hi] using this
end
section
/-! _law_nearest, plain: what is found and what the heap still holds are all subsets -/
abbrev bx (a b : Int) : Int := Builtin.bitXor a b
def cT (tn : List (Int × Int)) (j : Nat) : Int := (tn.getD j (0, 0)).1
def pT (tn : List (Int × Int)) (j : Nat) : Int := (tn.getD j (0, 0)).2
def sub (tn : List (Int × Int)) : Nat → Int → Int → List (Int × Int)
  | 0, w, b => [(w, b)]
  | d + 1, w, b => (w, b) :: (sub tn d (w + cT tn (3 - d)) (bx b (pT tn (3 - d))) ++ sub tn d (w + cT tn (3 - d) - cT tn (2 - d)) (bx (bx b (pT tn (2 - d))) (pT tn (3 - d))))
def allSub (tn : List (Int × Int)) (w b : Int) : List (Int × Int) := (w, b) :: sub tn 3 (w + cT tn 0) (bx b (pT tn 0))
def subK (tn : List (Int × Int)) (k : Int) : List (Int × Int) := sub tn (3 - (k % 16).toNat) (k / 1048576) (k / 16 % 65536)
theorem dec_w {w b t : Int} (h1 : 0 ≤ b) (h2 : b < 65536) (h3 : 0 ≤ t) (h4 : t < 16) : codeK w b t / 1048576 = w := by unfold codeK; omega
theorem dec_b {w b t : Int} (h1 : 0 ≤ b) (h2 : b < 65536) (h3 : 0 ≤ t) (h4 : t < 16) : codeK w b t / 16 % 65536 = b := by unfold codeK; omega
theorem dec_t {w b t : Int} (h3 : 0 ≤ t) (h4 : t < 16) : codeK w b t % 16 = t := by unfold codeK; omega
theorem subK_code {tn : List (Int × Int)} {w b t : Int} (h1 : 0 ≤ b) (h2 : b < 65536) (h3 : 0 ≤ t) (h4 : t < 16) : subK tn (codeK w b t) = sub tn (3 - t.toNat) w b := by
  unfold subK; rw [dec_w h1 h2 h3 h4, dec_b h1 h2 h3 h4, dec_t h3 h4]
theorem sub_pos (tn : List (Int × Int)) : ∀ (d : Nat) (w b : Int), 0 < (sub tn d w b).length
  | 0, _, _ => by simp [sub]
  | d + 1, _, _ => by simp [sub]
theorem sub_len (tn : List (Int × Int)) : ∀ (d : Nat) (w b : Int), (sub tn d w b).length + 1 = 2 ^ (d + 1)
  | 0, _, _ => by simp [sub]
  | d + 1, w, b => by
    have h1 := sub_len tn d (w + cT tn (3 - d)) (bx b (pT tn (3 - d)))
    have h2 := sub_len tn d (w + cT tn (3 - d) - cT tn (2 - d)) (bx (bx b (pT tn (2 - d))) (pT tn (3 - d)))
    simp only [sub, List.length_cons, List.length_append]
    rw [Nat.pow_succ]
    omega
theorem allSub_len (tn : List (Int × Int)) (w b : Int) : (allSub tn w b).length = 16 := by
  have := sub_len tn 3 (w + cT tn 0) (bx b (pT tn 0))
  simp only [allSub, List.length_cons]
  omega
structure NearOk (tn : List (Int × Int)) (all fs : List (Int × Int)) (xs : List Int) : Prop where
  heap : IsHeap xs
  perm : (fs ++ xs.flatMap (subK tn)).Perm all
  sorted : (fs.map (·.1)).Pairwise (· ≤ ·)
  below : ∀ f ∈ fs, ∀ k ∈ xs, f.1 ≤ k / 1048576
theorem flat_len (tn : List (Int × Int)) : ∀ xs : List Int, xs.length ≤ (xs.flatMap (subK tn)).length
  | [] => by simp
  | k :: r => by
    have h1 := flat_len tn r
    have h2 : 0 < (subK tn k).length := sub_pos _ _ _ _
    simp only [List.flatMap_cons, List.length_append, List.length_cons]
    omega
theorem NearOk.len {tn all fs : List (Int × Int)} {xs : List Int} (h : NearOk tn all fs xs) (ha : all.length = 16) : fs.length + xs.length ≤ 16 ∧ (xs.length = 0 → fs.length = 16) := by
  have e := h.perm.length_eq
  rw [List.length_append, ha] at e
  have := flat_len tn xs
  refine ⟨by omega, fun q => ?_⟩
  have : xs = [] := List.eq_nil_of_length_eq_zero q
  subst this
  simpa using e
theorem snoc_sorted {l : List Int} {x : Int} (h : l.Pairwise (· ≤ ·)) (hx : ∀ y ∈ l, y ≤ x) : (l ++ [x]).Pairwise (· ≤ ·) := by
  rw [List.pairwise_append]
  exact ⟨h, by simp, fun a ha b hb => by rw [List.mem_singleton.mp hb]; exact hx a ha⟩
theorem NearOk.leaf {tn all fs : List (Int × Int)} {xs ys : List Int} {v w b t : Int} (h : NearOk tn all fs xs) (hp : 0 < xs.length) (hv : v = popV xs) (hy : ys = popF xs) (hc : v = codeK w b t) (h1 : 0 ≤ b) (h2 : b < 65536) (h3 : 0 ≤ t) (h4 : t < 16) (ht : ¬ t + 1 < 4) :
    NearOk tn all (fs ++ [(w, b)]) ys := by
  have pp := pop_perm xs hp
  rw [← hv, ← hy] at pp
  have hle := pop_least xs h.heap hp
  rw [← hv] at hle
  have hw : v / 1048576 = w := by rw [hc]; exact dec_w h1 h2 h3 h4
  have hvm : v ∈ xs := pp.mem_iff.mp (List.mem_cons_self ..)
  refine ⟨hy ▸ pop_heap xs h.heap hp, ?_, ?_, ?_⟩
  · refine List.Perm.trans ?_ h.perm
    rw [List.append_assoc]
    refine List.Perm.append_left _ ?_
    refine List.Perm.trans ?_ (pp.flatMap_right (subK tn))
    rw [List.flatMap_cons, hc, subK_code h1 h2 h3 h4, show 3 - t.toNat = 0 by omega]
    exact List.Perm.refl _
  · rw [List.map_append]
    refine snoc_sorted h.sorted ?_
    intro y hy'
    obtain ⟨f, hf, rfl⟩ := List.mem_map.mp hy'
    have := h.below f hf v hvm
    rw [hw] at this; exact this
  · intro f hf k hk
    have hkx : k ∈ xs := pp.mem_iff.mp (List.mem_cons_of_mem _ hk)
    rcases List.mem_append.mp hf with hf | hf
    · exact h.below f hf k hkx
    · rw [List.mem_singleton.mp hf]
      have := hle k hkx
      show w ≤ _
      rw [← hw]
      exact Int.ediv_le_ediv (by decide) this
theorem NearOk.node {tn all fs : List (Int × Int)} {xs ys zs1 zs2 : List Int} {v w b t k1 k2 : Int} (h : NearOk tn all fs xs) (hp : 0 < xs.length) (hv : v = popV xs) (hy : ys = popF xs) (hc : v = codeK w b t) (h1 : 0 ≤ b) (h2 : b < 65536) (h3 : 0 ≤ t) (h4 : t < 16) (ht : t + 1 < 4)
    (hz1 : zs1 = pushF ys k1) (hz2 : zs2 = pushF zs1 k2) (hk1 : k1 = codeK (w + cT tn (t + 1).toNat) (bx b (pT tn (t + 1).toNat)) (t + 1)) (hk2 : k2 = codeK (w + cT tn (t + 1).toNat - cT tn t.toNat) (bx (bx b (pT tn t.toNat)) (pT tn (t + 1).toNat)) (t + 1))
    (b1 : 0 ≤ bx b (pT tn (t + 1).toNat) ∧ bx b (pT tn (t + 1).toNat) < 65536) (b2 : 0 ≤ bx (bx b (pT tn t.toNat)) (pT tn (t + 1).toNat) ∧ bx (bx b (pT tn t.toNat)) (pT tn (t + 1).toNat) < 65536)
    (hc0 : 0 ≤ cT tn t.toNat) (hcc : cT tn t.toNat ≤ cT tn (t + 1).toNat) :
    NearOk tn all (fs ++ [(w, b)]) zs2 := by
  have pp := pop_perm xs hp
  rw [← hv, ← hy] at pp
  have hle := pop_least xs h.heap hp
  rw [← hv] at hle
  have hw : v / 1048576 = w := by rw [hc]; exact dec_w h1 h2 h3 h4
  have hvm : v ∈ xs := pp.mem_iff.mp (List.mem_cons_self ..)
  have hyh : IsHeap ys := hy ▸ pop_heap xs h.heap hp
  have hz1h : IsHeap zs1 := hz1 ▸ push_heap ys k1 hyh
  have q1 : zs1.Perm (k1 :: ys) := hz1 ▸ pushF_perm ys k1
  have q2 : zs2.Perm (k2 :: zs1) := hz2 ▸ pushF_perm zs1 k2
  have q3 : zs2.Perm (k2 :: k1 :: ys) := q2.trans (q1.cons _)
  have w1 : k1 / 1048576 = w + cT tn (t + 1).toNat := by rw [hk1]; exact dec_w b1.1 b1.2 (by omega) (by omega)
  have w2 : k2 / 1048576 = w + cT tn (t + 1).toNat - cT tn t.toNat := by rw [hk2]; exact dec_w b2.1 b2.2 (by omega) (by omega)
  have low : ∀ k ∈ zs2, w ≤ k / 1048576 := by
    intro k hk
    have hk' := q3.mem_iff.mp hk
    rcases List.mem_cons.mp hk' with rfl | hk'
    · omega
    · rcases List.mem_cons.mp hk' with rfl | hk'
      · omega
      · have hkx : k ∈ xs := pp.mem_iff.mp (List.mem_cons_of_mem _ hk')
        have := hle k hkx
        rw [← hw]
        exact Int.ediv_le_ediv (by decide) this
  refine ⟨hz2 ▸ push_heap zs1 k2 hz1h, ?_, ?_, ?_⟩
  · refine List.Perm.trans ?_ h.perm
    rw [List.append_assoc]
    refine List.Perm.append_left _ ?_
    refine List.Perm.trans ?_ (pp.flatMap_right (subK tn))
    refine List.Perm.trans ((q3.flatMap_right (subK tn)).append_left _) ?_
    simp only [List.flatMap_cons]
    rw [hc, subK_code h1 h2 h3 h4, hk1, subK_code b1.1 b1.2 (by omega) (by omega), hk2, subK_code b2.1 b2.2 (by omega) (by omega)]
    obtain ⟨d, hd⟩ : ∃ d, 3 - t.toNat = d + 1 := ⟨2 - t.toNat, by omega⟩
    have e1 : 3 - (t + 1).toNat = d := by omega
    have e2 : (t + 1).toNat = 3 - d := by omega
    have e3 : t.toNat = 2 - d := by omega
    rw [hd, e1, e2, e3]
    simp only [sub, List.cons_append, List.nil_append, List.append_assoc]
    refine List.Perm.cons _ ?_
    rw [← List.append_assoc, ← List.append_assoc]
    exact List.Perm.append_right _ List.perm_append_comm
  · rw [List.map_append]
    refine snoc_sorted h.sorted ?_
    intro y hy'
    obtain ⟨f, hf, rfl⟩ := List.mem_map.mp hy'
    have := h.below f hf v hvm
    rw [hw] at this; exact this
  · intro f hf k hk
    rcases List.mem_append.mp hf with hf | hf
    · have := h.below f hf v hvm
      rw [hw] at this
      exact Int.le_trans this (low k hk)
    · rw [List.mem_singleton.mp hf]; exact low k hk
theorem NearOk.start {tn : List (Int × Int)} {w b : Int} (hc0 : 0 ≤ cT tn 0) (b1 : 0 ≤ bx b (pT tn 0) ∧ bx b (pT tn 0) < 65536) : NearOk tn (allSub tn w b) [(w, b)] [codeK (w + cT tn 0) (bx b (pT tn 0)) 0] := by
  refine ⟨?_, ?_, ?_, ?_⟩
  · intro i h0 hi; simp at hi; omega
  · simp only [List.flatMap_cons, List.flatMap_nil, List.append_nil]
    rw [subK_code b1.1 b1.2 (by omega) (by omega)]
    exact List.Perm.refl _
  · simp
  · intro f hf k hk
    rw [List.mem_singleton.mp hf, List.mem_singleton.mp hk, dec_w b1.1 b1.2 (by omega) (by omega)]
    show w ≤ w + cT tn 0
    omega
end
section
/-! pairs of ints in the ledger -/
def PairP (led : List (Addr × Obj)) (v : Value) (q : Int × Int) : Prop := ∃ a n t1 t2, v = .ref a ∧ (a, tupO [.int q.1 t1, .int q.2 t2] n) ∈ led
inductive PairsP (led : List (Addr × Obj)) : List Value → List (Int × Int) → Prop
  | nil : PairsP led [] []
  | cons {v : Value} {q : Int × Int} {vs : List Value} {ps : List (Int × Int)} : PairP led v q → PairsP led vs ps → PairsP led (v :: vs) (q :: ps)
theorem PairP.mono {led led' : List (Addr × Obj)} (hs : ∀ p ∈ led, p ∈ led') {v : Value} {q : Int × Int} (h : PairP led v q) : PairP led' v q :=
  let ⟨a, n, t1, t2, e, hm⟩ := h; ⟨a, n, t1, t2, e, hs _ hm⟩
theorem PairsP.mono {led led' : List (Addr × Obj)} (hs : ∀ p ∈ led, p ∈ led') {vs : List Value} {ps : List (Int × Int)} (h : PairsP led vs ps) : PairsP led' vs ps := by
  induction h with
  | nil => exact .nil
  | cons h _ ih => exact .cons (h.mono hs) ih
theorem PairsP.length {led : List (Addr × Obj)} {vs : List Value} {ps : List (Int × Int)} (h : PairsP led vs ps) : vs.length = ps.length := by
  induction h with
  | nil => rfl
  | cons _ _ ih => simp [ih]
theorem PairsP.append {led : List (Addr × Obj)} {vs us : List Value} {ps qs : List (Int × Int)} (h : PairsP led vs ps) (k : PairsP led us qs) : PairsP led (vs ++ us) (ps ++ qs) := by
  induction h with
  | nil => exact k
  | cons h _ ih => exact .cons h ih
theorem PairsP.at {led : List (Addr × Obj)} {vs : List Value} {ps : List (Int × Int)} (h : PairsP led vs ps) : ∀ {i : Nat}, i < ps.length → ∃ a n t1 t2, vs[i]? = some (.ref a) ∧ (a, tupO [.int (ps.getD i (0, 0)).1 t1, .int (ps.getD i (0, 0)).2 t2] n) ∈ led := by
  induction h with
  | nil => exact fun h => absurd h (Nat.not_lt_zero _)
  | cons h r ih =>
    intro i hi
    cases i with
    | zero =>
      obtain ⟨a, n, t1, t2, rfl, hm⟩ := h
      exact ⟨a, n, t1, t2, rfl, hm⟩
    | succ i =>
      obtain ⟨a, n, t1, t2, e, hm⟩ := ih (i := i) (by simpa using hi)
      exact ⟨a, n, t1, t2, by simpa using e, by simpa using hm⟩
section
variable {prog : Program} {w : World} {A : Around} {E : Value → Shared → Prop} {s : Shared} {h₀ : Heap} {L l : Addr}
theorem item_P {value slice : PySem.Expr} {news led : List (Addr × Obj)} {vs : List Value} {ps : List (Int × Int)} {n : Nat} {k : Int} {u : Tok} {Q : Value → Shared → Prop} (N : News h₀ L s.heap news) (hm : (l, W.listOf vs.toArray n) ∈ news) (hd : PairsP led vs ps)
    (h0 : 0 ≤ k) (h1 : k < (ps.length : Int)) (hfit : k < 2 ^ 63) (h : ∀ a n t1 t2, (a, tupO [.int (ps.getD k.toNat (0, 0)).1 t1, .int (ps.getD k.toNat (0, 0)).2 t2] n) ∈ led → Q (.ref a) s)
    (hs : subscripted slice false (.ref l) (.int k u) = operate [.ref l, .int k u] (getItem (.ref l) (.int k u)) := by with_unfolding_all rfl) :
    wpAny (model prog w) A (subscriptTail value slice (.ref l) (.int k u)) Q E s := by
  have hl : s.heap.IsList l vs.toArray := ⟨_, (N _ hm).1, rfl, n, rfl⟩
  obtain ⟨a, n, t1, t2, e, q⟩ := hd.at (i := k.toNat) (by omega)
  exact tail_any hl.typeIs slot_list_getitem.lookup (wpAny_getItem_list hl h0 hfit (by simpa using e) (h a n t1 t2 q)) hs
theorem item_at {value slice : PySem.Expr} {news : List (Addr × Obj)} {vs : List Value} {v : Value} {n : Nat} {k : Int} {u : Tok} {Q : Value → Shared → Prop} (N : News h₀ L s.heap news) (hm : (l, W.listOf vs.toArray n) ∈ news) (h0 : 0 ≤ k) (hfit : k < 2 ^ 63) (e : vs[k.toNat]? = some v) (h : Q v s)
    (hs : subscripted slice false (.ref l) (.int k u) = operate [.ref l, .int k u] (getItem (.ref l) (.int k u)) := by with_unfolding_all rfl) :
    wpAny (model prog w) A (subscriptTail value slice (.ref l) (.int k u)) Q E s := by
  have hl : s.heap.IsList l vs.toArray := ⟨_, (N _ hm).1, rfl, n, rfl⟩
  exact tail_any hl.typeIs slot_list_getitem.lookup (wpAny_getItem_list hl h0 hfit (by simpa using e) h) hs
end
theorem news_in {h₀ h : Heap} {L : Addr} {news : List (Addr × Obj)} {p : Addr × Obj} (N : News h₀ L h news) (hp : p ∈ news) : News h₀ L h (p :: news) := fun q hq => by
  rcases List.mem_cons.mp hq with rfl | hq
  · exact N _ hp
  · exact N q hq
theorem mem2 {α : Type} {a b p : α} {l : List α} (h : p ∈ l) : p ∈ a :: b :: l := .tail _ (.tail _ h)
theorem mem3 {α : Type} {a b c p : α} {l : List α} (h : p ∈ l) : p ∈ a :: b :: c :: l := .tail _ (mem2 h)
theorem mem4 {α : Type} {a b c d p : α} {l : List α} (h : p ∈ l) : p ∈ a :: b :: c :: d :: l := .tail _ (mem3 h)
theorem mem5 {α : Type} {a b c d e p : α} {l : List α} (h : p ∈ l) : p ∈ a :: b :: c :: d :: e :: l := .tail _ (mem4 h)
theorem mem6 {α : Type} {a b c d e f p : α} {l : List α} (h : p ∈ l) : p ∈ a :: b :: c :: d :: e :: f :: l := .tail _ (mem5 h)
theorem mem7 {α : Type} {a b c d e f g p : α} {l : List α} (h : p ∈ l) : p ∈ a :: b :: c :: d :: e :: f :: g :: l := .tail _ (mem6 h)
theorem mem8 {α : Type} {a b c d e f g i p : α} {l : List α} (h : p ∈ l) : p ∈ a :: b :: c :: d :: e :: f :: g :: i :: l := .tail _ (mem7 h)
end
section
local macro_rules | `(tactic| walk_at "binaryOp RShift int int") => `(tactic| (k_here; (with_reducible refine shr1 ?_)))
local macro_rules | `(tactic| walk_at "binaryOp Mod int int") => `(tactic| (k_here; (with_reducible refine mod_pos ?k1 ?_); (case k1 => decide)))
local macro_rules | `(tactic| walk_at "binaryOp FloorDiv int int") => `(tactic| (k_here; (with_reducible refine fdiv_pos ?k1 ?k2 ?_); (case k1 => decide); (case k2 => decide +kernel)))
local macro_rules | `(tactic| k_all) => `(tactic| with_reducible assumption)
local macro_rules | `(tactic| l_idx) => `(tactic| omega)
local macro_rules | `(tactic| k_upd) => `(tactic| first | (refine' Pick.head ?a; (case a => k_all)) | (refine' Pick.tail ?a ?b; (case a => k_ne); (case b => k_upd)))
local macro_rules | `(tactic| walk_at "call ref") => `(tactic| (k_here; refine wpAny_call ?_; k_dflt (refine' code_def ?k1 ?k2 ?k3 ?k4 ?k5 ?kA ?kF ?kK ?k6 ?k7 ?k8 ?k9 ?kB ?_ ?c2 ?c3 ?c4 ?c5; (case kA => exact rfl); (case kF => exact rfl); (case kK => first | exact rfl | assumption); (case k1 => k_asm); (case k2 => k_asm); (case k3 => k_asm); (case k4 => k_asm); (case k5 => k_asm); (case k6 => k_is); (case k7 => k_is); (case k8 => ktr_room); (case k9 => exact BindsTo.of_eq rfl); (case c5 => decide); (case kB => exact locs rfl); (case c2 => exact rfl); (case c3 => exact rfl); (case c4 => exact rfl); k_whole; intro g' L' h' FG' F' N' B' X' T'; (try dsimp only); (try k_lift B'); (try k_fold))))
section
variable {w : World} {mean : ExcName → Option Value} {mg mb : Str → Option Value} {dp un : Nat} {gd : Option (List Code)} {cn : Str} {cs : Scope} {a : Addr} {ccd : Value} {cl : List (Str × Addr)} {outer : List Env} {A₀ : Around} {base h₀ : Heap} {L : Addr} {m : Str → Option Value} {s : Shared} {Q E : Value → Shared → Prop}
local macro_rules | `(tactic| walk_at "exec While Compare cons nil") => `(tactic| k_extra "exec While Compare cons nil")
local macro_rules | `(tactic| walk_at "subscriptTail Name Name ref int") => `(tactic| (k_here; (refine' item_K ?k1 ?k2 ?k3 ?k4 ?k5 ?k6 ?_); (case k1 => k_asm); (case k2 => k_mem); (case k3 => assumption); (case k4 => omega); (case k5 => omega); (case k6 => omega); intro a' hT' hv'))
local macro_rules | `(tactic| walk_at "compareOp Lt ref ref") => `(tactic| (k_here; (refine' lt_K ?k1 ?k2 ?k3 ?k4 ?k5 ?_); (case k1 => ktr_units); (case k2 => k_asm); (case k3 => (intro p hp; refine List.mem_cons_of_mem _ ?_; revert p; assumption)); (case k4 => assumption); (case k5 => assumption)))

local macro_rules | `(tactic| walk_at "setItem ref int") => `(tactic| (k_here; k_dflt (refine' set_K ?k1 ?k2 ?k3 ?k4 ?k5 ?k6 ?k7 ?k8 ?_; (case k1 => k_asm); (case k2 => k_asm); (case k3 => k_upd); (case k4 => assumption); (case k5 => assumption); (case k6 => omega); (case k7 => omega); (case k8 => omega)); intro h' F' N' hT' hl'; (try k_sweep)))

set_option maxHeartbeats 1000000 in
theorem siftdown_tells {l : Addr} {vs : List Value} {n : Nat} {xs : List Int} {news rest led : List (Addr × Obj)} {pos : Int} {t0 t1 : Tok}
    (B : Below A₀ base outer h₀) (F : Fr h₀ L s.heap m) (X : (hd.heap_39 w.params).In h₀) (N : News h₀ L s.heap news) (T : Top hd.view_39 lz mean mg mb h₀) (hk : cs.kind = .function)
    (P : Pick l (listOf vs.toArray n) news rest) (hs : ∀ p ∈ led, p ∈ rest) (hi : TupsK led vs xs) (hlen : xs.length < 1000) (hp0 : 0 ≤ pos) (hp1 : pos < xs.length)
    (hdp : dp + 1 < recursionLimit) (hun : un + 8 < cLine)
    (hret : ∀ h' tk' vs' n', Fr h₀ L h' m → News h₀ L h' ((l, listOf vs'.toArray n') :: rest) → TupsK led vs' (sd (xs.getD pos.toNat 0) pos.toNat xs pos.toNat) → Q .none { s with heap := h', toks := tk' }) :
    wpAny (model prg w) (ktrTop dp un gd cn cs L a ccd cl outer) (call (.ref 62) [.ref l, .int 0 t0, .int pos t1]) Q E s := by
  have hoff := P.off
  replace N := P.news N
  clear P
  have hvl := hi.length
  revert X; unfold prg; w_top off; k_fill; intro X
  refine wpAny_call ?_
  k_dflt cell_enter
  k_with_none
  k_with "exec While Compare cons nil" => refine held ?_
  k_steps
  refine Held.out ?_
  unfold Held
  rename Fr _ _ _ _ => F1
  rename News _ _ _ _ => N1
  rename_i T1 _ a1 hT1 hv1 _
  refine while_inv (fun n m' nx => ∃ vs' n' ys p tp, nx = (l, W.listOf vs'.toArray n') :: rest ∧ TupsK led vs' ys ∧ n = p.toNat ∧ ys.length = xs.length ∧ 0 ≤ p ∧ p < (xs.length : Int) ∧ sd (xs.getD pos.toNat 0) p.toNat ys p.toNat = sd (xs.getD pos.toNat 0) pos.toNat xs pos.toNat ∧
    KnownAll m' [(Str.ofString "heap", .ref l), (Str.ofString "startpos", .int 0 t0), (Str.ofString "pos", .int p tp), (Str.ofString "newitem", .ref a1)]) F1 N1 ⟨vs, n, xs, pos, t1, rfl, hi, rfl, rfl, hp0, hp1, rfl, rfl, rfl, rfl, rfl, trivial⟩ ?_
  intro n2 m2 nx h2 tk2 hJ F2 N2
  obtain ⟨vs2, n3, ys, p, tp, rfl, hi2, rfl, hyl, hq0, hq1, hsd, hkn⟩ := hJ
  have F3 := fr_knownL hkn F2
  dsimp only [kstB] at F3
  have hvl2 := hi2.length
  clear F1 F2 N1 hv1 hvl hi
  k_steps
  · dsimp only
    refine' WEnd.intro (nx := (l, _) :: rest) (by k_asm) (by k_asm) (fun p hp => hp) ⟨_, ?lt, _, _, _, _, _, rfl, ?i1, rfl, ?l1, ?l2, ?l3, ?sd, rfl, rfl, rfl, rfl, trivial⟩
    case i1 => assumption
    case l1 => omega
    case l2 => omega
    case l3 => omega
    case sd => exact sd_go (by omega) (by assumption) (by assumption)
    case lt => omega
  · refine hret _ _ _ _ (by k_asm) (by k_asm) ?_
    exact tups_eq (by assumption) (sd_stop (by omega) (by assumption) (by assumption))
  · refine hret _ _ _ _ (by k_asm) (by k_asm) ?_
    exact tups_eq (by assumption) (sd_zero (by omega) (by assumption))

local macro_rules | `(tactic| walk_at "call ref") => `(tactic| k_extra "call ref")
local macro_rules | `(tactic| walk_at "call builtin:len") => `(tactic| (k_here; k_dflt (refine' len_led ?k1 ?k2 ?k3 ?_; (case k1 => k_asm); (case k2 => k_mem); (case k3 => first | omega | (simp only [List.length_append, List.length_cons, List.length_nil]; omega)))))

set_option maxHeartbeats 1000000 in
theorem push_tells {l ai : Addr} {vs : List Value} {n : Nat} {xs : List Int} {news rest led : List (Addr × Obj)} {x : Int}
    (B : Below A₀ base outer h₀) (F : Fr h₀ L s.heap m) (X : (hd.heap_39 w.params).In h₀) (N : News h₀ L s.heap news) (T : Top hd.view_39 lz mean mg mb h₀) (hk : cs.kind = .function)
    (P : Pick l (listOf vs.toArray n) news rest) (hs : ∀ p ∈ led, p ∈ rest) (hi : TupsK led vs xs) (hx : TupK led (.ref ai) x) (hlen : xs.length < 900)
    (hdp : dp + 2 < recursionLimit) (hun : un + 16 < cLine)
    (hret : ∀ h' tk' vs' n' ys, Fr h₀ L h' m → News h₀ L h' ((l, listOf vs'.toArray n') :: rest) → TupsK led vs' ys → ys = pushF xs x → ys.length = xs.length + 1 → Q .none { s with heap := h', toks := tk' }) :
    wpAny (model prg w) (ktrTop dp un gd cn cs L a ccd cl outer) (call (.ref 48) [.ref l, .ref ai]) Q E s := by
  have hoff := P.off
  replace N := P.news N
  clear P
  have hvl := hi.length
  revert X; unfold prg; w_top off; k_fill; intro X
  refine wpAny_call ?_
  k_dflt cell_enter
  k_with_none
  k_with "call ref" => refine held ?_
  k_steps
  refine Held.out ?_
  unfold Held
  have hi2 : TupsK led (vs ++ [Value.ref ai]) (xs ++ [x]) := hi.append (.cons hx .nil)
  k_dflt (refine' siftdown_tells ?B ?F ?X ?N ?T ?hk ?P ?hs ?hi ?hlen ?hp0 ?hp1 ?hdp ?hun ?_; (case B => k_asm); (case F => k_asm); (case X => k_asm); (case N => k_asm); (case T => k_asm); (case hk => exact rfl); (case P => k_upd); (case hs => assumption); (case hi => exact hi2); (case hlen => (simp only [List.length_append, List.length_cons, List.length_nil]; omega)); (case hp0 => (simp only [List.length_append, List.length_cons, List.length_nil]; omega)); (case hp1 => (simp only [List.length_append, List.length_cons, List.length_nil]; omega)); (case hdp => ktr_room); (case hun => ktr_units))
  intro h' tk' vs' n' F' N' hI'
  k_steps
  refine hret _ _ _ _ _ (by k_asm) (by k_asm) (tups_eq (by assumption) ?_) rfl (pushF_length _ _)
  exact push_eq _ _ _ (by simp only [List.length_append, List.length_cons, List.length_nil]; omega)
end
end
section
local macro_rules | `(tactic| walk_at "binaryOp RShift int int") => `(tactic| (k_here; (with_reducible refine shr1 ?_)))
local macro_rules | `(tactic| walk_at "binaryOp Mod int int") => `(tactic| (k_here; (with_reducible refine mod_pos ?k1 ?_); (case k1 => decide)))
local macro_rules | `(tactic| walk_at "binaryOp FloorDiv int int") => `(tactic| (k_here; (with_reducible refine fdiv_pos ?k1 ?k2 ?_); (case k1 => decide); (case k2 => decide +kernel)))
local macro_rules | `(tactic| k_all) => `(tactic| with_reducible assumption)
local macro_rules | `(tactic| l_idx) => `(tactic| omega)
local macro_rules | `(tactic| k_upd) => `(tactic| first | (refine' Pick.head ?a; (case a => k_all)) | (refine' Pick.tail ?a ?b; (case a => k_ne); (case b => k_upd)))
local macro_rules | `(tactic| walk_at "call ref") => `(tactic| (k_here; refine wpAny_call ?_; k_dflt (refine' code_def ?k1 ?k2 ?k3 ?k4 ?k5 ?kA ?kF ?kK ?k6 ?k7 ?k8 ?k9 ?kB ?_ ?c2 ?c3 ?c4 ?c5; (case kA => exact rfl); (case kF => exact rfl); (case kK => first | exact rfl | assumption); (case k1 => k_asm); (case k2 => k_asm); (case k3 => k_asm); (case k4 => k_asm); (case k5 => k_asm); (case k6 => k_is); (case k7 => k_is); (case k8 => ktr_room); (case k9 => exact BindsTo.of_eq rfl); (case c5 => decide); (case kB => exact locs rfl); (case c2 => exact rfl); (case c3 => exact rfl); (case c4 => exact rfl); k_whole; intro g' L' h' FG' F' N' B' X' T'; (try dsimp only); (try k_lift B'); (try k_fold))))
section
variable {w : World} {mean : ExcName → Option Value} {mg mb : Str → Option Value} {dp un : Nat} {gd : Option (List Code)} {cn : Str} {cs : Scope} {a : Addr} {ccd : Value} {cl : List (Str × Addr)} {outer : List Env} {A₀ : Around} {base h₀ : Heap} {L : Addr} {m : Str → Option Value} {s : Shared} {Q E : Value → Shared → Prop}
local macro_rules | `(tactic| walk_at "exec While Compare cons nil") => `(tactic| k_extra "exec While Compare cons nil")
local macro_rules | `(tactic| walk_at "subscriptTail Name Name ref int") => `(tactic| (k_here; (refine' item_K ?k1 ?k2 ?k3 ?k4 ?k5 ?k6 ?_); (case k1 => k_asm); (case k2 => k_mem); (case k3 => assumption); (case k4 => omega); (case k5 => omega); (case k6 => omega); intro a' hT' hv'))
local macro_rules | `(tactic| walk_at "subscriptTail Name Constant ref int") => `(tactic| (k_here; (refine' item_K ?k1 ?k2 ?k3 ?k4 ?k5 ?k6 ?_); (case k1 => k_asm); (case k2 => k_mem); (case k3 => assumption); (case k4 => omega); (case k5 => omega); (case k6 => omega); intro a' hT' hv'))
local macro_rules | `(tactic| walk_at "compareOp Lt ref ref") => `(tactic| (k_here; (refine' lt_K ?k1 ?k2 ?k3 ?k4 ?k5 ?_); (case k1 => ktr_units); (case k2 => k_asm); (case k3 => (intro p hp; refine List.mem_cons_of_mem _ ?_; revert p; assumption)); (case k4 => assumption); (case k5 => assumption)))
local macro_rules | `(tactic| walk_at "setItem ref int") => `(tactic| (k_here; k_dflt (refine' set_K ?k1 ?k2 ?k3 ?k4 ?k5 ?k6 ?k7 ?k8 ?_; (case k1 => k_asm); (case k2 => k_asm); (case k3 => k_upd); (case k4 => assumption); (case k5 => assumption); (case k6 => omega); (case k7 => omega); (case k8 => omega)); intro h' F' N' hT' hl'; (try k_sweep)))
local macro_rules | `(tactic| walk_at "call ref") => `(tactic| k_extra "call ref")
local macro_rules | `(tactic| walk_at "call builtin:len") => `(tactic| (k_here; k_dflt (refine' len_led ?k1 ?k2 ?k3 ?_; (case k1 => k_asm); (case k2 => k_mem); (case k3 => first | omega | (simp only [List.length_append, List.length_cons, List.length_nil]; omega)))))

set_option maxHeartbeats 1000000 in
theorem siftup_tells {l : Addr} {vs : List Value} {n : Nat} {xs : List Int} {news rest led : List (Addr × Obj)} {t0 : Tok}
    (B : Below A₀ base outer h₀) (F : Fr h₀ L s.heap m) (X : (hd.heap_39 w.params).In h₀) (N : News h₀ L s.heap news) (T : Top hd.view_39 lz mean mg mb h₀) (hk : cs.kind = .function)
    (P : Pick l (listOf vs.toArray n) news rest) (hs : ∀ p ∈ led, p ∈ rest) (hi : TupsK led vs xs) (hlen : xs.length < 900) (hne : 0 < xs.length)
    (hdp : dp + 2 < recursionLimit) (hun : un + 16 < cLine)
    (hret : ∀ h' tk' vs' n', Fr h₀ L h' m → News h₀ L h' ((l, listOf vs'.toArray n') :: rest) → TupsK led vs' (suF xs) → Q .none { s with heap := h', toks := tk' }) :
    wpAny (model prg w) (ktrTop dp un gd cn cs L a ccd cl outer) (call (.ref 69) [.ref l, .int 0 t0]) Q E s := by
  have hoff := P.off
  replace N := P.news N
  clear P
  have hvl := hi.length
  revert X; unfold prg; w_top off; k_fill; intro X
  refine wpAny_call ?_
  k_dflt cell_enter
  k_with_none
  k_with "exec While Compare cons nil" => refine held ?_
  k_with "call ref" => refine held ?_
  k_steps
  refine Held.out ?_
  unfold Held
  rename Fr _ _ _ _ => F1
  rename News _ _ _ _ => N1
  rename TupK _ _ _ => hT1
  rename_i a1 hv1 _ _
  refine while_inv (fun n m' nx => ∃ vs' n' ys p tp te ts c tc, nx = (l, W.listOf vs'.toArray n') :: rest ∧ TupsK led vs' ys ∧ n = xs.length - p.toNat ∧ ys.length = xs.length ∧ 0 ≤ p ∧ p < (xs.length : Int) ∧ c = 2 * p + 1 ∧ suL xs.length (xs.length - p.toNat) ys p.toNat = suL xs.length xs.length xs 0 ∧
    KnownAll m' [(Str.ofString "heap", .ref l), (Str.ofString "startpos", .int 0 ts), (Str.ofString "pos", .int p tp), (Str.ofString "newitem", .ref a1), (Str.ofString "endpos", .int (vs.length : Int) te), (Str.ofString "childpos", .int c tc)]) F1 N1 ⟨vs, n, xs, 0, _, _, _, _, _, rfl, hi, rfl, rfl, by omega, by omega, rfl, rfl, rfl, rfl, rfl, rfl, rfl, rfl, trivial⟩ ?_
  intro n2 m2 nx h2 tk2 hJ F2 N2
  obtain ⟨vs2, n3, ys, p, tp, te, ts, c, tc, rfl, hi2, rfl, hyl, hq0, hq1, hc, hsu, hkn⟩ := hJ
  have F3 := fr_knownL hkn F2
  dsimp only [kstB] at F3
  have hvl2 := hi2.length
  clear F1 F2 N1 hv1 hi
  k_with_none
  k_with "call ref" => refine held ?_
  k_steps
  iterate 3
    rotate_left
  · refine Held.out ?_
    unfold Held
    k_dflt (refine' siftdown_tells ?B ?F ?X ?N ?T ?hk ?P ?hs ?hi ?hlen ?hp0 ?hp1 ?hdp ?hun ?_; (case B => k_asm); (case F => k_asm); (case X => k_asm); (case N => k_asm); (case T => k_asm); (case hk => exact rfl); (case P => k_upd); (case hs => assumption); (case hi => assumption); (case hlen => omega); (case hp0 => omega); (case hp1 => omega); (case hdp => ktr_room); (case hun => ktr_units))
    intro h' tk' vs' n' F' N' hI'
    k_steps
    refine hret _ _ _ _ (by k_asm) (by k_asm) (tups_eq (by assumption) ?_)
    exact su_end (by assumption) (by assumption) (by omega) (by assumption) (by assumption) (by assumption) rfl
  all_goals
    dsimp only
    refine' WEnd.intro (nx := (l, _) :: rest) (by k_asm) (by k_asm) (fun p hp => hp) ⟨_, ?lt, _, _, _, _, _, _, _, _, _, rfl, ?i1, rfl, ?l1, ?l2, ?l3, ?l4, ?sd, rfl, rfl, rfl, rfl, rfl, rfl, trivial⟩
    case i1 => assumption
    case l1 => omega
    case l2 => omega
    case l3 => omega
    case l4 => first | rfl | omega
    case sd => first | exact suL_rightC (by assumption) (by omega) (by omega) (by assumption) (by assumption) | exact suL_leftC (by assumption) (by omega) (by omega) (Or.inr (by assumption)) (by assumption) | exact suL_leftC (by assumption) (by omega) (by omega) (Or.inl (by omega)) (by assumption)
    case lt => omega
end
end
section
local macro_rules | `(tactic| walk_at "binaryOp RShift int int") => `(tactic| (k_here; (with_reducible refine shr1 ?_)))
local macro_rules | `(tactic| walk_at "binaryOp Mod int int") => `(tactic| (k_here; (with_reducible refine mod_pos ?k1 ?_); (case k1 => decide)))
local macro_rules | `(tactic| walk_at "binaryOp FloorDiv int int") => `(tactic| (k_here; (with_reducible refine fdiv_pos ?k1 ?k2 ?_); (case k1 => decide); (case k2 => decide +kernel)))
local macro_rules | `(tactic| k_all) => `(tactic| with_reducible assumption)
local macro_rules | `(tactic| l_idx) => `(tactic| omega)
local macro_rules | `(tactic| k_upd) => `(tactic| first | (refine' Pick.head ?a; (case a => k_all)) | (refine' Pick.tail ?a ?b; (case a => k_ne); (case b => k_upd)))
local macro_rules | `(tactic| walk_at "call ref") => `(tactic| (k_here; refine wpAny_call ?_; k_dflt (refine' code_def ?k1 ?k2 ?k3 ?k4 ?k5 ?kA ?kF ?kK ?k6 ?k7 ?k8 ?k9 ?kB ?_ ?c2 ?c3 ?c4 ?c5; (case kA => exact rfl); (case kF => exact rfl); (case kK => first | exact rfl | assumption); (case k1 => k_asm); (case k2 => k_asm); (case k3 => k_asm); (case k4 => k_asm); (case k5 => k_asm); (case k6 => k_is); (case k7 => k_is); (case k8 => ktr_room); (case k9 => exact BindsTo.of_eq rfl); (case c5 => decide); (case kB => exact locs rfl); (case c2 => exact rfl); (case c3 => exact rfl); (case c4 => exact rfl); k_whole; intro g' L' h' FG' F' N' B' X' T'; (try dsimp only); (try k_lift B'); (try k_fold))))
section
variable {w : World} {mean : ExcName → Option Value} {mg mb : Str → Option Value} {dp un : Nat} {gd : Option (List Code)} {cn : Str} {cs : Scope} {a : Addr} {ccd : Value} {cl : List (Str × Addr)} {outer : List Env} {A₀ : Around} {base h₀ : Heap} {L : Addr} {m : Str → Option Value} {s : Shared} {Q E : Value → Shared → Prop}
local macro_rules | `(tactic| walk_at "subscriptTail Name Constant ref int") => `(tactic| (k_here; (refine' item_K ?k1 ?k2 ?k3 ?k4 ?k5 ?k6 ?_); (case k1 => k_asm); (case k2 => k_mem); (case k3 => assumption); (case k4 => omega); (case k5 => omega); (case k6 => omega); intro a' hT' hv'))
local macro_rules | `(tactic| walk_at "setItem ref int") => `(tactic| (k_here; k_dflt (refine' set_K ?k1 ?k2 ?k3 ?k4 ?k5 ?k6 ?k7 ?k8 ?_; (case k1 => k_asm); (case k2 => k_asm); (case k3 => k_upd); (case k4 => assumption); (case k5 => assumption); (case k6 => omega); (case k7 => omega); (case k8 => omega)); intro h' F' N' hT' hl'; (try k_sweep)))
local macro_rules | `(tactic| walk_at "call ref") => `(tactic| k_extra "call ref")
local macro_rules | `(tactic| walk_at "call builtin:list.pop") => `(tactic| (k_here; (with_reducible show wpAny _ _ (call (Value.builtin _) [Value.ref _]) _ _ _); k_dflt (refine' pop_K ?F ?N ?U ?i ?l ?z ?_; (case F => k_asm); (case N => k_asm); (case U => k_upd); (case i => assumption); (case l => omega); (case z => omega)); (intro h' ai' F' N' hT' hA'; (try dsimp only [List.nil_append, List.cons_append] at N'))))
local macro_rules | `(tactic| walk_at "truthy ref") => `(tactic| (k_here; k_dflt (refine' truth_led ?k1 ?k2 ?k3 ?_; (case k1 => k_asm); (case k2 => k_mem); (case k3 => (simp only [List.length_dropLast]; omega)))))

set_option maxHeartbeats 1000000 in
theorem pop_tells {l : Addr} {vs : List Value} {n : Nat} {xs : List Int} {news rest led : List (Addr × Obj)}
    (B : Below A₀ base outer h₀) (F : Fr h₀ L s.heap m) (X : (hd.heap_39 w.params).In h₀) (N : News h₀ L s.heap news) (T : Top hd.view_39 lz mean mg mb h₀) (hk : cs.kind = .function)
    (P : Pick l (listOf vs.toArray n) news rest) (hs : ∀ p ∈ led, p ∈ rest) (hi : TupsK led vs xs) (hlen : xs.length < 900) (hne : 0 < xs.length)
    (hdp : dp + 3 < recursionLimit) (hun : un + 24 < cLine)
    (hret : ∀ h' tk' vs' n' ys ai v, Fr h₀ L h' m → News h₀ L h' ((l, listOf vs'.toArray n') :: rest) → TupsK led vs' ys → ys = popF xs → ys.length = xs.length - 1 → TupK led (.ref ai) v → v = popV xs → Q (.ref ai) { s with heap := h', toks := tk' }) :
    wpAny (model prg w) (ktrTop dp un gd cn cs L a ccd cl outer) (call (.ref 55) [.ref l]) Q E s := by
  have hoff := P.off
  replace N := P.news N
  clear P
  have hl2 : xs.dropLast.length = xs.length - 1 := by simp
  have hvl := hi.length
  have hl3 : vs.dropLast.length = xs.dropLast.length := by simp [hvl]
  revert X; unfold prg; w_top off; k_fill; intro X
  refine wpAny_call ?_
  k_dflt cell_enter
  k_with_none
  k_with "call ref" => refine held ?_
  k_steps
  · refine Held.out ?_
    unfold Held
    k_dflt (refine' siftup_tells ?B ?F ?X ?N ?T ?hk ?P ?hs ?hi ?hlen ?hne ?hdp ?hun ?_; (case B => k_asm); (case F => k_asm); (case X => k_asm); (case N => k_asm); (case T => k_asm); (case hk => exact rfl); (case P => k_upd); (case hs => assumption); (case hi => assumption); (case hlen => omega); (case hne => omega); (case hdp => ktr_room); (case hun => ktr_units))
    intro h' tk' vs' n' F' N' hI'
    k_steps
    have hp : 0 < xs.dropLast.length := by omega
    exact hret _ _ _ _ _ _ _ (by k_asm) (by k_asm) (tups_eq (by assumption) (pop_eq2 hp).2.symm) rfl (popF_length _ hne) (by assumption) (pop_eq2 hp).1.symm
  · have hp : ¬ 0 < xs.dropLast.length := by omega
    exact hret _ _ _ _ _ _ _ (by k_asm) (by k_asm) (tups_eq (by assumption) (pop_eq1 hp hne).2.symm) rfl (popF_length _ hne) (by assumption) (pop_eq1 hp hne).1.symm
end
end
section
local macro_rules | `(tactic| walk_at "binaryOp RShift int int") => `(tactic| (k_here; (with_reducible refine shr1 ?_)))
local macro_rules | `(tactic| walk_at "binaryOp Mod int int") => `(tactic| (k_here; (with_reducible refine mod_pos ?k1 ?_); (case k1 => decide)))
local macro_rules | `(tactic| walk_at "binaryOp FloorDiv int int") => `(tactic| (k_here; (with_reducible refine fdiv_pos ?k1 ?k2 ?_); (case k1 => decide); (case k2 => decide +kernel)))
local macro_rules | `(tactic| k_all) => `(tactic| with_reducible assumption)
local macro_rules | `(tactic| l_idx) => `(tactic| omega)
local macro_rules | `(tactic| k_upd) => `(tactic| first | (refine' Pick.head ?a; (case a => k_all)) | (refine' Pick.tail ?a ?b; (case a => k_ne); (case b => k_upd)))
local macro_rules | `(tactic| walk_at "call ref") => `(tactic| (k_here; refine wpAny_call ?_; k_dflt (refine' code_def ?k1 ?k2 ?k3 ?k4 ?k5 ?kA ?kF ?kK ?k6 ?k7 ?k8 ?k9 ?kB ?_ ?c2 ?c3 ?c4 ?c5; (case kA => exact rfl); (case kF => exact rfl); (case kK => first | exact rfl | assumption); (case k1 => k_asm); (case k2 => k_asm); (case k3 => k_asm); (case k4 => k_asm); (case k5 => k_asm); (case k6 => k_is); (case k7 => k_is); (case k8 => ktr_room); (case k9 => exact BindsTo.of_eq rfl); (case c5 => decide); (case kB => exact locs rfl); (case c2 => exact rfl); (case c3 => exact rfl); (case c4 => exact rfl); k_whole; intro g' L' h' FG' F' N' B' X' T'; (try dsimp only); (try k_lift B'); (try k_fold))))
theorem getD_mem {tn : List (Int × Int)} {i : Nat} (h : i < tn.length) : tn.getD i (0, 0) ∈ tn := by
  simp [List.getD, h]
theorem ints3 {us : List Value} {x y z : Int} (h : IntsAre us [x, y, z]) : ∃ ta tb tc, us = [.int x ta, .int y tb, .int z tc] := by
  cases h with
  | cons _ ta h => cases h with
    | cons _ tb h => cases h with
      | cons _ tc h => cases h; exact ⟨ta, tb, tc, rfl⟩
theorem re8 {h₀ h : Heap} {L : Addr} {p1 p2 p3 p4 p5 p6 p7 p8 : Addr × Obj} {rest : List (Addr × Obj)} (N : News h₀ L h (p1 :: p2 :: p3 :: p4 :: p5 :: p6 :: p7 :: p8 :: rest)) : News h₀ L h (p6 :: p7 :: p8 :: p1 :: p4 :: rest) := fun p hp => N p (by
  simp only [List.mem_cons] at hp ⊢
  rcases hp with h | h | h | h | h | h <;> simp [h])
theorem re6 {h₀ h : Heap} {L : Addr} {p1 p2 p3 p4 p5 p6 : Addr × Obj} {rest : List (Addr × Obj)} (N : News h₀ L h (p1 :: p2 :: p3 :: p4 :: p5 :: p6 :: rest)) : News h₀ L h (p2 :: p3 :: p4 :: p1 :: p5 :: p6 :: rest) := fun p hp => N p (by
  simp only [List.mem_cons] at hp ⊢
  rcases hp with h | h | h | h | h | h | h <;> simp [h])
theorem re_out {p1 p2 p3 p4 p5 p6 : Addr × Obj} {own news : List (Addr × Obj)} : ∀ p ∈ p2 :: p1 :: ((p4 :: p5 :: p6 :: own) ++ news), p ∈ p1 :: p2 :: p3 :: p4 :: p5 :: p6 :: (own ++ news) := fun p hp => by
  simp only [List.mem_cons, List.cons_append] at hp ⊢
  rcases hp with h | h | h | h | h | h <;> simp [h]
theorem re_leaf {p1 p2 p3 p4 p5 : Addr × Obj} {own news : List (Addr × Obj)} : ∀ p ∈ p4 :: p3 :: ((p1 :: own) ++ news), p ∈ p1 :: p2 :: p3 :: p4 :: p5 :: (own ++ news) := fun p hp => by
  simp only [List.mem_cons, List.cons_append] at hp ⊢
  rcases hp with h | h | h | h <;> simp [h]
theorem re4 {h₀ h : Heap} {L : Addr} {p1 p2 p3 p4 r1 r2 : Addr × Obj} {rest : List (Addr × Obj)} (N : News h₀ L h (p1 :: p2 :: p3 :: p4 :: r1 :: r2 :: rest)) : News h₀ L h (p3 :: p1 :: ([p2, p4] ++ rest)) := fun p hp => N p (by
  simp only [List.mem_cons, List.mem_append, List.not_mem_nil, or_false] at hp ⊢
  rcases hp with h | h | (h | h) | h <;> simp [h])
theorem pp_mem {xs : List Int} {v : Int} (h : 0 < xs.length) (e : v = popV xs) : v ∈ xs := (pop_perm xs h).mem_iff.mp (e ▸ List.mem_cons_self ..)
def DomK (Dom : Int → Prop) (xs : List Int) : Prop := ∀ k ∈ xs, Dom (k / 16 % 65536)
theorem domK_pop {Dom : Int → Prop} {xs ys : List Int} (h : DomK Dom xs) (hp : 0 < xs.length) (e : ys = popF xs) : DomK Dom ys := fun k hk => h k ((pop_perm xs hp).mem_iff.mp (.tail _ (e ▸ hk)))
theorem domK_push {Dom : Int → Prop} {xs ys : List Int} {k : Int} (h : DomK Dom xs) (e : ys = pushF xs k) (hk : Dom (k / 16 % 65536)) : DomK Dom ys := fun j hj => by
  have := (pushF_perm xs k).mem_iff.mp (e ▸ hj)
  rcases List.mem_cons.mp this with rfl | q
  · exact hk
  · exact h j q
section
variable {w : World} {mean : ExcName → Option Value} {mg mb : Str → Option Value} {dp un : Nat} {gd : Option (List Code)} {cn : Str} {cs : Scope} {a : Addr} {ccd : Value} {cl : List (Str × Addr)} {outer : List Env} {A₀ : Around} {base h₀ : Heap} {L : Addr} {m : Str → Option Value} {s : Shared} {Q E : Value → Shared → Prop}
local macro_rules | `(tactic| walk_at "exec While Name cons nil") => `(tactic| k_extra "exec While Name cons nil")
local macro_rules | `(tactic| walk_at "subscriptTail Name Name ref int") => `(tactic| k_extra "subscriptTail Name Name ref int")
local macro_rules | `(tactic| walk_at "subscriptTail Name BinOp ref int") => `(tactic| k_extra "subscriptTail Name BinOp ref int")
local macro_rules | `(tactic| walk_at "subscriptTail Name Constant ref int") => `(tactic| k_extra "subscriptTail Name Constant ref int")
local macro_rules | `(tactic| walk_at "call ref") => `(tactic| k_extra "call ref")
local macro_rules | `(tactic| walk_at "call builtin:len") => `(tactic| (k_here; k_dflt (refine' len_led ?k1 ?k2 ?k3 ?_; (case k1 => k_asm); (case k2 => k_mem); (case k3 => omega))))
local macro_rules | `(tactic| walk_at "truthy ref") => `(tactic| (k_here; k_dflt (refine' truth_led ?k1 ?k2 ?k3 ?_; (case k1 => k_asm); (case k2 => k_mem); (case k3 => omega))))
local macro_rules | `(tactic| walk_at "call builtin:list.append") => `(tactic| (k_here; (with_reducible show wpAny _ _ (call (Value.builtin _) [Value.ref _, _]) _ _ _); k_dflt (refine' append_K ?k1 ?k2 ?k3 ?_ ?z; (case k1 => k_asm); (case k2 => k_asm); (case k3 => k_upd); (case z => (rw [sizeLine_eq]; simp only [List.size_toArray]; omega)); k_whole); intro h' F' N'; (try simp only [List.push_toArray] at N'); (try k_sweep)))

set_option maxHeartbeats 1000000 in
theorem nearest_tells {lt : Addr} {tv : List Value} {nt : Nat} {tn : List (Int × Int)} {news : List (Addr × Obj)} {w0 b0 : Int} {t0 t1 : Tok} {Dom : Int → Prop}
    (B : Below A₀ base outer h₀) (F : Fr h₀ L s.heap m) (X : (hd.heap_39 w.params).In h₀) (N : News h₀ L s.heap news) (T : Top hd.view_39 lz mean mg mb h₀) (hk : cs.kind = .function)
    (hm : (lt, listOf tv.toArray nt) ∈ news) (hp : PairsP news tv tn) (h4 : tn.length = 4) (hw : 0 ≤ w0) (hD0 : Dom b0) (hDp : ∀ q ∈ tn, Dom q.2) (hDx : ∀ a b, Dom a → Dom b → Dom (bx a b)) (hDb : ∀ a, Dom a → 0 ≤ a ∧ a < 65536)
    (hc : ∀ q ∈ tn, 0 ≤ q.1) (hcs : ∀ i, i < 3 → cT tn i ≤ cT tn (i + 1))
    (hdp : dp + 4 < recursionLimit) (hun : un + 40 < cLine)
    (hret : ∀ h' tk' D vs n own fs, Fr h₀ L h' m → News h₀ L h' ((D, listOf vs.toArray n) :: (own ++ news)) → (∀ q ∈ news, q.1 < D) → (∀ p ∈ own, ∀ q ∈ news, q.1 < p.1) → PairsP own vs fs → fs.Perm (allSub tn w0 b0) → (fs.map (·.1)).Pairwise (· ≤ ·) → fs.head? = some (w0, b0) → Q (.ref D) { s with heap := h', toks := tk' }) :
    wpAny (model prg w) (ktrTop dp un gd cn cs L a ccd cl outer) (call (.ref 130) [.int w0 t0, .int b0 t1, .ref lt]) Q E s := by
  have hvl := hp.length
  obtain ⟨a0, n0, t10, t20, e0, hm0⟩ := hp.at (i := 0) (by omega)
  replace N := news_in (news_in N hm0) (List.mem_cons_of_mem _ hm)
  revert X; unfold prg; w_top off; k_fill; intro X
  refine wpAny_call ?_
  k_dflt cell_enter
  k_with_none
  k_with "exec While Name cons nil" => refine held ?_
  k_with "subscriptTail Name Name ref int" => refine held ?_
  k_with "subscriptTail Name BinOp ref int" => refine held ?_
  k_with "subscriptTail Name Constant ref int" => refine held ?_
  k_with "call ref" => refine held ?_
  k_steps
  refine Held.out ?_
  unfold Held
  refine item_at (by k_asm) (by k_mem) (by decide) (by decide) e0 ?_
  k_steps
  refine Held.out ?_
  unfold Held
  refine item_at (by k_asm) (by k_mem) (by decide) (by decide) e0 ?_
  k_steps
  refine Held.out ?_
  unfold Held
  rename_i d1 _ l13 lf _ l12 _ _ d2 _ l11 lh _ l10 _ F1 N1
  have hdb0 : 0 ≤ bx b0 (pT tn 0) ∧ bx b0 (pT tn 0) < 65536 := hDb _ (hDx _ _ hD0 (hDp _ (getD_mem (by omega : 0 < tn.length))))
  have hc00 : 0 ≤ cT tn 0 := hc _ (getD_mem (by omega : 0 < tn.length))
  have n1 : ∀ q ∈ news, q.1 < d1 := ktn_ltOf l13.2.2
  have n2 : ∀ q ∈ news, q.1 < lf := ktn_ltOf l12.2.2.2
  have n3 : ∀ q ∈ news, q.1 < d2 := ktn_ltOf l11.2.2.2.2
  have n4 : ∀ q ∈ news, q.1 < lh := ktn_ltOf l10.2.2.2.2.2
  have o1 : d1 < lf := l12.1
  have o2 : lf < d2 := l11.1
  have o3 : d2 < lh := l10.1
  clear l13 l12 l11 l10
  have N2 := re4 N1
  refine while_inv (fun n m' nx => ∃ fv nf hv nh own fs xs, nx = (lf, W.listOf fv.toArray nf) :: (lh, W.listOf hv.toArray nh) :: (own ++ news) ∧ PairsP own fv fs ∧ TupsK (own ++ news) hv xs ∧ NearOk tn (allSub tn w0 b0) fs xs ∧ DomK Dom xs ∧ (∀ p ∈ own, (∀ q ∈ news, q.1 < p.1) ∧ p.1 ≠ lf ∧ p.1 ≠ lh) ∧ fs.head? = some (w0, b0) ∧ n = 16 - fs.length ∧
    KnownAll m' [(Str.ofString "found", .ref lf), (Str.ofString "heap", .ref lh), (Str.ofString "turns", .ref lt)]) F1 N2 ⟨_, _, _, _, _, [(w0, b0)], [codeK (w0 + cT tn 0) (bx b0 (pT tn 0)) 0], rfl, .cons ⟨d1, _, _, _, rfl, .tail _ (.head _)⟩ .nil, .cons ⟨d2, _, _, w0 + cT tn 0, bx b0 (pT tn 0), 0, rfl, List.mem_append_left _ (List.mem_cons_self ..), .cons _ _ (.cons _ _ (.cons _ _ .nil)), rfl, by omega, hdb0.1, hdb0.2, by omega, by omega⟩ .nil, NearOk.start hc00 hdb0, ?p3, ?p4, rfl, rfl, rfl, rfl, rfl, trivial⟩ ?_
  case p3 =>
    intro k hk
    rw [List.mem_singleton.mp hk, dec_b hdb0.1 hdb0.2 (by omega) (by omega)]
    exact hDx _ _ hD0 (hDp _ (getD_mem (by omega : 0 < tn.length)))
  case p4 =>
    intro p hp
    rcases List.mem_cons.mp hp with rfl | hp
    · exact ⟨n3, Nat.ne_of_gt o2, Nat.ne_of_lt o3⟩
    · rw [List.mem_singleton.mp hp]
      exact ⟨n1, Nat.ne_of_lt o1, Nat.ne_of_lt (Nat.lt_trans o1 (Nat.lt_trans o2 o3))⟩
  intro n2 m2 nx h2 tk2 hJ F2 N3
  obtain ⟨fv, nf, hv, nh, own, fs, xs, rfl, hpf, hth, hok, hdk, hof, hhd, rfl, hkn⟩ := hJ
  have F3 := fr_knownL hkn F2
  dsimp only [kstB] at F3
  have hlen := hok.len (allSub_len tn w0 b0)
  have hfl := hpf.length
  have hhl := hth.length
  have hledf : ∀ p ∈ own ++ news, p.1 ≠ lf := fun p hp => (List.mem_append.mp hp).elim (fun h => (hof p h).2.1) (fun h => Nat.ne_of_lt (n2 p h))
  have hledh : ∀ p ∈ own ++ news, p.1 ≠ lh := fun p hp => (List.mem_append.mp hp).elim (fun h => (hof p h).2.2) (fun h => Nat.ne_of_lt (n4 p h))
  have hmt : (lt, W.listOf tv.toArray nt) ∈ own ++ news := List.mem_append_right _ hm
  have hltf : @Ne Nat lt lf := Nat.ne_of_lt (n2 _ hm)
  have hlth : @Ne Nat lt lh := Nat.ne_of_lt (n4 _ hm)
  have hlfh : @Ne Nat lf lh := Nat.ne_of_lt (Nat.lt_trans o2 o3)
  have N4 : News _ _ _ ((lf, W.listOf fv.toArray nf) :: (lh, W.listOf hv.toArray nh) :: (lt, W.listOf tv.toArray nt) :: (own ++ news)) := fun p hp => N3 p (by
    simp only [List.mem_cons] at hp ⊢
    rcases hp with h | h | h | h
    · exact Or.inl h
    · exact Or.inr (Or.inl h)
    · exact Or.inr (Or.inr (h ▸ hmt))
    · exact Or.inr (Or.inr h))
  clear F1 F2 N1 N2 N3
  k_with_none
  k_with "subscriptTail Name Name ref int" => refine held ?_
  k_with "subscriptTail Name BinOp ref int" => refine held ?_
  k_with "call ref" => refine held ?_
  k_steps
  · refine Held.out ?_
    unfold Held
    k_dflt (refine' pop_tells (led := own ++ news) ?B ?F ?X ?N ?T ?hk ?P ?hs ?hi ?hlen ?hne ?hdp ?hun ?_; (case B => k_asm); (case F => k_asm); (case X => k_asm); (case N => k_asm); (case T => k_asm); (case hk => exact rfl); (case P => k_upd); (case hs => exact fun p hp => List.mem_cons_of_mem _ (List.mem_cons_of_mem _ hp)); (case hi => assumption); (case hlen => omega); (case hne => omega); (case hdp => ktr_room); (case hun => ktr_units))
    intro h5 tk5 hv5 nh5 ys ai v F5 N5 hT5 hy hyl hA hv
    obtain ⟨a9, us, n9, w1, b1, t9, e9, hm9, hi9, hc9, q1, q2, q3, q4, q5⟩ := hA
    cases e9
    obtain ⟨ta, tb, tc, rfl⟩ := ints3 hi9
    have haf : @Ne Nat ai lf := hledf _ hm9
    have hah : @Ne Nat ai lh := hledh _ hm9
    replace N5 := news_in N5 (List.mem_cons_of_mem _ (List.mem_cons_of_mem _ (List.mem_cons_of_mem _ hm9)))
    have hhl5 := hT5.length
    clear N4 F3
    k_with_none
    k_with "subscriptTail Name Name ref int" => refine held ?_
    k_with "subscriptTail Name BinOp ref int" => refine held ?_
    k_with "call ref" => refine held ?_
    k_steps
    · refine Held.out ?_
      unfold Held
      have ht3 : t9 + 1 < 4 := by omega
      obtain ⟨ac, nc, tc1, tc2, ec, hmc⟩ := hp.at (i := t9.toNat) (by omega)
      obtain ⟨ad, nd, td1, td2, ed, hmd⟩ := hp.at (i := (t9 + 1).toNat) (by omega)
      have hcf : @Ne Nat ac lf := Nat.ne_of_lt (n2 _ hmc)
      have hch : @Ne Nat ac lh := Nat.ne_of_lt (n4 _ hmc)
      have hdf : @Ne Nat ad lf := Nat.ne_of_lt (n2 _ hmd)
      have hdh : @Ne Nat ad lh := Nat.ne_of_lt (n4 _ hmd)
      rename News _ _ _ _ => N6
      rename_i D1 _ lD1 _ _ _ _
      have lD1n : ∀ q ∈ own ++ news, q.1 < D1 := ktn_ltOf lD1.2.2.2.2
      replace N6 := news_in (news_in N6 (mem5 (List.mem_append_right _ hmc))) (mem6 (List.mem_append_right _ hmd))
      k_with_none
      k_with "subscriptTail Name BinOp ref int" => refine held ?_
      k_with "call ref" => refine held ?_
      refine item_at (by k_asm) (by k_mem) q4 (by omega) ec ?_
      k_steps
      refine Held.out ?_
      unfold Held
      refine item_at (by k_asm) (by k_mem) (by omega) (by omega) ed ?_
      k_steps
      refine Held.out ?_
      unfold Held
      rename News _ _ _ _ => N7
      rename_i D2 _ _ lD2
      have lD2n : ∀ q ∈ own ++ news, q.1 < D2 := ktn_ltOf lD2.2.2.2.2.2.2.2
      have oD2h : @LT.lt Nat _ lh D2 := lD2.2.2.2.2.1
      have oD2f : @LT.lt Nat _ lf D2 := lD2.2.2.2.2.2.1
      have oD1h : @LT.lt Nat _ lh D1 := lD1.2.1
      have oD1f : @LT.lt Nat _ lf D1 := lD1.2.2.1
      have oD12 : @LT.lt Nat _ D1 D2 := lD2.2.2.1
      replace N7 := re8 N7
      have hdp0 : Dom (pT tn t9.toNat) := hDp _ (getD_mem (by omega))
      have hdp1 : Dom (pT tn (t9 + 1).toNat) := hDp _ (getD_mem (by omega))
      have hdb1 : Dom b1 := by
        have := hdk v (pp_mem (by omega) hv)
        rwa [hc9, dec_b q2 q3 q4 q5] at this
      have hx1 := hDx _ _ hdb1 hdp1
      have hx2 := hDx _ _ (hDx _ _ hdb1 hdp0) hdp1
      have hc0 : 0 ≤ cT tn t9.toNat := hc _ (getD_mem (by omega))
      have hcc : cT tn t9.toNat ≤ cT tn (t9 + 1).toNat := by
        have := hcs t9.toNat (by omega)
        rwa [show t9.toNat + 1 = (t9 + 1).toNat by omega] at this
      clear lD1 lD2
      k_dflt (refine push_tells (led := (D2, _) :: (D1, _) :: (own ++ news)) (x := codeK (w1 + cT tn (t9 + 1).toNat) (bx b1 (pT tn (t9 + 1).toNat)) (t9 + 1)) (by k_asm) (by k_asm) (by k_asm) N7 (by k_asm) rfl (Pick.head (by k_all)) (fun p hp => mem2 hp) (hT5.mono fun p hp => mem2 hp) ⟨D2, _, _, w1 + cT tn (t9 + 1).toNat, bx b1 (pT tn (t9 + 1).toNat), t9 + 1, rfl, List.mem_cons_self .., .cons _ _ (.cons _ _ (.cons _ _ .nil)), rfl, by omega, (hDb _ hx1).1, (hDb _ hx1).2, by omega, by omega⟩ (by omega) (by ktr_room) (by ktr_units) ?_)
      intro h8 tk8 hv8 nh8 zs1 F8 N8 hT8 hz1 hzl1
      k_steps
      refine Held.out ?_
      unfold Held
      rename News _ _ _ _ => N9
      rename_i D3 _ _ lD3
      have oD3h : @LT.lt Nat _ lh D3 := lD3.1
      have oD3f : @LT.lt Nat _ lf D3 := lD3.2.1
      have oD3t : @LT.lt Nat _ lt D3 := lD3.2.2.1
      have oD32 : @LT.lt Nat _ D2 D3 := lD3.2.2.2.1
      have oD31 : @LT.lt Nat _ D1 D3 := lD3.2.2.2.2.1
      have lD3n : ∀ q ∈ own ++ news, q.1 < D3 := ktn_ltOf lD3.2.2.2.2.2
      replace N9 := re6 N9
      clear lD3
      k_dflt (refine push_tells (led := (D3, _) :: (D2, _) :: (D1, _) :: (own ++ news)) (x := codeK (w1 + cT tn (t9 + 1).toNat - cT tn t9.toNat) (bx (bx b1 (pT tn t9.toNat)) (pT tn (t9 + 1).toNat)) (t9 + 1)) (by k_asm) (by k_asm) (by k_asm) N9 (by k_asm) rfl (Pick.head (by k_all)) (fun p hp => mem2 hp) (hT8.mono fun p hp => .tail _ hp) ⟨D3, _, _, w1 + cT tn (t9 + 1).toNat - cT tn t9.toNat, bx (bx b1 (pT tn t9.toNat)) (pT tn (t9 + 1).toNat), t9 + 1, rfl, List.mem_cons_self .., .cons _ _ (.cons _ _ (.cons _ _ .nil)), rfl, by omega, (hDb _ hx2).1, (hDb _ hx2).2, by omega, by omega⟩ (by omega) (by ktr_room) (by ktr_units) ?_)
      intro h10 tk10 hv10 nh10 zs2 F10 N10 hT10 hz2 hzl2
      k_steps
      rename News _ _ _ _ => N11
      have hne := NearOk.node hok (by omega) hv hy hc9 q2 q3 q4 q5 ht3 hz1 hz2 rfl rfl (hDb _ hx1) (hDb _ hx2) hc0 hcc
      dsimp only
      refine WEnd.intro (nx := (lf, _) :: (lh, _) :: (((D3, _) :: (D2, _) :: (D1, _) :: own) ++ news)) (by k_asm) N11 re_out ⟨_, ?lt, _, _, _, _, _, fs ++ [(w1, b1)], zs2, rfl, ?pf, ?th, hne, ?dk, ?of, ?hh, rfl, rfl, rfl, rfl, trivial⟩
      case lt => simp only [List.length_append, List.length_cons, List.length_nil]; omega
      case pf => exact (hpf.mono fun p hp => mem3 hp).append (.cons ⟨D1, _, _, _, rfl, .tail _ (.tail _ (.head _))⟩ .nil)
      case th => exact hT10
      case dk => exact domK_push (domK_push (domK_pop hdk (by omega) hy) hz1 (by rw [dec_b (hDb _ hx1).1 (hDb _ hx1).2 (by omega) (by omega)]; exact hx1)) hz2 (by rw [dec_b (hDb _ hx2).1 (hDb _ hx2).2 (by omega) (by omega)]; exact hx2)
      case of =>
        intro p hp
        rcases List.mem_cons.mp hp with rfl | hp
        · exact ⟨fun q hq => lD3n q (List.mem_append_right _ hq), Nat.ne_of_gt oD3f, Nat.ne_of_gt oD3h⟩
        · rcases List.mem_cons.mp hp with rfl | hp
          · exact ⟨fun q hq => lD2n q (List.mem_append_right _ hq), Nat.ne_of_gt oD2f, Nat.ne_of_gt oD2h⟩
          · rcases List.mem_cons.mp hp with rfl | hp
            · exact ⟨fun q hq => lD1n q (List.mem_append_right _ hq), Nat.ne_of_gt oD1f, Nat.ne_of_gt oD1h⟩
            · exact hof p hp
      case hh => rw [List.head?_append, hhd]; rfl
    · dsimp only
      rename News _ _ _ _ => N6
      rename_i D1 _ lD1 _ _ _ _
      have lD1n : ∀ q ∈ own ++ news, q.1 < D1 := ktn_ltOf lD1.2.2.2.2
      have oD1h : @LT.lt Nat _ lh D1 := lD1.2.1
      have oD1f : @LT.lt Nat _ lf D1 := lD1.2.2.1
      have hne := NearOk.leaf hok (by omega) hv hy hc9 q2 q3 q4 q5 (by omega)
      refine WEnd.intro (nx := (lf, _) :: (lh, _) :: (((D1, _) :: own) ++ news)) (by k_asm) N6 re_leaf ⟨_, ?lt, _, _, _, _, _, fs ++ [(w1, b1)], ys, rfl, ?pf, ?th, hne, ?dk, ?of, ?hh, rfl, rfl, rfl, rfl, trivial⟩
      case lt => simp only [List.length_append, List.length_cons, List.length_nil]; omega
      case pf => exact (hpf.mono fun p hp => .tail _ hp).append (.cons ⟨D1, _, _, _, rfl, .head _⟩ .nil)
      case th => exact hT5.mono fun p hp => .tail _ hp
      case dk => exact domK_pop hdk (by omega) hy
      case of =>
        intro p hp
        rcases List.mem_cons.mp hp with rfl | hp
        · exact ⟨fun q hq => lD1n q (List.mem_append_right _ hq), Nat.ne_of_gt oD1f, Nat.ne_of_gt oD1h⟩
        · exact hof p hp
      case hh => rw [List.head?_append, hhd]; rfl
  · have hx0 : xs = [] := List.eq_nil_of_length_eq_zero (by omega)
    have hpe := hok.perm
    rw [hx0] at hpe
    simp only [List.flatMap_nil, List.append_nil] at hpe
    rename News h₀ _ _ _ => N9
    exact hret _ _ _ _ _ own _ (by k_asm) (fun p hp => N9 p (by
      rcases List.mem_cons.mp hp with h | h
      · exact h ▸ List.mem_cons_self ..
      · exact List.mem_cons_of_mem _ (List.mem_cons_of_mem _ (List.mem_cons_of_mem _ h)))) n2 (fun p hp => (hof p hp).1) hpf hpe hok.sorted hhd
end
end
section
local macro_rules | `(tactic| walk_at "binaryOp RShift int int") => `(tactic| (k_here; (with_reducible refine shr1 ?_)))
local macro_rules | `(tactic| walk_at "binaryOp Mod int int") => `(tactic| (k_here; (with_reducible refine mod_pos ?k1 ?_); (case k1 => decide)))
local macro_rules | `(tactic| walk_at "binaryOp FloorDiv int int") => `(tactic| (k_here; (with_reducible refine fdiv_pos ?k1 ?k2 ?_); (case k1 => decide); (case k2 => decide +kernel)))
local macro_rules | `(tactic| k_all) => `(tactic| with_reducible assumption)
local macro_rules | `(tactic| l_idx) => `(tactic| omega)
local macro_rules | `(tactic| k_upd) => `(tactic| first | (refine' Pick.head ?a; (case a => k_all)) | (refine' Pick.tail ?a ?b; (case a => k_ne); (case b => k_upd)))
local macro_rules | `(tactic| walk_at "call ref") => `(tactic| (k_here; refine wpAny_call ?_; k_dflt (refine' code_def ?k1 ?k2 ?k3 ?k4 ?k5 ?kA ?kF ?kK ?k6 ?k7 ?k8 ?k9 ?kB ?_ ?c2 ?c3 ?c4 ?c5; (case kA => exact rfl); (case kF => exact rfl); (case kK => first | exact rfl | assumption); (case k1 => k_asm); (case k2 => k_asm); (case k3 => k_asm); (case k4 => k_asm); (case k5 => k_asm); (case k6 => k_is); (case k7 => k_is); (case k8 => ktr_room); (case k9 => exact BindsTo.of_eq rfl); (case c5 => decide); (case kB => exact locs rfl); (case c2 => exact rfl); (case c3 => exact rfl); (case c4 => exact rfl); k_whole; intro g' L' h' FG' F' N' B' X' T'; (try dsimp only); (try k_lift B'); (try k_fold))))
/-! _law_apart -/
def absI (d : Int) : Int := if d < 0 then -d else d
def ringF (x y r : Str) : Int :=
  if 4 - absI (Txt.find r (Txt.item x 2) - Txt.find r (Txt.item y 2)) < absI (Txt.find r (Txt.item x 2) - Txt.find r (Txt.item y 2)) then 4 - absI (Txt.find r (Txt.item x 2) - Txt.find r (Txt.item y 2)) else absI (Txt.find r (Txt.item x 2) - Txt.find r (Txt.item y 2))
def difF (x y : Str) (i : Nat) : Int := if (Txt.item x (0 + (i : Int)) != Txt.item y (0 + (i : Int))) = true then 1 else 0
def cntF (x y : Str) : Nat → Int
  | 0 => 0
  | i + 1 => cntF x y i + difF x y i
def apF (x y r : Str) : Int := ringF x y r + cntF x y 2
section
variable {prog : Program} {w : World} {A : Around} {E : Value → Shared → Prop} {s : Shared} {Q : Value → Shared → Prop}
theorem index_ok {x y : Str} {t u : Tok} (hA : A.handled = none) (h0 : 0 ≤ Txt.find x y) (h : Q (.int (Txt.find x y) s.toks) { s with toks := s.toks + 1 }) : wpAny (model prog w) A (call (.builtin "str.index") [.str x t, .str y u]) Q E s :=
  index_or hA (fun e => absurd h0 (by omega)) fun _ _ => h
end
section
variable {w : World} {mean : ExcName → Option Value} {mg mb : Str → Option Value} {dp un : Nat} {gd : Option (List Code)} {cn : Str} {cs : Scope} {a : Addr} {ccd : Value} {cl : List (Str × Addr)} {outer : List Env} {A₀ : Around} {base h₀ : Heap} {L : Addr} {m : Str → Option Value} {s : Shared} {Q E : Value → Shared → Prop}
local macro_rules | `(tactic| walk_at "pyIter ref") => `(tactic| k_extra "pyIter ref")
local macro_rules | `(tactic| walk_at "call builtin:str.index") => `(tactic| (k_here; (refine index_ok rfl (by assumption) ?_)))
local macro_rules | `(tactic| walk_at "subscriptTail Name Name str int") => `(tactic| (k_here; (refine item_str ?k1 ?k2 ?k3 ?_); (case k1 => decide); (case k2 => omega); (case k3 => omega); intro _))
local macro_rules | `(tactic| walk_at "subscriptTail Name Constant str int") => `(tactic| (k_here; (refine item_str ?k1 ?k2 ?k3 ?_); (case k1 => decide); (case k2 => omega); (case k3 => omega); intro _))

set_option maxHeartbeats 1000000 in
theorem apart_tells {news : List (Addr × Obj)} {x y r : Str} {t0 t1 t2 : Tok}
    (B : Below A₀ base outer h₀) (F : Fr h₀ L s.heap m) (X : (hd.heap_39 w.params).In h₀) (N : News h₀ L s.heap news) (T : Top hd.view_39 lz mean mg mb h₀) (hk : cs.kind = .function)
    (hx : x.length = 3) (hy : y.length = 3) (h1 : 0 ≤ Txt.find r (Txt.item x 2)) (h2 : 0 ≤ Txt.find r (Txt.item y 2))
    (hdp : dp + 1 < recursionLimit) (hun : un + 8 < cLine)
    (hret : ∀ h' tk' t' v, Fr h₀ L h' m → News h₀ L h' news → v = apF x y r → Q (.int v t') { s with heap := h', toks := tk' }) :
    wpAny (model prg w) (ktrTop dp un gd cn cs L a ccd cl outer) (call (.ref 123) [.str x t0, .str y t1, .str r t2]) Q E s := by
  revert X; unfold prg; w_top off; k_fill; intro X
  refine wpAny_call ?_
  k_dflt cell_enter
  k_with_none
  k_with "pyIter ref" => refine held ?_
  k_steps
  refine Held.out ?_
  unfold Held
  rename IsRange _ _ _ _ _ _ _ _ => rgX
  rename Fr _ _ _ _ => F1
  rename News _ _ _ _ => N1
  refine range_inv (n := 2) (fun i m' nx => nx = news ∧ ∃ v t, v = ringF x y r + cntF x y i ∧ KnownAll m' [(Str.ofString "one", .str x t0), (Str.ofString "other", .str y t1), (Str.ofString "steps", .int v t)]) rfl rgX (by decide) (by rfl) F1 N1 ⟨rfl, _, _, (by simp only [cntF, Int.add_zero]; rfl), rfl, rfl, rfl, trivial⟩ ?_ ?_
  · intro i t m₁ nx h3 tk3 own hi _ hoff hJ F3 N3
    obtain ⟨rfl, v, t9, hv, hkn⟩ := hJ
    have F4 := fr_knownX hkn F3
    dsimp only [kstB] at F4
    clear F3 F1 N1
    k_steps
    · dsimp only
      refine TEnd.intro (nx := nx) (by k_asm) (by k_asm) ⟨rfl, _, _, ?e, rfl, rfl, rfl, trivial⟩ rfl (fun p hp => List.mem_append_left _ hp) (fun p hp => List.mem_append_right _ hp)
      rename (_ != _) = true => hq
      simp only [cntF, difF, hq, if_true, hv]
      omega
    · dsimp only
      refine TEnd.intro (nx := nx) (by k_asm) (by k_asm) ⟨rfl, _, _, ?e2, rfl, rfl, rfl, trivial⟩ rfl (fun p hp => List.mem_append_left _ hp) (fun p hp => List.mem_append_right _ hp)
      rename (_ != _) = false => hq
      simp only [cntF, difF, hq, Bool.false_eq_true, if_false, hv]
      omega
  · intro m₁ nx h3 tk3 hJ F3 N3
    obtain ⟨rfl, v, t9, hv, hkn⟩ := hJ
    have F4 := fr_knownL hkn F3
    dsimp only [kstB] at F4
    clear F3 F1 N1
    k_steps
    exact hret _ _ _ _ (by k_asm) (by k_asm) hv
end
end
section
/-! a for over a list of the ledger, any target; the ledger may grow -/
def TurnEnd (h₀ : Heap) (L : Addr) (Jn : (Str → Option Value) → List (Addr × Obj) → Prop) (q : Addr × Obj) (s₁ s₂ : Shared) : Prop :=
  ∃ h' tk m' nx, s₂ = { s₁ with heap := h', toks := tk } ∧ Fr h₀ L h' m' ∧ News h₀ L h' (q :: nx) ∧ (∀ p ∈ nx, p.1 ≠ q.1) ∧ Jn m' nx
theorem TurnEnd.intro {h₀ : Heap} {L : Addr} {Jn : (Str → Option Value) → List (Addr × Obj) → Prop} {q : Addr × Obj} {m' : Str → Option Value} {all nx : List (Addr × Obj)} {s₁ : Shared} {h' : Heap} {tk : Nat} (F : Fr h₀ L h' m') (N : News h₀ L h' all)
    (hn : ∀ p ∈ q :: nx, p ∈ all) (ho : ∀ p ∈ nx, p.1 ≠ q.1) (hj : Jn m' nx) : TurnEnd h₀ L Jn q s₁ { s₁ with heap := h', toks := tk } := ⟨h', tk, m', nx, rfl, F, fun p hp => N p (hn p hp), ho, hj⟩
section
variable {prog : Program} {w : World} {A : Around} {E : Value → Shared → Prop} {s : Shared} {env : Env} {h₀ : Heap} {target : PySem.Expr} {body : List Stmt} {Q : Flow → Shared → Prop}
theorem turns_list {l : Addr} {vs : List Value} {nn : Nat} {m₀ : Str → Option Value} {news : List (Addr × Obj)} (J : Nat → (Str → Option Value) → List (Addr × Obj) → Prop)
    (hh : A.handled = none) (hl : (l, W.listOf vs.toArray nn) ∈ news) (F : Fr h₀ env.locals s.heap m₀) (N : News h₀ env.locals s.heap news) (hj : J 0 m₀ news) (hkeep : ∀ i m nx, J i m nx → (l, W.listOf vs.toArray nn) ∈ nx)
    (turn : ∀ (i : Nat) v m₁ nx h tk I oI, vs[i]? = some v → J i m₁ nx → (∀ p ∈ nx, p.1 ≠ I) → Fr h₀ env.locals h m₁ → News h₀ env.locals h ((I, oI) :: nx) →
      wpAny (model prog w) A (assign target env v) (fun _ s₃ => wpAny (model prog w) A (execs body env) (fun f s₄ => match f with
        | .ret v => Q (.ret v) s₄
        | .brk => Q .next s₄
        | _ => TurnEnd h₀ env.locals (J (i + 1)) (I, oI) { s with heap := h, toks := tk } s₄) E s₃) E { s with heap := h, toks := tk })
    (done : ∀ m₁ nx h tk, J vs.length m₁ nx → Fr h₀ env.locals h m₁ → News h₀ env.locals h nx → Q .next { s with heap := h, toks := tk }) :
    wpAny (model prog w) A (pyIter (.ref l)) (fun it s₂ => TurnsAt prog w A h₀ env target body Q E it s₂) E s := by
  have hol : s.heap.get? l = some (W.listOf vs.toArray nn) := (N _ hl).1
  have hls : s.heap.IsList l vs.toArray := ⟨_, hol, rfl, nn, rfl⟩
  have hne : l ≠ s.heap.objs.size := Nat.ne_of_lt (Heap.lt_size hol)
  refine wpAny_pyIter_list hls ?_
  have KW := KTurns.ofWalks (target := target) (Walks.list (prog := prog) (w := w) hh s.heap.objs.size l hne vs.toArray) (fun i v s Q E st hQ => letGo_listiter st.1 hQ)
  have hlen : vs.toArray.size = vs.length := by simp
  rw [hlen] at KW
  have hIn : h₀.get? s.heap.objs.size = none := next_is_new F
  refine ⟨_, _, _, _, _, _, _, m₀, news, (fun i m nx => J i m nx), rfl, KW, ?_, ?_, ?_, ⟨⟨_, Heap.get?_push_size _ rfl, rfl, rfl⟩, hls.at fun o e => Heap.get?_push_of_some _ e⟩, F.push _, (fun p hp => ⟨Heap.get?_push_of_some _ (N p hp).1, (N p hp).2⟩), hj, ?_, ?_⟩
  · intro hm
    rcases List.mem_cons.mp hm with e | hm
    · exact absurd F.ns.lt (e ▸ Nat.lt_irrefl _)
    · exact (N _ hl).2.1 ((List.mem_singleton.mp hm).symm)
  · intro b hb
    rw [List.mem_singleton.mp hb]
    exact hIn
  · intro p hp hI
    exact absurd (Heap.lt_size (N p hp).1) ((List.mem_singleton.mp hI) ▸ Nat.lt_irrefl _)
  · intro i v m₁ nx h₁ tk₁ own hi hP hJ hoff hown hget hfp hst F₁ N₁
    have hl₁ := hkeep _ _ _ hJ
    obtain ⟨oI, hoI, hr⟩ := id hst.1
    have hmI : (s.heap.objs.size, oI) ∈ own := hfp _ (List.mem_cons_self ..) hIn oI hoI
    have Nn : News h₀ env.locals h₁ nx := fun p hp => N₁ p (List.mem_append_right _ hp)
    have hvi : vs[i]? = some v := by simpa using hP
    refine wpAny_mono (turn i v m₁ nx h₁ tk₁ s.heap.objs.size oI hvi hJ (fun p hp e => hoff p hp (List.mem_singleton.mpr e)) F₁ (fun p hp => by
      rcases List.mem_cons.mp hp with rfl | hp
      · exact N₁ _ (List.mem_append_left _ hmI)
      · exact Nn p hp)) (fun _ s₃ h₃ => wpAny_mono h₃ (fun f s₄ h₄ => ?_) fun _ _ e => e) fun _ _ e => e
    have fin : TurnEnd h₀ env.locals (J (i + 1)) (s.heap.objs.size, oI) { s with heap := h₁, toks := tk₁ } s₄ → LoopStepU h₀ env.locals [s.heap.objs.size] own (J (i + 1)) { s with heap := h₁, toks := tk₁ } .next s₄ := by
      rintro ⟨h', tk, m', nx', e, F', N', ho, hJ'⟩
      refine ⟨rfl, h', tk, m', nx', e, F', fun p hp => ?_, fun p hp hI => ho p hp (List.mem_singleton.mp hI), hJ'⟩
      rcases List.mem_append.mp hp with hp | hp
      · have hg := hget p hp
        rcases List.mem_cons.mp (hown p hp) with e1 | e1
        · have hq : p = (s.heap.objs.size, oI) := by
            rw [e1, hoI] at hg
            exact Prod.ext e1 (Option.some.inj hg).symm
          rw [hq]; exact N' _ (List.mem_cons_self ..)
        · have e2 : p.1 = l := List.mem_singleton.mp e1
          have hq : p = (l, W.listOf vs.toArray nn) := by
            rw [e2, (Nn _ hl₁).1] at hg
            exact Prod.ext e2 (Option.some.inj hg).symm
          rw [hq]; exact N' _ (List.mem_cons_of_mem _ (hkeep _ _ _ hJ'))
      · exact N' p (List.mem_cons_of_mem _ hp)
    cases f with
    | ret v => exact .ret h₄
    | brk => exact .brk h₄
    | next => exact .next (fin h₄)
    | cont => exact .cont (fin h₄)
  · intro h' tk m' nx' F' N' _ hJ
    exact done m' nx' h' tk hJ F' N'
end
end
section
local macro_rules | `(tactic| walk_at "binaryOp RShift int int") => `(tactic| (k_here; (with_reducible refine shr1 ?_)))
local macro_rules | `(tactic| walk_at "binaryOp Mod int int") => `(tactic| (k_here; (with_reducible refine mod_pos ?k1 ?_); (case k1 => decide)))
local macro_rules | `(tactic| walk_at "binaryOp FloorDiv int int") => `(tactic| (k_here; (with_reducible refine fdiv_pos ?k1 ?k2 ?_); (case k1 => decide); (case k2 => decide +kernel)))
local macro_rules | `(tactic| k_all) => `(tactic| with_reducible assumption)
local macro_rules | `(tactic| l_idx) => `(tactic| omega)
local macro_rules | `(tactic| k_upd) => `(tactic| first | (refine' Pick.head ?a; (case a => k_all)) | (refine' Pick.tail ?a ?b; (case a => k_ne); (case b => k_upd)))
local macro_rules | `(tactic| walk_at "call ref") => `(tactic| (k_here; refine wpAny_call ?_; k_dflt (refine' code_def ?k1 ?k2 ?k3 ?k4 ?k5 ?kA ?kF ?kK ?k6 ?k7 ?k8 ?k9 ?kB ?_ ?c2 ?c3 ?c4 ?c5; (case kA => exact rfl); (case kF => exact rfl); (case kK => first | exact rfl | assumption); (case k1 => k_asm); (case k2 => k_asm); (case k3 => k_asm); (case k4 => k_asm); (case k5 => k_asm); (case k6 => k_is); (case k7 => k_is); (case k8 => ktr_room); (case k9 => exact BindsTo.of_eq rfl); (case c5 => decide); (case kB => exact locs rfl); (case c2 => exact rfl); (case c3 => exact rfl); (case c4 => exact rfl); k_whole; intro g' L' h' FG' F' N' B' X' T'; (try dsimp only); (try k_lift B'); (try k_fold))))
/-! _law_choices -/
def chF (ps : List Int) : List Int := ps.foldl (fun c p => c ++ c.map (fun k => k + p)) [0]
theorem chF_snoc (ps : List Int) (p : Int) : chF (ps ++ [p]) = chF ps ++ (chF ps).map (fun k => k + p) := by
  simp [chF]
theorem chF_take {ps : List Int} {i : Nat} {k : Int} (h : ps[i]? = some k) : chF (ps.take (i + 1)) = chF (ps.take i) ++ (chF (ps.take i)).map (fun q => q + k) := by
  rw [List.take_add_one, h]
  exact chF_snoc _ _
theorem chF_len : ∀ (n : Nat) (ps : List Int), ps.length = n → (chF ps).length = 2 ^ n
  | 0, ps, h => by
    have : ps = [] := List.eq_nil_of_length_eq_zero h
    subst this; rfl
  | n + 1, ps, h => by
    have hne : ps ≠ [] := by intro e; subst e; simp at h
    rw [← List.dropLast_concat_getLast hne, chF_snoc]
    have := chF_len n ps.dropLast (by simp [h])
    simp only [List.length_append, List.length_map, this, Nat.pow_succ]
    omega
theorem chF_le {ps : List Int} (h : ps.length ≤ 4) : (chF ps).length ≤ 16 := by
  rw [chF_len _ ps rfl]
  exact Nat.le_trans (Nat.pow_le_pow_right (by decide) h) (by decide)
theorem re_ch {p1 p2 p3 p4 p5 : Addr × Obj} {r : List (Addr × Obj)} : ∀ p ∈ p3 :: p1 :: p5 :: r, p ∈ p1 :: p2 :: p3 :: p4 :: p5 :: r := fun p hp => by
  simp only [List.mem_cons] at hp ⊢
  rcases hp with h | h | h | h <;> simp [h]
section
variable {w : World} {mean : ExcName → Option Value} {mg mb : Str → Option Value} {dp un : Nat} {gd : Option (List Code)} {cn : Str} {cs : Scope} {a : Addr} {ccd : Value} {cl : List (Str × Addr)} {outer : List Env} {A₀ : Around} {base h₀ : Heap} {L : Addr} {m : Str → Option Value} {s : Shared} {Q E : Value → Shared → Prop}
local macro_rules | `(tactic| walk_at "exec For Name Name cons nil") => `(tactic| (k_here; (rename Fr _ _ _ _ => lF'); (with_unfolding_all refine' For_turns lF' ?_; k_whole)))
local macro_rules | `(tactic| walk_at "pyIter ref") => `(tactic| k_extra "pyIter ref")
local macro_rules | `(tactic| walk_at "eval ListComp") => `(tactic| (k_here; k_dflt (refine LCg.ListComp_U (F₀ := by k_asm) (by with_unfolding_all rfl) (by decide) (by rfl) (by decide) (by rfl) ?_)))
local macro_rules | `(tactic| walk_at "CompSrc") => `(tactic| k_extra "CompSrc")
local macro_rules | `(tactic| walk_at "call builtin:sorted") => `(tactic| k_extra "call builtin:sorted")

set_option maxHeartbeats 1000000 in
theorem choices_tells {lp : Addr} {vs : List Value} {n : Nat} {ps : List Int} {news : List (Addr × Obj)}
    (B : Below A₀ base outer h₀) (F : Fr h₀ L s.heap m) (X : (hd.heap_39 w.params).In h₀) (N : News h₀ L s.heap news) (T : Top hd.view_39 lz mean mg mb h₀) (hk : cs.kind = .function)
    (hm : (lp, listOf vs.toArray n) ∈ news) (hi : IntsAre vs ps) (h4 : ps.length ≤ 4)
    (hdp : dp + 2 < recursionLimit) (hun : un + 16 < cLine)
    (hret : ∀ h' tk' D vs' c ys, Fr h₀ L h' m → News h₀ L h' ((D, listOf vs'.toArray c) :: news) → (∀ q ∈ news, q.1 < D) → IntsAre vs' ys → ys.Perm (chF ps) → ys.Pairwise (· ≤ ·) → Q (.ref D) { s with heap := h', toks := tk' }) :
    wpAny (model prg w) (ktrTop dp un gd cn cs L a ccd cl outer) (call (.ref 135) [.ref lp]) Q E s := by
  have hvl := hi.length
  revert X; unfold prg; w_top off; k_fill; intro X
  refine wpAny_call ?_
  k_dflt (refine' code_defC ?k1 ?k2 ?k3 ?k4 ?k5 ?kA ?kF ?kK ?k6 ?k7 ?k8 ?k9 ?kB ?kD ?_ ?c2 ?c3 ?c4; (case kA => exact rfl); (case kF => exact rfl); (case kK => assumption); (case k1 => k_asm); (case k2 => k_asm); (case k3 => k_asm); (case k4 => k_asm); (case k5 => k_asm); (case k6 => k_is); (case k7 => k_is); (case k8 => ktr_room); (case k9 => exact BindsTo.of_eq rfl); (case kB => exact rfl); (case kD => decide +kernel); (case c2 => exact rfl); (case c3 => exact rfl); (case c4 => exact rfl); k_whole; intro g' L' h' tk' cells' FG' F' N' Y' B' X' T' l1; k_cells Y'; (try simp only [List.cons_append, List.nil_append] at N'); (try dsimp only); (try k_lift B'); (try k_fold))
  k_with_none
  k_with "pyIter ref" => refine held ?_
  k_steps
  refine Held.out ?_
  unfold Held
  rename_i oc dc lc _ l2 _ F1 N1
  have n2 : ∀ q ∈ news, q.1 < lc := ktn_ltOf l2.2
  refine turns_list (fun i m' nx => ∃ oc vc lc cv cnn xs, nx = (lc, W.listOf cv.toArray cnn) :: (L' + 1, oc) :: news ∧ oc.data = Data.cell vc ∧ IntsAre cv xs ∧ xs = chF (ps.take i) ∧ (∀ q ∈ news, q.1 < lc) ∧ @LT.lt Nat _ (L' + 1) lc ∧ KnownAll m' [(Str.ofString "choices", .ref lc)]) rfl (mem2 hm) F1 N1 ⟨oc, _, lc, _, _, [0], rfl, dc, .cons _ _ .nil, rfl, n2, l2.1, rfl, trivial⟩ ?hkeep ?turn ?done
  case hkeep =>
    rintro i m' nx ⟨_, _, _, _, _, _, rfl, _⟩
    exact mem2 hm
  case turn =>
    intro i v m₁ nx h3 tk3 I oI hv hJ hoff F3 N3
    obtain ⟨oc2, vc, lc2, cv, cnn, xs, rfl, hdc, hcv, hxs, n3, o3, hkn⟩ := hJ
    obtain ⟨k, t, rfl, hki⟩ := IntsAre.at hi i v hv
    have F4 := fr_knownL hkn F3
    dsimp only [kstB] at F4
    have hIc : @Ne Nat lc2 I := hoff _ (.head _)
    have hIo : @Ne Nat (L' + 1) I := hoff _ (.tail _ (.head _))
    have hIn : ∀ p ∈ news, p.1 ≠ I := fun p hp => hoff p (mem2 hp)
    have hxl : xs.length ≤ 16 := by rw [hxs]; exact chF_le (by rw [List.length_take]; omega)
    have hcn : ∀ p ∈ news, p.1 ≠ L' + 1 := fun p hp => Nat.ne_of_lt (Nat.lt_succ_of_lt (l1 p hp))
    have hcl : ∀ p ∈ news, p.1 ≠ lc2 := fun p hp => Nat.ne_of_lt (n3 p hp)
    clear F3 F1 N1 dc n2 l2
    k_with_none
    k_with "CompSrc" => (refine LCg.CompSrc.ledger (by rfl) (by k_asm) (by k_asm) (by k_mem) (by kcf_size) ?_; intro g'; (refine' kcf_list _ (by first | assumption | l_ints) (fun k' t' I' oI' C' oC' D' m' ys' h' tk' E' hk' hC' hx' F' N' off' ne' hMark' => ?_) ?_); (all_goals (try (simp only [LCg.Off3, and_true] at off'))); kcf_last)
    k_steps
    dsimp only
    rename_i D1 _ _ _ D2 _ _ _ l8 _ _ _
    refine TurnEnd.intro (nx := (D2, _) :: (L' + 1, _) :: news) (by k_asm) (by k_asm) re_ch ?ho ⟨_, _, D2, _, _, _, rfl, by assumption, by assumption, ?e, ktn_ltOf l8.2.2.2.2, l8.2.2.2.1, rfl, trivial⟩
    case ho =>
      intro p hp
      rcases List.mem_cons.mp hp with rfl | hp
      · exact Nat.ne_of_gt l8.2.1
      · rcases List.mem_cons.mp hp with rfl | hp
        · exact hIo
        · exact hIn p hp
    case e => rw [chF_take hki, hxs]
  case done =>
    intro m₁ nx h3 tk3 hJ F3 N3
    obtain ⟨oc2, vc, lc2, cv, cnn, xs, rfl, hdc, hcv, hxs, n3, o3, hkn⟩ := hJ
    have F4 := fr_knownL hkn F3
    dsimp only [kstB] at F4
    clear F3 F1 N1 dc n2 l2
    k_with_none
    k_with "call builtin:sorted" => refine held ?_
    k_steps
    refine Held.out ?_
    unfold Held
    have hxs2 : xs = chF ps := by rw [hxs, List.take_of_length_le (by omega)]
    have hxl : xs.length ≤ 16 := by rw [hxs2]; exact chF_le h4
    have hcvl := hcv.length
    refine kso_sorted (by k_asm) (by k_asm) (kso_isList (by k_asm) (List.mem_cons_self ..) (by simp)) hcv (by omega) ?_
    intro D9 vs9 ns9 c9 h9 F9 N9 l9 hI9 hyl9 hp9 ho9 hq9
    k_steps
    exact hret _ _ _ _ _ _ (by k_asm) (cb_drop (by assumption) (List.forall_mem_cons.mpr ⟨by k_mem, fun p hp => by simp [hp]⟩)) (fun q hq => l9 q (mem2 hq)) hI9 (hxs2 ▸ hp9) ho9
end
end
section
/-! a list comprehension whose own name is a cell; by an invariant over what is made and the ledger -/
open PyProof.Rows.LCg in
section
variable {prog : Program} {w : World} {A : Around} {E : Value → Shared → Prop} {s : Shared} {h₀ : Heap} {L : Addr} {m : Str → Option Value} {env : Env}
def cellNone : Obj := { cls := .type "cell", data := .cell none }
theorem newEnv_cell {scope : Scope} {globals : Addr} {cl : List (Str × Addr)} {qual : Str} {x : Str} {Q : Env → Shared → Prop}
    (hcf : ∀ n, cellsFrom n scope.names cl = (x, n) :: cl) (hpc : ∀ h, pushCells h scope.names = h.push cellNone)
    (hQ : Q (newEnv scope s.heap.objs.size globals ((x, s.heap.objs.size + 1) :: cl) qual none .none (some env) builtinsNs) { s with heap := (s.heap.push { cls := .type "dict", data := .dict #[] }).push cellNone }) :
    wpAny (model prog w) A (newFunctionEnv scope globals cl [] qual none .none (some env)) Q E s := by
  simp only [newFunctionEnv, Option.isSome_some, if_true]
  refine wpAny_bind (wpAny_alloc ?_)
  refine wpAny_bind (wpAny_layCells _ (fun name kind cells => by cases hkc : kind == NameKind.cell <;> simp [hkc]) _ _ _ _ ?_)
  rw [hcf, hpc]
  rw [show ({ s with heap := s.heap.push { cls := .type "dict", data := .dict #[] } } : Shared).heap.objs.size = s.heap.objs.size + 1 from Heap.size_push ..]
  refine wpAny_bind ?_
  rw [List.forIn_nil]
  exact wpAny_pure (wpAny_pure hQ)
def Off4 (I C D K : Addr) (nx : List (Addr × Obj)) : Prop := ∀ p ∈ nx, p.1 ≠ I ∧ p.1 ≠ C ∧ p.1 ≠ D ∧ p.1 ≠ K
def CEnd (h₀ : Heap) (L : Addr) (m : Str → Option Value) (s₁ : Shared) (I : Addr) (oI : Obj) (C : Addr) (oC : Obj) (D : Addr) (oD : Obj) (K : Addr) (oK : Obj) (rest : Value → List (Addr × Obj) → Prop) (y : Value) (s₂ : Shared) : Prop :=
  ∃ h' tk nx, s₂ = { s₁ with heap := h', toks := tk } ∧ Fr h₀ L h' m ∧ News h₀ L h' ((I, oI) :: (C, oC) :: (D, oD) :: (K, oK) :: nx) ∧ Off4 I C D K nx ∧ rest y nx
theorem CEnd.intro {I C D K : Addr} {s₁ : Shared} {oI oC oD oK : Obj} {rest : Value → List (Addr × Obj) → Prop} {y : Value} {h' : Heap} {tk : Nat} {all : List (Addr × Obj)}
    (F : Fr h₀ L h' m) (N : News h₀ L h' all) (nx : List (Addr × Obj)) (sub : ∀ p ∈ (I, oI) :: (C, oC) :: (D, oD) :: (K, oK) :: nx, p ∈ all) (off : Off4 I C D K nx) (r : rest y nx) :
    CEnd h₀ L m s₁ I oI C oC D oD K oK rest y { s₁ with heap := h', toks := tk } := ⟨h', tk, nx, rfl, F, fun p hp => N p (sub p hp), off, r⟩
def CellSrc (prog : Program) (w : World) (A : Around) (h₀ : Heap) (L : Addr) (m : Str → Option Value) (E : Value → Shared → Prop) (env : Env) (elt : PySem.Expr) (x : Str) (px : Pos) (iter : PySem.Expr) (pos : Pos) (scope : Scope) (cl : List (Str × Addr)) (Q : Value → Shared → Prop) (xv : Value) (s₁ : Shared) : Prop :=
  wpAny (model prog w) A (pyIter xv) (fun it s₂ => wpAny (model prog w) A (newList []) (fun acc s₃ => wpAny (model prog w) A (newFunctionEnv scope env.globals cl [] env.qual none .none (some env)) (fun cenv s₄ =>
    codeAny (model prog w) A (.compStart (.ListComp elt [⟨.Name x px, iter, [], 0⟩] scope pos) 0 it acc { cenv with scope := relabel scope env }) (compPost (model prog w) A E none Q acc cenv.locals) s₄) E s₃) E s₂) E s₁
theorem block_C {elt iter : PySem.Expr} {x : Str} {px : Pos} {scope : Scope} {cl : List (Str × Addr)} {pos : Pos} {s₂ : Shared} {I : Addr} {fp : List Addr} {n : Nat} {P : Nat → Value → Prop} {St : Nat → Heap → Prop} {news : List (Addr × Obj)}
    {RR : Value → Addr → Result → Shared → Prop} (J : Nat → List Value → List (Addr × Obj) → Prop)
    (W : Walks prog w A I fp [I] n P St) (hsz : n ≤ sizeLine) (hIo : ∀ i h, St i h → ∃ o, h.get? I = some o)
    (hSt : ∀ i h h' o j ys nw, St i h → h.get? I = some o → h'.get? I = some o → (∀ b o, h₀.get? b = some o → h'.get? b = some o) → News h₀ L h' nw → J j ys nw → St i h')
    (hcf : ∀ n, cellsFrom n scope.names cl = (x, n) :: cl) (hpc : ∀ h, pushCells h scope.names = h.push cellNone) (hkind : scope.kind = .function) (hx : (relabel scope env).names.lookup x = some .cell) (hst : St 0 s₂.heap) (hfp : ∀ b ∈ fp, b < s₂.heap.objs.size)
    (F : Fr h₀ L s₂.heap m) (N : News h₀ L s₂.heap news) (hIL : L ≠ I) (hI₀ : h₀.get? I = none) (off : ∀ p ∈ news, p.1 ≠ I) (hJ : J 0 [] news)
    (turn : ∀ i v ys nx oI C oC D K oK h tk (E' : Value → Shared → Prop), P i v → J i ys nx → oK.data = .cell (some v) → Fr h₀ L h m → News h₀ L h ((I, oI) :: (C, oC) :: (D, lst ys) :: (K, oK) :: nx) → Off4 I C D K nx →
      (@Ne Nat I C ∧ @Ne Nat I D ∧ @Ne Nat I K ∧ @Ne Nat C D ∧ @Ne Nat C K ∧ @Ne Nat D K) →
      wpAny (model prog w) A (eval elt (compEnvC scope ((x, K) :: cl) C env)) (CEnd h₀ L m { s₂ with heap := h, toks := tk } I oI C oC D (lst ys) K oK (fun y nx' => J (i + 1) (ys ++ [y]) nx')) E' { s₂ with heap := h, toks := tk })
    (hRR : ∀ D C h tk m' ys nx, Fr h₀ L h m → News h₀ L h ((D, lst ys) :: nx) → (∀ p ∈ nx, p.1 ≠ D) → h.Ns C m' → h₀.get? C = none → C ≠ L → C ≠ D → (∀ p ∈ nx, p.1 ≠ C) → J n ys nx → RR (.ref D) C (.ok .next) { s₂ with heap := h, toks := tk }) :
    wpAny (model prog w) A (newList []) (fun acc s₃ => wpAny (model prog w) A (newFunctionEnv scope env.globals cl [] env.qual none .none (some env)) (fun cenv s₄ =>
      codeAny (model prog w) A (.compStart (.ListComp elt [⟨.Name x px, iter, [], 0⟩] scope pos) 0 (.ref I) acc { cenv with scope := relabel scope env }) (RR acc cenv.locals) s₄) E s₃) E s₂ := by
  refine wpAny_newObj_type (newEnv_cell hcf hpc ?_)
  dsimp only
  generalize hD : s₂.heap.objs.size = D
  generalize hH2 : s₂.heap.push { cls := .type "list", dict := none, data := .seq ([] : List Value).toArray } = H2
  have hH2s : H2.objs.size = D + 1 := by rw [← hH2, Heap.size_push, hD]
  have hCs : (H2.push { cls := .type "dict", data := .dict #[] }).objs.size = D + 1 + 1 := by rw [Heap.size_push, hH2s]
  generalize hh1 : (H2.push { cls := .type "dict", data := .dict #[] }).push cellNone = h₁
  have old2 : ∀ b o, H2.get? b = some o → h₁.get? b = some o := fun b o e => by rw [← hh1]; exact Heap.get?_push_of_some _ (Heap.get?_push_of_some _ e)
  have old : ∀ b o, s₂.heap.get? b = some o → h₁.get? b = some o := fun b o e => old2 b o (by rw [← hH2]; exact Heap.get?_push_of_some _ e)
  have hacc : h₁.get? D = some (lst []) := old2 _ _ (by rw [← hH2, ← hD]; exact Heap.get?_push_size _ rfl)
  have hnsC : h₁.Ns (D + 1) (fun _ => none) := by
    have q := Heap.Ns.new H2 (.type "dict")
    rw [hH2s] at q
    rw [← hh1]
    exact q.push _
  have hK : h₁.get? (D + 1 + 1) = some cellNone := by rw [← hh1, ← hCs]; exact Heap.get?_push_size _ rfl
  rw [hH2s]
  have hst₁ : St 0 h₁ := W.frame _ _ _ hst fun b _ o e => old b o e
  have fresh₀ : ∀ a, D ≤ a → h₀.get? a = none := fun a ha => by
    cases e : h₀.get? a with
    | none => rfl
    | some o' => exact absurd (Heap.lt_size (F.keep a o' e)) (by rw [hD]; exact Nat.not_lt.mpr ha)
  have hD₀ : h₀.get? D = none := fresh₀ _ (Nat.le_refl _)
  have hC₀ : h₀.get? (D + 1) = none := fresh₀ _ (Nat.le_succ _)
  have hK₀ : h₀.get? (D + 1 + 1) = none := fresh₀ _ (Nat.le_trans (Nat.le_succ _) (Nat.le_succ _))
  have hLlt : L < D := hD ▸ F.ns.lt
  have hDL : D ≠ L := Nat.ne_of_gt hLlt
  have hCL : D + 1 ≠ L := Nat.ne_of_gt (Nat.lt_succ_of_lt hLlt)
  have hKL : D + 1 + 1 ≠ L := Nat.ne_of_gt (Nat.lt_succ_of_lt (Nat.lt_succ_of_lt hLlt))
  have hIf : I ∈ fp := W.sub I (List.mem_singleton.mpr rfl)
  have hIlt : I < D := hD ▸ hfp I hIf
  have hID : I ≠ D := Nat.ne_of_lt hIlt
  have hIC : I ≠ D + 1 := Nat.ne_of_lt (Nat.lt_succ_of_lt hIlt)
  have hIK : I ≠ D + 1 + 1 := Nat.ne_of_lt (Nat.lt_succ_of_lt (Nat.lt_succ_of_lt hIlt))
  have hDf : D ∉ fp := fun hm => Nat.lt_irrefl _ (hD ▸ hfp _ hm)
  have hCf : D + 1 ∉ fp := fun hm => absurd (hD ▸ hfp _ hm) (Nat.not_lt.mpr (Nat.le_succ _))
  have hKf : D + 1 + 1 ∉ fp := fun hm => absurd (hD ▸ hfp _ hm) (Nat.not_lt.mpr (Nat.le_trans (Nat.le_succ _) (Nat.le_succ _)))
  have off₀ : Off4 I (D + 1) D (D + 1 + 1) news := fun p hp => by
    have hlt : p.1 < D := hD ▸ Heap.lt_size (N p hp).1
    exact ⟨off p hp, Nat.ne_of_lt (Nat.lt_succ_of_lt hlt), Nat.ne_of_lt hlt, Nat.ne_of_lt (Nat.lt_succ_of_lt (Nat.lt_succ_of_lt hlt))⟩
  have nCD : D + 1 ≠ D := Nat.succ_ne_self _
  have nKD : D + 1 + 1 ≠ D := fun q => by have : (D : Nat) + 1 + 1 = D := q; omega
  have nKC : D + 1 + 1 ≠ D + 1 := Nat.succ_ne_self _
  have loop : ∀ s₃ : Shared, s₃ = { s₂ with heap := h₁ } →
      codeAny (model prog w) A (.compLoop (.ListComp elt [⟨.Name x px, iter, [], 0⟩] scope pos) 0 (.ref I) (.ref D) (compEnvC scope ((x, D + 1 + 1) :: cl) (D + 1) env)) (RR (.ref D) (D + 1)) s₃ := by
    rintro s₃ rfl
    refine codeAny_compLoop_tests
      (fun k s' => ∃ h' tk i ys m' nx oK vK, s' = { s₂ with heap := h', toks := tk } ∧ i ≤ n ∧ k = n + 1 - i ∧ ys.length = i ∧ St i h' ∧ Fr h₀ L h' m ∧ h'.Ns (D + 1) m' ∧ News h₀ L h' ((D, lst ys) :: (D + 1 + 1, oK) :: nx) ∧ oK.data = .cell vK ∧
        Off4 I (D + 1) D (D + 1 + 1) nx ∧ J i ys nx) ?_ (n + 1)
      ⟨h₁, _, 0, [], _, news, cellNone, none, rfl, Nat.zero_le _, rfl, rfl, hst₁, F.keeps old, hnsC, fun p hp => ?_, rfl, off₀, hJ⟩
    · rintro k s' ⟨h', tk, i, ys, m', nx, oK, vK, rfl, hi, rfl, hyl, hst', F', hn', N', hoK, off', hJ'⟩
      by_cases hlt : i < n
      · refine W.item i _ _ _ hlt hst' fun v h₂ tk₂ hPv hst₂ hk₂ => ?_
        have hcell : h₂.IsCell (D + 1 + 1) vK := ⟨oK, hk₂ _ _ (by simpa using Ne.symm hIK) (N' (D + 1 + 1, oK) (.tail _ (.head _))).1, hoK⟩
        refine wpAny_assign_Name (wpAny_storeName_cell (c := D + 1 + 1) (by simpa [compEnvC, relabel] using hkind) hx (by simp [compEnvC]) hcell (fun h₃ hc₃ hs₃ => ?_))
        obtain ⟨oK₃, heK, hoK₃⟩ := hc₃
        refine wpAny_tests_nil ?_
        simp only [if_true]
        have hst₃ : St (i + 1) h₃ := W.frame _ _ _ hst₂ fun b hb o e => hs₃.extBut b o (fun q => hKf (by have q' : b = D + 1 + 1 := q; rw [← q']; exact hb)) e
        obtain ⟨oI, heI⟩ := hIo _ _ hst₃
        have hn₂ : h₂.Ns (D + 1) m' := hn'.at' fun o e => hk₂ _ o (by simpa using Ne.symm hIC) e
        have hn₃ : h₃.Ns (D + 1) m' := hn₂.sameBut hs₃ (Ne.symm nKC)
        obtain ⟨oC, heC, hoC⟩ := ns_obj hn₃
        have F₃ : Fr h₀ L h₃ m := (fr_but F' hk₂ hIL hI₀).change hs₃ hKL hK₀
        have N₂ : News h₀ L h₂ ((D, lst ys) :: nx) := fun p hp => by
          rcases List.mem_cons.mp hp with rfl | hp
          · have z := N' (D, lst ys) (.head _); exact ⟨hk₂ _ _ (by simpa using Ne.symm hID) z.1, z.2⟩
          · have z := N' p (.tail _ (.tail _ hp)); exact ⟨hk₂ _ _ (by simpa using (off' p hp).1) z.1, z.2⟩
        have N₃ : News h₀ L h₃ ((I, oI) :: (D + 1, oC) :: (D, lst ys) :: (D + 1 + 1, oK₃) :: nx) := fun p hp => by
          rcases List.mem_cons.mp hp with rfl | hp
          · exact ⟨heI, Ne.symm hIL, hI₀⟩
          · rcases List.mem_cons.mp hp with rfl | hp
            · exact ⟨heC, hCL, hC₀⟩
            · rcases List.mem_cons.mp hp with rfl | hp
              · have z := N₂ (D, lst ys) (.head _); exact ⟨hs₃.extBut _ _ (Ne.symm nKD) z.1, z.2⟩
              · rcases List.mem_cons.mp hp with rfl | hp
                · exact ⟨heK, hKL, hK₀⟩
                · have z := N₂ p (.tail _ hp); exact ⟨hs₃.extBut _ _ (off' p hp).2.2.2 z.1, z.2⟩
        refine wpAny_mono (turn i v ys nx oI (D + 1) oC D (D + 1 + 1) oK₃ h₃ _ _ hPv hJ' hoK₃ F₃ N₃ off' ⟨hIC, hID, hIK, nCD, Ne.symm nKC, Ne.symm nKD⟩) (fun y s₄ h₄ => ?_) fun _ _ e => e
        obtain ⟨h₄, tk₄, nx₄, rfl, F₄, N₄, off₄, hJ₄⟩ := h₄
        have zI := (N₄ (I, oI) (.head _)).1
        have zC := (N₄ (D + 1, oC) (.tail _ (.head _))).1
        have zD := (N₄ (D, lst ys) (.tail _ (.tail _ (.head _)))).1
        have zK := (N₄ (D + 1 + 1, oK₃) (.tail _ (.tail _ (.tail _ (.head _))))).1
        have N₄' : News h₀ L h₄ nx₄ := fun p hp => N₄ p (.tail _ (.tail _ (.tail _ (.tail _ hp))))
        have hst₄ : St (i + 1) h₄ := hSt _ _ _ _ _ _ _ hst₃ heI zI F₄.keep N₄' hJ₄
        refine append_at (hsz := by show ys.toArray.size ≤ sizeLine; rw [List.size_toArray, hyl]; exact Nat.le_trans hi hsz) zD fun h₅ hs₅ hD₅ => ?_
        refine ⟨n + 1 - (i + 1), by omega, h₅, tk₄, i + 1, ys ++ [y], _, nx₄, oK₃, some v, rfl, hlt, rfl, by rw [List.length_append, List.length_singleton, hyl], W.frame _ _ _ hst₄ fun b hb o e => hs₅.extBut b o (fun q => hDf (q ▸ hb)) e, F₄.change hs₅ hDL hD₀,
          (hoC.ns zC).sameBut hs₅ (Ne.symm (Ne.symm nCD)), fun p hp => ?_, hoK₃, off₄, hJ₄⟩
        rcases List.mem_cons.mp hp with rfl | hp
        · exact ⟨hD₅.trans (congrArg some (lst_snoc ys y)), hDL, hD₀⟩
        · rcases List.mem_cons.mp hp with rfl | hp
          · exact ⟨hs₅.extBut _ _ nKD zK, hKL, hK₀⟩
          · exact ⟨hs₅.extBut _ _ (off₄ p hp).2.2.1 (N₄' p hp).1, (N₄' p hp).2⟩
      · obtain rfl : i = n := Nat.le_antisymm hi (Nat.not_lt.mp hlt)
        refine W.done _ _ _ hst' fun h₂ tk₂ hk₂ => ?_
        refine hRR _ _ h₂ tk₂ _ ys nx (fr_but F' hk₂ hIL hI₀) (fun p hp => ?_) (fun p hp => (off' p hp).2.2.1) (hn'.at' fun o e => hk₂ _ o (by simpa using Ne.symm hIC) e) hC₀ hCL nCD (fun p hp => (off' p hp).2.1) hJ'
        rcases List.mem_cons.mp hp with rfl | hp
        · have z := N' (D, lst ys) (.head _); exact ⟨hk₂ _ _ (by simpa using Ne.symm hID) z.1, z.2⟩
        · have z := N' p (.tail _ (.tail _ hp)); exact ⟨hk₂ _ _ (by simpa using (off' p hp).1) z.1, z.2⟩
    · rcases List.mem_cons.mp hp with rfl | hp
      · exact ⟨hacc, hDL, hD₀⟩
      · rcases List.mem_cons.mp hp with rfl | hp
        · exact ⟨hK, hKL, hK₀⟩
        · exact ⟨old _ _ (N p hp).1, (N p hp).2⟩
  exact codeAny_compStart_list (loop _ rfl) (W.self 0 _ _ _ hst₁ (loop _ rfl))
end
end
section
open PyProof.Rows.LCg in
section
variable {prog : Program} {w : World} {A : Around} {E : Value → Shared → Prop} {s : Shared} {h₀ : Heap} {L : Addr} {m : Str → Option Value} {env : Env}
theorem ListComp_C {elt iter : PySem.Expr} {x : Str} {px : Pos} {scope : Scope} {cl : List (Str × Addr)} {pos : Pos} {Q : Value → Shared → Prop} (_F₀ : Fr h₀ L s.heap m)
    (hclos : closureFor scope env = pure cl) (hkind : scope.kind = .function) (hnames : ∀ y ∈ scope.names, y.2 = .local → scope.names.lookup y.1 = some .local)
    (h : wpAny (model prog w) A (eval iter env) (CellSrc prog w A h₀ L m E env elt x px iter pos scope cl Q) E s)
    (hs : ∀ x, foldedSetIterable iter env x = pure x := by intro _; rfl) :
    wpAny (model prog w) A (eval (.ListComp elt [⟨.Name x px, iter, [], 0⟩] scope pos) env) Q E s := by
  rw [eval_ListComp]
  exact wpAny_comprehension_free (use := none) rfl hs hclos hkind hnames h
theorem CellSrc.list {elt iter : PySem.Expr} {x : Str} {px : Pos} {scope : Scope} {cl : List (Str × Addr)} {pos : Pos} {Q : Value → Shared → Prop} {s₁ : Shared} {l : Addr} {vs : List Value} {nn : Nat} {news : List (Addr × Obj)} (J : Nat → List Value → List (Addr × Obj) → Prop)
    (hh : A.handled = none) (hcf : ∀ n, cellsFrom n scope.names cl = (x, n) :: cl) (hpc : ∀ h, pushCells h scope.names = h.push cellNone) (hkind : scope.kind = .function) (hx : (relabel scope env).names.lookup x = some .cell)
    (F : Fr h₀ L s₁.heap m) (N : News h₀ L s₁.heap news) (hl : (l, W.listOf vs.toArray nn) ∈ news) (hsz : vs.length ≤ sizeLine) (hJ : J 0 [] news) (hkeep : ∀ i ys nx, J i ys nx → (l, W.listOf vs.toArray nn) ∈ nx)
    (turn : ∀ i v ys nx I oI C oC D K oK g h tk (E' : Value → Shared → Prop), vs[i]? = some v → J i ys nx → oK.data = .cell (some v) → Fr h₀ L h m → News h₀ L h ((I, oI) :: (C, oC) :: (D, lst ys) :: (K, oK) :: nx) → Off4 I C D K nx →
      (@Ne Nat I C ∧ @Ne Nat I D ∧ @Ne Nat I K ∧ @Ne Nat C D ∧ @Ne Nat C K ∧ @Ne Nat D K) →
      wpAny (model prog w) A (eval elt (compEnvC scope ((x, K) :: cl) C env)) (CEnd h₀ L m { s₁ with heap := h, toks := tk } I oI C oC D (lst ys) K oK (fun y nx' => J (i + 1) (ys ++ [y]) nx')) E' { ({ s₁ with heap := g } : Shared) with heap := h, toks := tk })
    (done : ∀ D ys nx h tk, J vs.length ys nx → Fr h₀ L h m → News h₀ L h ((D, lst ys) :: nx) → (∀ p ∈ nx, p.1 ≠ D) → Q (.ref D) { s₁ with heap := h, toks := tk }) :
    CellSrc prog w A h₀ L m E env elt x px iter pos scope cl Q (.ref l) s₁ := by
  have hls : s₁.heap.IsList l vs.toArray := ⟨_, (N _ hl).1, rfl, nn, rfl⟩
  have hlt : l < s₁.heap.objs.size := Heap.lt_size (N _ hl).1
  have hsize : vs.toArray.size = vs.length := by simp
  refine wpAny_pyIter_list hls ?_
  have up : ∀ b o, s₁.heap.get? b = some o → (s₁.heap.push { cls := .type "list_iterator", data := .fields #[.ref l, .int 0 0] }).get? b = some o := fun b o e => Heap.get?_push_of_some _ e
  have KW := Walks.list (prog := prog) (w := w) hh s₁.heap.objs.size l (Nat.ne_of_lt hlt) vs.toArray
  rw [hsize] at KW
  refine block_C J KW hsz (fun i h st => by obtain ⟨o, e, _⟩ := st.1; exact ⟨o, e⟩) ?_ hcf hpc hkind hx ⟨⟨_, Heap.get?_push_size _ rfl, rfl, rfl⟩, hls.push _⟩ (fun b hb => ?_)
    (F.keeps up) (N.grown up) (Nat.ne_of_lt F.ns.lt) (next_is_new F) (fun p hp => Nat.ne_of_lt (Heap.lt_size (N p hp).1)) hJ ?_ ?_
  · intro i h h' o j ys nw st e e' k Nw Jw
    refine ⟨?_, ⟨_, (Nw _ (hkeep _ _ _ Jw)).1, rfl, nn, rfl⟩⟩
    obtain ⟨o', q, r⟩ := st.1
    rw [e] at q; cases q
    exact ⟨o, e', r⟩
  · show b < (s₁.heap.push _).objs.size
    rw [Heap.size_push]
    rcases List.mem_cons.mp hb with rfl | hb
    · exact Nat.lt_succ_self _
    · rw [List.mem_singleton.mp hb]; exact Nat.lt_succ_of_lt hlt
  · intro i v ys nx oI C oC D K oK h tk E' hP hJ' hoK F' N' off' ne'
    exact turn i v ys nx _ oI C oC D K oK _ h tk E' (by simpa using hP) hJ' hoK F' N' off' ne'
  · intro D C h tk m' ys nx F' N' offD hn hC₀ hCL hCD offC hJ'
    refine ⟨m', hn, fun h'' hs'' => done D ys nx h'' tk hJ' (F'.change hs'' hCL hC₀) (fun p hp => ?_) offD⟩
    refine ⟨hs''.extBut _ _ ?_ (N' p hp).1, (N' p hp).2⟩
    rcases List.mem_cons.mp hp with rfl | hp
    · exact Ne.symm hCD
    · exact offC p hp
theorem CellSrc.range {elt iter : PySem.Expr} {x : Str} {px : Pos} {scope : Scope} {cl : List (Str × Addr)} {pos : Pos} {Q : Value → Shared → Prop} {s₁ : Shared} {r : Addr} {a b : Int} {t u v : Tok} {n : Nat} {news : List (Addr × Obj)} (J : Nat → List Value → List (Addr × Obj) → Prop)
    (hh : A.handled = none) (hcf : ∀ n, cellsFrom n scope.names cl = (x, n) :: cl) (hpc : ∀ h, pushCells h scope.names = h.push cellNone) (hkind : scope.kind = .function) (hx : (relabel scope env).names.lookup x = some .cell)
    (F : Fr h₀ L s₁.heap m) (N : News h₀ L s₁.heap news) (hr : IsRange s₁.heap r a b 1 t u v) (hsm : Builtin.Range.small a b 1 = true) (hn : Builtin.Range.rangeSize a b 1 = ((n : Nat) : Int)) (hsz : n ≤ sizeLine) (hJ : J 0 [] news)
    (turn : ∀ (i : Nat) (k : Int) t ys nx I oI C oC D K oK g h tk (E' : Value → Shared → Prop), k = a + (i : Int) → J i ys nx → oK.data = .cell (some (.int k t)) → Fr h₀ L h m → News h₀ L h ((I, oI) :: (C, oC) :: (D, lst ys) :: (K, oK) :: nx) → Off4 I C D K nx →
      (@Ne Nat I C ∧ @Ne Nat I D ∧ @Ne Nat I K ∧ @Ne Nat C D ∧ @Ne Nat C K ∧ @Ne Nat D K) →
      wpAny (model prog w) A (eval elt (compEnvC scope ((x, K) :: cl) C env)) (CEnd h₀ L m { s₁ with heap := h, toks := tk } I oI C oC D (lst ys) K oK (fun y nx' => J (i + 1) (ys ++ [y]) nx')) E' { ({ s₁ with heap := g } : Shared) with heap := h, toks := tk })
    (done : ∀ D ys nx h tk, J n ys nx → Fr h₀ L h m → News h₀ L h ((D, lst ys) :: nx) → (∀ p ∈ nx, p.1 ≠ D) → Q (.ref D) { s₁ with heap := h, toks := tk }) :
    CellSrc prog w A h₀ L m E env elt x px iter pos scope cl Q (.ref r) s₁ := by
  refine wpAny_pyIter_range hr hsm ?_
  refine block_C J (range_walks hh a n) hsz (fun i h st => ⟨_, st⟩) ?_ hcf hpc hkind hx (by show IsRangeIter _ _ _ _ _; rw [hn]; simpa using Heap.get?_push_size _ rfl) (fun b hb => ?_)
    (F.keeps fun _ _ e => Heap.get?_push_of_some _ e) (N.grown fun _ _ e => Heap.get?_push_of_some _ e) (Nat.ne_of_lt F.ns.lt) (next_is_new F) (fun p hp => Nat.ne_of_lt (Heap.lt_size (N p hp).1)) hJ ?_ ?_
  · intro i h h' o j ys nw st e e' k Nw Jw
    have st' : h.get? _ = some _ := st
    show h'.get? _ = some _
    rw [e', ← e]; exact st'
  · rw [List.mem_singleton.mp hb]
    show s₁.heap.objs.size < (s₁.heap.push _).objs.size
    rw [Heap.size_push]; exact Nat.lt_succ_self _
  · intro i v ys nx oI C oC D K oK h tk E' hP hJ' hoK F' N' off' ne'
    obtain ⟨t, rfl⟩ := hP
    exact turn i _ t ys nx _ oI C oC D K oK _ h tk E' rfl hJ' hoK F' N' off' ne'
  · intro D C h tk m' ys nx F' N' offD hn hC₀ hCL hCD offC hJ'
    refine ⟨m', hn, fun h'' hs'' => done D ys nx h'' tk hJ' (F'.change hs'' hCL hC₀) (fun p hp => ?_) offD⟩
    refine ⟨hs''.extBut _ _ ?_ (N' p hp).1, (N' p hp).2⟩
    rcases List.mem_cons.mp hp with rfl | hp
    · exact Ne.symm hCD
    · exact offC p hp
end
end
section
/-! comprehensions by an invariant over what is made and the ledger; the turn's end is our own word -/
def UEnd (h₀ : Heap) (L : Addr) (m : Str → Option Value) (s₁ : Shared) (I : Addr) (oI : Obj) (C : Addr) (oC : Obj) (D : Addr) (oD : Obj) (S : List (Addr × Obj) → Prop) (rest : Value → List (Addr × Obj) → Prop) (y : Value) (s₂ : Shared) : Prop :=
  LCg.CompEnd h₀ L m s₁ I oI C oC D oD S rest y s₂
theorem UEnd.intro {h₀ : Heap} {L I C D : Addr} {m : Str → Option Value} {s₁ : Shared} {oI oC oD : Obj} {S : List (Addr × Obj) → Prop} {rest : Value → List (Addr × Obj) → Prop} {y : Value} {h' : Heap} {tk : Nat} {all : List (Addr × Obj)}
    (F : Fr h₀ L h' m) (N : News h₀ L h' all) (nx : List (Addr × Obj)) (sub : ∀ p ∈ (I, oI) :: (C, oC) :: (D, oD) :: nx, p ∈ all) (off : ∀ p ∈ nx, p.1 ≠ I ∧ p.1 ≠ C ∧ p.1 ≠ D) (hS : S nx) (r : rest y nx) :
    UEnd h₀ L m s₁ I oI C oC D oD S rest y { s₁ with heap := h', toks := tk } := LCg.CompEnd.intro F N nx sub (LCg.Off3.of off) hS r
theorem compEnd_mono {h₀ : Heap} {L I C D : Addr} {m : Str → Option Value} {s₁ s₂ : Shared} {oI oC oD : Obj} {S : List (Addr × Obj) → Prop} {rest rest' : Value → List (Addr × Obj) → Prop} {y y' : Value}
    (h : LCg.CompEnd h₀ L m s₁ I oI C oC D oD S rest y s₂) (k : ∀ nx, rest y nx → rest' y' nx) : LCg.CompEnd h₀ L m s₁ I oI C oC D oD S rest' y' s₂ :=
  let ⟨h', tk, nx, e, F, N, off, hS, r⟩ := h; ⟨h', tk, nx, e, F, N, off, hS, k nx r⟩
section
variable {prog : Program} {w : World} {A : Around} {s : Shared} {h₀ : Heap} {L : Addr} {m : Str → Option Value} {env : Env} {elt : PySem.Expr} {x : Str} {scope : Scope} {cl : List (Str × Addr)} {S : List (Addr × Obj) → Prop} {P : Nat → Value → Prop} {Fin : List Value → List (Addr × Obj) → Prop} {n : Nat} {news : List (Addr × Obj)}
theorem rest_U (J : Nat → List Value → List (Addr × Obj) → Prop)
    (turn : ∀ i v ys nx I oI C oC D m₂ h tk (E' : Value → Shared → Prop), i < n → P i v → J i ys nx → LCg.NsObj oC m₂ → m₂ x = some v → Fr h₀ L h m → News h₀ L h ((I, oI) :: (C, oC) :: (D, LCg.lst ys) :: nx) → (∀ p ∈ nx, p.1 ≠ I ∧ p.1 ≠ C ∧ p.1 ≠ D) → ((@Ne Nat I C) ∧ (@Ne Nat I D) ∧ (@Ne Nat C D)) →
      wpAny (model prog w) A (eval elt (compEnvC scope cl C env)) (UEnd h₀ L m { s with heap := h, toks := tk } I oI C oC D (LCg.lst ys) S (fun y nx' => J (i + 1) (ys ++ [y]) nx')) E' { s with heap := h, toks := tk })
    (done : ∀ ys nx, J n ys nx → Fin ys nx) (hj : J 0 [] news) : LCg.CompRest prog w A h₀ L m env elt x scope cl s S P Fin n 0 [] news := by
  have all : ∀ k i ys nx, i + k = n → J i ys nx → LCg.CompRest prog w A h₀ L m env elt x scope cl s S P Fin k i ys nx := by
    intro k
    induction k with
    | zero =>
      intro i ys nx e hJ
      obtain rfl : i = n := by omega
      exact done ys nx hJ
    | succ k ih =>
      intro i ys nx e hJ v I oI C oC D m₂ h tk E' hP hC hx F N off ne
      refine wpAny_mono (turn i v ys nx I oI C oC D m₂ h tk E' (by omega) hP hJ hC hx F N off.mem ne) (fun y s₂ q => ?_) fun _ _ e => e
      exact compEnd_mono q fun nx' hJ' => ih (i + 1) _ _ (by omega) hJ'
  exact all n 0 [] news (by omega) hj
theorem rest_T {ct : PySem.Expr} (J : Nat → List Value → List (Addr × Obj) → Prop)
    (turn : ∀ i v ys nx I oI C oC D m₂ h tk (E' : Value → Shared → Prop), i < n → P i v → J i ys nx → LCg.NsObj oC m₂ → m₂ x = some v → Fr h₀ L h m → News h₀ L h ((I, oI) :: (C, oC) :: (D, LCg.lst ys) :: nx) → (∀ p ∈ nx, p.1 ≠ I ∧ p.1 ≠ C ∧ p.1 ≠ D) → ((@Ne Nat I C) ∧ (@Ne Nat I D) ∧ (@Ne Nat C D)) →
      wpAny (model prog w) A (isTrue ct (compEnvC scope cl C env) (eval ct (compEnvC scope cl C env))) (fun ok s' => if ok = true then
        wpAny (model prog w) A (eval elt (compEnvC scope cl C env)) (UEnd h₀ L m { s with heap := h, toks := tk } I oI C oC D (LCg.lst ys) S (fun y nx' => J (i + 1) (ys ++ [y]) nx')) E' s'
        else UEnd h₀ L m { s with heap := h, toks := tk } I oI C oC D (LCg.lst ys) S (fun _ nx' => J (i + 1) ys nx') Value.none s') E' { s with heap := h, toks := tk })
    (done : ∀ ys nx, J n ys nx → Fin ys nx) (hj : J 0 [] news) : LCt.CompRestT prog w A h₀ L m env ct elt x scope cl s S P Fin n 0 [] news := by
  have all : ∀ k i ys nx, i + k = n → J i ys nx → LCt.CompRestT prog w A h₀ L m env ct elt x scope cl s S P Fin k i ys nx := by
    intro k
    induction k with
    | zero =>
      intro i ys nx e hJ
      obtain rfl : i = n := by omega
      exact done ys nx hJ
    | succ k ih =>
      intro i ys nx e hJ v I oI C oC D m₂ h tk E' hP hC hx F N off ne
      refine wpAny_mono (turn i v ys nx I oI C oC D m₂ h tk E' (by omega) hP hJ hC hx F N off.mem ne) (fun ok s' q => ?_) fun _ _ e => e
      cases ok with
      | true =>
        simp only [if_true] at q ⊢
        refine wpAny_mono q (fun y s₂ q => ?_) fun _ _ e => e
        exact compEnd_mono q fun nx' hJ' => ih (i + 1) _ _ (by omega) hJ'
      | false =>
        simp only [Bool.false_eq_true, if_false] at q ⊢
        exact compEnd_mono q fun nx' hJ' => ih (i + 1) _ _ (by omega) hJ'
  exact all n 0 [] news (by omega) hj
theorem rest_P {x₂ : Str} (J : Nat → List Value → List (Addr × Obj) → Prop)
    (pair : ∀ i v ys nx, i < n → P i v → J i ys nx → ∃ t n' v₁ v₂, v = .ref t ∧ (t, tupO [v₁, v₂] n') ∈ nx ∧
      ∀ I oI C oC D m₂ h tk (E' : Value → Shared → Prop), LCg.NsObj oC m₂ → m₂ x = some v₁ → m₂ x₂ = some v₂ → Fr h₀ L h m → News h₀ L h ((I, oI) :: (C, oC) :: (D, LCg.lst ys) :: nx) → (∀ p ∈ nx, p.1 ≠ I ∧ p.1 ≠ C ∧ p.1 ≠ D) → ((@Ne Nat I C) ∧ (@Ne Nat I D) ∧ (@Ne Nat C D)) →
      wpAny (model prog w) A (eval elt (compEnvC scope cl C env)) (UEnd h₀ L m { s with heap := h, toks := tk } I oI C oC D (LCg.lst ys) S (fun y nx' => J (i + 1) (ys ++ [y]) nx')) E' { s with heap := h, toks := tk })
    (done : ∀ ys nx, J n ys nx → Fin ys nx) (hj : J 0 [] news) : LCp.CompRestP prog w A h₀ L m env elt x x₂ scope cl s S P Fin n 0 [] news := by
  have all : ∀ k i ys nx, i + k = n → J i ys nx → LCp.CompRestP prog w A h₀ L m env elt x x₂ scope cl s S P Fin k i ys nx := by
    intro k
    induction k with
    | zero =>
      intro i ys nx e hJ
      obtain rfl : i = n := by omega
      exact done ys nx hJ
    | succ k ih =>
      intro i ys nx e hJ v hP
      obtain ⟨t, n', v₁, v₂, rfl, hm, turn⟩ := pair i v ys nx (by omega) hP hJ
      refine ⟨t, _, v₁, v₂, n', rfl, hm, rfl, rfl, ?_⟩
      intro I oI C oC D m₂ h tk E' hC hx hx₂ F N off ne
      refine wpAny_mono (turn I oI C oC D m₂ h tk E' hC hx hx₂ F N off.mem ne) (fun y s₂ q => ?_) fun _ _ e => e
      exact compEnd_mono q fun nx' hJ' => ih (i + 1) _ _ (by omega) hJ'
  exact all n 0 [] news (by omega) hj
end
end
section
/-! the plain law of the median: the least way to a row -/
def wayG (xs : List Int) (k : Int) : Int := (xs.map (fun one => if k - one < 0 then -(k - one) else k - one)).sum
theorem abs_facts (d : Int) : ∃ u, (if d < 0 then -d else d) = u ∧ d ≤ u ∧ -d ≤ u ∧ (u = d ∨ u = -d) := by
  by_cases h : d < 0
  · exact ⟨-d, if_pos h, by omega, by omega, Or.inr rfl⟩
  · exact ⟨d, if_neg h, by omega, by omega, Or.inl rfl⟩
theorem perm_sum {a b : List Int} (p : a.Perm b) : a.sum = b.sum := by
  induction p with
  | nil => rfl
  | cons x _ ih => simp only [List.sum_cons, ih]
  | swap x y l => simp only [List.sum_cons]; omega
  | trans _ _ ih1 ih2 => exact ih1.trans ih2
theorem wayG_perm {a b : List Int} (p : a.Perm b) (k : Int) : wayG a k = wayG b k := perm_sum (p.map _)
theorem mid_key (S : List Int) (h0 : 0 < S.length) (h5 : S.length ≤ 5) (hs : S.Pairwise (· ≤ ·)) : ∃ T, ∀ k, T ≤ wayG S k ∧ (wayG S k = T ↔ S.getD ((S.length - 1) / 2) 0 ≤ k ∧ k ≤ S.getD (S.length / 2) 0) := by
  match S, h0, h5, hs with
  | [a], _, _, _ =>
    refine ⟨0, fun k => ?_⟩
    obtain ⟨u1, e1, p1, q1, r1⟩ := abs_facts (k - a)
    rw [show ([a] : List Int).getD ((([a] : List Int).length - 1) / 2) 0 = a by simp, show ([a] : List Int).getD (([a] : List Int).length / 2) 0 = a by simp]
    simp only [wayG, List.map_cons, List.map_nil, List.sum_cons, List.sum_nil, e1]
    omega
  | [a, b], _, _, hs =>
    have h1 : a ≤ b := by simpa using hs
    refine ⟨b - a, fun k => ?_⟩
    obtain ⟨u1, e1, p1, q1, r1⟩ := abs_facts (k - a)
    obtain ⟨u2, e2, p2, q2, r2⟩ := abs_facts (k - b)
    rw [show ([a, b] : List Int).getD ((([a, b] : List Int).length - 1) / 2) 0 = a by simp, show ([a, b] : List Int).getD (([a, b] : List Int).length / 2) 0 = b by simp]
    simp only [wayG, List.map_cons, List.map_nil, List.sum_cons, List.sum_nil, e1, e2]
    omega
  | [a, b, c], _, _, hs =>
    simp only [List.pairwise_cons, List.mem_cons, List.not_mem_nil, or_false, forall_eq_or_imp, forall_eq] at hs
    refine ⟨c - a, fun k => ?_⟩
    obtain ⟨u1, e1, p1, q1, r1⟩ := abs_facts (k - a)
    obtain ⟨u2, e2, p2, q2, r2⟩ := abs_facts (k - b)
    obtain ⟨u3, e3, p3, q3, r3⟩ := abs_facts (k - c)
    rw [show ([a, b, c] : List Int).getD ((([a, b, c] : List Int).length - 1) / 2) 0 = b by simp, show ([a, b, c] : List Int).getD (([a, b, c] : List Int).length / 2) 0 = b by simp]
    simp only [wayG, List.map_cons, List.map_nil, List.sum_cons, List.sum_nil, e1, e2, e3]
    omega
  | [a, b, c, d], _, _, hs =>
    simp only [List.pairwise_cons, List.mem_cons, List.not_mem_nil, or_false, forall_eq_or_imp, forall_eq] at hs
    refine ⟨d - a + (c - b), fun k => ?_⟩
    obtain ⟨u1, e1, p1, q1, r1⟩ := abs_facts (k - a)
    obtain ⟨u2, e2, p2, q2, r2⟩ := abs_facts (k - b)
    obtain ⟨u3, e3, p3, q3, r3⟩ := abs_facts (k - c)
    obtain ⟨u4, e4, p4, q4, r4⟩ := abs_facts (k - d)
    rw [show ([a, b, c, d] : List Int).getD ((([a, b, c, d] : List Int).length - 1) / 2) 0 = b by simp, show ([a, b, c, d] : List Int).getD (([a, b, c, d] : List Int).length / 2) 0 = c by simp]
    simp only [wayG, List.map_cons, List.map_nil, List.sum_cons, List.sum_nil, e1, e2, e3, e4]
    omega
  | [a, b, c, d, e], _, _, hs =>
    simp only [List.pairwise_cons, List.mem_cons, List.not_mem_nil, or_false, forall_eq_or_imp, forall_eq] at hs
    refine ⟨e - a + (d - b), fun k => ?_⟩
    obtain ⟨u1, e1, p1, q1, r1⟩ := abs_facts (k - a)
    obtain ⟨u2, e2, p2, q2, r2⟩ := abs_facts (k - b)
    obtain ⟨u3, e3, p3, q3, r3⟩ := abs_facts (k - c)
    obtain ⟨u4, e4, p4, q4, r4⟩ := abs_facts (k - d)
    obtain ⟨u5, e5, p5, q5, r5⟩ := abs_facts (k - e)
    rw [show ([a, b, c, d, e] : List Int).getD ((([a, b, c, d, e] : List Int).length - 1) / 2) 0 = c by simp, show ([a, b, c, d, e] : List Int).getD (([a, b, c, d, e] : List Int).length / 2) 0 = c by simp]
    simp only [wayG, List.map_cons, List.map_nil, List.sum_cons, List.sum_nil, e1, e2, e3, e4, e5]
    omega
theorem sorted_getD {S : List Int} (hs : S.Pairwise (· ≤ ·)) {i j : Nat} (h : i ≤ j) (hj : j < S.length) : S.getD i 0 ≤ S.getD j 0 := by
  have hi : i < S.length := by omega
  rcases Nat.eq_or_lt_of_le h with e | e
  · subst e; exact Int.le_refl _
  · have := List.pairwise_iff_getElem.mp hs i j hi hj e
    simpa [List.getD, hi, hj] using this
theorem getD_memI {S : List Int} {i : Nat} (h : i < S.length) : S.getD i 0 ∈ S := by simp [List.getD, h]
/-- the wishes from the low to the high median are those of the least way -/
theorem near_iff {xs S : List Int} {M : Int} (h0 : 0 < xs.length) (h5 : xs.length ≤ 5) (hb : ∀ x ∈ xs, 0 ≤ x ∧ x ≤ 9) (hS : S.Perm xs) (hs : S.Pairwise (· ≤ ·)) (hin : M ∈ (List.range 10).map fun (j : Nat) => wayG xs (j : Int)) (hle : ∀ a ∈ (List.range 10).map fun (j : Nat) => wayG xs (j : Int), M ≤ a) (k : Int) :
    wayG xs k = M ↔ S.getD ((xs.length - 1) / 2) 0 ≤ k ∧ k ≤ S.getD (xs.length / 2) 0 := by
  have hl := hS.length_eq
  obtain ⟨T, hT⟩ := mid_key S (by omega) (by omega) hs
  rw [hl] at hT
  have hlo : S.getD ((xs.length - 1) / 2) 0 ∈ S := getD_memI (by omega)
  have hlb := hb _ (hS.mem_iff.mp hlo)
  have hlu : S.getD ((xs.length - 1) / 2) 0 ≤ S.getD (xs.length / 2) 0 := sorted_getD hs (by omega) (by omega)
  have e1 := (hT (S.getD ((xs.length - 1) / 2) 0)).2.mpr ⟨Int.le_refl _, hlu⟩
  have hMT : M = T := by
    obtain ⟨j, _, hj⟩ := List.mem_map.mp hin
    have g1 := (hT (j : Int)).1
    rw [wayG_perm hS] at g1
    have g2 := hle (wayG xs (S.getD ((xs.length - 1) / 2) 0)) (List.mem_map.mpr ⟨(S.getD ((xs.length - 1) / 2) 0).toNat, List.mem_range.mpr (by omega), by rw [Int.toNat_of_nonneg hlb.1]⟩)
    rw [wayG_perm hS] at e1
    omega
  rw [hMT, ← wayG_perm hS]
  exact (hT k).2
def nearG (xs : List Int) (M : Int) : Nat → List Int
  | 0 => []
  | i + 1 => if wayG xs (i : Int) = M then nearG xs M i ++ [(i : Int)] else nearG xs M i
theorem near_range {xs : List Int} {M lo up : Int} (h : ∀ k : Int, wayG xs k = M ↔ lo ≤ k ∧ k ≤ up) (h0 : 0 ≤ lo) (hlu : lo ≤ up) : ∀ n : Nat, nearG xs M n = (List.range ((min (n : Int) (up + 1)) - lo).toNat).map fun (i : Nat) => lo + (i : Int)
  | 0 => by
    have e : ((min ((0 : Nat) : Int) (up + 1)) - lo).toNat = 0 := by omega
    rw [e]; rfl
  | n + 1 => by
    have ih := near_range h h0 hlu n
    simp only [nearG]
    by_cases c : wayG xs (n : Int) = M
    · rw [if_pos c, ih]
      have q := (h n).mp c
      have e1 : ((min (n : Int) (up + 1)) - lo).toNat = (n : Int).toNat - lo.toNat := by omega
      have e2 : ((min ((n + 1 : Nat) : Int) (up + 1)) - lo).toNat = ((n : Int).toNat - lo.toNat) + 1 := by omega
      rw [e1, e2, List.range_succ, List.map_append]
      congr 1
      simp only [List.map_cons, List.map_nil, List.cons.injEq, and_true]
      omega
    · rw [if_neg c, ih]
      have q : ¬ (lo ≤ (n : Int) ∧ (n : Int) ≤ up) := fun z => c ((h n).mpr z)
      have e : ((min ((n + 1 : Nat) : Int) (up + 1)) - lo).toNat = ((min (n : Int) (up + 1)) - lo).toNat := by omega
      rw [e]
end
section
local macro_rules | `(tactic| walk_at "binaryOp RShift int int") => `(tactic| (k_here; (with_reducible refine shr1 ?_)))
local macro_rules | `(tactic| walk_at "binaryOp Mod int int") => `(tactic| (k_here; (with_reducible refine mod_pos ?k1 ?_); (case k1 => decide)))
local macro_rules | `(tactic| walk_at "binaryOp FloorDiv int int") => `(tactic| (k_here; (with_reducible refine fdiv_pos ?k1 ?k2 ?_); (case k1 => decide); (case k2 => decide +kernel)))
local macro_rules | `(tactic| k_all) => `(tactic| with_reducible assumption)
local macro_rules | `(tactic| l_idx) => `(tactic| omega)
local macro_rules | `(tactic| k_upd) => `(tactic| first | (refine' Pick.head ?a; (case a => k_all)) | (refine' Pick.tail ?a ?b; (case a => k_ne); (case b => k_upd)))
local macro_rules | `(tactic| walk_at "call ref") => `(tactic| (k_here; refine wpAny_call ?_; k_dflt (refine' code_def ?k1 ?k2 ?k3 ?k4 ?k5 ?kA ?kF ?kK ?k6 ?k7 ?k8 ?k9 ?kB ?_ ?c2 ?c3 ?c4 ?c5; (case kA => exact rfl); (case kF => exact rfl); (case kK => first | exact rfl | assumption); (case k1 => k_asm); (case k2 => k_asm); (case k3 => k_asm); (case k4 => k_asm); (case k5 => k_asm); (case k6 => k_is); (case k7 => k_is); (case k8 => ktr_room); (case k9 => exact BindsTo.of_eq rfl); (case c5 => decide); (case kB => exact locs rfl); (case c2 => exact rfl); (case c3 => exact rfl); (case c4 => exact rfl); k_whole; intro g' L' h' FG' F' N' B' X' T'; (try dsimp only); (try k_lift B'); (try k_fold))))
/-! _law_between -/
theorem ways_getD (xs : List Int) (i : Nat) (h : i < 10) : ((List.range 10).map fun (j : Nat) => wayG xs (j : Int)).getD i 0 = wayG xs (i : Int) := by
  simp [List.getD, h]
section
variable {w : World} {mean : ExcName → Option Value} {mg mb : Str → Option Value} {dp un : Nat} {gd : Option (List Code)} {cn : Str} {cs : Scope} {a : Addr} {ccd : Value} {cl : List (Str × Addr)} {outer : List Env} {A₀ : Around} {base h₀ : Heap} {L : Addr} {m : Str → Option Value} {s : Shared} {Q E : Value → Shared → Prop}
local macro_rules | `(tactic| walk_at "eval ListComp") => `(tactic| (k_here; (with_reducible show wpAny _ _ (eval (PySem.Expr.ListComp _ [⟨PySem.Expr.Name _ _, _, [_], 0⟩] _ _) _) _ _ _); k_dflt (refine LCt.ListComp_T (F₀ := by k_asm) (by with_unfolding_all rfl) (by decide) (by rfl) (by decide) (by rfl) ?_)))
local macro_rules | `(tactic| walk_at "eval ListComp") => `(tactic| (k_here; (with_reducible show wpAny _ _ (eval (PySem.Expr.ListComp _ [⟨PySem.Expr.Name _ _, _, [], 0⟩] _ _) _) _ _ _); k_dflt (refine ListComp_C (_F₀ := by k_asm) (by with_unfolding_all rfl) (by rfl) (by decide) ?_)))
local macro_rules | `(tactic| walk_at "eval ListComp") => `(tactic| (k_here; (with_reducible show wpAny _ _ (eval (PySem.Expr.ListComp _ [⟨PySem.Expr.Name _ _, _, [], 0⟩] _ _) _) _ _ _); k_dflt (refine LCg.ListComp_U (F₀ := by k_asm) (by with_unfolding_all rfl) (by decide) (by rfl) (by decide) (by rfl) ?_)))
local macro_rules | `(tactic| walk_at "CompSrcT") => `(tactic| k_extra "CompSrcT")
local macro_rules | `(tactic| walk_at "CompSrc") => `(tactic| k_extra "CompSrc")
local macro_rules | `(tactic| walk_at "call ref") => `(tactic| k_extra "call ref")

set_option maxHeartbeats 8000000 in
theorem between_tells {lr : Addr} {vs : List Value} {n : Nat} {xs S : List Int} {news : List (Addr × Obj)}
    (B : Below A₀ base outer h₀) (F : Fr h₀ L s.heap m) (X : (hd.heap_39 w.params).In h₀) (N : News h₀ L s.heap news) (T : Top hd.view_39 lz mean mg mb h₀) (hk : cs.kind = .function)
    (hm : (lr, listOf vs.toArray n) ∈ news) (hi : IntsAre vs xs) (hne : 0 < xs.length) (h5 : xs.length ≤ 5) (hb : ∀ x ∈ xs, 0 ≤ x ∧ x ≤ 9) (hS : S.Perm xs) (hSo : S.Pairwise (· ≤ ·))
    (hdp : dp + 2 < recursionLimit) (hun : un + 200 < cLine)
    (hret : ∀ h' tk' , Fr h₀ L h' m → News h₀ L h' news → Q (.bool true) { s with heap := h', toks := tk' }) :
    wpAny (model prg w) (ktrTop dp un gd cn cs L a ccd cl outer) (call (.ref 140) [.ref lr]) Q E s := by
  have hvl := hi.length
  replace N := news_in N hm
  revert X; unfold prg; w_top off; k_fill; intro X
  refine wpAny_call ?_
  k_dflt (refine' code_defC ?k1 ?k2 ?k3 ?k4 ?k5 ?kA ?kF ?kK ?k6 ?k7 ?k8 ?k9 ?kB ?kD ?_ ?c2 ?c3 ?c4; (case kA => exact rfl); (case kF => exact rfl); (case kK => assumption); (case k1 => k_asm); (case k2 => k_asm); (case k3 => k_asm); (case k4 => k_asm); (case k5 => k_asm); (case k6 => k_is); (case k7 => k_is); (case k8 => ktr_room); (case k9 => exact BindsTo.of_eq rfl); (case kB => exact rfl); (case kD => decide +kernel); (case c2 => exact rfl); (case c3 => exact rfl); (case c4 => exact rfl); k_whole; intro g' L' h' tk' cells' FG' F' N' Y' B' X' T' l1; k_cells Y'; (try simp only [List.cons_append, List.nil_append] at N'); (try dsimp only); (try k_lift B'); (try k_fold))
  k_with_none
  k_steps
  rename IsRange _ _ _ _ _ _ _ _ => rgX
  rename Fr _ _ _ _ => F1
  rename News _ _ _ _ => N1
  rename_i o1 o2 o3 d1 d2 d3 _ _ _ _ _ _ _
  refine CellSrc.range (n := 10) (fun i ys nx => nx = (L' + 1 + 1 + 1, o1) :: (L' + 1 + 1, o2) :: (L' + 1, o3) :: (lr, W.listOf vs.toArray n) :: news ∧ IntsAre ys ((List.range i).map fun (j : Nat) => wayG xs (j : Int))) rfl (fun _ => rfl) (fun _ => rfl) rfl (by with_unfolding_all rfl) F1 N1 rgX (by decide) (by rfl) (by decide) ⟨rfl, .nil⟩ ?turn ?done
  case turn =>
    intro i k t ys nx I oI C oC D K oK g h tk E' hke hJ hoK F2 N2 off ne
    obtain ⟨rfl, hys⟩ := hJ
    have offs := fun p hp => off p (mem4 (p := p) hp)
    obtain ⟨z1, z2, z3, z4⟩ := off _ (.head _)
    obtain ⟨y1, y2, y3, y4⟩ := off _ (.tail _ (.head _))
    obtain ⟨x1, x2, x3, x4⟩ := off _ (.tail _ (.tail _ (.head _)))
    obtain ⟨v1, v2, v3, v4⟩ := off _ (.tail _ (.tail _ (.tail _ (.head _))))
    have hk0 : 0 ≤ k := by omega
    clear F1 N1
    k_with_none
    k_with "CompSrc" => (refine LCg.CompSrc.ledger (by rfl) (by k_asm) (by k_asm) (by k_mem) (by kcf_size) ?_; intro g'; (refine' kcf_list _ (by first | assumption | l_ints) (fun k' t' I' oI' C' oC' D' m' ys' h' tk' E' hk' hC' hx' F' N' off' ne' hMark' => ?_) ?_); (all_goals (try (simp only [LCg.Off3, and_true] at off'))); kcf_last)
    k_steps
    refine CEnd.intro (by k_asm) (by k_asm) _ (fun p hp => .tail _ hp) off ⟨rfl, ?_⟩
    rw [List.range_succ, List.map_append]
    refine IntsAre.append hys ?_
    rw [List.map_cons, List.map_nil, show (i : Int) = k by omega]
    exact .cons _ _ .nil
  case done =>
    intro D ys nx h tk hJ F2 N2 off
    obtain ⟨rfl, hys⟩ := hJ
    have z1 : @Ne Nat (L' + 1 + 1 + 1) D := off _ (.head _)
    have z2 : @Ne Nat (L' + 1 + 1) D := off _ (.tail _ (.head _))
    have z3 : @Ne Nat (L' + 1) D := off _ (.tail _ (.tail _ (.head _)))
    have z4 : @Ne Nat lr D := off _ (.tail _ (.tail _ (.tail _ (.head _))))
    have z5 : ∀ p ∈ news, p.1 ≠ D := fun p hp => off p (mem4 hp)
    have w0 : @LT.lt Nat _ lr L' := l1 _ (.head _)
    have w1 : ∀ p ∈ news, p.1 ≠ L' + 1 := fun p hp => by have q : @LT.lt Nat _ p.1 L' := l1 p (.tail _ hp); exact Nat.ne_of_lt (Nat.lt_succ_of_lt q)
    have w2 : ∀ p ∈ news, p.1 ≠ L' + 1 + 1 := fun p hp => by have q : @LT.lt Nat _ p.1 L' := l1 p (.tail _ hp); exact Nat.ne_of_lt (Nat.lt_succ_of_lt (Nat.lt_succ_of_lt q))
    have w3 : ∀ p ∈ news, p.1 ≠ L' + 1 + 1 + 1 := fun p hp => by have q : @LT.lt Nat _ p.1 L' := l1 p (.tail _ hp); exact Nat.ne_of_lt (Nat.lt_succ_of_lt (Nat.lt_succ_of_lt (Nat.lt_succ_of_lt q)))
    have hysl := hys.length
    rw [List.length_map, List.length_range] at hysl
    clear F1 N1
    k_with_none
    k_with "call ref" => refine held ?_
    k_with "CompSrcT" => refine held ?_
    k_steps
    refine Held.out ?_
    unfold Held
    rename IsRange _ _ _ _ _ _ _ _ => rg2
    rename Fr _ _ _ _ => F3
    rename News _ _ _ _ => N3
    rename_i ow dw _ _ M tM kM hMin hMle _ ol _ _ dl _ _ _ _ _ _
    refine LCt.CompSrcT.range rfl F3 N3 rg2 (by decide) (rfl : _ = ((10 : Nat) : Int)) (by decide) ?_
    intro g2
    refine rest_T (fun i zs nx => nx = (D, LCg.lst ys) :: (L' + 1 + 1 + 1, ol) :: (L' + 1 + 1, ow) :: (L' + 1, o3) :: (lr, W.listOf vs.toArray n) :: news ∧ IntsAre zs (nearG xs M i)) ?turn ?done ⟨rfl, .nil⟩
    case turn =>
      intro i v zs nx I oI C oC D2 m₂ h4 tk4 E' hi10 hP hJ hC hx F4 N4 off4 ne4
      obtain ⟨rfl, hzs⟩ := hJ
      obtain ⟨t, rfl⟩ := hP
      have hi9 : (0 : Int) + (i : Int) < 10 := by omega
      have hi0 : (0 : Int) ≤ 0 + (i : Int) := by omega
      clear F3 N3
      k_with_none
      k_steps
      · rename _ = M => hw
        rw [show ((0 : Int) + (i : Int)).toNat = i by omega, ways_getD _ _ hi10] at hw
        refine UEnd.intro F4 N4 _ (fun p hp => hp) off4 trivial ⟨rfl, ?_⟩
        simp only [nearG, if_pos hw]
        rw [show (0 : Int) + (i : Int) = (i : Int) by omega]
        exact IntsAre.append hzs (.cons _ _ .nil)
      · rename _ ≠ M => hw
        rw [show ((0 : Int) + (i : Int)).toNat = i by omega, ways_getD _ _ hi10] at hw
        refine UEnd.intro F4 N4 _ (fun p hp => hp) off4 trivial ⟨rfl, ?_⟩
        simp only [nearG, if_neg hw]
        exact hzs
    case done =>
      intro zs nx hJ
      obtain ⟨rfl, hzs⟩ := hJ
      intro D2 h4 tk4 F4 N4 off4
      have hzl := hzs.length
      clear F3 N3
      k_with_none
      k_with "call ref" => refine held ?_
      k_steps
      refine Held.out ?_
      unfold Held
      k_dflt (refine' medlow_tells (S := S) ?B ?F ?X ?N ?T ?hk ?hm ?hi ?hne ?hlen ?hS ?hSo ?hdp ?hun ?_; (case B => k_asm); (case F => k_asm); (case X => k_asm); (case N => k_asm); (case T => k_asm); (case hk => exact rfl); (case hm => k_mem); (case hi => exact hi); (case hne => omega); (case hlen => omega); (case hS => exact hS); (case hSo => exact hSo); (case hdp => ktr_room); (case hun => ktr_units))
      intro h6 tk6 t6 lo F6 N6 hlo
      k_steps
      refine Held.out ?_
      unfold Held
      k_dflt (refine' medhigh_tells (S := S) ?B ?F ?X ?N ?T ?hk ?hm ?hi ?hne ?hlen ?hS ?hSo ?hdp ?hun ?_; (case B => k_asm); (case F => k_asm); (case X => k_asm); (case N => k_asm); (case T => k_asm); (case hk => exact rfl); (case hm => k_mem); (case hi => exact hi); (case hne => omega); (case hlen => omega); (case hS => exact hS); (case hSo => exact hSo); (case hdp => ktr_room); (case hun => ktr_units))
      intro h7 tk7 t7 up F7 N7 hup
      k_steps
      have hl := hS.length_eq
      have hlo9 := hb lo (hlo ▸ hS.mem_iff.mp (getD_memI (by omega)))
      have hup9 := hb up (hup ▸ hS.mem_iff.mp (getD_memI (by omega)))
      have hlu : lo ≤ up := by rw [hlo, hup]; exact sorted_getD hSo (by omega) (by omega)
      rename IsRange _ _ _ _ _ _ _ _ => rg3
      refine kll_range rfl (by k_asm) (by k_asm) rg3 (small_one (by omega) (by omega) (by omega) (by omega)) (rangeSize_nat _ _) (by omega) ?_
      intro D9 us9 c9 h9 tk9 F9 N9 l9 hI9
      have hus := hI9.length
      rw [rangeKs_length] at hus
      have hE : nearG xs M 10 = rangeKs lo (up + 1 - lo).toNat := by
        have q := near_range (near_iff hne h5 hb hS hSo hMin hMle) (hlo ▸ hlo9.1) (hlo ▸ hup ▸ hlu) 10
        rw [q, ← hlo, ← hup, rangeKs, show (min ((10 : Nat) : Int) (up + 1) - lo).toNat = (up + 1 - lo).toNat by omega]
      have hL1 : h9.IsList D2 zs.toArray := ⟨_, (N9 _ (.tail _ (.head _))).1, rfl, _, rfl⟩
      have hL2 : h9.IsList D9 us9.toArray := ⟨_, (N9 _ (.head _)).1, rfl, _, rfl⟩
      refine eq_intsK hL1 hzs hL2 hI9 (by ktr_units) ?_
      rw [decide_eq_true hE]
      clear rg3 rg2 rgX hMin hMle hE hL1 hL2 hI9 hzs hys
      k_steps
      exact hret _ _ (by k_asm) (cb_drop (by assumption) (fun p hp => mem7 hp))
end
end
section
/-! sorted of four pairs of ints -/
def runK {α : Type} (lt : Nat → Nat → Bool) : KasT α → α
  | .ret a => a
  | .ask i j k => runK lt (k (lt i j))
def okK {α : Type} (n : Nat) : KasT α → Bool
  | .ret _ => true
  | .ask i j k => decide (i < n) && decide (j < n) && okK n (k true) && okK n (k false)
theorem kas_pure {α : Type} {n : Nat} {cmp : Nat → Nat → (Bool → Shared → Prop) → Shared → Prop} {lt : Nat → Nat → Bool} {Q : α → Shared → Prop} {s : Shared} (hc : ∀ i j C, i < n → j < n → C (lt i j) s → cmp i j C s) :
    ∀ t : KasT α, okK n t = true → Q (runK lt t) s → t.kasWp cmp Q s
  | .ret _, _, h => h
  | .ask i j k, ho, h => by
    simp only [okK, Bool.and_eq_true, decide_eq_true_eq] at ho
    refine hc i j _ ho.1.1.1 ho.1.1.2 ?_
    refine kas_pure hc _ ?_ h
    cases lt i j
    · exact ho.2
    · exact ho.1.2
theorem ok4 : okK 4 (kas_sort 4) = true := by decide +kernel
def ltP (ps : List (Int × Int)) (i j : Nat) : Bool := lexLt [(ps.getD i (0, 0)).1, (ps.getD i (0, 0)).2] [(ps.getD j (0, 0)).1, (ps.getD j (0, 0)).2]
theorem lex2 (a b c d : Int) : lexLt [a, b] [c, d] = if a = c then (if b = d then false else decide (b < d)) else decide (a < c) := by simp only [lexLt]
theorem run_congr {α : Type} {n : Nat} {lt lt' : Nat → Nat → Bool} (h : ∀ i j, i < n → j < n → lt i j = lt' i j) : ∀ t : KasT α, okK n t = true → runK lt t = runK lt' t
  | .ret _, _ => rfl
  | .ask i j k, ho => by
    simp only [okK, Bool.and_eq_true, decide_eq_true_eq] at ho
    simp only [runK]
    rw [h i j ho.1.1.1 ho.1.1.2]
    refine run_congr h _ ?_
    cases lt' i j
    · exact ho.2
    · exact ho.1.2
/-- by ranks -/
def okR4 (r : List Nat) : Bool :=
  let p := (runK (fun i j => decide (r.getD i 0 < r.getD j 0)) (kas_sort 4)).toList
  p.isPerm [0, 1, 2, 3] && decide (r.getD (p.getD 0 0) 0 ≤ r.getD (p.getD 1 0) 0) && decide (r.getD (p.getD 1 0) 0 ≤ r.getD (p.getD 2 0) 0) && decide (r.getD (p.getD 2 0) 0 ≤ r.getD (p.getD 3 0) 0)
theorem ok_ranks : ∀ a b c d : Fin 4, okR4 [a.val, b.val, c.val, d.val] = true := by decide +kernel
theorem count_lt (l : List Int) {a b : Int} (h : a < b) (ha : a ∈ l) : l.countP (fun x => decide (x < a)) < l.countP (fun x => decide (x < b)) := by
  induction l with
  | nil => cases ha
  | cons x r ih =>
    have mono : ∀ l : List Int, l.countP (fun x => decide (x < a)) ≤ l.countP (fun x => decide (x < b)) := fun l => List.countP_mono_left fun y _ hy => by
      have : y < a := by simpa using hy
      simpa using Int.lt_trans this h
    simp only [List.countP_cons]
    rcases List.mem_cons.mp ha with rfl | ha
    · have := mono r
      simp only [Int.lt_irrefl, decide_false, Bool.false_eq_true, if_false, h, decide_true, if_true]
      omega
    · have := ih ha
      by_cases q : x < a
      · have q2 : x < b := Int.lt_trans q h
        simp only [q, q2, decide_true, if_true]; omega
      · simp only [q, decide_false, Bool.false_eq_true, if_false]
        split <;> omega
theorem count_le (l : List Int) {a : Int} (ha : a ∈ l) : l.countP (fun x => decide (x < a)) < l.length := by
  induction l with
  | nil => cases ha
  | cons x r ih =>
    simp only [List.countP_cons, List.length_cons]
    rcases List.mem_cons.mp ha with rfl | ha
    · simp only [Int.lt_irrefl, decide_false, Bool.false_eq_true, if_false]
      have := List.countP_le_length (p := fun x => decide (x < a)) (l := r)
      omega
    · have := ih ha
      split <;> omega
def rk (ks : List Int) (i : Nat) : Nat := ks.countP (fun x => decide (x < ks.getD i 0))
theorem rk_lt {ks : List Int} {i j : Nat} (hi : i < ks.length) (hj : j < ks.length) : decide (rk ks i < rk ks j) = decide (ks.getD i 0 < ks.getD j 0) := by
  refine decide_eq_decide.mpr ⟨fun h => ?_, fun h => count_lt ks h (getD_memI hi)⟩
  rcases Int.lt_trichotomy (ks.getD i 0) (ks.getD j 0) with q | q | q
  · exact q
  · unfold rk at h; rw [q] at h; exact absurd h (Nat.lt_irrefl _)
  · have := count_lt ks q (getD_memI hj)
    unfold rk at h
    omega
def permK (ks : List Int) : List Nat := (runK (fun i j => decide (ks.getD i 0 < ks.getD j 0)) (kas_sort 4)).toList
theorem permK_ok (ks : List Int) (h4 : ks.length = 4) : (permK ks).Perm [0, 1, 2, 3] ∧ ks.getD ((permK ks).getD 0 0) 0 ≤ ks.getD ((permK ks).getD 1 0) 0 ∧ ks.getD ((permK ks).getD 1 0) 0 ≤ ks.getD ((permK ks).getD 2 0) 0 ∧ ks.getD ((permK ks).getD 2 0) 0 ≤ ks.getD ((permK ks).getD 3 0) 0 := by
  have hr : ∀ i, i < 4 → rk ks i < 4 := fun i hi => by
    have := count_le ks (a := ks.getD i 0) (getD_memI (by omega))
    rw [h4] at this; exact this
  have hok := ok_ranks ⟨rk ks 0, hr 0 (by omega)⟩ ⟨rk ks 1, hr 1 (by omega)⟩ ⟨rk ks 2, hr 2 (by omega)⟩ ⟨rk ks 3, hr 3 (by omega)⟩
  dsimp only at hok
  have hg : ∀ i, i < 4 → [rk ks 0, rk ks 1, rk ks 2, rk ks 3].getD i 0 = rk ks i := fun i hi => by
    match i, hi with
    | 0, _ => rfl
    | 1, _ => rfl
    | 2, _ => rfl
    | 3, _ => rfl
  have e : runK (fun i j => decide ([rk ks 0, rk ks 1, rk ks 2, rk ks 3].getD i 0 < [rk ks 0, rk ks 1, rk ks 2, rk ks 3].getD j 0)) (kas_sort 4) = runK (fun i j => decide (ks.getD i 0 < ks.getD j 0)) (kas_sort 4) :=
    run_congr (n := 4) (fun i j hi hj => by rw [hg i hi, hg j hj]; exact rk_lt (by omega) (by omega)) _ ok4
  unfold okR4 at hok
  rw [e] at hok
  simp only [Bool.and_eq_true, decide_eq_true_eq] at hok
  obtain ⟨⟨⟨hp, h01⟩, h12⟩, h23⟩ := hok
  have hperm : (permK ks).Perm [0, 1, 2, 3] := List.isPerm_iff.mp hp
  have hlen := hperm.length_eq
  have hlt : ∀ j, j < 4 → (permK ks).getD j 0 < 4 := fun j hj => by
    have hm : (permK ks).getD j 0 ∈ permK ks := by
      have : j < (permK ks).length := by rw [hlen]; exact hj
      simp [List.getD, this]
    have := hperm.mem_iff.mp hm
    simp only [List.mem_cons, List.not_mem_nil, or_false] at this
    omega
  have le : ∀ i j, i < 4 → j < 4 → [rk ks 0, rk ks 1, rk ks 2, rk ks 3].getD i 0 ≤ [rk ks 0, rk ks 1, rk ks 2, rk ks 3].getD j 0 → ks.getD i 0 ≤ ks.getD j 0 := fun i j hi hj h => by
    rw [hg i hi, hg j hj] at h
    have q := rk_lt (ks := ks) (i := j) (j := i) (by omega) (by omega)
    have q1 : ¬ rk ks j < rk ks i := by omega
    have q2 : ¬ ks.getD j 0 < ks.getD i 0 := fun z => q1 ((decide_eq_decide.mp q).mpr z)
    omega
  exact ⟨hperm, le _ _ (hlt 0 (by omega)) (hlt 1 (by omega)) h01, le _ _ (hlt 1 (by omega)) (hlt 2 (by omega)) h12, le _ _ (hlt 2 (by omega)) (hlt 3 (by omega)) h23⟩
section
variable {prog : Program} {w : World} {A : Around} {E : Value → Shared → Prop} {s : Shared} {h₀ : Heap} {L l : Addr} {m : Str → Option Value}
theorem ask_pairs {news : List (Addr × Obj)} {vs : List Value} {ps : List (Int × Int)} (N : News h₀ L s.heap news) (hp : PairsP news vs ps) (h4 : ps.length = 4) : ∀ i j (C : Bool → Shared → Prop), i < 4 → j < 4 → C (ltP ps i j) s → kas_ask prog w A (tuples' true) vs i j C s := by
  intro i j C hi hj hC
  obtain ⟨a, n, t1, t2, ea, ma⟩ := hp.at (i := i) (by omega)
  obtain ⟨b, k, u1, u2, eb, mb⟩ := hp.at (i := j) (by omega)
  have e1 : vs.getD i Value.none = .ref a := by simp [List.getD, ea]
  have e2 : vs.getD j Value.none = .ref b := by simp [List.getD, eb]
  unfold kas_ask
  rw [e1, e2]
  refine kat_lt (N _ ma).1 rfl (N _ mb).1 rfl ?_
  simp only [List.zip_cons_cons, List.zip_nil_right]
  refine kat_cons (wpAny_eqBool_int ?_)
  unfold ltP at hC
  by_cases q : (ps.getD i (0, 0)).1 = (ps.getD j (0, 0)).1
  · rw [show ((ps.getD i (0, 0)).1 == (ps.getD j (0, 0)).1) = true by simpa using q]
    refine kat_yes (kat_cons (wpAny_eqBool_int ?_))
    by_cases r : (ps.getD i (0, 0)).2 = (ps.getD j (0, 0)).2
    · rw [show ((ps.getD i (0, 0)).2 == (ps.getD j (0, 0)).2) = true by simpa using r]
      refine kat_yes (kat_nil ?_)
      rw [lex2, if_pos q, if_pos r] at hC
      exact hC
    · rw [show ((ps.getD i (0, 0)).2 == (ps.getD j (0, 0)).2) = false by simpa using r]
      refine kat_no ?_
      refine kat_one _ _ (show wpAny _ _ (compareOp .Lt (.int _ _) (.int _ _)) _ _ _ from PyProof.Rows.lt_int ?_)
      show C _ _
      rw [lex2, if_pos q, if_neg r] at hC
      exact hC
  · rw [show ((ps.getD i (0, 0)).1 == (ps.getD j (0, 0)).1) = false by simpa using q]
    refine kat_no (oneLt_int ?_)
    rw [lex2, if_neg q] at hC
    exact hC
theorem firsts_pairs {news : List (Addr × Obj)} {vs : List Value} {ps : List (Int × Int)} (N : News h₀ L s.heap news) (hp : PairsP news vs ps) : ∃ fs, KatTups s.heap vs fs ∧ fs.length = ps.length ∧ ∀ v ∈ fs, ∃ k t, v = Value.int k t := by
  induction hp with
  | nil => exact ⟨[], trivial, rfl, fun _ h => nomatch h⟩
  | cons h _ ih =>
    obtain ⟨fs, h1, h2, h3⟩ := ih
    obtain ⟨a, n, t1, t2, rfl, hm⟩ := h
    refine ⟨.int _ t1 :: fs, KatTups.cons (N _ hm).1 rfl rfl rfl h1, by simp [h2], fun v hv => ?_⟩
    rcases List.mem_cons.mp hv with rfl | hv
    · exact ⟨_, _, rfl⟩
    · exact h3 v hv
def keyP (ps : List (Int × Int)) : List Int := ps.map fun q => q.1 * 65536 + q.2
theorem ltP_key {ps : List (Int × Int)} (hb : ∀ q ∈ ps, 0 ≤ q.2 ∧ q.2 < 65536) {i j : Nat} (hi : i < ps.length) (hj : j < ps.length) : ltP ps i j = decide ((keyP ps).getD i 0 < (keyP ps).getD j 0) := by
  have e : ∀ k, k < ps.length → (keyP ps).getD k 0 = (ps.getD k (0, 0)).1 * 65536 + (ps.getD k (0, 0)).2 := fun k hk => by simp [keyP, List.getD, hk]
  have b1 := hb _ (show ps.getD i (0, 0) ∈ ps by simp [List.getD, hi])
  have b2 := hb _ (show ps.getD j (0, 0) ∈ ps by simp [List.getD, hj])
  rw [e i hi, e j hj]
  unfold ltP
  rw [lex2]
  split
  · split
    · exact (decide_eq_false (by omega)).symm
    · exact decide_eq_decide.mpr (by omega)
  · exact decide_eq_decide.mpr (by omega)
theorem PairsP.pick {led : List (Addr × Obj)} {vs : List Value} {ps : List (Int × Int)} (h : PairsP led vs ps) : ∀ p : List Nat, (∀ i ∈ p, i < ps.length) → PairsP led (p.map fun i => vs.getD i Value.none) (p.map fun i => ps.getD i (0, 0))
  | [], _ => .nil
  | i :: r, hr => by
    obtain ⟨a, n, t1, t2, e, hm⟩ := h.at (i := i) (hr i (.head _))
    exact .cons ⟨a, n, t1, t2, by simp [List.getD, e], hm⟩ (PairsP.pick h r fun j hj => hr j (.tail _ hj))
theorem map_getD {α : Type} (d : α) : ∀ l : List α, (List.range l.length).map (fun i => l.getD i d) = l := fun l => by
  apply List.ext_getElem
  · simp
  · intro i h1 h2
    simp [List.getD, h2]
theorem sorted_pairs {news led : List (Addr × Obj)} {vs : List Value} {ps : List (Int × Int)} {n : Nat} {Q : Value → Shared → Prop} (F : Fr h₀ L s.heap m) (N : News h₀ L s.heap news) (hm : (l, W.listOf vs.toArray n) ∈ news) (hs : ∀ p ∈ led, p ∈ news) (hp : PairsP led vs ps) (h4 : ps.length = 4) (hb : ∀ q ∈ ps, 0 ≤ q.2 ∧ q.2 < 65536)
    (h : ∀ D us c qs h', Fr h₀ L h' m → News h₀ L h' ((D, W.listOf us.toArray c) :: news) → (∀ q ∈ news, q.1 < D) → PairsP led us qs → qs.Perm ps → (∀ i, i < 3 → (qs.getD i (0, 0)).1 ≤ (qs.getD (i + 1) (0, 0)).1) → Q (.ref D) { s with heap := h' }) :
    wpAny (model prog w) A (call (.builtin "sorted") [.ref l]) Q E s := by
  have hvl := hp.length
  have hl : s.heap.IsList l vs.toArray := ⟨_, (N _ hm).1, rfl, n, rfl⟩
  refine kat_sorted F N hl (by omega) (by omega) ?_
  intro D e1 h' F' N' lt
  have N2 : News h₀ L h' news := fun p hp => N' p (.tail _ hp)
  obtain ⟨fs, ht, hfl, hfi⟩ := firsts_pairs (s := { s with heap := h' }) N2 (hp.mono hs)
  refine kat_kind (T := .type "int") ht (by omega) (fun v hv => by obtain ⟨k, t, rfl⟩ := hfi v hv; exact Looks.of_pure rfl) (by decide) ?_
  have e4 : vs.length = 4 := by omega
  rw [e4]
  have hk4 : (keyP ps).length = 4 := by simp [keyP, h4]
  refine kas_pure (n := 4) (lt := ltP ps) (ask_pairs (s := { s with heap := h' }) N2 (hp.mono hs) h4) _ ok4 ?_
  rw [run_congr (n := 4) (lt' := fun i j => decide ((keyP ps).getD i 0 < (keyP ps).getD j 0)) (fun i j hi hj => ltP_key hb (by omega) (by omega)) _ ok4]
  obtain ⟨hperm, o1, o2, o3⟩ := permK_ok (keyP ps) hk4
  have hplt : ∀ i ∈ permK (keyP ps), i < ps.length := fun i hi => by
    have := hperm.mem_iff.mp hi
    simp only [List.mem_cons, List.not_mem_nil, or_false] at this
    omega
  have hplen : (permK (keyP ps)).length = 4 := hperm.length_eq
  refine KasFin.intro F' N' (UpdF.head (fun p hp => Nat.ne_of_lt (lt p hp))) fun h2 c F2 N3 => ?_
  refine h D _ c ((permK (keyP ps)).map fun i => ps.getD i (0, 0)) h2 F2 N3 lt (hp.pick _ hplt) ?_ ?_
  · have q := hperm.map fun i => ps.getD i (0, 0)
    refine q.trans (List.Perm.of_eq ?_)
    have e := map_getD (0, 0) ps
    rw [h4] at e
    exact e
  · intro i hi
    have ek : ∀ j, j < 4 → (keyP ps).getD ((permK (keyP ps)).getD j 0) 0 = (((permK (keyP ps)).map fun i => ps.getD i (0, 0)).getD j (0, 0)).1 * 65536 + (((permK (keyP ps)).map fun i => ps.getD i (0, 0)).getD j (0, 0)).2 ∧ 0 ≤ (((permK (keyP ps)).map fun i => ps.getD i (0, 0)).getD j (0, 0)).2 ∧ (((permK (keyP ps)).map fun i => ps.getD i (0, 0)).getD j (0, 0)).2 < 65536 := fun j hj => by
      have hjl : j < (permK (keyP ps)).length := by omega
      have hi' := hplt _ (show (permK (keyP ps)).getD j 0 ∈ permK (keyP ps) by simp [List.getD, hjl])
      have e1 : ((permK (keyP ps)).map fun i => ps.getD i (0, 0)).getD j (0, 0) = ps.getD ((permK (keyP ps)).getD j 0) (0, 0) := by simp [List.getD, hjl]
      rw [e1]
      have bb := hb _ (show ps.getD ((permK (keyP ps)).getD j 0) (0, 0) ∈ ps by simp only [List.getD]; simp only [List.getD] at hi'; simp [hi'])
      refine ⟨?_, bb⟩
      simp only [keyP, List.getD] at hi' ⊢
      simp [hi']
    have a0 := ek 0 (by omega)
    have a1 := ek 1 (by omega)
    have a2 := ek 2 (by omega)
    have a3 := ek 3 (by omega)
    match i, hi with
    | 0, _ => rw [show 0 + 1 = 1 from rfl]; omega
    | 1, _ => rw [show 1 + 1 = 2 from rfl]; omega
    | 2, _ => rw [show 2 + 1 = 3 from rfl]; omega
end
end
section
/-! the law's own body, statement by statement -/
abbrev StPost (h₀ : Heap) (L : Addr) (J : (Str → Option Value) → List (Addr × Obj) → Prop) (s : Shared) (Q : Flow → Shared → Prop) : Flow → Shared → Prop := fun f s' => match f with
  | .next => WEnd h₀ L J s s'
  | f => Q f s'
/-- the six cells, then the rest, which lies above them -/
abbrev led6 (L : Addr) (c6 c5 c4 c3 c2 c1 : Obj) (tl : List (Addr × Obj)) : List (Addr × Obj) :=
  (L + 1 + 1 + 1 + 1 + 1 + 1, c6) :: (L + 1 + 1 + 1 + 1 + 1, c5) :: (L + 1 + 1 + 1 + 1, c4) :: (L + 1 + 1 + 1, c3) :: (L + 1 + 1, c2) :: (L + 1, c1) :: tl
def Above (L : Addr) (tl : List (Addr × Obj)) : Prop := ∀ p ∈ tl, @Ne Nat p.1 (L + 1) ∧ @Ne Nat p.1 (L + 1 + 1) ∧ @Ne Nat p.1 (L + 1 + 1 + 1) ∧ @Ne Nat p.1 (L + 1 + 1 + 1 + 1) ∧ @Ne Nat p.1 (L + 1 + 1 + 1 + 1 + 1) ∧ @Ne Nat p.1 (L + 1 + 1 + 1 + 1 + 1 + 1)
theorem Above.ne1 {L : Addr} {tl : List (Addr × Obj)} (h : Above L tl) : ∀ p ∈ tl, p.1 ≠ L + 1 := fun p hp => (h p hp).1
theorem Above.ne2 {L : Addr} {tl : List (Addr × Obj)} (h : Above L tl) : ∀ p ∈ tl, p.1 ≠ L + 1 + 1 := fun p hp => (h p hp).2.1
theorem Above.ne3 {L : Addr} {tl : List (Addr × Obj)} (h : Above L tl) : ∀ p ∈ tl, p.1 ≠ L + 1 + 1 + 1 := fun p hp => (h p hp).2.2.1
theorem Above.ne4 {L : Addr} {tl : List (Addr × Obj)} (h : Above L tl) : ∀ p ∈ tl, p.1 ≠ L + 1 + 1 + 1 + 1 := fun p hp => (h p hp).2.2.2.1
theorem Above.ne5 {L : Addr} {tl : List (Addr × Obj)} (h : Above L tl) : ∀ p ∈ tl, p.1 ≠ L + 1 + 1 + 1 + 1 + 1 := fun p hp => (h p hp).2.2.2.2.1
theorem Above.ne6 {L : Addr} {tl : List (Addr × Obj)} (h : Above L tl) : ∀ p ∈ tl, p.1 ≠ L + 1 + 1 + 1 + 1 + 1 + 1 := fun p hp => (h p hp).2.2.2.2.2
theorem Above.cons {L a : Addr} {o : Obj} {tl : List (Addr × Obj)} (ha : @Ne Nat a (L + 1) ∧ @Ne Nat a (L + 1 + 1) ∧ @Ne Nat a (L + 1 + 1 + 1) ∧ @Ne Nat a (L + 1 + 1 + 1 + 1) ∧ @Ne Nat a (L + 1 + 1 + 1 + 1 + 1) ∧ @Ne Nat a (L + 1 + 1 + 1 + 1 + 1 + 1)) (h : Above L tl) : Above L ((a, o) :: tl) := fun p hp => by
  rcases List.mem_cons.mp hp with rfl | hp
  · exact ha
  · exact h p hp
theorem Above.nil {L : Addr} : Above L [] := fun _ h => nomatch h
theorem Above.app {L : Addr} {own tl : List (Addr × Obj)} (h1 : Above L own) (h2 : Above L tl) : Above L (own ++ tl) := fun p hp => (List.mem_append.mp hp).elim (h1 p) (h2 p)
theorem law_is {P : Prop} {x : Option Obj} {o o' : Obj} (h : x = some o) (e : x = some o') (k : o = o' → P) : P := k (Option.some.inj (h.symm.trans e))
def pw (g : Int) : List Int := [2 ^ (8 - 3 * g).toNat, 2 ^ (7 - 3 * g).toNat, 2 ^ (6 - 3 * g).toNat, 2 ^ (11 - g).toNat]
theorem led6_new {L : Addr} {c6 c5 c4 c3 c2 c1 : Obj} {x : Addr × Obj} {tl : List (Addr × Obj)} : ∀ p ∈ led6 L c6 c5 c4 c3 c2 c1 (x :: tl), p ∈ x :: led6 L c6 c5 c4 c3 c2 c1 tl := fun p hp => by
  simp only [led6, List.mem_cons] at hp ⊢
  rcases hp with h | h | h | h | h | h | h | h <;> simp [h]
theorem led6_tl {L : Addr} {c6 c5 c4 c3 c2 c1 : Obj} {tl tl' : List (Addr × Obj)} (h : ∀ p ∈ tl, p ∈ tl') : ∀ p ∈ led6 L c6 c5 c4 c3 c2 c1 tl, p ∈ led6 L c6 c5 c4 c3 c2 c1 tl' := fun p hp => by
  simp only [led6, List.mem_cons] at hp ⊢
  rcases hp with q | q | q | q | q | q | q
  · simp [q]
  · simp [q]
  · simp [q]
  · simp [q]
  · simp [q]
  · simp [q]
  · simp [h p q]
theorem led6_in {L : Addr} {c6 c5 c4 c3 c2 c1 : Obj} {tl : List (Addr × Obj)} {p : Addr × Obj} (h : p ∈ tl) : p ∈ led6 L c6 c5 c4 c3 c2 c1 tl := mem6 h
/-- lists of ints in the ledger -/
def ColP (led : List (Addr × Obj)) (v : Value) (q : List Int) : Prop := ∃ a vs n, v = .ref a ∧ (a, W.listOf vs.toArray n) ∈ led ∧ IntsAre vs q
inductive ColsP (led : List (Addr × Obj)) : List Value → List (List Int) → Prop
  | nil : ColsP led [] []
  | cons {v : Value} {q : List Int} {vs : List Value} {ps : List (List Int)} : ColP led v q → ColsP led vs ps → ColsP led (v :: vs) (q :: ps)
theorem ColP.mono {led led' : List (Addr × Obj)} (hs : ∀ p ∈ led, p ∈ led') {v : Value} {q : List Int} (h : ColP led v q) : ColP led' v q :=
  let ⟨a, vs, n, e, hm, hi⟩ := h; ⟨a, vs, n, e, hs _ hm, hi⟩
theorem ColsP.mono {led led' : List (Addr × Obj)} (hs : ∀ p ∈ led, p ∈ led') {vs : List Value} {ps : List (List Int)} (h : ColsP led vs ps) : ColsP led' vs ps := by
  induction h with
  | nil => exact .nil
  | cons h _ ih => exact .cons (h.mono hs) ih
theorem ColsP.length {led : List (Addr × Obj)} {vs : List Value} {ps : List (List Int)} (h : ColsP led vs ps) : vs.length = ps.length := by
  induction h with
  | nil => rfl
  | cons _ _ ih => simp [ih]
theorem ColsP.snoc {led : List (Addr × Obj)} {vs : List Value} {ps : List (List Int)} {v : Value} {q : List Int} (h : ColsP led vs ps) (k : ColP led v q) : ColsP led (vs ++ [v]) (ps ++ [q]) := by
  induction h with
  | nil => exact .cons k .nil
  | cons h _ ih => exact .cons h ih
theorem ColsP.at {led : List (Addr × Obj)} {vs : List Value} {ps : List (List Int)} (h : ColsP led vs ps) : ∀ {i : Nat} {q : List Int}, ps[i]? = some q → ∃ a us n, vs[i]? = some (.ref a) ∧ (a, W.listOf us.toArray n) ∈ led ∧ IntsAre us q := by
  induction h with
  | nil => intro i q e; simp at e
  | cons h r ih =>
    intro i q e
    cases i with
    | zero =>
      obtain ⟨a, us, n, rfl, hm, hi⟩ := h
      simp at e; subst e
      exact ⟨a, us, n, rfl, hm, hi⟩
    | succ i =>
      obtain ⟨a, us, n, e', hm, hi⟩ := ih (i := i) (by simpa using e)
      exact ⟨a, us, n, by simpa using e', hm, hi⟩
theorem pw_pow {g p : Int} {i : Nat} (h0 : 0 ≤ g) (h3 : g < 3) (h : (pw g)[i]? = some p) : ∃ e : Nat, e ≤ 11 ∧ p = 2 ^ e := by
  have hm := List.mem_of_getElem? h
  simp only [pw, List.mem_cons, List.not_mem_nil, or_false] at hm
  rcases hm with rfl | rfl | rfl | rfl
  · exact ⟨(8 - 3 * g).toNat, by omega, rfl⟩
  · exact ⟨(7 - 3 * g).toNat, by omega, rfl⟩
  · exact ⟨(6 - 3 * g).toNat, by omega, rfl⟩
  · exact ⟨(11 - g).toNat, by omega, rfl⟩
theorem pow_log {e : Nat} (h : e ≤ 11) : ((2 : Int) ^ e).natAbs.log2 < 9000 := by
  have : ∀ k : Fin 12, ((2 : Int) ^ k.val).natAbs.log2 < 9000 := by decide +kernel
  exact this ⟨e, by omega⟩
/-- the columns; the sums; a column in order -/
def colsF (g : Int) (md : List Int) : List (List Int) := (pw g).map fun p => md.map fun b => b / p % 2
def colF (g : Int) (md : List Int) (k : Nat) : List Int := (colsF g md).getD k []
def ordF (c : List Int) : List Int := List.replicate (c.length - c.sum.toNat) 0 ++ List.replicate c.sum.toNat 1
theorem ord_perm : ∀ (c : List Int), (∀ x ∈ c, x = 0 ∨ x = 1) → 0 ≤ c.sum ∧ c.sum ≤ c.length ∧ (ordF c).Perm c
  | [], _ => ⟨by simp, by simp, List.Perm.refl _⟩
  | x :: r, h => by
    obtain ⟨h1, h2, h3⟩ := ord_perm r fun y hy => h y (.tail _ hy)
    rcases h x (.head _) with rfl | rfl
    · refine ⟨by simp; omega, by simp; omega, ?_⟩
      unfold ordF at h3 ⊢
      have e : (0 :: r).length - (0 :: r).sum.toNat = (r.length - r.sum.toNat) + 1 := by simp; omega
      have e2 : (0 :: r).sum = r.sum := by simp
      rw [e, e2, List.replicate_succ]
      exact h3.cons _
    · refine ⟨by simp; omega, by simp; omega, ?_⟩
      unfold ordF at h3 ⊢
      have e : (1 :: r).sum.toNat = r.sum.toNat + 1 := by simp; omega
      have e2 : (1 :: r).length - (r.sum.toNat + 1) = r.length - r.sum.toNat := by simp
      rw [e, e2, List.replicate_succ]
      exact List.perm_middle.trans (h3.cons _)
theorem ord_sorted (c : List Int) : (ordF c).Pairwise (· ≤ ·) := by
  unfold ordF
  rw [List.pairwise_append]
  refine ⟨List.pairwise_replicate.mpr (Or.inr (Int.le_refl _)), List.pairwise_replicate.mpr (Or.inr (Int.le_refl _)), fun a ha b hb => ?_⟩
  rw [List.eq_of_mem_replicate ha, List.eq_of_mem_replicate hb]; decide
theorem ord_getD (c : List Int) (h1 : 0 ≤ c.sum) (h2 : c.sum ≤ c.length) (i : Nat) (hi : i < c.length) : (ordF c).getD i 0 = if i < c.length - c.sum.toNat then 0 else 1 := by
  unfold ordF
  by_cases h : i < c.length - c.sum.toNat
  · rw [if_pos h]
    simp [List.getD, List.getElem?_append, h]
  · rw [if_neg h]
    have q : i - (c.length - c.sum.toNat) < c.sum.toNat := by omega
    simp [List.getD, List.getElem?_append, h, q]
def lowF (c : List Int) : Int := if 2 * c.sum ≤ c.length then 0 else 1
def upF (c : List Int) : Int := if 2 * c.sum < c.length then 0 else 1
theorem low_eq (c : List Int) (h : ∀ x ∈ c, x = 0 ∨ x = 1) (hp : 0 < c.length) : (ordF c).getD ((c.length - 1) / 2) 0 = lowF c := by
  obtain ⟨h1, h2, _⟩ := ord_perm c h
  rw [ord_getD c h1 h2 _ (by omega), lowF]
  by_cases q : 2 * c.sum ≤ c.length
  · rw [if_pos q, if_pos (by omega)]
  · rw [if_neg q, if_neg (by omega)]
theorem up_eq (c : List Int) (h : ∀ x ∈ c, x = 0 ∨ x = 1) (hp : 0 < c.length) : (ordF c).getD (c.length / 2) 0 = upF c := by
  obtain ⟨h1, h2, _⟩ := ord_perm c h
  rw [ord_getD c h1 h2 _ (by omega), upF]
  by_cases q : 2 * c.sum < c.length
  · rw [if_pos q, if_pos (by omega)]
  · rw [if_neg q, if_neg (by omega)]
theorem col_at {g : Int} {md : List Int} {k : Nat} (hk : k < 4) : (colsF g md)[k]? = some (colF g md k) ∧ (colF g md k) = md.map fun b => b / (pw g).getD k 0 % 2 := by
  match k, hk with
  | 0, _ => exact ⟨rfl, rfl⟩
  | 1, _ => exact ⟨rfl, rfl⟩
  | 2, _ => exact ⟨rfl, rfl⟩
  | 3, _ => exact ⟨rfl, rfl⟩
theorem col_bits {g : Int} {md : List Int} {k : Nat} (hk : k < 4) : ∀ x ∈ colF g md k, x = 0 ∨ x = 1 := by
  intro x hx
  rw [(col_at hk).2] at hx
  obtain ⟨b, _, rfl⟩ := List.mem_map.mp hx
  omega
theorem col_len {g : Int} {md : List Int} {k : Nat} (hk : k < 4) : (colF g md k).length = md.length := by
  rw [(col_at hk).2, List.length_map]
abbrev setM (m : Str → Option Value) (x : Str) (v : Value) : Str → Option Value := fun y => if y = x then some v else m y
def minF (a b : Int) : Int := if b < a then b else a
def costF (g : Int) (md : List Int) : List (Int × Int) := (List.range 4).map fun k => (absI ((md.length : Int) - 2 * (colF g md k).sum), (pw g).getD k 0)
theorem re_cost {L : Addr} {c6 c5 c4 c3 c2 c1 : Obj} {x ak pI pC pD p1 p2 p3 : Addr × Obj} {own tl : List (Addr × Obj)} : ∀ p ∈ pI :: pC :: pD :: led6 L c6 c5 c4 c3 c2 c1 (p1 :: p2 :: p3 :: ((x :: own) ++ tl)), p ∈ x :: ak :: pI :: pC :: pD :: led6 L c6 c5 c4 c3 c2 c1 (p1 :: p2 :: p3 :: (own ++ tl)) := fun p hp => by
  simp only [led6, List.mem_cons, List.cons_append] at hp ⊢
  rcases hp with h | h | h | h | h | h | h | h | h | h | h | h | h | h <;> simp [h]
theorem cost_at {g : Int} {md : List Int} {i : Nat} (h : i < 4) : (costF g md).take (i + 1) = (costF g md).take i ++ [(absI ((md.length : Int) - 2 * (colF g md i).sum), (pw g).getD i 0)] := by
  rw [List.take_add_one]
  congr 1
  simp [costF, h]
theorem pw_bd {g : Int} (h0 : 0 ≤ g) (h3 : g < 3) (k : Nat) (hk : k < 4) : 0 < (pw g).getD k 0 ∧ (pw g).getD k 0 < 65536 := by
  obtain ⟨e, he, q⟩ := pw_pow (g := g) (i := k) (p := (pw g).getD k 0) h0 h3 (by simp [List.getD, pw, show k < 4 from hk])
  rw [q]
  have : ∀ e : Fin 12, (0 : Int) < 2 ^ e.val ∧ (2 : Int) ^ e.val < 65536 := by decide +kernel
  exact this ⟨e, by omega⟩
theorem cost_bd {g : Int} {md : List Int} (h0 : 0 ≤ g) (h3 : g < 3) : ∀ q ∈ costF g md, 0 ≤ q.2 ∧ q.2 < 65536 := by
  intro q hq
  obtain ⟨k, hk, rfl⟩ := List.mem_map.mp hq
  have := pw_bd h0 h3 k (List.mem_range.mp hk)
  exact ⟨Int.le_of_lt this.1, this.2⟩
theorem off1_all {D : Addr} : ∀ {l : List (Addr × Obj)}, LCg.Off1 D l → ∀ p ∈ l, @Ne Nat p.1 D
  | [], _, _, h => nomatch h
  | q :: r, h, p, hp => by
    rcases List.mem_cons.mp hp with rfl | hp
    · exact h.1
    · exact off1_all h.2 p hp
theorem known_eq {m : Str → Option Value} {ps : List (Str × Value)} (e : KnownAll m ps) : kstB m ps = m := funext fun _ => kstB_eq e.mem fun _ => rfl
theorem take_snoc {α β : Type} (f : α → β) {l : List α} {i : Nat} {x : α} (h : l[i]? = some x) : (l.take (i + 1)).map f = (l.take i).map f ++ [f x] := by
  rw [List.take_add_one, h, List.map_append]; rfl
theorem getD_some {α : Type} {l : List α} {i : Nat} {d : α} (h : i < l.length) : l[i]? = some (l.getD i d) := by simp [List.getD, h]
def ringS (g : Int) : Str := if g = 2 then Str.ofString "-Ttx" else Str.ofString "-Ssx"
theorem strs_at {vs : List Value} {xs : List Str} (h : StrsAre vs xs) : ∀ (i : Nat) v, vs[i]? = some v → ∃ x t, v = .str x t ∧ xs[i]? = some x := by
  induction h with
  | nil => intro i v e; simp at e
  | cons x t _ ih =>
    intro i v e
    cases i with
    | zero => simp at e; exact ⟨x, t, e.symm, rfl⟩
    | succ i => simpa using ih i v (by simpa using e)
/-- what the three signs give -/
def givF (x : Str) : List Bool := [Txt.item x 0 == Str.ofString "r", Txt.item x 1 == Str.ofString "w", !(Builtin.Str.occurrences (Str.ofString "xst") (Txt.item x 2) 0 (Str.ofString "xst").length 1).isEmpty]
theorem ne_bools3 {prog : Program} {w : World} {A : Around} {E : Value → Shared → Prop} {s : Shared} {a b : Addr} {b0 b1 b2 : Bool} {Q : Value → Shared → Prop} (hl : s.heap.IsList a [Value.bool b0, .bool b1, .bool b2].toArray) (hl' : s.heap.IsList b [Value.bool b0, .bool b1, .bool b2].toArray) (hu : A.units + 64 < cLine) (h : Q (.bool false) s) :
    wpAny (model prog w) A (compareOp .NotEq (.ref a) (.ref b)) Q E s := by
  obtain ⟨o, ho, hc, n, hd⟩ := hl
  obtain ⟨o', ho', hc', n', hd'⟩ := hl'
  refine ne_dataH_same (da := .list [.bool b0, .bool b1, .bool b2]) (db := .list [.bool b0, .bool b1, .bool b2]) (Reads.list ho hc hd (.cons (.bool b0) (.cons (.bool b1) (.cons (.bool b2) .nil)))) (Reads.list ho' hc' hd' (.cons (.bool b0) (.cons (.bool b1) (.cons (.bool b2) .nil)))) ?_ ?_ hu ?_ ?_
  · cases b0 <;> cases b1 <;> cases b2 <;> decide
  · cases b0 <;> cases b1 <;> cases b2 <;> decide
  · cases b0 <;> cases b1 <;> cases b2 <;> decide
  · have e : PySem.Spec.same (.list [.bool b0, .bool b1, .bool b2]) (.list [.bool b0, .bool b1, .bool b2]) = true := by cases b0 <;> cases b1 <;> cases b2 <;> decide
    rw [e]; exact h
theorem ms_sorted (cs : List Int) : (cs.mergeSort (fun a b => decide (a ≤ b))).Pairwise (· ≤ ·) := by
  have h := List.pairwise_mergeSort (le := fun (a b : Int) => decide (a ≤ b)) (fun a b c h1 h2 => by simp at *; omega) (fun a b => by simp; omega) cs
  exact h.imp (fun q => by simpa using q)
def sgnF (g b : Int) : Str := Txt.slice (fmStr b) (some (1 + 3 * g)) (some (4 + 3 * g))
end
section
local macro_rules | `(tactic| walk_at "binaryOp RShift int int") => `(tactic| (k_here; (with_reducible refine shr1 ?_)))
local macro_rules | `(tactic| walk_at "binaryOp Mod int int") => `(tactic| (k_here; (with_reducible refine mod_pos ?k1 ?_); (case k1 => decide)))
local macro_rules | `(tactic| walk_at "binaryOp FloorDiv int int") => `(tactic| (k_here; (with_reducible refine fdiv_pos ?k1 ?k2 ?_); (case k1 => decide); (case k2 => decide +kernel)))
local macro_rules | `(tactic| k_all) => `(tactic| with_reducible assumption)
local macro_rules | `(tactic| l_idx) => `(tactic| omega)
local macro_rules | `(tactic| k_upd) => `(tactic| first | (refine' Pick.head ?a; (case a => k_all)) | (refine' Pick.tail ?a ?b; (case a => k_ne); (case b => k_upd)))
local macro_rules | `(tactic| walk_at "call ref") => `(tactic| (k_here; refine wpAny_call ?_; k_dflt (refine' code_def ?k1 ?k2 ?k3 ?k4 ?k5 ?kA ?kF ?kK ?k6 ?k7 ?k8 ?k9 ?kB ?_ ?c2 ?c3 ?c4 ?c5; (case kA => exact rfl); (case kF => exact rfl); (case kK => first | exact rfl | assumption); (case k1 => k_asm); (case k2 => k_asm); (case k3 => k_asm); (case k4 => k_asm); (case k5 => k_asm); (case k6 => k_is); (case k7 => k_is); (case k8 => ktr_room); (case k9 => exact BindsTo.of_eq rfl); (case c5 => decide); (case kB => exact locs rfl); (case c2 => exact rfl); (case c3 => exact rfl); (case c4 => exact rfl); k_whole; intro g' L' h' FG' F' N' B' X' T'; (try dsimp only); (try k_lift B'); (try k_fold))))
section
variable {w : World} {mean : ExcName → Option Value} {mg mb : Str → Option Value} {a : Addr} {ccd : Value} {h₀ : Heap} {L : Addr} {m : Str → Option Value} {s : Shared} {Q : Flow → Shared → Prop} {E : Value → Shared → Prop}
  {oc : Value} {od : Option Addr} {name qual : Str} {params : Arguments} {body : List Stmt} {scope : Scope} {dV kV doc pm cdv ct : Value} {an : Option Addr} {osl : Array (Option Value)} {st : Stmt}
local macro_rules | `(tactic| walk_at "eval ListComp") => `(tactic| (k_here; (with_reducible show wpAny _ _ (eval (PySem.Expr.ListComp _ [⟨PySem.Expr.Name _ _, _, [], 0⟩] _ _) _) _ _ _); k_dflt (refine LCg.ListComp_U (F₀ := by k_asm) (by with_unfolding_all rfl) (by decide) (by rfl) (by decide) (by rfl) ?_)))
local macro_rules | `(tactic| walk_at "CompSrc") => `(tactic| k_extra "CompSrc")
set_option maxHeartbeats 4000000 in
theorem st_modes {ls : Addr} {vs : List Value} {sc : List Int} {c6 c5 c4 c3 c2 c1 : Obj} {v1 : Option Value} {ts : Tok}
    (ho : (hd.heap_39 w.params).lookup 145 = some ⟨oc, od, .func (fnOf name qual params body scope dV kV doc pm an cdv ct), osl⟩) (hst : body[0]? = some st)
    (B : Below callerA h₀ [] h₀) (X : (hd.heap_39 w.params).In h₀) (T : Top hd.view_39 lz mean mg mb h₀) (hl : h₀.IsList ls vs.toArray) (hi : IntsAre vs sc) (h63 : sc.length ≤ 63)
    (F : Fr h₀ L s.heap m) (hm : KnownAll m [(Str.ofString "script", .ref ls)]) (N : News h₀ L s.heap (led6 L c6 c5 c4 c3 c2 c1 [])) (d1 : c1.data = .cell v1) :
    wpAny (model prg w) (callerA.deeper (envOfC qual scope L a ccd)) (exec st (envOfC qual scope L a ccd))
      (StPost h₀ L (fun m' nx => KnownAll m' [(Str.ofString "script", .ref ls)] ∧ ∃ c1 lm vm nm md, nx = led6 L c6 c5 c4 c3 c2 c1 [(lm, W.listOf vm.toArray nm)] ∧ Above L [(lm, W.listOf vm.toArray nm)] ∧ c1.data = .cell (some (.ref lm)) ∧ IntsAre vm md ∧ 2 ≤ md.length ∧ md.length ≤ 5 ∧ ∀ x ∈ md, 0 ≤ x ∧ x < 65536) s Q) E s := by
  revert X; unfold prg; w_top off; k_fill; intro X
  refine' law_is ho ?e ?_
  case e => k_is
  intro hq
  clear ho
  cases hq
  simp only [List.getElem?_cons_zero, Option.some.injEq] at hst
  subst hst
  have F1 := fr_knownL hm F
  dsimp only [kstB] at F1
  clear F
  k_with_none
  k_with "CompSrc" => refine held ?_
  k_steps
  refine Held.out ?_
  unfold Held
  refine LCg.CompSrc.ledger (by rfl) (by k_asm) (by k_asm) (by k_mem) (by kcf_size) ?_
  intro g'
  refine kcf_list (fun q => q % 65536) (by assumption) (fun k' t' I' oI' C' oC' D' m' ys' h' tk' E' hk' hC' hx' F' N' off' ne' hMark' => ?_) ?_
  · simp only [LCg.Off3, and_true] at off'
    k_steps
  k_steps
  rename_i D _ _ o1 _ o _ _ dd
  dsimp only
  rename IntsAre ys _ => hI8
  refine WEnd.intro (nx := led6 L c6 c5 c4 c3 c2 o [(D, W.listOf ys.toArray ys.length)]) (by k_asm) (by k_asm) ?sub ⟨⟨rfl, trivial⟩, o, D, ys, ys.length, _, rfl, Above.cons ?ab Above.nil, dd, hI8, ?l2, ?l5, ?bd⟩
  case ab => omega
  case sub =>
    intro p hp
    simp only [led6, List.mem_cons, List.not_mem_nil, or_false] at hp ⊢
    rcases hp with h | h | h | h | h | h | h <;> simp [h]
  case l2 => simp only [List.length_map, List.length_append, List.length_cons, List.length_nil]; omega
  case l5 => simp only [List.length_map, List.length_append, List.length_cons, List.length_nil, List.length_take]; omega
  case bd =>
    intro x hx
    obtain ⟨y, _, rfl⟩ := List.mem_map.mp hx
    omega
end
end
section
local macro_rules | `(tactic| walk_at "binaryOp RShift int int") => `(tactic| (k_here; (with_reducible refine shr1 ?_)))
local macro_rules | `(tactic| walk_at "binaryOp Mod int int") => `(tactic| (k_here; (with_reducible refine mod_pos ?k1 ?_); (case k1 => decide)))
local macro_rules | `(tactic| walk_at "binaryOp FloorDiv int int") => `(tactic| (k_here; (with_reducible refine fdiv_pos ?k1 ?k2 ?_); (case k1 => decide); (case k2 => decide +kernel)))
local macro_rules | `(tactic| k_all) => `(tactic| with_reducible assumption)
local macro_rules | `(tactic| l_idx) => `(tactic| omega)
local macro_rules | `(tactic| k_upd) => `(tactic| first | (refine' Pick.head ?a; (case a => k_all)) | (refine' Pick.tail ?a ?b; (case a => k_ne); (case b => k_upd)))
local macro_rules | `(tactic| walk_at "call ref") => `(tactic| (k_here; refine wpAny_call ?_; k_dflt (refine' code_def ?k1 ?k2 ?k3 ?k4 ?k5 ?kA ?kF ?kK ?k6 ?k7 ?k8 ?k9 ?kB ?_ ?c2 ?c3 ?c4 ?c5; (case kA => exact rfl); (case kF => exact rfl); (case kK => first | exact rfl | assumption); (case k1 => k_asm); (case k2 => k_asm); (case k3 => k_asm); (case k4 => k_asm); (case k5 => k_asm); (case k6 => k_is); (case k7 => k_is); (case k8 => ktr_room); (case k9 => exact BindsTo.of_eq rfl); (case c5 => decide); (case kB => exact locs rfl); (case c2 => exact rfl); (case c3 => exact rfl); (case c4 => exact rfl); k_whole; intro g' L' h' FG' F' N' B' X' T'; (try dsimp only); (try k_lift B'); (try k_fold))))
section
variable {w : World} {mean : ExcName → Option Value} {mg mb : Str → Option Value} {a : Addr} {ccd : Value} {h₀ : Heap} {L : Addr} {m : Str → Option Value} {s : Shared} {Q : Flow → Shared → Prop} {E : Value → Shared → Prop}
  {oc : Value} {od : Option Addr} {name qual : Str} {params : Arguments} {body : List Stmt} {scope : Scope} {dV kV doc pm cdv ct : Value} {an : Option Addr} {osl : Array (Option Value)} {st : Stmt}

set_option maxHeartbeats 8000000 in
theorem st_group {ls : Addr} {vs : List Value} {sc : List Int} {c6 c5 c4 c3 c2 c1 : Obj} {v2 : Option Value} {tl : List (Addr × Obj)}
    (ho : (hd.heap_39 w.params).lookup 145 = some ⟨oc, od, .func (fnOf name qual params body scope dV kV doc pm an cdv ct), osl⟩) (hst : body[1]? = some st)
    (B : Below callerA h₀ [] h₀) (X : (hd.heap_39 w.params).In h₀) (T : Top hd.view_39 lz mean mg mb h₀) (F : Fr h₀ L s.heap m)
    (hl : h₀.IsList ls vs.toArray) (hi : IntsAre vs sc) (h63 : sc.length ≤ 63) (hm : KnownAll m [(Str.ofString "script", .ref ls)]) (N : News h₀ L s.heap (led6 L c6 c5 c4 c3 c2 c1 tl)) (hab : Above L tl) (d2 : c2.data = .cell v2) :
    wpAny (model prg w) (callerA.deeper (envOfC qual scope L a ccd)) (exec st (envOfC qual scope L a ccd))
      (StPost h₀ L (fun m' nx => ∃ c2 g t, nx = led6 L c6 c5 c4 c3 c2 c1 tl ∧ c2.data = .cell (some (.int g t)) ∧ 0 ≤ g ∧ g < 3) s Q) E s := by
  revert X; unfold prg; w_top off; k_fill; intro X
  refine' law_is ho ?e ?_
  case e => k_is
  intro hq
  clear ho
  cases hq
  simp only [List.getElem?_cons_zero, List.getElem?_cons_succ, Option.some.injEq] at hst
  subst hst
  have F1 := fr_knownL hm F
  dsimp only [kstB] at F1
  clear F
  have a2 := hab.ne2
  k_with_none
  k_steps
  dsimp only
  refine WEnd.intro (by k_asm) (by k_asm) (fun p hp => hp) ⟨_, _, _, rfl, by assumption, by omega, by omega⟩
end
end
section
local macro_rules | `(tactic| walk_at "binaryOp RShift int int") => `(tactic| (k_here; (with_reducible refine shr1 ?_)))
local macro_rules | `(tactic| walk_at "binaryOp Mod int int") => `(tactic| (k_here; (with_reducible refine mod_pos ?k1 ?_); (case k1 => decide)))
local macro_rules | `(tactic| walk_at "binaryOp FloorDiv int int") => `(tactic| (k_here; (with_reducible refine fdiv_pos ?k1 ?k2 ?_); (case k1 => decide); (case k2 => decide +kernel)))
local macro_rules | `(tactic| k_all) => `(tactic| with_reducible assumption)
local macro_rules | `(tactic| l_idx) => `(tactic| omega)
local macro_rules | `(tactic| k_upd) => `(tactic| first | (refine' Pick.head ?a; (case a => k_all)) | (refine' Pick.tail ?a ?b; (case a => k_ne); (case b => k_upd)))
local macro_rules | `(tactic| walk_at "call ref") => `(tactic| (k_here; refine wpAny_call ?_; k_dflt (refine' code_def ?k1 ?k2 ?k3 ?k4 ?k5 ?kA ?kF ?kK ?k6 ?k7 ?k8 ?k9 ?kB ?_ ?c2 ?c3 ?c4 ?c5; (case kA => exact rfl); (case kF => exact rfl); (case kK => first | exact rfl | assumption); (case k1 => k_asm); (case k2 => k_asm); (case k3 => k_asm); (case k4 => k_asm); (case k5 => k_asm); (case k6 => k_is); (case k7 => k_is); (case k8 => ktr_room); (case k9 => exact BindsTo.of_eq rfl); (case c5 => decide); (case kB => exact locs rfl); (case c2 => exact rfl); (case c3 => exact rfl); (case c4 => exact rfl); k_whole; intro g' L' h' FG' F' N' B' X' T'; (try dsimp only); (try k_lift B'); (try k_fold))))
section
variable {w : World} {mean : ExcName → Option Value} {mg mb : Str → Option Value} {a : Addr} {ccd : Value} {h₀ : Heap} {L : Addr} {m : Str → Option Value} {s : Shared} {Q : Flow → Shared → Prop} {E : Value → Shared → Prop}
  {oc : Value} {od : Option Addr} {name qual : Str} {params : Arguments} {body : List Stmt} {scope : Scope} {dV kV doc pm cdv ct : Value} {an : Option Addr} {osl : Array (Option Value)} {st : Stmt}
local macro_rules | `(tactic| walk_at "binaryOp Pow int int") => `(tactic| (k_here; (refine pow_int_small ?k1 ?k2 ?k3 ?_); (case k1 => omega); (case k2 => omega); (case k3 => decide)))
set_option maxHeartbeats 8000000 in
theorem st_powers {c6 c5 c4 c3 c2 c1 : Obj} {v3 : Option Value} {tl : List (Addr × Obj)} {g : Int} {tg : Tok}
    (ho : (hd.heap_39 w.params).lookup 145 = some ⟨oc, od, .func (fnOf name qual params body scope dV kV doc pm an cdv ct), osl⟩) (hst : body[2]? = some st)
    (B : Below callerA h₀ [] h₀) (X : (hd.heap_39 w.params).In h₀) (T : Top hd.view_39 lz mean mg mb h₀) (F : Fr h₀ L s.heap m)
    (N : News h₀ L s.heap (led6 L c6 c5 c4 c3 c2 c1 tl)) (hab : Above L tl) (d2 : c2.data = .cell (some (.int g tg))) (d3 : c3.data = .cell v3) (hg0 : 0 ≤ g) (hg3 : g < 3) :
    wpAny (model prg w) (callerA.deeper (envOfC qual scope L a ccd)) (exec st (envOfC qual scope L a ccd))
      (StPost h₀ L (fun m' nx => ∃ c3 lp vp np, nx = led6 L c6 c5 c4 c3 c2 c1 ((lp, W.listOf vp.toArray np) :: tl) ∧ Above L ((lp, W.listOf vp.toArray np) :: tl) ∧ c3.data = .cell (some (.ref lp)) ∧ IntsAre vp (pw g)) s Q) E s := by
  revert X; unfold prg; w_top off; k_fill; intro X
  refine' law_is ho ?e ?_
  case e => k_is
  intro hq
  clear ho
  cases hq
  simp only [List.getElem?_cons_zero, List.getElem?_cons_succ, Option.some.injEq] at hst
  subst hst
  have a3 := hab.ne3
  k_with_none
  k_steps
  rename News _ _ _ _ => N9
  rename_i lp _ l1 _ o _ dd
  dsimp only
  exact WEnd.intro (by k_asm) N9 led6_new ⟨o, lp, _, 0, rfl, Above.cons (by omega) hab, dd, .cons _ _ (.cons _ _ (.cons _ _ (.cons _ _ .nil)))⟩
end
end
section
local macro_rules | `(tactic| walk_at "binaryOp RShift int int") => `(tactic| (k_here; (with_reducible refine shr1 ?_)))
local macro_rules | `(tactic| walk_at "binaryOp Mod int int") => `(tactic| (k_here; (with_reducible refine mod_pos ?k1 ?_); (case k1 => decide)))
local macro_rules | `(tactic| walk_at "binaryOp FloorDiv int int") => `(tactic| (k_here; (with_reducible refine fdiv_pos ?k1 ?k2 ?_); (case k1 => decide); (case k2 => decide +kernel)))
local macro_rules | `(tactic| k_all) => `(tactic| with_reducible assumption)
local macro_rules | `(tactic| l_idx) => `(tactic| omega)
local macro_rules | `(tactic| k_upd) => `(tactic| first | (refine' Pick.head ?a; (case a => k_all)) | (refine' Pick.tail ?a ?b; (case a => k_ne); (case b => k_upd)))
local macro_rules | `(tactic| walk_at "call ref") => `(tactic| (k_here; refine wpAny_call ?_; k_dflt (refine' code_def ?k1 ?k2 ?k3 ?k4 ?k5 ?kA ?kF ?kK ?k6 ?k7 ?k8 ?k9 ?kB ?_ ?c2 ?c3 ?c4 ?c5; (case kA => exact rfl); (case kF => exact rfl); (case kK => first | exact rfl | assumption); (case k1 => k_asm); (case k2 => k_asm); (case k3 => k_asm); (case k4 => k_asm); (case k5 => k_asm); (case k6 => k_is); (case k7 => k_is); (case k8 => ktr_room); (case k9 => exact BindsTo.of_eq rfl); (case c5 => decide); (case kB => exact locs rfl); (case c2 => exact rfl); (case c3 => exact rfl); (case c4 => exact rfl); k_whole; intro g' L' h' FG' F' N' B' X' T'; (try dsimp only); (try k_lift B'); (try k_fold))))
section
variable {w : World} {mean : ExcName → Option Value} {mg mb : Str → Option Value} {a : Addr} {ccd : Value} {h₀ : Heap} {L : Addr} {m : Str → Option Value} {s : Shared} {Q : Flow → Shared → Prop} {E : Value → Shared → Prop}
  {oc : Value} {od : Option Addr} {name qual : Str} {params : Arguments} {body : List Stmt} {scope : Scope} {dV kV doc pm cdv ct : Value} {an : Option Addr} {osl : Array (Option Value)} {st : Stmt}
local macro_rules | `(tactic| walk_at "eval ListComp") => `(tactic| (k_here; (with_reducible show wpAny _ _ (eval (PySem.Expr.ListComp _ [⟨PySem.Expr.Name _ _, _, [], 0⟩] _ _) _) _ _ _); k_dflt (refine ListComp_C (_F₀ := by k_asm) (by with_unfolding_all rfl) (by rfl) (by decide) ?_)))
local macro_rules | `(tactic| walk_at "eval ListComp") => `(tactic| (k_here; (with_reducible show wpAny _ _ (eval (PySem.Expr.ListComp _ [⟨PySem.Expr.Name _ _, _, [], 0⟩] _ _) _) _ _ _); k_dflt (refine LCg.ListComp_U (F₀ := by k_asm) (by with_unfolding_all rfl) (by decide) (by rfl) (by decide) (by rfl) ?_)))
local macro_rules | `(tactic| walk_at "CompSrc") => `(tactic| k_extra "CompSrc")
local macro_rules | `(tactic| walk_at "binaryOp FloorDiv int int") => `(tactic| k_extra "binaryOp FloorDiv int int")
set_option maxHeartbeats 8000000 in
theorem st_columns {c6 c5 c4 c3 c2 c1 : Obj} {v4 : Option Value} {tl : List (Addr × Obj)} {g : Int} {lm lp : Addr} {vm vp : List Value} {nm np : Nat} {md : List Int}
    (ho : (hd.heap_39 w.params).lookup 145 = some ⟨oc, od, .func (fnOf name qual params body scope dV kV doc pm an cdv ct), osl⟩) (hst : body[3]? = some st)
    (B : Below callerA h₀ [] h₀) (X : (hd.heap_39 w.params).In h₀) (T : Top hd.view_39 lz mean mg mb h₀) (F : Fr h₀ L s.heap m)
    (N : News h₀ L s.heap (led6 L c6 c5 c4 c3 c2 c1 tl)) (hab : Above L tl) (d1 : c1.data = .cell (some (.ref lm))) (d3 : c3.data = .cell (some (.ref lp))) (d4 : c4.data = .cell v4) (hg0 : 0 ≤ g) (hg3 : g < 3)
    (hlm : (lm, W.listOf vm.toArray nm) ∈ tl) (him : IntsAre vm md) (h5 : md.length ≤ 5) (hlp : (lp, W.listOf vp.toArray np) ∈ tl) (hip : IntsAre vp (pw g)) :
    wpAny (model prg w) (callerA.deeper (envOfC qual scope L a ccd)) (exec st (envOfC qual scope L a ccd))
      (StPost h₀ L (fun m' nx => ∃ c4 lc vc nc own, nx = led6 L c6 c5 c4 c3 c2 c1 ((lc, W.listOf vc.toArray nc) :: (own ++ tl)) ∧ Above L ((lc, W.listOf vc.toArray nc) :: (own ++ tl)) ∧ c4.data = .cell (some (.ref lc)) ∧ ColsP ((lc, W.listOf vc.toArray nc) :: (own ++ tl)) vc ((pw g).map fun p => md.map fun b => b / p % 2)) s Q) E s := by
  revert X; unfold prg; w_top off; k_fill; intro X
  refine' law_is ho ?e ?_
  case e => k_is
  intro hq
  clear ho
  cases hq
  simp only [List.getElem?_cons_zero, List.getElem?_cons_succ, Option.some.injEq] at hst
  subst hst
  have a4 := hab.ne4
  replace N : News h₀ L s.heap (led6 L c6 c5 c4 c3 c2 c1 ((lm, W.listOf vm.toArray nm) :: (lp, W.listOf vp.toArray np) :: tl)) := fun p hp => N p (led6_tl (fun q hq => by
    rcases List.mem_cons.mp hq with rfl | hq
    · exact hlm
    · rcases List.mem_cons.mp hq with rfl | hq
      · exact hlp
      · exact hq) p hp)
  have am := hab _ hlm
  have ap := hab _ hlp
  dsimp only at am ap
  have hml := him.length
  k_with_none
  k_steps
  refine CellSrc.list (fun i ys nx => ∃ own, nx = led6 L c6 c5 c4 c3 c2 c1 ((lm, W.listOf vm.toArray nm) :: (lp, W.listOf vp.toArray np) :: (own ++ tl)) ∧ Above L own ∧ ColsP own ys (((pw g).map fun p => md.map fun b => b / p % 2).take i)) rfl (fun _ => rfl) (fun _ => rfl) rfl (by with_unfolding_all rfl) F N (led6_in (.tail _ (.head _))) (by rw [hip.length, sizeLine_eq]; show 4 ≤ _; omega) ⟨[], rfl, Above.nil, .nil⟩ ?hkeep ?turn ?done
  case hkeep =>
    rintro i ys nx ⟨own, rfl, _⟩
    exact led6_in (.tail _ (.head _))
  case turn =>
    intro i v ys nx I oI C oC D K oK g1 h tk E' hv hJ hoK F2 N2 off ne
    obtain ⟨own, rfl, hown, hcols⟩ := hJ
    obtain ⟨p, t, rfl, hpi⟩ := IntsAre.at hip i v hv
    obtain ⟨e, he, rfl⟩ := pw_pow hg0 hg3 hpi
    clear F N
    k_with_none
    k_with "CompSrc" => refine held ?_
    k_steps
    refine Held.out ?_
    unfold Held
    have hol : (lm, W.listOf vm.toArray nm) ∈ led6 L c6 c5 c4 c3 c2 c1 ((lm, W.listOf vm.toArray nm) :: (lp, W.listOf vp.toArray np) :: (own ++ tl)) := led6_in (.head _)
    refine LCg.CompSrc.ledger (by rfl) (by k_asm) (by k_asm) (mem4 hol) (by rw [List.size_toArray, hml, sizeLine_eq]; omega) ?_
    intro g'
    k_with_none
    k_with "binaryOp FloorDiv int int" => refine held ?_
    refine kcf_list (fun b => b / 2 ^ e % 2) him (fun k' t' I' oI' C' oC' D' m' ys' h' tk' E' hk' hC' hx' F' N' off' ne' hMark' => ?_) ?_
    · simp only [LCg.Off3, and_true] at off'
      k_steps
      refine Held.out ?_
      unfold Held
      refine fdiv_pos (Int.pow_pos (by decide)) (pow_log he) ?_
      k_steps
    k_steps
    rename News _ _ _ _ => N9
    rename IntsAre ys _ => hI8
    rename_i D2 _ _ _ o1
    refine CEnd.intro (by k_asm) N9 (led6 L c6 c5 c4 c3 c2 c1 ((lm, W.listOf vm.toArray nm) :: (lp, W.listOf vp.toArray np) :: (((D2, W.listOf ys.toArray ys.length) :: own) ++ tl))) ?sub ?off ⟨(D2, W.listOf ys.toArray ys.length) :: own, rfl, ?ab, ?cols⟩
    case ab => exact Above.cons (by have := o1.2.2.2.2; omega) hown
    case cols =>
      rw [List.take_add_one, List.getElem?_map, hpi]
      exact (hcols.mono fun p hp => .tail _ hp).snoc ⟨D2, ys, ys.length, rfl, .head _, hI8⟩
    case sub =>
      intro p hp
      simp only [led6, List.mem_cons, List.cons_append] at hp ⊢
      rcases hp with h | h | h | h | h | h | h | h | h | h | h | h | h | h <;> simp [h]
    case off =>
      intro p hp
      simp only [led6, List.mem_cons, List.cons_append] at hp
      rcases hp with h | h | h | h | h | h | h | h | h | h
      · rw [h]; exact off _ (.head _)
      · rw [h]; exact off _ (.tail _ (.head _))
      · rw [h]; exact off _ (mem2 (.head _))
      · rw [h]; exact off _ (mem3 (.head _))
      · rw [h]; exact off _ (mem4 (.head _))
      · rw [h]; exact off _ (mem5 (.head _))
      · rw [h]; exact off _ (mem6 (.head _))
      · rw [h]; exact off _ (mem7 (.head _))
      · rw [h]; exact ⟨Ne.symm o1.1, Ne.symm o1.2.1, Ne.symm o1.2.2.1, Ne.symm o1.2.2.2.1⟩
      · exact off _ (mem8 h)
  case done =>
    intro D ys nx h tk hJ F2 N2 off
    obtain ⟨own, rfl, hown, hcols⟩ := hJ
    have e6 : @Ne Nat (L + 1 + 1 + 1 + 1 + 1 + 1) D := off _ (.head _)
    have e5 : @Ne Nat (L + 1 + 1 + 1 + 1 + 1) D := off _ (.tail _ (.head _))
    have e4 : @Ne Nat (L + 1 + 1 + 1 + 1) D := off _ (mem2 (.head _))
    have e3 : @Ne Nat (L + 1 + 1 + 1) D := off _ (mem3 (.head _))
    have e2 : @Ne Nat (L + 1 + 1) D := off _ (mem4 (.head _))
    have e1 : @Ne Nat (L + 1) D := off _ (mem5 (.head _))
    have hall : Above L (own ++ tl) := hown.app hab
    have b4 := hall.ne4
    have hys := hcols.length
    clear F N
    k_with_none
    k_steps
    rename News _ _ _ _ => N9
    rename_i o _ dd
    dsimp only
    refine WEnd.intro (nx := led6 L c6 c5 o c3 c2 c1 ((D, W.listOf ys.toArray ys.length) :: (own ++ tl))) (by k_asm) N9 ?sub ⟨o, D, ys, ys.length, own, rfl, Above.cons (by omega) hall, dd, ?cols⟩
    case sub =>
      intro p hp
      simp only [led6, List.mem_cons] at hp ⊢
      rcases hp with h | h | h | h | h | h | h | h <;> simp [h]
    case cols =>
      rw [hip.length, List.take_of_length_le (by simp [pw])] at hcols
      exact hcols.mono fun p hp => .tail _ (List.mem_append_left _ hp)
end
end
section
local macro_rules | `(tactic| walk_at "binaryOp RShift int int") => `(tactic| (k_here; (with_reducible refine shr1 ?_)))
local macro_rules | `(tactic| walk_at "binaryOp Mod int int") => `(tactic| (k_here; (with_reducible refine mod_pos ?k1 ?_); (case k1 => decide)))
local macro_rules | `(tactic| walk_at "binaryOp FloorDiv int int") => `(tactic| (k_here; (with_reducible refine fdiv_pos ?k1 ?k2 ?_); (case k1 => decide); (case k2 => decide +kernel)))
local macro_rules | `(tactic| k_all) => `(tactic| with_reducible assumption)
local macro_rules | `(tactic| l_idx) => `(tactic| omega)
local macro_rules | `(tactic| k_upd) => `(tactic| first | (refine' Pick.head ?a; (case a => k_all)) | (refine' Pick.tail ?a ?b; (case a => k_ne); (case b => k_upd)))
local macro_rules | `(tactic| walk_at "call ref") => `(tactic| (k_here; refine wpAny_call ?_; k_dflt (refine' code_def ?k1 ?k2 ?k3 ?k4 ?k5 ?kA ?kF ?kK ?k6 ?k7 ?k8 ?k9 ?kB ?_ ?c2 ?c3 ?c4 ?c5; (case kA => exact rfl); (case kF => exact rfl); (case kK => first | exact rfl | assumption); (case k1 => k_asm); (case k2 => k_asm); (case k3 => k_asm); (case k4 => k_asm); (case k5 => k_asm); (case k6 => k_is); (case k7 => k_is); (case k8 => ktr_room); (case k9 => exact BindsTo.of_eq rfl); (case c5 => decide); (case kB => exact locs rfl); (case c2 => exact rfl); (case c3 => exact rfl); (case c4 => exact rfl); k_whole; intro g' L' h' FG' F' N' B' X' T'; (try dsimp only); (try k_lift B'); (try k_fold))))
section
variable {w : World} {mean : ExcName → Option Value} {mg mb : Str → Option Value} {a : Addr} {ccd : Value} {h₀ : Heap} {L : Addr} {m : Str → Option Value} {s : Shared} {Q : Flow → Shared → Prop} {E : Value → Shared → Prop}
  {oc : Value} {od : Option Addr} {name qual : Str} {params : Arguments} {body : List Stmt} {scope : Scope} {dV kV doc pm cdv ct : Value} {an : Option Addr} {osl : Array (Option Value)} {st : Stmt}
local macro_rules | `(tactic| walk_at "eval ListComp") => `(tactic| (k_here; (with_reducible show wpAny _ _ (eval (PySem.Expr.ListComp _ [⟨PySem.Expr.Name _ _, _, [], 0⟩] _ _) _) _ _ _); k_dflt (refine LCg.ListComp_U (F₀ := by k_asm) (by with_unfolding_all rfl) (by decide) (by rfl) (by decide) (by rfl) ?_)))
local macro_rules | `(tactic| walk_at "CompSrc") => `(tactic| k_extra "CompSrc")
local macro_rules | `(tactic| walk_at "subscriptTail Name Name ref int") => `(tactic| k_extra "subscriptTail Name Name ref int")
local macro_rules | `(tactic| walk_at "call ref") => `(tactic| k_extra "call ref")
set_option maxHeartbeats 8000000 in
theorem st_lower {c6 c5 c4 c3 c2 c1 : Obj} {tl : List (Addr × Obj)} {g : Int} {lp lc : Addr} {vp vc : List Value} {np nc : Nat} {md : List Int}
    (ho : (hd.heap_39 w.params).lookup 145 = some ⟨oc, od, .func (fnOf name qual params body scope dV kV doc pm an cdv ct), osl⟩) (hst : body[4]? = some st)
    (B : Below callerA h₀ [] h₀) (X : (hd.heap_39 w.params).In h₀) (T : Top hd.view_39 lz mean mg mb h₀) (F : Fr h₀ L s.heap m)
    (N : News h₀ L s.heap (led6 L c6 c5 c4 c3 c2 c1 tl)) (hab : Above L tl) (d3 : c3.data = .cell (some (.ref lp))) (d4 : c4.data = .cell (some (.ref lc))) (hg0 : 0 ≤ g) (hg3 : g < 3)
    (h2 : 2 ≤ md.length) (h5 : md.length ≤ 5) (hlp : (lp, W.listOf vp.toArray np) ∈ tl) (hip : IntsAre vp (pw g)) (hlc : (lc, W.listOf vc.toArray nc) ∈ tl) (hic : ColsP tl vc (colsF g md)) :
    wpAny (model prg w) (callerA.deeper (envOfC qual scope L a ccd)) (exec st (envOfC qual scope L a ccd))
      (StPost h₀ L (fun m' nx => ∃ t, m' = setM m (Str.ofString "lower") (.int (((List.range 4).map fun k => (pw g).getD k 0 * lowF (colF g md k)).sum) t) ∧ nx = led6 L c6 c5 c4 c3 c2 c1 tl) s Q) E s := by
  revert X; unfold prg; w_top off; k_fill; intro X
  refine' law_is ho ?e ?_
  case e => k_is
  intro hq
  clear ho
  cases hq
  simp only [List.getElem?_cons_zero, List.getElem?_cons_succ, Option.some.injEq] at hst
  subst hst
  replace N : News h₀ L s.heap (led6 L c6 c5 c4 c3 c2 c1 ((lp, W.listOf vp.toArray np) :: (lc, W.listOf vc.toArray nc) :: tl)) := fun p hp => N p (led6_tl (fun q hq => by
    rcases List.mem_cons.mp hq with rfl | hq
    · exact hlp
    · rcases List.mem_cons.mp hq with rfl | hq
      · exact hlc
      · exact hq) p hp)
  have hcl := hic.length
  have hpl := hip.length
  k_with_none
  k_with "CompSrc" => refine held ?_
  k_steps
  refine Held.out ?_
  unfold Held
  rename IsRange _ _ _ _ _ _ _ _ => rgX
  rename Fr _ _ _ _ => F1
  rename News _ _ _ _ => N1
  refine LCg.CompSrc.range rfl F1 N1 rgX (by decide) (rfl : _ = ((4 : Nat) : Int)) (by decide) ?_
  intro g2
  refine rest_U (fun i ys nx => nx = led6 L c6 c5 c4 c3 c2 c1 ((lp, W.listOf vp.toArray np) :: (lc, W.listOf vc.toArray nc) :: tl) ∧ IntsAre ys ((List.range i).map fun k => (pw g).getD k 0 * lowF (colF g md k))) ?turn ?done ⟨rfl, .nil⟩
  case turn =>
    intro i v ys nx I oI C oC D m₂ h tk E' hi4 hP hJ hC hx F2 N2 off ne
    obtain ⟨rfl, hys⟩ := hJ
    obtain ⟨t, rfl⟩ := hP
    obtain ⟨ak, us, nk, eki, hmk, hik⟩ := hic.at (col_at (g := g) (md := md) hi4).1
    have hbits := col_bits (g := g) (md := md) hi4
    have hlen := col_len (g := g) (md := md) hi4
    clear F1 N1
    k_with_none
    k_with "subscriptTail Name Name ref int" => refine held ?_
    k_with "call ref" => refine held ?_
    k_steps
    refine Held.out ?_
    unfold Held
    refine ksa_sub (by k_asm) (mem3 (led6_in (.head _))) hip (by omega) (by show _ < ((4 : Nat) : Int); omega) (by omega) ?_
    intro tp
    k_steps
    refine Held.out ?_
    unfold Held
    refine item_at (vs := vc) (n := nc) (v := .ref ak) (by k_asm) (mem3 (led6_in (.tail _ (.head _)))) (by omega) (by omega) (by rw [show ((0 : Int) + (i : Int)).toNat = i by omega]; exact eki) ?_
    k_steps
    refine Held.out ?_
    unfold Held
    k_dflt (refine' medlow_tells (S := ordF (colF g md i)) ?B ?F ?X ?N ?T ?hk ?hm ?hi ?hne ?hlen ?hS ?hSo ?hdp ?hun ?_; (case B => k_asm); (case F => k_asm); (case X => k_asm); (case N => k_asm); (case T => k_asm); (case hk => exact rfl); (case hm => exact mem3 (led6_in (mem2 hmk))); (case hi => exact hik); (case hne => omega); (case hlen => omega); (case hS => exact (ord_perm _ hbits).2.2); (case hSo => exact ord_sorted _); (case hdp => ktr_room); (case hun => ktr_units))
    intro h7 tk7 t7 lo F7 N7 hlo
    rw [low_eq _ hbits (by omega)] at hlo
    k_steps
    refine PyProof.Rows.mul_int ?_ ?_
    · rw [show ((0 : Int) + (i : Int)).toNat = i by omega, hlo]
      refine UEnd.intro F7 N7 _ (fun p hp => hp) off trivial ⟨rfl, ?_⟩
      rw [List.range_succ, List.map_append]
      exact IntsAre.append hys (.cons _ _ .nil)
    · refine IntMulOk.of_right ?_
      rw [hlo, lowF]
      split <;> decide
  case done =>
    intro ys nx hJ
    obtain ⟨rfl, hys⟩ := hJ
    intro D h tk F2 N2 off
    clear F1 N1
    k_with_none
    k_steps
    rename News _ _ _ _ => N9
    dsimp only
    exact WEnd.intro (by k_asm) N9 (fun p hp => .tail _ (led6_tl (fun q hq => mem2 hq) p hp)) ⟨_, rfl, rfl⟩
end
end
section
local macro_rules | `(tactic| walk_at "binaryOp RShift int int") => `(tactic| (k_here; (with_reducible refine shr1 ?_)))
local macro_rules | `(tactic| walk_at "binaryOp Mod int int") => `(tactic| (k_here; (with_reducible refine mod_pos ?k1 ?_); (case k1 => decide)))
local macro_rules | `(tactic| walk_at "binaryOp FloorDiv int int") => `(tactic| (k_here; (with_reducible refine fdiv_pos ?k1 ?k2 ?_); (case k1 => decide); (case k2 => decide +kernel)))
local macro_rules | `(tactic| k_all) => `(tactic| with_reducible assumption)
local macro_rules | `(tactic| l_idx) => `(tactic| omega)
local macro_rules | `(tactic| k_upd) => `(tactic| first | (refine' Pick.head ?a; (case a => k_all)) | (refine' Pick.tail ?a ?b; (case a => k_ne); (case b => k_upd)))
local macro_rules | `(tactic| walk_at "call ref") => `(tactic| (k_here; refine wpAny_call ?_; k_dflt (refine' code_def ?k1 ?k2 ?k3 ?k4 ?k5 ?kA ?kF ?kK ?k6 ?k7 ?k8 ?k9 ?kB ?_ ?c2 ?c3 ?c4 ?c5; (case kA => exact rfl); (case kF => exact rfl); (case kK => first | exact rfl | assumption); (case k1 => k_asm); (case k2 => k_asm); (case k3 => k_asm); (case k4 => k_asm); (case k5 => k_asm); (case k6 => k_is); (case k7 => k_is); (case k8 => ktr_room); (case k9 => exact BindsTo.of_eq rfl); (case c5 => decide); (case kB => exact locs rfl); (case c2 => exact rfl); (case c3 => exact rfl); (case c4 => exact rfl); k_whole; intro g' L' h' FG' F' N' B' X' T'; (try dsimp only); (try k_lift B'); (try k_fold))))
section
variable {w : World} {mean : ExcName → Option Value} {mg mb : Str → Option Value} {a : Addr} {ccd : Value} {h₀ : Heap} {L : Addr} {m : Str → Option Value} {s : Shared} {Q : Flow → Shared → Prop} {E : Value → Shared → Prop}
  {oc : Value} {od : Option Addr} {name qual : Str} {params : Arguments} {body : List Stmt} {scope : Scope} {dV kV doc pm cdv ct : Value} {an : Option Addr} {osl : Array (Option Value)} {st : Stmt}
local macro_rules | `(tactic| walk_at "eval ListComp") => `(tactic| (k_here; (with_reducible show wpAny _ _ (eval (PySem.Expr.ListComp _ [⟨PySem.Expr.Name _ _, _, [], 0⟩] _ _) _) _ _ _); k_dflt (refine LCg.ListComp_U (F₀ := by k_asm) (by with_unfolding_all rfl) (by decide) (by rfl) (by decide) (by rfl) ?_)))
local macro_rules | `(tactic| walk_at "CompSrc") => `(tactic| k_extra "CompSrc")
local macro_rules | `(tactic| walk_at "subscriptTail Name Name ref int") => `(tactic| k_extra "subscriptTail Name Name ref int")
local macro_rules | `(tactic| walk_at "call ref") => `(tactic| k_extra "call ref")
set_option maxHeartbeats 8000000 in
theorem st_upper {c6 c5 c4 c3 c2 c1 : Obj} {tl : List (Addr × Obj)} {g : Int} {lp lc : Addr} {vp vc : List Value} {np nc : Nat} {md : List Int}
    (ho : (hd.heap_39 w.params).lookup 145 = some ⟨oc, od, .func (fnOf name qual params body scope dV kV doc pm an cdv ct), osl⟩) (hst : body[5]? = some st)
    (B : Below callerA h₀ [] h₀) (X : (hd.heap_39 w.params).In h₀) (T : Top hd.view_39 lz mean mg mb h₀) (F : Fr h₀ L s.heap m)
    (N : News h₀ L s.heap (led6 L c6 c5 c4 c3 c2 c1 tl)) (hab : Above L tl) (d3 : c3.data = .cell (some (.ref lp))) (d4 : c4.data = .cell (some (.ref lc))) (hg0 : 0 ≤ g) (hg3 : g < 3)
    (h2 : 2 ≤ md.length) (h5 : md.length ≤ 5) (hlp : (lp, W.listOf vp.toArray np) ∈ tl) (hip : IntsAre vp (pw g)) (hlc : (lc, W.listOf vc.toArray nc) ∈ tl) (hic : ColsP tl vc (colsF g md)) :
    wpAny (model prg w) (callerA.deeper (envOfC qual scope L a ccd)) (exec st (envOfC qual scope L a ccd))
      (StPost h₀ L (fun m' nx => ∃ t, m' = setM m (Str.ofString "upper") (.int (((List.range 4).map fun k => (pw g).getD k 0 * upF (colF g md k)).sum) t) ∧ nx = led6 L c6 c5 c4 c3 c2 c1 tl) s Q) E s := by
  revert X; unfold prg; w_top off; k_fill; intro X
  refine' law_is ho ?e ?_
  case e => k_is
  intro hq
  clear ho
  cases hq
  simp only [List.getElem?_cons_zero, List.getElem?_cons_succ, Option.some.injEq] at hst
  subst hst
  replace N : News h₀ L s.heap (led6 L c6 c5 c4 c3 c2 c1 ((lp, W.listOf vp.toArray np) :: (lc, W.listOf vc.toArray nc) :: tl)) := fun p hp => N p (led6_tl (fun q hq => by
    rcases List.mem_cons.mp hq with rfl | hq
    · exact hlp
    · rcases List.mem_cons.mp hq with rfl | hq
      · exact hlc
      · exact hq) p hp)
  have hcl := hic.length
  have hpl := hip.length
  k_with_none
  k_with "CompSrc" => refine held ?_
  k_steps
  refine Held.out ?_
  unfold Held
  rename IsRange _ _ _ _ _ _ _ _ => rgX
  rename Fr _ _ _ _ => F1
  rename News _ _ _ _ => N1
  refine LCg.CompSrc.range rfl F1 N1 rgX (by decide) (rfl : _ = ((4 : Nat) : Int)) (by decide) ?_
  intro g2
  refine rest_U (fun i ys nx => nx = led6 L c6 c5 c4 c3 c2 c1 ((lp, W.listOf vp.toArray np) :: (lc, W.listOf vc.toArray nc) :: tl) ∧ IntsAre ys ((List.range i).map fun k => (pw g).getD k 0 * upF (colF g md k))) ?turn ?done ⟨rfl, .nil⟩
  case turn =>
    intro i v ys nx I oI C oC D m₂ h tk E' hi4 hP hJ hC hx F2 N2 off ne
    obtain ⟨rfl, hys⟩ := hJ
    obtain ⟨t, rfl⟩ := hP
    obtain ⟨ak, us, nk, eki, hmk, hik⟩ := hic.at (col_at (g := g) (md := md) hi4).1
    have hbits := col_bits (g := g) (md := md) hi4
    have hlen := col_len (g := g) (md := md) hi4
    clear F1 N1
    k_with_none
    k_with "subscriptTail Name Name ref int" => refine held ?_
    k_with "call ref" => refine held ?_
    k_steps
    refine Held.out ?_
    unfold Held
    refine ksa_sub (by k_asm) (mem3 (led6_in (.head _))) hip (by omega) (by show _ < ((4 : Nat) : Int); omega) (by omega) ?_
    intro tp
    k_steps
    refine Held.out ?_
    unfold Held
    refine item_at (vs := vc) (n := nc) (v := .ref ak) (by k_asm) (mem3 (led6_in (.tail _ (.head _)))) (by omega) (by omega) (by rw [show ((0 : Int) + (i : Int)).toNat = i by omega]; exact eki) ?_
    k_steps
    refine Held.out ?_
    unfold Held
    k_dflt (refine' medhigh_tells (S := ordF (colF g md i)) ?B ?F ?X ?N ?T ?hk ?hm ?hi ?hne ?hlen ?hS ?hSo ?hdp ?hun ?_; (case B => k_asm); (case F => k_asm); (case X => k_asm); (case N => k_asm); (case T => k_asm); (case hk => exact rfl); (case hm => exact mem3 (led6_in (mem2 hmk))); (case hi => exact hik); (case hne => omega); (case hlen => omega); (case hS => exact (ord_perm _ hbits).2.2); (case hSo => exact ord_sorted _); (case hdp => ktr_room); (case hun => ktr_units))
    intro h7 tk7 t7 lo F7 N7 hlo
    rw [up_eq _ hbits (by omega)] at hlo
    k_steps
    refine PyProof.Rows.mul_int ?_ ?_
    · rw [show ((0 : Int) + (i : Int)).toNat = i by omega, hlo]
      refine UEnd.intro F7 N7 _ (fun p hp => hp) off trivial ⟨rfl, ?_⟩
      rw [List.range_succ, List.map_append]
      exact IntsAre.append hys (.cons _ _ .nil)
    · refine IntMulOk.of_right ?_
      rw [hlo, upF]
      split <;> decide
  case done =>
    intro ys nx hJ
    obtain ⟨rfl, hys⟩ := hJ
    intro D h tk F2 N2 off
    clear F1 N1
    k_with_none
    k_steps
    rename News _ _ _ _ => N9
    dsimp only
    exact WEnd.intro (by k_asm) N9 (fun p hp => .tail _ (led6_tl (fun q hq => mem2 hq) p hp)) ⟨_, rfl, rfl⟩
end
end
section
local macro_rules | `(tactic| walk_at "binaryOp RShift int int") => `(tactic| (k_here; (with_reducible refine shr1 ?_)))
local macro_rules | `(tactic| walk_at "binaryOp Mod int int") => `(tactic| (k_here; (with_reducible refine mod_pos ?k1 ?_); (case k1 => decide)))
local macro_rules | `(tactic| walk_at "binaryOp FloorDiv int int") => `(tactic| (k_here; (with_reducible refine fdiv_pos ?k1 ?k2 ?_); (case k1 => decide); (case k2 => decide +kernel)))
local macro_rules | `(tactic| k_all) => `(tactic| with_reducible assumption)
local macro_rules | `(tactic| l_idx) => `(tactic| omega)
local macro_rules | `(tactic| k_upd) => `(tactic| first | (refine' Pick.head ?a; (case a => k_all)) | (refine' Pick.tail ?a ?b; (case a => k_ne); (case b => k_upd)))
local macro_rules | `(tactic| walk_at "call ref") => `(tactic| (k_here; refine wpAny_call ?_; k_dflt (refine' code_def ?k1 ?k2 ?k3 ?k4 ?k5 ?kA ?kF ?kK ?k6 ?k7 ?k8 ?k9 ?kB ?_ ?c2 ?c3 ?c4 ?c5; (case kA => exact rfl); (case kF => exact rfl); (case kK => first | exact rfl | assumption); (case k1 => k_asm); (case k2 => k_asm); (case k3 => k_asm); (case k4 => k_asm); (case k5 => k_asm); (case k6 => k_is); (case k7 => k_is); (case k8 => ktr_room); (case k9 => exact BindsTo.of_eq rfl); (case c5 => decide); (case kB => exact locs rfl); (case c2 => exact rfl); (case c3 => exact rfl); (case c4 => exact rfl); k_whole; intro g' L' h' FG' F' N' B' X' T'; (try dsimp only); (try k_lift B'); (try k_fold))))
section
variable {w : World} {mean : ExcName → Option Value} {mg mb : Str → Option Value} {a : Addr} {ccd : Value} {h₀ : Heap} {L : Addr} {m : Str → Option Value} {s : Shared} {Q : Flow → Shared → Prop} {E : Value → Shared → Prop}
  {oc : Value} {od : Option Addr} {name qual : Str} {params : Arguments} {body : List Stmt} {scope : Scope} {dV kV doc pm cdv ct : Value} {an : Option Addr} {osl : Array (Option Value)} {st : Stmt}
local macro_rules | `(tactic| walk_at "eval ListComp") => `(tactic| (k_here; (with_reducible show wpAny _ _ (eval (PySem.Expr.ListComp _ [⟨PySem.Expr.Name _ _, _, [], 0⟩] _ _) _) _ _ _); k_dflt (refine LCg.ListComp_U (F₀ := by k_asm) (by with_unfolding_all rfl) (by decide) (by rfl) (by decide) (by rfl) ?_)))
local macro_rules | `(tactic| walk_at "CompSrc") => `(tactic| k_extra "CompSrc")
local macro_rules | `(tactic| walk_at "call builtin:len") => `(tactic| k_extra "call builtin:len")
set_option maxHeartbeats 8000000 in
theorem st_least {c6 c5 c4 c3 c2 c1 : Obj} {tl : List (Addr × Obj)} {g : Int} {lm lc : Addr} {vm vc : List Value} {nm nc : Nat} {md : List Int}
    (ho : (hd.heap_39 w.params).lookup 145 = some ⟨oc, od, .func (fnOf name qual params body scope dV kV doc pm an cdv ct), osl⟩) (hst : body[6]? = some st)
    (B : Below callerA h₀ [] h₀) (X : (hd.heap_39 w.params).In h₀) (T : Top hd.view_39 lz mean mg mb h₀) (F : Fr h₀ L s.heap m)
    (N : News h₀ L s.heap (led6 L c6 c5 c4 c3 c2 c1 tl)) (hab : Above L tl) (d1 : c1.data = .cell (some (.ref lm))) (d4 : c4.data = .cell (some (.ref lc)))
    (h2 : 2 ≤ md.length) (h5 : md.length ≤ 5) (hlm : (lm, W.listOf vm.toArray nm) ∈ tl) (him : IntsAre vm md) (hlc : (lc, W.listOf vc.toArray nc) ∈ tl) (hic : ColsP tl vc (colsF g md)) :
    wpAny (model prg w) (callerA.deeper (envOfC qual scope L a ccd)) (exec st (envOfC qual scope L a ccd))
      (StPost h₀ L (fun m' nx => ∃ t, m' = setM m (Str.ofString "least") (.int (((List.range 4).map fun k => minF (colF g md k).sum ((md.length : Int) - (colF g md k).sum)).sum) t) ∧ nx = led6 L c6 c5 c4 c3 c2 c1 tl) s Q) E s := by
  revert X; unfold prg; w_top off; k_fill; intro X
  refine' law_is ho ?e ?_
  case e => k_is
  intro hq
  clear ho
  cases hq
  simp only [List.getElem?_cons_zero, List.getElem?_cons_succ, Option.some.injEq] at hst
  subst hst
  replace N : News h₀ L s.heap (led6 L c6 c5 c4 c3 c2 c1 ((lm, W.listOf vm.toArray nm) :: (lc, W.listOf vc.toArray nc) :: tl)) := fun p hp => N p (led6_tl (fun q hq => by
    rcases List.mem_cons.mp hq with rfl | hq
    · exact hlm
    · rcases List.mem_cons.mp hq with rfl | hq
      · exact hlc
      · exact hq) p hp)
  have hcl := hic.length
  have hml := him.length
  have hc4 : (colsF g md).length = 4 := rfl
  k_with_none
  k_with "CompSrc" => refine held ?_
  k_steps
  refine Held.out ?_
  unfold Held
  rename Fr _ _ _ _ => F1
  rename News _ _ _ _ => N1
  refine LCg.CompSrc.ledger rfl F1 N1 (led6_in (.tail _ (.head _))) (by rw [List.size_toArray, hcl, hc4, sizeLine_eq]; omega) ?_
  intro g2
  refine rest_U (fun i ys nx => nx = led6 L c6 c5 c4 c3 c2 c1 ((lm, W.listOf vm.toArray nm) :: (lc, W.listOf vc.toArray nc) :: tl) ∧ IntsAre ys ((List.range i).map fun k => minF (colF g md k).sum ((md.length : Int) - (colF g md k).sum))) ?turn ?done ⟨rfl, .nil⟩
  case turn =>
    intro i v ys nx I oI C oC D m₂ h tk E' hi4 hP hJ hC hx F2 N2 off ne
    obtain ⟨rfl, hys⟩ := hJ
    rw [List.size_toArray, hcl, hc4] at hi4
    have hPv : vc[i]? = some v := by simpa using hP
    obtain ⟨ak, us, nk, eki, hmk, hik⟩ := hic.at (col_at (g := g) (md := md) hi4).1
    rw [hPv] at eki
    cases eki
    have hlen := col_len (g := g) (md := md) hi4
    have hul := hik.length
    clear F1 N1
    replace N2 := news_in N2 (mem3 (led6_in (mem2 hmk)))
    k_with_none
    k_with "call builtin:len" => refine held ?_
    k_steps
    refine Held.out ?_
    unfold Held
    refine len_led (by k_asm) (mem4 (led6_in (.head _))) (by omega) ?_
    k_steps
    rename News _ _ _ _ => N9
    refine UEnd.intro (by k_asm) N9 _ (fun p hp => .tail _ hp) off (Or.inr ⟨_, led6_in (.tail _ (.head _)), rfl, _, rfl⟩) ⟨rfl, ?_⟩
    rw [List.range_succ, List.map_append, hml]
    exact IntsAre.append hys (.cons _ _ .nil)
  case done =>
    intro ys nx hJ
    obtain ⟨rfl, hys⟩ := hJ
    rw [List.size_toArray, hcl, hc4] at hys
    intro D h tk F2 N2 off
    clear F1 N1
    k_with_none
    k_steps
    rename News _ _ _ _ => N9
    dsimp only
    exact WEnd.intro (by k_asm) N9 (fun p hp => .tail _ (led6_tl (fun q hq => mem2 hq) p hp)) ⟨_, rfl, rfl⟩
end
end
section
local macro_rules | `(tactic| walk_at "binaryOp RShift int int") => `(tactic| (k_here; (with_reducible refine shr1 ?_)))
local macro_rules | `(tactic| walk_at "binaryOp Mod int int") => `(tactic| (k_here; (with_reducible refine mod_pos ?k1 ?_); (case k1 => decide)))
local macro_rules | `(tactic| walk_at "binaryOp FloorDiv int int") => `(tactic| (k_here; (with_reducible refine fdiv_pos ?k1 ?k2 ?_); (case k1 => decide); (case k2 => decide +kernel)))
local macro_rules | `(tactic| k_all) => `(tactic| with_reducible assumption)
local macro_rules | `(tactic| l_idx) => `(tactic| omega)
local macro_rules | `(tactic| k_upd) => `(tactic| first | (refine' Pick.head ?a; (case a => k_all)) | (refine' Pick.tail ?a ?b; (case a => k_ne); (case b => k_upd)))
local macro_rules | `(tactic| walk_at "call ref") => `(tactic| (k_here; refine wpAny_call ?_; k_dflt (refine' code_def ?k1 ?k2 ?k3 ?k4 ?k5 ?kA ?kF ?kK ?k6 ?k7 ?k8 ?k9 ?kB ?_ ?c2 ?c3 ?c4 ?c5; (case kA => exact rfl); (case kF => exact rfl); (case kK => first | exact rfl | assumption); (case k1 => k_asm); (case k2 => k_asm); (case k3 => k_asm); (case k4 => k_asm); (case k5 => k_asm); (case k6 => k_is); (case k7 => k_is); (case k8 => ktr_room); (case k9 => exact BindsTo.of_eq rfl); (case c5 => decide); (case kB => exact locs rfl); (case c2 => exact rfl); (case c3 => exact rfl); (case c4 => exact rfl); k_whole; intro g' L' h' FG' F' N' B' X' T'; (try dsimp only); (try k_lift B'); (try k_fold))))
section
variable {w : World} {mean : ExcName → Option Value} {mg mb : Str → Option Value} {a : Addr} {ccd : Value} {h₀ : Heap} {L : Addr} {m : Str → Option Value} {s : Shared} {Q : Flow → Shared → Prop} {E : Value → Shared → Prop}
  {oc : Value} {od : Option Addr} {name qual : Str} {params : Arguments} {body : List Stmt} {scope : Scope} {dV kV doc pm cdv ct : Value} {an : Option Addr} {osl : Array (Option Value)} {st : Stmt}
local macro_rules | `(tactic| walk_at "eval ListComp") => `(tactic| (k_here; (with_reducible show wpAny _ _ (eval (PySem.Expr.ListComp _ [⟨PySem.Expr.Name _ _, _, [], 0⟩] _ _) _) _ _ _); k_dflt (refine LCg.ListComp_U (F₀ := by k_asm) (by with_unfolding_all rfl) (by decide) (by rfl) (by decide) (by rfl) ?_)))
local macro_rules | `(tactic| walk_at "CompSrc") => `(tactic| k_extra "CompSrc")
local macro_rules | `(tactic| walk_at "call builtin:len") => `(tactic| k_extra "call builtin:len")
local macro_rules | `(tactic| walk_at "call builtin:sorted") => `(tactic| k_extra "call builtin:sorted")
local macro_rules | `(tactic| walk_at "subscriptTail Name Name ref int") => `(tactic| k_extra "subscriptTail Name Name ref int")
set_option maxHeartbeats 8000000 in
theorem st_costs {c6 c5 c4 c3 c2 c1 : Obj} {tl : List (Addr × Obj)} {g : Int} {lm lp lc : Addr} {vm vp vc : List Value} {nm np nc : Nat} {md : List Int}
    (ho : (hd.heap_39 w.params).lookup 145 = some ⟨oc, od, .func (fnOf name qual params body scope dV kV doc pm an cdv ct), osl⟩) (hst : body[7]? = some st)
    (B : Below callerA h₀ [] h₀) (X : (hd.heap_39 w.params).In h₀) (T : Top hd.view_39 lz mean mg mb h₀) (F : Fr h₀ L s.heap m)
    (N : News h₀ L s.heap (led6 L c6 c5 c4 c3 c2 c1 tl)) (hab : Above L tl) (d1 : c1.data = .cell (some (.ref lm))) (d3 : c3.data = .cell (some (.ref lp))) (d4 : c4.data = .cell (some (.ref lc))) (hg0 : 0 ≤ g) (hg3 : g < 3)
    (h2 : 2 ≤ md.length) (h5 : md.length ≤ 5) (hlm : (lm, W.listOf vm.toArray nm) ∈ tl) (him : IntsAre vm md) (hlp : (lp, W.listOf vp.toArray np) ∈ tl) (hip : IntsAre vp (pw g)) (hlc : (lc, W.listOf vc.toArray nc) ∈ tl) (hic : ColsP tl vc (colsF g md)) :
    wpAny (model prg w) (callerA.deeper (envOfC qual scope L a ccd)) (exec st (envOfC qual scope L a ccd))
      (StPost h₀ L (fun m' nx => ∃ lk vk nk own tn, m' = setM m (Str.ofString "costs") (.ref lk) ∧ nx = led6 L c6 c5 c4 c3 c2 c1 ((lk, W.listOf vk.toArray nk) :: (own ++ tl)) ∧ Above L ((lk, W.listOf vk.toArray nk) :: (own ++ tl)) ∧ PairsP (own ++ tl) vk tn ∧ tn.Perm (costF g md) ∧ (∀ i, i < 3 → cT tn i ≤ cT tn (i + 1))) s Q) E s := by
  revert X; unfold prg; w_top off; k_fill; intro X
  refine' law_is ho ?e ?_
  case e => k_is
  intro hq
  clear ho
  cases hq
  simp only [List.getElem?_cons_zero, List.getElem?_cons_succ, Option.some.injEq] at hst
  subst hst
  replace N : News h₀ L s.heap (led6 L c6 c5 c4 c3 c2 c1 ((lm, W.listOf vm.toArray nm) :: (lp, W.listOf vp.toArray np) :: (lc, W.listOf vc.toArray nc) :: tl)) := fun p hp => N p (led6_tl (fun q hq => by
    rcases List.mem_cons.mp hq with rfl | hq
    · exact hlm
    · rcases List.mem_cons.mp hq with rfl | hq
      · exact hlp
      · rcases List.mem_cons.mp hq with rfl | hq
        · exact hlc
        · exact hq) p hp)
  have hcl := hic.length
  have hml := him.length
  have hpl := hip.length
  k_with_none
  k_with "CompSrc" => refine held ?_
  k_steps
  refine Held.out ?_
  unfold Held
  rename IsRange _ _ _ _ _ _ _ _ => rgX
  rename Fr _ _ _ _ => F1
  rename News _ _ _ _ => N1
  refine LCg.CompSrc.range rfl F1 N1 rgX (by decide) (rfl : _ = ((4 : Nat) : Int)) (by decide) ?_
  intro g2
  refine rest_U (fun i ys nx => ∃ own, nx = led6 L c6 c5 c4 c3 c2 c1 ((lm, W.listOf vm.toArray nm) :: (lp, W.listOf vp.toArray np) :: (lc, W.listOf vc.toArray nc) :: (own ++ tl)) ∧ Above L own ∧ PairsP own ys ((costF g md).take i)) ?turn ?done ⟨[], rfl, Above.nil, .nil⟩
  case turn =>
    intro i v ys nx I oI C oC D m₂ h tk E' hi4 hP hJ hC hx F2 N2 off ne
    obtain ⟨own, rfl, hown, hys⟩ := hJ
    obtain ⟨t, rfl⟩ := hP
    obtain ⟨ak, us, nk, eki, hmk, hik⟩ := hic.at (col_at (g := g) (md := md) hi4).1
    have hlen := col_len (g := g) (md := md) hi4
    have hul := hik.length
    clear F1 N1
    replace N2 := news_in N2 (mem3 (led6_in (mem3 (List.mem_append_right _ hmk))))
    k_with_none
    k_with "call builtin:len" => refine held ?_
    k_with "subscriptTail Name Name ref int" => refine held ?_
    k_steps
    refine Held.out ?_
    unfold Held
    refine len_led (by k_asm) (mem4 (led6_in (.head _))) (by omega) ?_
    k_steps
    refine Held.out ?_
    unfold Held
    refine item_at (vs := vc) (n := nc) (v := .ref ak) (by k_asm) (mem4 (led6_in (mem2 (.head _)))) (by omega) (by omega) (by rw [show ((0 : Int) + (i : Int)).toNat = i by omega]; exact eki) ?_
    k_steps
    refine Held.out ?_
    unfold Held
    refine ksa_sub (by k_asm) (mem4 (led6_in (.tail _ (.head _)))) hip (by omega) (by show _ < ((4 : Nat) : Int); omega) (by omega) ?_
    intro tp
    k_steps
    rename News _ _ _ _ => N9
    rename_i D2 _ _ l1
    rw [hml, show ((0 : Int) + (i : Int)).toNat = i by omega] at N9
    refine UEnd.intro (by k_asm) N9 (led6 L c6 c5 c4 c3 c2 c1 ((lm, W.listOf vm.toArray nm) :: (lp, W.listOf vp.toArray np) :: (lc, W.listOf vc.toArray nc) :: (((D2, _) :: own) ++ tl))) re_cost ?off trivial ⟨(D2, _) :: own, rfl, Above.cons (by omega) hown, ?cols⟩
    case cols =>
      rw [cost_at hi4]
      exact (hys.mono fun p hp => .tail _ hp).append (.cons ⟨D2, _, _, _, rfl, .head _⟩ .nil)
    case off =>
      intro p hp
      simp only [led6, List.mem_cons, List.cons_append] at hp
      rcases hp with h | h | h | h | h | h | h | h | h | h | h
      · rw [h]; exact off _ (.head _)
      · rw [h]; exact off _ (.tail _ (.head _))
      · rw [h]; exact off _ (mem2 (.head _))
      · rw [h]; exact off _ (mem3 (.head _))
      · rw [h]; exact off _ (mem4 (.head _))
      · rw [h]; exact off _ (mem5 (.head _))
      · rw [h]; exact off _ (mem6 (.head _))
      · rw [h]; exact off _ (mem7 (.head _))
      · rw [h]; exact off _ (mem8 (.head _))
      · rw [h]; exact ⟨Nat.ne_of_gt l1.2.1, Nat.ne_of_gt l1.2.2.1, Nat.ne_of_gt l1.2.2.2.1⟩
      · exact off _ (.tail _ (mem8 h))
  case done =>
    intro ys nx hJ
    obtain ⟨own, rfl, hown, hys⟩ := hJ
    intro D h tk F2 N2 off
    clear F1 N1
    k_with_none
    k_with "call builtin:sorted" => refine held ?_
    k_steps
    refine Held.out ?_
    unfold Held
    rw [List.take_of_length_le (by simp [costF])] at hys
    refine sorted_pairs F2 N2 (.head _) (fun p hp => .tail _ (led6_in (mem3 (List.mem_append_left _ hp)))) hys (by simp [costF]) (cost_bd hg0 hg3) ?_
    intro D9 us9 c9 qs h9 F9 N9 l9 hp9 hq9 ho9
    have z6 : @LT.lt Nat _ (L + 1 + 1 + 1 + 1 + 1 + 1) D9 := l9 _ (.tail _ (.head _))
    k_with_none
    k_steps
    rename News _ _ _ _ => N8
    dsimp only
    refine WEnd.intro (nx := led6 L c6 c5 c4 c3 c2 c1 ((D9, W.listOf us9.toArray c9) :: (own ++ tl))) (by k_asm) N8 ?sub ⟨D9, us9, c9, own, qs, rfl, rfl, Above.cons (by omega) (hown.app hab), hp9.mono (fun p hp => List.mem_append_left _ hp), hq9, ho9⟩
    case sub =>
      intro p hp
      simp only [led6, List.mem_cons] at hp ⊢
      rcases hp with h | h | h | h | h | h | h | h <;> simp [h]
end
end
section
local macro_rules | `(tactic| walk_at "binaryOp RShift int int") => `(tactic| (k_here; (with_reducible refine shr1 ?_)))
local macro_rules | `(tactic| walk_at "binaryOp Mod int int") => `(tactic| (k_here; (with_reducible refine mod_pos ?k1 ?_); (case k1 => decide)))
local macro_rules | `(tactic| walk_at "binaryOp FloorDiv int int") => `(tactic| (k_here; (with_reducible refine fdiv_pos ?k1 ?k2 ?_); (case k1 => decide); (case k2 => decide +kernel)))
local macro_rules | `(tactic| k_all) => `(tactic| with_reducible assumption)
local macro_rules | `(tactic| l_idx) => `(tactic| omega)
local macro_rules | `(tactic| k_upd) => `(tactic| first | (refine' Pick.head ?a; (case a => k_all)) | (refine' Pick.tail ?a ?b; (case a => k_ne); (case b => k_upd)))
local macro_rules | `(tactic| walk_at "call ref") => `(tactic| (k_here; refine wpAny_call ?_; k_dflt (refine' code_def ?k1 ?k2 ?k3 ?k4 ?k5 ?kA ?kF ?kK ?k6 ?k7 ?k8 ?k9 ?kB ?_ ?c2 ?c3 ?c4 ?c5; (case kA => exact rfl); (case kF => exact rfl); (case kK => first | exact rfl | assumption); (case k1 => k_asm); (case k2 => k_asm); (case k3 => k_asm); (case k4 => k_asm); (case k5 => k_asm); (case k6 => k_is); (case k7 => k_is); (case k8 => ktr_room); (case k9 => exact BindsTo.of_eq rfl); (case c5 => decide); (case kB => exact locs rfl); (case c2 => exact rfl); (case c3 => exact rfl); (case c4 => exact rfl); k_whole; intro g' L' h' FG' F' N' B' X' T'; (try dsimp only); (try k_lift B'); (try k_fold))))
section
variable {w : World} {mean : ExcName → Option Value} {mg mb : Str → Option Value} {a : Addr} {ccd : Value} {h₀ : Heap} {L : Addr} {m : Str → Option Value} {s : Shared} {Q : Flow → Shared → Prop} {E : Value → Shared → Prop}
  {oc : Value} {od : Option Addr} {name qual : Str} {params : Arguments} {body : List Stmt} {scope : Scope} {dV kV doc pm cdv ct : Value} {an : Option Addr} {osl : Array (Option Value)} {st : Stmt}
local macro_rules | `(tactic| walk_at "call ref") => `(tactic| k_extra "call ref")
set_option maxHeartbeats 8000000 in
theorem st_told {c6 c5 c4 c3 c2 c1 : Obj} {tl : List (Addr × Obj)} {le lo : Int} {t1 t2 : Tok} {lk : Addr} {vk : List Value} {nk : Nat} {tn : List (Int × Int)} {Dom : Int → Prop}
    (ho : (hd.heap_39 w.params).lookup 145 = some ⟨oc, od, .func (fnOf name qual params body scope dV kV doc pm an cdv ct), osl⟩) (hst : body[8]? = some st)
    (B : Below callerA h₀ [] h₀) (X : (hd.heap_39 w.params).In h₀) (T : Top hd.view_39 lz mean mg mb h₀) (F : Fr h₀ L s.heap m)
    (N : News h₀ L s.heap (led6 L c6 c5 c4 c3 c2 c1 tl)) (hab : Above L tl) (hm : KnownAll m [(Str.ofString "least", .int le t1), (Str.ofString "lower", .int lo t2), (Str.ofString "costs", .ref lk)])
    (hlk : (lk, W.listOf vk.toArray nk) ∈ tl) (hp : PairsP tl vk tn) (h4 : tn.length = 4) (hw : 0 ≤ le) (hD0 : Dom lo) (hDp : ∀ q ∈ tn, Dom q.2) (hDx : ∀ a b, Dom a → Dom b → Dom (bx a b)) (hDb : ∀ a, Dom a → 0 ≤ a ∧ a < 65536)
    (hc : ∀ q ∈ tn, 0 ≤ q.1) (hcs : ∀ i, i < 3 → cT tn i ≤ cT tn (i + 1)) :
    wpAny (model prg w) (callerA.deeper (envOfC qual scope L a ccd)) (exec st (envOfC qual scope L a ccd))
      (StPost h₀ L (fun m' nx => ∃ D vs n own fs, m' = setM m (Str.ofString "told") (.ref D) ∧ nx = led6 L c6 c5 c4 c3 c2 c1 ((D, W.listOf vs.toArray n) :: (own ++ tl)) ∧ Above L ((D, W.listOf vs.toArray n) :: (own ++ tl)) ∧ PairsP own vs fs ∧ fs.Perm (allSub tn le lo) ∧ (fs.map (·.1)).Pairwise (· ≤ ·) ∧ fs.head? = some (le, lo)) s Q) E s := by
  revert X; unfold prg; w_top off; k_fill; intro X
  refine' law_is ho ?e ?_
  case e => k_is
  intro hq
  clear ho
  cases hq
  simp only [List.getElem?_cons_zero, List.getElem?_cons_succ, Option.some.injEq] at hst
  subst hst
  have F1 : Fr h₀ L s.heap (kstB m [(Str.ofString "least", .int le t1), (Str.ofString "lower", .int lo t2), (Str.ofString "costs", .ref lk)]) := fr_knownL hm F
  dsimp only [kstB] at F1
  k_with_none
  k_with "call ref" => refine held ?_
  k_steps
  refine Held.out ?_
  unfold Held
  k_dflt (refine' nearest_tells (Dom := Dom) ?B ?F ?X ?N ?T ?hk ?hm ?hp ?h4 ?hw ?hD0 ?hDp ?hDx ?hDb ?hc ?hcs ?hdp ?hun ?_; (case B => k_asm); (case F => exact F); (case X => k_asm); (case N => exact N); (case T => k_asm); (case hk => exact rfl); (case hm => exact led6_in hlk); (case hp => exact hp.mono fun p hp => led6_in hp); (case h4 => exact h4); (case hw => exact hw); (case hD0 => exact hD0); (case hDp => exact hDp); (case hDx => exact hDx); (case hDb => exact hDb); (case hc => exact hc); (case hcs => exact hcs); (case hdp => ktr_room); (case hun => ktr_units))
  intro h5 tk5 D vs n own fs F5 N5 lD lown hpf hperm hso hhd
  clear F1 F N
  k_with_none
  k_steps
  rename News _ _ _ _ => N8
  have zD : @LT.lt Nat _ (L + 1 + 1 + 1 + 1 + 1 + 1) D := lD _ (.head _)
  have hoa : Above L own := fun p hp => by
    have z : @LT.lt Nat _ (L + 1 + 1 + 1 + 1 + 1 + 1) p.1 := lown p hp _ (.head _)
    omega
  dsimp only
  refine WEnd.intro (nx := led6 L c6 c5 c4 c3 c2 c1 ((D, W.listOf vs.toArray n) :: (own ++ tl))) (by k_asm) N8 ?sub ⟨D, vs, n, own, fs, rfl, rfl, Above.cons (by omega) (hoa.app hab), hpf, hperm, hso, hhd⟩
  case sub =>
    intro p hp
    simp only [led6, List.mem_cons, List.mem_append] at hp ⊢
    rcases hp with h | h | h | h | h | h | h | h | h <;> simp [h]
end
end
section
local macro_rules | `(tactic| walk_at "binaryOp RShift int int") => `(tactic| (k_here; (with_reducible refine shr1 ?_)))
local macro_rules | `(tactic| walk_at "binaryOp Mod int int") => `(tactic| (k_here; (with_reducible refine mod_pos ?k1 ?_); (case k1 => decide)))
local macro_rules | `(tactic| walk_at "binaryOp FloorDiv int int") => `(tactic| (k_here; (with_reducible refine fdiv_pos ?k1 ?k2 ?_); (case k1 => decide); (case k2 => decide +kernel)))
local macro_rules | `(tactic| k_all) => `(tactic| with_reducible assumption)
local macro_rules | `(tactic| l_idx) => `(tactic| omega)
local macro_rules | `(tactic| k_upd) => `(tactic| first | (refine' Pick.head ?a; (case a => k_all)) | (refine' Pick.tail ?a ?b; (case a => k_ne); (case b => k_upd)))
local macro_rules | `(tactic| walk_at "call ref") => `(tactic| (k_here; refine wpAny_call ?_; k_dflt (refine' code_def ?k1 ?k2 ?k3 ?k4 ?k5 ?kA ?kF ?kK ?k6 ?k7 ?k8 ?k9 ?kB ?_ ?c2 ?c3 ?c4 ?c5; (case kA => exact rfl); (case kF => exact rfl); (case kK => first | exact rfl | assumption); (case k1 => k_asm); (case k2 => k_asm); (case k3 => k_asm); (case k4 => k_asm); (case k5 => k_asm); (case k6 => k_is); (case k7 => k_is); (case k8 => ktr_room); (case k9 => exact BindsTo.of_eq rfl); (case c5 => decide); (case kB => exact locs rfl); (case c2 => exact rfl); (case c3 => exact rfl); (case c4 => exact rfl); k_whole; intro g' L' h' FG' F' N' B' X' T'; (try dsimp only); (try k_lift B'); (try k_fold))))
section
variable {w : World} {mean : ExcName → Option Value} {mg mb : Str → Option Value} {a : Addr} {ccd : Value} {h₀ : Heap} {L : Addr} {m : Str → Option Value} {s : Shared} {Q : Flow → Shared → Prop} {E : Value → Shared → Prop}
  {oc : Value} {od : Option Addr} {name qual : Str} {params : Arguments} {body : List Stmt} {scope : Scope} {dV kV doc pm cdv ct : Value} {an : Option Addr} {osl : Array (Option Value)} {st : Stmt}
local macro_rules | `(tactic| walk_at "eval ListComp") => `(tactic| (k_here; k_dflt (refine LCp.ListComp_P (F₀ := by k_asm) (by with_unfolding_all rfl) (by decide) (by rfl) (by decide) (by rfl) (by rfl) (by decide) ?_)))
local macro_rules | `(tactic| walk_at "exec Assign cons ListComp") => `(tactic| (k_here; k_dflt (refine LCp.Assign_ListComp_P (F₀ := by k_asm) (by rfl) (by with_unfolding_all rfl) (by with_unfolding_all rfl) (by decide) (by rfl) (by decide) (by rfl) (by rfl) (by decide) (by rfl) (by rfl) ?_)))
local macro_rules | `(tactic| walk_at "SrcLP") => `(tactic| k_extra "SrcLP")
set_option maxHeartbeats 8000000 in
theorem st_ways {c6 c5 c4 c3 c2 c1 : Obj} {tl : List (Addr × Obj)} {lt : Addr} {vt : List Value} {nt : Nat} {fs : List (Int × Int)}
    (ho : (hd.heap_39 w.params).lookup 145 = some ⟨oc, od, .func (fnOf name qual params body scope dV kV doc pm an cdv ct), osl⟩) (hst : body[9]? = some st)
    (B : Below callerA h₀ [] h₀) (X : (hd.heap_39 w.params).In h₀) (T : Top hd.view_39 lz mean mg mb h₀) (F : Fr h₀ L s.heap m)
    (N : News h₀ L s.heap (led6 L c6 c5 c4 c3 c2 c1 tl)) (hab : Above L tl) (hm : KnownAll m [(Str.ofString "told", .ref lt)]) (hlt : (lt, W.listOf vt.toArray nt) ∈ tl) (hp : PairsP tl vt fs) (h16 : fs.length ≤ 16) :
    wpAny (model prg w) (callerA.deeper (envOfC qual scope L a ccd)) (exec st (envOfC qual scope L a ccd))
      (StPost h₀ L (fun m' nx => ∃ D vs n, m' = setM m (Str.ofString "ways") (.ref D) ∧ nx = led6 L c6 c5 c4 c3 c2 c1 ((D, W.listOf vs.toArray n) :: tl) ∧ Above L ((D, W.listOf vs.toArray n) :: tl) ∧ IntsAre vs (fs.map (·.1))) s Q) E s := by
  revert X; unfold prg; w_top off; k_fill; intro X
  refine' law_is ho ?e ?_
  case e => k_is
  intro hq
  clear ho
  cases hq
  simp only [List.getElem?_cons_zero, List.getElem?_cons_succ, Option.some.injEq] at hst
  subst hst
  have F1 : Fr h₀ L s.heap (kstB m [(Str.ofString "told", .ref lt)]) := fr_knownL hm F
  dsimp only [kstB] at F1
  have hvl := hp.length
  k_with_none
  k_with "SrcLP" => refine held ?_
  k_steps
  refine Held.out ?_
  unfold Held
  have eM : (fun z => if z = Str.ofString "told" then some (Value.ref lt) else m z) = m := known_eq hm
  rw [eM]
  clear F1
  refine LCp.SrcLP.ledger rfl F N (led6_in hlt) (by rw [List.size_toArray, hvl, sizeLine_eq]; omega) ?_
  intro g2
  have hsz : vt.toArray.size = fs.length := by simp [hvl]
  refine rest_P (fun i ys nx => nx = led6 L c6 c5 c4 c3 c2 c1 tl ∧ IntsAre ys ((fs.take i).map (·.1))) ?pair ?done ⟨rfl, .nil⟩
  case pair =>
    intro i v ys nx hi hP hJ
    obtain ⟨rfl, hys⟩ := hJ
    rw [hsz] at hi
    have hPv : vt[i]? = some v := by simpa using hP
    obtain ⟨ai, n', t1, t2, e, hmm⟩ := hp.at hi
    rw [hPv] at e
    cases e
    refine ⟨ai, n', _, _, rfl, led6_in hmm, ?_⟩
    intro I oI C oC D m₂ h tk E' hC hx hx2 F2 N2 off ne
    clear F N
    k_with_none
    k_steps
    refine UEnd.intro F2 N2 _ (fun p hp => hp) off (Or.inr ⟨_, led6_in hlt, rfl, _, rfl⟩) ⟨rfl, ?_⟩
    rw [take_snoc _ (getD_some (d := (0, 0)) hi)]
    exact IntsAre.append hys (.cons _ _ .nil)
  case done =>
    intro ys nx hJ
    obtain ⟨rfl, hys⟩ := hJ
    rw [hsz, List.take_length] at hys
    intro D h tk F2 N2 off
    have o1 := off1_all off _ (.head _)
    have o2 := off1_all off _ (.tail _ (.head _))
    have o3 := off1_all off _ (mem2 (.head _))
    have o4 := off1_all off _ (mem3 (.head _))
    have o5 := off1_all off _ (mem4 (.head _))
    have o6 := off1_all off _ (mem5 (.head _))
    dsimp only at o1 o2 o3 o4 o5 o6 ⊢
    exact WEnd.intro F2 N2 led6_new ⟨D, ys, ys.length, rfl, rfl, Above.cons (by omega) hab, hys⟩
end
end
section
local macro_rules | `(tactic| walk_at "binaryOp RShift int int") => `(tactic| (k_here; (with_reducible refine shr1 ?_)))
local macro_rules | `(tactic| walk_at "binaryOp Mod int int") => `(tactic| (k_here; (with_reducible refine mod_pos ?k1 ?_); (case k1 => decide)))
local macro_rules | `(tactic| walk_at "binaryOp FloorDiv int int") => `(tactic| (k_here; (with_reducible refine fdiv_pos ?k1 ?k2 ?_); (case k1 => decide); (case k2 => decide +kernel)))
local macro_rules | `(tactic| k_all) => `(tactic| with_reducible assumption)
local macro_rules | `(tactic| l_idx) => `(tactic| omega)
local macro_rules | `(tactic| k_upd) => `(tactic| first | (refine' Pick.head ?a; (case a => k_all)) | (refine' Pick.tail ?a ?b; (case a => k_ne); (case b => k_upd)))
local macro_rules | `(tactic| walk_at "call ref") => `(tactic| (k_here; refine wpAny_call ?_; k_dflt (refine' code_def ?k1 ?k2 ?k3 ?k4 ?k5 ?kA ?kF ?kK ?k6 ?k7 ?k8 ?k9 ?kB ?_ ?c2 ?c3 ?c4 ?c5; (case kA => exact rfl); (case kF => exact rfl); (case kK => first | exact rfl | assumption); (case k1 => k_asm); (case k2 => k_asm); (case k3 => k_asm); (case k4 => k_asm); (case k5 => k_asm); (case k6 => k_is); (case k7 => k_is); (case k8 => ktr_room); (case k9 => exact BindsTo.of_eq rfl); (case c5 => decide); (case kB => exact locs rfl); (case c2 => exact rfl); (case c3 => exact rfl); (case c4 => exact rfl); k_whole; intro g' L' h' FG' F' N' B' X' T'; (try dsimp only); (try k_lift B'); (try k_fold))))
section
variable {w : World} {mean : ExcName → Option Value} {mg mb : Str → Option Value} {a : Addr} {ccd : Value} {h₀ : Heap} {L : Addr} {m : Str → Option Value} {s : Shared} {Q : Flow → Shared → Prop} {E : Value → Shared → Prop}
  {oc : Value} {od : Option Addr} {name qual : Str} {params : Arguments} {body : List Stmt} {scope : Scope} {dV kV doc pm cdv ct : Value} {an : Option Addr} {osl : Array (Option Value)} {st : Stmt}
local macro_rules | `(tactic| walk_at "eval ListComp") => `(tactic| (k_here; k_dflt (refine LCp.ListComp_P (F₀ := by k_asm) (by with_unfolding_all rfl) (by decide) (by rfl) (by decide) (by rfl) (by rfl) (by decide) ?_)))
local macro_rules | `(tactic| walk_at "exec Assign cons ListComp") => `(tactic| (k_here; k_dflt (refine LCp.Assign_ListComp_P (F₀ := by k_asm) (by rfl) (by with_unfolding_all rfl) (by with_unfolding_all rfl) (by decide) (by rfl) (by decide) (by rfl) (by rfl) (by decide) (by rfl) (by rfl) ?_)))
local macro_rules | `(tactic| walk_at "SrcLP") => `(tactic| k_extra "SrcLP")
set_option maxHeartbeats 8000000 in
theorem st_every {c6 c5 c4 c3 c2 c1 : Obj} {tl : List (Addr × Obj)} {lt : Addr} {vt : List Value} {nt : Nat} {fs : List (Int × Int)}
    (ho : (hd.heap_39 w.params).lookup 145 = some ⟨oc, od, .func (fnOf name qual params body scope dV kV doc pm an cdv ct), osl⟩) (hst : body[10]? = some st)
    (B : Below callerA h₀ [] h₀) (X : (hd.heap_39 w.params).In h₀) (T : Top hd.view_39 lz mean mg mb h₀) (F : Fr h₀ L s.heap m)
    (N : News h₀ L s.heap (led6 L c6 c5 c4 c3 c2 c1 tl)) (hab : Above L tl) (hm : KnownAll m [(Str.ofString "told", .ref lt)]) (hlt : (lt, W.listOf vt.toArray nt) ∈ tl) (hp : PairsP tl vt fs) (h16 : fs.length ≤ 16) :
    wpAny (model prg w) (callerA.deeper (envOfC qual scope L a ccd)) (exec st (envOfC qual scope L a ccd))
      (StPost h₀ L (fun m' nx => ∃ D vs n, m' = setM m (Str.ofString "every") (.ref D) ∧ nx = led6 L c6 c5 c4 c3 c2 c1 ((D, W.listOf vs.toArray n) :: tl) ∧ Above L ((D, W.listOf vs.toArray n) :: tl) ∧ IntsAre vs (fs.map (·.2))) s Q) E s := by
  revert X; unfold prg; w_top off; k_fill; intro X
  refine' law_is ho ?e ?_
  case e => k_is
  intro hq
  clear ho
  cases hq
  simp only [List.getElem?_cons_zero, List.getElem?_cons_succ, Option.some.injEq] at hst
  subst hst
  have F1 : Fr h₀ L s.heap (kstB m [(Str.ofString "told", .ref lt)]) := fr_knownL hm F
  dsimp only [kstB] at F1
  have hvl := hp.length
  k_with_none
  k_with "SrcLP" => refine held ?_
  k_steps
  refine Held.out ?_
  unfold Held
  have eM : (fun z => if z = Str.ofString "told" then some (Value.ref lt) else m z) = m := known_eq hm
  rw [eM]
  clear F1
  refine LCp.SrcLP.ledger rfl F N (led6_in hlt) (by rw [List.size_toArray, hvl, sizeLine_eq]; omega) ?_
  intro g2
  have hsz : vt.toArray.size = fs.length := by simp [hvl]
  refine rest_P (fun i ys nx => nx = led6 L c6 c5 c4 c3 c2 c1 tl ∧ IntsAre ys ((fs.take i).map (·.2))) ?pair ?done ⟨rfl, .nil⟩
  case pair =>
    intro i v ys nx hi hP hJ
    obtain ⟨rfl, hys⟩ := hJ
    rw [hsz] at hi
    have hPv : vt[i]? = some v := by simpa using hP
    obtain ⟨ai, n', t1, t2, e, hmm⟩ := hp.at hi
    rw [hPv] at e
    cases e
    refine ⟨ai, n', _, _, rfl, led6_in hmm, ?_⟩
    intro I oI C oC D m₂ h tk E' hC hx hx2 F2 N2 off ne
    clear F N
    k_with_none
    k_steps
    refine UEnd.intro F2 N2 _ (fun p hp => hp) off (Or.inr ⟨_, led6_in hlt, rfl, _, rfl⟩) ⟨rfl, ?_⟩
    rw [take_snoc _ (getD_some (d := (0, 0)) hi)]
    exact IntsAre.append hys (.cons _ _ .nil)
  case done =>
    intro ys nx hJ
    obtain ⟨rfl, hys⟩ := hJ
    rw [hsz, List.take_length] at hys
    intro D h tk F2 N2 off
    have o1 := off1_all off _ (.head _)
    have o2 := off1_all off _ (.tail _ (.head _))
    have o3 := off1_all off _ (mem2 (.head _))
    have o4 := off1_all off _ (mem3 (.head _))
    have o5 := off1_all off _ (mem4 (.head _))
    have o6 := off1_all off _ (mem5 (.head _))
    dsimp only at o1 o2 o3 o4 o5 o6 ⊢
    exact WEnd.intro F2 N2 led6_new ⟨D, ys, ys.length, rfl, rfl, Above.cons (by omega) hab, hys⟩
end
end
section
local macro_rules | `(tactic| walk_at "binaryOp RShift int int") => `(tactic| (k_here; (with_reducible refine shr1 ?_)))
local macro_rules | `(tactic| walk_at "binaryOp Mod int int") => `(tactic| (k_here; (with_reducible refine mod_pos ?k1 ?_); (case k1 => decide)))
local macro_rules | `(tactic| walk_at "binaryOp FloorDiv int int") => `(tactic| (k_here; (with_reducible refine fdiv_pos ?k1 ?k2 ?_); (case k1 => decide); (case k2 => decide +kernel)))
local macro_rules | `(tactic| k_all) => `(tactic| with_reducible assumption)
local macro_rules | `(tactic| l_idx) => `(tactic| omega)
local macro_rules | `(tactic| k_upd) => `(tactic| first | (refine' Pick.head ?a; (case a => k_all)) | (refine' Pick.tail ?a ?b; (case a => k_ne); (case b => k_upd)))
local macro_rules | `(tactic| walk_at "call ref") => `(tactic| (k_here; refine wpAny_call ?_; k_dflt (refine' code_def ?k1 ?k2 ?k3 ?k4 ?k5 ?kA ?kF ?kK ?k6 ?k7 ?k8 ?k9 ?kB ?_ ?c2 ?c3 ?c4 ?c5; (case kA => exact rfl); (case kF => exact rfl); (case kK => first | exact rfl | assumption); (case k1 => k_asm); (case k2 => k_asm); (case k3 => k_asm); (case k4 => k_asm); (case k5 => k_asm); (case k6 => k_is); (case k7 => k_is); (case k8 => ktr_room); (case k9 => exact BindsTo.of_eq rfl); (case c5 => decide); (case kB => exact locs rfl); (case c2 => exact rfl); (case c3 => exact rfl); (case c4 => exact rfl); k_whole; intro g' L' h' FG' F' N' B' X' T'; (try dsimp only); (try k_lift B'); (try k_fold))))
section
variable {w : World} {mean : ExcName → Option Value} {mg mb : Str → Option Value} {a : Addr} {ccd : Value} {h₀ : Heap} {L : Addr} {m : Str → Option Value} {s : Shared} {Q : Flow → Shared → Prop} {E : Value → Shared → Prop}
  {oc : Value} {od : Option Addr} {name qual : Str} {params : Arguments} {body : List Stmt} {scope : Scope} {dV kV doc pm cdv ct : Value} {an : Option Addr} {osl : Array (Option Value)} {st : Stmt}
local macro_rules | `(tactic| walk_at "call ref") => `(tactic| k_extra "call ref")
local macro_rules | `(tactic| walk_at "call builtin:sorted") => `(tactic| k_extra "call builtin:sorted")
local macro_rules | `(tactic| walk_at "compareOp NotEq ref ref") => `(tactic| k_extra "compareOp NotEq ref ref")
set_option maxHeartbeats 8000000 in
theorem st_if1 {c6 c5 c4 c3 c2 c1 : Obj} {tl : List (Addr × Obj)} {lw lv lp : Addr} {vw vv vp : List Value} {nw nv np : Nat} {ws es ps : List Int}
    (ho : (hd.heap_39 w.params).lookup 145 = some ⟨oc, od, .func (fnOf name qual params body scope dV kV doc pm an cdv ct), osl⟩) (hst : body[11]? = some st)
    (B : Below callerA h₀ [] h₀) (X : (hd.heap_39 w.params).In h₀) (T : Top hd.view_39 lz mean mg mb h₀) (F : Fr h₀ L s.heap m)
    (N : News h₀ L s.heap (led6 L c6 c5 c4 c3 c2 c1 tl)) (hab : Above L tl) (hm : KnownAll m [(Str.ofString "ways", .ref lw), (Str.ofString "every", .ref lv)]) (d3 : c3.data = .cell (some (.ref lp)))
    (hlw : (lw, W.listOf vw.toArray nw) ∈ tl) (hiw : IntsAre vw ws) (hlv : (lv, W.listOf vv.toArray nv) ∈ tl) (hiv : IntsAre vv es) (hlp : (lp, W.listOf vp.toArray np) ∈ tl) (hip : IntsAre vp ps) (h16 : ws.length ≤ 16) (g16 : es.length ≤ 16) (p4 : ps.length = 4)
    (hso : ws.Pairwise (· ≤ ·)) (hpe : es.Perm (chF ps)) :
    wpAny (model prg w) (callerA.deeper (envOfC qual scope L a ccd)) (exec st (envOfC qual scope L a ccd))
      (StPost h₀ L (fun m' nx => m' = m ∧ nx = led6 L c6 c5 c4 c3 c2 c1 tl) s Q) E s := by
  revert X; unfold prg; w_top off; k_fill; intro X
  refine' law_is ho ?e ?_
  case e => k_is
  intro hq
  clear ho
  cases hq
  simp only [List.getElem?_cons_zero, List.getElem?_cons_succ, Option.some.injEq] at hst
  subst hst
  have F1 : Fr h₀ L s.heap (kstB m [(Str.ofString "ways", .ref lw), (Str.ofString "every", .ref lv)]) := fr_knownL hm F
  dsimp only [kstB] at F1
  have eM : (fun z => if z = Str.ofString "ways" then some (Value.ref lw) else if z = Str.ofString "every" then some (Value.ref lv) else m z) = m := known_eq hm
  clear F
  have l1 := hiw.length
  have l2 := hiv.length
  k_with_none
  k_with "call ref" => refine held ?_
  k_with "call builtin:sorted" => refine held ?_
  k_with "compareOp NotEq ref ref" => refine held ?_
  k_steps
  refine Held.out ?_
  unfold Held
  refine kso_sorted (by k_asm) (by k_asm) (kso_isList (by k_asm) (led6_in hlw) (by simp)) hiw (by omega) ?_
  intro D1 v1 n1 k1 h1 F2 N2 b1 hI1 hyl1 hp1 ho1 hq1
  have e1 : ws = n1 := sorted_unique hp1.symm hso ho1
  k_steps
  refine Held.out ?_
  unfold Held
  refine ne_intsK (kso_isList (by k_asm) (.tail _ (led6_in hlw)) (by simp)) hiw (kso_isList (by k_asm) (.head _) (by simp)) hI1 (by ktr_units) ?_
  rw [decide_eq_true e1]
  k_steps
  refine Held.out ?_
  unfold Held
  refine kso_sorted (by k_asm) (by k_asm) (kso_isList (by k_asm) (.tail _ (led6_in hlv)) (by simp)) hiv (by omega) ?_
  intro D2 v2 n2 k2 h2 F3 N3 b2 hI2 hyl2 hp2 ho2 hq2
  k_steps
  refine Held.out ?_
  unfold Held
  k_dflt (refine' choices_tells ?B ?F ?X ?N ?T ?hk ?hm ?hi ?h4 ?hdp ?hun ?_; (case B => k_asm); (case F => k_asm); (case X => k_asm); (case N => k_asm); (case T => k_asm); (case hk => exact rfl); (case hm => exact mem2 (led6_in hlp)); (case hi => exact hip); (case h4 => omega); (case hdp => ktr_room); (case hun => ktr_units))
  intro h4 tk4 D3 v3 k3 n3 F4 N4 b3 hI3 hp3 ho3
  have e2 : n2 = n3 := sorted_unique (hp2.trans (hpe.trans hp3.symm)) ho2 ho3
  k_steps
  refine Held.out ?_
  unfold Held
  refine ne_intsK (kso_isList (by k_asm) (.tail _ (.head _)) (by simp)) hI2 (kso_isList (by k_asm) (.head _) (by simp)) hI3 (by ktr_units) ?_
  rw [decide_eq_true e2]
  k_steps
  dsimp only
  exact WEnd.intro F4 N4 (fun p hp => mem3 hp) ⟨eM, rfl⟩
end
end
section
local macro_rules | `(tactic| walk_at "binaryOp RShift int int") => `(tactic| (k_here; (with_reducible refine shr1 ?_)))
local macro_rules | `(tactic| walk_at "binaryOp Mod int int") => `(tactic| (k_here; (with_reducible refine mod_pos ?k1 ?_); (case k1 => decide)))
local macro_rules | `(tactic| walk_at "binaryOp FloorDiv int int") => `(tactic| (k_here; (with_reducible refine fdiv_pos ?k1 ?k2 ?_); (case k1 => decide); (case k2 => decide +kernel)))
local macro_rules | `(tactic| k_all) => `(tactic| with_reducible assumption)
local macro_rules | `(tactic| l_idx) => `(tactic| omega)
local macro_rules | `(tactic| k_upd) => `(tactic| first | (refine' Pick.head ?a; (case a => k_all)) | (refine' Pick.tail ?a ?b; (case a => k_ne); (case b => k_upd)))
local macro_rules | `(tactic| walk_at "call ref") => `(tactic| (k_here; refine wpAny_call ?_; k_dflt (refine' code_def ?k1 ?k2 ?k3 ?k4 ?k5 ?kA ?kF ?kK ?k6 ?k7 ?k8 ?k9 ?kB ?_ ?c2 ?c3 ?c4 ?c5; (case kA => exact rfl); (case kF => exact rfl); (case kK => first | exact rfl | assumption); (case k1 => k_asm); (case k2 => k_asm); (case k3 => k_asm); (case k4 => k_asm); (case k5 => k_asm); (case k6 => k_is); (case k7 => k_is); (case k8 => ktr_room); (case k9 => exact BindsTo.of_eq rfl); (case c5 => decide); (case kB => exact locs rfl); (case c2 => exact rfl); (case c3 => exact rfl); (case c4 => exact rfl); k_whole; intro g' L' h' FG' F' N' B' X' T'; (try dsimp only); (try k_lift B'); (try k_fold))))
section
variable {w : World} {mean : ExcName → Option Value} {mg mb : Str → Option Value} {a : Addr} {ccd : Value} {h₀ : Heap} {L : Addr} {m : Str → Option Value} {s : Shared} {Q : Flow → Shared → Prop} {E : Value → Shared → Prop}
  {oc : Value} {od : Option Addr} {name qual : Str} {params : Arguments} {body : List Stmt} {scope : Scope} {dV kV doc pm cdv ct : Value} {an : Option Addr} {osl : Array (Option Value)} {st : Stmt}

set_option maxHeartbeats 8000000 in
theorem st_ring {c6 c5 c4 c3 c2 c1 : Obj} {tl : List (Addr × Obj)} {v5 : Option Value} {g : Int} {tg : Tok}
    (ho : (hd.heap_39 w.params).lookup 145 = some ⟨oc, od, .func (fnOf name qual params body scope dV kV doc pm an cdv ct), osl⟩) (hst : body[12]? = some st)
    (B : Below callerA h₀ [] h₀) (X : (hd.heap_39 w.params).In h₀) (T : Top hd.view_39 lz mean mg mb h₀) (F : Fr h₀ L s.heap m)
    (N : News h₀ L s.heap (led6 L c6 c5 c4 c3 c2 c1 tl)) (hab : Above L tl) (d2 : c2.data = .cell (some (.int g tg))) (d5 : c5.data = .cell v5) :
    wpAny (model prg w) (callerA.deeper (envOfC qual scope L a ccd)) (exec st (envOfC qual scope L a ccd))
      (StPost h₀ L (fun m' nx => m' = m ∧ ∃ c5 t, nx = led6 L c6 c5 c4 c3 c2 c1 tl ∧ c5.data = .cell (some (.str (ringS g) t))) s Q) E s := by
  revert X; unfold prg; w_top off; k_fill; intro X
  refine' law_is ho ?e ?_
  case e => k_is
  intro hq
  clear ho
  cases hq
  simp only [List.getElem?_cons_zero, List.getElem?_cons_succ, Option.some.injEq] at hst
  subst hst
  have a5 := hab.ne5
  k_with_none
  k_steps
  · dsimp only
    rename g = 2 => hg
    exact WEnd.intro (by k_asm) (by k_asm) (fun p hp => hp) ⟨rfl, _, _, rfl, by rw [ringS, if_pos hg]; assumption⟩
  · dsimp only
    rename g ≠ 2 => hg
    exact WEnd.intro (by k_asm) (by k_asm) (fun p hp => hp) ⟨rfl, _, _, rfl, by rw [ringS, if_neg hg]; assumption⟩
end
end
section
local macro_rules | `(tactic| walk_at "binaryOp RShift int int") => `(tactic| (k_here; (with_reducible refine shr1 ?_)))
local macro_rules | `(tactic| walk_at "binaryOp Mod int int") => `(tactic| (k_here; (with_reducible refine mod_pos ?k1 ?_); (case k1 => decide)))
local macro_rules | `(tactic| walk_at "binaryOp FloorDiv int int") => `(tactic| (k_here; (with_reducible refine fdiv_pos ?k1 ?k2 ?_); (case k1 => decide); (case k2 => decide +kernel)))
local macro_rules | `(tactic| k_all) => `(tactic| with_reducible assumption)
local macro_rules | `(tactic| l_idx) => `(tactic| omega)
local macro_rules | `(tactic| k_upd) => `(tactic| first | (refine' Pick.head ?a; (case a => k_all)) | (refine' Pick.tail ?a ?b; (case a => k_ne); (case b => k_upd)))
local macro_rules | `(tactic| walk_at "call ref") => `(tactic| (k_here; refine wpAny_call ?_; k_dflt (refine' code_def ?k1 ?k2 ?k3 ?k4 ?k5 ?kA ?kF ?kK ?k6 ?k7 ?k8 ?k9 ?kB ?_ ?c2 ?c3 ?c4 ?c5; (case kA => exact rfl); (case kF => exact rfl); (case kK => first | exact rfl | assumption); (case k1 => k_asm); (case k2 => k_asm); (case k3 => k_asm); (case k4 => k_asm); (case k5 => k_asm); (case k6 => k_is); (case k7 => k_is); (case k8 => ktr_room); (case k9 => exact BindsTo.of_eq rfl); (case c5 => decide); (case kB => exact locs rfl); (case c2 => exact rfl); (case c3 => exact rfl); (case c4 => exact rfl); k_whole; intro g' L' h' FG' F' N' B' X' T'; (try dsimp only); (try k_lift B'); (try k_fold))))
section
variable {w : World} {mean : ExcName → Option Value} {mg mb : Str → Option Value} {a : Addr} {ccd : Value} {h₀ : Heap} {L : Addr} {m : Str → Option Value} {s : Shared} {Q : Flow → Shared → Prop} {E : Value → Shared → Prop}
  {oc : Value} {od : Option Addr} {name qual : Str} {params : Arguments} {body : List Stmt} {scope : Scope} {dV kV doc pm cdv ct : Value} {an : Option Addr} {osl : Array (Option Value)} {st : Stmt}
local macro_rules | `(tactic| walk_at "eval ListComp") => `(tactic| (k_here; (with_reducible show wpAny _ _ (eval (PySem.Expr.ListComp _ [⟨PySem.Expr.Name _ _, _, [], 0⟩] _ _) _) _ _ _); k_dflt (refine LCg.ListComp_U (F₀ := by k_asm) (by with_unfolding_all rfl) (by decide) (by rfl) (by decide) (by rfl) ?_)))
local macro_rules | `(tactic| walk_at "exec Assign cons ListComp") => `(tactic| (k_here; k_dflt (refine LCg.Assign_ListComp_U (F₀ := by k_asm) (by rfl) (by with_unfolding_all rfl) (by with_unfolding_all rfl) (by decide) (by rfl) (by decide) (by rfl) (by rfl) (by rfl) ?_)))
local macro_rules | `(tactic| walk_at "CompSrc") => `(tactic| k_extra "CompSrc")
local macro_rules | `(tactic| walk_at "call ref") => `(tactic| k_extra "call ref")
set_option maxHeartbeats 8000000 in
theorem st_texts {c6 c5 c4 c3 c2 c1 : Obj} {tl : List (Addr × Obj)} {lm : Addr} {vm : List Value} {nm : Nat} {md : List Int}
    (ho : (hd.heap_39 w.params).lookup 145 = some ⟨oc, od, .func (fnOf name qual params body scope dV kV doc pm an cdv ct), osl⟩) (hst : body[13]? = some st)
    (B : Below callerA h₀ [] h₀) (X : (hd.heap_39 w.params).In h₀) (T : Top hd.view_39 lz mean mg mb h₀) (F : Fr h₀ L s.heap m)
    (N : News h₀ L s.heap (led6 L c6 c5 c4 c3 c2 c1 tl)) (hab : Above L tl) (d1 : c1.data = .cell (some (.ref lm))) (h5 : md.length ≤ 5) (hlm : (lm, W.listOf vm.toArray nm) ∈ tl) (him : IntsAre vm md) :
    wpAny (model prg w) (callerA.deeper (envOfC qual scope L a ccd)) (exec st (envOfC qual scope L a ccd))
      (StPost h₀ L (fun m' nx => ∃ D vs n, m' = setM m (Str.ofString "texts") (.ref D) ∧ nx = led6 L c6 c5 c4 c3 c2 c1 ((D, W.listOf vs.toArray n) :: tl) ∧ Above L ((D, W.listOf vs.toArray n) :: tl) ∧ StrsAre vs (md.map fmStr)) s Q) E s := by
  revert X; unfold prg; w_top off; k_fill; intro X
  refine' law_is ho ?e ?_
  case e => k_is
  intro hq
  clear ho
  cases hq
  simp only [List.getElem?_cons_zero, List.getElem?_cons_succ, Option.some.injEq] at hst
  subst hst
  have hml := him.length
  k_with_none
  k_with "CompSrc" => refine held ?_
  k_steps
  refine Held.out ?_
  unfold Held
  refine LCg.CompSrc.ledger rfl F N (led6_in hlm) (by rw [List.size_toArray, hml, sizeLine_eq]; omega) ?_
  intro g2
  have hsz : vm.toArray.size = md.length := by simp [hml]
  refine rest_U (fun i ys nx => nx = led6 L c6 c5 c4 c3 c2 c1 tl ∧ StrsAre ys ((md.take i).map fmStr)) ?turn ?done ⟨rfl, .nil⟩
  case turn =>
    intro i v ys nx I oI C oC D m₂ h tk E' hi hP hJ hC hx F2 N2 off ne
    obtain ⟨rfl, hys⟩ := hJ
    rw [hsz] at hi
    have hPv : vm[i]? = some v := by simpa using hP
    obtain ⟨k, t, rfl, hki⟩ := IntsAre.at him i v hPv
    clear F N
    k_with_none
    k_with "call ref" => refine held ?_
    k_steps
    refine Held.out ?_
    unfold Held
    k_dflt (refine' filemode_tells ?B ?F ?X ?N ?T ?hk ?hdp ?hun ?_; (case B => k_asm); (case F => k_asm); (case X => k_asm); (case N => k_asm); (case T => k_asm); (case hk => exact rfl); (case hdp => ktr_room); (case hun => ktr_units))
    intro h7 tk7 t7 x F7 N7 hx7 hxl
    subst hx7
    refine UEnd.intro F7 N7 _ (fun p hp => hp) off (Or.inr ⟨_, led6_in hlm, rfl, _, rfl⟩) ⟨rfl, ?_⟩
    rw [take_snoc _ hki]
    exact strs_snoc hys _ _
  case done =>
    intro ys nx hJ
    obtain ⟨rfl, hys⟩ := hJ
    rw [hsz, List.take_length] at hys
    intro D h tk F2 N2 off
    have o1 := off1_all off _ (.head _)
    have o2 := off1_all off _ (.tail _ (.head _))
    have o3 := off1_all off _ (mem2 (.head _))
    have o4 := off1_all off _ (mem3 (.head _))
    have o5 := off1_all off _ (mem4 (.head _))
    have o6 := off1_all off _ (mem5 (.head _))
    dsimp only at o1 o2 o3 o4 o5 o6
    exact WEnd.intro F2 N2 led6_new ⟨D, ys, ys.length, rfl, rfl, Above.cons (by omega) hab, hys⟩
end
end
section
local macro_rules | `(tactic| walk_at "binaryOp RShift int int") => `(tactic| (k_here; (with_reducible refine shr1 ?_)))
local macro_rules | `(tactic| walk_at "binaryOp Mod int int") => `(tactic| (k_here; (with_reducible refine mod_pos ?k1 ?_); (case k1 => decide)))
local macro_rules | `(tactic| walk_at "binaryOp FloorDiv int int") => `(tactic| (k_here; (with_reducible refine fdiv_pos ?k1 ?k2 ?_); (case k1 => decide); (case k2 => decide +kernel)))
local macro_rules | `(tactic| k_all) => `(tactic| with_reducible assumption)
local macro_rules | `(tactic| l_idx) => `(tactic| omega)
local macro_rules | `(tactic| k_upd) => `(tactic| first | (refine' Pick.head ?a; (case a => k_all)) | (refine' Pick.tail ?a ?b; (case a => k_ne); (case b => k_upd)))
local macro_rules | `(tactic| walk_at "call ref") => `(tactic| (k_here; refine wpAny_call ?_; k_dflt (refine' code_def ?k1 ?k2 ?k3 ?k4 ?k5 ?kA ?kF ?kK ?k6 ?k7 ?k8 ?k9 ?kB ?_ ?c2 ?c3 ?c4 ?c5; (case kA => exact rfl); (case kF => exact rfl); (case kK => first | exact rfl | assumption); (case k1 => k_asm); (case k2 => k_asm); (case k3 => k_asm); (case k4 => k_asm); (case k5 => k_asm); (case k6 => k_is); (case k7 => k_is); (case k8 => ktr_room); (case k9 => exact BindsTo.of_eq rfl); (case c5 => decide); (case kB => exact locs rfl); (case c2 => exact rfl); (case c3 => exact rfl); (case c4 => exact rfl); k_whole; intro g' L' h' FG' F' N' B' X' T'; (try dsimp only); (try k_lift B'); (try k_fold))))
section
variable {w : World} {mean : ExcName → Option Value} {mg mb : Str → Option Value} {a : Addr} {ccd : Value} {h₀ : Heap} {L : Addr} {m : Str → Option Value} {s : Shared} {Q : Flow → Shared → Prop} {E : Value → Shared → Prop}
  {oc : Value} {od : Option Addr} {name qual : Str} {params : Arguments} {body : List Stmt} {scope : Scope} {dV kV doc pm cdv ct : Value} {an : Option Addr} {osl : Array (Option Value)} {st : Stmt}
local macro_rules | `(tactic| walk_at "exec Assign cons ListComp") => `(tactic| (k_here; k_dflt (refine LCg.Assign_ListComp_U (F₀ := by k_asm) (by rfl) (by with_unfolding_all rfl) (by with_unfolding_all rfl) (by decide) (by rfl) (by decide) (by rfl) (by rfl) (by rfl) ?_)))
local macro_rules | `(tactic| walk_at "CompSrc") => `(tactic| k_extra "CompSrc")
set_option maxHeartbeats 8000000 in
theorem st_shown {c6 c5 c4 c3 c2 c1 : Obj} {tl : List (Addr × Obj)} {lx : Addr} {vx : List Value} {nx₀ : Nat} {xs : List Str} {g : Int} {tg : Tok}
    (ho : (hd.heap_39 w.params).lookup 145 = some ⟨oc, od, .func (fnOf name qual params body scope dV kV doc pm an cdv ct), osl⟩) (hst : body[15]? = some st)
    (B : Below callerA h₀ [] h₀) (X : (hd.heap_39 w.params).In h₀) (T : Top hd.view_39 lz mean mg mb h₀) (F : Fr h₀ L s.heap m)
    (N : News h₀ L s.heap (led6 L c6 c5 c4 c3 c2 c1 tl)) (hab : Above L tl) (hm : KnownAll m [(Str.ofString "texts", .ref lx)]) (d2 : c2.data = .cell (some (.int g tg))) (hg0 : 0 ≤ g) (hg3 : g < 3) (h5 : xs.length ≤ 5) (hlx : (lx, W.listOf vx.toArray nx₀) ∈ tl) (hix : StrsAre vx xs) (h10 : ∀ x ∈ xs, x.length = 10) :
    wpAny (model prg w) (callerA.deeper (envOfC qual scope L a ccd)) (exec st (envOfC qual scope L a ccd))
      (StPost h₀ L (fun m' nx => ∃ D vs n, m' = setM m (Str.ofString "shown") (.ref D) ∧ nx = led6 L c6 c5 c4 c3 c2 c1 ((D, W.listOf vs.toArray n) :: tl) ∧ Above L ((D, W.listOf vs.toArray n) :: tl) ∧ StrsAre vs (xs.map fun x => Txt.slice x (some (1 + 3 * g)) (some (4 + 3 * g)))) s Q) E s := by
  revert X; unfold prg; w_top off; k_fill; intro X
  refine' law_is ho ?e ?_
  case e => k_is
  intro hq
  clear ho
  cases hq
  simp only [List.getElem?_cons_zero, List.getElem?_cons_succ, Option.some.injEq] at hst
  subst hst
  have F1 : Fr h₀ L s.heap (kstB m [(Str.ofString "texts", .ref lx)]) := fr_knownL hm F
  dsimp only [kstB] at F1
  have eM : (fun z => if z = Str.ofString "texts" then some (Value.ref lx) else m z) = m := known_eq hm
  have hxl := hix.length
  k_with_none
  k_with "CompSrc" => refine held ?_
  k_steps
  refine Held.out ?_
  unfold Held
  rw [eM]
  clear F1
  refine LCg.CompSrc.ledger rfl F N (led6_in hlx) (by rw [List.size_toArray, hxl, sizeLine_eq]; omega) ?_
  intro g2
  have hsz : vx.toArray.size = xs.length := by simp [hxl]
  refine rest_U (fun i ys nx => nx = led6 L c6 c5 c4 c3 c2 c1 tl ∧ StrsAre ys ((xs.take i).map fun x => Txt.slice x (some (1 + 3 * g)) (some (4 + 3 * g)))) ?turn ?done ⟨rfl, .nil⟩
  case turn =>
    intro i v ys nx I oI C oC D m₂ h tk E' hi hP hJ hC hx F2 N2 off ne
    obtain ⟨rfl, hys⟩ := hJ
    rw [hsz] at hi
    have hPv : vx[i]? = some v := by simpa using hP
    obtain ⟨x, t, rfl, hki⟩ := strs_at hix i v hPv
    have hx10 := h10 x (List.mem_of_getElem? hki)
    have q1 : 0 ≤ 1 + 3 * g := by omega
    have q2 : 0 ≤ 4 + 3 * g := by omega
    clear F N
    k_with_none
    k_steps
    rename News _ _ _ _ => N9
    refine UEnd.intro (by k_asm) N9 _ (fun p hp => hp) off (Or.inr ⟨_, led6_in hlx, rfl, _, rfl⟩) ⟨rfl, ?_⟩
    rw [take_snoc _ hki]
    exact strs_snoc hys _ _
  case done =>
    intro ys nx hJ
    obtain ⟨rfl, hys⟩ := hJ
    rw [hsz, List.take_length] at hys
    intro D h tk F2 N2 off
    have o1 := off1_all off _ (.head _)
    have o2 := off1_all off _ (.tail _ (.head _))
    have o3 := off1_all off _ (mem2 (.head _))
    have o4 := off1_all off _ (mem3 (.head _))
    have o5 := off1_all off _ (mem4 (.head _))
    have o6 := off1_all off _ (mem5 (.head _))
    dsimp only at o1 o2 o3 o4 o5 o6
    exact WEnd.intro F2 N2 led6_new ⟨D, ys, ys.length, rfl, rfl, Above.cons (by omega) hab, hys⟩
end
end
section
local macro_rules | `(tactic| walk_at "binaryOp RShift int int") => `(tactic| (k_here; (with_reducible refine shr1 ?_)))
local macro_rules | `(tactic| walk_at "binaryOp Mod int int") => `(tactic| (k_here; (with_reducible refine mod_pos ?k1 ?_); (case k1 => decide)))
local macro_rules | `(tactic| walk_at "binaryOp FloorDiv int int") => `(tactic| (k_here; (with_reducible refine fdiv_pos ?k1 ?k2 ?_); (case k1 => decide); (case k2 => decide +kernel)))
local macro_rules | `(tactic| k_all) => `(tactic| with_reducible assumption)
local macro_rules | `(tactic| l_idx) => `(tactic| omega)
local macro_rules | `(tactic| k_upd) => `(tactic| first | (refine' Pick.head ?a; (case a => k_all)) | (refine' Pick.tail ?a ?b; (case a => k_ne); (case b => k_upd)))
local macro_rules | `(tactic| walk_at "call ref") => `(tactic| (k_here; refine wpAny_call ?_; k_dflt (refine' code_def ?k1 ?k2 ?k3 ?k4 ?k5 ?kA ?kF ?kK ?k6 ?k7 ?k8 ?k9 ?kB ?_ ?c2 ?c3 ?c4 ?c5; (case kA => exact rfl); (case kF => exact rfl); (case kK => first | exact rfl | assumption); (case k1 => k_asm); (case k2 => k_asm); (case k3 => k_asm); (case k4 => k_asm); (case k5 => k_asm); (case k6 => k_is); (case k7 => k_is); (case k8 => ktr_room); (case k9 => exact BindsTo.of_eq rfl); (case c5 => decide); (case kB => exact locs rfl); (case c2 => exact rfl); (case c3 => exact rfl); (case c4 => exact rfl); k_whole; intro g' L' h' FG' F' N' B' X' T'; (try dsimp only); (try k_lift B'); (try k_fold))))
section
variable {w : World} {mean : ExcName → Option Value} {mg mb : Str → Option Value} {a : Addr} {ccd : Value} {h₀ : Heap} {L : Addr} {m : Str → Option Value} {s : Shared} {Q : Flow → Shared → Prop} {E : Value → Shared → Prop}
  {oc : Value} {od : Option Addr} {name qual : Str} {params : Arguments} {body : List Stmt} {scope : Scope} {dV kV doc pm cdv ct : Value} {an : Option Addr} {osl : Array (Option Value)} {st : Stmt}
local macro_rules | `(tactic| walk_at "subscriptTail Name Constant ref int") => `(tactic| k_extra "subscriptTail Name Constant ref int")
local macro_rules | `(tactic| walk_at "subscriptTail Subscript Constant str int") => `(tactic| (k_here; (refine item_str ?k1 ?k2 ?k3 ?_); (case k1 => decide); (case k2 => omega); (case k3 => omega); intro _))
set_option maxHeartbeats 8000000 in
theorem st_given {c6 c5 c4 c3 c2 c1 : Obj} {tl : List (Addr × Obj)} {lx : Addr} {vx : List Value} {nx₀ : Nat} {x : Str} {tx : Tok}
    (ho : (hd.heap_39 w.params).lookup 145 = some ⟨oc, od, .func (fnOf name qual params body scope dV kV doc pm an cdv ct), osl⟩) (hst : body[16]? = some st)
    (B : Below callerA h₀ [] h₀) (X : (hd.heap_39 w.params).In h₀) (T : Top hd.view_39 lz mean mg mb h₀) (F : Fr h₀ L s.heap m)
    (N : News h₀ L s.heap (led6 L c6 c5 c4 c3 c2 c1 tl)) (hab : Above L tl) (hm : KnownAll m [(Str.ofString "shown", .ref lx)]) (hlx : (lx, W.listOf vx.toArray nx₀) ∈ tl) (hix : vx[0]? = some (.str x tx)) (h3 : x.length = 3) :
    wpAny (model prg w) (callerA.deeper (envOfC qual scope L a ccd)) (exec st (envOfC qual scope L a ccd))
      (StPost h₀ L (fun m' nx => ∃ D, m' = setM m (Str.ofString "given") (.ref D) ∧ nx = led6 L c6 c5 c4 c3 c2 c1 ((D, W.listOf ((givF x).map Value.bool).toArray 0) :: tl) ∧ Above L ((D, W.listOf ((givF x).map Value.bool).toArray 0) :: tl)) s Q) E s := by
  revert X; unfold prg; w_top off; k_fill; intro X
  refine' law_is ho ?e ?_
  case e => k_is
  intro hq
  clear ho
  cases hq
  simp only [List.getElem?_cons_zero, List.getElem?_cons_succ, Option.some.injEq] at hst
  subst hst
  have F1 : Fr h₀ L s.heap (kstB m [(Str.ofString "shown", .ref lx)]) := fr_knownL hm F
  dsimp only [kstB] at F1
  have eM : (fun z => if z = Str.ofString "shown" then some (Value.ref lx) else m z) = m := known_eq hm
  clear F
  k_with_none
  k_with "subscriptTail Name Constant ref int" => refine held ?_
  k_steps
  refine Held.out ?_
  unfold Held
  refine item_at (by k_asm) (led6_in hlx) (by decide) (by decide) hix ?_
  k_steps
  refine Held.out ?_
  unfold Held
  refine item_at (by k_asm) (led6_in hlx) (by decide) (by decide) hix ?_
  k_steps
  refine Held.out ?_
  unfold Held
  refine item_at (by k_asm) (led6_in hlx) (by decide) (by decide) hix ?_
  k_steps
  rename News _ _ _ _ => N9
  rename_i D _ l1 _ _
  dsimp only
  refine WEnd.intro (by k_asm) N9 led6_new ⟨D, ?e, rfl, Above.cons (by omega) hab⟩
  exact congrArg (fun q => setM q (Str.ofString "given") (.ref D)) eM
end
end
section
local macro_rules | `(tactic| walk_at "binaryOp RShift int int") => `(tactic| (k_here; (with_reducible refine shr1 ?_)))
local macro_rules | `(tactic| walk_at "binaryOp Mod int int") => `(tactic| (k_here; (with_reducible refine mod_pos ?k1 ?_); (case k1 => decide)))
local macro_rules | `(tactic| walk_at "binaryOp FloorDiv int int") => `(tactic| (k_here; (with_reducible refine fdiv_pos ?k1 ?k2 ?_); (case k1 => decide); (case k2 => decide +kernel)))
local macro_rules | `(tactic| k_all) => `(tactic| with_reducible assumption)
local macro_rules | `(tactic| l_idx) => `(tactic| omega)
local macro_rules | `(tactic| k_upd) => `(tactic| first | (refine' Pick.head ?a; (case a => k_all)) | (refine' Pick.tail ?a ?b; (case a => k_ne); (case b => k_upd)))
local macro_rules | `(tactic| walk_at "call ref") => `(tactic| (k_here; refine wpAny_call ?_; k_dflt (refine' code_def ?k1 ?k2 ?k3 ?k4 ?k5 ?kA ?kF ?kK ?k6 ?k7 ?k8 ?k9 ?kB ?_ ?c2 ?c3 ?c4 ?c5; (case kA => exact rfl); (case kF => exact rfl); (case kK => first | exact rfl | assumption); (case k1 => k_asm); (case k2 => k_asm); (case k3 => k_asm); (case k4 => k_asm); (case k5 => k_asm); (case k6 => k_is); (case k7 => k_is); (case k8 => ktr_room); (case k9 => exact BindsTo.of_eq rfl); (case c5 => decide); (case kB => exact locs rfl); (case c2 => exact rfl); (case c3 => exact rfl); (case c4 => exact rfl); k_whole; intro g' L' h' FG' F' N' B' X' T'; (try dsimp only); (try k_lift B'); (try k_fold))))
section
variable {w : World} {mean : ExcName → Option Value} {mg mb : Str → Option Value} {a : Addr} {ccd : Value} {h₀ : Heap} {L : Addr} {m : Str → Option Value} {s : Shared} {Q : Flow → Shared → Prop} {E : Value → Shared → Prop}
  {oc : Value} {od : Option Addr} {name qual : Str} {params : Arguments} {body : List Stmt} {scope : Scope} {dV kV doc pm cdv ct : Value} {an : Option Addr} {osl : Array (Option Value)} {st : Stmt}
local macro_rules | `(tactic| walk_at "eval ListComp") => `(tactic| (k_here; (with_reducible show wpAny _ _ (eval (PySem.Expr.ListComp _ [⟨PySem.Expr.Name _ _, _, [], 0⟩] _ _) _) _ _ _); k_dflt (refine LCg.ListComp_U (F₀ := by k_asm) (by with_unfolding_all rfl) (by decide) (by rfl) (by decide) (by rfl) ?_)))
local macro_rules | `(tactic| walk_at "CompSrc") => `(tactic| k_extra "CompSrc")
local macro_rules | `(tactic| walk_at "subscriptTail Name Slice ref ref") => `(tactic| k_extra "subscriptTail Name Slice ref ref")
local macro_rules | `(tactic| walk_at "compareOp NotEq ref ref") => `(tactic| k_extra "compareOp NotEq ref ref")
set_option maxHeartbeats 8000000 in
theorem st_if3 {c6 c5 c4 c3 c2 c1 : Obj} {tl : List (Addr × Obj)} {lg lc : Addr} {vc : List Value} {nc : Nat} {g : Int} {md : List Int} {bs : List Bool}
    (ho : (hd.heap_39 w.params).lookup 145 = some ⟨oc, od, .func (fnOf name qual params body scope dV kV doc pm an cdv ct), osl⟩) (hst : body[17]? = some st)
    (B : Below callerA h₀ [] h₀) (X : (hd.heap_39 w.params).In h₀) (T : Top hd.view_39 lz mean mg mb h₀) (F : Fr h₀ L s.heap m)
    (N : News h₀ L s.heap (led6 L c6 c5 c4 c3 c2 c1 tl)) (hab : Above L tl) (hm : KnownAll m [(Str.ofString "given", .ref lg)]) (d4 : c4.data = .cell (some (.ref lc))) (hlg : (lg, W.listOf (bs.map Value.bool).toArray 0) ∈ tl)
    (h2 : 2 ≤ md.length) (h5 : md.length ≤ 5) (hlc : (lc, W.listOf vc.toArray nc) ∈ tl) (hic : ColsP tl vc (colsF g md)) (hbs : bs = (List.range 3).map fun k => decide ((colF g md k).getD 0 0 = 1)) :
    wpAny (model prg w) (callerA.deeper (envOfC qual scope L a ccd)) (exec st (envOfC qual scope L a ccd))
      (StPost h₀ L (fun m' nx => m' = m ∧ nx = led6 L c6 c5 c4 c3 c2 c1 tl) s Q) E s := by
  revert X; unfold prg; w_top off; k_fill; intro X
  refine' law_is ho ?e ?_
  case e => k_is
  intro hq
  clear ho
  cases hq
  simp only [List.getElem?_cons_zero, List.getElem?_cons_succ, Option.some.injEq] at hst
  subst hst
  have F1 : Fr h₀ L s.heap (kstB m [(Str.ofString "given", .ref lg)]) := fr_knownL hm F
  dsimp only [kstB] at F1
  have eM : (fun z => if z = Str.ofString "given" then some (Value.ref lg) else m z) = m := known_eq hm
  clear F
  have hcl := hic.length
  k_with_none
  k_with "CompSrc" => refine held ?_
  k_with "subscriptTail Name Slice ref ref" => refine held ?_
  k_with "compareOp NotEq ref ref" => refine held ?_
  obtain ⟨a0, u0, n0, q0, m0, i0⟩ := hic.at (col_at (g := g) (md := md) (k := 0) (by omega)).1
  obtain ⟨a1, u1, n1, q1, m1, i1⟩ := hic.at (col_at (g := g) (md := md) (k := 1) (by omega)).1
  obtain ⟨a2, u2, n2, q2, m2, i2⟩ := hic.at (col_at (g := g) (md := md) (k := 2) (by omega)).1
  obtain ⟨a3, u3, n3, q3, m3, i3⟩ := hic.at (col_at (g := g) (md := md) (k := 3) (by omega)).1
  have hvc : vc = [.ref a0, .ref a1, .ref a2, .ref a3] := by
    match vc, hcl, q0, q1, q2, q3 with
    | [_, _, _, _], _, q0, q1, q2, q3 =>
      simp at q0 q1 q2 q3
      rw [q0, q1, q2, q3]
  subst hvc
  k_steps
  refine Held.out ?_
  unfold Held
  refine kmk_slice_lit (zs := [.ref a0, .ref a1, .ref a2]) F1 N ⟨_, (N _ (led6_in hlc)).1, rfl, nc, rfl⟩ .none (.int _ _) (by rfl) ?_ (by with_unfolding_all rfl) (by intro _; with_unfolding_all rfl) (by rw [sizeLine_eq]; show 4 ≤ _; omega)
  intro D1 h' F2 N2 lD1
  rw [eM] at F2 ⊢
  refine LCg.CompSrc.ledger rfl F2 N2 (.head _) (by rw [sizeLine_eq]; show 3 ≤ _; omega) ?_
  intro g2
  refine rest_U (fun i ys nx => nx = (D1, W.listOf [Value.ref a0, .ref a1, .ref a2].toArray 0) :: led6 L c6 c5 c4 c3 c2 c1 tl ∧ ys = (List.range i).map fun k => Value.bool (decide ((colF g md k).getD 0 0 = 1))) ?turn ?done ⟨rfl, rfl⟩
  case turn =>
    intro i v ys nx I oI C oC D m₂ h tk E' hi hP hJ hC hx F3 N3 off ne
    obtain ⟨rfl, hys⟩ := hJ
    have hi3 : i < 3 := hi
    obtain ⟨ak, us, nk, eki, hmk, hik⟩ := hic.at (col_at (g := g) (md := md) (k := i) (by omega)).1
    have hv : v = .ref ak := by
      match i, hi3 with
      | 0, _ => simp at hP eki; rw [← hP, ← eki]
      | 1, _ => simp at hP eki; rw [← hP, ← eki]
      | 2, _ => simp at hP eki; rw [← hP, ← eki]
    subst hv
    have hlen := col_len (g := g) (md := md) (k := i) (by omega)
    have hul := hik.length
    clear F1 N F2 N2
    replace N3 := news_in N3 (mem4 (led6_in hmk))
    k_with_none
    k_steps
    refine UEnd.intro F3 N3 _ (fun p hp => .tail _ hp) off (Or.inr ⟨_, .head _, rfl, _, rfl⟩) ⟨rfl, ?_⟩
    rw [List.range_succ, List.map_append, hys]
    rfl
  case done =>
    intro ys nx hJ
    obtain ⟨rfl, hys⟩ := hJ
    intro D h tk F3 N3 off
    clear F1 N F2 N2
    k_with_none
    k_with "compareOp NotEq ref ref" => refine held ?_
    k_steps
    refine Held.out ?_
    unfold Held
    have hb3 : bs.map Value.bool = [Value.bool (decide ((colF g md 0).getD 0 0 = 1)), .bool (decide ((colF g md 1).getD 0 0 = 1)), .bool (decide ((colF g md 2).getD 0 0 = 1))] := by rw [hbs]; rfl
    have hy3 : ys = [Value.bool (decide ((colF g md 0).getD 0 0 = 1)), .bool (decide ((colF g md 1).getD 0 0 = 1)), .bool (decide ((colF g md 2).getD 0 0 = 1))] := by rw [hys]; rfl
    rw [hb3] at hlg
    rw [hy3] at N3
    refine ne_bools3 ⟨_, (N3 _ (mem2 (led6_in hlg))).1, rfl, _, rfl⟩ ⟨_, (N3 _ (.head _)).1, rfl, _, rfl⟩ (by ktr_units) ?_
    k_steps
    dsimp only
    exact WEnd.intro F3 N3 (fun p hp => mem2 hp) ⟨rfl, rfl⟩
end
end
section
local macro_rules | `(tactic| walk_at "binaryOp RShift int int") => `(tactic| (k_here; (with_reducible refine shr1 ?_)))
local macro_rules | `(tactic| walk_at "binaryOp Mod int int") => `(tactic| (k_here; (with_reducible refine mod_pos ?k1 ?_); (case k1 => decide)))
local macro_rules | `(tactic| walk_at "binaryOp FloorDiv int int") => `(tactic| (k_here; (with_reducible refine fdiv_pos ?k1 ?k2 ?_); (case k1 => decide); (case k2 => decide +kernel)))
local macro_rules | `(tactic| k_all) => `(tactic| with_reducible assumption)
local macro_rules | `(tactic| l_idx) => `(tactic| omega)
local macro_rules | `(tactic| k_upd) => `(tactic| first | (refine' Pick.head ?a; (case a => k_all)) | (refine' Pick.tail ?a ?b; (case a => k_ne); (case b => k_upd)))
local macro_rules | `(tactic| walk_at "call ref") => `(tactic| (k_here; refine wpAny_call ?_; k_dflt (refine' code_def ?k1 ?k2 ?k3 ?k4 ?k5 ?kA ?kF ?kK ?k6 ?k7 ?k8 ?k9 ?kB ?_ ?c2 ?c3 ?c4 ?c5; (case kA => exact rfl); (case kF => exact rfl); (case kK => first | exact rfl | assumption); (case k1 => k_asm); (case k2 => k_asm); (case k3 => k_asm); (case k4 => k_asm); (case k5 => k_asm); (case k6 => k_is); (case k7 => k_is); (case k8 => ktr_room); (case k9 => exact BindsTo.of_eq rfl); (case c5 => decide); (case kB => exact locs rfl); (case c2 => exact rfl); (case c3 => exact rfl); (case c4 => exact rfl); k_whole; intro g' L' h' FG' F' N' B' X' T'; (try dsimp only); (try k_lift B'); (try k_fold))))
section
variable {w : World} {mean : ExcName → Option Value} {mg mb : Str → Option Value} {a : Addr} {ccd : Value} {h₀ : Heap} {L : Addr} {m : Str → Option Value} {s : Shared} {Q : Flow → Shared → Prop} {E : Value → Shared → Prop}
  {oc : Value} {od : Option Addr} {name qual : Str} {params : Arguments} {body : List Stmt} {scope : Scope} {dV kV doc pm cdv ct : Value} {an : Option Addr} {osl : Array (Option Value)} {st : Stmt}
local macro_rules | `(tactic| walk_at "eval ListComp") => `(tactic| (k_here; (with_reducible show wpAny _ _ (eval (PySem.Expr.ListComp _ [⟨PySem.Expr.Name _ _, _, [], 0⟩] _ _) _) _ _ _); k_dflt (refine LCg.ListComp_U (F₀ := by k_asm) (by with_unfolding_all rfl) (by decide) (by rfl) (by decide) (by rfl) ?_)))
local macro_rules | `(tactic| walk_at "CompSrc") => `(tactic| k_extra "CompSrc")
local macro_rules | `(tactic| walk_at "call ref") => `(tactic| k_extra "call ref")
local macro_rules | `(tactic| walk_at "call builtin:len") => `(tactic| k_extra "call builtin:len")
set_option maxHeartbeats 8000000 in
theorem st_if2 {c6 c5 c4 c3 c2 c1 : Obj} {tl : List (Addr × Obj)} {lx : Addr} {vx : List Value} {nx₀ : Nat} {xs : List Str}
    (ho : (hd.heap_39 w.params).lookup 145 = some ⟨oc, od, .func (fnOf name qual params body scope dV kV doc pm an cdv ct), osl⟩) (hst : body[14]? = some st)
    (B : Below callerA h₀ [] h₀) (X : (hd.heap_39 w.params).In h₀) (T : Top hd.view_39 lz mean mg mb h₀) (F : Fr h₀ L s.heap m)
    (N : News h₀ L s.heap (led6 L c6 c5 c4 c3 c2 c1 tl)) (hab : Above L tl) (hm : KnownAll m [(Str.ofString "texts", .ref lx)]) (h2 : 2 ≤ xs.length) (h5 : xs.length ≤ 5) (hlx : (lx, W.listOf vx.toArray nx₀) ∈ tl) (hix : StrsAre vx xs) (h10 : ∀ x ∈ xs, x.length = 10) (h9 : ∀ x ∈ xs, (Txt.slice x (some 1) none).length = 9) :
    wpAny (model prg w) (callerA.deeper (envOfC qual scope L a ccd)) (exec st (envOfC qual scope L a ccd))
      (StPost h₀ L (fun m' nx => m' = m ∧ nx = led6 L c6 c5 c4 c3 c2 c1 tl) s Q) E s := by
  revert X; unfold prg; w_top off; k_fill; intro X
  refine' law_is ho ?e ?_
  case e => k_is
  intro hq
  clear ho
  cases hq
  simp only [List.getElem?_cons_zero, List.getElem?_cons_succ, Option.some.injEq] at hst
  subst hst
  have F1 : Fr h₀ L s.heap (kstB m [(Str.ofString "texts", .ref lx)]) := fr_knownL hm F
  dsimp only [kstB] at F1
  have eM : (fun z => if z = Str.ofString "texts" then some (Value.ref lx) else m z) = m := known_eq hm
  have hxl := hix.length
  k_with_none
  k_with "CompSrc" => refine held ?_
  k_steps
  refine Held.out ?_
  unfold Held
  rw [eM]
  clear F1
  refine LCg.CompSrc.ledger rfl F N (led6_in hlx) (by rw [List.size_toArray, hxl, sizeLine_eq]; omega) ?_
  intro g2
  have hsz : vx.toArray.size = xs.length := by simp [hxl]
  refine rest_U (fun i ys nx => nx = led6 L c6 c5 c4 c3 c2 c1 tl ∧ ∃ cs : List Int, IntsAre ys cs ∧ cs.length = i ∧ ∀ c ∈ cs, 0 ≤ c ∧ c ≤ 9) ?turn ?done ⟨rfl, [], .nil, rfl, fun _ h => nomatch h⟩
  case turn =>
    intro i v ys nx I oI C oC D m₂ h tk E' hi hP hJ hC hx F2 N2 off ne
    obtain ⟨rfl, cs, hys, hcl, hcb⟩ := hJ
    rw [hsz] at hi
    have hPv : vx[i]? = some v := by simpa using hP
    obtain ⟨x, t, rfl, hki⟩ := strs_at hix i v hPv
    have hx10 := h10 x (List.mem_of_getElem? hki)
    have hx9 := h9 x (List.mem_of_getElem? hki)
    clear F N
    k_with_none
    k_with "call builtin:len" => refine held ?_
    k_steps
    refine Held.out ?_
    unfold Held
    rename Heap.IsList _ _ _ => hL
    rename CarriedAll _ _ => hCA
    rename Fr _ _ _ _ => F9
    rename News _ _ _ _ => N9
    have hcl9 := hCA.len
    rw [List.length_map] at hcl9
    have hf9 := List.length_filter_le (fun a => !(Builtin.Str.occurrences (Str.ofString "rwxst") a 0 (Str.ofString "rwxst").length 1).isEmpty) (signs (Txt.slice x (some 1) none))
    rw [signs_length, hx9] at hf9
    refine len_list hL (by simp; omega) ?_
    refine UEnd.intro F9 N9 _ (fun p hp => hp) off (Or.inr ⟨_, led6_in hlx, rfl, _, rfl⟩) ⟨rfl, cs ++ [_], IntsAre.append hys (.cons _ _ .nil), by simp [hcl], ?_⟩
    intro c hc
    rcases List.mem_append.mp hc with hc | hc
    · exact hcb c hc
    · rw [List.mem_singleton.mp hc]
      simp
      omega
  case done =>
    intro ys nx hJ
    obtain ⟨rfl, cs, hys, hcl, hcb⟩ := hJ
    intro D h tk F2 N2 off
    have hyl := hys.length
    clear F N
    k_with_none
    k_with "call ref" => refine held ?_
    k_steps
    refine Held.out ?_
    unfold Held
    rw [hsz] at hcl
    k_dflt (refine' between_tells (xs := cs) (S := cs.mergeSort (fun a b => decide (a ≤ b))) ?B ?F ?X ?N ?T ?hk ?hm ?hi ?hne ?h5 ?hb ?hS ?hSo ?hdp ?hun ?_; (case B => k_asm); (case F => k_asm); (case X => k_asm); (case N => k_asm); (case T => k_asm); (case hk => exact rfl); (case hm => exact .head _); (case hi => exact hys); (case hne => omega); (case h5 => omega); (case hb => exact hcb); (case hS => exact List.mergeSort_perm _ _); (case hSo => exact ms_sorted _); (case hdp => ktr_room); (case hun => ktr_units))
    intro h7 tk7 F7 N7
    k_steps
    dsimp only
    exact WEnd.intro F7 N7 (fun p hp => .tail _ hp) ⟨rfl, rfl⟩
end
end
section
local macro_rules | `(tactic| walk_at "binaryOp RShift int int") => `(tactic| (k_here; (with_reducible refine shr1 ?_)))
local macro_rules | `(tactic| walk_at "binaryOp Mod int int") => `(tactic| (k_here; (with_reducible refine mod_pos ?k1 ?_); (case k1 => decide)))
local macro_rules | `(tactic| walk_at "binaryOp FloorDiv int int") => `(tactic| (k_here; (with_reducible refine fdiv_pos ?k1 ?k2 ?_); (case k1 => decide); (case k2 => decide +kernel)))
local macro_rules | `(tactic| k_all) => `(tactic| with_reducible assumption)
local macro_rules | `(tactic| l_idx) => `(tactic| omega)
local macro_rules | `(tactic| k_upd) => `(tactic| first | (refine' Pick.head ?a; (case a => k_all)) | (refine' Pick.tail ?a ?b; (case a => k_ne); (case b => k_upd)))
local macro_rules | `(tactic| walk_at "call ref") => `(tactic| (k_here; refine wpAny_call ?_; k_dflt (refine' code_def ?k1 ?k2 ?k3 ?k4 ?k5 ?kA ?kF ?kK ?k6 ?k7 ?k8 ?k9 ?kB ?_ ?c2 ?c3 ?c4 ?c5; (case kA => exact rfl); (case kF => exact rfl); (case kK => first | exact rfl | assumption); (case k1 => k_asm); (case k2 => k_asm); (case k3 => k_asm); (case k4 => k_asm); (case k5 => k_asm); (case k6 => k_is); (case k7 => k_is); (case k8 => ktr_room); (case k9 => exact BindsTo.of_eq rfl); (case c5 => decide); (case kB => exact locs rfl); (case c2 => exact rfl); (case c3 => exact rfl); (case c4 => exact rfl); k_whole; intro g' L' h' FG' F' N' B' X' T'; (try dsimp only); (try k_lift B'); (try k_fold))))
theorem eq_nope {a b c d : Int} (h1 : a = b → c = d) (h2 : c = d → a = b) (h : ((a == b) != (c == d)) = true) : False := by
  have e : (a == b) = (c == d) := by rw [Bool.eq_iff_iff, beq_iff_eq, beq_iff_eq]; exact ⟨h1, h2⟩
  rw [e] at h
  simp at h
theorem led6_off {L I : Addr} {c6' c6 c5 c4 c3 c2 c1 : Obj} {tl : List (Addr × Obj)} (h : ∀ p ∈ led6 L c6' c5 c4 c3 c2 c1 tl, p.1 ≠ I) : ∀ p ∈ led6 L c6 c5 c4 c3 c2 c1 tl, p.1 ≠ I := by
  intro p hp
  rcases List.mem_cons.mp hp with rfl | hp
  · exact h (_, c6') (.head _)
  · exact h p (.tail _ hp)
section
variable {w : World} {mean : ExcName → Option Value} {mg mb : Str → Option Value} {a : Addr} {ccd : Value} {h₀ : Heap} {L : Addr} {m : Str → Option Value} {s : Shared} {Q : Flow → Shared → Prop} {E : Value → Shared → Prop}
  {oc : Value} {od : Option Addr} {name qual : Str} {params : Arguments} {body : List Stmt} {scope : Scope} {dV kV doc pm cdv ct : Value} {an : Option Addr} {osl : Array (Option Value)} {st : Stmt}
local macro_rules | `(tactic| walk_at "exec For Tuple Name cons nil") => `(tactic| (k_here; (rename Fr _ _ _ _ => lF'); (with_unfolding_all refine' For_turns lF' ?_; k_whole)))
local macro_rules | `(tactic| walk_at "pyIter ref") => `(tactic| k_extra "pyIter ref")
local macro_rules | `(tactic| walk_at "eval ListComp") => `(tactic| (k_here; (with_reducible show wpAny _ _ (eval (PySem.Expr.ListComp _ [⟨PySem.Expr.Name _ _, _, [], 0⟩] _ _) _) _ _ _); k_dflt (refine LCg.ListComp_U (F₀ := by k_asm) (by with_unfolding_all rfl) (by decide) (by rfl) (by decide) (by rfl) ?_)))
local macro_rules | `(tactic| walk_at "CompSrc") => `(tactic| k_extra "CompSrc")
local macro_rules | `(tactic| walk_at "subscriptTail Name Constant ref int") => `(tactic| k_extra "subscriptTail Name Constant ref int")
local macro_rules | `(tactic| walk_at "call ref") => `(tactic| k_extra "call ref")
set_option maxHeartbeats 8000000 in
theorem st_for {c6 c5 c4 c3 c2 c1 : Obj} {tl : List (Addr × Obj)} {lt lw lx : Addr} {vt vw vx : List Value} {nt nw nx₀ : Nat} {fs : List (Int × Int)} {ws : List Int} {xs : List Str} {g lo up : Int} {tg t1 t2 tr : Tok} {r : Str} {v6 : Option Value}
    (ho : (hd.heap_39 w.params).lookup 145 = some ⟨oc, od, .func (fnOf name qual params body scope dV kV doc pm an cdv ct), osl⟩) (hst : body[18]? = some st)
    (B : Below callerA h₀ [] h₀) (X : (hd.heap_39 w.params).In h₀) (T : Top hd.view_39 lz mean mg mb h₀) (F : Fr h₀ L s.heap m)
    (N : News h₀ L s.heap (led6 L c6 c5 c4 c3 c2 c1 tl)) (hab : Above L tl) (hm : KnownAll m [(Str.ofString "told", .ref lt), (Str.ofString "ways", .ref lw), (Str.ofString "shown", .ref lx), (Str.ofString "lower", .int lo t1), (Str.ofString "upper", .int up t2)])
    (d2 : c2.data = .cell (some (.int g tg))) (d5 : c5.data = .cell (some (.str r tr))) (d6 : c6.data = .cell v6) (hg0 : 0 ≤ g) (hg3 : g < 3)
    (hlt : (lt, W.listOf vt.toArray nt) ∈ tl) (hpf : PairsP tl vt fs) (hlw : (lw, W.listOf vw.toArray nw) ∈ tl) (hiw : IntsAre vw ws) (hlx : (lx, W.listOf vx.toArray nx₀) ∈ tl) (hix : StrsAre vx xs) (h5 : xs.length ≤ 5) (hw0 : 0 < ws.length) (hxs : ∀ y ∈ xs, y.length = 3 ∧ 0 ≤ Txt.find r (Txt.item y 2))
    (hturn : ∀ q ∈ fs, (sgnF g q.2).length = 3 ∧ 0 ≤ Txt.find r (Txt.item (sgnF g q.2) 2) ∧ (xs.map fun y => apF (sgnF g q.2) y r).sum = q.1 ∧ (q.1 = ws.getD 0 0 ↔ (Builtin.bitAnd q.2 lo = lo ∧ Builtin.bitAnd q.2 up = q.2))) (hE : PassesOwn (model prg w) (callerA.deeper (envOfC qual scope L a ccd)) (envOfC qual scope L a ccd) E) :
    wpAny (model prg w) (callerA.deeper (envOfC qual scope L a ccd)) (exec st (envOfC qual scope L a ccd))
      (StPost h₀ L (fun m' nx => ∃ c6 v6, nx = led6 L c6 c5 c4 c3 c2 c1 tl ∧ c6.data = .cell v6) s Q) E s := by
  revert X; unfold prg; w_top off; k_fill; intro X
  refine' law_is ho ?e ?_
  case e => k_is
  intro hq
  clear ho
  cases hq
  simp only [List.getElem?_cons_zero, List.getElem?_cons_succ, Option.some.injEq] at hst
  subst hst
  have F1 : Fr h₀ L s.heap (kstB m [(Str.ofString "told", .ref lt), (Str.ofString "ways", .ref lw), (Str.ofString "shown", .ref lx), (Str.ofString "lower", .int lo t1), (Str.ofString "upper", .int up t2)]) := fr_knownL hm F
  dsimp only [kstB] at F1
  clear F
  k_with_none
  k_with "pyIter ref" => refine held ?_
  refine For_turns F1 ?_ (hE := hE)
  k_steps
  refine Held.out ?_
  unfold Held
  refine turns_list (fun i m' nx => (∃ c6 v6, nx = led6 L c6 c5 c4 c3 c2 c1 tl ∧ c6.data = .cell v6) ∧ KnownAll m' [(Str.ofString "told", .ref lt), (Str.ofString "ways", .ref lw), (Str.ofString "shown", .ref lx), (Str.ofString "lower", .int lo t1), (Str.ofString "upper", .int up t2)]) rfl (led6_in hlt) F1 N ⟨⟨c6, v6, rfl, d6⟩, rfl, rfl, rfl, rfl, rfl, trivial⟩ ?hkeep ?turn ?done
  case hkeep =>
    rintro i m' nx ⟨⟨_, _, rfl, _⟩, _⟩
    exact led6_in hlt
  case turn =>
    intro i v m₁ nx h3 tk3 I oI hv hJ hoff F3 N3
    obtain ⟨⟨c6', v6', rfl, d6'⟩, hkn⟩ := hJ
    have hi : i < fs.length := by
      have := (List.getElem?_eq_some_iff.mp hv).1
      have := hpf.length
      omega
    obtain ⟨ai, n', u1, u2, e, hmm⟩ := hpf.at hi
    rw [hv] at e
    cases e
    obtain ⟨s1, s2, s3, s4⟩ := hturn _ (getD_mem hi)
    generalize fs.getD i (0, 0) = q at s1 s2 s3 s4 hmm
    have F4 := fr_knownL hkn F3
    dsimp only [kstB] at F4
    have a6 := hab.ne6
    have i6 : @Ne Nat (L + 1 + 1 + 1 + 1 + 1 + 1) I := hoff _ (.head _)
    have am := hab _ hmm
    dsimp only at am
    replace N3 := news_in N3 (.tail _ (led6_in hmm))
    clear F3 F1 N
    k_with_none
    k_with "call ref" => refine held ?_
    k_with "CompSrc" => refine held ?_
    k_steps
    refine Held.out ?_
    unfold Held
    k_dflt (refine' filemode_tells ?B ?F ?X ?N ?T ?hk ?hdp ?hun ?_; (case B => k_asm); (case F => k_asm); (case X => k_asm); (case N => k_asm); (case T => k_asm); (case hk => exact rfl); (case hdp => ktr_room); (case hun => ktr_units))
    intro h5 tk5 t5 y F5 N5 hy hyl
    have q1 : 0 ≤ 1 + 3 * g := by omega
    have q2 : 0 ≤ 4 + 3 * g := by omega
    k_steps
    refine Held.out ?_
    unfold Held
    rename Fr _ _ _ _ => F6
    rename News _ _ _ _ => N6
    rename_i o6 d6n
    have hsg : Txt.slice y (some (1 + 3 * g)) (some (4 + 3 * g)) = sgnF g q.2 := by rw [hy]; rfl
    rw [hsg] at d6n
    have hxl := hix.length
    have hsz : vx.toArray.size = xs.length := by simp [hxl]
    refine LCg.CompSrc.ledger rfl F6 N6 (mem2 (led6_in hlx)) (by rw [hsz, sizeLine_eq]; omega) ?_
    intro g2
    refine rest_U (fun j ys nx => nx = (ai, tupO [Value.int q.1 u1, Value.int q.2 u2] n') :: (I, oI) :: led6 L o6 c5 c4 c3 c2 c1 tl ∧ IntsAre ys ((xs.take j).map fun y => apF (sgnF g q.2) y r)) ?t2 ?d2 ⟨rfl, .nil⟩
    case t2 =>
      intro j v ys nx J2 oJ C oC D m₂ h7 tk7 E' hj hP hJ hC hx F7 N7 off ne
      obtain ⟨rfl, hys⟩ := hJ
      rw [hsz] at hj
      have hPv : vx[j]? = some v := by simpa using hP
      obtain ⟨z, tz, rfl, hkj⟩ := strs_at hix j v hPv
      obtain ⟨z1, z2⟩ := hxs z (List.mem_of_getElem? hkj)
      clear F6 N6
      k_with_none
      k_with "call ref" => refine held ?_
      k_steps
      refine Held.out ?_
      unfold Held
      k_dflt (refine' apart_tells ?B ?F ?X ?N ?T ?hk ?hx ?hy ?h1 ?h2 ?hdp ?hun ?_; (case B => k_asm); (case F => k_asm); (case X => k_asm); (case N => k_asm); (case T => k_asm); (case hk => exact rfl); (case hx => exact s1); (case hy => exact z1); (case h1 => exact s2); (case h2 => exact z2); (case hdp => ktr_room); (case hun => ktr_units))
      intro h8 tk8 t8 v8 F8 N8 hv8
      subst hv8
      refine UEnd.intro F8 N8 _ (fun p hp => hp) off (Or.inr ⟨_, mem2 (led6_in hlx), rfl, _, rfl⟩) ⟨rfl, ?_⟩
      rw [take_snoc _ hkj]
      exact IntsAre.append hys (.cons _ _ .nil)
    case d2 =>
      intro ys nx hJ
      obtain ⟨rfl, hys⟩ := hJ
      rw [hsz, List.take_length] at hys
      intro D h7 tk7 F7 N7 off
      clear F6 N6
      k_with_none
      k_with "subscriptTail Name Constant ref int" => refine held ?_
      k_steps
      · exact absurd s3 (by assumption)
      · refine Held.out ?_
        unfold Held
        refine ksa_sub (by k_asm) (mem3 (led6_in hlw)) hiw (by decide) (by omega) (by decide) ?_
        intro tw
        k_steps
        · rename (_ != _) = true => hne
          have hlo9 : Builtin.bitAnd q.2 lo = lo := by assumption
          exact (eq_nope (fun h => (s4.mp h).2) (fun h => s4.mpr ⟨hlo9, h⟩) hne).elim
        · dsimp only
          rename News _ _ _ _ => N9
          exact TurnEnd.intro (nx := led6 L o6 c5 c4 c3 c2 c1 tl) (by k_asm) N9 (fun p hp => mem2 hp) (led6_off hoff) ⟨⟨o6, _, rfl, d6n⟩, rfl, rfl, rfl, rfl, rfl, trivial⟩
      · refine Held.out ?_
        unfold Held
        refine ksa_sub (by k_asm) (mem3 (led6_in hlw)) hiw (by decide) (by omega) (by decide) ?_
        intro tw
        k_steps
        · rename (_ != _) = true => hne
          have hlo9 : Builtin.bitAnd q.2 lo ≠ lo := by assumption
          exact (eq_nope (fun h => (s4.mp h).1) (fun h => absurd h hlo9) hne).elim
        · dsimp only
          rename News _ _ _ _ => N9
          exact TurnEnd.intro (nx := led6 L o6 c5 c4 c3 c2 c1 tl) (by k_asm) N9 (fun p hp => mem2 hp) (led6_off hoff) ⟨⟨o6, _, rfl, d6n⟩, rfl, rfl, rfl, rfl, rfl, trivial⟩
  case done =>
    intro m₁ nx h3 tk3 hJ F3 N3
    obtain ⟨⟨c6', v6', rfl, d6'⟩, hkn⟩ := hJ
    exact WEnd.intro F3 N3 (fun p hp => hp) ⟨c6', v6', rfl, d6'⟩
end
end
section
/-! the plain law: masks over the four bits -/
def phi (g : Int) (x : Nat) : Int := (if x.testBit 0 then (pw g).getD 0 0 else 0) + (if x.testBit 1 then (pw g).getD 1 0 else 0) + (if x.testBit 2 then (pw g).getD 2 0 else 0) + (if x.testBit 3 then (pw g).getD 3 0 else 0)
theorem g3 {g : Int} (h0 : 0 ≤ g) (h3 : g < 3) : g = 0 ∨ g = 1 ∨ g = 2 := by omega
theorem phi_xor_lt {g : Int} (h0 : 0 ≤ g) (h3 : g < 3) {x y : Nat} (hx : x < 16) (hy : y < 16) : bx (phi g x) (phi g y) = phi g (x ^^^ y) := by
  rcases g3 h0 h3 with rfl | rfl | rfl
  · exact (by decide +kernel : ∀ x y : Fin 16, bx (phi 0 x.val) (phi 0 y.val) = phi 0 (x.val ^^^ y.val)) ⟨x, hx⟩ ⟨y, hy⟩
  · exact (by decide +kernel : ∀ x y : Fin 16, bx (phi 1 x.val) (phi 1 y.val) = phi 1 (x.val ^^^ y.val)) ⟨x, hx⟩ ⟨y, hy⟩
  · exact (by decide +kernel : ∀ x y : Fin 16, bx (phi 2 x.val) (phi 2 y.val) = phi 2 (x.val ^^^ y.val)) ⟨x, hx⟩ ⟨y, hy⟩
theorem phi_and {g : Int} (h0 : 0 ≤ g) (h3 : g < 3) {x y : Nat} (hx : x < 16) (hy : y < 16) : Builtin.bitAnd (phi g x) (phi g y) = phi g (x &&& y) := by
  rcases g3 h0 h3 with rfl | rfl | rfl
  · exact (by decide +kernel : ∀ x y : Fin 16, Builtin.bitAnd (phi 0 x.val) (phi 0 y.val) = phi 0 (x.val &&& y.val)) ⟨x, hx⟩ ⟨y, hy⟩
  · exact (by decide +kernel : ∀ x y : Fin 16, Builtin.bitAnd (phi 1 x.val) (phi 1 y.val) = phi 1 (x.val &&& y.val)) ⟨x, hx⟩ ⟨y, hy⟩
  · exact (by decide +kernel : ∀ x y : Fin 16, Builtin.bitAnd (phi 2 x.val) (phi 2 y.val) = phi 2 (x.val &&& y.val)) ⟨x, hx⟩ ⟨y, hy⟩
theorem phi_inj {g : Int} (h0 : 0 ≤ g) (h3 : g < 3) {x y : Nat} (hx : x < 16) (hy : y < 16) (h : phi g x = phi g y) : x = y := by
  rcases g3 h0 h3 with rfl | rfl | rfl
  · exact (by decide +kernel : ∀ x y : Fin 16, phi 0 x.val = phi 0 y.val → x.val = y.val) ⟨x, hx⟩ ⟨y, hy⟩ h
  · exact (by decide +kernel : ∀ x y : Fin 16, phi 1 x.val = phi 1 y.val → x.val = y.val) ⟨x, hx⟩ ⟨y, hy⟩ h
  · exact (by decide +kernel : ∀ x y : Fin 16, phi 2 x.val = phi 2 y.val → x.val = y.val) ⟨x, hx⟩ ⟨y, hy⟩ h
theorem phi_bd {g : Int} (h0 : 0 ≤ g) (h3 : g < 3) {x : Nat} (hx : x < 16) : 0 ≤ phi g x ∧ phi g x < 65536 := by
  rcases g3 h0 h3 with rfl | rfl | rfl
  · exact (by decide +kernel : ∀ x : Fin 16, 0 ≤ phi 0 x.val ∧ phi 0 x.val < 65536) ⟨x, hx⟩
  · exact (by decide +kernel : ∀ x : Fin 16, 0 ≤ phi 1 x.val ∧ phi 1 x.val < 65536) ⟨x, hx⟩
  · exact (by decide +kernel : ∀ x : Fin 16, 0 ≤ phi 2 x.val ∧ phi 2 x.val < 65536) ⟨x, hx⟩
theorem phi_mod (g : Int) (x : Nat) : phi g (x % 16) = phi g x := by
  have e : ∀ k, k < 4 → (x % 16).testBit k = x.testBit k := fun k hk => by
    rw [show (16 : Nat) = 2 ^ 4 from rfl, Nat.testBit_mod_two_pow]; simp [hk]
  unfold phi
  rw [e 0 (by decide), e 1 (by decide), e 2 (by decide), e 3 (by decide)]
theorem phi_xor {g : Int} (h0 : 0 ≤ g) (h3 : g < 3) (x y : Nat) : bx (phi g x) (phi g y) = phi g (x ^^^ y) := by
  rw [← phi_mod g x, ← phi_mod g y, phi_xor_lt h0 h3 (Nat.mod_lt _ (by decide)) (Nat.mod_lt _ (by decide)), ← phi_mod g (x ^^^ y)]
  congr 1
  exact (Nat.xor_mod_two_pow (n := 4)).symm
theorem phi_pow {g : Int} {k : Nat} (hk : k < 4) : phi g (2 ^ k) = (pw g).getD k 0 := by
  match k, hk with
  | 0, _ => simp [phi, show (1 : Nat).testBit 0 = true from rfl, show (1 : Nat).testBit 1 = false from rfl, show (1 : Nat).testBit 2 = false from rfl, show (1 : Nat).testBit 3 = false from rfl]
  | 1, _ => simp [phi, show (2 : Nat).testBit 0 = false from rfl, show (2 : Nat).testBit 1 = true from rfl, show (2 : Nat).testBit 2 = false from rfl, show (2 : Nat).testBit 3 = false from rfl]
  | 2, _ => simp [phi, show (4 : Nat).testBit 0 = false from rfl, show (4 : Nat).testBit 1 = false from rfl, show (4 : Nat).testBit 2 = true from rfl, show (4 : Nat).testBit 3 = false from rfl]
  | 3, _ => simp [phi, show (8 : Nat).testBit 0 = false from rfl, show (8 : Nat).testBit 1 = false from rfl, show (8 : Nat).testBit 2 = false from rfl, show (8 : Nat).testBit 3 = true from rfl]
/-- a mask from its four bits -/
def mk4 (b : Nat → Bool) : Nat := (b 0).toNat + 2 * (b 1).toNat + 4 * (b 2).toNat + 8 * (b 3).toNat
theorem mk4_lt (b : Nat → Bool) : mk4 b < 16 := by
  unfold mk4
  cases b 0 <;> cases b 1 <;> cases b 2 <;> cases b 3 <;> decide
theorem mk4_bit (b : Nat → Bool) {k : Nat} (hk : k < 4) : (mk4 b).testBit k = b k := by
  unfold mk4
  match k, hk with
  | 0, _ => cases b 0 <;> cases b 1 <;> cases b 2 <;> cases b 3 <;> rfl
  | 1, _ => cases b 0 <;> cases b 1 <;> cases b 2 <;> cases b 3 <;> rfl
  | 2, _ => cases b 0 <;> cases b 1 <;> cases b 2 <;> cases b 3 <;> rfl
  | 3, _ => cases b 0 <;> cases b 1 <;> cases b 2 <;> cases b 3 <;> rfl
/-- all subsets, on masks -/
def MP (g : Int) (q : Int × Nat) : Int × Int := (q.1, phi g q.2)
def pset : List (Int × Nat) → Int → Nat → List (Int × Nat)
  | [], w, x => [(w, x)]
  | q :: r, w, x => pset r w x ++ pset r (w + q.1) (x ^^^ q.2)
theorem xor_swap (a b c : Nat) : a ^^^ b ^^^ c = a ^^^ c ^^^ b := by rw [Nat.xor_assoc, Nat.xor_comm b c, Nat.xor_assoc]
theorem pset_perm {l l' : List (Int × Nat)} (h : l.Perm l') : ∀ w x, (pset l w x).Perm (pset l' w x) := by
  induction h with
  | nil => exact fun _ _ => .refl _
  | cons q _ ih => exact fun w x => (ih w x).append (ih _ _)
  | swap p q r =>
    intro w x
    simp only [pset]
    rw [show w + q.1 + p.1 = w + p.1 + q.1 by omega, xor_swap x q.2 p.2, List.append_assoc, List.append_assoc]
    refine List.Perm.append_left _ ?_
    rw [← List.append_assoc, ← List.append_assoc]
    exact List.Perm.append_right _ List.perm_append_comm
  | trans _ _ h1 h2 => exact fun w x => (h1 w x).trans (h2 w x)
def elF (g le : Int) (lo : Nat) (a b c d : Int × Nat) (S : Nat) : Int × Int :=
  (le + (if S.testBit 0 then a.1 else 0) + (if S.testBit 1 then b.1 else 0) + (if S.testBit 2 then c.1 else 0) + (if S.testBit 3 then d.1 else 0),
   phi g (lo ^^^ (if S.testBit 0 then a.2 else 0) ^^^ (if S.testBit 1 then b.2 else 0) ^^^ (if S.testBit 2 then c.2 else 0) ^^^ (if S.testBit 3 then d.2 else 0)))
def ordT : List Nat := [0, 1, 3, 7, 15, 11, 5, 13, 9, 2, 6, 14, 10, 4, 12, 8]
def ordP : List Nat := [0, 8, 4, 12, 2, 10, 6, 14, 1, 9, 5, 13, 3, 11, 7, 15]
theorem tb : ∀ S : Fin 16, S.val.testBit 0 = decide (S.val % 2 = 1) := by decide
theorem pset_ord (g le : Int) (lo : Nat) (a b c d : Int × Nat) : (pset [a, b, c, d] le lo).map (MP g) = ordP.map (elF g le lo a b c d) := by
  simp only [pset, List.cons_append, List.nil_append, List.map_cons, List.map_nil, ordP, elF, MP]
  simp [Nat.testBit, Nat.xor_zero]
theorem xor_drop (x y : Nat) : x ^^^ (x ^^^ y) = y := by rw [← Nat.xor_assoc, Nat.xor_self, Nat.zero_xor]
theorem xor_dr (x y : Nat) : x ^^^ y ^^^ y = x := by rw [Nat.xor_assoc, Nat.xor_self, Nat.xor_zero]
theorem xor_dm (x y z : Nat) : x ^^^ y ^^^ z ^^^ y = x ^^^ z := by rw [xor_swap (x ^^^ y) z y, xor_dr]
theorem tree_ord {g : Int} (h0 : 0 ≤ g) (h3 : g < 3) (le : Int) (lo : Nat) (a b c d : Int × Nat) : allSub ([a, b, c, d].map (MP g)) le (phi g lo) = ordT.map (elF g le lo a b c d) := by
  simp only [allSub, sub, cT, pT, List.map_cons, List.map_nil, MP, List.cons_append, List.nil_append, List.getD_cons_zero, List.getD_cons_succ, phi_xor h0 h3, ordT, elF, Nat.sub_self, Nat.reduceSub, List.cons.injEq, Prod.mk.injEq]
  simp [Nat.testBit, xor_dr]
  omega
theorem all_pset {g : Int} (h0 : 0 ≤ g) (h3 : g < 3) {tn : List (Int × Nat)} (h4 : tn.length = 4) (le : Int) (lo : Nat) : (allSub (tn.map (MP g)) le (phi g lo)).Perm ((pset tn le lo).map (MP g)) := by
  match tn, h4 with
  | [a, b, c, d], _ => rw [tree_ord h0 h3, pset_ord]; exact (by decide : ordT.Perm ordP).map _
theorem perm_ex {α β : Type} {f : α → β} {l' m : List β} (h : l'.Perm m) : ∀ l : List α, m = l.map f → ∃ k : List α, l' = k.map f ∧ k.Perm l := by
  induction h with
  | nil => intro l e; cases l with
    | nil => exact ⟨[], rfl, .refl _⟩
    | cons _ _ => cases e
  | cons x _ ih => intro l e; cases l with
    | nil => cases e
    | cons y r =>
      simp only [List.map_cons, List.cons.injEq] at e
      obtain ⟨k, e1, e2⟩ := ih r e.2
      exact ⟨y :: k, by rw [List.map_cons, e1, e.1], e2.cons _⟩
  | swap x y r => intro l e; match l, e with
    | a :: b :: l, e =>
      simp only [List.map_cons, List.cons.injEq] at e
      exact ⟨b :: a :: l, by simp [e.1, e.2.1, e.2.2], .swap ..⟩
  | trans _ _ h1 h2 => intro l e; obtain ⟨k, e1, e2⟩ := h2 l e; obtain ⟨k', e3, e4⟩ := h1 k e1; exact ⟨k', e3, e4.trans e2⟩
/-! the plain law: each turn of the last for -/
def sK (g : Int) (md : List Int) (k : Nat) : Int := (colF g md k).sum
def valK (g : Int) (md : List Int) (k : Nat) (b : Bool) : Int := if b then (md.length : Int) - sK g md k else sK g md k
def val (g : Int) (md : List Int) (x : Nat) : Int := valK g md 0 (x.testBit 0) + valK g md 1 (x.testBit 1) + valK g md 2 (x.testBit 2) + valK g md 3 (x.testBit 3)
def lowB (g : Int) (md : List Int) (k : Nat) : Bool := decide (¬ 2 * sK g md k ≤ (md.length : Int))
def upB (g : Int) (md : List Int) (k : Nat) : Bool := decide (¬ 2 * sK g md k < (md.length : Int))
def lowM (g : Int) (md : List Int) : Nat := mk4 (lowB g md)
def upM (g : Int) (md : List Int) : Nat := mk4 (upB g md)
def loV (g : Int) (md : List Int) : Int := ((List.range 4).map fun k => (pw g).getD k 0 * lowF (colF g md k)).sum
def upV (g : Int) (md : List Int) : Int := ((List.range 4).map fun k => (pw g).getD k 0 * upF (colF g md k)).sum
def leV (g : Int) (md : List Int) : Int := ((List.range 4).map fun k => minF (colF g md k).sum ((md.length : Int) - (colF g md k).sum)).sum
def costN (g : Int) (md : List Int) : List (Int × Nat) := (List.range 4).map fun k => (absI ((md.length : Int) - 2 * (colF g md k).sum), 2 ^ k)
theorem cost_map (g : Int) (md : List Int) : costF g md = (costN g md).map (MP g) := by
  unfold costF costN
  rw [List.map_map]
  refine List.map_congr_left fun k hk => ?_
  simp only [Function.comp, MP]
  rw [phi_pow (List.mem_range.mp hk)]
theorem low_bit {g : Int} {md : List Int} {k : Nat} (hk : k < 4) : lowF (colF g md k) = if lowB g md k then 1 else 0 := by
  unfold lowF lowB
  rw [col_len hk]
  show (if 2 * sK g md k ≤ (md.length : Int) then (0 : Int) else 1) = _
  by_cases h : 2 * sK g md k ≤ (md.length : Int)
  · rw [if_pos h]; simp [h]
  · rw [if_neg h]; simp [h]
theorem up_bit {g : Int} {md : List Int} {k : Nat} (hk : k < 4) : upF (colF g md k) = if upB g md k then 1 else 0 := by
  unfold upF upB
  rw [col_len hk]
  show (if 2 * sK g md k < (md.length : Int) then (0 : Int) else 1) = _
  by_cases h : 2 * sK g md k < (md.length : Int)
  · rw [if_pos h]; simp [h]
  · rw [if_neg h]; simp [h]
theorem mul_bit (p : Int) (b : Bool) : p * (if b then 1 else 0) = if b then p else 0 := by cases b <;> simp
theorem lo_phi (g : Int) (md : List Int) : loV g md = phi g (lowM g md) := by
  unfold loV phi lowM
  rw [mk4_bit _ (by decide), mk4_bit _ (by decide), mk4_bit _ (by decide), mk4_bit _ (by decide)]
  simp only [show List.range 4 = [0, 1, 2, 3] from rfl, List.map_cons, List.map_nil, List.sum_cons, List.sum_nil]
  rw [low_bit (by decide), low_bit (by decide), low_bit (by decide), low_bit (by decide), mul_bit, mul_bit, mul_bit, mul_bit]
  omega
theorem up_phi (g : Int) (md : List Int) : upV g md = phi g (upM g md) := by
  unfold upV phi upM
  rw [mk4_bit _ (by decide), mk4_bit _ (by decide), mk4_bit _ (by decide), mk4_bit _ (by decide)]
  simp only [show List.range 4 = [0, 1, 2, 3] from rfl, List.map_cons, List.map_nil, List.sum_cons, List.sum_nil]
  rw [up_bit (by decide), up_bit (by decide), up_bit (by decide), up_bit (by decide), mul_bit, mul_bit, mul_bit, mul_bit]
  omega
def costK (g : Int) (md : List Int) (k : Nat) : Int := absI ((md.length : Int) - 2 * sK g md k)
theorem val_low {g : Int} {md : List Int} (k : Nat) : valK g md k (lowB g md k) = minF (sK g md k) ((md.length : Int) - sK g md k) := by
  unfold valK lowB minF
  by_cases h : 2 * sK g md k ≤ (md.length : Int)
  · rw [if_neg (by omega : ¬ (md.length : Int) - sK g md k < sK g md k)]; simp [h]
  · rw [if_pos (by omega : (md.length : Int) - sK g md k < sK g md k)]; simp [h]
theorem val_turn {g : Int} {md : List Int} (k : Nat) : valK g md k (!lowB g md k) = valK g md k (lowB g md k) + costK g md k := by
  unfold valK lowB costK absI
  by_cases h : 2 * sK g md k ≤ (md.length : Int)
  · rw [if_neg (by omega : ¬ (md.length : Int) - 2 * sK g md k < 0)]; simp [h]; omega
  · rw [if_pos (by omega : (md.length : Int) - 2 * sK g md k < 0)]; simp [h]; omega
theorem le_val (g : Int) (md : List Int) : leV g md = val g md (lowM g md) := by
  unfold leV val lowM
  rw [mk4_bit _ (by decide), mk4_bit _ (by decide), mk4_bit _ (by decide), mk4_bit _ (by decide), val_low, val_low, val_low, val_low]
  simp only [show List.range 4 = [0, 1, 2, 3] from rfl, List.map_cons, List.map_nil, List.sum_cons, List.sum_nil, sK]
  omega
/-- stage k: the bits from k on are the lower mask's -/
def Stage (g : Int) (md : List Int) (k : Nat) (w : Int) (x : Nat) : Prop := x < 16 ∧ w = val g md x ∧ ∀ j, k ≤ j → j < 4 → x.testBit j = lowB g md j
theorem stage_keep {g : Int} {md : List Int} {k : Nat} {w : Int} {x : Nat} (h : Stage g md k w x) : Stage g md (k + 1) w x := ⟨h.1, h.2.1, fun j h1 h2 => h.2.2 j (by omega) h2⟩
theorem flip_bit (x k j : Nat) : (x ^^^ 2 ^ k).testBit j = if j = k then !x.testBit j else x.testBit j := by
  rw [Nat.testBit_xor, Nat.testBit_two_pow]
  by_cases h : j = k
  · simp [h]
  · rw [if_neg h, decide_eq_false (fun e => h e.symm)]; simp
theorem stage_flip {g : Int} {md : List Int} {k : Nat} {w : Int} {x : Nat} (hk : k < 4) (h : Stage g md k w x) : Stage g md (k + 1) (w + costK g md k) (x ^^^ 2 ^ k) := by
  obtain ⟨h1, rfl, h3⟩ := h
  have hb := h3 k (Nat.le_refl _) hk
  have ht := val_turn (g := g) (md := md) k
  rw [← hb] at ht
  refine ⟨Nat.xor_lt_two_pow (n := 4) h1 (Nat.pow_lt_pow_right (by decide) hk), ?_, fun j q1 q2 => ?_⟩
  · unfold val
    simp only [flip_bit]
    match k, hk with
    | 0, _ => simp at ht ⊢; omega
    | 1, _ => simp at ht ⊢; omega
    | 2, _ => simp at ht ⊢; omega
    | 3, _ => simp at ht ⊢; omega
  · rw [flip_bit, if_neg (by omega)]
    exact h3 j (by omega) q2
theorem pset_mem {r : Int × Nat} {l : List (Int × Nat)} {w : Int} {x : Nat} {q : Int × Nat} (h : q ∈ pset (r :: l) w x) : q ∈ pset l w x ∨ q ∈ pset l (w + r.1) (x ^^^ r.2) := List.mem_append.mp h
theorem pset_val {g : Int} {md : List Int} : ∀ q ∈ pset (costN g md) (leV g md) (lowM g md), q.2 < 16 ∧ q.1 = val g md q.2 := by
  have step : ∀ (n k : Nat), n + k = 4 → ∀ w x, Stage g md k w x → ∀ q ∈ pset ((List.range' k n).map fun k => (costK g md k, 2 ^ k)) w x, q.2 < 16 ∧ q.1 = val g md q.2 := by
    intro n
    induction n with
    | zero =>
      intro k _ w x h q hq
      rw [List.mem_singleton.mp hq]
      exact ⟨h.1, h.2.1⟩
    | succ n ih =>
      intro k hk w x h q hq
      rcases pset_mem hq with hq | hq
      · exact ih (k + 1) (by omega) _ _ (stage_keep h) q hq
      · exact ih (k + 1) (by omega) _ _ (stage_flip (by omega) h) q hq
  refine step 4 0 rfl _ _ ⟨mk4_lt _, le_val g md, fun j _ hj => mk4_bit _ hj⟩
/-- the masks that come are all -/
def pmask (lo : Nat) : List Nat := (pset [((0 : Int), 1), (0, 2), (0, 4), (0, 8)] 0 lo).map (·.2)
theorem pset_snd : ∀ (l l' : List (Int × Nat)), l.map (·.2) = l'.map (·.2) → ∀ w w' x, (pset l w x).map (·.2) = (pset l' w' x).map (·.2)
  | [], [], _, _, _, _ => rfl
  | q :: l, q' :: l', h, w, w', x => by
    simp only [List.map_cons, List.cons.injEq] at h
    simp only [pset, List.map_append]
    rw [h.1, pset_snd l l' h.2 w w' x, pset_snd l l' h.2 (w + q.1) (w' + q'.1) _]
theorem mask_all {g : Int} (h0 : 0 ≤ g) (h3 : g < 3) {lo : Nat} (h : lo < 16) : ((pmask lo).map (phi g)).Perm (chF (pw g)) := by
  rcases g3 h0 h3 with rfl | rfl | rfl
  · exact (by decide +kernel : ∀ lo : Fin 16, ((pmask lo.val).map (phi 0)).Perm (chF (pw 0))) ⟨lo, h⟩
  · exact (by decide +kernel : ∀ lo : Fin 16, ((pmask lo.val).map (phi 1)).Perm (chF (pw 1))) ⟨lo, h⟩
  · exact (by decide +kernel : ∀ lo : Fin 16, ((pmask lo.val).map (phi 2)).Perm (chF (pw 2))) ⟨lo, h⟩
theorem told_all {g : Int} {md : List Int} (h0 : 0 ≤ g) (h3 : g < 3) {tn fs : List (Int × Int)} (hp : tn.Perm (costF g md)) (hf : fs.Perm (allSub tn (leV g md) (loV g md))) : fs.Perm ((pset (costN g md) (leV g md) (lowM g md)).map (MP g)) := by
  obtain ⟨k, rfl, hk⟩ := perm_ex hp _ (cost_map g md)
  have h4 : k.length = 4 := by rw [hk.length_eq]; rfl
  rw [lo_phi] at hf
  exact hf.trans ((all_pset h0 h3 h4 _ _).trans ((pset_perm hk _ _).map _))
theorem told_every {g : Int} {md : List Int} (h0 : 0 ≤ g) (h3 : g < 3) {tn fs : List (Int × Int)} (hp : tn.Perm (costF g md)) (hf : fs.Perm (allSub tn (leV g md) (loV g md))) : (fs.map (·.2)).Perm (chF (pw g)) := by
  refine ((told_all h0 h3 hp hf).map _).trans ?_
  have e : (pset (costN g md) (leV g md) (lowM g md)).map (·.2) = pmask (lowM g md) := pset_snd _ _ rfl _ _ _
  rw [List.map_map, show ((fun q : Int × Int => q.2) ∘ MP g) = (fun q : Int × Nat => phi g q.2) from rfl, show (fun q : Int × Nat => phi g q.2) = phi g ∘ (fun q : Int × Nat => q.2) from rfl, ← List.map_map, e]
  exact mask_all h0 h3 (mk4_lt _)
theorem told_each {g : Int} {md : List Int} (h0 : 0 ≤ g) (h3 : g < 3) {tn fs : List (Int × Int)} (hp : tn.Perm (costF g md)) (hf : fs.Perm (allSub tn (leV g md) (loV g md))) : ∀ q ∈ fs, ∃ x < 16, q = (val g md x, phi g x) := by
  intro q hq
  obtain ⟨p, h1, rfl⟩ := List.mem_map.mp ((told_all h0 h3 hp hf).mem_iff.mp hq)
  obtain ⟨h2, h4⟩ := pset_val p h1
  exact ⟨p.2, h2, by rw [MP, h4]⟩
/-- between -/
theorem and_bits : ∀ x y : Fin 16, ((x.val &&& y.val = y.val ↔ ((y.val.testBit 0 → x.val.testBit 0) ∧ (y.val.testBit 1 → x.val.testBit 1) ∧ (y.val.testBit 2 → x.val.testBit 2) ∧ (y.val.testBit 3 → x.val.testBit 3)))) := by decide +kernel
theorem and_bits' : ∀ x y : Fin 16, ((x.val &&& y.val = x.val ↔ ((x.val.testBit 0 → y.val.testBit 0) ∧ (x.val.testBit 1 → y.val.testBit 1) ∧ (x.val.testBit 2 → y.val.testBit 2) ∧ (x.val.testBit 3 → y.val.testBit 3)))) := by decide +kernel
theorem valK_least {g : Int} {md : List Int} (k : Nat) (b : Bool) : minF (sK g md k) ((md.length : Int) - sK g md k) ≤ valK g md k b ∧ (valK g md k b = minF (sK g md k) ((md.length : Int) - sK g md k) ↔ ((lowB g md k = true → b = true) ∧ (b = true → upB g md k = true))) := by
  unfold valK lowB upB minF
  cases b
  · by_cases h : (md.length : Int) - sK g md k < sK g md k
    · rw [if_pos h]; simp; omega
    · rw [if_neg h]; simp; omega
  · by_cases h : (md.length : Int) - sK g md k < sK g md k
    · rw [if_pos h]; simp; omega
    · rw [if_neg h]; simp; omega
theorem between_iff {g : Int} {md : List Int} (h0 : 0 ≤ g) (h3 : g < 3) {x : Nat} (hx : x < 16) : (val g md x = leV g md ↔ (Builtin.bitAnd (phi g x) (loV g md) = loV g md ∧ Builtin.bitAnd (phi g x) (upV g md) = phi g x)) := by
  have hl : lowM g md < 16 := mk4_lt _
  have hu : upM g md < 16 := mk4_lt _
  rw [lo_phi, up_phi, phi_and h0 h3 hx hl, phi_and h0 h3 hx hu]
  have e1 : phi g (x &&& lowM g md) = phi g (lowM g md) ↔ x &&& lowM g md = lowM g md := ⟨phi_inj h0 h3 (Nat.lt_of_le_of_lt Nat.and_le_left hx) hl, fun e => by rw [e]⟩
  have e2 : phi g (x &&& upM g md) = phi g x ↔ x &&& upM g md = x := ⟨phi_inj h0 h3 (Nat.lt_of_le_of_lt Nat.and_le_left hx) hx, fun e => by rw [e]⟩
  have b1 := and_bits ⟨x, hx⟩ ⟨lowM g md, hl⟩
  have b2 := and_bits' ⟨x, hx⟩ ⟨upM g md, hu⟩
  dsimp only at b1 b2
  rw [e1, e2, b1, b2]
  unfold lowM upM
  rw [mk4_bit _ (by decide), mk4_bit _ (by decide), mk4_bit _ (by decide), mk4_bit _ (by decide), mk4_bit _ (by decide), mk4_bit _ (by decide), mk4_bit _ (by decide), mk4_bit _ (by decide)]
  obtain ⟨p0, q0⟩ := valK_least (g := g) (md := md) 0 (x.testBit 0)
  obtain ⟨p1, q1⟩ := valK_least (g := g) (md := md) 1 (x.testBit 1)
  obtain ⟨p2, q2⟩ := valK_least (g := g) (md := md) 2 (x.testBit 2)
  obtain ⟨p3, q3⟩ := valK_least (g := g) (md := md) 3 (x.testBit 3)
  have e : leV g md = minF (sK g md 0) ((md.length : Int) - sK g md 0) + minF (sK g md 1) ((md.length : Int) - sK g md 1) + minF (sK g md 2) ((md.length : Int) - sK g md 2) + minF (sK g md 3) ((md.length : Int) - sK g md 3) := by
    unfold leV
    simp only [show List.range 4 = [0, 1, 2, 3] from rfl, List.map_cons, List.map_nil, List.sum_cons, List.sum_nil, sK]
    omega
  rw [e]
  unfold val
  constructor
  · intro h
    have a0 := q0.mp (by omega)
    have a1 := q1.mp (by omega)
    have a2 := q2.mp (by omega)
    have a3 := q3.mp (by omega)
    exact ⟨⟨a0.1, a1.1, a2.1, a3.1⟩, ⟨a0.2, a1.2, a2.2, a3.2⟩⟩
  · rintro ⟨⟨a0, a1, a2, a3⟩, ⟨c0, c1, c2, c3⟩⟩
    rw [q0.mpr ⟨a0, c0⟩, q1.mpr ⟨a1, c1⟩, q2.mpr ⟨a2, c2⟩, q3.mpr ⟨a3, c3⟩]
/-- the signs -/
def sigS (g : Int) (b0 b1 b2 b3 : Bool) : Str := ⟨#[if b0 then 114 else 45, if b1 then 119 else 45, if b2 then (if b3 then (if g = 2 then 116 else 115) else 120) else (if b3 then (if g = 2 then 84 else 83) else 45)]⟩
def bitB (g m : Int) (k : Nat) : Bool := decide (m / (pw g).getD k 0 % 2 = 1)
theorem ite_dec {α : Type} (P : Prop) [Decidable P] (a b : α) : (if P then a else b) = if decide P = true then a else b := by
  by_cases h : P <;> simp [h]
theorem cut1 (r0 a0 a1 a2 a3 a4 a5 a6 a7 a8 : Nat) : Txt.slice ⟨([r0, a0, a1, a2, a3, a4, a5, a6, a7, a8] : List Nat).toArray⟩ (some 1) (some 4) = ⟨#[a0, a1, a2]⟩ := rfl
theorem cut4 (r0 a0 a1 a2 a3 a4 a5 a6 a7 a8 : Nat) : Txt.slice ⟨([r0, a0, a1, a2, a3, a4, a5, a6, a7, a8] : List Nat).toArray⟩ (some 4) (some 7) = ⟨#[a3, a4, a5]⟩ := rfl
theorem cut7 (r0 a0 a1 a2 a3 a4 a5 a6 a7 a8 : Nat) : Txt.slice ⟨([r0, a0, a1, a2, a3, a4, a5, a6, a7, a8] : List Nat).toArray⟩ (some 7) (some 10) = ⟨#[a6, a7, a8]⟩ := rfl
theorem bit_at0 (m : Int) : bitB 0 m 0 = decide (m / 256 % 2 = 1) ∧ bitB 0 m 1 = decide (m / 128 % 2 = 1) ∧ bitB 0 m 2 = decide (m / 64 % 2 = 1) ∧ bitB 0 m 3 = decide (m / 2048 % 2 = 1) := ⟨rfl, rfl, rfl, rfl⟩
theorem bit_at1 (m : Int) : bitB 1 m 0 = decide (m / 32 % 2 = 1) ∧ bitB 1 m 1 = decide (m / 16 % 2 = 1) ∧ bitB 1 m 2 = decide (m / 8 % 2 = 1) ∧ bitB 1 m 3 = decide (m / 1024 % 2 = 1) := ⟨rfl, rfl, rfl, rfl⟩
theorem bit_at2 (m : Int) : bitB 2 m 0 = decide (m / 4 % 2 = 1) ∧ bitB 2 m 1 = decide (m / 2 % 2 = 1) ∧ bitB 2 m 2 = decide (m / 1 % 2 = 1) ∧ bitB 2 m 3 = decide (m / 512 % 2 = 1) := ⟨rfl, rfl, rfl, rfl⟩
theorem sgn1 (P : Prop) [Decidable P] (c : Nat) : (if P then c else 45) = if decide P then c else 45 := by by_cases h : P <;> simp [h]
theorem sgn3 (P R : Prop) [Decidable P] [Decidable R] (c1 c2 c3 : Nat) : (if P then (if R then c1 else c3) else (if R then c2 else 45)) = if decide P then (if decide R then c1 else c3) else (if decide R then c2 else 45) := by by_cases h : P <;> by_cases k : R <;> simp [h, k]
theorem fm_str (m : Int) : fmStr m = ⟨([rowChar m 0 (tbl.getD 0 []), sgn m 0, sgn m 1, sgn m 2, sgn m 3, sgn m 4, sgn m 5, sgn m 6, sgn m 7, sgn m 8] : List Nat).toArray⟩ := by unfold fmStr; rw [fm_list]
theorem arr3 {a b c a' b' c' : Nat} (h1 : a = a') (h2 : b = b') (h3 : c = c') : (⟨#[a, b, c]⟩ : Str) = ⟨#[a', b', c']⟩ := by rw [h1, h2, h3]
theorem sgn_sig {g : Int} (h0 : 0 ≤ g) (h3 : g < 3) (m : Int) : sgnF g m = sigS g (bitB g m 0) (bitB g m 1) (bitB g m 2) (bitB g m 3) := by
  unfold sgnF
  rw [fm_str]
  rcases g3 h0 h3 with rfl | rfl | rfl
  · obtain ⟨e0, e1, e2, e3⟩ := bit_at0 m
    rw [e0, e1, e2, e3]
    refine (cut1 _ _ _ _ _ _ _ _ _ _).trans (arr3 (sgn1 _ _) (sgn1 _ _) (sgn3 _ _ _ _ _))
  · obtain ⟨e0, e1, e2, e3⟩ := bit_at1 m
    rw [e0, e1, e2, e3]
    refine (cut4 _ _ _ _ _ _ _ _ _ _).trans (arr3 (sgn1 _ _) (sgn1 _ _) (sgn3 _ _ _ _ _))
  · obtain ⟨e0, e1, e2, e3⟩ := bit_at2 m
    rw [e0, e1, e2, e3]
    refine (cut7 _ _ _ _ _ _ _ _ _ _).trans (arr3 (sgn1 _ _) (sgn1 _ _) (sgn3 _ _ _ _ _))
def dif (b c : Bool) : Int := if b = c then 0 else 1
theorem ap_sig {g : Int} (h0 : 0 ≤ g) (h3 : g < 3) : ∀ b0 b1 b2 b3 c0 c1 c2 c3 : Bool, apF (sigS g b0 b1 b2 b3) (sigS g c0 c1 c2 c3) (ringS g) = dif b0 c0 + dif b1 c1 + dif b2 c2 + dif b3 c3 := by
  rcases g3 h0 h3 with rfl | rfl | rfl
  · decide +kernel
  · decide +kernel
  · decide +kernel
theorem find_sig {g : Int} (h0 : 0 ≤ g) (h3 : g < 3) : ∀ b0 b1 b2 b3 : Bool, (sigS g b0 b1 b2 b3).length = 3 ∧ 0 ≤ Txt.find (ringS g) (Txt.item (sigS g b0 b1 b2 b3) 2) := by
  rcases g3 h0 h3 with rfl | rfl | rfl
  · decide +kernel
  · decide +kernel
  · decide +kernel
theorem giv_sig {g : Int} (h0 : 0 ≤ g) (h3 : g < 3) : ∀ b0 b1 b2 b3 : Bool, givF (sigS g b0 b1 b2 b3) = [b0, b1, b2] := by
  rcases g3 h0 h3 with rfl | rfl | rfl
  · decide +kernel
  · decide +kernel
  · decide +kernel
theorem bit_phi {g : Int} (h0 : 0 ≤ g) (h3 : g < 3) {x : Nat} (hx : x < 16) : bitB g (phi g x) 0 = x.testBit 0 ∧ bitB g (phi g x) 1 = x.testBit 1 ∧ bitB g (phi g x) 2 = x.testBit 2 ∧ bitB g (phi g x) 3 = x.testBit 3 := by
  rcases g3 h0 h3 with rfl | rfl | rfl
  · exact (by decide +kernel : ∀ x : Fin 16, bitB 0 (phi 0 x.val) 0 = x.val.testBit 0 ∧ bitB 0 (phi 0 x.val) 1 = x.val.testBit 1 ∧ bitB 0 (phi 0 x.val) 2 = x.val.testBit 2 ∧ bitB 0 (phi 0 x.val) 3 = x.val.testBit 3) ⟨x, hx⟩
  · exact (by decide +kernel : ∀ x : Fin 16, bitB 1 (phi 1 x.val) 0 = x.val.testBit 0 ∧ bitB 1 (phi 1 x.val) 1 = x.val.testBit 1 ∧ bitB 1 (phi 1 x.val) 2 = x.val.testBit 2 ∧ bitB 1 (phi 1 x.val) 3 = x.val.testBit 3) ⟨x, hx⟩
  · exact (by decide +kernel : ∀ x : Fin 16, bitB 2 (phi 2 x.val) 0 = x.val.testBit 0 ∧ bitB 2 (phi 2 x.val) 1 = x.val.testBit 1 ∧ bitB 2 (phi 2 x.val) 2 = x.val.testBit 2 ∧ bitB 2 (phi 2 x.val) 3 = x.val.testBit 3) ⟨x, hx⟩
theorem dif_sum {g : Int} {k : Nat} (hk : k < 4) (b : Bool) : ∀ md : List Int, (md.map fun m => dif b (bitB g m k)).sum = valK g md k b := by
  intro md
  induction md with
  | nil =>
    unfold valK sK
    rw [(col_at hk).2]
    cases b <;> simp
  | cons m r ih =>
    unfold valK sK at ih ⊢
    rw [(col_at hk).2] at ih ⊢
    simp only [List.map_cons, List.sum_cons, List.length_cons, ih]
    unfold dif bitB
    rcases (by omega : m / (pw g).getD k 0 % 2 = 0 ∨ m / (pw g).getD k 0 % 2 = 1) with e | e
    · rw [e]; cases b <;> simp <;> omega
    · rw [e]; cases b <;> simp <;> omega
theorem sum4 {f0 f1 f2 f3 : Int → Int} : ∀ md : List Int, (md.map fun m => f0 m + f1 m + f2 m + f3 m).sum = (md.map f0).sum + (md.map f1).sum + (md.map f2).sum + (md.map f3).sum
  | [] => rfl
  | m :: r => by
    have := sum4 (f0 := f0) (f1 := f1) (f2 := f2) (f3 := f3) r
    simp only [List.map_cons, List.sum_cons, this]
    omega
theorem turn_sum {g : Int} (h0 : 0 ≤ g) (h3 : g < 3) (md : List Int) {x : Nat} (hx : x < 16) : ((md.map (sgnF g)).map fun y => apF (sgnF g (phi g x)) y (ringS g)).sum = val g md x := by
  rw [List.map_map]
  have e : ((fun y => apF (sgnF g (phi g x)) y (ringS g)) ∘ sgnF g) = fun m => dif (x.testBit 0) (bitB g m 0) + dif (x.testBit 1) (bitB g m 1) + dif (x.testBit 2) (bitB g m 2) + dif (x.testBit 3) (bitB g m 3) := by
    funext m
    obtain ⟨b0, b1, b2, b3⟩ := bit_phi h0 h3 hx
    show apF (sgnF g (phi g x)) (sgnF g m) (ringS g) = _
    rw [sgn_sig h0 h3, sgn_sig h0 h3, ap_sig h0 h3, b0, b1, b2, b3]
  rw [e, sum4, dif_sum (by decide), dif_sum (by decide), dif_sum (by decide), dif_sum (by decide)]
  rfl
theorem turn_all {g : Int} {md : List Int} (h0 : 0 ≤ g) (h3 : g < 3) {tn fs : List (Int × Int)} (hp : tn.Perm (costF g md)) (hf : fs.Perm (allSub tn (leV g md) (loV g md))) (hh : fs.head? = some (leV g md, loV g md)) :
    ∀ q ∈ fs, (sgnF g q.2).length = 3 ∧ 0 ≤ Txt.find (ringS g) (Txt.item (sgnF g q.2) 2) ∧ ((md.map (sgnF g)).map fun y => apF (sgnF g q.2) y (ringS g)).sum = q.1 ∧ (q.1 = (fs.map (·.1)).getD 0 0 ↔ (Builtin.bitAnd q.2 (loV g md) = loV g md ∧ Builtin.bitAnd q.2 (upV g md) = q.2)) := by
  intro q hq
  obtain ⟨x, hx, rfl⟩ := told_each h0 h3 hp hf q hq
  have hz : (fs.map (·.1)).getD 0 0 = leV g md := by
    cases fs with
    | nil => cases hh
    | cons a r => simp at hh; rw [hh]; rfl
  have hs := find_sig h0 h3 (bitB g (phi g x) 0) (bitB g (phi g x) 1) (bitB g (phi g x) 2) (bitB g (phi g x) 3)
  rw [← sgn_sig h0 h3] at hs
  exact ⟨hs.1, hs.2, turn_sum h0 h3 md hx, by rw [hz]; exact between_iff h0 h3 hx⟩
theorem shown_all {g : Int} (h0 : 0 ≤ g) (h3 : g < 3) (md : List Int) : ∀ y ∈ md.map (sgnF g), y.length = 3 ∧ 0 ≤ Txt.find (ringS g) (Txt.item y 2) := by
  intro y hy
  obtain ⟨m, _, rfl⟩ := List.mem_map.mp hy
  rw [sgn_sig h0 h3]
  exact find_sig h0 h3 _ _ _ _
theorem given_all {g : Int} (h0 : 0 ≤ g) (h3 : g < 3) {md : List Int} (h2 : 0 < md.length) : givF (sgnF g (md.getD 0 0)) = (List.range 3).map fun k => decide ((colF g md k).getD 0 0 = 1) := by
  rw [sgn_sig h0 h3, giv_sig h0 h3]
  have e : ∀ k, k < 4 → (colF g md k).getD 0 0 = md.getD 0 0 / (pw g).getD k 0 % 2 := fun k hk => by
    rw [(col_at hk).2]
    cases md with
    | nil => simp at h2
    | cons a r => rfl
  simp only [show List.range 3 = [0, 1, 2] from rfl, List.map_cons, List.map_nil, e 0 (by decide), e 1 (by decide), e 2 (by decide), bitB]
def DomG (g a : Int) : Prop := ∃ x < 16, a = phi g x
theorem dom_xor {g : Int} (h0 : 0 ≤ g) (h3 : g < 3) : ∀ a b, DomG g a → DomG g b → DomG g (bx a b) := by
  rintro a b ⟨x, hx, rfl⟩ ⟨y, hy, rfl⟩
  exact ⟨x ^^^ y, Nat.xor_lt_two_pow (n := 4) hx hy, phi_xor_lt h0 h3 hx hy⟩
theorem dom_bd {g : Int} (h0 : 0 ≤ g) (h3 : g < 3) : ∀ a, DomG g a → 0 ≤ a ∧ a < 65536 := by
  rintro a ⟨x, hx, rfl⟩
  exact phi_bd h0 h3 hx
theorem dom_cost {g : Int} {md : List Int} {tn : List (Int × Int)} (hp : tn.Perm (costF g md)) : ∀ q ∈ tn, DomG g q.2 ∧ 0 ≤ q.1 := by
  intro q hq
  obtain ⟨k, hk, rfl⟩ := List.mem_map.mp (hp.mem_iff.mp hq)
  have hk := List.mem_range.mp hk
  refine ⟨⟨2 ^ k, Nat.pow_lt_pow_right (n := 4) (by decide) hk, (phi_pow hk).symm⟩, ?_⟩
  show 0 ≤ absI _
  unfold absI
  split <;> omega
end
section
local macro_rules | `(tactic| walk_at "binaryOp RShift int int") => `(tactic| (k_here; (with_reducible refine shr1 ?_)))
local macro_rules | `(tactic| walk_at "binaryOp Mod int int") => `(tactic| (k_here; (with_reducible refine mod_pos ?k1 ?_); (case k1 => decide)))
local macro_rules | `(tactic| walk_at "binaryOp FloorDiv int int") => `(tactic| (k_here; (with_reducible refine fdiv_pos ?k1 ?k2 ?_); (case k1 => decide); (case k2 => decide +kernel)))
local macro_rules | `(tactic| k_all) => `(tactic| with_reducible assumption)
local macro_rules | `(tactic| l_idx) => `(tactic| omega)
local macro_rules | `(tactic| k_upd) => `(tactic| first | (refine' Pick.head ?a; (case a => k_all)) | (refine' Pick.tail ?a ?b; (case a => k_ne); (case b => k_upd)))
local macro_rules | `(tactic| walk_at "call ref") => `(tactic| (k_here; refine wpAny_call ?_; k_dflt (refine' code_def ?k1 ?k2 ?k3 ?k4 ?k5 ?kA ?kF ?kK ?k6 ?k7 ?k8 ?k9 ?kB ?_ ?c2 ?c3 ?c4 ?c5; (case kA => exact rfl); (case kF => exact rfl); (case kK => first | exact rfl | assumption); (case k1 => k_asm); (case k2 => k_asm); (case k3 => k_asm); (case k4 => k_asm); (case k5 => k_asm); (case k6 => k_is); (case k7 => k_is); (case k8 => ktr_room); (case k9 => exact BindsTo.of_eq rfl); (case c5 => decide); (case kB => exact locs rfl); (case c2 => exact rfl); (case c3 => exact rfl); (case c4 => exact rfl); k_whole; intro g' L' h' FG' F' N' B' X' T'; (try dsimp only); (try k_lift B'); (try k_fold))))
section
variable {w : World} {mean : ExcName → Option Value} {mg mb : Str → Option Value} {a : Addr} {ccd : Value} {h₀ : Heap} {L : Addr} {m : Str → Option Value} {s : Shared} {Q : Flow → Shared → Prop} {E : Value → Shared → Prop}
  {oc : Value} {od : Option Addr} {name qual : Str} {params : Arguments} {body : List Stmt} {scope : Scope} {dV kV doc pm cdv ct : Value} {an : Option Addr} {osl : Array (Option Value)} {st : Stmt}
theorem st_ret (ho : (hd.heap_39 w.params).lookup 145 = some ⟨oc, od, .func (fnOf name qual params body scope dV kV doc pm an cdv ct), osl⟩) (hst : body[19]? = some st)
    (B : Below callerA h₀ [] h₀) (X : (hd.heap_39 w.params).In h₀) (T : Top hd.view_39 lz mean mg mb h₀) (F : Fr h₀ L s.heap m)
    (hQ : ∀ tk, Q (.ret (.bool true)) { s with toks := tk }) :
    wpAny (model prg w) (callerA.deeper (envOfC qual scope L a ccd)) (exec st (envOfC qual scope L a ccd)) Q E s := by
  revert X; unfold prg; w_top off; k_fill; intro X
  refine' law_is ho ?e ?_
  case e => k_is
  intro hq
  clear ho
  cases hq
  simp only [List.getElem?_cons_zero, List.getElem?_cons_succ, Option.some.injEq] at hst
  subst hst
  k_with_none
  k_steps
  exact hQ _
theorem law_len (ho : (hd.heap_39 w.params).lookup 145 = some ⟨oc, od, .func (fnOf name qual params body scope dV kV doc pm an cdv ct), osl⟩)
    (X : (hd.heap_39 w.params).In h₀) : body.length = 20 := by
  revert X; w_top off; k_fill; intro X
  refine' law_is ho ?e ?_
  case e => k_is
  intro hq
  clear ho
  cases hq
  rfl
end
end
section
/-! the law's body, joined -/
theorem exec_step {prog : Program} {w : World} {A : Around} {env : Env} {body : List Stmt} {i : Nat} {st : Stmt} {Q : Flow → Shared → Prop} {E : Value → Shared → Prop} {s : Shared} (hst : body[i]? = some st)
    (h : wpAny (model prog w) A (exec st env) (fun f s' => match f with | .next => wpAny (model prog w) A (execs (body.drop (i + 1)) env) Q E s' | f => Q f s') E s) : wpAny (model prog w) A (execs (body.drop i) env) Q E s := by
  obtain ⟨hlt, e⟩ := List.getElem?_eq_some_iff.mp hst
  rw [List.drop_eq_getElem_cons hlt, e]
  exact wpAny_execs_cons h
theorem step {prog : Program} {w : World} {A : Around} {env : Env} {body : List Stmt} {i : Nat} {st : Stmt} {Q : Flow → Shared → Prop} {E : Value → Shared → Prop} {s : Shared} {h₀ : Heap} {L : Addr} {J : (Str → Option Value) → List (Addr × Obj) → Prop} (hst : body[i]? = some st)
    (h1 : wpAny (model prog w) A (exec st env) (StPost h₀ L J s Q) E s)
    (h2 : ∀ h' tk m' nx, Fr h₀ L h' m' → News h₀ L h' nx → J m' nx → wpAny (model prog w) A (execs (body.drop (i + 1)) env) Q E { s with heap := h', toks := tk }) : wpAny (model prog w) A (execs (body.drop i) env) Q E s := by
  refine exec_step hst (wpAny_mono h1 (fun f s' h => ?_) fun _ _ h => h)
  cases f with
  | next => obtain ⟨h', tk, m', nx, rfl, F, N, hJ⟩ := h; exact h2 h' tk m' nx F N hJ
  | _ => exact h
theorem le_nonneg (g : Int) (md : List Int) : 0 ≤ leV g md := by
  have e : ∀ k, k < 4 → 0 ≤ minF (colF g md k).sum ((md.length : Int) - (colF g md k).sum) := fun k hk => by
    obtain ⟨h1, h2, _⟩ := ord_perm (colF g md k) (col_bits hk)
    rw [col_len hk] at h2
    unfold minF
    split <;> omega
  have e0 := e 0 (by decide)
  have e1 := e 1 (by decide)
  have e2 := e 2 (by decide)
  have e3 := e 3 (by decide)
  unfold leV
  simp only [show List.range 4 = [0, 1, 2, 3] from rfl, List.map_cons, List.map_nil, List.sum_cons, List.sum_nil]
  omega
theorem fm_ten (md : List Int) : ∀ x ∈ md.map fmStr, x.length = 10 := by
  intro x hx
  obtain ⟨b, _, rfl⟩ := List.mem_map.mp hx
  rw [fm_str]; rfl
theorem fm_nine (md : List Int) : ∀ x ∈ md.map fmStr, (Txt.slice x (some 1) none).length = 9 := by
  intro x hx
  obtain ⟨b, _, rfl⟩ := List.mem_map.mp hx
  rw [slice_sgns]; rfl
theorem strs_first {vs : List Value} {xs : List Str} {x : Str} (h : StrsAre vs xs) (e : xs[0]? = some x) : ∃ t, vs[0]? = some (.str x t) := by
  cases h with
  | nil => simp at e
  | cons y t _ => simp at e; subst e; exact ⟨t, rfl⟩
section
variable {w : World} {mean : ExcName → Option Value} {mg mb : Str → Option Value} {a : Addr} {ccd : Value} {h₀ : Heap} {L : Addr} {m : Str → Option Value} {s : Shared} {Q : Flow → Shared → Prop} {E : Value → Shared → Prop}
  {oc : Value} {od : Option Addr} {name qual : Str} {params : Arguments} {body : List Stmt} {scope : Scope} {dV kV doc pm cdv ct : Value} {an : Option Addr} {osl : Array (Option Value)}
set_option maxHeartbeats 8000000 in
theorem st_all {ls : Addr} {vs : List Value} {sc : List Int} {c6 c5 c4 c3 c2 c1 : Obj} {v1 v2 v3 v4 v5 v6 : Option Value}
    (ho : (hd.heap_39 w.params).lookup 145 = some ⟨oc, od, .func (fnOf name qual params body scope dV kV doc pm an cdv ct), osl⟩)
    (B : Below callerA h₀ [] h₀) (X : (hd.heap_39 w.params).In h₀) (T : Top hd.view_39 lz mean mg mb h₀) (hl : h₀.IsList ls vs.toArray) (hi : IntsAre vs sc) (h63 : sc.length ≤ 63)
    (F : Fr h₀ L s.heap m) (hm : KnownAll m [(Str.ofString "script", .ref ls)]) (N : News h₀ L s.heap (led6 L c6 c5 c4 c3 c2 c1 []))
    (d1 : c1.data = .cell v1) (d2 : c2.data = .cell v2) (d3 : c3.data = .cell v3) (d4 : c4.data = .cell v4) (d5 : c5.data = .cell v5) (d6 : c6.data = .cell v6)
    (hE : PassesOwn (model prg w) (callerA.deeper (envOfC qual scope L a ccd)) (envOfC qual scope L a ccd) E)
    (hQ : ∀ h' tk m', Fr h₀ L h' m' → Q (.ret (.bool true)) { s with heap := h', toks := tk }) :
    wpAny (model prg w) (callerA.deeper (envOfC qual scope L a ccd)) (execs body (envOfC qual scope L a ccd)) Q E s := by
  have hlen := law_len ho X
  have hst : ∀ i, (h : i < 20) → body[i]? = some (body[i]'(hlen ▸ h)) := fun i h => List.getElem?_eq_getElem _
  show wpAny _ _ (execs (body.drop 0) _) _ _ _
  refine step (hst 0 (by decide)) (st_modes (ts := 0) ho (hst 0 (by decide)) B X T hl hi h63 F hm N d1) ?_
  clear F hm N d1
  rintro h1 k1 m1 nx1 F N ⟨hm, c1, lm, vm, nm, md, rfl, hab, d1, him, h2, h5, hbd⟩
  refine step (hst 1 (by decide)) (st_group ho (hst 1 (by decide)) B X T F hl hi h63 hm N hab d2) ?_
  clear F hm N d2
  rintro h2' k2 m2 nx2 F N ⟨c2, g, tg, rfl, d2, hg0, hg3⟩
  refine step (hst 2 (by decide)) (st_powers ho (hst 2 (by decide)) B X T F N hab d2 d3 hg0 hg3) ?_
  clear F N d3
  rintro h3' k3 m3 nx3 F N ⟨c3, lp, vp, np, rfl, hab, d3, hip⟩
  have hlm : (lm, W.listOf vm.toArray nm) ∈ (lp, W.listOf vp.toArray np) :: [(lm, W.listOf vm.toArray nm)] := .tail _ (.head _)
  have hlp : (lp, W.listOf vp.toArray np) ∈ (lp, W.listOf vp.toArray np) :: [(lm, W.listOf vm.toArray nm)] := .head _
  refine step (hst 3 (by decide)) (st_columns ho (hst 3 (by decide)) B X T F N hab d1 d3 d4 hg0 hg3 hlm him h5 hlp hip) ?_
  clear F N d4
  rintro h4' k4 m4 nx4 F N ⟨c4, lc, vc, nc, own, rfl, hab', d4, hic⟩
  generalize (lp, W.listOf vp.toArray np) :: [(lm, W.listOf vm.toArray nm)] = tl2 at *
  have hlc : (lc, W.listOf vc.toArray nc) ∈ (lc, W.listOf vc.toArray nc) :: (own ++ tl2) := .head _
  replace hlm : _ ∈ (lc, W.listOf vc.toArray nc) :: (own ++ tl2) := .tail _ (List.mem_append_right _ hlm)
  replace hlp : _ ∈ (lc, W.listOf vc.toArray nc) :: (own ++ tl2) := .tail _ (List.mem_append_right _ hlp)
  generalize (lc, W.listOf vc.toArray nc) :: (own ++ tl2) = tl3 at *
  clear hab
  replace hic : ColsP tl3 vc (colsF g md) := hic
  refine step (hst 4 (by decide)) (st_lower ho (hst 4 (by decide)) B X T F N hab' d3 d4 hg0 hg3 h2 h5 hlp hip hlc hic) ?_
  clear F N
  rintro h5' k5 m5 nx5 F N ⟨tlo, rfl, rfl⟩
  refine step (hst 5 (by decide)) (st_upper ho (hst 5 (by decide)) B X T F N hab' d3 d4 hg0 hg3 h2 h5 hlp hip hlc hic) ?_
  clear F N
  rintro h6' k6 m6 nx6 F N ⟨tup, rfl, rfl⟩
  refine step (hst 6 (by decide)) (st_least ho (hst 6 (by decide)) B X T F N hab' d1 d4 h2 h5 hlm him hlc hic) ?_
  clear F N
  rintro h7' k7 m7 nx7 F N ⟨tle, rfl, rfl⟩
  refine step (hst 7 (by decide)) (st_costs ho (hst 7 (by decide)) B X T F N hab' d1 d3 d4 hg0 hg3 h2 h5 hlm him hlp hip hlc hic) ?_
  clear F N
  rintro h8' k8 m8 nx8 F N ⟨lk, vk, nk, own8, tn, rfl, rfl, hab8, htn, hpt, hso⟩
  have hlk : (lk, W.listOf vk.toArray nk) ∈ (lk, W.listOf vk.toArray nk) :: (own8 ++ tl3) := .head _
  have up8 : ∀ p ∈ tl3, p ∈ (lk, W.listOf vk.toArray nk) :: (own8 ++ tl3) := fun p hp => .tail _ (List.mem_append_right _ hp)
  replace htn : PairsP ((lk, W.listOf vk.toArray nk) :: (own8 ++ tl3)) vk tn := htn.mono fun p hp => .tail _ hp
  replace hlm := up8 _ hlm
  replace hlp := up8 _ hlp
  replace hlc := up8 _ hlc
  replace hic := hic.mono up8
  generalize (lk, W.listOf vk.toArray nk) :: (own8 ++ tl3) = tl4 at *
  clear hab' up8
  have hdc := dom_cost hpt
  have hlk8 : KnownAll (setM (setM (setM (setM m4 (Str.ofString "lower") (.int (loV g md) tlo)) (Str.ofString "upper") (.int (upV g md) tup)) (Str.ofString "least") (.int (leV g md) tle)) (Str.ofString "costs") (.ref lk)) [(Str.ofString "least", .int (leV g md) tle), (Str.ofString "lower", .int (loV g md) tlo), (Str.ofString "costs", .ref lk)] := ⟨rfl, rfl, rfl, trivial⟩
  refine step (hst 8 (by decide)) (st_told (Dom := DomG g) ho (hst 8 (by decide)) B X T F N hab8 hlk8 hlk htn (by rw [hpt.length_eq]; rfl) (le_nonneg g md) ⟨_, mk4_lt _, lo_phi g md⟩ (fun q hq => (hdc q hq).1) (dom_xor hg0 hg3) (dom_bd hg0 hg3) (fun q hq => (hdc q hq).2) hso) ?_
  clear F N hlk8
  rintro h9' k9 m9 nx9 F N ⟨lt, vt, nt, own9, fs, rfl, rfl, hab9, hfs, hpf, hfo, hfh⟩
  have hlt : (lt, W.listOf vt.toArray nt) ∈ (lt, W.listOf vt.toArray nt) :: (own9 ++ tl4) := .head _
  have up9 : ∀ p ∈ tl4, p ∈ (lt, W.listOf vt.toArray nt) :: (own9 ++ tl4) := fun p hp => .tail _ (List.mem_append_right _ hp)
  replace hfs : PairsP ((lt, W.listOf vt.toArray nt) :: (own9 ++ tl4)) vt fs := hfs.mono fun p hp => .tail _ (List.mem_append_left _ hp)
  replace hlm := up9 _ hlm
  replace hlp := up9 _ hlp
  replace hlc := up9 _ hlc
  replace hic := hic.mono up9
  generalize (lt, W.listOf vt.toArray nt) :: (own9 ++ tl4) = tl5 at *
  clear hab8 up9 hlk htn
  have h16 : fs.length ≤ 16 := by have := hpf.length_eq; rw [allSub_len] at this; omega
  have hev := told_every hg0 hg3 hpt hpf
  have htu := turn_all hg0 hg3 hpt hpf hfh
  have hw0 : 0 < (fs.map (·.1)).length := by
    cases fs with
    | nil => cases hfh
    | cons _ _ => simp
  clear hpf hfh hpt hso hdc
  refine step (hst 9 (by decide)) (st_ways ho (hst 9 (by decide)) B X T F N hab9 ⟨rfl, trivial⟩ hlt hfs h16) ?_
  clear F N
  rintro h10' k10 m10 nx10 F N ⟨lw, vw, nw, rfl, rfl, hab10, hiw⟩
  have hlw : (lw, W.listOf vw.toArray nw) ∈ (lw, W.listOf vw.toArray nw) :: tl5 := .head _
  have up10 : ∀ p ∈ tl5, p ∈ (lw, W.listOf vw.toArray nw) :: tl5 := fun p hp => .tail _ hp
  replace hlm := up10 _ hlm
  replace hlp := up10 _ hlp
  replace hlc := up10 _ hlc
  replace hlt := up10 _ hlt
  replace hic := hic.mono up10
  replace hfs := hfs.mono up10
  generalize (lw, W.listOf vw.toArray nw) :: tl5 = tl6 at *
  clear hab9 up10
  refine step (hst 10 (by decide)) (st_every ho (hst 10 (by decide)) B X T F N hab10 ⟨rfl, trivial⟩ hlt hfs h16) ?_
  clear F N
  rintro h11' k11 m11 nx11 F N ⟨lv, vv, nv, rfl, rfl, hab11, hiv⟩
  have hlv : (lv, W.listOf vv.toArray nv) ∈ (lv, W.listOf vv.toArray nv) :: tl6 := .head _
  have up11 : ∀ p ∈ tl6, p ∈ (lv, W.listOf vv.toArray nv) :: tl6 := fun p hp => .tail _ hp
  replace hlm := up11 _ hlm
  replace hlp := up11 _ hlp
  replace hlc := up11 _ hlc
  replace hlt := up11 _ hlt
  replace hlw := up11 _ hlw
  replace hic := hic.mono up11
  replace hfs := hfs.mono up11
  generalize (lv, W.listOf vv.toArray nv) :: tl6 = tl7 at *
  clear hab10 up11
  refine step (hst 11 (by decide)) (st_if1 ho (hst 11 (by decide)) B X T F N hab11 ⟨rfl, rfl, trivial⟩ d3 hlw hiw hlv hiv hlp hip (by rw [List.length_map]; exact h16) (by rw [List.length_map]; exact h16) rfl hfo hev) ?_
  clear F N hev hfo
  rintro h12' k12 m12 nx12 F N ⟨rfl, rfl⟩
  refine step (hst 12 (by decide)) (st_ring ho (hst 12 (by decide)) B X T F N hab11 d2 d5) ?_
  clear F N d5
  rintro h13' k13 m13 nx13 F N ⟨rfl, c5, tr, rfl, d5⟩
  refine step (hst 13 (by decide)) (st_texts ho (hst 13 (by decide)) B X T F N hab11 d1 h5 hlm him) ?_
  clear F N
  rintro h14' k14 m14 nx14 F N ⟨lx, vx, nx₀, rfl, rfl, hab14, hix⟩
  have hlx : (lx, W.listOf vx.toArray nx₀) ∈ (lx, W.listOf vx.toArray nx₀) :: tl7 := .head _
  have up14 : ∀ p ∈ tl7, p ∈ (lx, W.listOf vx.toArray nx₀) :: tl7 := fun p hp => .tail _ hp
  replace hlc := up14 _ hlc
  replace hlt := up14 _ hlt
  replace hlw := up14 _ hlw
  replace hic := hic.mono up14
  replace hfs := hfs.mono up14
  generalize (lx, W.listOf vx.toArray nx₀) :: tl7 = tl8 at *
  clear hab11 up14
  refine step (hst 14 (by decide)) (st_if2 ho (hst 14 (by decide)) B X T F N hab14 ⟨rfl, trivial⟩ (by rw [List.length_map]; exact h2) (by rw [List.length_map]; exact h5) hlx hix (fm_ten md) (fm_nine md)) ?_
  clear F N
  rintro h15' k15 m15 nx15 F N ⟨rfl, rfl⟩
  refine step (hst 15 (by decide)) (st_shown ho (hst 15 (by decide)) B X T F N hab14 ⟨rfl, trivial⟩ d2 hg0 hg3 (by rw [List.length_map]; exact h5) hlx hix (fm_ten md)) ?_
  clear F N
  rintro h16' k16 m16 nx16 F N ⟨ly, vy, ny, rfl, rfl, hab16, hiy⟩
  have hly : (ly, W.listOf vy.toArray ny) ∈ (ly, W.listOf vy.toArray ny) :: tl8 := .head _
  have up16 : ∀ p ∈ tl8, p ∈ (ly, W.listOf vy.toArray ny) :: tl8 := fun p hp => .tail _ hp
  replace hlc := up16 _ hlc
  replace hlt := up16 _ hlt
  replace hlw := up16 _ hlw
  replace hic := hic.mono up16
  replace hfs := hfs.mono up16
  generalize (ly, W.listOf vy.toArray ny) :: tl8 = tl9 at *
  clear hab14 up16
  rw [List.map_map] at hiy
  replace hiy : StrsAre vy (md.map (sgnF g)) := hiy
  have hsh := shown_all hg0 hg3 md
  obtain ⟨t0, hy0⟩ := strs_first (x := sgnF g (md.getD 0 0)) hiy (by
    cases md with
    | nil => simp at h2
    | cons _ _ => rfl)
  have hs0 : (sgnF g (md.getD 0 0)).length = 3 := (hsh _ (List.mem_map.mpr ⟨md.getD 0 0, by
    cases md with
    | nil => simp at h2
    | cons _ _ => exact .head _, rfl⟩)).1
  refine step (hst 16 (by decide)) (st_given ho (hst 16 (by decide)) B X T F N hab16 ⟨rfl, trivial⟩ hly hy0 hs0) ?_
  clear F N
  rintro h17' k17 m17 nx17 F N ⟨lg, rfl, rfl, hab17⟩
  have hlg : (lg, W.listOf ((givF (sgnF g (md.getD 0 0))).map Value.bool).toArray 0) ∈ (lg, W.listOf ((givF (sgnF g (md.getD 0 0))).map Value.bool).toArray 0) :: tl9 := .head _
  have up17 : ∀ p ∈ tl9, p ∈ (lg, W.listOf ((givF (sgnF g (md.getD 0 0))).map Value.bool).toArray 0) :: tl9 := fun p hp => .tail _ hp
  replace hlc := up17 _ hlc
  replace hlt := up17 _ hlt
  replace hlw := up17 _ hlw
  replace hly := up17 _ hly
  replace hic := hic.mono up17
  replace hfs := hfs.mono up17
  generalize (lg, W.listOf ((givF (sgnF g (md.getD 0 0))).map Value.bool).toArray 0) :: tl9 = tl10 at *
  clear hab16 up17
  refine step (hst 17 (by decide)) (st_if3 ho (hst 17 (by decide)) B X T F N hab17 ⟨rfl, trivial⟩ d4 hlg h2 h5 hlc hic (given_all hg0 hg3 (by omega))) ?_
  clear F N
  rintro h18' k18 m18 nx18 F N ⟨rfl, rfl⟩
  refine step (hst 18 (by decide)) (st_for ho (hst 18 (by decide)) B X T F N hab17 (lo := loV g md) (up := upV g md) (t1 := tlo) (t2 := tup) ⟨rfl, rfl, rfl, rfl, rfl, trivial⟩ d2 d5 d6 hg0 hg3 hlt hfs hlw hiw hly hiy (by rw [List.length_map]; exact h5) hw0 hsh htu hE) ?_
  rintro h19' k19 m19 nx19 F N -
  refine exec_step (hst 19 (by decide)) (st_ret ho (hst 19 (by decide)) B X T F fun tk => ?_)
  exact hQ _ _ _ F
end
end
section
local macro_rules | `(tactic| walk_at "binaryOp RShift int int") => `(tactic| (k_here; (with_reducible refine shr1 ?_)))
local macro_rules | `(tactic| walk_at "binaryOp Mod int int") => `(tactic| (k_here; (with_reducible refine mod_pos ?k1 ?_); (case k1 => decide)))
local macro_rules | `(tactic| walk_at "binaryOp FloorDiv int int") => `(tactic| (k_here; (with_reducible refine fdiv_pos ?k1 ?k2 ?_); (case k1 => decide); (case k2 => decide +kernel)))
local macro_rules | `(tactic| k_all) => `(tactic| with_reducible assumption)
local macro_rules | `(tactic| l_idx) => `(tactic| omega)
local macro_rules | `(tactic| k_upd) => `(tactic| first | (refine' Pick.head ?a; (case a => k_all)) | (refine' Pick.tail ?a ?b; (case a => k_ne); (case b => k_upd)))
local macro_rules | `(tactic| walk_at "call ref") => `(tactic| (k_here; refine wpAny_call ?_; k_dflt (refine' code_def ?k1 ?k2 ?k3 ?k4 ?k5 ?kA ?kF ?kK ?k6 ?k7 ?k8 ?k9 ?kB ?_ ?c2 ?c3 ?c4 ?c5; (case kA => exact rfl); (case kF => exact rfl); (case kK => first | exact rfl | assumption); (case k1 => k_asm); (case k2 => k_asm); (case k3 => k_asm); (case k4 => k_asm); (case k5 => k_asm); (case k6 => k_is); (case k7 => k_is); (case k8 => ktr_room); (case k9 => exact BindsTo.of_eq rfl); (case c5 => decide); (case kB => exact locs rfl); (case c2 => exact rfl); (case c3 => exact rfl); (case c4 => exact rfl); k_whole; intro g' L' h' FG' F' N' B' X' T'; (try dsimp only); (try k_lift B'); (try k_fold))))
section
theorem st_all' {w : World} {mean : ExcName → Option Value} {mg mb : Str → Option Value} {a : Addr} {ccd : Value} {h₀ : Heap} {L : Addr} {m : Str → Option Value} {s : Shared} {Q : Flow → Shared → Prop} {E : Value → Shared → Prop}
    {o : Obj} {oc : Value} {od : Option Addr} {name qual : Str} {params : Arguments} {body : List Stmt} {scope : Scope} {dV kV doc pm cdv ct : Value} {an : Option Addr} {osl : Array (Option Value)}
    {ls : Addr} {vs : List Value} {sc : List Int} {c6 c5 c4 c3 c2 c1 : Obj} {v1 v2 v3 v4 v5 v6 : Option Value}
    (ho : (hd.heap_39 w.params).lookup 145 = some o) (he : o = ⟨oc, od, .func (fnOf name qual params body scope dV kV doc pm an cdv ct), osl⟩)
    (B : Below callerA h₀ [] h₀) (X : (hd.heap_39 w.params).In h₀) (T : Top hd.view_39 lz mean mg mb h₀) (hl : h₀.IsList ls vs.toArray) (hi : IntsAre vs sc) (h63 : sc.length ≤ 63)
    (F : Fr h₀ L s.heap m) (hm : KnownAll m [(Str.ofString "script", .ref ls)]) (N : News h₀ L s.heap (led6 L c6 c5 c4 c3 c2 c1 []))
    (d1 : c1.data = .cell v1) (d2 : c2.data = .cell v2) (d3 : c3.data = .cell v3) (d4 : c4.data = .cell v4) (d5 : c5.data = .cell v5) (d6 : c6.data = .cell v6)
    (hE : PassesOwn (model prg w) (callerA.deeper (envOfC qual scope L a ccd)) (envOfC qual scope L a ccd) E)
    (hQ : ∀ h' tk m', Fr h₀ L h' m' → Q (.ret (.bool true)) { s with heap := h', toks := tk }) :
    wpAny (model prg w) (callerA.deeper (envOfC qual scope L a ccd)) (execs body (envOfC qual scope L a ccd)) Q E s := by
  subst he
  exact st_all ho B X T hl hi h63 F hm N d1 d2 d3 d4 d5 d6 hE hQ
set_option maxHeartbeats 8000000 in
theorem law_holds : PySem.Challenge.rw_om0049_02.Holds := hd (by
  k_with_none
  k_go0
  all_goals try k_fold
  rename News _ _ _ _ => N0
  rename Fr _ _ _ _ => F0
  refine' st_all' ?ho ?he ?B ?X ?T ?hl ?hi ?h63 F0 ?hm N0 ?d1 ?d2 ?d3 ?d4 ?d5 ?d6 ?hE ?hQ
  case ho => k_is
  case he => exact rfl
  case B => assumption
  case X => assumption
  case T => assumption
  case hl => assumption
  case hi => assumption
  case h63 => omega
  case hm => exact ⟨rfl, trivial⟩
  case d1 => assumption
  case d2 => assumption
  case d3 => assumption
  case d4 => assumption
  case d5 => assumption
  case d6 => assumption
  case hE => passes_own
  case hQ =>
    intro h' tk m' F9
    clear N0 F0
    k_steps)
end
end
end Mine
theorem PySem.Challenge.cw_om0049_02_holds : PySem.Challenge.rw_om0049_02.Holds :=
  Mine.law_holds
