import PyProof.Rows.All
import Wide.All
import OpenK.AllK
import Wide.FinOn
import PySem.Challenge.RW_xe0019_01
set_option Elab.async false
namespace Mine
section
open PySem PySem.W PyProof.Rows
set_option maxRecDepth 100000 in
set_option maxHeartbeats 8000000 in
open_top hd for PySem.Challenge.rw_xe0019_01
theorem top_off : True := by
  w_top off
  trivial
end
set_option compiler.extract_closed false
set_option genSizeOf false
set_option genInjectivity false
section
open PySem PySem.W PyProof.Rows
set_option linter.unusedVariables false
set_option linter.unusedSimpArgs false
theorem cj0 {a r : Prop} (h : a ∧ r) : a := h.1
theorem cj1 {p0 a r : Prop} (h : p0 ∧ a ∧ r) : a := h.2.1
theorem cj2 {p0 p1 a r : Prop} (h : p0 ∧ p1 ∧ a ∧ r) : a := h.2.2.1
theorem cj3 {p0 p1 p2 a r : Prop} (h : p0 ∧ p1 ∧ p2 ∧ a ∧ r) : a := h.2.2.2.1
theorem cj4 {p0 p1 p2 p3 a r : Prop} (h : p0 ∧ p1 ∧ p2 ∧ p3 ∧ a ∧ r) : a := h.2.2.2.2.1
theorem cj5 {p0 p1 p2 p3 p4 a r : Prop} (h : p0 ∧ p1 ∧ p2 ∧ p3 ∧ p4 ∧ a ∧ r) : a := h.2.2.2.2.2.1
theorem cj6 {p0 p1 p2 p3 p4 p5 a r : Prop} (h : p0 ∧ p1 ∧ p2 ∧ p3 ∧ p4 ∧ p5 ∧ a ∧ r) : a := h.2.2.2.2.2.2.1
theorem cj7 {p0 p1 p2 p3 p4 p5 p6 a r : Prop} (h : p0 ∧ p1 ∧ p2 ∧ p3 ∧ p4 ∧ p5 ∧ p6 ∧ a ∧ r) : a := h.2.2.2.2.2.2.2.1
theorem cj8 {p0 p1 p2 p3 p4 p5 p6 p7 a r : Prop} (h : p0 ∧ p1 ∧ p2 ∧ p3 ∧ p4 ∧ p5 ∧ p6 ∧ p7 ∧ a ∧ r) : a := h.2.2.2.2.2.2.2.2.1
theorem cj9 {p0 p1 p2 p3 p4 p5 p6 p7 p8 a r : Prop} (h : p0 ∧ p1 ∧ p2 ∧ p3 ∧ p4 ∧ p5 ∧ p6 ∧ p7 ∧ p8 ∧ a ∧ r) : a := h.2.2.2.2.2.2.2.2.2.1
theorem cj10 {p0 p1 p2 p3 p4 p5 p6 p7 p8 p9 a r : Prop} (h : p0 ∧ p1 ∧ p2 ∧ p3 ∧ p4 ∧ p5 ∧ p6 ∧ p7 ∧ p8 ∧ p9 ∧ a ∧ r) : a := h.2.2.2.2.2.2.2.2.2.2.1
theorem cj11 {p0 p1 p2 p3 p4 p5 p6 p7 p8 p9 p10 a r : Prop} (h : p0 ∧ p1 ∧ p2 ∧ p3 ∧ p4 ∧ p5 ∧ p6 ∧ p7 ∧ p8 ∧ p9 ∧ p10 ∧ a ∧ r) : a := h.2.2.2.2.2.2.2.2.2.2.2.1
theorem cj12 {p0 p1 p2 p3 p4 p5 p6 p7 p8 p9 p10 p11 a r : Prop} (h : p0 ∧ p1 ∧ p2 ∧ p3 ∧ p4 ∧ p5 ∧ p6 ∧ p7 ∧ p8 ∧ p9 ∧ p10 ∧ p11 ∧ a ∧ r) : a := h.2.2.2.2.2.2.2.2.2.2.2.2.1
theorem cl1 {p0 a : Prop} (h : p0 ∧ a) : a := h.2
theorem cl2 {p0 p1 a : Prop} (h : p0 ∧ p1 ∧ a) : a := h.2.2
theorem cl3 {p0 p1 p2 a : Prop} (h : p0 ∧ p1 ∧ p2 ∧ a) : a := h.2.2.2
theorem cl4 {p0 p1 p2 p3 a : Prop} (h : p0 ∧ p1 ∧ p2 ∧ p3 ∧ a) : a := h.2.2.2.2
theorem cl5 {p0 p1 p2 p3 p4 a : Prop} (h : p0 ∧ p1 ∧ p2 ∧ p3 ∧ p4 ∧ a) : a := h.2.2.2.2.2
theorem cl6 {p0 p1 p2 p3 p4 p5 a : Prop} (h : p0 ∧ p1 ∧ p2 ∧ p3 ∧ p4 ∧ p5 ∧ a) : a := h.2.2.2.2.2.2
theorem cl7 {p0 p1 p2 p3 p4 p5 p6 a : Prop} (h : p0 ∧ p1 ∧ p2 ∧ p3 ∧ p4 ∧ p5 ∧ p6 ∧ a) : a := h.2.2.2.2.2.2.2
theorem cl8 {p0 p1 p2 p3 p4 p5 p6 p7 a : Prop} (h : p0 ∧ p1 ∧ p2 ∧ p3 ∧ p4 ∧ p5 ∧ p6 ∧ p7 ∧ a) : a := h.2.2.2.2.2.2.2.2
theorem cl9 {p0 p1 p2 p3 p4 p5 p6 p7 p8 a : Prop} (h : p0 ∧ p1 ∧ p2 ∧ p3 ∧ p4 ∧ p5 ∧ p6 ∧ p7 ∧ p8 ∧ a) : a := h.2.2.2.2.2.2.2.2.2
theorem cl10 {p0 p1 p2 p3 p4 p5 p6 p7 p8 p9 a : Prop} (h : p0 ∧ p1 ∧ p2 ∧ p3 ∧ p4 ∧ p5 ∧ p6 ∧ p7 ∧ p8 ∧ p9 ∧ a) : a := h.2.2.2.2.2.2.2.2.2.2
theorem cl11 {p0 p1 p2 p3 p4 p5 p6 p7 p8 p9 p10 a : Prop} (h : p0 ∧ p1 ∧ p2 ∧ p3 ∧ p4 ∧ p5 ∧ p6 ∧ p7 ∧ p8 ∧ p9 ∧ p10 ∧ a) : a := h.2.2.2.2.2.2.2.2.2.2.2
theorem cl12 {p0 p1 p2 p3 p4 p5 p6 p7 p8 p9 p10 p11 a : Prop} (h : p0 ∧ p1 ∧ p2 ∧ p3 ∧ p4 ∧ p5 ∧ p6 ∧ p7 ∧ p8 ∧ p9 ∧ p10 ∧ p11 ∧ a) : a := h.2.2.2.2.2.2.2.2.2.2.2.2
theorem abs_tk {M : Model} {A : Around} {α : Type} {act : Sem α} {Q : α → Shared → Prop} {E : Value → Shared → Prop} {h : Heap} {g d t o} (H : ∀ k, wpAny M A act Q E ⟨h, g, d, k, o⟩) : wpAny M A act Q E ⟨h, g, d, t, o⟩ := H t
theorem rm1 {d a R : Nat} (h : d + a < R) : d < R := Nat.lt_of_le_of_lt (Nat.le_add_right d a) h
theorem rm2 {d a b R : Nat} (h : d + a < R) (k : b ≤ a) : d + b < R := Nat.lt_of_le_of_lt (Nat.add_le_add_left k d) h
theorem rm3 {d a b c R : Nat} (h : d + a < R) (k : b + c ≤ a) : d + b + c < R := Nat.lt_of_le_of_lt (by rw [Nat.add_assoc]; exact Nat.add_le_add_left k d) h
theorem ih1 {n : Nat} (h : n < 2) : (n : Int) < 2 ^ 1920 := Int.lt_of_lt_of_le (Int.ofNat_lt.mpr h) (by decide +kernel)
theorem ih2 (n : Nat) : -2 ^ 1920 < (n : Int) := Int.lt_of_lt_of_le (by decide +kernel : (-2 ^ 1920 : Int) < 0) (Int.natCast_nonneg n)
theorem rm4 {d f R c a b : Nat} (h : d + c * (f + a) < R) (k : b ≤ c * a) : d + b < R := Nat.lt_of_le_of_lt (Nat.add_le_add_left (Nat.le_trans k (Nat.mul_le_mul_left c (Nat.le_add_left a f))) d) h
theorem rm5 {d f R c a b e : Nat} (h : d + c * (f + a) < R) (k : e + b ≤ c * a) : d + e + b < R := by rw [Nat.add_assoc]; exact rm4 h k
theorem rm6 {d f R c a b e : Nat} (h : d + c * (f + a) < R) (k : e + c * b ≤ c * a) : d + e + c * (f + b) < R := by
  refine Nat.lt_of_le_of_lt ?_ h
  rw [Nat.mul_add, Nat.mul_add]; omega
theorem rm7 {d f R a b e : Nat} (h : d + (f + a) < R) (k : e + b ≤ a) : d + e + (f + b) < R := by omega
theorem rm8 {d f R a b e : Nat} (h : d + (f + a) < R) (k : e + b ≤ a) : d + e + b < R := by omega
theorem rm9 {d f R a b : Nat} (h : d + (f + a) < R) (k : b ≤ a) : d + b < R := by omega
theorem three_of : ∀ {n : Nat}, n ≤ 2 → n = 0 ∨ n = 1 ∨ n = 2
  | 0, _ => .inl rfl
  | 1, _ => .inr (.inl rfl)
  | 2, _ => .inr (.inr rfl)
  | _ + 3, h => absurd h (by simp)
theorem three_lt : ∀ {n : Nat}, n < 3 → n = 0 ∨ n = 1 ∨ n = 2 := fun h => three_of (Nat.le_of_lt_succ h)
theorem two_lt : ∀ {n : Nat}, n < 2 → n = 0 ∨ n = 1
  | 0, _ => .inl rfl
  | 1, _ => .inr rfl
  | _ + 2, h => absurd h (by simp)
theorem lt_of8 {k : Int} {n : Nat} (h : k < 0 + (((8 : Int) - 0).toNat : Int)) (hn : n = 8) : k < (n : Int) := by subst hn; exact h
theorem le_of {a b c : Nat} (h : a ≤ b) (k : b ≤ c) : a ≤ c := Nat.le_trans h k
theorem le_of2 {a b c : Nat} (h : a = b) (k : b ≤ c) : a ≤ c := h ▸ k
theorem le_of3 {a b c d : Nat} (h : a ≤ b) (k : b + d ≤ c) : a + d ≤ c := Nat.le_trans (Nat.add_le_add_right h d) k
theorem le_of4 {a b c d e : Nat} (h : a ≤ b) (k : b + d + e ≤ c) : a + d + e ≤ c := Nat.le_trans (Nat.add_le_add_right (Nat.add_le_add_right h d) e) k
noncomputable abbrev Led := List (Addr × Obj)
noncomputable abbrev looseX : List Str := (looseW hd.view_39
            [Str.ofString "_twin_re_1", Str.ofString "_indent", Str.ofString "IPV4_RE",
              Str.ofString "NetrcParseError"] ++
          List.map (fun x => x.name) (recsOf hd.view_39) ++
        List.map (fun x => x.fst) (litsOf hd.view_39) ++
      List.map (fun x => x.name)
        (clssOf hd.view_39
          (looseW hd.view_39
            [Str.ofString "_twin_re_1", Str.ofString "_indent", Str.ofString "IPV4_RE",
              Str.ofString "NetrcParseError"])))
noncomputable def Con (w : World) (f : Addr) (need : Nat) (vs : List Value) (news : Led) (Ret : Value → Led → Prop) : Prop :=
  ∀ (dp un : Nat) (gd : Option (List Code)) (cn : Str) (cs : Scope) (a : Addr) (ccd : Value) (cl : List (Str × Addr)) (outer : List Env)
    (A₀ : Around) (base h₀ : Heap) (L : Addr) (m : Str → Option Value) (s : Shared) (Q E : Value → Shared → Prop) (mean : ExcName → Option Value) (mg mb : Str → Option Value),
    Below A₀ base outer h₀ → Fr h₀ L s.heap m → (hd.heap_39 w.params).In h₀ → News h₀ L s.heap news → Top topProg looseX mean mg mb h₀ → cs.kind = .function →
    dp + need < recursionLimit → un + 8 * need < cLine →
    (∀ r news' h' tk', Fr h₀ L h' m → News h₀ L h' news' → Ret r news' → Q r { s with heap := h', toks := tk' }) →
    wpAny (model PySem.Challenge.rw_xe0019_01.row.prog w) (ktrTop dp un gd cn cs L a ccd cl outer) (call (.ref f) vs) Q E s
end
local macro_rules | `(tactic| walk_at $s:str) => `(tactic| k_extra $s)
local macro_rules | `(tactic| walk_at "pyIter ref") => `(tactic| k_extra "mine iter")
local macro_rules | `(tactic| k_mem) => `(tactic| k_extra "mine mem")
local macro_rules | `(tactic| k_all) => `(tactic| k_extra "mine all")
local macro_rules | `(tactic| lcg_off) => `(tactic| k_extra "mine off")
local macro_rules | `(tactic| k_steps) => `(tactic| k_extra "mine steps")
local macro_rules | `(tactic| omega) => `(tactic| k_extra "mine om")
theorem om_reg : True := by
  k_with_none
  k_with "mine lt" => (first | with_reducible assumption | with_reducible exact cj0 (by with_reducible assumption) | with_reducible exact cj1 (by with_reducible assumption) | with_reducible exact cl1 (by with_reducible assumption) | with_reducible exact cj2 (by with_reducible assumption) | with_reducible exact cl2 (by with_reducible assumption) | with_reducible exact cj3 (by with_reducible assumption) | with_reducible exact cl3 (by with_reducible assumption) | with_reducible exact cj4 (by with_reducible assumption) | with_reducible exact cl4 (by with_reducible assumption) | with_reducible exact cj5 (by with_reducible assumption) | with_reducible exact cl5 (by with_reducible assumption) | with_reducible exact cj6 (by with_reducible assumption) | with_reducible exact cl6 (by with_reducible assumption) | with_reducible exact cj7 (by with_reducible assumption) | with_reducible exact cl7 (by with_reducible assumption) | with_reducible exact cj8 (by with_reducible assumption) | with_reducible exact cl8 (by with_reducible assumption) | with_reducible exact cj9 (by with_reducible assumption) | with_reducible exact cl9 (by with_reducible assumption) | with_reducible exact cj10 (by with_reducible assumption) | with_reducible exact cl10 (by with_reducible assumption) | with_reducible exact cj11 (by with_reducible assumption) | with_reducible exact cl11 (by with_reducible assumption) | with_reducible exact cj12 (by with_reducible assumption) | with_reducible exact cl12 (by with_reducible assumption))
  k_with "mine om" => (first | with_reducible assumption | decide | with_reducible exact rm1 (by with_reducible assumption) | with_reducible exact rm2 (by with_reducible assumption) (by decide) | with_reducible exact rm3 (by with_reducible assumption) (by decide) | with_reducible exact rm9 (by with_reducible assumption) (by decide) | with_reducible exact rm8 (by with_reducible assumption) (by decide) | with_reducible exact rm7 (by with_reducible assumption) (by decide) | with_reducible exact rm4 (by with_reducible assumption) (by decide) | with_reducible exact rm5 (by with_reducible assumption) (by decide) | with_reducible exact rm6 (by with_reducible assumption) (by decide) | with_reducible exact ih2 _ | with_reducible exact ih1 (by with_reducible assumption) | with_reducible exact three_of (by with_reducible assumption) | with_reducible exact two_lt (by with_reducible assumption) | with_reducible exact three_lt (by with_reducible assumption) | with_reducible exact lt_of8 (by with_reducible assumption) (by decide) | with_reducible exact le_of (by with_reducible assumption) (by decide) | with_reducible exact le_of3 (by with_reducible assumption) (by decide) | with_reducible exact le_of4 (by with_reducible assumption) (by decide) | (with_reducible refine Nat.ne_of_lt ?_; walk_at "mine lt") | (with_reducible refine Nat.ne_of_gt ?_; walk_at "mine lt") | with_reducible exact And.left (by with_reducible assumption) | with_reducible exact And.right (by with_reducible assumption))
  trivial
section
open PySem PySem.W PySem.Calls PyProof.Rows Builtin Builtin.Re
set_option linter.unusedVariables false
set_option linter.unusedSimpArgs false
theorem pa_pat : PlainAttrs "re.Pattern" :=
  ⟨⟨"object.__getattribute__", by rw [typeLookup_type, builtinLookup_eq_fast]; kernel_rfl, by decide +kernel⟩, by rw [typeLookup_type, builtinLookup_eq_fast]; kernel_rfl⟩
theorem slot_search : Slot "re.Pattern" "search" "re.Pattern.search" :=
  .of (owner := "re.Pattern") (n := "search") (by rw [typeLookup_type, builtinLookup_eq_fast]; kernel_rfl) (by decide +kernel) (by decide +kernel) (by decide +kernel)
    (by first | exact .inl (by decide +kernel) | exact .inr (by decide +kernel)) (by rw [isSubtype_type]; kernel_rfl)
theorem type_search : typeOf (.builtin "re.Pattern.search") = pure (.type "method_descriptor") := by show builtinType _ = _; rw [builtinType_eq_fast]; kernel_rfl
theorem entry_search : entryFor table "re.Pattern.search" = some Builtin.«re.Pattern.search» := entryFor_of_tree (by kernel_rfl)
theorem slot_sub : Slot "re.Pattern" "sub" "re.Pattern.sub" :=
  .of (owner := "re.Pattern") (n := "sub") (by rw [typeLookup_type, builtinLookup_eq_fast]; kernel_rfl) (by decide +kernel) (by decide +kernel) (by decide +kernel)
    (by first | exact .inl (by decide +kernel) | exact .inr (by decide +kernel)) (by rw [isSubtype_type]; kernel_rfl)
theorem type_sub : typeOf (.builtin "re.Pattern.sub") = pure (.type "method_descriptor") := by show builtinType _ = _; rw [builtinType_eq_fast]; kernel_rfl
theorem entry_sub : entryFor table "re.Pattern.sub" = some Builtin.«re.Pattern.sub» := entryFor_of_tree (by kernel_rfl)
theorem entry_loop : entryFor table "re.Pattern.sub.loop" = some Builtin.«re.Pattern.sub.loop» := entryFor_of_tree (by kernel_rfl)
theorem args_search (a b : Value) : argsOk "re.Pattern.search" ⟨[a, b], []⟩ := by unfold argsOk; kernel_rfl
theorem args_sub (a b c : Value) : argsOk "re.Pattern.sub" ⟨[a, b, c], []⟩ := by unfold argsOk; kernel_rfl
end
section
open PySem
set_option linter.unusedVariables false
set_option linter.unusedSimpArgs false
open PySem.Sre PySem.Sre.M
noncomputable def C1 : Array Nat := #[14, 8, 1, 2, 4294967295, 1, 1, 46, 0, 16, 46, 24, 9, 1, 4294967295, 13, 4, 8, 0, 0, 1, 6, 5, 1]
noncomputable def C2 : Array Nat := #[14, 4, 0, 0, 0, 6, 1, 5, 5, 0, 6, 6, 1, 1]

theorem runFor_done (n : Nat) (m : M) (h : m.outcome.isSome = true) : runFor n m = m := by
  cases n with
  | zero => rfl
  | succ n => unfold runFor; rw [if_pos h]
theorem runFor_add (a b : Nat) (m : M) : runFor (a + b) m = runFor b (runFor a m) := by
  induction a generalizing m with
  | zero => rw [Nat.zero_add]; rfl
  | succ a ih =>
    by_cases h : m.outcome.isSome = true
    · rw [runFor_done _ m h, runFor_done _ m h, runFor_done _ m h]
    · have e : a + 1 + b = (a + b) + 1 := by omega
      rw [e]
      show (if m.outcome.isSome = true then m else runFor (a + b) m.step) = runFor b (if m.outcome.isSome = true then m else runFor a m.step)
      rw [if_neg h, if_neg h, ih]
theorem runFor_stay {a b : Nat} {m : M} (h : (runFor a m).outcome.isSome = true) (hab : a ≤ b) : runFor b m = runFor a m := by
  obtain ⟨c, rfl⟩ := Nat.exists_eq_add_of_le hab
  rw [runFor_add, runFor_done _ _ h]

noncomputable def st1 (tx : Array Nat) (s : Nat) (b : Bool) (sn : Seen) : M :=
  { code := C1, text := tx, lim := tx.size, start := s, lastStart := tx.size, pc := 9, pos := s, handed := s, outermost := b, marks := #[], lastmark := -1, lastindex := -1, frames := [{ wait := .nextStart, pc := 9, pos := s, outermost := b }], weight := 1, seen := sn }


theorem runFor_one {k : Nat} {m m' : M} (h : m.outcome.isSome = false) (e : m.step = m') : runFor (k + 1) m = runFor k m' := by
  show (if m.outcome.isSome = true then m else runFor k m.step) = _
  rw [h, e]; rfl

noncomputable def st1r (tx : Array Nat) (s : Nat) (b : Bool) (pc pos : Nat) (sn : Seen) : M := { st1 tx s b sn with pc := pc, pos := pos, answer := some false }

theorem st1_back {tx : Array Nat} {s : Nat} {b : Bool} {sn : Seen} {pc pos : Nat} (h : s < tx.size) : (st1r tx s b pc pos sn).step = st1 tx (s + 1) false sn := by
  show (if s < tx.size then _ else _) = _
  rw [if_pos h]
  rfl

theorem st1_ne {tx : Array Nat} {s : Nat} {b : Bool} {sn : Seen} (h : s < tx.size) (hc : tx.getD s 0 ≠ 46) : ∃ sn', runFor 2 (st1 tx s b sn) = st1 tx (s + 1) false sn' := by
  have e1 : (st1 tx s b sn).step = st1r tx s b 9 s (sn.add 16) := by
    have hc' : (tx.getD s 0 == 46) = false := by simpa using hc
    show (if ((st1 tx s b sn).pos ≥ tx.size) then _ else _) = _
    rw [if_neg (by show ¬ s ≥ tx.size; omega)]
    have : accepts C1 9 (tx.getD s 0) (sn.add 16) = .ok (false, sn.add 16) := by
      show Except.ok ((tx.getD s 0 == 46), _) = _
      rw [hc']
    show (match accepts C1 9 (tx.getD s 0) (sn.add 16) with | .error why => _ | .ok (false, seen) => _ | .ok (true, seen) => _) = _
    rw [this]
    rfl
  exact ⟨sn.add 16, (runFor_one rfl e1).trans ((runFor_one rfl (st1_back h)).trans rfl)⟩

theorem st1_end {tx : Array Nat} {b : Bool} {sn : Seen} : ∃ m, runFor 3 (st1 tx tx.size b sn) = m ∧ m.outcome = some .failed := by
  have e1 : (st1 tx tx.size b sn).step = st1r tx tx.size b 9 tx.size (sn.add 16) := by
    show (if ((st1 tx tx.size b sn).pos ≥ tx.size) then _ else _) = _
    rw [if_pos (by show tx.size ≥ tx.size; omega)]
    rfl
  have e2 : (st1r tx tx.size b 9 tx.size (sn.add 16)).step = { st1 tx tx.size b (sn.add 16) with answer := some false, frames := [], weight := 0 } := by
    show (if tx.size < tx.size then _ else _) = _
    rw [if_neg (Nat.lt_irrefl _)]
    rfl
  exact ⟨_, (runFor_one rfl e1).trans ((runFor_one rfl e2).trans (runFor_one rfl rfl)), rfl⟩

theorem run_zero {tx : Array Nat} {n p : Nat} {sn : Seen} (hd : isDigit (tx.getD p 0) = false) : ∃ sn', Sre.run C1 tx 15 (n + 1) p 0 sn = .ok (0, sn') := by
  have : ∃ sn', accepts C1 15 (tx.getD p 0) sn = .ok (false, sn') := by
    have hcat : category 0 (tx.getD p 0) = .ok false := by
      show Except.ok (isDigit (tx.getD p 0) != (0 % 2 == 1)) = _
      rw [hd]; rfl
    refine ⟨((sn.add 8).add (55 + 0)).add 0, ?_⟩
    show ((category 0 (tx.getD p 0)) >>= fun b => if b = true then pure (true, (sn.add 8).add (55 + 0)) else inSet C1 (tx.getD p 0) 23 19 true ((sn.add 8).add (55 + 0))) = _
    rw [hcat]
    rfl
  obtain ⟨sn', e⟩ := this
  refine ⟨sn', ?_⟩
  show (accepts C1 15 (tx.getD p 0) sn >>= fun x => match x with | (yes, seen) => if yes = true then Sre.run C1 tx 15 n (p + 1) (0 + 1) seen else pure (0, seen)) = _
  rw [e]
  rfl

theorem st1_dot {tx : Array Nat} {s : Nat} {b : Bool} {sn : Seen} (h : s < tx.size) (hc : tx.getD s 0 = 46) (hd : isDigit (tx.getD (s + 1) 0) = false) : ∃ sn', runFor 3 (st1 tx s b sn) = st1 tx (s + 1) false sn' := by
  have e1 : (st1 tx s b sn).step = { st1 tx s b (sn.add 16) with pc := 11, pos := s + 1 } := by
    have hc' : (tx.getD s 0 == 46) = true := by simpa using hc
    show (if ((st1 tx s b sn).pos ≥ tx.size) then _ else _) = _
    rw [if_neg (by show ¬ s ≥ tx.size; omega)]
    have : accepts C1 9 (tx.getD s 0) (sn.add 16) = .ok (true, sn.add 16) := by
      show Except.ok ((tx.getD s 0 == 46), _) = _
      rw [hc']
    show (match accepts C1 9 (tx.getD s 0) (sn.add 16) with | .error why => _ | .ok (false, seen) => _ | .ok (true, seen) => _) = _
    rw [this]
    rfl
  have e2 : ∃ pos sn', ({ st1 tx s b (sn.add 16) with pc := 11, pos := s + 1 } : M).step = st1r tx s b 11 pos sn' := by
    by_cases hr : ((1 : Nat) : Int) > (tx.size : Int) - ((s + 1 : Nat) : Int)
    · refine ⟨s + 1, (sn.add 16).add 24, ?_⟩
      show (if ((1 : Nat) : Int) > (tx.size : Int) - ((s + 1 : Nat) : Int) then _ else _) = _
      rw [if_pos hr]
      rfl
    · obtain ⟨n, hn⟩ : ∃ n, min 4294967295 ((tx.size : Int) - ((s + 1 : Nat) : Int)).toNat = n + 1 := ⟨min 4294967295 ((tx.size : Int) - ((s + 1 : Nat) : Int)).toNat - 1, by omega⟩
      obtain ⟨sn', e⟩ := run_zero (tx := tx) (n := n) (p := s + 1) (sn := ((sn.add 16).add 24).add 13) hd
      refine ⟨s + 1, sn', ?_⟩
      show (if ((1 : Nat) : Int) > (tx.size : Int) - ((s + 1 : Nat) : Int) then _ else _) = _
      rw [if_neg hr]
      show (match Sre.run C1 tx 15 (min 4294967295 ((tx.size : Int) - ((s + 1 : Nat) : Int)).toNat) (s + 1) 0 (((sn.add 16).add 24).add 13) with | .error why => _ | .ok (n, seen) => _) = _
      rw [hn, e]
      rfl
  obtain ⟨pos, sn', e2⟩ := e2
  exact ⟨sn', (runFor_one rfl e1).trans ((runFor_one rfl e2).trans ((runFor_one rfl (st1_back h)).trans rfl))⟩

theorem st1_all {tx : Array Nat} (hd : ∀ i, isDigit (tx.getD i 0) = false) : ∀ (n s : Nat) (b : Bool) (sn : Seen), s + n = tx.size → ∃ k, k ≤ 3 * n + 3 ∧ (runFor k (st1 tx s b sn)).outcome = some .failed := by
  intro n
  induction n with
  | zero =>
    intro s b sn h
    have : s = tx.size := by omega
    subst this
    obtain ⟨m, e, h⟩ := st1_end (tx := tx) (b := b) (sn := sn)
    exact ⟨3, by omega, by rw [e]; exact h⟩
  | succ n ih =>
    intro s b sn h
    have hs : s < tx.size := by omega
    by_cases hc : tx.getD s 0 = 46
    · obtain ⟨sn', e⟩ := st1_dot (b := b) (sn := sn) hs hc (hd _)
      obtain ⟨k, hk, e2⟩ := ih (s + 1) false sn' (by omega)
      exact ⟨3 + k, by omega, by rw [runFor_add, e]; exact e2⟩
    · obtain ⟨sn', e⟩ := st1_ne (b := b) (sn := sn) hs hc
      obtain ⟨k, hk, e2⟩ := ih (s + 1) false sn' (by omega)
      exact ⟨2 + k, by omega, by rw [runFor_add, e]; exact e2⟩

theorem search_fails {tx : Array Nat} (hd : ∀ i, isDigit (tx.getD i 0) = false) (h2 : 2 ≤ tx.size) : ∃ k, k ≤ 3 * tx.size + 3 ∧ (runFor k (forSearch C1 tx 0 0 tx.size false)).outcome = some .failed := by
  obtain ⟨k, hk, e⟩ := st1_all hd tx.size 0 true (({} : Seen).add 14) (by omega)
  refine ⟨k, hk, ?_⟩
  have : forSearch C1 tx 0 0 tx.size false = st1 tx 0 true (({} : Seen).add 14) := by
    show (if (decide (0 > tx.size) || decide (tx.size - 0 < 2)) = true then _ else _) = _
    rw [if_neg (by simp; omega)]
    rfl
  rw [this]; exact e

noncomputable def st2 (tx : Array Nat) (s : Nat) (b mu : Bool) (sn : Seen) : M :=
  { code := C2, text := tx, lim := tx.size, start := s, lastStart := tx.size, pc := 5, pos := s, handed := s, outermost := b, mustAdvance := mu, marks := #[], lastmark := -1, lastindex := -1, frames := [{ wait := .nextStart, pc := 5, pos := s, outermost := b }], weight := 1, seen := sn }
noncomputable def st2r (tx : Array Nat) (s : Nat) (b mu : Bool) (pc pos hd : Nat) (ob : Bool) (sn : Seen) : M := { st2 tx s b mu sn with pc := pc, pos := pos, handed := hd, outermost := ob, answer := some false }

theorem st2_back {tx : Array Nat} {s : Nat} {b mu ob : Bool} {sn : Seen} {pc pos hd : Nat} (h : s < tx.size) : (st2r tx s b mu pc pos hd ob sn).step = st2 tx (s + 1) false false sn := by
  show (if s < tx.size then _ else _) = _
  rw [if_pos h]
  rfl
theorem st2_stop {tx : Array Nat} {s : Nat} {b mu ob : Bool} {sn : Seen} {pc pos hd : Nat} (h : ¬ s < tx.size) : (runFor 2 (st2r tx s b mu pc pos hd ob sn)).outcome = some .failed := by
  have e2 : (st2r tx s b mu pc pos hd ob sn).step = { st2 tx s b mu sn with handed := hd, answer := some false, frames := [], weight := 0 } := by
    show (if s < tx.size then _ else _) = _
    rw [if_neg h]
    rfl
  rw [runFor_one rfl e2]
  rfl

noncomputable def atBol (tx : Array Nat) (s : Nat) : Bool := s == 0 || tx.getD (s - 1) 0 == 10
noncomputable def atEol (tx : Array Nat) (s : Nat) : Bool := s == tx.size || tx.getD s 0 == 10
noncomputable def okAt (tx : Array Nat) (s : Nat) : Bool := atBol tx s && !atEol tx s

noncomputable def st2a (tx : Array Nat) (s : Nat) (b mu : Bool) (sn : Seen) : M := { st2 tx s b mu sn with pc := 7 }
noncomputable def st2b (tx : Array Nat) (s : Nat) (b mu : Bool) (pc : Nat) (sn : Seen) : M :=
  { st2 tx s b mu sn with pc := pc, outermost := false, frames := [{ wait := .lookNot, pc := 7, pos := s, outermost := b }, { wait := .nextStart, pc := 5, pos := s, outermost := b }], weight := 2 }

theorem st2_at_no {tx : Array Nat} {s : Nat} {b mu : Bool} {sn : Seen} (h : atBol tx s = false) : (st2 tx s b mu sn).step = st2r tx s b mu 5 s s b ((sn.add 6).add (43 + 1)) := by
  show (if atBol tx s = true then _ else _) = _
  rw [if_neg (by rw [h]; decide)]
  rfl
theorem st2_at_yes {tx : Array Nat} {s : Nat} {b mu : Bool} {sn : Seen} (h : atBol tx s = true) : (st2 tx s b mu sn).step = st2a tx s b mu ((sn.add 6).add (43 + 1)) := by
  show (if atBol tx s = true then _ else _) = _
  rw [if_pos h]
  rfl
theorem st2a_step {tx : Array Nat} {s : Nat} {b mu : Bool} {sn : Seen} : (st2a tx s b mu sn).step = st2b tx s b mu 10 (sn.add 5) := by
  rfl
theorem st2b_yes {tx : Array Nat} {s : Nat} {b mu : Bool} {sn : Seen} (h : atEol tx s = true) : (st2b tx s b mu 10 sn).step = st2b tx s b mu 12 ((sn.add 6).add (43 + 6)) := by
  show (if atEol tx s = true then _ else _) = _
  rw [if_pos h]
  rfl
theorem st2b_no {tx : Array Nat} {s : Nat} {b mu : Bool} {sn : Seen} (h : atEol tx s = false) : (st2b tx s b mu 10 sn).step = { st2b tx s b mu 10 ((sn.add 6).add (43 + 6)) with answer := some false } := by
  show (if atEol tx s = true then _ else _) = _
  rw [if_neg (by rw [h]; decide)]
  rfl

theorem st2_skip {tx : Array Nat} {s : Nat} {b mu : Bool} {sn : Seen} (hok : okAt tx s = false ∨ (b = true ∧ mu = true)) :
    ∃ k pc pos hd ob sn', k ≤ 5 ∧ runFor k (st2 tx s b mu sn) = st2r tx s b mu pc pos hd ob sn' := by
  cases h1 : atBol tx s with
  | false => exact ⟨1, _, _, _, _, _, by omega, (runFor_one rfl (st2_at_no h1)).trans rfl⟩
  | true =>
    cases h2 : atEol tx s with
    | true =>
      refine ⟨5, 7, s, s, b, ((((((sn.add 6).add (43 + 1)).add 5).add 6).add (43 + 6))).add 1, by omega, ?_⟩
      refine (runFor_one (k := 4) rfl (st2_at_yes h1)).trans ((runFor_one (k := 3) rfl st2a_step).trans ((runFor_one (k := 2) rfl (st2b_yes h2)).trans ?_))
      rfl
    | false =>
      rcases hok with h | ⟨rfl, rfl⟩
      · exfalso; simp [okAt, h1, h2] at h
      · refine ⟨5, 13, s, s, true, ((((((sn.add 6).add (43 + 1)).add 5).add 6).add (43 + 6))).add 1, by omega, ?_⟩
        refine (runFor_one (k := 4) rfl (st2_at_yes h1)).trans ((runFor_one (k := 3) rfl st2a_step).trans ((runFor_one (k := 2) rfl (st2b_no h2)).trans ?_))
        have e4 : ∀ sn, ({ st2b tx s true true 10 sn with answer := some false } : M).step = { st2 tx s true true sn with pc := 13 } := fun sn => rfl
        refine (runFor_one (k := 1) rfl (e4 _)).trans ?_
        have e5 : ∀ sn, ({ st2 tx s true true sn with pc := 13 } : M).step = st2r tx s true true 13 s s true (sn.add 1) := by
          intro sn
          show (if (true && (((false && (s != tx.size)) || (true && (s == s))))) = true then _ else _) = _
          rw [if_pos (by simp)]
          rfl
        exact (runFor_one (k := 0) rfl (e5 _))

theorem st2_hit {tx : Array Nat} {s : Nat} {b mu : Bool} {sn : Seen} (hok : okAt tx s = true) (hm : b = false ∨ mu = false) :
    ∃ m, runFor 7 (st2 tx s b mu sn) = m ∧ m.outcome = some .matched ∧ m.start = s ∧ m.handed = s := by
  have h1 : atBol tx s = true := by simp [okAt] at hok; exact hok.1
  have h2 : atEol tx s = false := by simp [okAt] at hok; exact hok.2
  have e : ∀ k, runFor (k + 5) (st2 tx s b mu sn) = runFor k { st2 tx s b mu (((((((sn.add 6).add (43 + 1)).add 5).add 6).add (43 + 6))).add 1) with pc := 13, answer := some true } := by
    intro k
    refine ((runFor_one (k := k + 4) rfl (st2_at_yes h1)).trans ((runFor_one (k := k + 3) rfl st2a_step).trans ((runFor_one (k := k + 2) rfl (st2b_no h2)).trans ?_)))
    have e4 : ∀ sn, ({ st2b tx s b mu 10 sn with answer := some false } : M).step = { st2 tx s b mu sn with pc := 13 } := fun sn => rfl
    refine (runFor_one (k := k + 1) rfl (e4 _)).trans ?_
    have e5 : ∀ sn, ({ st2 tx s b mu sn with pc := 13 } : M).step = { st2 tx s b mu (sn.add 1) with pc := 13, answer := some true } := by
      intro sn
      show (if (b && (((false && (s != tx.size)) || (mu && (s == s))))) = true then _ else _) = _
      rw [if_neg (by rcases hm with rfl | rfl <;> simp)]
      rfl
    exact (runFor_one (k := k) rfl (e5 _))
  exact ⟨_, e 2, rfl, rfl, rfl⟩

theorem st2_none {tx : Array Nat} : ∀ (n s : Nat) (b mu : Bool) (sn : Seen), s + n = tx.size → (∀ i, s ≤ i → okAt tx i = true → i = s ∧ b = true ∧ mu = true) →
    ∃ k, k ≤ 6 * n + 7 ∧ (runFor k (st2 tx s b mu sn)).outcome = some .failed := by
  intro n
  induction n with
  | zero =>
    intro s b mu sn h hn
    have hk : okAt tx s = false := by
      have : atEol tx s = true := by simp [atEol]; left; omega
      simp [okAt, this]
    obtain ⟨k, pc, pos, hd, ob, sn', hk, e⟩ := st2_skip (b := b) (mu := mu) (sn := sn) (.inl hk)
    exact ⟨k + 2, by omega, by rw [runFor_add, e]; exact st2_stop (by omega)⟩
  | succ n ih =>
    intro s b mu sn h hn
    have hs : s < tx.size := by omega
    have hok : okAt tx s = false ∨ (b = true ∧ mu = true) := by
      cases q : okAt tx s with
      | false => exact .inl rfl
      | true => exact .inr (hn s (Nat.le_refl _) q).2
    obtain ⟨k, pc, pos, hd, ob, sn', hk, e⟩ := st2_skip (sn := sn) hok
    obtain ⟨k2, hk2, e2⟩ := ih (s + 1) false false sn' (by omega) (fun i hi q => by have := (hn i (by omega) q).1; omega)
    refine ⟨k + (1 + k2), by omega, ?_⟩
    rw [runFor_add, e, runFor_add, runFor_one (k := 0) rfl (st2_back hs)]
    exact e2

theorem st2_some {tx : Array Nat} {g : Nat} (hg : okAt tx g = true) : ∀ (n s : Nat) (b mu : Bool) (sn : Seen), s + n = g → (∀ i, s ≤ i → i < g → okAt tx i = true → i = s ∧ b = true ∧ mu = true) → (s = g → b = false ∨ mu = false) →
    ∃ k, k ≤ 6 * n + 7 ∧ (runFor k (st2 tx s b mu sn)).outcome = some .matched ∧ (runFor k (st2 tx s b mu sn)).start = g ∧ (runFor k (st2 tx s b mu sn)).handed = g := by
  have hgl : g < tx.size := by
    have h2 : atEol tx g = false := by simp [okAt] at hg; exact hg.2
    simp [atEol] at h2
    rcases Nat.lt_trichotomy g tx.size with h | h | h
    · exact h
    · exact absurd h h2.1
    · exfalso
      have h1 : atBol tx g = true := by simp [okAt] at hg; exact hg.1
      simp [atBol] at h1
      rcases h1 with h1 | h1
      · omega
      · rw [Array.getElem?_eq_none (by omega)] at h1
        simp at h1
  intro n
  induction n with
  | zero =>
    intro s b mu sn h hn hm
    have : s = g := by omega
    subst this
    obtain ⟨m, e, h1, h2, h3⟩ := st2_hit (sn := sn) hg (hm rfl)
    exact ⟨7, by omega, by rw [e]; exact ⟨h1, h2, h3⟩⟩
  | succ n ih =>
    intro s b mu sn h hn hm
    have hs : s < tx.size := by omega
    have hok : okAt tx s = false ∨ (b = true ∧ mu = true) := by
      cases q : okAt tx s with
      | false => exact .inl rfl
      | true => exact .inr (hn s (Nat.le_refl _) (by omega) q).2
    obtain ⟨k, pc, pos, hd, ob, sn', hk, e⟩ := st2_skip (sn := sn) hok
    obtain ⟨k2, hk2, e2⟩ := ih (s + 1) false false sn' (by omega) (fun i hi hi2 q => by have := (hn i (by omega) hi2 q).1; omega) (fun _ => .inl rfl)
    refine ⟨k + (1 + k2), by omega, ?_⟩
    rw [runFor_add, e, runFor_add, runFor_one (k := 0) rfl (st2_back hs)]
    exact e2

theorem for2 {tx : Array Nat} {p : Nat} {mu : Bool} (h : p ≤ tx.size) : forSearch C2 tx 0 p tx.size mu = st2 tx p true mu (({} : Seen).add 14) := by
  show (if (decide (p > tx.size) || decide (tx.size - p < 0)) = true then _ else _) = _
  rw [if_neg (by simp; omega)]
  rfl
end
section
open PySem PySem.W PySem.Calls PyProof.Rows Builtin Builtin.Re
set_option linter.unusedVariables false
set_option linter.unusedSimpArgs false
section
variable {prog : Program} {w : World} {A : Around} {E : Value → Shared → Prop} {s : Shared}
theorem wp_drive {M : Model} {Q : Sre.M → Shared → Prop} : ∀ (n k : Nat) (m : Sre.M), k + 1 ≤ 4 * n → (Sre.M.runFor k m).outcome.isSome = true → Q (Sre.M.runFor k m) s → wpAny M A (reDrive n m) Q E s := by
  intro n
  induction n with
  | zero => intro k m h; omega
  | succ n ih =>
    intro k m h hs hq
    unfold reDrive
    show wpAny M A (if (Sre.M.runFor 4 m).outcome.isSome = true then pure (Sre.M.runFor 4 m) else (rule "sre.turn" >>= fun _ => reDrive n (Sre.M.runFor 4 m))) Q E s
    by_cases h4 : (Sre.M.runFor 4 m).outcome.isSome = true
    · rw [if_pos h4]
      refine wpAny_pure ?_
      rcases Nat.le_total k 4 with hk | hk
      · rw [runFor_stay hs hk]; exact hq
      · rw [← runFor_stay h4 hk]; exact hq
    · rw [if_neg h4]
      have hk : 4 ≤ k := by
        rcases Nat.le_total 4 k with hk | hk
        · exact hk
        · exact absurd (by rw [runFor_stay hs hk]; exact hs) h4
      obtain ⟨j, rfl⟩ := Nat.exists_eq_add_of_le hk
      rw [runFor_add] at hs hq
      exact wpAny_bind (wpAny_rule (ih j _ (by omega) hs hq))

theorem wp_rules {M : Model} {c : Nat → Bool} {g : Nat → String} {Q : PUnit → Shared → Prop} (hq : Q ⟨⟩ s) : ∀ l : List Nat, wpAny M A (forIn l PUnit.unit fun i (_ : PUnit) => (if c i = true then rule (g i) >>= fun _ => pure (ForInStep.yield PUnit.unit) else pure (ForInStep.yield PUnit.unit))) Q E s := by
  intro l
  induction l with
  | nil => exact wpAny_pure hq
  | cons i l ih =>
    rw [List.forIn_cons]
    refine wpAny_bind ?_
    split
    · exact wpAny_bind (wpAny_rule (wpAny_pure ih))
    · exact wpAny_pure ih

theorem wp_toEnd {M : Model} {Q : Option Sre.M → Shared → Prop} {k : Nat} {m : Sre.M} (hk : k ≤ 1000000000) (h : (Sre.M.runFor k m).outcome = some .failed ∧ Q none s ∨ (Sre.M.runFor k m).outcome = some .matched ∧ Q (some (Sre.M.runFor k m)) s) : wpAny M A (reRunToEnd m) Q E s := by
  unfold reRunToEnd
  have hs : (Sre.M.runFor k m).outcome.isSome = true := by rcases h with h | h <;> rw [h.1] <;> rfl
  refine wpAny_bind (wp_drive _ k _ (by have : 4 * 2 ^ 64 = 73786976294838206464 := by decide
                                        omega) hs ?_)
  refine wpAny_bind ?_
  refine wp_rules ?_ _
  rcases h with ⟨h, hq⟩ | ⟨h, hq⟩
  · rw [h]; exact wpAny_pure hq
  · rw [h]; exact wpAny_pure hq
end
end
section
open PySem PySem.W PySem.Calls PyProof.Rows Builtin Builtin.Re
set_option linter.unusedVariables false
set_option linter.unusedSimpArgs false
noncomputable def PatAt (h : Heap) (p : Addr) (code : Array Nat) : Prop :=
  ∃ (v0 v1 : Value) (u2 u6 : Tok) (c : Addr) (sl sl' : Array (Option Value)) (cvs : Array Value) (n : Nat) (d : Option Addr),
    h.get? p = some ⟨.type "re.Pattern", none, .fields #[v0, v1, .int 0 u2, .none, .none, .ref c, .int 0 u6], sl⟩ ∧
    h.get? c = some ⟨.type "tuple", d, .seq cvs n, sl'⟩ ∧ (cvs.map reRawOf).map (·.toNat) = code
section
variable {prog : Program} {w : World} {A : Around} {E : Value → Shared → Prop} {s : Shared}
theorem named3 (id f : String) (v : Value) : reNamed id f ["string", "pos", "endpos"] 1 [v] [] = pure [some v, none, none] := rfl
theorem named_sub (id f : String) (v u : Value) : reNamed id f ["repl", "string", "count"] 2 [v, u] [] = pure [some v, some u, none] := rfl
theorem wp_fields {M : Model} {p : Addr} {cls : Value} {d : Option Addr} {vs : Array Value} {sl : Array (Option Value)} {Q : Array Value → Shared → Prop} (h : s.heap.get? p = some ⟨cls, d, .fields vs, sl⟩) (hq : Q vs s) : wpAny M A (fieldsOf (.ref p)) Q E s := by
  unfold fieldsOf
  exact wpAny_bind (wpAny_load h (wpAny_pure hq))
theorem wp_rawItems {M : Model} {c : Addr} {cls : Value} {d : Option Addr} {vs : Array Value} {n : Nat} {sl : Array (Option Value)} {Q : Array Int → Shared → Prop} (h : s.heap.get? c = some ⟨cls, d, .seq vs n, sl⟩) (hq : Q (vs.map reRawOf) s) : wpAny M A (reRawItems (.ref c)) Q E s := by
  unfold reRawItems seqItems?
  exact wpAny_bind (wpAny_bind (wpAny_load h (wpAny_pure (wpAny_pure hq))))
theorem wp_text {M : Model} {x : Str} {t : Tok} {Q : Array Nat × Nat → Shared → Prop} (hq : Q (x.cps, 0) s) : wpAny M A (reTextOf (.str x t)) Q E s := by
  unfold reTextOf asStr?
  exact wpAny_bind (wpAny_pure (wpAny_pure hq))
theorem wp_target {M : Model} {p : Addr} {code : Array Nat} {x : Str} {t : Tok} {Q : ReTarget → Shared → Prop} (hp : PatAt s.heap p code) (hx : x.cps.size ≤ 1000000)
    (hq : Q { pattern := .ref p, string := .str x t, code := code, text := x.cps, kind := 0, groups := 0, pos := 0, lim := x.cps.size } s) :
    wpAny M A (reTarget "re.Pattern.search" "search" ⟨[.ref p, .str x t], []⟩) Q E s := by
  obtain ⟨v0, v1, u2, u6, c, sl, sl', cvs, n, d, h1, h2, h3⟩ := hp
  unfold reTarget
  simp only [named3]
  refine wpAny_bind (wpAny_pure ?_)
  refine wpAny_bind (wpAny_pure ?_)
  refine wpAny_bind (wpAny_pure ?_)
  refine wpAny_bind (wp_fields h1 ?_)
  refine wpAny_bind (wp_text ?_)
  refine wpAny_bind ?_
  refine wpAny_pure ?_
  refine wpAny_bind (wp_rawItems h2 ?_)
  refine wpAny_pure ?_
  rw [h3]
  have e1 : min (0 : Int).toNat x.cps.size = 0 := by simp
  have e2 : min (2 ^ 63 - 1 : Int).toNat x.cps.size = x.cps.size := by
    have : (2 ^ 63 - 1 : Int).toNat = 9223372036854775807 := by decide
    rw [this]; omega
  rw [e1, e2]
  exact hq

theorem search_none {p : Addr} {x : Str} {t : Tok} {Q : Value → Shared → Prop} (hp : PatAt s.heap p C1) (hx : x.cps.size ≤ 1000000) (h2 : 2 ≤ x.cps.size) (hd : ∀ i, Sre.isDigit (x.cps.getD i 0) = false)
    (hq : Q .none s) : wpAny (model prog w) A (call (.builtin "re.Pattern.search") [.ref p, .str x t]) Q E s := by
  have hT : s.TypeIs (.ref p) "re.Pattern" := by
    obtain ⟨v0, v1, u2, u6, c, sl, sl', cvs, n, d, h1, h2, h3⟩ := hp
    exact ⟨_, h1, rfl⟩
  refine wpAny_call (codeAny_call_builtin slot_search.plain entry_search (slot_search.check _ _ _ _ _ _ _ _ hT (args_search _ _) ?_))
  unfold Builtin.«re.Pattern.search»
  refine wpAny_bind (wp_target hp hx ?_)
  unfold reAnswer
  obtain ⟨k, hk, e⟩ := search_fails hd h2
  refine wpAny_bind (wp_toEnd (k := k) (by omega) (.inl ⟨e, ?_⟩))
  exact wpAny_pure hq
end
end
section
open PySem PySem.W PySem.Calls PyProof.Rows Builtin Builtin.Re
set_option linter.unusedVariables false
set_option linter.unusedSimpArgs false
noncomputable def S (l : List Nat) : PySem.Str := ⟨l.toArray⟩
theorem S_len (l : List Nat) : (S l).length = l.length := by show l.toArray.size = _; simp
theorem S_append (a b : List Nat) : S a ++ S b = S (a ++ b) := by
  show (⟨a.toArray ++ b.toArray⟩ : PySem.Str) = ⟨(a ++ b).toArray⟩
  simp
theorem S_inj {a b : List Nat} (h : S a = S b) : a = b := by
  have := congrArg (fun x : PySem.Str => x.cps.toList) h
  simpa [S] using this
noncomputable def catS (l : List PySem.Str) : List Nat := l.flatMap fun x => x.cps.toList
theorem join_empty : ∀ l : List PySem.Str, Str.join (S []) l = S (catS l)
  | [] => rfl
  | [x] => by
    show x = S (catS [x])
    simp [S, catS]
  | x :: y :: r => by
    show x ++ S [] ++ Str.join (S []) (y :: r) = _
    rw [join_empty (y :: r)]
    have : x = S x.cps.toList := by simp [S]
    rw [this, S_append, S_append]
    simp [catS, S]
theorem catS_len (l : List PySem.Str) : (l.map (·.length)).sum = (catS l).length := by
  induction l with
  | nil => rfl
  | cons x r ih =>
    rw [List.map_cons, List.sum_cons, ih]
    simp [catS, PySem.Str.length]
noncomputable def Ext (h h' : Heap) : Prop := ∀ b o, h.get? b = some o → h'.get? b = some o
theorem Ext.fr {h₀ h h' : Heap} {L : Addr} {m : PySem.Str → Option Value} (F : Fr h₀ L h m) (x : Ext h h') : Fr h₀ L h' m := by
  obtain ⟨o, es, ep, h1, r⟩ := F.ns
  exact ⟨⟨o, es, ep, x _ _ h1, r⟩, fun b o e => x _ _ (F.keep b o e), F.above⟩
theorem Ext.news {h₀ h h' : Heap} {L : Addr} {news : List (Addr × Obj)} (N : News h₀ L h news) (x : Ext h h') : News h₀ L h' news := fun p hp => ⟨x _ _ (N p hp).1, (N p hp).2⟩

/-- the text of lines, each behind its line end -/
noncomputable def pg (Ls : List (List Nat)) : List Nat := Ls.flatMap (· ++ [10])
noncomputable def okL (L : List Nat) : Prop := L ≠ [] ∧ 10 ∉ L

theorem bol_in {tx pre L rest : List Nat} (e : tx = pre ++ L ++ rest) (hL : 10 ∉ L) {i : Nat} (h1 : pre.length < i) (h2 : i ≤ pre.length + L.length) : atBol tx.toArray i = false := by
  have : tx.toArray.getD (i - 1) 0 ∈ L := by
    subst e
    have h3 : i - 1 - pre.length < L.length := by omega
    have e2 : (pre ++ L ++ rest)[i - 1]? = some L[i - 1 - pre.length] := by
      rw [List.append_assoc, List.getElem?_append_right (by omega), List.getElem?_append_left (by omega)]
      simp [h3]
    have : (pre ++ L ++ rest).toArray.getD (i - 1) 0 = L[i - 1 - pre.length] := by
      rw [Array.getD_eq_getD_getElem?]
      simp only [List.getElem?_toArray]
      rw [e2]; rfl
    rw [this]
    exact List.getElem_mem _
  have hne : tx.toArray.getD (i - 1) 0 ≠ 10 := fun q => hL (q ▸ this)
  have h0 : i ≠ 0 := by omega
  unfold atBol
  simp only [Bool.or_eq_false_iff, beq_eq_false_iff_ne]
  exact ⟨h0, hne⟩
theorem okAt_no {tx : Array Nat} {i : Nat} (h : atBol tx i = false) : okAt tx i = false := by unfold okAt; rw [h]; rfl
theorem getD_at {pre rest : List Nat} {c : Nat} : (pre ++ c :: rest).toArray.getD pre.length 0 = c := by
  rw [Array.getD_eq_getD_getElem?]
  simp
theorem okAt_start {pre L rest : List Nat} (hp : pre = [] ∨ pre.getLast? = some 10) (hL : okL L) : okAt (pre ++ (L ++ rest)).toArray pre.length = true := by
  obtain ⟨c, L', rfl⟩ := List.exists_cons_of_ne_nil hL.1
  have hc : c ≠ 10 := fun q => hL.2 (q ▸ .head _)
  have e1 : atBol (pre ++ (c :: L' ++ rest)).toArray pre.length = true := by
    rcases hp with rfl | hp
    · rfl
    · obtain ⟨ys, rfl⟩ := List.getLast?_eq_some_iff.mp hp
      unfold atBol
      rw [Bool.or_eq_true]
      right
      have : (ys ++ [10]).length - 1 = ys.length := by simp
      rw [this]
      have e : ys ++ [10] ++ (c :: L' ++ rest) = ys ++ 10 :: (c :: L' ++ rest) := by simp
      rw [e, getD_at]; rfl
  have e2 : atEol (pre ++ (c :: L' ++ rest)).toArray pre.length = false := by
    unfold atEol
    rw [List.cons_append, getD_at]
    simp [hc]
  unfold okAt
  rw [e1, e2]; rfl
theorem okAt_end {tx : List Nat} {i : Nat} (h : tx.length ≤ i) : okAt tx.toArray i = false := by
  rcases Nat.lt_or_eq_of_le h with h | h
  · have : atBol tx.toArray i = false := by
      unfold atBol
      rw [Array.getD_eq_getD_getElem?, Array.getElem?_eq_none (by simp; omega)]
      simp; omega
    simp [okAt, this]
  · have : atEol tx.toArray i = true := by unfold atEol; simp [h]
    simp [okAt, this]

/-- the next match behind a line that stands at p -/
theorem next_some {pre L L' rest : List Nat} (hL : okL L) (hL' : okL L') :
    ∃ k, k ≤ 6 * (L.length + 1) + 7 ∧
      (Sre.M.runFor k (Sre.forSearch C2 (pre ++ (L ++ [10]) ++ (L' ++ rest)).toArray 0 pre.length (pre ++ (L ++ [10]) ++ (L' ++ rest)).toArray.size true)).outcome = some .matched ∧
      (Sre.M.runFor k (Sre.forSearch C2 (pre ++ (L ++ [10]) ++ (L' ++ rest)).toArray 0 pre.length (pre ++ (L ++ [10]) ++ (L' ++ rest)).toArray.size true)).start = pre.length + L.length + 1 ∧
      (Sre.M.runFor k (Sre.forSearch C2 (pre ++ (L ++ [10]) ++ (L' ++ rest)).toArray 0 pre.length (pre ++ (L ++ [10]) ++ (L' ++ rest)).toArray.size true)).handed = pre.length + L.length + 1 := by
  rw [for2 (by simp)]
  have hg := okAt_start (pre := pre ++ (L ++ [10])) (L := L') (rest := rest) (.inr (by simp)) hL'
  have hlen : (pre ++ (L ++ [10])).length = pre.length + L.length + 1 := by simp; omega
  rw [hlen] at hg
  exact st2_some hg (L.length + 1) pre.length true true _ (by omega) (fun i h1 h2 q => by
    rcases Nat.lt_or_eq_of_le h1 with h | h
    · have e := bol_in (tx := pre ++ (L ++ [10]) ++ (L' ++ rest)) (pre := pre) (L := L) (rest := [10] ++ (L' ++ rest)) (by simp) hL.2 h (by omega)
      rw [okAt_no e] at q; cases q
    · exact ⟨h.symm, rfl, rfl⟩) (fun h => by omega)
theorem next_none {pre L : List Nat} (hL : okL L) :
    ∃ k, k ≤ 6 * (L.length + 1) + 7 ∧ (Sre.M.runFor k (Sre.forSearch C2 (pre ++ (L ++ [10])).toArray 0 pre.length (pre ++ (L ++ [10])).toArray.size true)).outcome = some .failed := by
  rw [for2 (by simp)]
  refine st2_none (L.length + 1) pre.length true true _ (by simp) (fun i h1 q => ?_)
  rcases Nat.lt_or_eq_of_le h1 with h | h
  · exfalso
    by_cases h2 : i ≤ pre.length + L.length
    · have e := bol_in (tx := pre ++ (L ++ [10])) (pre := pre) (L := L) (rest := [10]) (by simp) hL.2 h h2
      rw [okAt_no e] at q; cases q
    · rw [okAt_end (by simp; omega)] at q; cases q
  · exact ⟨h.symm, rfl, rfl⟩
theorem first_some {L rest : List Nat} (hL : okL L) :
    ∃ k, k ≤ 7 ∧
      (Sre.M.runFor k (Sre.forSearch C2 (L ++ rest).toArray 0 0 (L ++ rest).toArray.size false)).outcome = some .matched ∧
      (Sre.M.runFor k (Sre.forSearch C2 (L ++ rest).toArray 0 0 (L ++ rest).toArray.size false)).start = 0 ∧
      (Sre.M.runFor k (Sre.forSearch C2 (L ++ rest).toArray 0 0 (L ++ rest).toArray.size false)).handed = 0 := by
  rw [for2 (by simp)]
  have hg := okAt_start (pre := []) (L := L) (rest := rest) (.inl rfl) hL
  simp only [List.nil_append, List.length_nil] at hg
  exact st2_some hg 0 0 true false _ (by omega) (fun i h1 h2 q => by omega) (fun h => .inr rfl)
end
section
open PySem PySem.W PySem.Calls PyProof.Rows Builtin Builtin.Re
set_option linter.unusedVariables false
set_option linter.unusedSimpArgs false
section
variable {prog : Program} {w : World} {A : Around} {E : Value → Shared → Prop} {s : Shared}
theorem wp_whole {M : Model} {p : Addr} {code : Array Nat} {x : Str} {t : Tok} {Q : ReTarget → Shared → Prop} (hp : PatAt s.heap p code)
    (hq : Q { pattern := .ref p, string := .str x t, code := code, text := x.cps, kind := 0, groups := 0, pos := 0, lim := x.cps.size } s) :
    wpAny M A (reWholeTarget (.ref p) (.str x t)) Q E s := by
  obtain ⟨v0, v1, u2, u6, c, sl, sl', cvs, n, d, h1, h2, h3⟩ := hp
  unfold reWholeTarget
  refine wpAny_bind (wp_fields h1 ?_)
  refine wpAny_bind (wp_text ?_)
  refine wpAny_bind ?_
  refine wpAny_pure ?_
  refine wpAny_bind (wp_rawItems h2 ?_)
  refine wpAny_pure ?_
  rw [h3]
  exact hq
theorem wp_slice {M : Model} {text : Array Nat} {b e : Nat} {Q : Value → Shared → Prop} (hx : text.size ≤ 1000000) (hq : Q (.str ⟨text.extract b e⟩ s.toks) { s with toks := s.toks + 1 }) : wpAny M A (reSlice text 0 b e) Q E s := by
  unfold reSlice
  refine wpAny_mkStr hq ?_
  show (text.extract b e).size ≤ sizeLine
  have e : sizeLine = 16777216 := by decide
  rw [e, Array.size_extract]; omega
theorem wp_lit {M : Model} {x : Str} {t : Tok} {Q : Unit → Shared → Prop} (hq : Q () s) : wpAny M A (reLiteralCannotBeTurned (.str x t)) Q E s := by
  unfold reLiteralCannotBeTurned asStr?
  exact wpAny_bind (wpAny_pure (wpAny_pure hq))

noncomputable def LObj (vs : List Value) (ep : Nat) : Obj := ⟨.type "list", none, .seq vs.toArray ep, #[]⟩
theorem wp_push {M : Model} {l : Addr} {vs : List Value} {ep : Nat} {v : Value} {Q : Unit → Shared → Prop} (h : s.heap.get? l = some (LObj vs ep)) (hz : vs.length ≤ 100000)
    (hq : ∀ h', h'.get? l = some (LObj (vs ++ [v]) (ep + 1)) → (∀ b, b ≠ l → h'.get? b = s.heap.get? b) → Q () { s with heap := h' }) : wpAny M A (updateSeq l (·.push v)) Q E s := by
  have e : sizeLine = 16777216 := by decide
  refine wpAny_updateSeq h rfl (hq _ ?_ (fun b hb => Heap.get?_update_ne _ _ _ _ hb)) (by rw [e]; simp; omega) (by rw [e]; simp; omega)
  rw [Heap.get?_update_self _ h rfl]
  simp [LObj, Obj.mapSeq]
theorem strValues_append (a b : List (Str × Tok)) : strValues a ++ strValues b = strValues (a ++ b) := by simp [strValues]

noncomputable def lpc (p : Addr) (x : Str) (t : Tok) (ind : Str) (u : Tok) (n d : Int) (mu : Bool) (l : Addr) : Code :=
  .builtin "re.Pattern.sub.loop" ⟨[.ref p, .str x t, .str ind u, rawInt 0, rawInt 0, rawInt n, rawInt d, rawInt d, .bool mu, .ref l, .bool false], []⟩
theorem PatAt.ext {h h' : Heap} {p : Addr} {c : Array Nat} (x : PatAt h p c) (k : Ext h h') : PatAt h' p c := by
  obtain ⟨v0, v1, u2, u6, c, sl, sl', cvs, n, d, h1, h2, h3⟩ := x
  exact ⟨v0, v1, u2, u6, c, sl, sl', cvs, n, d, k _ _ h1, k _ _ h2, h3⟩

theorem ext_mid (pre mid rest : List Nat) (e : Nat) (he : e = pre.length + mid.length) : (pre ++ mid ++ rest).toArray.extract pre.length e = mid.toArray := by
  subst he
  apply Array.ext'
  rw [List.append_assoc]
  simp
theorem sub_loop {p : Addr} {x : Str} {t : Tok} {ind : List Nat} {u : Tok} {l : Addr} {h0 : Heap} {R : Result → Shared → Prop} (hp : PatAt h0 p C2) (hx : x.cps.size ≤ 10000) (hl0 : h0.get? l = none) :
    ∀ (Ls : List (List Nat)) (pre L : List Nat) (n : Int) (lst : List (Str × Tok)) (ep : Nat) (s : Shared), x.cps.toList = pre ++ (L ++ [10]) ++ pg Ls → okL L → (∀ L' ∈ Ls, okL L') →
      s.heap.get? l = some (LObj (strValues lst) ep) → lst.length + 2 * (Ls.length + 1) ≤ 50000 → Ext h0 s.heap →
      (catS (lst.map (fun q : Str × Tok => q.1)) ++ (L ++ [10]) ++ pg (Ls.map (ind ++ ·))).length ≤ 1000000 →
      (∀ h' t' k, Ext h0 h' → R (.ok (.ret (.str (S (catS (lst.map (·.1)) ++ (L ++ [10]) ++ pg (Ls.map (ind ++ ·)))) t'))) { s with heap := h', toks := k }) →
      codeAny (model prog w) A (lpc p x t (S ind) u n pre.length true l) R s := by
  intro Ls
  induction Ls with
  | nil =>
    intro pre L n lst ep s hxe hL hLs hl hn hext hsz hR
    have hpre : pre ++ (L ++ [10]) ++ pg [] = pre ++ (L ++ [10]) := by simp [pg]
    rw [hpre] at hxe
    have hxc : x.cps = (pre ++ (L ++ [10])).toArray := by rw [← hxe]
    refine codeAny_builtin entry_loop ?_
    unfold Builtin.«re.Pattern.sub.loop»
    refine wpAny_bind (wp_whole (hp.ext hext) ?_)
    refine wpAny_bind (wp_lit ?_)
    obtain ⟨k, hk, e⟩ := next_none (pre := pre) hL
    refine wpAny_bind (wpAny_ite ?_)
    rw [if_neg (by simp)]
    unfold reNextFound
    have hk2 : k ≤ 1000000000 := by
      have : x.cps.size = pre.length + (L.length + 1) := by rw [hxc]; simp
      omega
    refine wp_toEnd (k := k) hk2 (.inl ⟨?_, ?_⟩)
    · show (Sre.M.runFor k (Sre.forSearch C2 x.cps 0 (Int.toNat pre.length) x.cps.size true)).outcome = _
      rw [hxc, Int.toNat_natCast]; exact e
    dsimp only
    refine wpAny_ite ?_
    have hd : (Int.toNat (pre.length : Int)) < x.cps.size := by rw [hxc, Int.toNat_natCast]; simp
    rw [if_pos hd]
    refine wpAny_bind (wp_slice (by omega) ?_)
    refine wpAny_bind (wp_push hl (by simp [strValues]; omega) fun h' hl' hk' => ?_)
    refine wpAny_bind (wp_slice (by omega) ?_)
    have he0 : ∀ (l : List (Str × Tok)), (strValues lst ++ [Value.str ⟨x.cps.extract (Int.toNat pre.length) x.cps.size⟩ s.toks]) = strValues (lst ++ [(⟨x.cps.extract (Int.toNat pre.length) x.cps.size⟩, s.toks)]) := fun _ => by simp [strValues]
    rw [he0 lst] at hl'
    generalize hlst : lst ++ [((⟨x.cps.extract (Int.toNat pre.length) x.cps.size⟩ : Str), s.toks)] = lst' at hl'
    refine wpAny_bind ?_
    refine wpAny_bind (wpAny_load hl' (wpAny_pure ?_))
    have hne : ((some (strValues lst').toArray).getD #[]).isEmpty = false := by
      subst hlst; simp [strValues]
    have hcat : catS (lst'.map (·.1)) = catS (lst.map (·.1)) ++ (L ++ [10]) ++ pg (List.map (ind ++ ·) []) := by
      subst hlst
      have : x.cps.extract (Int.toNat pre.length) x.cps.size = (L ++ [10]).toArray := by
        rw [hxc, Int.toNat_natCast]
        have := ext_mid pre (L ++ [10]) [] (pre ++ (L ++ [10])).toArray.size (by simp)
        rw [List.append_nil] at this
        exact this
      rw [this]
      simp [catS, pg]
    dsimp only
    rw [hne, if_neg (by decide)]
    have hext' : Ext h0 h' := fun b o e => by
      rw [hk' b (fun q => by subst q; rw [hl0] at e; cases e)]; exact hext b o e
    have hnil : (⟨x.cps.extract 0 0⟩ : Str) = S [] := by simp [S]
    rw [hnil]
    refine wpAny_bind (SC.join (l := lst') ⟨_, hl', rfl, _, rfl⟩ rfl ?_ fun t' k' => ?_)
    · unfold JoinOk
      rw [StrLaws.joinTotal, S_len, catS_len, hcat]
      have e : (2 : Nat) ^ 24 = 16777216 := by decide
      unfold Builtin.Str.tooLong sizeLine
      simp only [List.length_nil, Nat.mul_zero, Nat.add_zero, Bool.not_eq_true', decide_eq_false_iff_not]
      omega
    · have hj : Txt.join (S []) (lst'.map (·.1)) = S (catS (lst.map (·.1)) ++ (L ++ [10]) ++ pg (List.map (ind ++ ·) [])) := by
        show Builtin.Str.glued _ _ = _
        rw [StrLaws.glued_eq_join, join_empty, hcat]
      rw [hj]
      dsimp only
      refine wpAny_pure ?_
      exact hR h' t' k' hext'
  | cons L' Ls ih =>
    intro pre L n lst ep s hxe hL hLs hl hn hext hsz hR
    have hL' := hLs L' (.head _)
    have hpre : pre ++ (L ++ [10]) ++ pg (L' :: Ls) = pre ++ (L ++ [10]) ++ (L' ++ ([10] ++ pg Ls)) := by simp [pg]
    have hxc : x.cps = (pre ++ (L ++ [10]) ++ (L' ++ ([10] ++ pg Ls))).toArray := by rw [← hpre, ← hxe]
    refine codeAny_builtin entry_loop ?_
    unfold Builtin.«re.Pattern.sub.loop»
    refine wpAny_bind (wp_whole (hp.ext hext) ?_)
    refine wpAny_bind (wp_lit ?_)
    obtain ⟨k, hk, e1, e2, e3⟩ := next_some (pre := pre) (rest := [10] ++ pg Ls) hL hL'
    rw [← hxc] at e1 e2 e3
    refine wpAny_bind (wpAny_ite ?_)
    rw [if_neg (by simp)]
    unfold reNextFound
    have hk2 : k ≤ 1000000000 := by
      have : x.cps.size = (pre ++ (L ++ [10]) ++ (L' ++ ([10] ++ pg Ls))).length := by rw [hxc]; simp
      simp only [List.length_append] at this
      omega
    have hst : Sre.forSearch C2 x.cps 0 (Int.toNat (pre.length : Int)) x.cps.size true = Sre.forSearch C2 x.cps 0 pre.length x.cps.size true := by rw [Int.toNat_natCast]
    refine wp_toEnd (k := k) hk2 (.inr ⟨?_, ?_⟩)
    · show (Sre.M.runFor k (Sre.forSearch C2 x.cps 0 (Int.toNat (pre.length : Int)) x.cps.size true)).outcome = _
      rw [hst]; exact e1
    dsimp only
    rw [hst]
    generalize Sre.M.runFor k (Sre.forSearch C2 x.cps 0 pre.length x.cps.size true) = mm at e1 e2 e3
    refine wpAny_ite ?_
    rw [if_pos (by rw [e2, Int.toNat_natCast]; omega)]
    refine wpAny_bind (wp_slice (by omega) ?_)
    refine wpAny_bind (wp_push hl (by simp [strValues]; omega) fun h' hl' hk' => ?_)
    refine wpAny_ite ?_
    rw [if_pos (by simp)]
    refine wpAny_bind (wpAny_pure ?_)
    refine wpAny_ite ?_
    rw [if_pos (by simp)]
    have hz : (strValues lst ++ [Value.str ⟨x.cps.extract (Int.toNat pre.length) mm.start⟩ s.toks]).length ≤ 100000 := by simp [strValues]; omega
    refine wpAny_bind (wp_push (s := { s with heap := h', toks := s.toks + 1 }) hl' hz fun h2 hl2 hk2 => ?_)
    have he0 : (strValues lst ++ [Value.str ⟨x.cps.extract (Int.toNat pre.length) mm.start⟩ s.toks] ++ [Value.str (S ind) u]) = strValues (lst ++ [(⟨x.cps.extract (Int.toNat pre.length) mm.start⟩, s.toks), (S ind, u)]) := by simp [strValues]
    rw [he0] at hl2
    have hcat : catS ((lst ++ [((⟨x.cps.extract (Int.toNat pre.length) mm.start⟩ : Str), s.toks), (S ind, u)]).map (·.1)) = catS (lst.map (·.1)) ++ (L ++ [10]) ++ ind := by
      have : x.cps.extract (Int.toNat pre.length) mm.start = (L ++ [10]).toArray := by
        rw [hxc, Int.toNat_natCast, e2]
        exact ext_mid pre (L ++ [10]) _ _ (by simp; omega)
      rw [this]
      simp [catS, S]
    have hext' : Ext h0 h2 := fun b o e => by
      have hb : b ≠ l := fun q => by subst q; rw [hl0] at e; cases e
      rw [hk2 b hb]
      show h'.get? b = some o
      rw [hk' b hb]; exact hext b o e
    refine wpAny_pure ⟨plainId_quiet (by decide +kernel) _, ?_⟩
    have hmu : (mm.handed == mm.start) = true := by rw [e2, e3]; simp
    rw [hmu, e3]
    have hlen : pre.length + L.length + 1 = (pre ++ (L ++ [10])).length := by simp; omega
    rw [hlen]
    have hfin : catS ((lst ++ [((⟨x.cps.extract (Int.toNat pre.length) mm.start⟩ : Str), s.toks), (S ind, u)]).map (·.1)) ++ (L' ++ [10]) ++ pg (Ls.map (ind ++ ·)) = catS (lst.map (·.1)) ++ (L ++ [10]) ++ pg ((L' :: Ls).map (ind ++ ·)) := by
      rw [hcat]; simp [pg]
    refine ih (pre ++ (L ++ [10])) L' (n + 1) _ _ _ ?_ hL' (fun M hM => hLs M (.tail _ hM)) hl2 ?_ hext' ?_ ?_
    · rw [hxe]; simp [pg]
    · simp only [List.length_append, List.length_cons, List.length_nil] at hn ⊢; omega
    · rw [hfin]; exact hsz
    · rw [hfin]; exact hR
end
end
section
open PySem PySem.W PySem.Calls PyProof.Rows Builtin Builtin.Re
set_option linter.unusedVariables false
set_option linter.unusedSimpArgs false
section
variable {prog : Program} {w : World} {A : Around} {E : Value → Shared → Prop} {s : Shared}
theorem no_call_str : typeLookup (.type "str") "__call__" = pure none := by rw [typeLookup_type, builtinLookup_eq_fast]; kernel_rfl
theorem sub_first {p : Addr} {L : List Nat} {Ls : List (List Nat)} {ind : List Nat} {x : Str} {t u : Tok} {R : Result → Shared → Prop} {l : Addr} {h0 : Heap} {n d : Int} (hp : PatAt h0 p C2) (hL : ∀ M ∈ L :: Ls, okL M)
    (hxe : x = S (pg (L :: Ls))) (hx : (pg (L :: Ls)).length ≤ 10000) (hz : (pg ((L :: Ls).map (ind ++ ·))).length ≤ 1000000) (hext0 : Ext h0 s.heap) (hl0 : h0.get? l = none) (hl1 : s.heap.get? l = some (LObj [] 0)) (hd : d.toNat = 0)
    (hq : ∀ h' t' k, Ext h0 h' → R (.ok (.ret (.str (S (pg ((L :: Ls).map (ind ++ ·)))) t'))) { s with heap := h', toks := k }) :
    codeAny (model prog w) A (lpc p x t (S ind) u n d false l) R s := by
  have hcount : Ls.length + 1 ≤ (pg (L :: Ls)).length := by
    have : ∀ l : List (List Nat), l.length ≤ (pg l).length := by
      intro l
      induction l with
      | nil => simp [pg]
      | cons a r ih => simp [pg] at ih ⊢; omega
    exact this (L :: Ls)
  have hpgL : pg (L :: Ls) = L ++ ([10] ++ pg Ls) := by simp [pg]
  have hcps : x.cps = (L ++ ([10] ++ pg Ls)).toArray := by rw [hxe, hpgL]; rfl
  refine codeAny_builtin entry_loop ?_
  unfold Builtin.«re.Pattern.sub.loop»
  refine wpAny_bind (wp_whole (hp.ext hext0) ?_)
  refine wpAny_bind (wp_lit ?_)
  obtain ⟨k, hk, e1, e2, e3⟩ := first_some (rest := [10] ++ pg Ls) (hL L (.head _))
  rw [← hcps] at e1 e2 e3
  refine wpAny_bind (wpAny_ite ?_)
  rw [if_neg (by simp)]
  unfold reNextFound
  have hst : Sre.forSearch C2 x.cps 0 d.toNat x.cps.size false = Sre.forSearch C2 x.cps 0 0 x.cps.size false := by rw [hd]
  refine wp_toEnd (k := k) (by omega) (.inr ⟨?_, ?_⟩)
  · show (Sre.M.runFor k (Sre.forSearch C2 x.cps 0 d.toNat x.cps.size false)).outcome = _
    rw [hst]; exact e1
  dsimp only
  rw [hst]
  generalize Sre.M.runFor k (Sre.forSearch C2 x.cps 0 0 x.cps.size false) = mm at e1 e2 e3
  refine wpAny_ite ?_
  rw [if_neg (by rw [e2]; omega)]
  refine wpAny_ite ?_
  rw [if_pos (by simp)]
  refine wpAny_bind (wpAny_pure ?_)
  refine wpAny_ite ?_
  rw [if_pos (by simp)]
  refine wpAny_bind (wp_push hl1 (by simp) fun h2 hl2 hk2 => ?_)
  refine wpAny_pure ⟨plainId_quiet (by decide +kernel) _, ?_⟩
  have hmu : (mm.handed == mm.start) = true := by rw [e2, e3]; simp
  rw [hmu, e3]
  have hl3 : h2.get? l = some (LObj (strValues [(S ind, u)]) (0 + 1)) := by rw [hl2]; simp [strValues]
  have hfin : catS ([((S ind : Str), u)].map (fun q : Str × Tok => q.1)) ++ (L ++ [10]) ++ pg (Ls.map (ind ++ ·)) = pg ((L :: Ls).map (ind ++ ·)) := by
    simp [catS, S, pg]
  refine sub_loop (pre := []) hp (by rw [hcps]; rw [hpgL] at hx; simpa using hx) hl0 Ls L (n + 1) [(S ind, u)] (0 + 1) _ ?_ (hL L (.head _)) (fun M hM => hL M (.tail _ hM)) hl3 ?_ ?_ ?_ ?_
  · rw [hcps]; simp [pg]
  · simp; omega
  · intro b o e
    have hb : b ≠ l := fun q => by subst q; rw [hl0] at e; cases e
    show h2.get? b = some o
    rw [hk2 b hb]; exact hext0 b o e
  · rw [hfin]; exact hz
  · rw [hfin]; exact fun h' t' k hx => hq h' t' k hx
theorem sub_page {p : Addr} {L : List Nat} {Ls : List (List Nat)} {ind : List Nat} {t u : Tok} {Q : Value → Shared → Prop} (hp : PatAt s.heap p C2) (hL : ∀ M ∈ L :: Ls, okL M) (hi : 92 ∉ ind)
    (hx : (pg (L :: Ls)).length ≤ 10000) (hz : (pg ((L :: Ls).map (ind ++ ·))).length ≤ 1000000)
    (hq : ∀ h' t' k, Ext s.heap h' → Q (.str (S (pg ((L :: Ls).map (ind ++ ·)))) t') { s with heap := h', toks := k }) :
    wpAny (model prog w) A (call (.builtin "re.Pattern.sub") [.ref p, .str (S ind) u, .str (S (pg (L :: Ls))) t]) Q E s := by
  have hT : s.TypeIs (.ref p) "re.Pattern" := by
    obtain ⟨v0, v1, u2, u6, c, sl, sl', cvs, n, d, h1, h2, h3⟩ := hp
    exact ⟨_, h1, rfl⟩
  refine wpAny_call (codeAny_call_builtin slot_sub.plain entry_sub (slot_sub.check _ _ _ _ _ _ _ _ hT (args_sub _ _ _) ?_))
  unfold Builtin.«re.Pattern.sub»
  unfold reSubstitute
  simp only [named_sub]
  refine wpAny_bind (wpAny_pure ?_)
  refine wpAny_bind (wpAny_pure ?_)
  refine wpAny_bind ?_
  unfold specialOf
  refine wpAny_bind ?_
  refine wpAny_pure ?_
  rw [no_call_str]
  refine wpAny_pure ?_
  refine wpAny_ite ?_
  rw [if_neg (by simp)]
  refine wpAny_bind ?_
  refine wpAny_pure ?_
  refine wpAny_bind (wpAny_pure ?_)
  refine wpAny_ite ?_
  rw [if_neg (by simp)]
  refine wpAny_ite ?_
  rw [if_pos (by simp [S, hi])]
  refine wpAny_bind (wpAny_pure ?_)
  refine wpAny_bind (wpAny_holding (wp_whole hp ?_))
  refine wpAny_ite ?_
  rw [if_neg (by simp)]
  refine wpAny_bind (wpAny_newList ?_)
  refine wpAny_pure ⟨plainId_quiet (by decide +kernel) _, ?_⟩
  have hext0 : Ext s.heap (s.heap.push { cls := .type "list", data := .seq (List.toArray []) }) := fun b o e => Heap.get?_push_of_some _ e
  have hl0 : s.heap.get? s.heap.objs.size = none := by
    cases q : s.heap.get? s.heap.objs.size with
    | none => rfl
    | some o => exact absurd (Heap.lt_size q) (Nat.lt_irrefl _)
  exact sub_first (d := 0) hp hL rfl hx hz hext0 hl0 (Heap.get?_push_size _ rfl) rfl hq
end
end
section
open PySem PySem.W PySem.Calls PyProof.Rows Builtin Builtin.Str
set_option linter.unusedVariables false
set_option linter.unusedSimpArgs false
noncomputable def tailL : List Nat := [98, 46, 108, 111, 99, 97, 108]
noncomputable def hostL : List Nat → List Nat
  | [] => tailL
  | c :: r => c :: 46 :: hostL r
noncomputable def okSt (st : List Nat) : Prop := ∀ c ∈ st, c = 97 ∨ c = 98
noncomputable def okC (c : Nat) : Bool := [97, 98, 46, 108, 111, 99].contains c
theorem S_cps (l : List Nat) : (S l).cps = l.toArray := rfl
theorem S_ofString (x : String) (l : List Nat) (h : Str.ofString x = ⟨l.toArray⟩) : Str.ofString x = S l := h
theorem hostL_len (st : List Nat) : (hostL st).length = 2 * st.length + 7 := by
  induction st with
  | nil => rfl
  | cons c r ih => simp only [hostL, List.length_cons, ih]; omega
theorem hostL_ok {st : List Nat} (h : okSt st) : ∀ c ∈ hostL st, okC c = true := by
  induction st with
  | nil => decide
  | cons a r ih =>
    intro c hc
    simp only [hostL, List.mem_cons] at hc
    rcases hc with rfl | rfl | hc
    · rcases h c (.head _) with rfl | rfl <;> decide
    · decide
    · exact ih (fun x hx => h x (.tail _ hx)) c hc
theorem flat1 (l : List Nat) : (List.map (Array.toList ∘ fun c : Nat => #[c]) l).flatten = l := by
  induction l with
  | nil => rfl
  | cons a r ih => rw [List.map_cons, List.flatten_cons, ih]; rfl
theorem lower_list {l : List Nat} (h : ∀ c ∈ l, okC c = true) : Txt.lower (S l) = S l := by
  have key : ∀ c, okC c = true → Unicode.lowerOf c = [c] ∧ (c == 0x3A3) = false := by
    intro c hc
    have : c = 97 ∨ c = 98 ∨ c = 46 ∨ c = 108 ∨ c = 111 ∨ c = 99 := by simpa [okC] using hc
    rcases this with rfl | rfl | rfl | rfl | rfl | rfl <;> exact ⟨by decide +kernel, by decide⟩
  have hat : ∀ i (hi : i < l.length), Unicode.lowerAt l.toArray i = [l[i]] := by
    intro i hi
    have k := key l[i] (h _ (List.getElem_mem hi))
    unfold Unicode.lowerAt
    have e : l.toArray[i]? = some l[i] := by simp [hi]
    rw [e]
    simp [k.1, k.2]
  show (⟨placed (S l) fun i _ => Unicode.lowerAt l.toArray i⟩ : PySem.Str) = ⟨l.toArray⟩
  congr 1
  unfold placed
  have : ((S l).cps.mapIdx fun i (_ : Nat) => (Unicode.lowerAt l.toArray i).toArray) = (l.map fun c => #[c]).toArray := by
    apply Array.ext
    · simp [S]
    · intro i h1 h2
      simp only [Array.getElem_mapIdx, List.getElem_toArray, List.getElem_map]
      have hi : i < l.length := by simpa [S] using h1
      rw [hat i hi]
  rw [this]
  simp [flat1]
theorem subAt_list (l m : List Nat) (i : Nat) : subAt (S l) (S m) i = ((l.drop i).take m.length == m) := by
  rw [StrLaws.subAt_eq]
  simp [S, PySem.Str.length]
theorem starts_dot (l : List Nat) : Txt.startswith (S (46 :: l)) (S [46]) = true := by
  unfold Txt.startswith
  rw [subAt_list]
  simp [S, PySem.Str.length]
theorem ends_yes {a b : List Nat} : Txt.endswith (S (a ++ b)) (S b) = true := by
  unfold Txt.endswith
  rw [subAt_list]
  simp [S, PySem.Str.length]
theorem ends_short {a b : List Nat} (h : a.length < b.length) : Txt.endswith (S a) (S b) = false := by
  unfold Txt.endswith
  simp [S, PySem.Str.length]
  intro h2; omega
theorem hostL_ends {st : List Nat} (h : st ≠ []) : ∃ a, hostL st = a ++ (46 :: tailL) := by
  induction st with
  | nil => exact absurd rfl h
  | cons c r ih =>
    cases r with
    | nil => exact ⟨[c], rfl⟩
    | cons d r =>
      obtain ⟨a, e⟩ := ih (by simp)
      exact ⟨c :: 46 :: a, by rw [hostL, e]; rfl⟩
theorem host_ends (st : List Nat) : Txt.endswith (S (hostL st)) (S (46 :: tailL)) = !st.isEmpty := by
  cases st with
  | nil => exact ends_short (by decide)
  | cons c r =>
    obtain ⟨a, e⟩ := hostL_ends (st := c :: r) (by simp)
    rw [e, ends_yes]; rfl
theorem digits_list {l : List Nat} (h : ∀ c ∈ l, okC c = true) : ∀ i, Sre.isDigit ((S l).cps.getD i 0) = false := by
  intro i
  rw [S_cps, Array.getD_eq_getD_getElem?]
  cases q : l.toArray[i]? with
  | none => decide
  | some c =>
    have hc : c ∈ l := by
      have : l[i]? = some c := by simpa using q
      exact List.mem_of_getElem? this
    have : c = 97 ∨ c = 98 ∨ c = 46 ∨ c = 108 ∨ c = 111 ∨ c = 99 := by simpa [okC] using h c hc
    rcases this with rfl | rfl | rfl | rfl | rfl | rfl <;> decide
theorem find_dot {c : Nat} {l : List Nat} (h : c ≠ 46) : Txt.find (S (c :: 46 :: l)) (S [46]) = 1 := by
  unfold Txt.find
  rcases StrLaws.occ_head (S (c :: 46 :: l)) (S [46]) 1 (Nat.le_refl _) with ⟨_, hn⟩ | ⟨i, r, e, ha, hn⟩
  · exfalso
    exact hn 1 ⟨by simp [S, PySem.Str.length], by rw [subAt_list]; simp⟩
  · rw [e]
    have h0 : i ≠ 0 := by
      intro q
      subst q
      have := ha.2
      rw [subAt_list] at this
      simp at this
      exact h this
    have h1 : ¬ 1 < i := fun q => hn 1 q ⟨by simp [S, PySem.Str.length], by rw [subAt_list]; simp⟩
    have : i = 1 := by omega
    subst this; rfl
theorem find_host {st : List Nat} (h : okSt st) : Txt.find (S (hostL st)) (S [46]) = 1 := by
  cases st with
  | nil => exact find_dot (by decide)
  | cons c r =>
    refine find_dot ?_
    rcases h c (.head _) with rfl | rfl <;> decide
/-- the number of dots -/
theorem occ_count (x : PySem.Str) (c : Nat) (lim : Nat) : ∀ (n lo : Nat) (acc : Array Nat) (free : Nat), free ≤ lo → acc.size + n ≤ lim → 
    (forIn (List.range' lo n) (acc, free) (StrLaws.occBody x ⟨#[c]⟩ x.length lim)).run.fst.size = acc.size + (List.range' lo n).countP (fun i => x.cps[i]? == some c) := by
  intro n
  induction n with
  | zero => intro lo acc free _ _; simp
  | succ n ih =>
    intro lo acc free hf hl
    rw [List.range'_succ, List.forIn_cons]
    unfold StrLaws.occBody
    have hsub : (lo + (⟨#[c]⟩ : PySem.Str).length ≤ x.length ∧ subAt x ⟨#[c]⟩ lo = true) ↔ (x.cps[lo]? == some c) = true := by
      rw [StrLaws.subAt_eq]
      show lo + 1 ≤ x.cps.size ∧ ((x.cps.toList.drop lo).take 1 == [c]) = true ↔ _
      by_cases hlo : lo < x.cps.size
      · have e : (x.cps.toList.drop lo).take 1 = [x.cps[lo]] := by
          rw [List.drop_eq_getElem_cons (by simpa using hlo)]
          simp
        rw [e]
        simp [hlo]
        omega
      · have : x.cps[lo]? = none := Array.getElem?_eq_none (by omega)
        rw [this]
        simp
        omega
    by_cases hc : (x.cps[lo]? == some c) = true
    · have h1 := hsub.mpr hc
      rw [if_pos ⟨⟨⟨by show acc.size < lim; omega, hf⟩, h1.1⟩, h1.2⟩]
      have := ih (lo + 1) (acc.push lo) (lo + 1) (Nat.le_refl _) (by simp; omega)
      refine Eq.trans this ?_
      rw [List.countP_cons_of_pos (by exact hc)]
      simp; omega
    · rw [if_neg (fun q => hc (hsub.mp ⟨q.1.2, q.2⟩))]
      have := ih (lo + 1) acc free (by omega) (by omega)
      refine Eq.trans this ?_
      rw [List.countP_cons_of_neg (by exact hc)]
theorem count_range (c : Nat) : ∀ (l pre : List Nat), (List.range' pre.length (l.length + 1)).countP (fun i => (pre ++ l)[i]? == some c) = l.count c := by
  intro l
  induction l with
  | nil => intro pre; simp
  | cons a r ih =>
    intro pre
    rw [List.length_cons, List.range'_succ, List.countP_cons]
    have h1 := ih (pre ++ [a])
    simp only [List.length_append, List.length_cons, List.length_nil, List.append_assoc, List.cons_append, List.nil_append, Nat.zero_add] at h1
    rw [h1]
    simp only [List.getElem?_append_right (Nat.le_refl _), Nat.sub_self, List.getElem?_cons_zero]
    rw [List.count_cons]
    simp
theorem count_list (l : List Nat) (c : Nat) : Txt.count (S l) (S [c]) = (l.count c : Nat) := by
  unfold Txt.count
  rw [StrLaws.occ_eq]
  congr 1
  have hl : (S l).length = l.length := S_len l
  have h := occ_count (S l) c ((S l).length + 1) ((S l).length + 1) 0 #[] 0 (Nat.le_refl _) (by simp)
  have h2 := count_range c l []
  simp only [List.length_nil, List.nil_append] at h2
  rw [Array.length_toList]
  refine Eq.trans h ?_
  rw [hl, ← h2]
  simp [S]
theorem count_host (st : List Nat) (h : okSt st) : (hostL st).count 46 = st.length + 1 := by
  induction st with
  | nil => rfl
  | cons c r ih =>
    have hc : c ≠ 46 := by rcases h c (.head _) with rfl | rfl <;> decide
    simp only [hostL, List.count_cons, List.length_cons, ih (fun x hx => h x (.tail _ hx))]
    simp [hc]
end
section
open PySem PySem.W PySem.Calls PyProof.Rows
set_option linter.unusedVariables false
set_option linter.unusedSimpArgs false
set_option maxRecDepth 100000
theorem pat56 {P : Params} {h : Heap} (X : (hd.heap_39 P).In h) : PatAt h 56 C1 := ⟨_, _, _, _, _, _, _, _, _, _, X 56 _ rfl, X 55 _ rfl, by decide +kernel⟩
theorem pat43 {P : Params} {h : Heap} (X : (hd.heap_39 P).In h) : PatAt h 43 C2 := ⟨_, _, _, _, _, _, _, _, _, _, X 43 _ rfl, X 42 _ rfl, by decide +kernel⟩
section
variable {M : Model} {A : Around} {E : Value → Shared → Prop} {s : Shared} {pl : Sem Bool} {Q : Value × List Value → Shared → Prop} {p : Addr} {code : Array Nat}
theorem gm_search (hp : PatAt s.heap p code) (h : Q (.builtin "re.Pattern.search", [.ref p]) s) : wpAny M A (getMethod (.ref p) "search" pl) Q E s := by
  obtain ⟨v0, v1, u2, u6, c, sl, sl', cvs, n, d, h1, h2, h3⟩ := hp
  exact getMethod_builtin (show s.TypeIs (.ref p) "re.Pattern" from ⟨_, h1, rfl⟩) pa_pat slot_search type_search (fun a e => by cases e; exact ⟨_, h1, rfl⟩) h
theorem gm_sub (hp : PatAt s.heap p code) (h : Q (.builtin "re.Pattern.sub", [.ref p]) s) : wpAny M A (getMethod (.ref p) "sub" pl) Q E s := by
  obtain ⟨v0, v1, u2, u6, c, sl, sl', cvs, n, d, h1, h2, h3⟩ := hp
  exact getMethod_builtin (show s.TypeIs (.ref p) "re.Pattern" from ⟨_, h1, rfl⟩) pa_pat slot_sub type_sub (fun a e => by cases e; exact ⟨_, h1, rfl⟩) h
end
theorem rg_Ct1_0 : True := by
  k_with_none
  k_with "mine lt" => (first | with_reducible assumption | with_reducible exact cj0 (by with_reducible assumption) | with_reducible exact cj1 (by with_reducible assumption) | with_reducible exact cl1 (by with_reducible assumption) | with_reducible exact cj2 (by with_reducible assumption) | with_reducible exact cl2 (by with_reducible assumption) | with_reducible exact cj3 (by with_reducible assumption) | with_reducible exact cl3 (by with_reducible assumption) | with_reducible exact cj4 (by with_reducible assumption) | with_reducible exact cl4 (by with_reducible assumption) | with_reducible exact cj5 (by with_reducible assumption) | with_reducible exact cl5 (by with_reducible assumption) | with_reducible exact cj6 (by with_reducible assumption) | with_reducible exact cl6 (by with_reducible assumption) | with_reducible exact cj7 (by with_reducible assumption) | with_reducible exact cl7 (by with_reducible assumption) | with_reducible exact cj8 (by with_reducible assumption) | with_reducible exact cl8 (by with_reducible assumption) | with_reducible exact cj9 (by with_reducible assumption) | with_reducible exact cl9 (by with_reducible assumption) | with_reducible exact cj10 (by with_reducible assumption) | with_reducible exact cl10 (by with_reducible assumption) | with_reducible exact cj11 (by with_reducible assumption) | with_reducible exact cl11 (by with_reducible assumption) | with_reducible exact cj12 (by with_reducible assumption) | with_reducible exact cl12 (by with_reducible assumption))
  k_with "mine om" => (first | with_reducible assumption | decide | with_reducible exact rm1 (by with_reducible assumption) | with_reducible exact rm2 (by with_reducible assumption) (by decide) | with_reducible exact rm3 (by with_reducible assumption) (by decide) | with_reducible exact rm9 (by with_reducible assumption) (by decide) | with_reducible exact rm8 (by with_reducible assumption) (by decide) | with_reducible exact rm7 (by with_reducible assumption) (by decide) | with_reducible exact rm4 (by with_reducible assumption) (by decide) | with_reducible exact rm5 (by with_reducible assumption) (by decide) | with_reducible exact rm6 (by with_reducible assumption) (by decide) | with_reducible exact ih2 _ | with_reducible exact ih1 (by with_reducible assumption) | with_reducible exact three_of (by with_reducible assumption) | with_reducible exact two_lt (by with_reducible assumption) | with_reducible exact three_lt (by with_reducible assumption) | with_reducible exact lt_of8 (by with_reducible assumption) (by decide) | with_reducible exact le_of (by with_reducible assumption) (by decide) | with_reducible exact le_of3 (by with_reducible assumption) (by decide) | with_reducible exact le_of4 (by with_reducible assumption) (by decide) | (with_reducible refine Nat.ne_of_lt ?_; walk_at "mine lt") | (with_reducible refine Nat.ne_of_gt ?_; walk_at "mine lt") | with_reducible exact And.left (by with_reducible assumption) | with_reducible exact And.right (by with_reducible assumption))
  k_with "getMethod ref" => ((k_here; first | (refine gm_search (pat56 (by k_in)) ?_) | (refine gm_sub (pat43 (by k_in)) ?_)))
  k_with "call builtin:re.Pattern.search" => ((k_here; (try dsimp only); refine search_none (pat56 (by k_in)) (by assumption) (by assumption) (by assumption) ?_))
  trivial
set_option maxHeartbeats 4000000
theorem lib_con (w : World) (x : PySem.Str) (t : Tok) (news : Led) (hx : x.cps.size ≤ 1000000) (h2 : 2 ≤ x.cps.size) (hd : ∀ i, Sre.isDigit (x.cps.getD i 0) = false) :
    Con w 70 1 [.str x t] news (fun r ns => ns = news ∧ r = .bool true) := by
  unfold Con
  k_fill
  intro dp un gd cn cs a ccd cl outer A₀ base h₀ L m s Q E mean mg mb B F X N T hk hd hu hret
  refine wpAny_call ?_
  k_dflt cell_enter
  k_steps
  exact hret _ _ _ _ (by k_asm) (by k_asm) ⟨rfl, rfl⟩
theorem hdn_con (w : World) (l : List Nat) (t : Tok) (news : Led) (hx : (S l).cps.size ≤ 1000000) (h2 : 2 ≤ (S l).cps.size) (hd : ∀ i, Sre.isDigit ((S l).cps.getD i 0) = false)
    (e0 : (S l == PySem.Str.ofString "") = false) (e1 : (Txt.item (S l) 0 == PySem.Str.ofString ".") = false) (e2 : (Txt.item (S l) (-1) == PySem.Str.ofString ".") = false) :
    Con w 63 1 [.str (S l) t] news (fun r ns => ns = news ∧ r = .bool true) := by
  unfold Con
  k_fill
  intro dp un gd cn cs a ccd cl outer A₀ base h₀ L m s Q E mean mg mb B F X N T hk hdp hu hret
  have hp : 1 ≤ (S l).length := by show 1 ≤ (S l).cps.size; omega
  refine wpAny_call ?_
  k_dflt cell_enter
  k_steps
  all_goals first
    | exact hret _ _ _ _ (by k_asm) (by k_asm) ⟨rfl, rfl⟩
    | (exfalso; have q := (by assumption : (S l == PySem.Str.ofString "") = true); rw [e0] at q; cases q)
    | (exfalso; have q := (by assumption : (Txt.item (S l) 0 == PySem.Str.ofString ".") = true); rw [e1] at q; cases q)
    | (exfalso; have q := (by assumption : (Txt.item (S l) (-1) == PySem.Str.ofString ".") = true); rw [e2] at q; cases q)

theorem con_use {w : World} {f : Addr} {need : Nat} {vs : List Value} {news : Led} {Ret : Value → Led → Prop} {dp un : Nat} {gd : Option (List Code)} {cn : PySem.Str} {cs : Scope} {a : Addr} {ccd : Value} {cl : List (PySem.Str × Addr)} {outer : List Env}
    {A₀ : Around} {base h₀ : Heap} {L : Addr} {m : PySem.Str → Option Value} {s : Shared} {Q E : Value → Shared → Prop} {mean : ExcName → Option Value} {mg mb : PySem.Str → Option Value}
    (B : Below A₀ base outer h₀) (F : Fr h₀ L s.heap m) (X : (hd.heap_39 w.params).In h₀) (N : News h₀ L s.heap news) (T : Top topProg looseX mean mg mb h₀) (hk : cs.kind = .function)
    (C : Con w f need vs news Ret) (hd : dp + need < recursionLimit) (hu : un + 8 * need < cLine)
    (ret : ∀ r news' h' tk', Fr h₀ L h' m → News h₀ L h' news' → Ret r news' → Q r { s with heap := h', toks := tk' }) :
    wpAny (model PySem.Challenge.rw_xe0019_01.row.prog w) (ktrTop dp un gd cn cs L a ccd cl outer) (call (.ref f) vs) Q E s :=
  C dp un gd cn cs a ccd cl outer A₀ base h₀ L m s Q E mean mg mb B F X N T hk hd hu ret

/-- the ledger stays, the value is told -/
theorem con_same {w : World} {f : Addr} {need : Nat} {vs : List Value} {news : Led} (P : Value → Prop) {dp un : Nat} {gd : Option (List Code)} {cn : PySem.Str} {cs : Scope} {a : Addr} {ccd : Value} {cl : List (PySem.Str × Addr)} {outer : List Env}
    {A₀ : Around} {base h₀ : Heap} {L : Addr} {m : PySem.Str → Option Value} {s : Shared} {Q E : Value → Shared → Prop} {mean : ExcName → Option Value} {mg mb : PySem.Str → Option Value}
    (B : Below A₀ base outer h₀) (F : Fr h₀ L s.heap m) (X : (hd.heap_39 w.params).In h₀) (N : News h₀ L s.heap news) (T : Top topProg looseX mean mg mb h₀) (hk : cs.kind = .function)
    (C : Con w f need vs news (fun r ns => ns = news ∧ P r)) (hd : dp + need < recursionLimit) (hu : un + 8 * need < cLine)
    (ret : ∀ r h' tk', P r → Fr h₀ L h' m → News h₀ L h' news → Q r { s with heap := h', toks := tk' }) :
    wpAny (model PySem.Challenge.rw_xe0019_01.row.prog w) (ktrTop dp un gd cn cs L a ccd cl outer) (call (.ref f) vs) Q E s :=
  con_use B F X N T hk C hd hu fun r news' h' tk' F' N' e => by obtain ⟨rfl, p⟩ := e; exact ret r h' tk' p F' N'

theorem host_parts {st : List Nat} (h : okSt st) : (S (hostL st) == PySem.Str.ofString "") = false ∧ (Txt.item (S (hostL st)) 0 == PySem.Str.ofString ".") = false ∧ (Txt.item (S (hostL st)) (-1) == PySem.Str.ofString ".") = false := by
  have hd : PySem.Str.ofString "." = S [46] := by decide +kernel
  have he : PySem.Str.ofString "" = S [] := by decide +kernel
  have hne : ∀ a b : List Nat, a ≠ b → (S a == S b) = false := fun a b q => by
    rw [beq_eq_false_iff_ne]; exact fun e => q (S_inj e)
  have hlen := hostL_len st
  refine ⟨?_, ?_, ?_⟩
  · rw [he]; refine hne _ _ ?_; cases st <;> simp [hostL, tailL]
  · have : Txt.item (S (hostL st)) 0 = S [(hostL st).getD 0 0] := by
      unfold Txt.item Txt.charAt
      have e : seqIndex? 0 (S (hostL st)).length = some 0 := by
        rw [S_len, hlen]; unfold seqIndex?; simp; omega
      rw [e]
      show (⟨#[((S (hostL st)).cps[0]?).getD 0]⟩ : PySem.Str) = _
      simp [S]
    rw [this, hd]
    refine hne _ _ ?_
    cases st with
    | nil => decide
    | cons c r => rcases h c (.head _) with rfl | rfl <;> simp [hostL]
  · have : Txt.item (S (hostL st)) (-1) = S [108] := by
      have hl : ∃ a, hostL st = a ++ [108] := by
        cases st with
        | nil => exact ⟨[98, 46, 108, 111, 99, 97], rfl⟩
        | cons c r =>
          obtain ⟨a, e⟩ := hostL_ends (st := c :: r) (by simp)
          exact ⟨a ++ [46, 98, 46, 108, 111, 99, 97], by rw [e]; simp [tailL]⟩
      obtain ⟨a, e⟩ := hl
      unfold Txt.item Txt.charAt
      have e2 : seqIndex? (-1) (S (hostL st)).length = some a.length := by
        rw [S_len, e]; unfold seqIndex?; simp; omega
      rw [e2, e]
      show (⟨#[((S (a ++ [108])).cps[a.length]?).getD 0]⟩ : PySem.Str) = _
      simp [S]
    rw [this, hd]
    exact hne _ _ (by decide)
theorem hdn_host (w : World) {st : List Nat} (h : okSt st) (hs : st.length ≤ 100) (t : Tok) (news : Led) : Con w 63 1 [.str (S (hostL st)) t] news (fun r ns => ns = news ∧ r = .bool true) := by
  obtain ⟨a, b, c⟩ := host_parts h
  have hl : (S (hostL st)).cps.size = 2 * st.length + 7 := by rw [← hostL_len]; exact S_len _
  exact hdn_con w _ t news (by omega) (by omega) (digits_list (hostL_ok h)) a b c
theorem lib_list (w : World) {l : List Nat} (h : ∀ c ∈ l, okC c = true) (h2 : 2 ≤ l.length) (hs : l.length ≤ 1000) (t : Tok) (news : Led) : Con w 70 1 [.str (S l) t] news (fun r ns => ns = news ∧ r = .bool true) := by
  have hl : (S l).cps.size = l.length := S_len _
  exact lib_con w _ t news (by omega) (by omega) (digits_list h)
end
section
open PySem PySem.W PySem.Calls PyProof.Rows
set_option linter.unusedVariables false
set_option linter.unusedSimpArgs false
set_option maxRecDepth 100000
set_option maxHeartbeats 4000000

section
variable {prog : Program} {w : World} {A : Around} {E : Value → Shared → Prop} {s : Shared} {Q : Value → Shared → Prop}
theorem lower_ok {l : List Nat} {t : Tok} (h : ∀ c ∈ l, okC c = true) (hl : l.length ≤ 1000) (hq : Q (.str (S l) s.toks) { s with toks := s.toks + 1 }) : wpAny (model prog w) A (call (.builtin "str.lower") [.str (S l) t]) Q E s :=
  PyProof.Rows.SCL.lower (by rw [S_len]; omega) fun _ => by rw [lower_list h]; exact hq
end
theorem rg_Ct2_0 : True := by
  k_with_none
  k_with "mine lt" => (first | with_reducible assumption | with_reducible exact cj0 (by with_reducible assumption) | with_reducible exact cj1 (by with_reducible assumption) | with_reducible exact cl1 (by with_reducible assumption) | with_reducible exact cj2 (by with_reducible assumption) | with_reducible exact cl2 (by with_reducible assumption) | with_reducible exact cj3 (by with_reducible assumption) | with_reducible exact cl3 (by with_reducible assumption) | with_reducible exact cj4 (by with_reducible assumption) | with_reducible exact cl4 (by with_reducible assumption) | with_reducible exact cj5 (by with_reducible assumption) | with_reducible exact cl5 (by with_reducible assumption) | with_reducible exact cj6 (by with_reducible assumption) | with_reducible exact cl6 (by with_reducible assumption) | with_reducible exact cj7 (by with_reducible assumption) | with_reducible exact cl7 (by with_reducible assumption) | with_reducible exact cj8 (by with_reducible assumption) | with_reducible exact cl8 (by with_reducible assumption) | with_reducible exact cj9 (by with_reducible assumption) | with_reducible exact cl9 (by with_reducible assumption) | with_reducible exact cj10 (by with_reducible assumption) | with_reducible exact cl10 (by with_reducible assumption) | with_reducible exact cj11 (by with_reducible assumption) | with_reducible exact cl11 (by with_reducible assumption) | with_reducible exact cj12 (by with_reducible assumption) | with_reducible exact cl12 (by with_reducible assumption))
  k_with "mine om" => (first | with_reducible assumption | decide | with_reducible exact rm1 (by with_reducible assumption) | with_reducible exact rm2 (by with_reducible assumption) (by decide) | with_reducible exact rm3 (by with_reducible assumption) (by decide) | with_reducible exact rm9 (by with_reducible assumption) (by decide) | with_reducible exact rm8 (by with_reducible assumption) (by decide) | with_reducible exact rm7 (by with_reducible assumption) (by decide) | with_reducible exact rm4 (by with_reducible assumption) (by decide) | with_reducible exact rm5 (by with_reducible assumption) (by decide) | with_reducible exact rm6 (by with_reducible assumption) (by decide) | with_reducible exact ih2 _ | with_reducible exact ih1 (by with_reducible assumption) | with_reducible exact three_of (by with_reducible assumption) | with_reducible exact two_lt (by with_reducible assumption) | with_reducible exact three_lt (by with_reducible assumption) | with_reducible exact lt_of8 (by with_reducible assumption) (by decide) | with_reducible exact le_of (by with_reducible assumption) (by decide) | with_reducible exact le_of3 (by with_reducible assumption) (by decide) | with_reducible exact le_of4 (by with_reducible assumption) (by decide) | (with_reducible refine Nat.ne_of_lt ?_; walk_at "mine lt") | (with_reducible refine Nat.ne_of_gt ?_; walk_at "mine lt") | with_reducible exact And.left (by with_reducible assumption) | with_reducible exact And.right (by with_reducible assumption))
  k_with "execs cons" => (refine wpAny_execs_cons ?_; k_fold)
  k_with "call builtin:str.lower" => ((k_here; (try dsimp only); refine lower_ok (by assumption) (by assumption) ?_))
  k_with "call ref" => ((k_here; (with_reducible show wpAny _ _ (call (Value.ref 70) [Value.str _ _]) _ _ _); (k_dflt (refine' con_same _ ?q9k1 ?q9k2 ?q9k3 ?q9k4 ?q9k5 ?q9kK (lib_list _ (by assumption) (by assumption) (by assumption) _ _) ?q9kd ?q9ku ?_); (case q9k1 => k_asm); (case q9k2 => k_asm); (case q9k3 => k_asm); (case q9k4 => k_asm); (case q9k5 => k_asm); (case q9kK => first | exact rfl | assumption); (case q9kd => ktr_room); (case q9ku => ktr_units); intro _ _ _ p9 _ _; subst p9; (try dsimp only); (try k_fold))))
  k_with "call ref" => ((k_here; (with_reducible show wpAny _ _ (call (Value.ref 63) [Value.str _ _]) _ _ _); (k_dflt (refine' con_same _ ?q9k1 ?q9k2 ?q9k3 ?q9k4 ?q9k5 ?q9kK (hdn_host _ (by assumption) (by assumption) _ _) ?q9kd ?q9ku ?_); (case q9k1 => k_asm); (case q9k2 => k_asm); (case q9k3 => k_asm); (case q9k4 => k_asm); (case q9k5 => k_asm); (case q9kK => first | exact rfl | assumption); (case q9kd => ktr_room); (case q9ku => ktr_units); intro _ _ _ p9 _ _; subst p9; (try dsimp only); (try k_fold))))
  trivial
theorem udm_con (w : World) (st : List Nat) (t u : Tok) (news : Led) (h : okSt st) (hs : st.length ≤ 100) :
    Con w 77 2 [.str (S (hostL st)) t, .str (S (46 :: tailL)) u] news (fun r ns => ns = news ∧ r = .bool (!st.isEmpty)) := by
  unfold Con
  k_fill
  intro dp un gd cn cs a ccd cl outer A₀ base h₀ L m s Q E mean mg mb B F X N T hk hdp hu hret
  have a1 := hostL_ok h
  have a2 : (hostL st).length ≤ 1000 := by rw [hostL_len]; omega
  have a3 : 2 ≤ (hostL st).length := by rw [hostL_len]; omega
  have b1 : ∀ c ∈ 46 :: tailL, okC c = true := by decide
  have b2 : (46 :: tailL).length ≤ 1000 := by decide
  have b3 : 2 ≤ (46 :: tailL).length := by decide
  have hd : PySem.Str.ofString "." = S [46] := by decide +kernel
  have c1 : Txt.startswith (S (46 :: tailL)) (PySem.Str.ofString ".") = true := by rw [hd]; exact starts_dot _
  have c2 := host_ends st
  refine wpAny_call ?_
  k_dflt cell_enter
  k_steps
  all_goals first
    | (have q := (by assumption : Txt.endswith (S (hostL st)) (S (46 :: tailL)) = true); rw [c2] at q; exact hret _ _ _ _ (by k_asm) (by k_asm) ⟨rfl, by rw [q]⟩)
    | (have q := (by assumption : Txt.endswith (S (hostL st)) (S (46 :: tailL)) = false); rw [c2] at q; exact hret _ _ _ _ (by k_asm) (by k_asm) ⟨rfl, by rw [q]⟩)
theorem slice_from (l : List Nat) (i : Nat) (h : i ≤ l.length) : Txt.slice (S l) (some (i : Int)) none = S (l.drop i) := by
  have := StrLaws.sliceText_from (x := S l) (i := (i : Int)) ⟨by omega, by simp [S]; omega⟩
  refine Eq.trans this ?_
  simp [S]
  exact List.take_of_length_le (by simp)
theorem slice_to_neg (l : List Nat) (k : Nat) (h : k ≤ l.length) (hk : 0 < k) : Txt.slice (S l) none (some (-(k : Int))) = S (l.take (l.length - k)) := by
  have := StrLaws.sliceText_to_neg (x := S l) (j := -(k : Int)) (by omega) (by rw [S_len]; omega)
  refine Eq.trans this ?_
  simp [S, PySem.Str.length]
  congr 1
  rw [show -(k : Int) + (l.length : Int) = ((l.length - k : Nat) : Int) by omega, Int.toNat_natCast]
  exact Nat.min_eq_left (Nat.sub_le _ _)
theorem slice_host (c : Nat) (st : List Nat) (i : Int) (hi : i = 1) : Txt.slice (S (hostL (c :: st))) (some (i + 1)) none = S (hostL st) := by
  subst hi
  exact slice_from (hostL (c :: st)) 2 (by rw [hostL_len]; simp only [List.length_cons]; omega)
theorem reach_con (w : World) (c : Nat) (st : List Nat) (t : Tok) (news : Led) (h : okSt (c :: st)) (hs : (c :: st).length ≤ 100) :
    Con w 84 2 [.str (S (hostL (c :: st))) t] news (fun r ns => ns = news ∧ ∃ u, r = .str (S (46 :: hostL st)) u) := by
  unfold Con
  k_fill
  intro dp un gd cn cs a ccd cl outer A₀ base h₀ L m s Q E mean mg mb B F X N T hk hdp hu hret
  have hd : PySem.Str.ofString "." = S [46] := by decide +kernel
  have c1 : Txt.find (S (hostL (c :: st))) (PySem.Str.ofString ".") = 1 := by rw [hd]; exact find_host h
  have c2 : Txt.find (S (hostL st)) (PySem.Str.ofString ".") = 1 := by rw [hd]; exact find_host fun x hx => h x (.tail _ hx)
  have a2 : (S (hostL (c :: st))).length ≤ 1000 := by rw [S_len, hostL_len]; omega
  have c3 := slice_host c st _ c1
  refine wpAny_call ?_
  k_dflt cell_enter
  k_steps
  all_goals first
    | exact hret _ _ _ _ (by k_asm) (by k_asm) ⟨rfl, _, by rw [c3, hd, S_append]; rfl⟩
    | (exfalso; have q := (by assumption : ¬ 0 ≤ Txt.find (Txt.slice (S (hostL (c :: st))) (some (Txt.find (S (hostL (c :: st))) (PySem.Str.ofString ".") + 1)) none) (PySem.Str.ofString ".")); rw [c3, c2] at q; omega)
end
section
open PySem PySem.W PySem.Calls PyProof.Rows
set_option linter.unusedVariables false
set_option linter.unusedSimpArgs false
set_option maxRecDepth 100000
set_option maxHeartbeats 4000000

theorem rg_Ct3_0 : True := by
  k_with_none
  k_with "mine lt" => (first | with_reducible assumption | with_reducible exact cj0 (by with_reducible assumption) | with_reducible exact cj1 (by with_reducible assumption) | with_reducible exact cl1 (by with_reducible assumption) | with_reducible exact cj2 (by with_reducible assumption) | with_reducible exact cl2 (by with_reducible assumption) | with_reducible exact cj3 (by with_reducible assumption) | with_reducible exact cl3 (by with_reducible assumption) | with_reducible exact cj4 (by with_reducible assumption) | with_reducible exact cl4 (by with_reducible assumption) | with_reducible exact cj5 (by with_reducible assumption) | with_reducible exact cl5 (by with_reducible assumption) | with_reducible exact cj6 (by with_reducible assumption) | with_reducible exact cl6 (by with_reducible assumption) | with_reducible exact cj7 (by with_reducible assumption) | with_reducible exact cl7 (by with_reducible assumption) | with_reducible exact cj8 (by with_reducible assumption) | with_reducible exact cl8 (by with_reducible assumption) | with_reducible exact cj9 (by with_reducible assumption) | with_reducible exact cl9 (by with_reducible assumption) | with_reducible exact cj10 (by with_reducible assumption) | with_reducible exact cl10 (by with_reducible assumption) | with_reducible exact cj11 (by with_reducible assumption) | with_reducible exact cl11 (by with_reducible assumption) | with_reducible exact cj12 (by with_reducible assumption) | with_reducible exact cl12 (by with_reducible assumption))
  k_with "mine om" => (first | with_reducible assumption | decide | with_reducible exact rm1 (by with_reducible assumption) | with_reducible exact rm2 (by with_reducible assumption) (by decide) | with_reducible exact rm3 (by with_reducible assumption) (by decide) | with_reducible exact rm9 (by with_reducible assumption) (by decide) | with_reducible exact rm8 (by with_reducible assumption) (by decide) | with_reducible exact rm7 (by with_reducible assumption) (by decide) | with_reducible exact rm4 (by with_reducible assumption) (by decide) | with_reducible exact rm5 (by with_reducible assumption) (by decide) | with_reducible exact rm6 (by with_reducible assumption) (by decide) | with_reducible exact ih2 _ | with_reducible exact ih1 (by with_reducible assumption) | with_reducible exact three_of (by with_reducible assumption) | with_reducible exact two_lt (by with_reducible assumption) | with_reducible exact three_lt (by with_reducible assumption) | with_reducible exact lt_of8 (by with_reducible assumption) (by decide) | with_reducible exact le_of (by with_reducible assumption) (by decide) | with_reducible exact le_of3 (by with_reducible assumption) (by decide) | with_reducible exact le_of4 (by with_reducible assumption) (by decide) | (with_reducible refine Nat.ne_of_lt ?_; walk_at "mine lt") | (with_reducible refine Nat.ne_of_gt ?_; walk_at "mine lt") | with_reducible exact And.left (by with_reducible assumption) | with_reducible exact And.right (by with_reducible assumption))
  k_with "getMethod ref" => ((k_here; first | (refine gm_search (pat56 (by k_in)) ?_) | (refine gm_sub (pat43 (by k_in)) ?_)))
  trivial
theorem mul_sp (k : Nat) : Txt.mul (S [32]) (k : Int) = S (List.replicate k 32) := by
  unfold Txt.mul
  by_cases h : (k : Int) < 1
  · have : k = 0 := by omega
    subst this; rfl
  · rw [if_neg h]
    have hl : (S [32]).length = 1 := rfl
    by_cases h1 : k = 1
    · subst h1; rfl
    · have e : ((k : Int) == 1 || (S [32]).length == 0) = false := by
        rw [hl]; simp; omega
      rw [e, if_neg (by decide), Int.toNat_natCast]
      have key : ∀ (n : Nat) (acc : Array Nat), (List.replicate n (S [32]).cps).foldl (· ++ ·) acc = acc ++ (List.replicate n 32).toArray := by
        intro n
        induction n with
        | zero => intro acc; simp
        | succ n ih =>
          intro acc
          rw [List.replicate_succ, List.foldl_cons, ih, List.replicate_succ]
          apply Array.ext'
          simp [S]
      rw [key]
      simp [S]
theorem mulOk_sp {k : Nat} (h : k ≤ 1000) : MulOk (S [32]) (k : Int) := by
  have hl : (S [32]).length = 1 := rfl
  refine ⟨by simp; omega, fun h1 h2 => ?_, fun h1 h2 => ?_⟩
  · rw [hl]
    have : (2 ^ 63 - 1 : Int) / (k : Int) ≥ 1 := by
      rw [ge_iff_le, Int.le_ediv_iff_mul_le (by omega)]; omega
    omega
  · rw [hl]; unfold Builtin.Str.tooLong sizeLine; simp; omega
section
variable {prog : Program} {w : World} {A : Around} {E : Value → Shared → Prop} {s : Shared} {Q : Value → Shared → Prop}
theorem str_mul {k : Nat} {t u : Tok} (h : k ≤ 1000) (hq : ∀ t' n, Q (.str (S (List.replicate k 32)) t') { s with toks := n }) : wpAny (model prog w) A (binaryOp .Mult (.str (S [32]) t) (.int k u)) Q E s :=
  SB.mul (mulOk_sp h) fun t' n => by rw [mul_sp]; exact hq t' n
theorem int_mul {k : Nat} {t u : Tok} (h : k ≤ 1000) (hq : ∀ t' n, Q (.str (S (List.replicate k 32)) t') { s with toks := n }) : wpAny (model prog w) A (binaryOp .Mult (.int k u) (.str (S [32]) t)) Q E s := by
  obtain ⟨h1, h2, h3⟩ := mulOk_sp h
  refine lm_binaryOp_repeat_right (T := "str") (U := "int") (by decide) (fun s' => typeIs_int s' _ u) (typeIs_str _ _ _) F.fills_int_mul noFill_str_mul F.slot_int_mul lm_noRepeat_int repeat_str F.slot_int_index.lookup
    (call_gives F.slot_int_mul (typeIs_int s _ u) F.entry_int_mul (F.args_int_mul_2 _ _) (AutoIntG3.int___mul___int_str_0 _ u _ t) ⟨rfl, typeIs_str _ _ _, ?_⟩)
  refine call_gives F.slot_str_mul (typeIs_str s _ t) F.entry_str_mul (F.args_str_mul_2 _ _) (gives_str_mul _ _ t u h1 h2 h3) ?_
  have hq' : ∀ t' n, Q (.str (Txt.mul (S [32]) k) t') { s with toks := n } := fun t' n => by rw [mul_sp]; exact hq t' n
  unfold Txt.mul at hq'
  by_cases h4 : (k : Int) < 1
  · rw [if_pos h4]; have h' := hq' s.toks (s.toks + 1); rw [if_pos h4] at h'; exact ⟨by decide, h'⟩
  · rw [if_neg h4]
    refine post_val_or_made (fun hc => fits_reps (h3 h4 (by simpa using hc))) fun t' n => ?_
    have h' := hq' t' n; rw [if_neg h4] at h'; exact h'
theorem add_S {a b : List Nat} {t u : Tok} (h : a.length + b.length ≤ 1000000) (hq : ∀ t' n, Q (.str (S (a ++ b)) t') { s with toks := n }) : wpAny (model prog w) A (binaryOp .Add (.str (S a) t) (.str (S b) u)) Q E s :=
  SB.add (fun t' n => by rw [S_append]; exact hq t' n) (by
    have e : sizeLine = 16777216 := by decide
    rw [S_len, S_len, e]; omega)
end
noncomputable def lets (n : Int) : List Nat := [[], [], [], [97], [98], [97, 97], [97, 98], [98, 97], [98, 98]].getD ((n.fdiv 2).fmod 9).toNat []
noncomputable def nxt (n : Int) : Nat := (n.fmod 2).toNat
noncomputable def wordL (n : Int) : List Nat := (48 + nxt n) :: lets n
theorem word_eq1 (n : Int) : PySem.Str.ofString (toString (n.fmod 2)) = S [48 + nxt n] := by
  unfold nxt
  have h0 : 0 ≤ n.fmod 2 := Int.fmod_nonneg_of_pos _ (by decide)
  have h1 : n.fmod 2 < 2 := Int.fmod_lt_of_pos _ (by decide)
  generalize n.fmod 2 = k at h0 h1
  have : k = 0 ∨ k = 1 := by omega
  rcases this with rfl | rfl <;> decide +kernel
theorem word_eq2 (k : Nat) : [PySem.Str.ofString "", PySem.Str.ofString "", PySem.Str.ofString "", PySem.Str.ofString "a", PySem.Str.ofString "b", PySem.Str.ofString "aa",
          PySem.Str.ofString "ab", PySem.Str.ofString "ba", PySem.Str.ofString "bb"].getD k PySem.Str.empty = S ([[], [], [], [97], [98], [97, 97], [97, 98], [98, 97], [98, 98]].getD k []) := by
  have e : [PySem.Str.ofString "", PySem.Str.ofString "", PySem.Str.ofString "", PySem.Str.ofString "a", PySem.Str.ofString "b", PySem.Str.ofString "aa",
          PySem.Str.ofString "ab", PySem.Str.ofString "ba", PySem.Str.ofString "bb"] = [[], [], [], [97], [98], [97, 97], [97, 98], [98, 97], [98, 98]].map S := by decide +kernel
  rw [e]
  rw [List.getD_eq_getElem?_getD, List.getElem?_map, List.getD_eq_getElem?_getD]
  cases ([[], [], [], [97], [98], [97, 97], [97, 98], [98, 97], [98, 98]] : List (List Nat))[k]? <;> rfl
theorem lets_tab : ∀ k, k < 9 → (([[], [], [], [97], [98], [97, 97], [97, 98], [98, 97], [98, 98]] : List (List Nat)).getD k []).length ≤ 2 ∧ ∀ c ∈ ([[], [], [], [97], [98], [97, 97], [97, 98], [98, 97], [98, 98]] : List (List Nat)).getD k [], c = 97 ∨ c = 98 := by decide +kernel
theorem lets_both (n : Int) : (lets n).length ≤ 2 ∧ okSt (lets n) := by
  unfold lets
  generalize ((n.fdiv 2).fmod 9).toNat = k
  rcases Nat.lt_or_ge k 9 with h | h
  · exact lets_tab k h
  · rw [List.getD_eq_getElem?_getD, List.getElem?_eq_none (by simpa using h)]; exact ⟨by decide, fun c hc => by cases hc⟩
theorem lets_len (n : Int) : (lets n).length ≤ 2 := (lets_both n).1
theorem lets_ok (n : Int) : okSt (lets n) := (lets_both n).2
theorem nxt_lt (n : Int) : nxt n < 2 := by
  unfold nxt
  have h0 : 0 ≤ n.fmod 2 := Int.fmod_nonneg_of_pos _ (by decide)
  have h1 : n.fmod 2 < 2 := Int.fmod_lt_of_pos _ (by decide)
  omega
theorem word_con (w : World) (n : Int) (t : Tok) (news : Led) (h0 : 0 ≤ n) (h1 : n < 1000000) : Con w 168 1 [.int n t] news (fun r ns => ns = news ∧ ∃ t, r = .str (S (wordL n)) t) := by
  unfold Con
  k_fill
  intro dp un gd cn cs a ccd cl outer A₀ base h₀ L m s Q E mean mg mb B F X N T hk hdp hu hret
  refine wpAny_call ?_
  k_dflt cell_enter
  k_steps
  rw [word_eq1, word_eq2]
  refine add_S (by have := lets_len n; unfold lets at this; simp only [List.length_cons, List.length_nil]; omega) fun t' n' => ?_
  k_steps
  exact hret _ _ _ _ (by k_asm) (fun p hp => (by assumption : News h₀ L _ ((_, _) :: news)) p (.tail _ hp)) ⟨rfl, _, rfl⟩
theorem indent_con (w : World) (L : List Nat) (Ls : List (List Nat)) (k : Nat) (t u : Tok) (news : Led) (hL : ∀ M ∈ L :: Ls, okL M) (hk : k ≤ 5) (hx : (pg (L :: Ls)).length ≤ 1000) :
    Con w 51 1 [.str (S (pg (L :: Ls))) t, .int k u] news (fun r ns => ns = news ∧ ∃ t, r = .str (S (pg ((L :: Ls).map (List.replicate k 32 ++ ·)))) t) := by
  have hsp : PySem.Str.ofString " " = S [32] := by decide +kernel
  have hz : (pg ((L :: Ls).map (List.replicate k 32 ++ ·))).length ≤ 1000000 := by
    have : ∀ l : List (List Nat), (pg (l.map (List.replicate k 32 ++ ·))).length ≤ 6 * (pg l).length := by
      intro l
      induction l with
      | nil => simp [pg]
      | cons a r ih => simp [pg] at ih ⊢; omega
    have := this (L :: Ls)
    omega
  unfold Con
  k_fill
  intro dp un gd cn cs a ccd cl outer A₀ base h₀ L m s Q E mean mg mb B F X N T hk hdp hu hret
  refine wpAny_call ?_
  k_dflt (refine' code_def ?k1 ?k2 ?k3 ?k4 ?k5 ?kA ?kF ?kK ?k6 ?k7 ?k8 ?k9 ?kB ?_ ?c2 ?c3 ?c4 ?c5; (case kA => exact rfl); (case kF => exact rfl); (case kK => assumption); (case k1 => k_asm); (case k2 => k_asm); (case k3 => k_asm); (case k4 => k_asm); (case k5 => k_asm); (case k6 => k_is); (case k7 => k_is); (case k8 => ktr_room); (case k9 => exact binds_K (by k_in) rfl (by k_is) rfl rfl rfl); (case c5 => decide); (case kB => exact locs rfl); (case c2 => exact rfl); (case c3 => exact rfl); (case c4 => exact rfl); k_whole; intro g' L' h' FG' F' N' B' X' T'; (try dsimp only); (try k_lift B'); (try k_fold))
  k_steps
  rw [hsp]
  refine int_mul (by omega) fun t1 n1 => ?_
  k_steps
  refine sub_page (pat43 (by k_in)) hL (by simp [List.mem_replicate]) (by omega) hz fun h2 t2 k2 x2 => ?_
  have F9 := Ext.fr (by assumption : Fr g' L' _ _) x2
  have N9 := Ext.news (by assumption : News g' L' _ _) x2
  k_steps
  exact hret _ _ _ _ (by k_asm) (by k_asm) ⟨rfl, _, rfl⟩
end
section
open PySem PySem.W PySem.Calls PyProof.Rows
set_option linter.unusedVariables false
set_option linter.unusedSimpArgs false
set_option maxRecDepth 100000
noncomputable abbrev Told3 := Option (List (List Nat) × List (List Nat) × Nat)
noncomputable def goF (rec : Nat → Nat → Nat → Told3) : List Nat → Nat → Nat → List (List Nat) → List (List Nat) → Told3
  | [], _, st, notes, page => some (notes, page, st)
  | x :: rest, deep, st, notes, page =>
    match rec st (x - 97) (deep + rest.length) with
    | none => none
    | some (n2, p2, s2) => goF rec rest deep s2 (notes ++ n2) (page ++ p2.map (List.replicate rest.length 32 ++ ·))
noncomputable def lineL (st c : Nat) : List Nat := [48 + st, 97 + c]
noncomputable def callF (ns : List Int) : Nat → Nat → Nat → Nat → List Int → Told3
  | 0, _, _, _, _ => none
  | f + 1, st, c, deep, above =>
    if above.any (· == 2 * (st : Int) + (c : Int)) then none
    else goF (fun st' c' d' => callF ns f st' c' d' (above ++ [2 * (st : Int) + (c : Int)])) (lets (ns.getD (2 * st + c) 0)) deep (nxt (ns.getD (2 * st + c) 0)) [List.replicate deep 32 ++ lineL st c] [lineL st c]

noncomputable def Fine (f deep : Nat) (r : List (List Nat) × List (List Nat) × Nat) : Prop :=
  r.2.1 ≠ [] ∧ (∀ M ∈ r.2.1, okL M ∧ M.length ≤ 2 + f) ∧ r.2.1.length + 1 ≤ 2 ^ f ∧ r.1.length = r.2.1.length ∧ r.2.2 < 2 ∧ ∀ M ∈ r.1, M.length ≤ 2 + deep + f
theorem okL_line (st c : Nat) (hs : st < 2) (hc : c < 2) : okL (lineL st c) := by
  refine ⟨by simp [lineL], ?_⟩
  simp [lineL]; omega
theorem okL_pad {M : List Nat} (k : Nat) (h : okL M) : okL (List.replicate k 32 ++ M) := by
  refine ⟨by simp [h.1], ?_⟩
  simp only [List.mem_append, List.mem_replicate, not_or]
  exact ⟨by omega, h.2⟩
theorem goF_fine {f deep : Nat} {rec : Nat → Nat → Nat → Told3} (hr : ∀ st c d r, st < 2 → c < 2 → rec st c d = some r → Fine f d r) :
    ∀ (ls : List Nat) (st : Nat) (notes page : List (List Nat)) (r : List (List Nat) × List (List Nat) × Nat), okSt ls → st < 2 → ls.length ≤ 2 → goF rec ls deep st notes page = some r → page ≠ [] → (∀ M ∈ page, okL M ∧ M.length ≤ 2 + (f + 1)) →
      notes.length = page.length → (∀ M ∈ notes, M.length ≤ 2 + deep + (f + 1)) →
      r.2.1 ≠ [] ∧ (∀ M ∈ r.2.1, okL M ∧ M.length ≤ 2 + (f + 1)) ∧ r.2.1.length + ls.length ≤ page.length + ls.length * 2 ^ f ∧ r.1.length = r.2.1.length ∧ r.2.2 < 2 ∧ ∀ M ∈ r.1, M.length ≤ 2 + deep + (f + 1) := by
  intro ls
  induction ls with
  | nil =>
    intro st notes page r hok hs hlen h hp hpg hn hnn
    simp only [goF, Option.some.injEq] at h
    subst h
    exact ⟨hp, hpg, by simp, hn, hs, hnn⟩
  | cons x rest ih =>
    intro st notes page r hok hs hlen h hp hpg hn hnn
    unfold goF at h
    cases q : rec st (x - 97) (deep + rest.length) with
    | none => rw [q] at h; cases h
    | some v =>
      obtain ⟨n2, p2, s2⟩ := v
      rw [q] at h
      have hx : x - 97 < 2 := by rcases hok x (.head _) with rfl | rfl <;> decide
      obtain ⟨a1, a2, a3, a4, a5, a6⟩ := hr st (x - 97) _ _ hs hx q
      simp only at a1 a2 a3 a4 a5 a6 h
      have hrl : rest.length ≤ 1 := by simp at hlen; omega
      have := ih s2 _ _ r (fun y hy => hok y (.tail _ hy)) a5 (by simp at hlen; omega) h (by simp [hp]) (fun M hM => by
          rcases List.mem_append.mp hM with hM | hM
          · exact hpg M hM
          · obtain ⟨M', hM', rfl⟩ := List.mem_map.mp hM
            refine ⟨okL_pad _ (a2 M' hM').1, ?_⟩
            have := (a2 M' hM').2
            simp only [List.length_append, List.length_replicate]; omega) (by simp [hn, a4]) (fun M hM => by
          rcases List.mem_append.mp hM with hM | hM
          · exact hnn M hM
          · have := a6 M hM; omega)
      refine ⟨this.1, this.2.1, ?_, this.2.2.2⟩
      have h3 := this.2.2.1
      simp only [List.length_append, List.length_map, List.length_cons, Nat.succ_mul] at h3 ⊢
      omega
theorem callF_fine (ns : List Int) : ∀ (f st c deep : Nat) (above : List Int) (r : List (List Nat) × List (List Nat) × Nat), st < 2 → c < 2 → callF ns f st c deep above = some r → Fine f deep r := by
  intro f
  induction f with
  | zero => intro st c deep above r _ _ h; cases h
  | succ f ih =>
    intro st c deep above r hs hc h
    unfold callF at h
    split at h
    · cases h
    · have := goF_fine (f := f) (deep := deep) (fun st c d r hs hc h => ih st c d _ r hs hc h) _ _ _ _ r (lets_ok _) (nxt_lt _) (lets_len _) h (by simp)
        (fun M hM => by
          rw [List.mem_singleton.mp hM]
          exact ⟨okL_line st c hs hc, by simp [lineL]⟩) rfl (fun M hM => by
          rw [List.mem_singleton.mp hM]; simp [lineL]; omega)
      refine ⟨this.1, this.2.1, ?_, this.2.2.2⟩
      have h3 := this.2.2.1
      have h4 := lets_len (ns.getD (2 * st + c) 0)
      generalize (lets (ns.getD (2 * st + c) 0)).length = n at h3 h4
      rw [Nat.pow_succ]
      have h6 : 1 ≤ 2 ^ f := Nat.one_le_two_pow
      generalize 2 ^ f = P at *
      simp only [List.length_cons, List.length_nil] at h3
      have : n = 0 ∨ n = 1 ∨ n = 2 := by omega
      rcases this with rfl | rfl | rfl <;> omega
theorem pg_len {B : Nat} : ∀ (Ls : List (List Nat)), (∀ M ∈ Ls, M.length ≤ B) → (pg Ls).length ≤ Ls.length * (B + 1)
  | [], _ => by simp [pg]
  | a :: r, h => by
    have h1 := h a (.head _)
    have h2 := pg_len r fun M hM => h M (.tail _ hM)
    simp only [pg, List.flatMap_cons, List.length_append, List.length_cons, List.length_nil, Nat.succ_mul] at h2 ⊢
    omega
noncomputable def small (M : List Nat) : Prop := ∀ c ∈ M, c < 128
theorem small_line {st c : Nat} (hs : st < 2) (hc : c < 2) : small (lineL st c) := by
  intro a ha; simp [lineL] at ha; omega
theorem small_pad {M : List Nat} (k : Nat) (h : small M) : small (List.replicate k 32 ++ M) := by
  intro a ha
  rcases List.mem_append.mp ha with ha | ha
  · have := (List.mem_replicate.mp ha).2; omega
  · exact h a ha
noncomputable def SmallR (r : List (List Nat) × List (List Nat) × Nat) : Prop := (∀ M ∈ r.1, small M) ∧ (∀ M ∈ r.2.1, small M) ∧ r.2.2 < 2
theorem goF_small {rec : Nat → Nat → Nat → Told3} (hr : ∀ st c d r, st < 2 → c < 2 → rec st c d = some r → SmallR r) {deep : Nat} :
    ∀ (ls : List Nat) (st : Nat) (notes page : List (List Nat)) (r : List (List Nat) × List (List Nat) × Nat), okSt ls → st < 2 → goF rec ls deep st notes page = some r → (∀ M ∈ notes, small M) → (∀ M ∈ page, small M) → SmallR r := by
  intro ls
  induction ls with
  | nil =>
    intro st notes page r _ hs h h1 h2
    simp only [goF, Option.some.injEq] at h
    subst h
    exact ⟨h1, h2, hs⟩
  | cons x rest ih =>
    intro st notes page r hok hs h h1 h2
    unfold goF at h
    cases q : rec st (x - 97) (deep + rest.length) with
    | none => rw [q] at h; cases h
    | some v =>
      obtain ⟨n2, p2, s2⟩ := v
      rw [q] at h
      have hx : x - 97 < 2 := by rcases hok x (.head _) with rfl | rfl <;> decide
      obtain ⟨a1, a2, a3⟩ := hr st (x - 97) _ _ hs hx q
      exact ih s2 _ _ r (fun y hy => hok y (.tail _ hy)) a3 h (fun M hM => by
          rcases List.mem_append.mp hM with hM | hM
          · exact h1 M hM
          · exact a1 M hM) (fun M hM => by
          rcases List.mem_append.mp hM with hM | hM
          · exact h2 M hM
          · obtain ⟨M', hM', rfl⟩ := List.mem_map.mp hM
            exact small_pad _ (a2 M' hM'))
theorem callF_small (ns : List Int) : ∀ (f st c deep : Nat) (above : List Int) (r : List (List Nat) × List (List Nat) × Nat), st < 2 → c < 2 → callF ns f st c deep above = some r → SmallR r := by
  intro f
  induction f with
  | zero => intro st c deep above r _ _ h; cases h
  | succ f ih =>
    intro st c deep above r hs hc h
    unfold callF at h
    split at h
    · cases h
    · exact goF_small (fun st c d r hs hc h => ih st c d _ r hs hc h) _ _ _ _ r (lets_ok _) (nxt_lt _) h
        (fun M hM => by rw [List.mem_singleton.mp hM]; exact small_pad _ (small_line hs hc)) (fun M hM => by rw [List.mem_singleton.mp hM]; exact small_line hs hc)
theorem small_pg {Ls : List (List Nat)} (h : ∀ M ∈ Ls, small M) : small (pg Ls) := by
  intro a ha
  simp only [pg, List.mem_flatMap, List.mem_append, List.mem_singleton] at ha
  obtain ⟨M, hM, ha | ha⟩ := ha
  · exact h M hM a ha
  · omega
theorem strOk_S {M : List Nat} (h : small M) : PySem.PyData.strOk (S M) = true := by
  unfold PySem.PyData.strOk
  rw [Array.all_eq_true]
  intro i hi
  have : (S M).cps[i] ∈ M := by simp [S]
  have := h _ this
  simp; omega
/-- the pairs that are being worked off -/
noncomputable def OkA (as : List Int) : Prop := as.Nodup ∧ ∀ a ∈ as, 0 ≤ a ∧ a < 4
theorem fin5 : ∀ a b c d e : Fin 4, (a ≠ b ∧ a ≠ c ∧ a ≠ d ∧ a ≠ e ∧ b ≠ c ∧ b ≠ d ∧ b ≠ e ∧ c ≠ d ∧ c ≠ e ∧ d ≠ e) → False := by decide +kernel
theorem fin_of {a : Int} (h : 0 ≤ a ∧ a < 4) : ∃ k : Fin 4, a = (k.val : Int) := ⟨⟨a.toNat, by omega⟩, by simp only; omega⟩
theorem fin_ne {a b : Fin 4} (h : ¬ (a.val : Int) = (b.val : Int)) : a ≠ b := fun e => h (by rw [e])
theorem okA_len {as : List Int} (h : OkA as) : as.length ≤ 4 := by
  match as, h with
  | [], _ | [_], _ | [_, _], _ | [_, _, _], _ | [_, _, _, _], _ => simp
  | a :: b :: c :: d :: e :: r, h =>
    exfalso
    have h1 := h.1
    simp only [List.nodup_cons, List.mem_cons, not_or] at h1
    obtain ⟨a, rfl⟩ := fin_of (h.2 a (by simp))
    obtain ⟨b, rfl⟩ := fin_of (h.2 b (by simp))
    obtain ⟨c, rfl⟩ := fin_of (h.2 c (by simp))
    obtain ⟨d, rfl⟩ := fin_of (h.2 d (by simp))
    obtain ⟨e, rfl⟩ := fin_of (h.2 e (by simp))
    exact fin5 a b c d e ⟨fin_ne h1.1.1, fin_ne h1.1.2.1, fin_ne h1.1.2.2.1, fin_ne h1.1.2.2.2.1, fin_ne h1.2.1.1, fin_ne h1.2.1.2.1, fin_ne h1.2.1.2.2.1, fin_ne h1.2.2.1.1, fin_ne h1.2.2.1.2.1, fin_ne h1.2.2.2.1.1⟩
theorem okA_add {as : List Int} {st c : Nat} (h : OkA as) (hs : st < 2) (hc : c < 2) (hno : (as.any fun x => x == 2 * (st : Int) + (c : Int)) = false) : OkA (as ++ [2 * (st : Int) + (c : Int)]) := by
  have hnot : 2 * (st : Int) + (c : Int) ∉ as := by
    intro q
    have : (as.any fun x => x == 2 * (st : Int) + (c : Int)) = true := List.any_eq_true.mpr ⟨_, q, by simp⟩
    rw [this] at hno; cases hno
  refine ⟨?_, fun a ha => ?_⟩
  · rw [List.nodup_append]
    exact ⟨h.1, by simp, fun a ha b hb => by rw [List.mem_singleton.mp hb]; exact fun e => hnot (e ▸ ha)⟩
  · rcases List.mem_append.mp ha with ha | ha
    · exact h.2 a ha
    · rw [List.mem_singleton.mp ha]; omega
end
section
open PySem PySem.W PySem.Calls PyProof.Rows
set_option linter.unusedVariables false
set_option linter.unusedSimpArgs false
set_option maxRecDepth 100000
set_option maxHeartbeats 4000000

theorem mem_of {p : Addr × Obj} {l : List (Addr × Obj)} (h : p ∈ l) : List.Mem p l := h
theorem index_ab {prog : Program} {w : World} {A : Around} {E : Value → Shared → Prop} {s : Shared} {Q : Value → Shared → Prop} {c : Nat} {t u : Tok} (hc : c < 2) (hq : Q (.int (c : Int) s.toks) { s with toks := s.toks + 1 }) :
    wpAny (model prog w) A (call (.builtin "str.index") [.str (PySem.Str.ofString "ab") t, .str (S [97 + c]) u]) Q E s := by
  have : c = 0 ∨ c = 1 := by omega
  rcases this with rfl | rfl
  · exact SC.index (i := 0) (rest := []) (by decide +kernel) hq
  · exact SC.index (i := 1) (rest := []) (by decide +kernel) hq
theorem lit_nl : PySem.Str.ofString "\n" = S [10] := by decide +kernel
theorem lit_sp : PySem.Str.ofString " " = S [32] := by decide +kernel
theorem tos {st : Nat} (h : st < 2) : PySem.Str.ofString (toString (st : Int)) = S [48 + st] := by
  have : st = 0 ∨ st = 1 := by omega
  rcases this with rfl | rfl <;> decide +kernel
theorem str_mul' {prog : Program} {w : World} {A : Around} {E : Value → Shared → Prop} {s : Shared} {Q : Value → Shared → Prop} {k : Nat} {t u : Tok} (h : k ≤ 1000) (hq : ∀ t' n, Q (.str (S (List.replicate k 32)) t') { s with toks := n }) :
    wpAny (model prog w) A (binaryOp .Mult (.str (PySem.Str.ofString " ") t) (.int k u)) Q E s := by rw [lit_sp]; exact str_mul h hq
theorem add_eq {prog : Program} {w : World} {A : Around} {E : Value → Shared → Prop} {s : Shared} {Q : Value → Shared → Prop} {x y : PySem.Str} {a b : List Nat} {t u : Tok} (hx : x = S a) (hy : y = S b) (h : a.length + b.length ≤ 1000000)
    (hq : ∀ t' n, Q (.str (S (a ++ b)) t') { s with toks := n }) : wpAny (model prog w) A (binaryOp .Add (.str x t) (.str y u)) Q E s := by subst hx hy; exact add_S h hq

section
variable {prog : Program} {w : World} {A : Around} {E : Value → Shared → Prop} {s : Shared} {Q : Value → Shared → Prop} {h₀ : Heap} {L : Addr} {m : PySem.Str → Option Value} {news : List (Addr × Obj)}
theorem intsAre_get : ∀ {vs : List Value} {ns : List Int} {k : Nat}, IntsAre vs ns → k < ns.length → ∃ t, vs[k]? = some (.int (ns.getD k 0) t)
  | _, _, k, .nil, h => by simp at h
  | _, _, 0, .cons n t r, _ => ⟨t, by simp⟩
  | _, _, k + 1, .cons n t r, h => by
    obtain ⟨u, e⟩ := intsAre_get (k := k) r (by simpa using h)
    exact ⟨u, by simpa using e⟩
theorem item_nums {value slice : PySem.Expr} {l : Addr} {vs : List Value} {ns : List Int} {k : Int} {u : Tok} {np : Int} (hl : s.heap.IsList l vs.toArray) (hi : IntsAre vs ns) (h0 : 0 ≤ k) (h1 : k < ns.length) (h2 : ns.length ≤ 1000) (e : ns.getD k.toNat 0 = np)
    (h : ∀ t, Q (.int np t) s) (hs : subscripted slice false (.ref l) (.int k u) = operate [.ref l, .int k u] (getItem (.ref l) (.int k u)) := by with_unfolding_all rfl) :
    wpAny (model prog w) A (subscriptTail value slice (.ref l) (.int k u)) Q E s := by
  obtain ⟨t, e2⟩ := intsAre_get (k := k.toNat) hi (by omega)
  rw [e] at e2
  exact tail_any hl.typeIs slot_list_getitem.lookup (wpAny_getItem_list hl h0 (by omega) (by simpa using e2) (h t)) hs
theorem nxt_int (n : Int) : n.fmod 2 = ((nxt n : Nat) : Int) := by
  unfold nxt
  have h0 : 0 ≤ n.fmod 2 := Int.fmod_nonneg_of_pos _ (by decide)
  omega
theorem mod2 {n : Int} {t u : Tok} (h : Q (.int ((nxt n : Nat) : Int) s.toks) { s with toks := s.toks + 1 }) : wpAny (model prog w) A (binaryOp .Mod (.int n t) (.int 2 u)) Q E s :=
  mod_int' (by decide) (by rw [nxt_int]; exact h)
theorem slice_word (n : Int) : Txt.slice (S (wordL n)) (some 1) none = S (lets n) := slice_from (wordL n) 1 (by simp [wordL])
theorem word_size (n : Int) : (S (wordL n)).length ≤ 1000000 := by rw [S_len]; have := lets_len n; simp only [wordL, List.length_cons]; omega
theorem callF_succ (ns : List Int) (f st c deep : Nat) (as : List Int) : callF ns (f + 1) st c deep as = if as.any (· == 2 * (st : Int) + (c : Int)) then none else goF (fun st' c' d' => callF ns f st' c' d' (as ++ [2 * (st : Int) + (c : Int)])) (lets (ns.getD (2 * st + c) 0)) deep (nxt (ns.getD (2 * st + c) 0)) [List.replicate deep 32 ++ lineL st c] [lineL st c] := rfl
theorem slice_eq_sn {value slice : PySem.Expr} {x y : PySem.Str} {t : Tok} {i : Int} {ui : Tok} (e : Txt.slice x (some i) none = y) (hF : Fr h₀ L s.heap m) (hN : News h₀ L s.heap news) (h : ∀ h' t' k, Fr h₀ L h' m → News h₀ L h' news → Q (.str y t') { s with heap := h', toks := k })
    (hsz : x.length ≤ 1000000)
    (hs : subscripted slice false (.str x t) (.ref s.heap.objs.size) = operate [.ref s.heap.objs.size, .str x t] (getItem (.str x t) (.ref s.heap.objs.size)) := by with_unfolding_all rfl)
    (ht : ∀ r, letTemporaryGo value (.str x t) r = pure () := by intro _; with_unfolding_all rfl) :
    wpAny (model prog w) A (subscriptTail value slice (.str x t) (.ref s.heap.objs.size)) Q E { s with heap := s.heap.push { cls := .type "slice", data := .fields #[.int i ui, .none, .none] } } := by
  subst e
  exact slice_strN_sn hF hN h hs ht (by
    have e : sizeLine = 16777216 := by decide
    rw [e]; omega)
theorem len_S {l : List Nat} {t : Tok} {k : Nat} (e : l.length = k) (hk : k ≤ 1000000) (h : Q (.int (k : Int) (s.toks + 1)) { s with toks := s.toks + 1 + 1 }) : wpAny (model prog w) A (call (.builtin "len") [.str (S l) t]) Q E s := by
  subst e
  exact P.len_str (by rw [S_len]; omega) (by rw [S_len]; exact h)
noncomputable def strL (l : List (PySem.Str × Tok)) : List Value := strValues l
theorem add_strs {a b : Addr} {its its2 : Array Value} {l1 l2 : List (PySem.Str × Tok)} (F : Fr h₀ L s.heap m) (N : News h₀ L s.heap news) (ha : s.heap.IsList a its) (hb : s.heap.IsList b its2) (e1 : its.toList = strValues l1) (e2 : its2.toList = strValues l2)
    (h : ∀ D h', Fr h₀ L h' m → News h₀ L h' ((D, W.listOf (strValues (l1 ++ l2)).toArray 0) :: news) → (∀ p ∈ news, p.1 < D) → Q (.ref D) { s with heap := h' })
    (hz : l1.length + l2.length ≤ 100000) : wpAny (model prog w) A (binaryOp .Add (.ref a) (.ref b)) Q E s :=
  kmk_add_lit F N ha hb (zs := strValues (l1 ++ l2)) (by rw [e1, e2, strValues_append]) h (by
    have e : sizeLine = 16777216 := by decide
    rw [e1, e2, e]; simp [strValues]; omega)
theorem add_strsA {a b : Addr} {l1 l2 : List (PySem.Str × Tok)} {n1 n2 : Nat} (F : Fr h₀ L s.heap m) (N : News h₀ L s.heap news) (ha : (a, W.listOf (strValues l1).toArray n1) ∈ news) (hb : (b, W.listOf (strValues l2).toArray n2) ∈ news)
    (h : ∀ D h', Fr h₀ L h' m → News h₀ L h' ((D, W.listOf (strValues (l1 ++ l2)).toArray 0) :: news) → (∀ p ∈ news, p.1 < D) → Q (.ref D) { s with heap := h' })
    (hz : l1.length + l2.length ≤ 100000) : wpAny (model prog w) A (binaryOp .Add (.ref a) (.ref b)) Q E s :=
  add_strs F N (News.isList N ha) (News.isList N hb) rfl rfl h hz
theorem add_strsB {a b : Addr} {x : PySem.Str} {t : Tok} {l2 : List (PySem.Str × Tok)} {n1 n2 : Nat} (F : Fr h₀ L s.heap m) (N : News h₀ L s.heap news) (ha : (a, W.listOf #[.str x t] n1) ∈ news) (hb : (b, W.listOf (strValues l2).toArray n2) ∈ news)
    (h : ∀ D h', Fr h₀ L h' m → News h₀ L h' ((D, W.listOf (strValues ((x, t) :: l2)).toArray 0) :: news) → (∀ p ∈ news, p.1 < D) → Q (.ref D) { s with heap := h' })
    (hz : 1 + l2.length ≤ 100000) : wpAny (model prog w) A (binaryOp .Add (.ref a) (.ref b)) Q E s :=
  add_strs (l1 := [(x, t)]) F N (News.isList N ha) (News.isList N hb) rfl rfl h (by simpa [Nat.add_comm] using hz)
theorem add_ints {a b : Addr} {vs ws : List Value} {ns ms : List Int} (F : Fr h₀ L s.heap m) (N : News h₀ L s.heap news) (ha : s.heap.IsList a vs.toArray) (hb : s.heap.IsList b ws.toArray) (hi : IntsAre vs ns) (hj : IntsAre ws ms)
    (h : ∀ D us h', Fr h₀ L h' m → News h₀ L h' ((D, W.listOf (List.toArray us) 0) :: news) → (∀ p ∈ news, p.1 < D) → IntsAre us (ns ++ ms) → Q (.ref D) { s with heap := h' })
    (hz : ns.length + ms.length ≤ 1000) : wpAny (model prog w) A (binaryOp .Add (.ref a) (.ref b)) Q E s :=
  kmk_add_ints F N ha hb hi hj h (by
    have e : sizeLine = 16777216 := by decide
    rw [e]; omega)
end
/-- what `_law_call` hands back -/
noncomputable def RetC (res : Told3) (news : Led) (r : Value) (ns' : Led) : Prop := match res with
  | none => ∃ l, r = .ref l ∧ ns' = (l, W.listOf #[] 0) :: news ∧ (∀ p ∈ news, p.1 < l)
  | some (notes, page, st') => ∃ (l nl : Addr) (lst : List (PySem.Str × Tok)) (tp ts : Tok), r = .ref l ∧ ns' = (l, W.listOf #[.ref nl, .str (S (pg page)) tp, .int (st' : Int) ts] 0) :: (nl, W.listOf (strValues lst).toArray 0) :: news ∧
      lst.map (·.1) = notes.map S ∧ (∀ p ∈ news, p.1 < nl) ∧ nl < l
theorem reads_strs {h : Heap} {D : Addr} {lst : List (PySem.Str × Tok)} {n : Nat} (hl : h.get? D = some (W.listOf (strValues lst).toArray n)) : Reads h (.ref D) (.list (lst.map fun q => PyData.str q.1)) [D] := by
  refine reads_newData ⟨_, hl, rfl, _, rfl⟩ ?_
  have : ∀ l : List (PySem.Str × Tok), CarriedAll (strValues l) (l.map fun q => PyData.str q.1) := by
    intro l
    induction l with
    | nil => exact .nil
    | cons a r ih => exact .cons (.str _ _) ih
  exact this lst
theorem canLay_strs : ∀ (lst : List PySem.Str), (∀ q ∈ lst, PyData.strOk q = true) → PyData.canLayAll0 (lst.map PyData.str) = true
  | [], _ => rfl
  | a :: r, h => by
    simp only [List.map_cons, PyData.canLayAll0, PyData.canLay0, Bool.and_eq_true]
    exact ⟨h a (.head _), canLay_strs r fun q hq => h q (.tail _ hq)⟩
theorem depth_strs : ∀ (lst : List PySem.Str), PyData.depthAll (lst.map PyData.str) = 0
  | [] => rfl
  | a :: r => by simp [PyData.depthAll, PyData.depth, depth_strs r]
theorem told_ne_nil {prog : Program} {w : World} {A : Around} {E : Value → Shared → Prop} {s : Shared} {Q : Value → Shared → Prop} {h₀ : Heap} {L : Addr} {led : List (Addr × Obj)} {l nl e : Addr} {p : PySem.Str} {i : Int} {tp ti : Tok} {lst : List (PySem.Str × Tok)}
    (N : News h₀ L s.heap led) (m1 : (l, W.listOf #[.ref nl, .str p tp, .int i ti] 0) ∈ led) (m2 : (nl, W.listOf (strValues lst).toArray 0) ∈ led) (m3 : (e, W.listOf #[] 0) ∈ led)
    (h1 : ∀ q ∈ lst.map (fun q : PySem.Str × Tok => q.1), PyData.strOk q = true) (h2 : PyData.strOk p = true) (hu : A.units + 64 < cLine) (h : Q (.bool false) s) : wpAny (model prog w) A (compareOp .Eq (.ref l) (.ref e)) Q E s := by
  have ra : Reads s.heap (.ref l) (.list [.list (lst.map fun q => PyData.str q.1), .str p, .int i]) _ :=
    reads_list_at (N.get m1) rfl rfl (.cons (reads_strs (N.get m2)) (.cons (.str _ _) (.cons (.int _ _) .nil)))
  have rb : Reads s.heap (.ref e) (.list []) _ := reads_list_at (N.get m3) rfl rfl .nil
  have c1 := canLay_strs _ h1
  have c2 := depth_strs (lst.map (fun q : PySem.Str × Tok => q.1))
  simp only [List.map_map, Function.comp_def] at c1 c2
  refine eq_dataH ra rb ?_ (by decide) hu ?_
  · simp [SeqAt.shaped, PyData.canLay0, PyData.canLayAll0, PyData.depth, PyData.depthAll, c1, c2, h2]
  · simp only [PyData.eqv, PyData.eqvAll]; exact h
theorem told_nil {prog : Program} {w : World} {A : Around} {E : Value → Shared → Prop} {s : Shared} {Q : Value → Shared → Prop} {h₀ : Heap} {L : Addr} {led : List (Addr × Obj)} {l e : Addr} {k1 k2 : Nat}
    (N : News h₀ L s.heap led) (m1 : (l, W.listOf #[] k1) ∈ led) (m3 : (e, W.listOf #[] k2) ∈ led) (hu : A.units + 64 < cLine) (h : Q (.bool true) s) : wpAny (model prog w) A (compareOp .Eq (.ref l) (.ref e)) Q E s :=
  eq_dataH (reads_list_at (N.get m1) rfl rfl .nil) (reads_list_at (N.get m3) rfl rfl .nil) (by decide) (by decide) hu (by simp only [PyData.eqv, PyData.eqvAll]; exact h)
theorem indent_Z (w : World) (L : List Nat) (Ls : List (List Nat)) (z : Int) (t u : Tok) (news : Led) (hL : ∀ M ∈ L :: Ls, okL M) (hx : (pg (L :: Ls)).length ≤ 1000) (h0 : 0 ≤ z) (h5 : z ≤ 5) :
    Con w 51 1 [.str (S (pg (L :: Ls))) t, .int z u] news (fun r ns => ns = news ∧ ∃ l t, r = .str (S l) t ∧ l.length ≤ 10000 ∧ l = pg ((L :: Ls).map (List.replicate z.toNat 32 ++ ·))) := by
  obtain ⟨k, rfl⟩ : ∃ k : Nat, z = (k : Int) := ⟨z.toNat, by omega⟩
  rw [Int.toNat_natCast]
  have hz : (pg ((L :: Ls).map (List.replicate k 32 ++ ·))).length ≤ 10000 := by
    have : ∀ l : List (List Nat), (pg (l.map (List.replicate k 32 ++ ·))).length ≤ 6 * (pg l).length := by
      intro l
      induction l with
      | nil => simp [pg]
      | cons a r ih => simp [pg] at ih ⊢; omega
    have := this (L :: Ls)
    omega
  have C := indent_con w L Ls k t u news hL (by omega) hx
  intro dp un gd cn cs a ccd cl outer A₀ base h₀ L' m s Q E mean mg mb B F X N T hk hdp hu hret
  refine C dp un gd cn cs a ccd cl outer A₀ base h₀ L' m s Q E mean mg mb B F X N T hk hdp hu fun r news' h' tk' F' N' e => hret r news' h' tk' F' N' ?_
  obtain ⟨e1, t', e2⟩ := e
  exact ⟨e1, _, t', e2, hz, rfl⟩
theorem goF_none1 {rec : Nat → Nat → Nat → Told3} {x deep st : Nat} {rest : List Nat} {notes page : List (List Nat)} (q : rec st x (deep + rest.length) = none) : goF rec ((97 + x) :: rest) deep st notes page = none := by
  unfold goF; rw [Nat.add_sub_cancel_left, q]
theorem goF_some1 {rec : Nat → Nat → Nat → Told3} {x deep st s2 : Nat} {rest : List Nat} {notes page n2 p2 : List (List Nat)} (q : rec st x (deep + rest.length) = some (n2, p2, s2)) :
    goF rec ((97 + x) :: rest) deep st notes page = goF rec rest deep s2 (notes ++ n2) (page ++ p2.map (List.replicate rest.length 32 ++ ·)) := by
  conv => lhs; unfold goF
  rw [Nat.add_sub_cancel_left, q]
theorem fine_facts {ns : List Int} {f st c deep : Nat} {above : List Int} {n1 p1 : List (List Nat)} {s1 : Nat} (hs : st < 2) (hc : c < 2) (hf : f ≤ 4) (q : callF ns f st c deep above = some (n1, p1, s1)) :
    ∃ L Ls, p1 = L :: Ls ∧ (∀ M ∈ L :: Ls, okL M) ∧ (pg (L :: Ls)).length ≤ 1000 ∧ s1 < 2 ∧ n1.length ≤ 16 ∧ (∀ M ∈ n1, small M) ∧ (∀ M ∈ L :: Ls, small M) := by
  obtain ⟨a1, a2, a3, a4, a5, a6⟩ := callF_fine ns _ _ _ _ _ _ hs hc q
  obtain ⟨b1, b2, b3⟩ := callF_small ns _ _ _ _ _ _ hs hc q
  simp only at a1 a2 a3 a4 a5 a6 b1 b2 b3
  obtain ⟨L, Ls, rfl⟩ := List.exists_cons_of_ne_nil a1
  have hp : 2 ^ f ≤ 2 ^ 4 := Nat.pow_le_pow_right (by decide) hf
  have hl := pg_len (B := 6) (L :: Ls) (fun M hM => by have := (a2 M hM).2; omega)
  refine ⟨L, Ls, rfl, fun M hM => (a2 M hM).1, ?_, a5, by omega, b1, b2⟩
  have : (L :: Ls).length ≤ 16 := by omega
  omega
theorem off_of {x d : Addr} {news : Led} (h : x < d ∧ AllLt d news) : ∀ p ∈ news, p.1 ≠ d := fun p hp => Nat.ne_of_lt (ktn_ltOf h.2 p hp)
theorem news_sub {h₀ : Heap} {L : Addr} {h : Heap} {led led' : Led} (N : News h₀ L h led) (hs : ∀ p ∈ led', p ∈ led) : News h₀ L h led' := fun p hp => N p (hs p hp)
theorem lt1 {D a : Addr} {news : Led} (h : a < D ∧ AllLt D news) : ∀ p ∈ news, p.1 < D := ktn_ltOf h.2
theorem lt6 {D a b c d e f : Addr} {news : Led} (h : a < D ∧ b < D ∧ c < D ∧ d < D ∧ e < D ∧ f < D ∧ AllLt D news) : ∀ p ∈ news, p.1 < D := ktn_ltOf h.2.2.2.2.2.2
theorem lt7 {D a b c d e f g : Addr} {news : Led} (h : a < D ∧ b < D ∧ c < D ∧ d < D ∧ e < D ∧ f < D ∧ g < D ∧ AllLt D news) : ∀ p ∈ news, p.1 < D := ktn_ltOf h.2.2.2.2.2.2.2
theorem retC_some {news : Led} {l nl : Addr} {lst : List (PySem.Str × Tok)} {pl : List Nat} {tp ts : Tok} {st' : Nat} {res : Told3} {notes page : List (List Nat)} (e : res = some (notes, page, st')) (ep : pl = pg page) (el : lst.map (·.1) = notes.map S)
    (h1 : ∀ p ∈ news, p.1 < nl) (h2 : nl < l) : RetC res news (.ref l) ((l, W.listOf #[.ref nl, .str (S pl) tp, .int (st' : Int) ts] 0) :: (nl, W.listOf (strValues lst).toArray 0) :: news) := by
  subst e ep
  exact ⟨l, nl, lst, tp, ts, rfl, rfl, el, h1, h2⟩


noncomputable def RgS (p : Prop) : Prop := p
theorem RgS.go {p : Prop} (h : RgS p) : p := h
section
variable {prog : Program} {w : World} {A : Around} {E : Value → Shared → Prop} {s : Shared} {env : Env} {h₀ : Heap} {x : PySem.Str} {body : List Stmt} {Q : Flow → Shared → Prop}
theorem unrPost_mono {L : Addr} {s₁ : Shared} {I : Addr} {it : Obj} {r r' : (PySem.Str → Option Value) → Led → Prop} (h : ∀ m n, r m n → r' m n) : ∀ (f : Flow) (s₂ : Shared), UnrPost h₀ L s₁ I it r Q f s₂ → UnrPost h₀ L s₁ I it r' Q f s₂ := by
  intro f s₂ x
  cases f with
  | ret v => exact x
  | brk => exact x
  | next => obtain ⟨h', tk, m', n', e, F, N, o, y⟩ := x; exact ⟨h', tk, m', n', e, F, N, o, h _ _ y⟩
  | cont => obtain ⟨h', tk, m', n', e, F, N, o, y⟩ := x; exact ⟨h', tk, m', n', e, F, N, o, h _ _ y⟩
theorem range_inv {I : Addr} {a : Int} {n : Nat} (Inv : Nat → (PySem.Str → Option Value) → Led → Prop)
    (turn : ∀ i, i < n → ∀ m news, Inv i m news → ∀ t h tk, Fr h₀ env.locals h (fun y => if y = x then some (.int (a + (i : Int)) t) else m y) → News h₀ env.locals h ((I, itR (a + ((i + 1 : Nat) : Int)) ((n : Int) - ((i + 1 : Nat) : Int))) :: news) →
      wpAny (model prog w) A (execs body env) (UnrPost h₀ env.locals { s with heap := h, toks := tk } I (itR (a + ((i + 1 : Nat) : Int)) ((n : Int) - ((i + 1 : Nat) : Int))) (Inv (i + 1)) Q) E { s with heap := h, toks := tk })
    (done : ∀ m news, Inv n m news → ∀ h tk, Fr h₀ env.locals h m → News h₀ env.locals h news → Q .next { s with heap := h, toks := tk }) :
    ∀ (k i : Nat) (m : PySem.Str → Option Value) (news : Led), i + k = n → Inv i m news → RangeRest prog w A E h₀ env x body Q s I a n k i m news
  | 0, i, m, news, e, hi => by
    obtain rfl : i = n := e
    exact done m news hi
  | k + 1, i, m, news, e, hi => fun t h tk F N =>
    wpAny_mono (turn i (by omega) m news hi t h tk F N) (unrPost_mono fun m' n' x => range_inv Inv turn done k (i + 1) m' n' (by omega) x) fun _ _ x => x
theorem RgS.abs {I : Addr} {a : Int} {n : Nat} {m : PySem.Str → Option Value} {news : Led} (P : (PySem.Str → Option Value) → Prop) (hP : P m) (h : ∀ mm, P mm → RgS (RangeRest prog w A E h₀ env x body Q s I a n n 0 mm news)) :
    RgS (RangeRest prog w A E h₀ env x body Q s I a n n 0 m news) := h m hP
theorem RgS.re {I : Addr} {a : Int} {n : Nat} {m m2 : PySem.Str → Option Value} {news : Led} (e : m = m2) (h : RgS (RangeRest prog w A E h₀ env x body Q s I a n n 0 m2 news)) : RgS (RangeRest prog w A E h₀ env x body Q s I a n n 0 m news) := by rw [e]; exact h
theorem RgS.inv {I : Addr} {a : Int} {n : Nat} {m : PySem.Str → Option Value} {news : Led} (Inv : Nat → (PySem.Str → Option Value) → Led → Prop) (init : Inv 0 m news)
    (turn : ∀ i, i < n → ∀ m news, Inv i m news → ∀ t h tk, Fr h₀ env.locals h (fun y => if y = x then some (.int (a + (i : Int)) t) else m y) → News h₀ env.locals h ((I, itR (a + ((i + 1 : Nat) : Int)) ((n : Int) - ((i + 1 : Nat) : Int))) :: news) →
      wpAny (model prog w) A (execs body env) (UnrPost h₀ env.locals { s with heap := h, toks := tk } I (itR (a + ((i + 1 : Nat) : Int)) ((n : Int) - ((i + 1 : Nat) : Int))) (Inv (i + 1)) Q) E { s with heap := h, toks := tk })
    (done : ∀ m news, Inv n m news → ∀ h tk, Fr h₀ env.locals h m → News h₀ env.locals h news → Q .next { s with heap := h, toks := tk }) :
    RgS (RangeRest prog w A E h₀ env x body Q s I a n n 0 m news) := range_inv Inv turn done n 0 m news (by omega) init
end
theorem lets_at {n : Int} {i : Nat} (h : i < (lets n).length) : ∃ x rest, x < 2 ∧ (lets n)[i]? = some (97 + x) ∧ (lets n).drop i = (97 + x) :: rest ∧ (lets n).drop (i + 1) = rest ∧ rest.length + (i + 1) = (lets n).length := by
  have hc := lets_ok n _ (List.getElem_mem h)
  obtain ⟨x, hx, e⟩ : ∃ x, x < 2 ∧ (lets n)[i] = 97 + x := by
    rcases hc with e | e
    · exact ⟨0, by decide, e⟩
    · exact ⟨1, by decide, e⟩
  refine ⟨x, (lets n).drop (i + 1), hx, by rw [List.getElem?_eq_getElem h, e], ?_, rfl, by rw [List.length_drop]; omega⟩
  rw [List.drop_eq_getElem_cons h, e]
theorem pg_add (A B : List (List Nat)) : pg (A ++ B) = pg A ++ pg B := by simp [pg]
theorem pg_more {page P : List (List Nat)} {l9 : List Nat} {z : Int} {k : Nat} (e : l9 = pg (P.map (List.replicate z.toNat 32 ++ ·))) (hz : z.toNat = k) : pg page ++ l9 = pg (page ++ P.map (List.replicate k 32 ++ ·)) := by
  subst e hz; rw [pg_add]
theorem notes_more {lst lst1 : List (PySem.Str × Tok)} {n n1 : List (List Nat)} (e : lst.map (·.1) = n.map S) (e1 : lst1.map (·.1) = n1.map S) : (lst ++ lst1).map (·.1) = (n ++ n1).map S := by
  rw [List.map_append, List.map_append, e, e1]
theorem set6 {m : PySem.Str → Option Value} {k1 k2 k3 k4 k5 k6 : PySem.Str} {v1 v2 v3 : Option Value} (h1 : m k1 = v1) (h2 : m k2 = v2) (h3 : m k3 = v3) :
    m = fun y => if y = k1 then v1 else if y = k2 then v2 else if y = k3 then v3 else if y = k4 then m k4 else if y = k5 then m k5 else if y = k6 then m k6 else m y := by
  funext y
  by_cases e1 : y = k1
  · rw [if_pos e1, e1, h1]
  rw [if_neg e1]
  by_cases e2 : y = k2
  · rw [if_pos e2, e2, h2]
  rw [if_neg e2]
  by_cases e3 : y = k3
  · rw [if_pos e3, e3, h3]
  rw [if_neg e3]
  by_cases e4 : y = k4
  · rw [if_pos e4, e4]
  rw [if_neg e4]
  by_cases e5 : y = k5
  · rw [if_pos e5, e5]
  rw [if_neg e5]
  by_cases e6 : y = k6
  · rw [if_pos e6, e6]
  rw [if_neg e6]
theorem fold6b {m : PySem.Str → Option Value} {k1 k2 k3 k4 k5 k6 : PySem.Str} {v1 v2 v3 v4 v5 v6 w1 w2 w3 w4 w5 w6 : Option Value} :
    (fun y => if y = k1 then w1 else if y = k2 then w2 else if y = k3 then w3 else if y = k4 then w4 else if y = k5 then w5 else if y = k6 then w6 else
      if y = k1 then v1 else if y = k2 then v2 else if y = k3 then v3 else if y = k4 then v4 else if y = k5 then v5 else if y = k6 then v6 else m y) =
      fun y => if y = k1 then w1 else if y = k2 then w2 else if y = k3 then w3 else if y = k4 then w4 else if y = k5 then w5 else if y = k6 then w6 else m y := by
  funext y
  by_cases h1 : y = k1
  · simp only [if_pos h1]
  by_cases h2 : y = k2
  · simp only [if_neg h1, if_pos h2]
  by_cases h3 : y = k3
  · simp only [if_neg h1, if_neg h2, if_pos h3]
  by_cases h4 : y = k4
  · simp only [if_neg h1, if_neg h2, if_neg h3, if_pos h4]
  by_cases h5 : y = k5
  · simp only [if_neg h1, if_neg h2, if_neg h3, if_neg h4, if_pos h5]
  by_cases h6 : y = k6
  · simp only [if_neg h1, if_neg h2, if_neg h3, if_neg h4, if_neg h5, if_pos h6]
  simp only [if_neg h1, if_neg h2, if_neg h3, if_neg h4, if_neg h5, if_neg h6]
theorem set5 {m : PySem.Str → Option Value} {k1 k2 k3 k4 k5 : PySem.Str} {v1 v2 v3 v4 v5 : Option Value} (h1 : m k1 = v1) (h2 : m k2 = v2) (h3 : m k3 = v3) (h4 : m k4 = v4) (h5 : m k5 = v5) :
    m = fun y => if y = k1 then v1 else if y = k2 then v2 else if y = k3 then v3 else if y = k4 then v4 else if y = k5 then v5 else m y := by
  funext y
  by_cases e1 : y = k1
  · rw [if_pos e1, e1, h1]
  rw [if_neg e1]
  by_cases e2 : y = k2
  · rw [if_pos e2, e2, h2]
  rw [if_neg e2]
  by_cases e3 : y = k3
  · rw [if_pos e3, e3, h3]
  rw [if_neg e3]
  by_cases e4 : y = k4
  · rw [if_pos e4, e4, h4]
  rw [if_neg e4]
  by_cases e5 : y = k5
  · rw [if_pos e5, e5, h5]
  rw [if_neg e5]
/-- what the call's names hold when its loop begins -/
noncomputable def CallB (nA aA : Addr) (np : Int) (st c deep : Nat) (nl : Addr) (mm : PySem.Str → Option Value) : Prop :=
  ∃ (ts tp tl tpr td : Tok), mm (PySem.Str.ofString "state") = some (.int ((nxt np : Nat) : Int) ts) ∧ mm (PySem.Str.ofString "page") = some (.str (S (pg [lineL st c])) tp) ∧ mm (PySem.Str.ofString "notes") = some (.ref nl) ∧
    mm (PySem.Str.ofString "letters") = some (.str (S (lets np)) tl) ∧ mm (PySem.Str.ofString "pair") = some (.int (2 * (st : Int) + (c : Int)) tpr) ∧ mm (PySem.Str.ofString "numbers") = some (.ref nA) ∧ mm (PySem.Str.ofString "deep") = some (.int (deep : Int) td) ∧ mm (PySem.Str.ofString "above") = some (.ref aA)
/-- the call's state between two turns of its loop -/
noncomputable def CallSt (rec : Nat → Nat → Nat → Told3) (ls : List Nat) (res : Told3) (deep : Nat) (m0 : PySem.Str → Option Value) (base : Led) (i : Nat) (m : PySem.Str → Option Value) (news : Led) : Prop :=
  ∃ (q : Nat) (notes page : List (List Nat)) (lst : List (PySem.Str × Tok)) (nl : Addr) (ts tp : Tok) (v1 v2 v3 : Option Value),
    m = (fun y => if y = PySem.Str.ofString "state" then some (.int (q : Int) ts) else if y = PySem.Str.ofString "page" then some (.str (S (pg page)) tp) else if y = PySem.Str.ofString "notes" then some (.ref nl) else
      if y = PySem.Str.ofString "told" then v1 else if y = PySem.Str.ofString "behind" then v2 else if y = PySem.Str.ofString "place" then v3 else m0 y) ∧
    news = (nl, W.listOf (strValues lst).toArray 0) :: base ∧ (∀ p ∈ base, p.1 < nl) ∧ q < 2 ∧ goF rec (ls.drop i) deep q notes page = res ∧ lst.map (·.1) = notes.map S ∧ lst.length ≤ 1 + 16 * i ∧ (pg page).length ≤ 3 + 10000 * i
theorem lets_mil (n : Int) : (lets n).length ≤ 1000000 := Nat.le_trans (lets_len n) (by decide)
theorem rg_size {k : Nat} (h : k ≤ 2) : Builtin.Range.rangeSize 0 (k : Int) 1 = (k : Int) := by
  have : k = 0 ∨ k = 1 ∨ k = 2 := by omega
  rcases this with rfl | rfl | rfl <;> decide
theorem rg_small {k : Nat} (h : k ≤ 2) : Builtin.Range.small 0 (k : Int) 1 = true := by
  have : k = 0 ∨ k = 1 ∨ k = 2 := by omega
  rcases this with rfl | rfl | rfl <;> decide
theorem itemS_eq (l : List Nat) (i c : Nat) (h : l[i]? = some c) : Txt.item (S l) (i : Int) = S [c] := by
  obtain ⟨hi, e⟩ := List.getElem?_eq_some_iff.mp h
  have h1 : ¬ ((i : Int) < 0) := by omega
  have h2 : (0 : Int) ≤ (i : Int) ∧ (i : Int) < (l.length : Int) := by omega
  simp [Txt.item, S, Txt.charAt, seqIndex?, PySem.Str.length, h1, h2, h]
section
variable {prog : Program} {w : World} {A : Around} {E : Value → Shared → Prop} {s : Shared} {Q : Value → Shared → Prop}
theorem item_SN {value slice : PySem.Expr} {l : List Nat} {i c : Nat} {t u : Tok} (hc : l[i]? = some c) (hi : i < 1000000) (h : Q (.str (S [c]) s.toks) { s with toks := s.toks + 1 })
    (hs : subscripted slice false (.str (S l) t) (.int (0 + (i : Int)) u) = operate [.str (S l) t, .int (0 + (i : Int)) u] (getItem (.str (S l) t) (.int (0 + (i : Int)) u)) := by with_unfolding_all rfl)
    (ht : ∀ r, letTemporaryGo value (.str (S l) t) r = pure () := by intro _; with_unfolding_all rfl) : wpAny (model prog w) A (subscriptTail value slice (.str (S l) t) (.int (0 + (i : Int)) u)) Q E s := by
  obtain ⟨hl, _⟩ := List.getElem?_eq_some_iff.mp hc
  revert hs
  rw [Int.zero_add]
  intro hs
  have hf : fitsSsize (i : Int) = true := fitsSsize_of (N := 9223372036854775808) (by omega) (by omega) (Int.le_refl _)
  exact item_str hf (by omega) (by rw [S_len]; omega) (fun _ => by rw [itemS_eq l i c hc]; exact h) hs ht
end
theorem rg_Ct5_0 : True := by
  k_with_none
  k_with "mine lt" => (first | with_reducible assumption | with_reducible exact cj0 (by with_reducible assumption) | with_reducible exact cj1 (by with_reducible assumption) | with_reducible exact cl1 (by with_reducible assumption) | with_reducible exact cj2 (by with_reducible assumption) | with_reducible exact cl2 (by with_reducible assumption) | with_reducible exact cj3 (by with_reducible assumption) | with_reducible exact cl3 (by with_reducible assumption) | with_reducible exact cj4 (by with_reducible assumption) | with_reducible exact cl4 (by with_reducible assumption) | with_reducible exact cj5 (by with_reducible assumption) | with_reducible exact cl5 (by with_reducible assumption) | with_reducible exact cj6 (by with_reducible assumption) | with_reducible exact cl6 (by with_reducible assumption) | with_reducible exact cj7 (by with_reducible assumption) | with_reducible exact cl7 (by with_reducible assumption) | with_reducible exact cj8 (by with_reducible assumption) | with_reducible exact cl8 (by with_reducible assumption) | with_reducible exact cj9 (by with_reducible assumption) | with_reducible exact cl9 (by with_reducible assumption) | with_reducible exact cj10 (by with_reducible assumption) | with_reducible exact cl10 (by with_reducible assumption) | with_reducible exact cj11 (by with_reducible assumption) | with_reducible exact cl11 (by with_reducible assumption) | with_reducible exact cj12 (by with_reducible assumption) | with_reducible exact cl12 (by with_reducible assumption))
  k_with "mine om" => (first | with_reducible assumption | decide | with_reducible exact rm1 (by with_reducible assumption) | with_reducible exact rm2 (by with_reducible assumption) (by decide) | with_reducible exact rm3 (by with_reducible assumption) (by decide) | with_reducible exact rm9 (by with_reducible assumption) (by decide) | with_reducible exact rm8 (by with_reducible assumption) (by decide) | with_reducible exact rm7 (by with_reducible assumption) (by decide) | with_reducible exact rm4 (by with_reducible assumption) (by decide) | with_reducible exact rm5 (by with_reducible assumption) (by decide) | with_reducible exact rm6 (by with_reducible assumption) (by decide) | with_reducible exact ih2 _ | with_reducible exact ih1 (by with_reducible assumption) | with_reducible exact three_of (by with_reducible assumption) | with_reducible exact two_lt (by with_reducible assumption) | with_reducible exact three_lt (by with_reducible assumption) | with_reducible exact lt_of8 (by with_reducible assumption) (by decide) | with_reducible exact le_of (by with_reducible assumption) (by decide) | with_reducible exact le_of3 (by with_reducible assumption) (by decide) | with_reducible exact le_of4 (by with_reducible assumption) (by decide) | (with_reducible refine Nat.ne_of_lt ?_; walk_at "mine lt") | (with_reducible refine Nat.ne_of_gt ?_; walk_at "mine lt") | with_reducible exact And.left (by with_reducible assumption) | with_reducible exact And.right (by with_reducible assumption))
  k_with "execs cons" => (refine wpAny_execs_cons ?_; refine abs_tk ?_; intro _)
  k_with "mine room" => (first | (simp only [units_deeper, units_in1, Around.mark_units, depth_deeper, depth_in1, ktrTop, cLine, recursionLimit] at *; omega) | ktr_room | ktr_units)
  k_with "mine room" => (first | omega | (simp only [units_deeper, units_in1, Around.mark_units, depth_deeper, depth_in1, ktrTop]; omega) | (dsimp only [Around.deeper, Around.in1, ktrTop, Around.mark]; omega))
  k_with "mine mem" => ((refine mem_of ?_; with_reducible assumption))
  k_with "mine S" => (first | with_reducible exact rfl | with_reducible exact lit_nl | with_reducible exact tos (by with_reducible assumption) | with_reducible exact lit_sp)
  k_with "call builtin:str.index" => ((k_here; k_dflt ((try dsimp only); refine index_ab (by assumption) ?_)))
  k_with "compareOp In int ref" => ((k_here; k_dflt (refine in_list_ints (News.isList (by k_asm) (by k_mem)) (by assumption) ?_)))
  k_with "binaryOp Mult str int" => ((k_here; k_dflt (refine str_mul' (by omega) ?_; intro _ _)))
  k_with "binaryOp Add str str" => ((k_here; k_dflt (refine add_eq (by walk_at "mine S") (by walk_at "mine S") (by first | omega | (simp only [List.length_append, List.length_cons, List.length_nil, List.length_replicate]; omega)) ?_; intro _ _)))
  k_with "call ref" => ((k_here; k_dflt ((with_reducible show wpAny _ _ (call (Value.ref 51) [Value.str (S (pg (_ :: _))) _, Value.int _ _]) _ _ _); (k_dflt (refine' con_same _ ?q9k1 ?q9k2 ?q9k3 ?q9k4 ?q9k5 ?q9kK (indent_Z _ _ _ _ _ _ _ (by with_reducible assumption) (by with_reducible assumption) (by omega) (by omega)) ?q9kd ?q9ku ?_); (case q9k1 => k_asm); (case q9k2 => k_asm); (case q9k3 => k_asm); (case q9k4 => k_asm); (case q9k5 => k_asm); (case q9kK => first | exact rfl | assumption); (case q9kd => walk_at "mine room"); (case q9ku => walk_at "mine room"); intro _ _ _ p9 _ _; obtain ⟨_, _, e9, _, el9⟩ := p9; subst e9; (try dsimp only); (try k_fold)))))
  k_with "mine size" => ((simp only [S_len, wordL, List.length_append, List.length_cons, List.length_nil, List.length_replicate]; (try have lz9 := lets_len); first | omega | (have lz8 := lets_len _; omega)))
  k_with "subscriptTail Name Name ref int" => ((k_here; k_dflt (refine' item_nums ?q9k1 ?q9k2 ?q9k3 ?q9k4 ?q9k5 ?q9k6 ?_; (case q9k1 => exact News.isList (by k_asm) (by k_mem)); (case q9k2 => assumption); (case q9k6 => assumption); (case q9k3 => omega); (case q9k4 => omega); (case q9k5 => omega); intro _)))
  k_with "binaryOp Mod int int" => ((k_here; k_dflt (refine mod2 ?_)))
  k_with "call ref" => ((k_here; k_dflt ((with_reducible show wpAny _ _ (call (Value.ref 168) [Value.int _ _]) _ _ _); (k_dflt (refine' con_same _ ?q9k1 ?q9k2 ?q9k3 ?q9k4 ?q9k5 ?q9kK (word_con _ _ _ _ (by assumption) (by assumption)) ?q9kd ?q9ku ?_); (case q9k1 => k_asm); (case q9k2 => k_asm); (case q9k3 => k_asm); (case q9k4 => k_asm); (case q9k5 => k_asm); (case q9kK => first | exact rfl | assumption); (case q9kd => walk_at "mine room"); (case q9ku => walk_at "mine room"); intro _ _ _ p9 _ _; obtain ⟨_, e9⟩ := p9; subst e9; (try dsimp only); (try k_fold)))))
  k_with "subscriptTail Name Slice str ref" => ((k_here; k_dflt ((with_reducible show wpAny _ _ (subscriptTail _ (Expr.Slice (some _) none none _) (Value.str (S (wordL _)) _) (Value.ref _)) _ _ _); (refine' slice_eq_sn (s := ⟨_, _, _, _, _⟩) ?q9k1 ?q9k2 ?q9k3 ?_ ?q9k4; (case q9k1 => exact slice_word _); (case q9k2 => assumption); (case q9k3 => assumption); (case q9k4 => exact word_size _)); intro _ _ _ _ _)))
  k_with "compareOp Eq ref ref" => ((k_here; k_dflt (first | (refine' told_nil ?q9N ?q9m1 ?q9m3 ?q9hu ?_; (case q9N => k_asm); (case q9m1 => k_mem); (case q9m3 => k_mem); (case q9hu => walk_at "mine room")) | (refine' told_ne_nil ?q9N ?q9m1 ?q9m2 ?q9m3 ?q9h1 ?q9h2 ?q9hu ?_; (case q9N => k_asm); (case q9m1 => k_mem); (case q9m2 => k_mem); (case q9m3 => k_mem); (case q9h1 => with_reducible assumption); (case q9h2 => with_reducible assumption); (case q9hu => walk_at "mine room")))))
  k_with "binaryOp Add ref ref" => ((k_here; k_dflt (first | (refine' add_strsB ?q9F ?q9N ?q9a ?q9b ?_ ?q9z; (case q9F => k_asm); (case q9N => k_asm); (case q9a => k_mem); (case q9b => k_mem); (case q9z => first | omega | (simp only [List.length_cons, List.length_append]; omega)); intro _ _ _ _ l1'; k_lt l1'; (try (revert l1'; intro _))) | (refine' add_strsA ?q9F ?q9N ?q9a ?q9b ?_ ?q9z; (case q9F => k_asm); (case q9N => k_asm); (case q9a => k_mem); (case q9b => k_mem); (case q9z => first | omega | (simp only [List.length_cons, List.length_append]; omega)); intro _ _ _ _ l1'; k_lt l1'; (try (revert l1'; intro _))) | (refine' add_ints ?q9F ?q9N ?q9a ?q9b ?q9i ?q9j ?_ ?q9z; (case q9F => k_asm); (case q9N => k_asm); (case q9a => exact News.isList (by k_asm) (by k_mem)); (case q9b => exact News.isList (by k_asm) (by k_mem)); (case q9i => l_ints); (case q9j => l_ints); (case q9z => (simp only [List.length_cons, List.length_nil]; omega)); intro _ _ _ _ _ l1' _; k_lt l1'; (try (revert l1'; intro _))))))
  k_with "call builtin:len" => ((k_here; k_dflt ((with_reducible show wpAny _ _ (call (Value.builtin "len") [Value.str (S _) _]) _ _ _); refine len_S rfl (lets_mil _) ?_)))
  k_with "RangeRest" => (k_dflt (refine RgS.go ?_))
  k_with "subscriptTail Name Name str int" => ((k_here; k_dflt (refine item_SN (by with_reducible assumption) (by omega) ?_)))
  k_with "mine iter" => (((with_reducible show wpAny _ _ (pyIter (Value.ref _)) (fun it s₂ => LoopAtV _ _ _ _ _ _ _ _ _ it s₂) _ _); k_dflt ((rename Fr _ _ _ _ => lF'); (rename News _ _ _ _ => lN'); (refine iter_rangeUnr (by rfl) (by assumption) (rg_small (lets_len _)) (rg_size (lets_len _)) lF' lN' ?_); clear lF' lN'; intro _ l1; (try k_lt l1); (try (revert l1; intro _)))))
  trivial
theorem call_step (w : World) (f : Nat) (nA aA : Addr) (vs avs : List Value) (ns as : List Int) (st c deep : Nat) (zs zd : Int) (xl : PySem.Str) (t1 t2 t3 : Tok) (news : Led) {kn : Nat}
    (hn : (nA, W.listOf vs.toArray kn) ∈ news) (hi : IntsAre vs ns) (hl : ns.length = 8) (hb : ∀ n ∈ ns, 0 ≤ n ∧ n < 1000000) (ha : (aA, W.listOf avs.toArray 0) ∈ news) (hai : IntsAre avs as) (hal : as.length + (f + 1) = 5)
    (hok : OkA as) (hs : st < 2) (hc : c < 2) (hd : deep ≤ as.length) (ezs : zs = st) (ezd : zd = deep) (exl : xl = S [97 + c])
    (IH : ∀ (aA' : Addr) (avs' : List Value) (as' : List Int) (st' c' deep' : Nat) (zs' zd' : Int) (xl' : PySem.Str) (t1 t2 t3 : Tok) (news' : Led), (nA, W.listOf vs.toArray kn) ∈ news' → (aA', W.listOf avs'.toArray 0) ∈ news' → IntsAre avs' as' →
      as'.length + f = 5 → OkA as' → st' < 2 → c' < 2 → deep' ≤ as'.length → zs' = st' → zd' = deep' → xl' = S [97 + c'] → Con w 196 (f + 19) [.ref nA, .int zs' t1, .str xl' t2, .int zd' t3, .ref aA'] news' (RetC (callF ns f st' c' deep' as') news')) :
    Con w 196 (f + 20) [.ref nA, .int zs t1, .str xl t2, .int zd t3, .ref aA] news (RetC (callF ns (f + 1) st c deep as) news) := by
  subst ezs ezd exl
  have hp0 : (0 : Int) ≤ 2 * (st : Int) + c := by omega
  have hpn : (2 * (st : Int) + c).toNat = 2 * st + c := by omega
  have hnp : ∃ np, ns.getD (2 * (st : Int) + c).toNat 0 = np ∧ 0 ≤ np ∧ np < 1000000 := by
    refine ⟨_, rfl, ?_⟩
    have hm : ns.getD (2 * (st : Int) + c).toNat 0 ∈ ns := by
      rw [List.getD_eq_getElem?_getD, List.getElem?_eq_getElem (by omega)]
      exact List.getElem_mem _
    exact hb _ hm
  obtain ⟨np, hnp, hnp0, hnp1⟩ := hnp
  have hnp2 : ns.getD (2 * st + c) 0 = np := by rw [← hpn]; exact hnp
  have hyes : (as.any fun x => x == 2 * (st : Int) + (c : Int)) = true → callF ns (f + 1) st c deep as = none := fun q => by rw [callF_succ, if_pos q]
  have hno : (as.any fun x => x == 2 * (st : Int) + (c : Int)) = false → callF ns (f + 1) st c deep as = goF (fun st' c' d' => callF ns f st' c' d' (as ++ [2 * (st : Int) + (c : Int)])) (lets np) deep (nxt np) [List.replicate deep 32 ++ lineL st c] [lineL st c] := fun q => by
    rw [callF_succ, if_neg (by rw [q]; decide), hnp2]
  unfold Con
  k_fill
  intro dp un gd cn cs a ccd cl outer A₀ base h₀ L m s Q E mean mg mb B F X N T hk hdp hu hret
  refine wpAny_call ?_
  k_dflt cell_enter
  k_steps
  · have q := hyes (by assumption); rw [q] at hret; refine hret _ _ _ _ (by k_asm) (by k_asm) ?_; exact ⟨_, rfl, rfl, by assumption⟩
  have hno2 : (as.any fun x => x == 2 * (st : Int) + (c : Int)) = false := by assumption
  have hok2 := okA_add hok hs hc hno2
  have hgo0 := hno hno2
  have hf4 : f ≤ 4 := by omega
  have hln := lets_len np
  refine RgS.abs (CallB nA aA np st c deep _) ⟨_, _, _, _, _, rfl, rfl, rfl, rfl, rfl, rfl, rfl, rfl⟩ ?_
  intro mm hmm
  obtain ⟨ts0, tp0, tl0, tpr0, td0, e1, e2, e3, e4, e5, e6, e7, e8⟩ := hmm
  refine' RgS.inv (CallSt (fun st' c' d' => callF ns f st' c' d' (as ++ [2 * (st : Int) + (c : Int)])) (lets np) (callF ns (f + 1) st c deep as) deep
    (fun y => if y = PySem.Str.ofString "letters" then some (.str (S (lets np)) tl0) else if y = PySem.Str.ofString "pair" then some (.int (2 * (st : Int) + (c : Int)) tpr0) else if y = PySem.Str.ofString "numbers" then some (.ref nA) else if y = PySem.Str.ofString "deep" then some (.int (deep : Int) td0) else if y = PySem.Str.ofString "above" then some (.ref aA) else mm y) news)
    ⟨nxt np, [List.replicate deep 32 ++ lineL st c], [lineL st c], [(_, _)], _, ts0, tp0, _, _, _, (set6 e1 e2 e3).trans (by rw [← set5 e4 e5 e6 e7 e8]), rfl, by assumption, nxt_lt _, hgo0.symm, by simp [lineL, S], Nat.le_refl _, by simp [pg, lineL]⟩ ?turn ?done
  case turn =>
    intro i hi m news2 hinv t h tk Fm Nm
    obtain ⟨q, notes, page, lst, nl, ts, tp, v1, v2, v3, rfl, rfl, hlt, hq, hgo, hlst, hll, hpl⟩ := hinv
    obtain ⟨x, rest, hx, hget, hdrop, hdrop2, hrl⟩ := lets_at hi
    rw [hdrop] at hgo
    dsimp only at Fm
    k_steps
    (k_dflt (refine' con_use ?k1 ?k2 ?k3 ?k4 ?k5 ?kK ?kC ?kd ?ku ?_); (case k1 => k_asm); (case k2 => k_asm); (case k3 => k_asm); (case k4 => k_asm); (case k5 => k_asm); (case kK => first | exact rfl | assumption); (case kC => exact IH _ _ _ q x (deep + rest.length) _ _ _ _ _ _ _ (by k_mem) (by k_mem) (by assumption) (by simp; omega) hok2 hq hx (by simp; omega) rfl (by omega) rfl); (case kd => walk_at "mine room"); (case ku => walk_at "mine room"); intro r9 news9 h9 tk9 F9 N9 o9)
    cases q1 : callF ns f q x (deep + rest.length) (as ++ [2 * (st : Int) + (c : Int)]) with
    | none =>
      rw [goF_none1 (rest := rest) q1] at hgo
      rw [← hgo] at hret
      rw [q1] at o9
      obtain ⟨l9, e9, e9', lt9⟩ := o9
      subst e9 e9'
      (try dsimp only)
      k_steps
      refine hret _ ((_, W.listOf #[] 0) :: news) _ _ (by k_asm) (news_sub (by k_asm) ?_) ⟨_, rfl, rfl, lt6 (by with_reducible assumption)⟩
      intro p hp
      rcases List.mem_cons.mp hp with hp | hp
      · rw [hp]; k_mem
      · repeat (first | exact hp | refine List.Mem.tail _ ?_)
    | some r1 =>
      obtain ⟨n1, p1, s1⟩ := r1
      rw [q1] at o9
      obtain ⟨L1, Ls1, ep1, okL1, szL1, hs1, hn1, smn1, smp1⟩ := fine_facts hq hx hf4 q1
      subst ep1
      obtain ⟨l9, nl9, lst1, tp9, ts9, e9, e9', elst1, lt9, lt9'⟩ := o9
      subst e9 e9'
      have hq1 : ∀ q ∈ lst1.map (fun q : PySem.Str × Tok => q.1), PyData.strOk q = true := by
        rw [elst1]; intro q hq; obtain ⟨M, hM, rfl⟩ := List.mem_map.mp hq; exact strOk_S (smn1 M hM)
      have hl1 : lst1.length ≤ 16 := by
        have := congrArg List.length elst1
        simp only [List.length_map] at this
        omega
      have hp1 : PyData.strOk (S (pg (L1 :: Ls1))) = true := strOk_S (small_pg smp1)
      (try dsimp only)
      k_steps
      refine' UnrEnd.intro (by k_asm) (by k_asm) ((?Da, W.listOf (strValues (lst ++ lst1)).toArray 0) :: news) ?e1a ?e2a ?e3a
      case e1a =>
        intro p hp
        rcases List.mem_cons.mp hp with hp | hp
        · rw [hp]; k_mem
        · rcases List.mem_cons.mp hp with hp | hp
          · rw [hp]; k_mem
          · repeat (first | exact hp | refine List.Mem.tail _ ?_)
      case e2a => exact List.forall_mem_cons.mpr ⟨by k_ne, off_of (by with_reducible assumption)⟩
      have hz : ((((lets np).length : Int) - 1 - (0 + (i : Int)))).toNat = rest.length := by omega
      have hpm := pg_more (page := page) el9 hz
      refine' ⟨s1, notes ++ n1, page ++ (L1 :: Ls1).map (List.replicate rest.length 32 ++ ·), lst ++ lst1, _, _, _, _, _, _, ?m, rfl, lt7 (by with_reducible assumption), hs1, ?go, notes_more hlst elst1, ?ll, ?pl⟩
      case m => rw [← hpm]; exact fold6b
      case go => rw [hdrop2]; exact (goF_some1 q1).symm.trans hgo
      case ll => rw [List.length_append]; omega
      case pl => rw [← hpm, List.length_append]; omega
  case done =>
    intro m news2 hinv h tk Fm Nm
    obtain ⟨q, notes, page, lst, nl, ts, tp, v1, v2, v3, rfl, rfl, hlt, hq, hgo, hlst, hll, hpl⟩ := hinv
    have hgo2 : some (notes, page, q) = callF ns (f + 1) st c deep as := by rw [← hgo, List.drop_length]; rfl
    dsimp only at Fm
    (try dsimp only)
    k_steps
    exact hret _ _ _ _ (by k_asm) (by k_asm) (retC_some hgo2.symm rfl hlst hlt (And.left (by with_reducible assumption)))

theorem call_all (w : World) {kn : Nat} (nA : Addr) (vs : List Value) (ns : List Int) (hi : IntsAre vs ns) (hl : ns.length = 8) (hb : ∀ n ∈ ns, 0 ≤ n ∧ n < 1000000) : ∀ (f : Nat) (aA : Addr) (avs : List Value) (as : List Int) (st c deep : Nat) (zs zd : Int) (xl : PySem.Str) (t1 t2 t3 : Tok) (news : Led),
    (nA, W.listOf vs.toArray kn) ∈ news → (aA, W.listOf avs.toArray 0) ∈ news → IntsAre avs as → as.length + f = 5 → OkA as → st < 2 → c < 2 → deep ≤ as.length → zs = st → zd = deep → xl = S [97 + c] →
    Con w 196 (f + 19) [.ref nA, .int zs t1, .str xl t2, .int zd t3, .ref aA] news (RetC (callF ns f st c deep as) news)
  | 0, aA, avs, as, st, c, deep, zs, zd, xl, t1, t2, t3, news, _, _, _, hal, hok, _, _, _, _, _, _ => absurd (okA_len hok) (by omega)
  | f + 1, aA, avs, as, st, c, deep, zs, zd, xl, t1, t2, t3, news, hn, ha, hai, hal, hok, hs, hc, hd, ezs, ezd, exl =>
    call_step w f nA aA vs avs ns as st c deep zs zd xl t1 t2 t3 news hn hi hl hb ha hai hal hok hs hc hd ezs ezd exl (call_all w nA vs ns hi hl hb f)
end
section
open PySem PySem.W PySem.Calls PyProof.Rows
set_option linter.unusedVariables false
set_option linter.unusedSimpArgs false
set_option maxRecDepth 100000
set_option maxHeartbeats 40000000

theorem lit_q : PySem.Str.ofString "\"" = S [34] := by decide +kernel
theorem lit_b : PySem.Str.ofString "\\" = S [92] := by decide +kernel
theorem wordL_len (n : Int) : (wordL n).length ≤ 3 := by have := lets_len n; simp only [wordL, List.length_cons]; omega
noncomputable def rowL (n : Int) : List Nat := [wordL n, 34 :: (wordL n ++ [34]), 92 :: wordL n].getD ((n.fdiv 18).fmod 3).toNat []
theorem rowL_len (n : Int) : (rowL n).length ≤ 5 := by
  have := wordL_len n
  unfold rowL
  generalize ((n.fdiv 18).fmod 3).toNat = k
  match k with
  | 0 => show (wordL n).length ≤ 5; omega
  | 1 => show (34 :: (wordL n ++ [34])).length ≤ 5; simp only [List.length_cons, List.length_append, List.length_nil]; omega
  | 2 => show (92 :: wordL n).length ≤ 5; simp only [List.length_cons]; omega
  | k + 3 => show ([] : List Nat).length ≤ 5; simp
theorem item_row {prog : Program} {w : World} {A : Around} {E : Value → Shared → Prop} {s : Shared} {Q : Value → Shared → Prop} {value slice : PySem.Expr} {l : Addr} {t1 t2 t3 u : Tok} {n : Int}
    (hl : s.heap.IsList l #[.str (S (wordL n)) t1, .str (S (34 :: (wordL n ++ [34]))) t2, .str (S (92 :: wordL n)) t3]) (h : ∀ t, Q (.str (S (rowL n)) t) s)
    (hs : subscripted slice false (.ref l) (.int ((n.fdiv 18).fmod 3) u) = operate [.ref l, .int ((n.fdiv 18).fmod 3) u] (getItem (.ref l) (.int ((n.fdiv 18).fmod 3) u)) := by with_unfolding_all rfl) :
    wpAny (model prog w) A (subscriptTail value slice (.ref l) (.int ((n.fdiv 18).fmod 3) u)) Q E s := by
  have h0 : 0 ≤ (n.fdiv 18).fmod 3 := Int.fmod_nonneg_of_pos _ (by decide)
  have h1 : (n.fdiv 18).fmod 3 < 3 := Int.fmod_lt_of_pos _ (by decide)
  unfold rowL at h
  revert h hs
  generalize (n.fdiv 18).fmod 3 = k at h0 h1
  intro h hs
  have : k = 0 ∨ k = 1 ∨ k = 2 := by omega
  rcases this with rfl | rfl | rfl
  · exact tail_any hl.typeIs slot_list_getitem.lookup (wpAny_getItem_list hl (by decide : (0 : Int) ≤ 0) (by decide) rfl (h t1)) hs
  · exact tail_any hl.typeIs slot_list_getitem.lookup (wpAny_getItem_list hl (by decide : (0 : Int) ≤ 1) (by decide) rfl (h t2)) hs
  · exact tail_any hl.typeIs slot_list_getitem.lookup (wpAny_getItem_list hl (by decide : (0 : Int) ≤ 2) (by decide) rfl (h t3)) hs
theorem fold2 {p q : PySem.Str} {a b c d : Option Value} {m : PySem.Str → Option Value} : (fun y => if y = p then a else if y = q then b else if y = p then c else if y = q then d else m y) = (fun y => if y = p then a else if y = q then b else m y) := by
  funext y
  by_cases h1 : y = p
  · rw [if_pos h1, if_pos h1]
  · by_cases h2 : y = q
    · subst h2; simp [h1]
    · simp only [h1, h2, if_false]
noncomputable def letL (n : Int) : List Nat := [[97], [98], []].getD (n.fmod 3).toNat []
noncomputable def LetOf (_ : Int) : Prop := True
noncomputable def callL (n : Int) : List Nat := if letL n = [] ∨ (n.fdiv 3).fmod 2 ≠ 1 then letL n else 34 :: (letL n ++ [34])
theorem callA1 {n : Int} (h : (S (letL n) != PySem.Str.ofString "") = false) : callL n = letL n := by
  have e : PySem.Str.ofString "" = S [] := by decide +kernel
  rw [e] at h
  have h2 : S (letL n) = S [] := by simpa using h
  unfold callL
  exact if_pos (.inl (by simpa [S] using h2))
theorem callA2 {n : Int} (h : (n.fdiv 3).fmod 2 ≠ 1) : callL n = letL n := by
  unfold callL
  rw [if_pos (.inr h)]
theorem callB1 {n : Int} (h : (S (letL n) != PySem.Str.ofString "") = true) (h2 : (n.fdiv 3).fmod 2 = 1) : callL n = 34 :: (letL n ++ [34]) := by
  have e : PySem.Str.ofString "" = S [] := by decide +kernel
  rw [e] at h
  unfold callL
  rw [if_neg]
  rintro (h3 | h3)
  · rw [h3] at h; simp at h
  · exact h3 h2
theorem letL_len (n : Int) : (letL n).length ≤ 1 := by
  unfold letL
  generalize (n.fmod 3).toNat = k
  match k with
  | 0 | 1 | 2 => decide
  | k + 3 => show ([] : List Nat).length ≤ 1; simp
theorem item_let {prog : Program} {w : World} {A : Around} {E : Value → Shared → Prop} {s : Shared} {Q : Value → Shared → Prop} {value slice : PySem.Expr} {l : Addr} {t1 t2 t3 u : Tok} {n : Int}
    (hl : s.heap.IsList l #[.str (PySem.Str.ofString "a") t1, .str (PySem.Str.ofString "b") t2, .str (PySem.Str.ofString "") t3]) (h : ∀ t, LetOf n → Q (.str (S (letL n)) t) s)
    (hs : subscripted slice false (.ref l) (.int (n.fmod 3) u) = operate [.ref l, .int (n.fmod 3) u] (getItem (.ref l) (.int (n.fmod 3) u)) := by with_unfolding_all rfl) :
    wpAny (model prog w) A (subscriptTail value slice (.ref l) (.int (n.fmod 3) u)) Q E s := by
  have h0 : 0 ≤ n.fmod 3 := Int.fmod_nonneg_of_pos _ (by decide)
  have h1 : n.fmod 3 < 3 := Int.fmod_lt_of_pos _ (by decide)
  have ea : PySem.Str.ofString "a" = S [97] := by decide +kernel
  have eb : PySem.Str.ofString "b" = S [98] := by decide +kernel
  have ec : PySem.Str.ofString "" = S [] := by decide +kernel
  rw [ea, eb, ec] at hl
  have h := fun t => h t trivial
  unfold letL at h
  revert h hs
  generalize n.fmod 3 = k at h0 h1
  intro hs h
  have : k = 0 ∨ k = 1 ∨ k = 2 := by omega
  rcases this with rfl | rfl | rfl
  · exact tail_any hl.typeIs slot_list_getitem.lookup (wpAny_getItem_list hl (by decide : (0 : Int) ≤ 0) (by decide) rfl (h t1)) hs
  · exact tail_any hl.typeIs slot_list_getitem.lookup (wpAny_getItem_list hl (by decide : (0 : Int) ≤ 1) (by decide) rfl (h t2)) hs
  · exact tail_any hl.typeIs slot_list_getitem.lookup (wpAny_getItem_list hl (by decide : (0 : Int) ≤ 2) (by decide) rfl (h t3)) hs
theorem callL_len (n : Int) : (callL n).length ≤ 5 := by
  have := letL_len n
  unfold callL
  split <;> simp <;> omega
noncomputable def joinL : List (List Nat) → List Nat
  | [] => []
  | [x] => x
  | x :: y :: r => x ++ 10 :: joinL (y :: r)
noncomputable def fileL (n0 n1 n2 n3 n4 n5 n6 : Int) : List Nat := pg [rowL n0, rowL n1, rowL n2, rowL n3, callL n4, callL n5, callL n6]
theorem joinL_pg : ∀ (ys : List (List Nat)), ys ≠ [] → joinL ys ++ [10] = pg ys
  | [], h => absurd rfl h
  | [x], _ => by simp [joinL, pg]
  | x :: y :: r, _ => by
    have := joinL_pg (y :: r) (by simp)
    show (x ++ 10 :: joinL (y :: r)) ++ [10] = pg (x :: y :: r)
    have e : pg (x :: y :: r) = x ++ [10] ++ pg (y :: r) := by simp [pg]
    rw [e, ← this]; simp
theorem sjoin : ∀ (ys : List (List Nat)), PySem.Str.join (PySem.Str.ofString "\n") (ys.map S) = S (joinL ys)
  | [] => rfl
  | [x] => rfl
  | x :: y :: r => by
    have := sjoin (y :: r)
    have e : PySem.Str.join (PySem.Str.ofString "\n") ((x :: y :: r).map S) = S x ++ PySem.Str.ofString "\n" ++ PySem.Str.join (PySem.Str.ofString "\n") ((y :: r).map S) := rfl
    rw [e, this, lit_nl]
    simp [joinL, S_append]
theorem join_S (ys : List (List Nat)) : Txt.join (PySem.Str.ofString "\n") (ys.map S) = S (joinL ys) := by
  unfold Txt.join
  rw [StrLaws.glued_eq_join]
  exact sjoin ys
theorem join7 {prog : Program} {w : World} {A : Around} {E : Value → Shared → Prop} {s : Shared} {Q : Value → Shared → Prop} {h₀ : Heap} {L : Addr} {news : Led} {D : Addr} {vs : Array Value} {n : Nat} {t : Tok} (ys : List (List Nat))
    (N : News h₀ L s.heap news) (m : (D, W.listOf vs n) ∈ news) (hi : StrsAre vs.toList (ys.map S)) (hb : ∀ y ∈ ys, y.length ≤ 20) (hl : ys.length ≤ 20) (h : ∀ t k, Q (.str (S (joinL ys)) t) { s with toks := k }) :
    wpAny (model prog w) A (call (.builtin "str.join") [.str (PySem.Str.ofString "\n") t, .ref D]) Q E s := by
  refine join_listW (News.isList N m) hi (by rw [lit_nl, S_len]; decide) ?_ (fun t k => by rw [join_S]; exact h t k)
  have : ∀ l : List (List Nat), (∀ y ∈ l, y.length ≤ 20) → ((l.map S).map (·.length)).sum ≤ l.length * 20 := by
    intro l
    induction l with
    | nil => simp
    | cons a r ih =>
      intro hb
      have h1 := ih fun y hy => hb y (.tail _ hy)
      have h2 := hb a (.head _)
      simp only [List.map_cons, List.sum_cons, S_len, List.length_cons]
      omega
  have := this ys hb
  simp only [List.length_map]
  omega
/-- what stands behind the `if`: the name `letter` tells the row -/
noncomputable def JoinS (h₀ : Heap) (L : Addr) (m : PySem.Str → Option Value) (l : List Nat) (news : Led) (s : Shared) : Flow → Shared → Prop := fun f s2 =>
  f = .next ∧ ∃ h' tk' t, s2 = { s with heap := h', toks := tk' } ∧ Fr h₀ L h' (fun y => if y = PySem.Str.ofString "letter" then some (.str (S l) t) else m y) ∧ News h₀ L h' news
theorem join {prog : Program} {w : World} {A : Around} {E : Value → Shared → Prop} {s : Shared} {Q : Flow → Shared → Prop} {act : Sem Flow} {h₀ : Heap} {L : Addr} {m : PySem.Str → Option Value} {news : Led} {n : Int} (hL : LetOf n) (F : Fr h₀ L s.heap m) (N : News h₀ L s.heap news)
    (body : wpAny (model prog w) A act (JoinS h₀ L m (callL n) news s) E s)
    (rest : ∀ h' tk' t, Fr h₀ L h' (fun y => if y = PySem.Str.ofString "letter" then some (.str (S (callL n)) t) else m y) → News h₀ L h' news → Q .next { s with heap := h', toks := tk' }) : wpAny (model prog w) A act Q E s :=
  wpAny_mono body (fun f s2 j => by
    obtain ⟨rfl, h', tk', t, rfl, F', N'⟩ := j
    exact rest h' tk' t F' N') fun _ _ e => e
theorem joinA {h₀ : Heap} {L : Addr} {m : PySem.Str → Option Value} {news : Led} {s : Shared} {h' : Heap} {tk' : Nat} {t : Tok} {n : Int} (e : callL n = letL n) (em : m (PySem.Str.ofString "letter") = some (.str (S (letL n)) t)) (F : Fr h₀ L h' m) (N : News h₀ L h' news) :
    JoinS h₀ L m (callL n) news s .next { s with heap := h', toks := tk' } := by
  refine ⟨rfl, h', tk', t, rfl, ?_, N⟩
  have : (fun y => if y = PySem.Str.ofString "letter" then some (.str (S (callL n)) t) else m y) = m := by
    funext y
    by_cases hy : y = PySem.Str.ofString "letter"
    · rw [if_pos hy, hy, em, e]
    · rw [if_neg hy]
  rw [this]; exact F
theorem joinB {h₀ : Heap} {L : Addr} {m : PySem.Str → Option Value} {news : Led} {s : Shared} {h' : Heap} {tk' : Nat} {t : Tok} {n : Int} (e : callL n = 34 :: (letL n ++ [34])) (F : Fr h₀ L h' (fun y => if y = PySem.Str.ofString "letter" then some (.str (S (34 :: (letL n ++ [34]))) t) else m y)) (N : News h₀ L h' news) :
    JoinS h₀ L m (callL n) news s .next { s with heap := h', toks := tk' } := ⟨rfl, h', tk', t, rfl, by rw [e]; exact F, N⟩




section
variable {prog : Program} {w : World} {A : Around} {E : Value → Shared → Prop} {s : Shared} {h₀ : Heap} {L : Addr} {m : PySem.Str → Option Value} {news : Led}
theorem append_strs {D : Addr} {lst : List (PySem.Str × Tok)} {n : Nat} {x : PySem.Str} {t : Tok} {news' : Led} {Q : Value → Shared → Prop} (F : Fr h₀ L s.heap m) (N : News h₀ L s.heap news) (U : Upd D (W.listOf (strValues lst).toArray n) (W.listOf (strValues (lst ++ [(x, t)])).toArray (n + 1)) news news')
    (hz : lst.length ≤ 1000) (h : ∀ h', Fr h₀ L h' m → News h₀ L h' news' → Q .none { s with heap := h' }) : wpAny (model prog w) A (call (.builtin "list.append") [.ref D, .str x t]) Q E s := by
  have e : (strValues (lst ++ [(x, t)])).toArray = (strValues lst).toArray.push (.str x t) := by simp [strValues]
  rw [e] at U
  exact append_K F N U h (by
    have e2 : sizeLine = 16777216 := by decide
    simp [strValues, e2]; omega)
end
theorem strsAre_of {lst : List (PySem.Str × Tok)} : ∀ {ys : List PySem.Str}, lst.map (·.1) = ys → StrsAre (strValues lst) ys := by
  induction lst with
  | nil => intro ys h; subst h; exact .nil
  | cons a r ih => intro ys h; subst h; exact .cons _ _ (ih rfl)
theorem join_notes {prog : Program} {w : World} {A : Around} {E : Value → Shared → Prop} {s : Shared} {Q : Value → Shared → Prop} {h₀ : Heap} {L : Addr} {news : Led} {D : Addr} {lst : List (PySem.Str × Tok)} {n : Nat} {t : Tok} {ys : List (List Nat)}
    (N : News h₀ L s.heap news) (m : (D, W.listOf (strValues lst).toArray n) ∈ news) (e : lst.map (·.1) = ys.map S) (hb : ∀ y ∈ ys, y.length ≤ 20) (hl : ys.length ≤ 20) (h : ∀ t k, Q (.str (S (joinL ys)) t) { s with toks := k }) :
    wpAny (model prog w) A (call (.builtin "str.join") [.str (PySem.Str.ofString "\n") t, .ref D]) Q E s := join7 ys N m (strsAre_of e) hb hl h

noncomputable def LsS (p : Prop) : Prop := p
theorem LsS.go {p : Prop} (h : LsS p) : p := h
section
variable {prog : Program} {w : World} {A : Around} {E : Value → Shared → Prop} {s : Shared} {env : Env} {h₀ : Heap} {x : PySem.Str} {body : List Stmt} {Q : Flow → Shared → Prop}
theorem list_inv {I : Addr} {lp : Addr × Obj} (all : List Value) (Inv : Nat → (PySem.Str → Option Value) → Led → Prop)
    (turn : ∀ i v, all[i]? = some v → ∀ m news, Inv i m news → ∀ it h tk, it.cls = .type "list_iterator" → Fr h₀ env.locals h (fun y => if y = x then some v else m y) → News h₀ env.locals h ((I, it) :: news) →
      wpAny (model prog w) A (execs body env) (UnrPost h₀ env.locals { s with heap := h, toks := tk } I it (fun m' n' => lp ∈ n' ∧ Inv (i + 1) m' n') Q) E { s with heap := h, toks := tk })
    (done : ∀ m news, Inv all.length m news → ∀ h tk, Fr h₀ env.locals h m → News h₀ env.locals h news → Q .next { s with heap := h, toks := tk }) :
    ∀ (k i : Nat) (m : PySem.Str → Option Value) (news : Led), i + k = all.length → Inv i m news → ListRest prog w A E h₀ env x body Q s I lp (all.drop i) m news
  | 0, i, m, news, e, hi => by
    obtain rfl : i = all.length := e
    rw [List.drop_length]
    exact done m news hi
  | k + 1, i, m, news, e, hi => by
    have hlt : i < all.length := by omega
    rw [List.drop_eq_getElem_cons hlt]
    exact fun it h tk hit F N => wpAny_mono (turn i all[i] (List.getElem?_eq_getElem hlt) m news hi it h tk hit F N) (unrPost_mono fun m' n' x => ⟨x.1, list_inv all Inv turn done k (i + 1) m' n' (by omega) x.2⟩) fun _ _ x => x
theorem LsS.inv {I : Addr} {lp : Addr × Obj} {all : List Value} {m : PySem.Str → Option Value} {news : Led} (Inv : Nat → (PySem.Str → Option Value) → Led → Prop) (init : Inv 0 m news)
    (turn : ∀ i v, all[i]? = some v → ∀ m news, Inv i m news → ∀ it h tk, it.cls = .type "list_iterator" → Fr h₀ env.locals h (fun y => if y = x then some v else m y) → News h₀ env.locals h ((I, it) :: news) →
      wpAny (model prog w) A (execs body env) (UnrPost h₀ env.locals { s with heap := h, toks := tk } I it (fun m' n' => lp ∈ n' ∧ Inv (i + 1) m' n') Q) E { s with heap := h, toks := tk })
    (done : ∀ m news, Inv all.length m news → ∀ h tk, Fr h₀ env.locals h m → News h₀ env.locals h news → Q .next { s with heap := h, toks := tk }) :
    LsS (ListRest prog w A E h₀ env x body Q s I lp all m news) := list_inv all Inv turn done all.length 0 m news (by omega) init
end
theorem set2 {m : PySem.Str → Option Value} {k1 k2 : PySem.Str} : m = fun y => if y = k1 then m k1 else if y = k2 then m k2 else m y := by
  funext y
  by_cases e1 : y = k1
  · rw [if_pos e1, e1]
  rw [if_neg e1]
  by_cases e2 : y = k2
  · rw [if_pos e2, e2]
  rw [if_neg e2]
/-- the rows told so far; `p` names what the loop has worked out, `q` is the loop's own name -/
noncomputable def FileSt (f : Int → List Nat) (ns : List Int) (p q : PySem.Str) (m0 : PySem.Str → Option Value) (ys : List (List Nat)) (D : Addr) (pre base : Led) (i : Nat) (m : PySem.Str → Option Value) (news : Led) : Prop :=
  ∃ (lst : List (PySem.Str × Tok)) (n : Nat) (v1 v2 : Option Value), m = (fun y => if y = p then v1 else if y = q then v2 else m0 y) ∧ news = pre ++ (D, W.listOf (strValues lst).toArray n) :: base ∧ lst.map (·.1) = (ys ++ (ns.take i).map f).map S
/-- the turn's number -/
theorem at_int {ns : List Int} {ts : List Tok} {i : Nat} {v : Value} (h : (List.zipWith Value.int ns ts)[i]? = some v) : ∃ n t, v = .int n t ∧ ns.take (i + 1) = ns.take i ++ [n] ∧ n ∈ ns ∧ i < ns.length := by
  rw [List.getElem?_zipWith] at h
  cases hn : ns[i]? with
  | none => rw [hn] at h; cases h
  | some n =>
    cases ht : ts[i]? with
    | none => rw [hn, ht] at h; cases h
    | some t =>
      rw [hn, ht] at h
      obtain ⟨hi, e⟩ := List.getElem?_eq_some_iff.mp hn
      exact ⟨n, t, (Option.some.inj h).symm, by rw [List.take_add_one, hn]; rfl, e ▸ List.getElem_mem hi, hi⟩
theorem rows_more {f : Int → List Nat} {ns : List Int} {ys : List (List Nat)} {i : Nat} {n : Int} {lst : List (PySem.Str × Tok)} {t : Tok} (e : lst.map (·.1) = (ys ++ (ns.take i).map f).map S) (et : ns.take (i + 1) = ns.take i ++ [n]) :
    (lst ++ [(S (f n), t)]).map (·.1) = (ys ++ (ns.take (i + 1)).map f).map S := by
  rw [et]; simp only [List.map_append, e, List.map_cons, List.map_nil, List.append_assoc]
theorem fold2x {p q : PySem.Str} {a b c d e : Option Value} {m : PySem.Str → Option Value} : (fun y => if y = p then a else if y = p then b else if y = q then c else if y = p then d else if y = q then e else m y) = (fun y => if y = p then a else if y = q then c else m y) := by
  funext y
  by_cases h1 : y = p
  · rw [if_pos h1, if_pos h1]
  rw [if_neg h1, if_neg h1, if_neg h1]
  by_cases h2 : y = q
  · simp only [if_pos h2, if_neg h1]
  simp only [if_neg h2, if_neg h1]
theorem off3 {a b I : Addr} {oa ob : Obj} {news : Led} (h : a < I ∧ b < I ∧ AllLt I news) : ∀ p ∈ (a, oa) :: (b, ob) :: news, p.1 ≠ I :=
  List.forall_mem_cons.mpr ⟨Nat.ne_of_lt h.1, List.forall_mem_cons.mpr ⟨Nat.ne_of_lt h.2.1, fun p hp => Nat.ne_of_lt (ktn_ltOf h.2.2 p hp)⟩⟩
theorem off4 {a b c I : Addr} {oa ob oc : Obj} {news : Led} (h : a < I ∧ b < I ∧ c < I ∧ AllLt I news) : ∀ p ∈ (a, oa) :: (b, ob) :: (c, oc) :: news, p.1 ≠ I :=
  List.forall_mem_cons.mpr ⟨Nat.ne_of_lt h.1, off3 h.2⟩
theorem rows_len {f : Int → List Nat} {ns : List Int} {ys : List (List Nat)} {i : Nat} {lst : List (PySem.Str × Tok)} (e : lst.map (·.1) = (ys ++ (ns.take i).map f).map S) (hy : ys.length ≤ 10) (hi : i < 10) : lst.length ≤ 1000 := by
  have := congrArg List.length e
  simp only [List.length_map, List.length_append, List.length_take] at this
  omega
theorem rg_Ct6_0 : True := by
  k_with_none
  k_with "mine lt" => (first | with_reducible assumption | with_reducible exact cj0 (by with_reducible assumption) | with_reducible exact cj1 (by with_reducible assumption) | with_reducible exact cl1 (by with_reducible assumption) | with_reducible exact cj2 (by with_reducible assumption) | with_reducible exact cl2 (by with_reducible assumption) | with_reducible exact cj3 (by with_reducible assumption) | with_reducible exact cl3 (by with_reducible assumption) | with_reducible exact cj4 (by with_reducible assumption) | with_reducible exact cl4 (by with_reducible assumption) | with_reducible exact cj5 (by with_reducible assumption) | with_reducible exact cl5 (by with_reducible assumption) | with_reducible exact cj6 (by with_reducible assumption) | with_reducible exact cl6 (by with_reducible assumption) | with_reducible exact cj7 (by with_reducible assumption) | with_reducible exact cl7 (by with_reducible assumption) | with_reducible exact cj8 (by with_reducible assumption) | with_reducible exact cl8 (by with_reducible assumption) | with_reducible exact cj9 (by with_reducible assumption) | with_reducible exact cl9 (by with_reducible assumption) | with_reducible exact cj10 (by with_reducible assumption) | with_reducible exact cl10 (by with_reducible assumption) | with_reducible exact cj11 (by with_reducible assumption) | with_reducible exact cl11 (by with_reducible assumption) | with_reducible exact cj12 (by with_reducible assumption) | with_reducible exact cl12 (by with_reducible assumption))
  k_with "mine om" => (first | with_reducible assumption | decide | with_reducible exact rm1 (by with_reducible assumption) | with_reducible exact rm2 (by with_reducible assumption) (by decide) | with_reducible exact rm3 (by with_reducible assumption) (by decide) | with_reducible exact rm9 (by with_reducible assumption) (by decide) | with_reducible exact rm8 (by with_reducible assumption) (by decide) | with_reducible exact rm7 (by with_reducible assumption) (by decide) | with_reducible exact rm4 (by with_reducible assumption) (by decide) | with_reducible exact rm5 (by with_reducible assumption) (by decide) | with_reducible exact rm6 (by with_reducible assumption) (by decide) | with_reducible exact ih2 _ | with_reducible exact ih1 (by with_reducible assumption) | with_reducible exact three_of (by with_reducible assumption) | with_reducible exact two_lt (by with_reducible assumption) | with_reducible exact three_lt (by with_reducible assumption) | with_reducible exact lt_of8 (by with_reducible assumption) (by decide) | with_reducible exact le_of (by with_reducible assumption) (by decide) | with_reducible exact le_of3 (by with_reducible assumption) (by decide) | with_reducible exact le_of4 (by with_reducible assumption) (by decide) | (with_reducible refine Nat.ne_of_lt ?_; walk_at "mine lt") | (with_reducible refine Nat.ne_of_gt ?_; walk_at "mine lt") | with_reducible exact And.left (by with_reducible assumption) | with_reducible exact And.right (by with_reducible assumption))
  k_with "execs cons" => (refine wpAny_execs_cons ?_; k_fold)
  k_with "mine room" => (first | (simp only [units_deeper, units_in1, Around.mark_units, depth_deeper, depth_in1, ktrTop, cLine, recursionLimit] at *; omega) | ktr_room | ktr_units)
  k_with "mine room" => (first | omega | (simp only [units_deeper, units_in1, Around.mark_units, depth_deeper, depth_in1, ktrTop]; omega) | (dsimp only [Around.deeper, Around.in1, ktrTop, Around.mark]; omega))
  k_with "mine mem" => ((refine mem_of ?_; with_reducible assumption))
  k_with "mine S" => (first | with_reducible exact rfl | with_reducible exact lit_nl | with_reducible exact tos (by with_reducible assumption) | with_reducible exact lit_sp)
  k_with "call builtin:str.index" => ((k_here; k_dflt ((try dsimp only); refine index_ab (by assumption) ?_)))
  k_with "compareOp In int ref" => ((k_here; k_dflt (refine in_list_ints (News.isList (by k_asm) (by k_mem)) (by assumption) ?_)))
  k_with "binaryOp Mult str int" => ((k_here; k_dflt (refine str_mul' (by omega) ?_; intro _ _)))
  k_with "binaryOp Add str str" => ((k_here; k_dflt (refine add_eq (by walk_at "mine S") (by walk_at "mine S") (by (simp only [List.length_append, List.length_cons, List.length_nil, List.length_replicate]; omega)) ?_; intro _ _)))
  k_with "mine S" => (first | with_reducible exact rfl | with_reducible exact lit_q | with_reducible exact lit_b | with_reducible exact lit_nl)
  k_with "subscriptTail List BinOp ref int" => ((k_here; k_dflt (refine' item_row ?q9k1 ?_ ?q9k2; (case q9k2 => with_unfolding_all rfl); (case q9k1 => exact News.isList (by k_asm) (by k_mem)); intro _)))
  k_with "last subscriptTail" => ((k_here; k_dflt (refine' item_row ?q9k1 ?_ ?q9k2; (case q9k2 => with_unfolding_all rfl); (case q9k1 => exact News.isList (by k_asm) (by k_mem)); intro _)))
  k_with "subscriptTail List BinOp ref int" => ((k_here; k_dflt (refine' item_let ?q9k1 ?_ ?q9k2; (case q9k2 => with_unfolding_all rfl); (case q9k1 => exact News.isList (by k_asm) (by k_mem)); intro _ _)))
  k_with "last subscriptTail" => ((k_here; k_dflt (refine' item_let ?q9k1 ?_ ?q9k2; (case q9k2 => with_unfolding_all rfl); (case q9k1 => exact News.isList (by k_asm) (by k_mem)); intro _ _)))
  k_with "exec If" => ((k_here; (fail_if_success (with_reducible show wpAny _ _ _ (JoinS _ _ _ _ _ _) _ _)); (with_reducible show wpAny _ _ (exec (Stmt.If (Expr.BoolOp _ _ _) _ _ _) _) _ _ _); k_dflt (refine' join ?q9hL ?q9hF ?q9hN ?_ ?_; (case q9hL => assumption); (case q9hF => k_asm); (case q9hN => k_asm); rotate_left; intro _ _ _ _ _; rotate_right)))
  k_with "JoinS" => (k_dflt (first | (refine' joinA ?q9e ?q9em ?q9F ?q9N; (case q9e => first | with_reducible exact callA1 (by with_reducible assumption) | with_reducible exact callA2 (by with_reducible assumption)); (case q9F => k_asm); (case q9N => k_asm); (case q9em => exact rfl)) | (refine' joinB ?q9e ?q9F ?q9N; (case q9e => with_reducible exact callB1 (by with_reducible assumption) (by with_reducible assumption)); (case q9F => k_asm); (case q9N => k_asm))))
  k_with "mine iter" => (((with_reducible show wpAny _ _ (pyIter (Value.ref _)) (fun it s₂ => LoopAtV _ _ _ _ _ _ _ _ _ it s₂) _ _); k_dflt (refine' iter_listUnr ?q9hh ?q9F ?q9N ?q9hm ?q9hc ?q9hd ?_; (case q9hh => exact rfl); (case q9F => k_asm); (case q9N => k_asm); (case q9hm => k_mem); (case q9hc => exact rfl); (case q9hd => exact rfl); intro _ l1; (try k_lt l1); (try (revert l1; intro _)))))
  k_with "exec For Name Subscript cons nil" => ((k_here; k_dflt ((rename Fr _ _ _ _ => lF'); (with_unfolding_all refine' For_invVF lF' ?q9k1 ?q9k2 ?_; (case q9k1 => exact rfl); (case q9k2 => exact rfl); k_whole))))
  k_with "call ref" => ((k_here; k_dflt ((with_reducible show wpAny _ _ (call (Value.ref 168) [Value.int _ _]) _ _ _); (k_dflt (refine' con_same _ ?q9k1 ?q9k2 ?q9k3 ?q9k4 ?q9k5 ?q9kK (word_con _ _ _ _ (by omega) (by omega)) ?q9kd ?q9ku ?_); (case q9k1 => k_asm); (case q9k2 => k_asm); (case q9k3 => k_asm); (case q9k4 => k_asm); (case q9k5 => k_asm); (case q9kK => first | exact rfl | assumption); (case q9kd => walk_at "mine room"); (case q9ku => walk_at "mine room"); intro _ _ _ p9 _ _; obtain ⟨_, e9⟩ := p9; subst e9; (try dsimp only); (try k_fold)))))
  k_with "ListRest" => (k_dflt (refine LsS.go ?_))
  k_with "call builtin:list.append" => ((k_here; k_dflt (refine' append_strs ?q9F ?q9N ?q9U ?q9z ?_; (case q9F => k_asm); (case q9N => k_asm); (case q9U => k_upd); (case q9z => omega); intro _ _ _)))
  k_with "call builtin:str.join" => ((k_here; k_dflt (refine' join_notes ?q9N ?q9m ?q9e ?q9b ?q9l ?_; (case q9N => k_asm); (case q9m => k_mem); (case q9e => with_reducible assumption); (case q9b => with_reducible assumption); (case q9l => with_reducible assumption); intro _ _)))
  trivial
theorem file_con (w : World) (nA : Addr) (n0 n1 n2 n3 n4 n5 n6 n7 : Int) (t0 t1 t2 t3 t4 t5 t6 t7 : Tok) (news : Led) {kn : Nat} (hn : (nA, W.listOf #[.int n0 t0, .int n1 t1, .int n2 t2, .int n3 t3, .int n4 t4, .int n5 t5, .int n6 t6, .int n7 t7] kn) ∈ news)
    (b0 : 0 ≤ n0 ∧ n0 < 1000000) (b1 : 0 ≤ n1 ∧ n1 < 1000000) (b2 : 0 ≤ n2 ∧ n2 < 1000000) (b3 : 0 ≤ n3 ∧ n3 < 1000000) (b4 : 0 ≤ n4 ∧ n4 < 1000000) (b5 : 0 ≤ n5 ∧ n5 < 1000000) (b6 : 0 ≤ n6 ∧ n6 < 1000000) :
    Con w 175 2 [.ref nA] news (fun r ns => ns = news ∧ ∃ t, r = .str (S (fileL n0 n1 n2 n3 n4 n5 n6)) t) := by
  have w0 := wordL_len n0
  have w1 := wordL_len n1
  have w2 := wordL_len n2
  have w3 := wordL_len n3
  have v4 := letL_len n4
  have v5 := letL_len n5
  have v6 := letL_len n6
  unfold Con
  k_fill
  intro dp un gd cn cs a ccd cl outer A₀ base h₀ L m s Q E mean mg mb B F X N T hk hdp hu hret
  refine wpAny_call ?_
  k_dflt cell_enter
  k_steps
  have big : ∀ n ∈ [n0, n1, n2, n3, n4, n5, n6], 0 ≤ n ∧ n < 1000000 := by
    simp only [List.forall_mem_cons]
    exact ⟨b0, b1, b2, b3, b4, b5, b6, by simp⟩
  refine' LsS.inv (FileSt rowL [n0, n1, n2, n3] (PySem.Str.ofString "word") (PySem.Str.ofString "number") _ [] _ [(_, W.listOf #[Value.int n0 t0, Value.int n1 t1, Value.int n2 t2, Value.int n3 t3] 0)] news) ⟨[], 0, _, _, set2, rfl, rfl⟩ ?turn ?done
  case turn =>
    intro i v hv m news2 hinv it h tk hit Fm Nm
    obtain ⟨lst, k, v1, v2, rfl, rfl, hlst⟩ := hinv
    obtain ⟨n, t, rfl, htk, hmem, hi⟩ := at_int (ns := [n0, n1, n2, n3]) (ts := [t0, t1, t2, t3]) hv
    obtain ⟨bn0, bn1⟩ := big n (by simp only [List.mem_cons, List.not_mem_nil, or_false] at hmem ⊢; omega)
    have hll := rows_len hlst (Nat.zero_le _) (Nat.lt_of_lt_of_le hi (by simp))
    have wl := wordL_len n
    dsimp only [List.cons_append, List.nil_append] at Nm
    dsimp only at Fm
    k_steps
    refine' UnrEnd.intro (by k_asm) (by k_asm) ((_, W.listOf #[Value.int n0 t0, Value.int n1 t1, Value.int n2 t2, Value.int n3 t3] 0) :: (?Da, W.listOf (strValues (lst ++ [(S (rowL n), ?ta)])).toArray (k + 1)) :: news) ?e1 (off3 (by with_reducible assumption)) ⟨.head _, lst ++ [(S (rowL n), _)], k + 1, _, _, fold2, rfl, rows_more hlst htk⟩
    intro p hp
    rcases List.mem_cons.mp hp with hp | hp
    · rw [hp]; k_mem
    · repeat (first | exact hp | refine List.Mem.tail _ ?_)
  case done =>
    intro m news2 hinv h tk Fm Nm
    obtain ⟨lst, k, v1, v2, rfl, rfl, hlst⟩ := hinv
    dsimp only [List.cons_append, List.nil_append] at Nm
    (try dsimp only)
    dsimp only at Fm
    k_steps
    refine' LsS.inv (FileSt callL [n4, n5, n6] (PySem.Str.ofString "letter") (PySem.Str.ofString "number") _ [rowL n0, rowL n1, rowL n2, rowL n3] _ [(_, W.listOf #[Value.int n4 t4, Value.int n5 t5, Value.int n6 t6] 0), (_, W.listOf #[Value.int n0 t0, Value.int n1 t1, Value.int n2 t2, Value.int n3 t3] 0)] news) ⟨lst, k, _, _, set2, rfl, hlst⟩ ?turn ?done
    case turn =>
      clear hlst
      intro i v hv m news2 hinv it h tk hit Fm Nm
      obtain ⟨lst, k, v1, v2, rfl, rfl, hlst⟩ := hinv
      obtain ⟨n, t, rfl, htk, hmem, hi⟩ := at_int (ns := [n4, n5, n6]) (ts := [t4, t5, t6]) hv
      obtain ⟨bn0, bn1⟩ := big n (by simp only [List.mem_cons, List.not_mem_nil, or_false] at hmem ⊢; omega)
      have hll := rows_len hlst (by simp) (Nat.lt_of_lt_of_le hi (by simp))
      have wl := letL_len n
      dsimp only [List.cons_append, List.nil_append] at Nm
      dsimp only at Fm
      k_steps
      refine' UnrEnd.intro (by k_asm) (by k_asm) ((_, W.listOf #[Value.int n4 t4, Value.int n5 t5, Value.int n6 t6] 0) :: (_, W.listOf #[Value.int n0 t0, Value.int n1 t1, Value.int n2 t2, Value.int n3 t3] 0) :: (?Db, W.listOf (strValues (lst ++ [(S (callL n), ?tb)])).toArray (k + 1)) :: news) ?e1b (off4 (by with_reducible assumption)) ⟨.head _, lst ++ [(S (callL n), _)], k + 1, _, _, ?m2, rfl, rows_more hlst htk⟩
      case m2 => exact fold2x
      intro p hp
      rcases List.mem_cons.mp hp with hp | hp
      · rw [hp]; k_mem
      · repeat (first | exact hp | refine List.Mem.tail _ ?_)
    case done =>
      clear hlst
      intro m news2 hinv h tk Fm Nm
      obtain ⟨lst, k, v1, v2, rfl, rfl, hlst⟩ := hinv
      have hl7 : lst.map (·.1) = [rowL n0, rowL n1, rowL n2, rowL n3, callL n4, callL n5, callL n6].map S := hlst
      have hb : ∀ y ∈ [rowL n0, rowL n1, rowL n2, rowL n3, callL n4, callL n5, callL n6], y.length ≤ 5 := by
        simp only [List.forall_mem_cons]
        exact ⟨rowL_len _, rowL_len _, rowL_len _, rowL_len _, callL_len _, callL_len _, callL_len _, by simp⟩
      have hb2 : ∀ y ∈ [rowL n0, rowL n1, rowL n2, rowL n3, callL n4, callL n5, callL n6], y.length ≤ 20 := fun y hy => Nat.le_trans (hb y hy) (by decide)
      have hb3 : [rowL n0, rowL n1, rowL n2, rowL n3, callL n4, callL n5, callL n6].length ≤ 20 := by simp
      have jl : (joinL [rowL n0, rowL n1, rowL n2, rowL n3, callL n4, callL n5, callL n6]).length ≤ 42 := by
        have h1 := pg_len (B := 5) [rowL n0, rowL n1, rowL n2, rowL n3, callL n4, callL n5, callL n6] hb
        rw [← joinL_pg _ (by simp)] at h1
        simp only [List.length_append, List.length_cons, List.length_nil] at h1
        omega
      dsimp only [List.cons_append, List.nil_append] at Nm
      dsimp only at Fm
      (try dsimp only)
      k_steps
      refine hret _ _ _ _ (by k_asm) (news_sub (by k_asm) ?_) ⟨rfl, _, congrArg (fun l => Value.str (S l) _) (joinL_pg _ (by simp))⟩
      intro p hp
      repeat (first | exact hp | refine List.Mem.tail _ ?_)
end
section
open PySem PySem.W PySem.Calls PyProof.Rows
set_option linter.unusedVariables false
set_option linter.unusedSimpArgs false
set_option maxRecDepth 100000
set_option maxHeartbeats 4000000

inductive CharsAre : List Value → List Nat → Prop
  | nil : CharsAre [] []
  | cons (c : Nat) (t : Tok) {vs : List Value} {l : List Nat} : CharsAre vs l → CharsAre (.str (S [c]) t :: vs) (c :: l)
theorem charsOf : ∀ {l : List Nat} {vs : List Value}, CarriedAll vs ((l.map fun c => (⟨#[c]⟩ : PySem.Str)).map .str) → CharsAre vs l
  | [], _, h => by cases h; exact .nil
  | c :: l, _, h => by
    cases h with
    | cons a r =>
      cases a
      exact .cons c _ (charsOf r)
theorem signs_S (l : List Nat) : signs (S l) = l.map fun c => (⟨#[c]⟩ : PySem.Str) := by simp [signs, S]
theorem list_S {prog : Program} {w : World} {A : Around} {E : Value → Shared → Prop} {s : Shared} {h₀ : Heap} {L : Addr} {m : PySem.Str → Option Value} {Q : Value → Shared → Prop} {l : List Nat} {t : Tok} {news : Led} (hh : A.handled = none) (F : Fr h₀ L s.heap m) (N : News h₀ L s.heap news) (hl : l.length ≤ 1000)
    (hQ : ∀ D h' tk n (ys : List Value), Fr h₀ L h' m → News h₀ L h' ((D, W.listOf ys.toArray n) :: news) → (∀ p ∈ news, p.1 < D) → CharsAre ys l → Q (.ref D) { s with heap := h', toks := tk }) :
    wpAny (model prog w) A (call (.type "list") [.str (S l) t]) Q E s := by
  refine list_strD hh F N (fun h' tk ys F' N' hk hn hL P hc => ?_) (by have e : sizeLine = 16777216 := by decide
                                                                       rw [S_len, e]; omega)
  obtain ⟨n, N2⟩ := made_enters P F' N' hn
  exact hQ _ h' tk n ys F' N2 (fun p hp => Heap.lt_size (N p hp).1) (charsOf (by rw [signs_S] at hc; exact hc))

noncomputable def ConP (P : Heap → Prop) (w : World) (f : Addr) (need : Nat) (vs : List Value) (news : Led) (Ret : Value → Led → Prop) : Prop :=
  ∀ (dp un : Nat) (gd : Option (List Code)) (cn : PySem.Str) (cs : Scope) (a : Addr) (ccd : Value) (cl : List (PySem.Str × Addr)) (outer : List Env)
    (A₀ : Around) (base h₀ : Heap) (L : Addr) (m : PySem.Str → Option Value) (s : Shared) (Q E : Value → Shared → Prop) (mean : ExcName → Option Value) (mg mb : PySem.Str → Option Value),
    Below A₀ base outer h₀ → Fr h₀ L s.heap m → (hd.heap_39 w.params).In h₀ → News h₀ L s.heap news → Top topProg looseX mean mg mb h₀ → cs.kind = .function →
    dp + need < recursionLimit → un + 8 * need < cLine →
    (∀ r news' h' tk', Fr h₀ L h' m → News h₀ L h' news' → Ret r news' → Q r { s with heap := h', toks := tk' }) → P base →
    wpAny (model PySem.Challenge.rw_xe0019_01.row.prog w) (ktrTop dp un gd cn cs L a ccd cl outer) (call (.ref f) vs) Q E s
noncomputable def ConK (w : World) (f : Addr) (need : Nat) (vs : List Value) (news : Led) (Ret : Value → Led → Prop) : Prop :=
  ∀ (dp un : Nat) (gd : Option (List Code)) (cn : PySem.Str) (cs : Scope) (a : Addr) (ccd : Value) (cl : List (PySem.Str × Addr)) (outer : List Env)
    (A₀ : Around) (base h₀ : Heap) (L : Addr) (m : PySem.Str → Option Value) (s : Shared) (Q E : Value → Shared → Prop) (mean : ExcName → Option Value) (mg mb : PySem.Str → Option Value),
    Below A₀ base outer h₀ → Fr h₀ L s.heap m → (hd.heap_39 w.params).In h₀ → News h₀ L s.heap news → Top topProg looseX mean mg mb h₀ → cs.kind = .function →
    dp + need < recursionLimit → un + 8 * need < cLine →
    (∀ r news' h' tk', Fr h₀ L h' m → News h₀ L h' news' → Ret r news' → Q r { s with heap := h', toks := tk' }) →
    codeAny (model PySem.Challenge.rw_xe0019_01.row.prog w) (ktrTop dp un gd cn cs L a ccd cl outer) (.call (.ref f) ⟨vs, []⟩) (fun r s' => match r with | .ok (.ret v) => Q v s' | .ok _ => False | .error e => E e s') s
theorem con_of {w : World} {f : Addr} {need : Nat} {vs : List Value} {news : Led} {Ret : Value → Led → Prop} (h : ConK w f need vs news Ret) : Con w f need vs news Ret :=
  fun dp un gd cn cs a ccd cl outer A₀ base h₀ L m s Q E mean mg mb B F X N T hk hd hu ret => wpAny_call (h dp un gd cn cs a ccd cl outer A₀ base h₀ L m s Q E mean mg mb B F X N T hk hd hu ret)
theorem con_useP {P : Heap → Prop} {w : World} {f : Addr} {need : Nat} {vs : List Value} {news : Led} {Ret : Value → Led → Prop} {dp un : Nat} {gd : Option (List Code)} {cn : PySem.Str} {cs : Scope} {a : Addr} {ccd : Value} {cl : List (PySem.Str × Addr)} {outer : List Env}
    {A₀ : Around} {base h₀ : Heap} {L : Addr} {m : PySem.Str → Option Value} {s : Shared} {Q E : Value → Shared → Prop} {mean : ExcName → Option Value} {mg mb : PySem.Str → Option Value}
    (B : Below A₀ base outer h₀) (F : Fr h₀ L s.heap m) (X : (hd.heap_39 w.params).In h₀) (N : News h₀ L s.heap news) (T : Top topProg looseX mean mg mb h₀) (hk : cs.kind = .function)
    (C : ConP P w f need vs news Ret) (hd : dp + need < recursionLimit) (hu : un + 8 * need < cLine) (hP : P base)
    (ret : ∀ r news' h' tk', Fr h₀ L h' m → News h₀ L h' news' → Ret r news' → Q r { s with heap := h', toks := tk' }) :
    wpAny (model PySem.Challenge.rw_xe0019_01.row.prog w) (ktrTop dp un gd cn cs L a ccd cl outer) (call (.ref f) vs) Q E s :=
  C dp un gd cn cs a ccd cl outer A₀ base h₀ L m s Q E mean mg mb B F X N T hk hd hu ret hP

noncomputable abbrev ent (w : World) (k : PySem.Str) (t : Tok) (v : Value) : DictEntry := { hash := PyData.keyHash w.params k, key := .str k t, val := v }
noncomputable abbrev dX (w : World) (k1 k2 k3 k4 tn tw : Tok) (ln : Int) (x0 lp : Addr) : Obj :=
  W.dictOf [ent w (PySem.Str.ofString "lineno") k1 (.int ln tn), ent w (PySem.Str.ofString "instream") k2 (.ref x0), ent w (PySem.Str.ofString "whitespace") k3 (.str (PySem.Str.ofString "\n\t\r ") tw), ent w (PySem.Str.ofString "pushback") k4 (.ref lp)] 4
noncomputable abbrev d0X (w : World) (k1 k2 k3 k4 k5 tn tw : Tok) (lp0 f : Addr) : Obj :=
  W.dictOf [ent w (PySem.Str.ofString "lineno") k1 (.int 1 tn), ent w (PySem.Str.ofString "instream") k2 .none, ent w (PySem.Str.ofString "whitespace") k3 (.str (PySem.Str.ofString "\n\t\r ") tw), ent w (PySem.Str.ofString "pushback") k4 (.ref lp0), ent w (PySem.Str.ofString "read") k5 (.ref f)] 5
/-- the contract of the made `read` -/
noncomputable def ReadAt (w : World) (f c cell D : Addr) (fo oc co : Obj) : Prop := ∀ (t : Tok) (news : Led), (f, fo) ∈ news → (c, oc) ∈ news → (cell, co) ∈ news → (∀ p ∈ news, p.1 ≠ D) →
  (∀ n, Con w f 12 [.int 1 t] ((D, W.listOf #[] n) :: news) (fun r ns => ns = (D, W.listOf #[] n) :: news ∧ ∃ t, r = .str (PySem.Str.ofString "") t)) ∧
  (∀ n a u vs l, CharsAre vs l → a < 128 → (∀ b ∈ l, b < 128) → l.length ≤ 1000 → Con w f 12 [.int 1 t] ((D, W.listOf (Value.str (S [a]) u :: vs).toArray n) :: news) (fun r ns => ns = (D, W.listOf vs.toArray (n + 1)) :: news ∧ r = .str (S [a]) u))
/-- what the lexer's objects are -/
structure LexA where
  x : Addr
  d : Addr
  lp : Addr
  x0 : Addr
  d0 : Addr
  lp0 : Addr
  f : Addr
  c : Addr
  D : Addr
  cell : Addr
  fo : Obj
  oc : Obj
  co : Obj
  k1 : Tok
  k2 : Tok
  k3 : Tok
  k4 : Tok
  tw : Tok
  j1 : Tok
  j2 : Tok
  j3 : Tok
  j4 : Tok
  j5 : Tok
  jn : Tok
  jw : Tok
noncomputable abbrev lexL (w : World) (Z : LexA) (ln : Int) (tn : Tok) (vs : List Value) (n : Nat) (news : Led) : Led :=
  (Z.D, W.listOf vs.toArray n) :: (Z.d, dX w Z.k1 Z.k2 Z.k3 Z.k4 tn Z.tw ln Z.x0 Z.lp) :: (Z.x, instObj 150 Z.d) :: (Z.lp, W.listOf #[] 0) :: (Z.x0, instObj 150 Z.d0) :: (Z.d0, d0X w Z.j1 Z.j2 Z.j3 Z.j4 Z.j5 Z.jn Z.jw Z.lp0 Z.f) ::
    (Z.f, Z.fo) :: (Z.c, Z.oc) :: (Z.cell, Z.co) :: news
structure LexOk (w : World) (Z : LexA) (news : Led) : Prop where
  read : ReadAt w Z.f Z.c Z.cell Z.D Z.fo Z.oc Z.co
  a1 : @LT.lt Nat _ Z.cell Z.D
  a2 : @LT.lt Nat _ Z.D Z.c
  a3 : @LT.lt Nat _ Z.c Z.f
  a4 : @LT.lt Nat _ Z.f Z.d0
  a5 : @LT.lt Nat _ Z.d0 Z.x0
  a6 : @LT.lt Nat _ Z.x0 Z.d
  a7 : @LT.lt Nat _ Z.d Z.x
  a8 : @LT.lt Nat _ Z.x Z.lp
  off : ∀ p ∈ news, p.1 ≠ Z.d ∧ p.1 ≠ Z.D
  fn : ∃ oc od fd sl, Z.fo = (⟨oc, od, .func fd, sl⟩ : Obj)
noncomputable def LexRet (w : World) (l : List Nat) (news : Led) (r : Value) (ns : Led) : Prop := ∃ (Z : LexA) (tn : Tok) (vs : List Value) (n : Nat) (ps : Array Value), r = .ref Z.x ∧ ns = lexL w Z 1 tn vs n ((177, tabObj ps) :: news) ∧ LexOk w Z ((177, tabObj ps) :: news) ∧ CharsAre vs l ∧ ∀ p ∈ ((177, tabObj ps) : Addr × Obj) :: news, p.1 < Z.cell
theorem subC {a : Addr × Obj} {l1 l2 : Led} (h : a ∈ l2) (t : ∀ p ∈ l1, p ∈ l2) : ∀ p ∈ a :: l1, p ∈ l2 := List.forall_mem_cons.mpr ⟨h, t⟩
theorem lex_done {w : World} {l : List Nat} {news : Led} {h₀ h : Heap} {L : Addr} {m : PySem.Str → Option Value} {s : Shared} {Q : Value → Shared → Prop} {x d lp x0 d0 lp0 f c D cell : Addr} {fo oc co : Obj} {ps : Array Value} {k1 k2 k3 k4 tn tw j1 j2 j3 j4 j5 jn jw : Tok} {vs : List Value} {n : Nat} {tk : Nat} {Lx : Addr}
    (hret : ∀ r news' h' tk', Fr h₀ L h' m → News h₀ L h' news' → LexRet w l news r news' → Q r { s with heap := h', toks := tk' })
    (F : Fr h₀ L h m)
    (N : News h₀ L h ((lp, W.listOf #[] 0) :: (x, instObj 150 d) :: (d, dX w k1 k2 k3 k4 tn tw 1 x0 lp) :: (lp0, W.listOf #[] 0) :: (x0, instObj 150 d0) :: (d0, d0X w j1 j2 j3 j4 j5 jn jw lp0 f) :: (f, fo) :: (c, oc) :: (D, W.listOf vs.toArray n) :: (cell, co) :: (177, tabObj ps) :: news))
    (hc : CharsAre vs l) (lt : ((((((((@LT.lt Nat _ cell D ∧ @LT.lt Nat _ D c) ∧ @LT.lt Nat _ c f) ∧ @LT.lt Nat _ f d0) ∧ @LT.lt Nat _ d0 x0) ∧ @LT.lt Nat _ x0 lp0) ∧ @LT.lt Nat _ lp0 d) ∧ @LT.lt Nat _ d x) ∧ @LT.lt Nat _ x lp)) (ho : ∀ p ∈ ((177, tabObj ps) : Addr × Obj) :: news, p.1 < Lx) (hx : Lx < cell) (hfn : ∃ oc od fd sl, fo = (⟨oc, od, .func fd, sl⟩ : Obj)) (hr : ReadAt w f c cell D fo oc co) : Q (.ref x) { s with heap := h, toks := tk } := by
  refine hret _ _ _ _ F (news_sub N ?_) ⟨⟨x, d, lp, x0, d0, lp0, f, c, D, cell, fo, oc, co, k1, k2, k3, k4, tw, j1, j2, j3, j4, j5, jn, jw⟩, tn, vs, n, ps, rfl, rfl, ⟨hr, lt.1.1.1.1.1.1.1.1, lt.1.1.1.1.1.1.1.2, lt.1.1.1.1.1.1.2, lt.1.1.1.1.1.2, lt.1.1.1.1.2, Nat.lt_trans lt.1.1.1.2 lt.1.1.2, lt.1.2, lt.2, fun p hp => ⟨Nat.ne_of_lt (Nat.lt_trans (Nat.lt_trans (ho p hp) hx) (Nat.lt_trans lt.1.1.1.1.1.1.1.1 (Nat.lt_trans lt.1.1.1.1.1.1.1.2 (Nat.lt_trans lt.1.1.1.1.1.1.2 (Nat.lt_trans lt.1.1.1.1.1.2 (Nat.lt_trans lt.1.1.1.1.2 (Nat.lt_trans lt.1.1.1.2 lt.1.1.2))))))), Nat.ne_of_lt (Nat.lt_trans (Nat.lt_trans (ho p hp) hx) lt.1.1.1.1.1.1.1.1)⟩, hfn⟩, hc, fun p hp => Nat.lt_trans (ho p hp) hx⟩
  · (repeat (refine subC (by k_mem) ?_)); intro p hp; (repeat (first | exact hp | refine List.Mem.tail _ ?_))
theorem reads_chars {h : Heap} {D : Addr} {l : List Nat} {vs : List Value} {n : Nat} (hl : h.get? D = some (W.listOf vs.toArray n)) (hc : CharsAre vs l) : Reads h (.ref D) (.list (l.map fun q => PyData.str (S [q]))) [D] := by
  refine reads_newData ⟨_, hl, rfl, _, rfl⟩ ?_
  clear hl
  induction hc with
  | nil => exact .nil
  | cons a t _ ih => exact .cons (.str _ _) ih
theorem chars_ne_nil {prog : Program} {w : World} {A : Around} {E : Value → Shared → Prop} {s : Shared} {Q : Value → Shared → Prop} {h₀ : Heap} {L : Addr} {led : List (Addr × Obj)} {D e : Addr} {a : Nat} {u : Tok} {vs : List Value} {l : List Nat} {n k : Nat}
    (N : News h₀ L s.heap led) (m1 : (D, W.listOf (Value.str (S [a]) u :: vs).toArray n) ∈ led) (m3 : (e, W.listOf #[] k) ∈ led) (hc : CharsAre vs l) (ha : a < 128) (hs : ∀ b ∈ l, b < 128)
    (hu : A.units + 64 < cLine) (h : Q (.bool false) s) : wpAny (model prog w) A (compareOp .Eq (.ref D) (.ref e)) Q E s := by
  have ra : Reads s.heap (.ref D) (.list ((a :: l).map fun q => PyData.str (S [q]))) _ := reads_chars (N.get m1) (.cons a u hc)
  have rb : Reads s.heap (.ref e) (.list []) _ := reads_list_at (N.get m3) rfl rfl .nil
  have h1 : ∀ q ∈ (a :: l).map (fun q => S [q]), PyData.strOk q = true := by
    intro q hq
    obtain ⟨b, hb, rfl⟩ := List.mem_map.mp hq
    refine strOk_S fun y hy => ?_
    rw [List.mem_singleton.mp hy]
    rcases List.mem_cons.mp hb with rfl | hb
    · exact ha
    · exact hs b hb
  have c1 := canLay_strs _ h1
  have c2 := depth_strs ((a :: l).map fun q => S [q])
  simp only [List.map_map, Function.comp_def] at c1 c2
  refine eq_dataH ra rb ?_ (by decide) hu ?_
  · simp only [List.map_cons] at c1 c2
    simp [SeqAt.shaped, PyData.canLay0, PyData.depth, c1, c2]
  · simp only [List.map_cons, PyData.eqv, PyData.eqvAll]; exact h
theorem pop0 {prog : Program} {w : World} {A : Around} {E : Value → Shared → Prop} {s : Shared} {Q : Value → Shared → Prop} {h₀ : Heap} {L : Addr} {m : PySem.Str → Option Value} {news news' : Led} {D : Addr} {y : Value} {vs : List Value} {n : Nat} {u : Tok}
    (F : Fr h₀ L s.heap m) (N : News h₀ L s.heap news) (U : Upd D (W.listOf (y :: vs).toArray n) (W.listOf vs.toArray (n + 1)) news news') (hz : vs.length ≤ 1000)
    (h : ∀ h', Fr h₀ L h' m → News h₀ L h' news' → Q y { s with heap := h' }) : wpAny (model prog w) A (call (.builtin "list.pop") [.ref D, .int 0 u]) Q E s := by
  refine kl_popAt (p := []) (q := vs) (k := 0) F N (by decide) ?_ rfl U (by have e : sizeLine = 16777216 := by decide
                                                                            rw [e]; simp; omega) h
  simp [seqIndex?]
theorem chars_len {vs : List Value} {l : List Nat} (h : CharsAre vs l) : vs.length = l.length := by
  induction h with
  | nil => rfl
  | cons _ _ _ ih => simp [ih]

theorem rg_Ct7_0 : True := by
  k_with_none
  k_with "mine lt" => (first | with_reducible assumption | with_reducible exact cj0 (by with_reducible assumption) | with_reducible exact cj1 (by with_reducible assumption) | with_reducible exact cl1 (by with_reducible assumption) | with_reducible exact cj2 (by with_reducible assumption) | with_reducible exact cl2 (by with_reducible assumption) | with_reducible exact cj3 (by with_reducible assumption) | with_reducible exact cl3 (by with_reducible assumption) | with_reducible exact cj4 (by with_reducible assumption) | with_reducible exact cl4 (by with_reducible assumption) | with_reducible exact cj5 (by with_reducible assumption) | with_reducible exact cl5 (by with_reducible assumption) | with_reducible exact cj6 (by with_reducible assumption) | with_reducible exact cl6 (by with_reducible assumption) | with_reducible exact cj7 (by with_reducible assumption) | with_reducible exact cl7 (by with_reducible assumption) | with_reducible exact cj8 (by with_reducible assumption) | with_reducible exact cl8 (by with_reducible assumption) | with_reducible exact cj9 (by with_reducible assumption) | with_reducible exact cl9 (by with_reducible assumption) | with_reducible exact cj10 (by with_reducible assumption) | with_reducible exact cl10 (by with_reducible assumption) | with_reducible exact cj11 (by with_reducible assumption) | with_reducible exact cl11 (by with_reducible assumption) | with_reducible exact cj12 (by with_reducible assumption) | with_reducible exact cl12 (by with_reducible assumption))
  k_with "mine om" => (first | with_reducible assumption | decide | with_reducible exact rm1 (by with_reducible assumption) | with_reducible exact rm2 (by with_reducible assumption) (by decide) | with_reducible exact rm3 (by with_reducible assumption) (by decide) | with_reducible exact rm9 (by with_reducible assumption) (by decide) | with_reducible exact rm8 (by with_reducible assumption) (by decide) | with_reducible exact rm7 (by with_reducible assumption) (by decide) | with_reducible exact rm4 (by with_reducible assumption) (by decide) | with_reducible exact rm5 (by with_reducible assumption) (by decide) | with_reducible exact rm6 (by with_reducible assumption) (by decide) | with_reducible exact ih2 _ | with_reducible exact ih1 (by with_reducible assumption) | with_reducible exact three_of (by with_reducible assumption) | with_reducible exact two_lt (by with_reducible assumption) | with_reducible exact three_lt (by with_reducible assumption) | with_reducible exact lt_of8 (by with_reducible assumption) (by decide) | with_reducible exact le_of (by with_reducible assumption) (by decide) | with_reducible exact le_of3 (by with_reducible assumption) (by decide) | with_reducible exact le_of4 (by with_reducible assumption) (by decide) | (with_reducible refine Nat.ne_of_lt ?_; walk_at "mine lt") | (with_reducible refine Nat.ne_of_gt ?_; walk_at "mine lt") | with_reducible exact And.left (by with_reducible assumption) | with_reducible exact And.right (by with_reducible assumption))
  k_with "execs cons" => (refine wpAny_execs_cons ?_; refine abs_tk ?_; intro _; k_fold)
  k_with "call ref" => ((k_here; k_dflt (refine' call_cls ?q9k1 ?q9k2 ?q9k3 ?q9k4 ?q9k5 ?q9k6 ?_; (case q9k1 => k_asm); (case q9k2 => k_asm); (case q9k3 => k_asm); (case q9k4 => k_is); (case q9k5 => k_is); (case q9k6 => k_is); k_whole; intro _ _ _ _ _ l1 l2; (try k_lt l1); (try k_lt2 l2); (try (revert l1 l2; intro _ _)); (try k_sweep); (refine' code_def ?q9k1 ?q9k2 ?q9k3 ?q9k4 ?q9k5 ?q9kA ?q9kF ?q9kK ?q9k6 ?q9k7 ?q9k8 ?q9k9 ?q9kB ?_ ?q9c2 ?q9c3 ?q9c4 ?q9c5; (case q9kA => exact rfl); (case q9kF => exact rfl); (case q9kK => first | exact rfl | assumption); (case q9k1 => k_asm); (case q9k2 => k_asm); (case q9k3 => k_asm); (case q9k4 => k_asm); (case q9k5 => k_asm); (case q9k6 => k_is); (case q9k7 => k_is); (case q9k8 => ktr_room); (case q9k9 => exact BindsTo.of_eq rfl); (case q9c5 => decide); (case q9kB => exact locs rfl); (case q9c2 => exact rfl); (case q9c3 => exact rfl); (case q9c4 => exact rfl); k_whole; intro _ _ _ _ _ _ B' _ _; (try dsimp only); (try k_lift B'); (try (revert B'; intro _)); (try k_fold)))))
  k_with "mine all" => (with_reducible assumption)
  k_with "call type:list str" => ((k_here; k_dflt (refine' list_S ?q9hh ?q9F ?q9N ?q9hl ?_; (case q9hh => exact rfl); (case q9F => k_asm); (case q9N => k_asm); (case q9hl => assumption); intro _ _ _ _ _ _ _ l1 _; (try k_lt l1); (try (revert l1; intro _)))))
  k_with "call type:list" => ((k_here; k_dflt (refine' list_S ?q9hh ?q9F ?q9N ?q9hl ?_; (case q9hh => exact rfl); (case q9F => k_asm); (case q9N => k_asm); (case q9hl => assumption); intro _ _ _ _ _ _ _ l1 _; (try k_lt l1); (try (revert l1; intro _)))))
  k_with "mine room" => (first | (simp only [units_deeper, units_in1, Around.mark_units, depth_deeper, depth_in1, ktrTop, cLine, recursionLimit] at *; omega) | ktr_room | ktr_units)
  k_with "mine room" => (first | omega | (simp only [units_deeper, units_in1, Around.mark_units, depth_deeper, depth_in1, ktrTop]; omega) | (dsimp only [Around.deeper, Around.in1, ktrTop, Around.mark]; omega))
  k_with "mine mem" => ((refine mem_of ?_; with_reducible assumption))
  k_with "compareOp Eq ref ref" => ((k_here; k_dflt (first | (refine' told_nil ?q9N ?q9m1 ?q9m3 ?q9hu ?_; (case q9N => k_asm); (case q9m1 => k_mem); (case q9m3 => k_mem); (case q9hu => walk_at "mine room")) | (refine' chars_ne_nil ?q9N ?q9m1 ?q9m3 ?q9hc ?q9ha ?q9hs ?q9hu ?_; (case q9N => k_asm); (case q9m1 => k_mem); (case q9m3 => k_mem); (case q9hc => assumption); (case q9ha => assumption); (case q9hs => assumption); (case q9hu => walk_at "mine room")))))
  k_with "call builtin:list.pop" => ((k_here; k_dflt (refine' pop0 ?q9F ?q9N ?q9U ?q9z ?_; (case q9F => k_asm); (case q9N => k_asm); (case q9U => k_upd); (case q9z => omega); intro _ _ _)))
  trivial

theorem lexer_con (w : World) (l : List Nat) (hl : l.length ≤ 1000) (t : Tok) (news : Led) (hne : ∀ p ∈ news, p.1 ≠ 177) :
    ConP (fun h => CodeHd h 181 177) w 182 12 [.str (S l) t] ((177, tabObj #[]) :: news) (LexRet w l news) := by
  unfold ConP
  k_fill
  intro dp un gd cn cs a ccd cl outer A₀ base h₀ L m s Q E mean mg mb B F X N T hk hdp hu hret C1
  have C1 : CodeHd base 181 177 := C1
  refine wpAny_call ?_
  k_dflt (refine' code_defC ?k1 ?k2 ?k3 ?k4 ?k5 ?kA ?kF ?kK ?k6 ?k7 ?k8 ?k9 ?kB ?kD ?_ ?c2 ?c3 ?c4; (case kA => exact rfl); (case kF => exact rfl); (case kK => assumption); (case k1 => k_asm); (case k2 => k_asm); (case k3 => k_asm); (case k4 => k_asm); (case k5 => k_asm); (case k6 => k_is); (case k7 => k_is); (case k8 => ktr_room); (case k9 => exact BindsTo.of_eq rfl); (case kB => exact rfl); (case kD => decide +kernel); (case c2 => exact rfl); (case c3 => exact rfl); (case c4 => exact rfl); k_whole; intro g' L' h' tk' cells' FG' F' N' Y' B' X' T' l1; (try k_lt l1); k_cells Y'; (try simp only [List.cons_append, List.nil_append] at N'); (try dsimp only); (try k_lift B'); (try k_fold))
  have o1 : ∀ p ∈ news, p.1 ≠ L' + 1 := fun p hp => Nat.ne_of_lt (Nat.lt_succ_of_lt (ktn_ltOf l1.2 p hp))
  k_steps
  refine' lex_done hret ?F ?N ?hc ?lt (Lx := L') ?ho ?hx ?hfn ?hr
  case F => k_asm
  case N => assumption
  case hc => assumption
  case lt => exact ⟨⟨⟨⟨⟨⟨⟨⟨by first | walk_at "mine lt" | omega, by first | walk_at "mine lt" | omega⟩, by first | walk_at "mine lt" | omega⟩, by first | walk_at "mine lt" | omega⟩, by first | walk_at "mine lt" | omega⟩, by first | walk_at "mine lt" | omega⟩, by first | walk_at "mine lt" | omega⟩, by first | walk_at "mine lt" | omega⟩, by first | walk_at "mine lt" | omega⟩
  case ho => exact List.forall_mem_cons.mpr ⟨l1.1, ktn_ltOf l1.2⟩
  case hx => exact Nat.lt_succ_self _
  case hfn => exact ⟨_, _, _, _, rfl⟩
  clear hret
  intro t2 news2 mf mc mcell hoff
  constructor
  · intro n2
    unfold Con
    k_fill
    intro dp un gd cn cs a ccd cl outer A₀ base h₀ L m s Q E mean mg mb B F X N T hk hdp hu hret
    refine wpAny_call ?_
    k_dflt (refine' code_nest ?k1 ?k2 ?k3 ?k4 ?k5 ?kA ?kF ?kK ?k6 ?k7 ?k8 ?k9 ?kB ?_ ?c2 ?c3 ?c4 ?c5; (case kA => exact rfl); (case kF => exact rfl); (case kK => first | exact rfl | assumption); (case k1 => k_asm); (case k2 => k_asm); (case k3 => k_asm); (case k4 => k_asm); (case k5 => k_asm); (case k6 => k_mem); (case k7 => exact codeRec_news (by k_asm) (by k_mem) (by assumption) (by assumption)); (case k8 => ktr_room); (case k9 => exact BindsTo.of_eq rfl); (case c5 => decide); (case kB => exact locs rfl); (case c2 => exact rfl); (case c3 => exact rfl); (case c4 => exact rfl); k_whole; intro g' L' h' FG' F' N' B' X' T'; (try dsimp only); (try k_lift B'); (try k_fold))
    k_steps
    refine hret _ _ _ _ (by k_asm) (news_sub (by k_asm) ?_) ⟨rfl, _, rfl⟩
    intro p hp
    exact .tail _ hp
  · intro n2 a9 u9 vs9 l9 hC9 ha9 hs9 hl9
    have hl9' : vs9.length ≤ 1000 := by rw [chars_len hC9]; exact hl9
    unfold Con
    k_fill
    intro dp un gd cn cs a ccd cl outer A₀ base h₀ L m s Q E mean mg mb B F X N T hk hdp hu hret
    refine wpAny_call ?_
    k_dflt (refine' code_nest ?k1 ?k2 ?k3 ?k4 ?k5 ?kA ?kF ?kK ?k6 ?k7 ?k8 ?k9 ?kB ?_ ?c2 ?c3 ?c4 ?c5; (case kA => exact rfl); (case kF => exact rfl); (case kK => first | exact rfl | assumption); (case k1 => k_asm); (case k2 => k_asm); (case k3 => k_asm); (case k4 => k_asm); (case k5 => k_asm); (case k6 => k_mem); (case k7 => exact codeRec_news (by k_asm) (by k_mem) (by assumption) (by assumption)); (case k8 => ktr_room); (case k9 => exact BindsTo.of_eq rfl); (case c5 => decide); (case kB => exact locs rfl); (case c2 => exact rfl); (case c3 => exact rfl); (case c4 => exact rfl); k_whole; intro g' L' h' FG' F' N' B' X' T'; (try dsimp only); (try k_lift B'); (try k_fold))
    k_steps
    refine hret _ _ _ _ (by k_asm) (news_sub (by k_asm) ?_) ⟨rfl, rfl⟩
    intro p hp
    exact .tail _ hp
end
section
open PySem PySem.W PySem.Calls PyProof.Rows
set_option linter.unusedVariables false
set_option linter.unusedSimpArgs false
set_option maxRecDepth 100000
set_option maxHeartbeats 4000000

theorem nl_yes : (S [10] == PySem.Str.ofString "\n") = true := by decide +kernel
theorem nl_no {a : Nat} (h : a ≠ 10) : (S [a] == PySem.Str.ofString "\n") = false := by
  have e : PySem.Str.ofString "\n" = S [10] := by decide +kernel
  rw [e, beq_eq_false_iff_ne]
  exact fun q => h (by simpa using S_inj q)
theorem nl_nil : (PySem.Str.ofString "" == PySem.Str.ofString "\n") = false := by decide +kernel

theorem rg_Ct8_0 : True := by
  k_with_none
  k_with "mine lt" => (first | with_reducible assumption | with_reducible exact cj0 (by with_reducible assumption) | with_reducible exact cj1 (by with_reducible assumption) | with_reducible exact cl1 (by with_reducible assumption) | with_reducible exact cj2 (by with_reducible assumption) | with_reducible exact cl2 (by with_reducible assumption) | with_reducible exact cj3 (by with_reducible assumption) | with_reducible exact cl3 (by with_reducible assumption) | with_reducible exact cj4 (by with_reducible assumption) | with_reducible exact cl4 (by with_reducible assumption) | with_reducible exact cj5 (by with_reducible assumption) | with_reducible exact cl5 (by with_reducible assumption) | with_reducible exact cj6 (by with_reducible assumption) | with_reducible exact cl6 (by with_reducible assumption) | with_reducible exact cj7 (by with_reducible assumption) | with_reducible exact cl7 (by with_reducible assumption) | with_reducible exact cj8 (by with_reducible assumption) | with_reducible exact cl8 (by with_reducible assumption) | with_reducible exact cj9 (by with_reducible assumption) | with_reducible exact cl9 (by with_reducible assumption) | with_reducible exact cj10 (by with_reducible assumption) | with_reducible exact cl10 (by with_reducible assumption) | with_reducible exact cj11 (by with_reducible assumption) | with_reducible exact cl11 (by with_reducible assumption) | with_reducible exact cj12 (by with_reducible assumption) | with_reducible exact cl12 (by with_reducible assumption))
  k_with "mine om" => (first | with_reducible assumption | decide | with_reducible exact rm1 (by with_reducible assumption) | with_reducible exact rm2 (by with_reducible assumption) (by decide) | with_reducible exact rm3 (by with_reducible assumption) (by decide) | with_reducible exact rm9 (by with_reducible assumption) (by decide) | with_reducible exact rm8 (by with_reducible assumption) (by decide) | with_reducible exact rm7 (by with_reducible assumption) (by decide) | with_reducible exact rm4 (by with_reducible assumption) (by decide) | with_reducible exact rm5 (by with_reducible assumption) (by decide) | with_reducible exact rm6 (by with_reducible assumption) (by decide) | with_reducible exact ih2 _ | with_reducible exact ih1 (by with_reducible assumption) | with_reducible exact three_of (by with_reducible assumption) | with_reducible exact two_lt (by with_reducible assumption) | with_reducible exact three_lt (by with_reducible assumption) | with_reducible exact lt_of8 (by with_reducible assumption) (by decide) | with_reducible exact le_of (by with_reducible assumption) (by decide) | with_reducible exact le_of3 (by with_reducible assumption) (by decide) | with_reducible exact le_of4 (by with_reducible assumption) (by decide) | (with_reducible refine Nat.ne_of_lt ?_; walk_at "mine lt") | (with_reducible refine Nat.ne_of_gt ?_; walk_at "mine lt") | with_reducible exact And.left (by with_reducible assumption) | with_reducible exact And.right (by with_reducible assumption))
  k_with "call ref" => ((k_here; k_dflt (refine' call_cls ?q9k1 ?q9k2 ?q9k3 ?q9k4 ?q9k5 ?q9k6 ?_; (case q9k1 => k_asm); (case q9k2 => k_asm); (case q9k3 => k_asm); (case q9k4 => k_is); (case q9k5 => k_is); (case q9k6 => k_is); k_whole; intro _ _ _ _ _ l1 l2; (try k_lt l1); (try k_lt2 l2); (try (revert l1 l2; intro _ _)); (try k_sweep); (refine' code_def ?q9k1 ?q9k2 ?q9k3 ?q9k4 ?q9k5 ?q9kA ?q9kF ?q9kK ?q9k6 ?q9k7 ?q9k8 ?q9k9 ?q9kB ?_ ?q9c2 ?q9c3 ?q9c4 ?q9c5; (case q9kA => exact rfl); (case q9kF => exact rfl); (case q9kK => first | exact rfl | assumption); (case q9k1 => k_asm); (case q9k2 => k_asm); (case q9k3 => k_asm); (case q9k4 => k_asm); (case q9k5 => k_asm); (case q9k6 => k_is); (case q9k7 => k_is); (case q9k8 => ktr_room); (case q9k9 => exact BindsTo.of_eq rfl); (case q9c5 => decide); (case q9kB => exact locs rfl); (case q9c2 => exact rfl); (case q9c3 => exact rfl); (case q9c4 => exact rfl); k_whole; intro _ _ _ _ _ _ B' _ _; (try dsimp only); (try k_lift B'); (try (revert B'; intro _)); (try k_fold)))))
  k_with "mine all" => (with_reducible assumption)
  k_with "call type:list str" => ((k_here; k_dflt (refine' list_S ?q9hh ?q9F ?q9N ?q9hl ?_; (case q9hh => exact rfl); (case q9F => k_asm); (case q9N => k_asm); (case q9hl => assumption); intro _ _ _ _ _ _ _ l1 _; (try k_lt l1); (try (revert l1; intro _)))))
  k_with "call type:list" => ((k_here; k_dflt (refine' list_S ?q9hh ?q9F ?q9N ?q9hl ?_; (case q9hh => exact rfl); (case q9F => k_asm); (case q9N => k_asm); (case q9hl => assumption); intro _ _ _ _ _ _ _ l1 _; (try k_lt l1); (try (revert l1; intro _)))))
  k_with "mine room" => (first | (simp only [units_deeper, units_in1, Around.mark_units, depth_deeper, depth_in1, ktrTop, cLine, recursionLimit] at *; omega) | ktr_room | ktr_units)
  k_with "mine room" => (first | omega | (simp only [units_deeper, units_in1, Around.mark_units, depth_deeper, depth_in1, ktrTop]; omega) | (dsimp only [Around.deeper, Around.in1, ktrTop, Around.mark]; omega))
  k_with "mine mem" => ((refine mem_of ?_; with_reducible assumption))
  k_with "compareOp Eq ref ref" => ((k_here; k_dflt (first | (refine' told_nil ?q9N ?q9m1 ?q9m3 ?q9hu ?_; (case q9N => k_asm); (case q9m1 => k_mem); (case q9m3 => k_mem); (case q9hu => walk_at "mine room")) | (refine' chars_ne_nil ?q9N ?q9m1 ?q9m3 ?q9hc ?q9ha ?q9hs ?q9hu ?_; (case q9N => k_asm); (case q9m1 => k_mem); (case q9m3 => k_mem); (case q9hc => assumption); (case q9ha => assumption); (case q9hs => assumption); (case q9hu => walk_at "mine room")))))
  k_with "call builtin:list.pop" => ((k_here; k_dflt (refine' pop0 ?q9F ?q9N ?q9U ?q9z ?_; (case q9F => k_asm); (case q9N => k_asm); (case q9U => k_upd); (case q9z => omega); intro _ _ _)))
  k_with "callWith" => ((k_here; (try dsimp only); k_dflt (first | (refine' callWith_F ?q9k1 ?_; (case q9k1 => exact FnAt.of (by k_asm) (by k_mem)); k_whole) | (refine' callWith_F0 ?q9k1 ?_; (case q9k1 => exact FnAt.of (by k_asm) (by k_mem)); k_whole; try dsimp only [List.nil_append, List.cons_append]))))
  k_with "callWith ref" => ((k_here; k_dflt (first | (refine' callWith_F ?q9k1 ?_; (case q9k1 => exact FnAt.of (by k_asm) (by k_mem)); k_whole) | (refine' callWith_F0 ?q9k1 ?_; (case q9k1 => exact FnAt.of (by k_asm) (by k_mem)); k_whole; try dsimp only [List.nil_append, List.cons_append]))))
  trivial

theorem lex_far {cell D c f d0 x0 d x lp : Addr} (a1 : @LT.lt Nat _ cell D) (a2 : @LT.lt Nat _ D c) (a3 : @LT.lt Nat _ c f) (a4 : @LT.lt Nat _ f d0) (a5 : @LT.lt Nat _ d0 x0) (a6 : @LT.lt Nat _ x0 d) (a7 : @LT.lt Nat _ d x) (a8 : @LT.lt Nat _ x lp) :
    (@LT.lt Nat _ D f ∧ @LT.lt Nat _ D d0 ∧ @LT.lt Nat _ D x0 ∧ @LT.lt Nat _ D d ∧ @LT.lt Nat _ D x ∧ @LT.lt Nat _ D lp) ∧ (@LT.lt Nat _ cell d ∧ @LT.lt Nat _ c d ∧ @LT.lt Nat _ f d ∧ @LT.lt Nat _ d0 d ∧ @LT.lt Nat _ d lp) := by
  have e1 := Nat.lt_trans a2 a3
  have e2 := Nat.lt_trans e1 a4
  have e3 := Nat.lt_trans e2 a5
  have e4 := Nat.lt_trans e3 a6
  have e5 := Nat.lt_trans e4 a7
  have g1 := Nat.lt_trans a5 a6
  have g2 := Nat.lt_trans a4 g1
  exact ⟨⟨e1, e2, e3, e4, e5, Nat.lt_trans e5 a8⟩, Nat.lt_trans a1 e4, Nat.lt_trans a3 g2, g2, g1, Nat.lt_trans a7 a8⟩
theorem rc_nil (w : World) (Z : LexA) (ln : Int) (tn : Tok) (n : Nat) (news : Led) (ok : LexOk w Z news) :
    ConK w 133 14 [.ref Z.x] (lexL w Z ln tn [] n news) (fun r ns => ns = lexL w Z ln tn [] n news ∧ ∃ t, r = .str (PySem.Str.ofString "") t) := by
  obtain ⟨x, d, lp, x0, d0, lp0, f, c, D, cell, fo, oc, co, z1, z2, z3, z4, tw, j1, j2, j3, j4, j5, jn, jw⟩ := Z
  obtain ⟨hr, a1, a2, a3, a4, a5, a6, a7, a8, off, fcl, fod, ffd, fsl, efo⟩ := ok
  dsimp only at hr a1 a2 a3 a4 a5 a6 a7 a8 off efo
  subst efo
  obtain ⟨far1, far2⟩ := lex_far a1 a2 a3 a4 a5 a6 a7 a8
  dsimp only [lexL]
  unfold ConK
  k_fill
  intro dp un gd cn cs a ccd cl outer A₀ base h₀ L m s Q E mean mg mb B F X N T hk hdp hu hret
  have hnl := nl_nil
  have oD : ∀ p ∈ news, p.1 ≠ D := fun p hp => (off p hp).2
  k_dflt (refine' code_def ?k1 ?k2 ?k3 ?k4 ?k5 ?kA ?kF ?kK ?k6 ?k7 ?k8 ?k9 ?kB ?_ ?c2 ?c3 ?c4 ?c5; (case kA => exact rfl); (case kF => exact rfl); (case kK => first | exact rfl | assumption); (case k1 => k_asm); (case k2 => k_asm); (case k3 => k_asm); (case k4 => k_asm); (case k5 => k_asm); (case k6 => k_is); (case k7 => k_is); (case k8 => ktr_room); (case k9 => exact BindsTo.of_eq rfl); (case c5 => decide); (case kB => exact locs rfl); (case c2 => exact rfl); (case c3 => exact rfl); (case c4 => exact rfl); k_whole; intro g' L' h' FG' F' N' B' X' T'; (try dsimp only); (try k_lift B'); (try k_fold))
  k_steps
  (refine' con_use ?k1 ?k2 ?k3 ?k4 ?k5 ?kK ?kC ?kd ?ku ?_; (case k1 => k_asm); (case k2 => k_asm); (case k3 => k_asm); (case k4 => k_asm); (case k5 => k_asm); (case kK => first | exact rfl | assumption); (case kC => exact (hr _ _ (by k_mem) (by k_mem) (by k_mem) (by k_all)).1 _); (case kd => walk_at "mine room"); (case ku => walk_at "mine room"); intro r9 ns9 h9 tk9 F9 N9 p9; obtain ⟨e9, t9, e9b⟩ := p9; subst e9 e9b; (try dsimp only))
  k_steps
  exact hret _ _ _ _ (by k_asm) (by k_asm) ⟨rfl, _, rfl⟩
theorem rc_cons (w : World) (Z : LexA) (ln : Int) (tn : Tok) (a : Nat) (u : Tok) (vs : List Value) (l : List Nat) (n : Nat) (news : Led) (ok : LexOk w Z news) (hC : CharsAre vs l) (ha : a < 128) (hl : ∀ b ∈ l, b < 128) (hn : l.length ≤ 1000) :
    ConK w 133 14 [.ref Z.x] (lexL w Z ln tn (.str (S [a]) u :: vs) n news) (fun r ns => r = .str (S [a]) u ∧ ∃ tn', ns = lexL w Z (if a = 10 then ln + 1 else ln) tn' vs (n + 1) news) := by
  obtain ⟨x, d, lp, x0, d0, lp0, f, c, D, cell, fo, oc, co, z1, z2, z3, z4, tw, j1, j2, j3, j4, j5, jn, jw⟩ := Z
  obtain ⟨hr, a1, a2, a3, a4, a5, a6, a7, a8, off, fcl, fod, ffd, fsl, efo⟩ := ok
  dsimp only at hr a1 a2 a3 a4 a5 a6 a7 a8 off efo
  subst efo
  obtain ⟨far1, far2⟩ := lex_far a1 a2 a3 a4 a5 a6 a7 a8
  dsimp only [lexL]
  have oD : ∀ p ∈ news, p.1 ≠ D := fun p hp => (off p hp).2
  have od : ∀ p ∈ news, p.1 ≠ d := fun p hp => (off p hp).1
  by_cases h10 : a = 10
  · subst h10
    have hnl := nl_yes
    rw [if_pos rfl]
    unfold ConK
    k_fill
    intro dp un gd cn cs a ccd cl outer A₀ base h₀ L m s Q E mean mg mb B F X N T hk hdp hu hret
    k_dflt (refine' code_def ?k1 ?k2 ?k3 ?k4 ?k5 ?kA ?kF ?kK ?k6 ?k7 ?k8 ?k9 ?kB ?_ ?c2 ?c3 ?c4 ?c5; (case kA => exact rfl); (case kF => exact rfl); (case kK => first | exact rfl | assumption); (case k1 => k_asm); (case k2 => k_asm); (case k3 => k_asm); (case k4 => k_asm); (case k5 => k_asm); (case k6 => k_is); (case k7 => k_is); (case k8 => ktr_room); (case k9 => exact BindsTo.of_eq rfl); (case c5 => decide); (case kB => exact locs rfl); (case c2 => exact rfl); (case c3 => exact rfl); (case c4 => exact rfl); k_whole; intro g' L' h' FG' F' N' B' X' T'; (try dsimp only); (try k_lift B'); (try k_fold))
    k_steps
    (refine' con_use ?k1 ?k2 ?k3 ?k4 ?k5 ?kK ?kC ?kd ?ku ?_; (case k1 => k_asm); (case k2 => k_asm); (case k3 => k_asm); (case k4 => k_asm); (case k5 => k_asm); (case kK => first | exact rfl | assumption); (case kC => exact (hr _ _ (by k_mem) (by k_mem) (by k_mem) (by k_all)).2 _ _ _ _ _ hC ha hl hn); (case kd => walk_at "mine room"); (case ku => walk_at "mine room"); intro r9 ns9 h9 tk9 F9 N9 p9; obtain ⟨e9, e9b⟩ := p9; subst e9 e9b; (try dsimp only))
    k_steps
    exact hret _ _ _ _ (by k_asm) (by k_asm) ⟨rfl, _, rfl⟩
  · have hnl := nl_no h10
    rw [if_neg h10]
    unfold ConK
    k_fill
    intro dp un gd cn cs a ccd cl outer A₀ base h₀ L m s Q E mean mg mb B F X N T hk hdp hu hret
    k_dflt (refine' code_def ?k1 ?k2 ?k3 ?k4 ?k5 ?kA ?kF ?kK ?k6 ?k7 ?k8 ?k9 ?kB ?_ ?c2 ?c3 ?c4 ?c5; (case kA => exact rfl); (case kF => exact rfl); (case kK => first | exact rfl | assumption); (case k1 => k_asm); (case k2 => k_asm); (case k3 => k_asm); (case k4 => k_asm); (case k5 => k_asm); (case k6 => k_is); (case k7 => k_is); (case k8 => ktr_room); (case k9 => exact BindsTo.of_eq rfl); (case c5 => decide); (case kB => exact locs rfl); (case c2 => exact rfl); (case c3 => exact rfl); (case c4 => exact rfl); k_whole; intro g' L' h' FG' F' N' B' X' T'; (try dsimp only); (try k_lift B'); (try k_fold))
    k_steps
    (refine' con_use ?k1 ?k2 ?k3 ?k4 ?k5 ?kK ?kC ?kd ?ku ?_; (case k1 => k_asm); (case k2 => k_asm); (case k3 => k_asm); (case k4 => k_asm); (case k5 => k_asm); (case kK => first | exact rfl | assumption); (case kC => exact (hr _ _ (by k_mem) (by k_mem) (by k_mem) (by k_all)).2 _ _ _ _ _ hC ha hl hn); (case kd => walk_at "mine room"); (case ku => walk_at "mine room"); intro r9 ns9 h9 tk9 F9 N9 p9; obtain ⟨e9, e9b⟩ := p9; subst e9 e9b; (try dsimp only))
    k_steps
    exact hret _ _ _ _ (by k_asm) (by k_asm) ⟨rfl, _, rfl⟩
end
section
open PySem PySem.W PySem.Calls PyProof.Rows
set_option linter.unusedVariables false
set_option linter.unusedSimpArgs false
set_option maxRecDepth 100000
set_option maxHeartbeats 4000000
theorem ci_slot_next : Slot "callable_iterator" "__next__" "callable_iterator.__next__" :=
  .of (owner := "callable_iterator") (n := "__next__") (by rw [typeLookup_type, builtinLookup_eq_fast]; kernel_rfl) (by decide +kernel) (by decide +kernel) (by decide +kernel)
    (by first | exact .inl (by decide +kernel) | exact .inr (by decide +kernel)) (by rw [isSubtype_type]; kernel_rfl)
theorem ci_slot_self : Slot "callable_iterator" "__iter__" "callable_iterator.__iter__" :=
  .of (owner := "callable_iterator") (n := "__iter__") (by rw [typeLookup_type, builtinLookup_eq_fast]; kernel_rfl) (by decide +kernel) (by decide +kernel) (by decide +kernel)
    (by first | exact .inl (by decide +kernel) | exact .inr (by decide +kernel)) (by rw [isSubtype_type]; kernel_rfl)
theorem ci_entry_next : entryFor table "callable_iterator.__next__" = some Builtin.«callable_iterator.__next__» := entryFor_of_tree (by kernel_rfl)
theorem ci_entry_self : entryFor table "callable_iterator.__iter__" = some Builtin.«dict_keyiterator.__iter__» := entryFor_alias (id' := "dict_keyiterator.__iter__") (by kernel_rfl) rfl (by decide +kernel) (by kernel_rfl)
theorem ci_args_next (a : Value) : argsOk "callable_iterator.__next__" ⟨[a], []⟩ := by unfold argsOk; kernel_rfl
theorem ci_args_self (a : Value) : argsOk "callable_iterator.__iter__" ⟨[a], []⟩ := by unfold argsOk; kernel_rfl
noncomputable abbrev itO (q : Addr) (t : Tok) : Obj := { cls := .type "callable_iterator", data := .fields #[.ref q, .str (PySem.Str.ofString "") t, .bool false] }
section
variable {prog : Program} {w : World} {A : Around} {E : Value → Shared → Prop} {s : Shared}
theorem borrowedCall {M : Model} {f : Value} {pos : List Value} {Q : Value → Shared → Prop}
    (hc : codeAny M A (.call f ⟨pos, []⟩) (fun r s' => match r with | .ok (.ret v) => Q v s' | .ok _ => False | .error e => E e s') s) : wpAny M A (callBorrowed f pos) Q E s := fun Γ p hΓ => by
  unfold callBorrowed
  rw [Sem.wp_call]
  refine wpCode_mono (fun r s' h => ?_) (hc _ p rfl (hΓ.enter _ none p (by intro x; cases x)))
  cases r with
  | error e => exact h
  | ok f => cases f <;> exact h
theorem outCall {q fn : Addr} {x : Value} {fo : Obj} {fd : FuncData} {Q : Value → Shared → Prop} (hq : s.heap.get? q = some (methodObj (.ref fn) x)) (hf : s.heap.get? fn = some fo) (hfd : fo.data = .func fd)
    (h : codeAny (model prog w) A (.call (.ref fn) ⟨[x], []⟩) (fun r s' => match r with | .ok (.ret v) => Q v s' | .ok _ => False | .error e => E e s') s) : wpAny (model prog w) A (callOutOfASlot (.ref q)) Q E s := by
  unfold callOutOfASlot
  have hb : wpAny (model prog w) A (borrowsExactly (.ref q)) (fun b s' => b = true ∧ s' = s) E s := by
    unfold borrowsExactly
    refine wpAny_bind (wpAny_load hq ?_)
    show wpAny _ _ (load fn >>= _) _ _ _
    refine wpAny_bind (wpAny_load hf ?_)
    rw [hfd]
    exact wpAny_pure ⟨rfl, rfl⟩
  refine wpAny_bind (wpAny_mono hb (fun b s' e => ?_) fun _ _ z => z)
  obtain ⟨rfl, rfl⟩ := e
  exact borrowedCall (method_call hq h)
theorem letsGo {who : String} {busy : Code → Bool} {q fn : Addr} {x : Value} {fo : Obj} {fd : FuncData} (hq : s.heap.get? q = some (methodObj (.ref fn) x)) (hf : s.heap.get? fn = some fo) (hfd : fo.data = .func fd) :
    wpAny (model prog w) A (slotLetsGo who (.ref q) busy) (fun _ s' => s' = s) E s := by
  unfold slotLetsGo
  have hb : wpAny (model prog w) A (borrowsExactly (.ref q)) (fun b s' => b = true ∧ s' = s) E s := by
    unfold borrowsExactly
    refine wpAny_bind (wpAny_load hq ?_)
    show wpAny _ _ (load fn >>= _) _ _ _
    refine wpAny_bind (wpAny_load hf ?_)
    rw [hfd]
    exact wpAny_pure ⟨rfl, rfl⟩
  refine wpAny_bind (wpAny_mono hb (fun b s' e => ?_) fun _ _ z => z)
  obtain ⟨rfl, rfl⟩ := e
  exact wpAny_pure rfl
theorem ci_next {I q fn : Addr} {x : Value} {t : Tok} {fo : Obj} {fd : FuncData} {Q : Option Value → Shared → Prop} {Ret : Value → Shared → Prop} (hI : s.heap.get? I = some (itO q t)) (hq : s.heap.get? q = some (methodObj (.ref fn) x)) (hf : s.heap.get? fn = some fo) (hfd : fo.data = .func fd)
    (h : codeAny (model prog w) A.in1 (.call (.ref fn) ⟨[x], []⟩) (fun r s' => match r with | .ok (.ret v) => Ret v s' | .ok _ => False | .error e => False) s)
    (hy : ∀ v s', Ret v s' → ∃ y u, v = .str y u ∧ (PySem.Str.ofString "" == y) = false ∧ s'.heap.get? I = some (itO q t) ∧ Q (some v) s') : wpAny (model prog w) A (pyNext (.ref I)) Q E s := by
  unfold pyNext
  refine wpAny_bind (wpAny_attempt (wpAny_callSpecial?_slot (name := PySem.Str.ofString "__next__") (T := "callable_iterator") ⟨_, hI, rfl⟩ ci_slot_next (wpAny_call_entry ci_slot_next ⟨_, hI, rfl⟩ ci_entry_next ?_ (ci_args_next _))))
  show wpAny _ _ (field (.ref I) 2 >>= _) _ _ s
  refine wpAny_bind (wpAny_field hI rfl (x := .bool false) rfl ?_)
  show wpAny _ _ (if (Value.bool false == Value.bool true) = true then _ else _) _ _ s
  rw [if_neg (by decide)]
  show wpAny _ _ (field (.ref I) 0 >>= _) _ _ s
  refine wpAny_bind (wpAny_field hI rfl (x := .ref q) rfl ?_)
  refine wpAny_bind (wpAny_attempt (outCall hq hf hfd (codeAny_mono h fun r s' hr => ?_)))
  match r, hr with
  | .ok (.ret v), hr =>
    obtain ⟨y, u, rfl, hy0, hI', hQ⟩ := hy v s' hr
    show wpAny _ _ (field (.ref I) 2 >>= _) _ _ s'
    refine wpAny_bind (wpAny_field hI' rfl (x := .bool false) rfl ?_)
    show wpAny _ _ (if (Value.bool false == Value.bool true) = true then _ else _) _ _ s'
    rw [if_neg (by decide)]
    show wpAny _ _ (field (.ref I) 1 >>= _) _ _ s'
    refine wpAny_bind (wpAny_field hI' rfl (x := .str (PySem.Str.ofString "") t) rfl ?_)
    refine wpAny_bind (wpAny_holding (PyProof.Rows.eqBool_str ?_))
    rw [hy0]
    exact wpAny_pure ⟨_, rfl, wpAny_pure hQ⟩
  | .ok .next, hr => exact hr.elim
  | .ok .cont, hr => exact hr.elim
  | .ok .brk, hr => exact hr.elim
  | .error e, hr => exact hr.elim
theorem ci_end {I q fn : Addr} {x : Value} {t : Tok} {fo : Obj} {fd : FuncData} {Q : Option Value → Shared → Prop} {Ret : Value → Shared → Prop} (hh : A.handled = none) (hI : s.heap.get? I = some (itO q t)) (hq : s.heap.get? q = some (methodObj (.ref fn) x)) (hf : s.heap.get? fn = some fo) (hfd : fo.data = .func fd)
    (h : codeAny (model prog w) A.in1 (.call (.ref fn) ⟨[x], []⟩) (fun r s' => match r with | .ok (.ret v) => Ret v s' | .ok _ => False | .error e => False) s)
    (hy : ∀ v s', Ret v s' → ∃ u, v = .str (PySem.Str.ofString "") u ∧ s'.heap.get? I = some (itO q t) ∧ s'.heap.get? q = some (methodObj (.ref fn) x) ∧ s'.heap.get? fn = some fo ∧ ∀ h', Heap.ExtBut I s'.heap h' → Q none { s' with heap := h' }) : wpAny (model prog w) A (pyNext (.ref I)) Q E s := by
  unfold pyNext
  refine wpAny_bind (wpAny_attempt (wpAny_callSpecial?_slot (name := PySem.Str.ofString "__next__") (T := "callable_iterator") ⟨_, hI, rfl⟩ ci_slot_next (wpAny_call_entry ci_slot_next ⟨_, hI, rfl⟩ ci_entry_next ?_ (ci_args_next _))))
  show wpAny _ _ (field (.ref I) 2 >>= _) _ _ s
  refine wpAny_bind (wpAny_field hI rfl (x := .bool false) rfl ?_)
  show wpAny _ _ (if (Value.bool false == Value.bool true) = true then _ else _) _ _ s
  rw [if_neg (by decide)]
  show wpAny _ _ (field (.ref I) 0 >>= _) _ _ s
  refine wpAny_bind (wpAny_field hI rfl (x := .ref q) rfl ?_)
  refine wpAny_bind (wpAny_attempt (outCall hq hf hfd (codeAny_mono h fun r s' hr => ?_)))
  match r, hr with
  | .ok (.ret v), hr =>
    obtain ⟨u, rfl, hI', hq', hf', hQ⟩ := hy v s' hr
    show wpAny _ _ (field (.ref I) 2 >>= _) _ _ s'
    refine wpAny_bind (wpAny_field hI' rfl (x := .bool false) rfl ?_)
    show wpAny _ _ (if (Value.bool false == Value.bool true) = true then _ else _) _ _ s'
    rw [if_neg (by decide)]
    show wpAny _ _ (field (.ref I) 1 >>= _) _ _ s'
    refine wpAny_bind (wpAny_field hI' rfl (x := .str (PySem.Str.ofString "") t) rfl ?_)
    refine wpAny_bind (wpAny_holding (PyProof.Rows.eqBool_str ?_))
    rw [show (PySem.Str.ofString "" == PySem.Str.ofString "") = true from by decide +kernel]
    refine wpAny_bind (wpAny_rule ?_)
    show wpAny _ _ ((field (.ref I) 0 >>= _) >>= _) _ _ s'
    refine wpAny_bind (wpAny_bind (wpAny_field hI' rfl (x := .ref q) rfl ?_))
    refine wpAny_bind (wpAny_mono (letsGo hq' hf' hfd) (fun _ s2 e => ?_) fun _ _ z => z)
    subst e
    refine wpAny_bind (wpAny_setField hI' rfl (by simp) ?_)
    refine wpAny_bind (wpAny_setField (Heap.get?_update_self _ hI' rfl) rfl (by simp) ?_)
    refine wpAny_setField (Heap.get?_update_self _ (Heap.get?_update_self _ hI' rfl) rfl) rfl (by simp) ?_
    show wpAny _ _ (newExc (.type "StopIteration") [] >>= _) _ _ _
    refine wpAny_bind ?_
    simp only [newExc, newTuple]
    refine wpAny_bind (wpAny_newObj_type ?_ (by size_fits))
    refine wpAny_bind (m := firstArgMember _ _) (wpAny_of_eq (a := Value.none) (by first | rfl | (simp only [firstArgMember]; rfl)) ?_)
    refine wpAny_newObj_type ?_ (by size_fits)
    simp only [raiseNew]
    refine wpAny_bind (wpAny_handled ?_)
    rw [show A.in1.handled = none from hh]
    refine wpAny_bind (wpAny_pure (wpAny_throw ?_))
    refine wpAny_bind (wpAny_isInstance (T := "StopIteration") (b := true) ⟨_, Heap.get?_push_size _ rfl, rfl⟩ isSubtype_stop ?_)
    exact wpAny_pure (hQ _ (((((Heap.SameBut.update ..).extBut.trans (Heap.SameBut.update ..).extBut).trans (Heap.SameBut.update ..).extBut).push _).push _))
  | .ok .next, hr => exact hr.elim
  | .ok .cont, hr => exact hr.elim
  | .ok .brk, hr => exact hr.elim
  | .error e, hr => exact hr.elim
theorem ci_self {I q : Addr} {t : Tok} {Q : Value → Shared → Prop} (hI : s.heap.get? I = some (itO q t)) (h : Q (.ref I) s) : wpAny (model prog w) A (pyIter (.ref I)) Q E s := by
  refine wpAny_pyIter_slot (T := "callable_iterator") ⟨_, hI, rfl⟩ ci_slot_self (wpAny_call_entry ci_slot_self ⟨_, hI, rfl⟩ ci_entry_self ?_ (ci_args_self _))
  show wpAny _ _ (ret (.ref I)) _ _ s
  exact wpAny_pure ⟨_, rfl, "callable_iterator", _, ⟨_, hI, rfl⟩, ci_slot_next.lookup, h⟩
end
end
section
open PySem PySem.W PySem.Calls PyProof.Rows
set_option linter.unusedVariables false
set_option linter.unusedSimpArgs false
set_option maxRecDepth 100000
set_option maxHeartbeats 4000000
theorem it_entry : entryFor table "iter" = some Builtin.«iter» := entryFor_of_fast (by kernel_rfl)
theorem it_args (a b : Value) : argsOk "iter" ⟨[a, b], []⟩ := by unfold argsOk; kernel_rfl
theorem me_call : typeLookup (.type "method") (PySem.Str.ofString "__call__") = pure (some (.builtin "method.__call__")) := by rw [typeLookup_type, builtinLookup_eq_fast]; kernel_rfl
section
variable {prog : Program} {w : World} {A : Around} {E : Value → Shared → Prop} {s : Shared} {h₀ : Heap} {L : Addr} {m : PySem.Str → Option Value}
theorem ci_make {q fn : Addr} {x : Value} {t : Tok} {Q : Value → Shared → Prop} {news : Led} (F : Fr h₀ L s.heap m) (N : News h₀ L s.heap news) (mq : (q, methodObj (.ref fn) x) ∈ news)
    (h : ∀ I h', Fr h₀ L h' m → News h₀ L h' ((I, itO q t) :: news) → (∀ p ∈ news, p.1 < I) → Q (.ref I) { s with heap := h' }) :
    wpAny (model prog w) A (call (.builtin "iter") [.ref q, .str (PySem.Str.ofString "") t]) Q E s := by
  refine call_function_entry (by decide +kernel) (by decide +kernel) it_entry (it_args _ _) ?_
  unfold Builtin.«iter»
  refine wpAny_bind (m := someArgs "iter" 1 2 _) (wpAny_of_eq (a := [Value.ref q, .str (PySem.Str.ofString "") t]) (by first | rfl | kernel_rfl!) ?_)
  show wpAny _ _ (specialOf (.ref q) _ >>= _) _ _ _
  refine wpAny_bind (wpAny_specialOf (T := "method") ⟨_, (N _ mq).1, rfl⟩ me_call ?_)
  refine wpAny_bind (wpAny_rule ?_)
  show wpAny _ _ (newFields "callable_iterator" [.ref q, .str (PySem.Str.ofString "") t, .bool false] >>= _) _ _ _
  refine wpAny_bind (wpAny_newObj_type ?_ (by size_fits))
  exact wpAny_pure ⟨_, rfl, h _ _ (F.push _) (News.push F N _ rfl) (fun q hq => Heap.lt_size (N q hq).1)⟩
theorem rest_ind {env : Env} {v : PySem.Str} {body : List Stmt} {Q : Flow → Shared → Prop} {I : Addr} (P : Nat → Shared → Prop)
    (step : ∀ (R : Shared → Prop) k s, (∀ j s', j < k → P j s' → R s') → P k s → wpAny (model prog w) A (pyNext (.ref I)) (OwitTurn prog w A E env v body Q R) E s) :
    ∀ fuel k s, k < fuel → P k s → OwitRest prog w A E env v body Q I fuel s
  | 0, k, s, h, _ => absurd h (Nat.not_lt_zero _)
  | f + 1, k, s, h, p => OwitRest.succ (step (fun s' => OwitRest prog w A E env v body Q I f s') k s (fun j s' hj hp => rest_ind P step f j s' (by omega) hp) p)
noncomputable def CiAt (prog : Program) (w : World) (A : Around) (E : Value → Shared → Prop) (env : Env) (v : PySem.Str) (body : List Stmt) (Q : Flow → Shared → Prop) (it : Value) (s₂ : Shared) : Prop :=
  OwitAt prog w A E env v body Q it s₂
theorem CiAt.go {env : Env} {v : PySem.Str} {body : List Stmt} {Q : Flow → Shared → Prop} {I : Addr} (P : Nat → Shared → Prop) (k : Nat) (hk : k < 64) (hp : P k s)
    (step : ∀ (R : Shared → Prop) k s, (∀ j s', j < k → P j s' → R s') → P k s → wpAny (model prog w) A (pyNext (.ref I)) (OwitTurn prog w A E env v body Q R) E s) :
    CiAt prog w A E env v body Q (.ref I) s := OwitAt.intro (rest_ind P step 64 k s hk hp)
theorem ci_for {env : Env} {v : PySem.Str} {px pos : Pos} {iter : Expr} {body : List Stmt} {Q : Flow → Shared → Prop}
    (h : wpAny (model prog w) A (eval iter env) (fun xv s₁ => wpAny (model prog w) A (pyIter xv) (CiAt prog w A E env v body Q) E s₁) E s)
    (hs : ∀ x, foldedSetIterable iter env x = pure x := by intro _; rfl) (hE : PassesOwn (model prog w) A env E := by passes_own) :
    wpAny (model prog w) A (exec (.For (.Name v px) iter body [] pos) env) Q E s := owit_for h hs hE
theorem ci_selfN {I q : Addr} {t : Tok} {Q : Value → Shared → Prop} {news : Led} (N : News h₀ L s.heap news) (mI : (I, itO q t) ∈ news) (h : Q (.ref I) s) : wpAny (model prog w) A (pyIter (.ref I)) Q E s :=
  ci_self (N _ mI).1 h
end
theorem S1_ne (a : Nat) : (PySem.Str.ofString "" == S [a]) = false := by
  have e : PySem.Str.ofString "" = S [] := by decide +kernel
  rw [e, beq_eq_false_iff_ne]
  exact fun q => by have := S_inj q; simp at this
/-- the ledger of `get_token` -/
noncomputable abbrev getL (w : World) (Z : LexA) (ln : Int) (tn : Tok) (vs : List Value) (n : Nat) (I q : Addr) (t : Tok) (news : Led) : Led := lexL w Z ln tn vs n ((I, itO q t) :: (q, methodObj (.ref 133) (.ref Z.x)) :: news)
theorem lex_mem {w : World} {Z : LexA} {ln : Int} {tn : Tok} {vs : List Value} {n : Nat} {news : Led} {p : Addr × Obj} (h : p ∈ news) : p ∈ lexL w Z ln tn vs n news := (List.mem_append (s := lexL w Z ln tn vs n [])).mpr (.inr h)
theorem lex_low {w : World} {Z : LexA} {ln : Int} {tn : Tok} {vs : List Value} {n : Nat} {news : Led} (ok : LexOk w Z news) : ∀ p ∈ lexL w Z ln tn vs n [], @LE.le Nat _ p.1 Z.lp := by
  have h8 := Nat.le_of_lt ok.a8
  have h7 := Nat.le_trans (Nat.le_of_lt ok.a7) h8
  have h6 := Nat.le_trans (Nat.le_of_lt ok.a6) h7
  have h5 := Nat.le_trans (Nat.le_of_lt ok.a5) h6
  have h4 := Nat.le_trans (Nat.le_of_lt ok.a4) h5
  have h3 := Nat.le_trans (Nat.le_of_lt ok.a3) h4
  have h2 := Nat.le_trans (Nat.le_of_lt ok.a2) h3
  have h1 := Nat.le_trans (Nat.le_of_lt ok.a1) h2
  exact List.forall_mem_cons.mpr ⟨h2, List.forall_mem_cons.mpr ⟨h7, List.forall_mem_cons.mpr ⟨h8, List.forall_mem_cons.mpr ⟨Nat.le_refl _, List.forall_mem_cons.mpr ⟨h6, List.forall_mem_cons.mpr ⟨h5, List.forall_mem_cons.mpr ⟨h4, List.forall_mem_cons.mpr ⟨h3, List.forall_mem_cons.mpr ⟨h1, List.forall_mem_nil _⟩⟩⟩⟩⟩⟩⟩⟩⟩
theorem fnAt_of {K : Frag} {h : Heap} {f : Addr} {oc : Value} {od : Option Addr} {fd : FuncData} {sl : Array (Option Value)} (X : K.In h) (ho : K.lookup f = some ⟨oc, od, .func fd, sl⟩) : ∃ fo fd', h.get? f = some fo ∧ fo.data = .func fd' := ⟨_, fd, X _ _ ho, rfl⟩
theorem fn_133a : PySem.Challenge.rw_xe0019_01 = PySem.Challenge.rw_xe0019_01 → ∀ {w : World} {h : Heap}, (hd.heap_39 w.params).In h → ∃ fo fd, h.get? 133 = some fo ∧ fo.data = .func fd := by
  k_fill
  intro _ w h X
  refine' fnAt_of ?k1 ?k2
  case k1 => exact X
  case k2 => k_is
theorem fn_133 {w : World} {h : Heap} (X : (hd.heap_39 w.params).In h) : ∃ fo fd, h.get? 133 = some fo ∧ fo.data = .func fd := fn_133a rfl X
section
variable {w : World} {Z : LexA} {ln : Int} {tn : Tok} {n : Nat} {news : Led} {I q : Addr} {t : Tok} {dp un : Nat} {gd : Option (List Code)} {cn : PySem.Str} {cs : Scope} {a : Addr} {ccd : Value} {cl : List (PySem.Str × Addr)} {outer : List Env}
    {A₀ : Around} {base h₀ : Heap} {L : Addr} {m : PySem.Str → Option Value} {s : Shared} {Q : Option Value → Shared → Prop} {E : Value → Shared → Prop} {mean : ExcName → Option Value} {mg mb : PySem.Str → Option Value}
theorem next_item {c : Nat} {u : Tok} {vs : List Value} {l : List Nat} (B : Below A₀ base outer h₀) (F : Fr h₀ L s.heap m) (X : (hd.heap_39 w.params).In h₀) (T : Top topProg looseX mean mg mb h₀) (hk : cs.kind = .function)
    (N : News h₀ L s.heap (getL w Z ln tn (.str (S [c]) u :: vs) n I q t news)) (ok : LexOk w Z ((I, itO q t) :: (q, methodObj (.ref 133) (.ref Z.x)) :: news)) (hC : CharsAre vs l) (ha : c < 128) (hl : ∀ b ∈ l, b < 128) (hn : l.length ≤ 1000)
    (hd : dp + 16 < recursionLimit) (hu : un + 8 * 16 < cLine)
    (h : ∀ h' tk' tn', Fr h₀ L h' m → News h₀ L h' (getL w Z (if c = 10 then ln + 1 else ln) tn' vs (n + 1) I q t news) → Q (some (.str (S [c]) u)) { s with heap := h', toks := tk' }) :
    wpAny (model PySem.Challenge.rw_xe0019_01.row.prog w) (ktrTop dp un gd cn cs L a ccd cl outer) (pyNext (.ref I)) Q E s := by
  obtain ⟨fo, fd, hf0, hfd⟩ := fn_133 X
  have hf := F.keep _ _ hf0
  have mI : ∀ {vs ln tn n}, (I, itO q t) ∈ getL w Z ln tn vs n I q t news := fun {vs ln tn n} => lex_mem (.head _)
  have mq : (q, methodObj (.ref 133) (.ref Z.x)) ∈ getL w Z ln tn (.str (S [c]) u :: vs) n I q t news := lex_mem (.tail _ (.head _))
  refine ci_next (N _ mI).1 (N _ mq).1 hf hfd (Ret := fun v s' => ∃ h' tk' tn', s' = { s with heap := h', toks := tk' } ∧ v = .str (S [c]) u ∧ Fr h₀ L h' m ∧ News h₀ L h' (getL w Z (if c = 10 then ln + 1 else ln) tn' vs (n + 1) I q t news)) ?_ ?_
  · refine codeAny_mono (rc_cons w Z ln tn c u vs l n _ ok hC ha hl hn dp (un + 1) gd cn cs a ccd cl outer A₀ base h₀ L m s (fun v s' => ∃ h' tk' tn', s' = { s with heap := h', toks := tk' } ∧ v = .str (S [c]) u ∧ Fr h₀ L h' m ∧ News h₀ L h' (getL w Z (if c = 10 then ln + 1 else ln) tn' vs (n + 1) I q t news)) (fun _ _ => False) mean mg mb B F X N T hk (by omega) (by omega) ?_) ?_
    · rintro r news' h' tk' F' N' ⟨rfl, tn', rfl⟩
      exact ⟨h', tk', tn', rfl, rfl, F', N'⟩
    · intro r s' hr
      exact hr
  · rintro v s' ⟨h', tk', tn', rfl, rfl, F', N'⟩
    exact ⟨_, _, rfl, S1_ne _, (N' _ mI).1, h h' tk' tn' F' N'⟩
theorem next_end (B : Below A₀ base outer h₀) (F : Fr h₀ L s.heap m) (X : (hd.heap_39 w.params).In h₀) (T : Top topProg looseX mean mg mb h₀) (hk : cs.kind = .function)
    (N : News h₀ L s.heap (getL w Z ln tn [] n I q t news)) (ok : LexOk w Z ((I, itO q t) :: (q, methodObj (.ref 133) (.ref Z.x)) :: news)) (hI : I ∉ ((q, methodObj (.ref 133) (.ref Z.x)) :: news).map (·.1) ∧ Z.lp < I)
    (hd : dp + 16 < recursionLimit) (hu : un + 8 * 16 < cLine)
    (h : ∀ h' tk', Fr h₀ L h' m → News h₀ L h' (lexL w Z ln tn [] n news) → Q none { s with heap := h', toks := tk' }) :
    wpAny (model PySem.Challenge.rw_xe0019_01.row.prog w) (ktrTop dp un gd cn cs L a ccd cl outer) (pyNext (.ref I)) Q E s := by
  obtain ⟨fo, fd, hf0, hfd⟩ := fn_133 X
  have hf := F.keep _ _ hf0
  have mI : (I, itO q t) ∈ getL w Z ln tn [] n I q t news := lex_mem (.head _)
  have mq : (q, methodObj (.ref 133) (.ref Z.x)) ∈ getL w Z ln tn [] n I q t news := lex_mem (.tail _ (.head _))
  refine ci_end rfl (N _ mI).1 (N _ mq).1 hf hfd (Ret := fun v s' => ∃ h' tk' t', s' = { s with heap := h', toks := tk' } ∧ v = .str (PySem.Str.ofString "") t' ∧ Fr h₀ L h' m ∧ News h₀ L h' (getL w Z ln tn [] n I q t news)) ?_ ?_
  · refine codeAny_mono (rc_nil w Z ln tn n _ ok dp (un + 1) gd cn cs a ccd cl outer A₀ base h₀ L m s (fun v s' => ∃ h' tk' t', s' = { s with heap := h', toks := tk' } ∧ v = .str (PySem.Str.ofString "") t' ∧ Fr h₀ L h' m ∧ News h₀ L h' (getL w Z ln tn [] n I q t news)) (fun _ _ => False) mean mg mb B F X N T hk (by omega) (by omega) ?_) ?_
    · rintro r news' h' tk' F' N' ⟨rfl, t', rfl⟩
      exact ⟨h', tk', t', rfl, rfl, F', N'⟩
    · intro r s' hr
      exact hr
  · rintro v s' ⟨h', tk', t', rfl, rfl, F', N'⟩
    refine ⟨_, rfl, (N' _ mI).1, (N' _ mq).1, F'.keep _ _ hf0, fun h2 e2 => h h2 tk' ?_ ?_⟩
    · exact ⟨F'.ns.extBut e2 (N' _ mI).2.1.symm, fun b o e => e2 b o (fun q2 => by rw [q2, (N' _ mI).2.2] at e; cases e) (F'.keep b o e), F'.above⟩
    · intro p hp
      have hp2 := List.mem_append.mp (show p ∈ lexL w Z ln tn [] n [] ++ news from hp)
      have hn : p.1 ≠ I := hp2.elim (fun h => Nat.ne_of_lt (Nat.lt_of_le_of_lt (lex_low ok p h) hI.2)) (fun h e => hI.1 (e ▸ List.mem_cons_of_mem _ (List.mem_map_of_mem h)))
      have hm : p ∈ getL w Z ln tn [] n I q t news := List.mem_append.mpr (hp2.elim Or.inl (fun h => Or.inr (.tail _ (.tail _ h))))
      exact ⟨e2 _ _ hn (N' p hm).1, (N' p hm).2⟩
end
end
section
open PySem PySem.W PySem.Calls PyProof.Rows
set_option linter.unusedVariables false
set_option linter.unusedSimpArgs false
set_option maxRecDepth 100000
set_option maxHeartbeats 4000000

noncomputable def Plain (c : Nat) : Prop := c < 128 ∧ c ≠ 10 ∧ c ≠ 9 ∧ c ≠ 13 ∧ c ≠ 32 ∧ c ≠ 34 ∧ c ≠ 92
noncomputable def bodyT (kind : Nat) (wd : List Nat) : List Nat := match kind with
  | 0 => wd ++ [10]
  | 1 => 34 :: (wd ++ [34])
  | _ => 92 :: (wd ++ [10])
theorem ext_ok {wd rest : List Nat} {c : Nat} (h : ∀ b ∈ wd ++ rest, b < 128) (hc : c < 128) : ∀ b ∈ wd ++ c :: rest, b < 128 := by
  intro b hb
  rcases List.mem_append.mp hb with hb | hb
  · exact h b (List.mem_append_left _ hb)
  · rcases List.mem_cons.mp hb with rfl | hb
    · exact hc
    · exact h b (List.mem_append_right _ hb)
theorem tl_ok {a : Nat} {wd rest : List Nat} (h : ∀ b ∈ (a :: wd) ++ rest, b < 128) : ∀ b ∈ wd ++ rest, b < 128 := fun b hb => h b (.tail _ hb)
theorem ext_len {wd rest : List Nat} {c : Nat} (h : (wd ++ rest).length ≤ 900) : (wd ++ c :: rest).length ≤ 910 := by
  simp only [List.length_append, List.length_cons] at h ⊢; omega
theorem tl_len {a : Nat} {wd rest : List Nat} (h : ((a :: wd) ++ rest).length ≤ 900) : (wd ++ rest).length ≤ 900 := by
  simp only [List.length_append, List.length_cons] at h ⊢; omega
theorem body_ok {kind : Nat} {wd rest : List Nat} (h : ∀ b ∈ wd ++ rest, b < 128) (hl : (wd ++ rest).length ≤ 900) : (bodyT kind wd ++ rest).length ≤ 910 ∧ ∀ b ∈ bodyT kind wd ++ rest, b < 128 := by
  match kind with
  | 0 => exact ⟨by simpa [bodyT] using ext_len (c := 10) hl, by simpa [bodyT] using ext_ok (c := 10) h (by decide)⟩
  | 1 =>
    have h1 := ext_len (c := 34) hl
    have h2 := ext_ok (c := 34) h (by decide)
    refine ⟨?_, fun b hb => ?_⟩
    · simp only [bodyT, List.length_append, List.length_cons, List.length_nil] at hl ⊢; omega
    · simp only [bodyT, List.cons_append, List.append_assoc, List.nil_append, List.mem_cons] at hb
      rcases hb with rfl | hb
      · decide
      · exact h2 b hb
  | k + 2 =>
    have h2 := ext_ok (c := 10) h (by decide)
    refine ⟨?_, fun b hb => ?_⟩
    · simp only [bodyT, List.length_append, List.length_cons, List.length_nil] at hl ⊢; omega
    · simp only [bodyT, List.cons_append, List.append_assoc, List.nil_append, List.mem_cons] at hb
      rcases hb with rfl | hb
      · decide
      · exact h2 b hb
theorem rep_ok {k : Nat} {l : List Nat} (h : ∀ b ∈ l, b < 128) : ∀ b ∈ List.replicate k 10 ++ l, b < 128 := fun b hb => by
  rcases List.mem_append.mp hb with hb | hb
  · rw [(List.mem_replicate.mp hb).2]; decide
  · exact h b hb
theorem lexOk_more {w : World} {Z : LexA} {news : Led} {I q : Addr} {oI oq : Obj} (ok : LexOk w Z news) (h1 : Z.d < I) (h2 : Z.D < I) (h3 : Z.d < q) (h4 : Z.D < q) : LexOk w Z ((I, oI) :: (q, oq) :: news) :=
  ⟨ok.read, ok.a1, ok.a2, ok.a3, ok.a4, ok.a5, ok.a6, ok.a7, ok.a8, fun p hp => by
    rcases List.mem_cons.mp hp with rfl | hp
    · exact ⟨Nat.ne_of_gt h1, Nat.ne_of_gt h2⟩
    · rcases List.mem_cons.mp hp with rfl | hp
      · exact ⟨Nat.ne_of_gt h3, Nat.ne_of_gt h4⟩
      · exact ok.off p hp, ok.fn⟩
theorem not_in {I q : Addr} {oq : Obj} {news : Led} (h1 : q < I) (h2 : AllLt I news) : I ∉ ((q, oq) :: news).map (·.1) := by
  intro h
  obtain ⟨p, hp, e⟩ := List.mem_map.mp h
  rcases List.mem_cons.mp hp with rfl | hp
  · exact Nat.ne_of_lt h1 e
  · exact Nat.ne_of_lt (ktn_ltOf h2 p hp) e
theorem in_ws {prog : Program} {w : World} {A : Around} {E : Value → Shared → Prop} {s : Shared} {Q : Value → Shared → Prop} {c : Nat} {b : Bool} {t u : Tok} (e : decide (c ∈ [10, 9, 13, 32]) = b) (h : Q (.bool b) s) :
    wpAny (model prog w) A (compareOp .In (.str (S [c]) u) (.str (PySem.Str.ofString "\n\t\r ") t)) Q E s := by
  refine PyProof.Rows.in_str ?_
  have e1 : (S [c]) = ⟨#[c]⟩ := rfl
  have e2 : (PySem.Str.ofString "\n\t\r ").cps.toList = [10, 9, 13, 32] := by decide +kernel
  rw [e1, StrLaws.found_one, e2, e]
  exact h
theorem iadd_S {prog : Program} {w : World} {A : Around} {E : Value → Shared → Prop} {s : Shared} {Q : Value → Shared → Prop} {a b : List Nat} {t u : Tok} (h : a.length + b.length ≤ 1000000) (hq : ∀ t' n, Q (.str (S (a ++ b)) t') { s with toks := n }) : wpAny (model prog w) A (inplaceOp .Add (.str (S a) t) (.str (S b) u)) Q E s := by
  refine SBL.iadd (hsz := ?hsz) ?_
  case hsz =>
    have e : sizeLine = 16777216 := by decide
    rw [S_len, S_len, e]; omega
  intro t' n _
  rw [S_append]; exact hq t' n
theorem iadd_eq {prog : Program} {w : World} {A : Around} {E : Value → Shared → Prop} {s : Shared} {Q : Value → Shared → Prop} {x y : PySem.Str} {a b : List Nat} {t u : Tok} (hx : x = S a) (hy : y = S b) (h : a.length + b.length ≤ 1000000)
    (hq : ∀ t' n, Q (.str (S (a ++ b)) t') { s with toks := n }) : wpAny (model prog w) A (inplaceOp .Add (.str x t) (.str y u)) Q E s := by subst hx hy; exact iadd_S h hq
theorem pl_ws {c : Nat} (h : Plain c) : decide (c ∈ [10, 9, 13, 32]) = false := by
  obtain ⟨_, h1, h2, h3, h4, _, _⟩ := h
  simp [h1, h2, h3, h4]
theorem pl_q {c : Nat} (h : Plain c) : (S [c] == PySem.Str.ofString "\"") = false := by
  rw [lit_q, beq_eq_false_iff_ne]; exact fun q => h.2.2.2.2.2.1 (by simpa using S_inj q)
theorem pl_b {c : Nat} (h : Plain c) : (S [c] == PySem.Str.ofString "\\") = false := by
  rw [lit_b, beq_eq_false_iff_ne]; exact fun q => h.2.2.2.2.2.2 (by simpa using S_inj q)
noncomputable def LpSt (h₀ : Heap) (L : Addr) (m : PySem.Str → Option Value) (s₀ : Shared) (tokv : List Nat) (led : Int → Tok → List Value → Nat → Led) (l : List Nat) (ln : Int) (s' : Shared) : Prop :=
  ∃ h tk cv t tn vs n, s' = { s₀ with heap := h, toks := tk } ∧ Fr h₀ L h (fun y => if y = PySem.Str.ofString "token" then some (.str (S tokv) t) else if y = PySem.Str.ofString "ch" then cv else m y) ∧ News h₀ L h (led ln tn vs n) ∧ CharsAre vs l
theorem initM {h₀ h : Heap} {L : Addr} {m : PySem.Str → Option Value} {x : List Nat} {t : Tok} (F : Fr h₀ L h m) (h1 : m (PySem.Str.ofString "token") = some (.str (S x) t)) :
    Fr h₀ L h (fun y => if y = PySem.Str.ofString "token" then some (.str (S x) t) else if y = PySem.Str.ofString "ch" then m (PySem.Str.ofString "ch") else m y) := by
  have e : (fun y => if y = PySem.Str.ofString "token" then some (.str (S x) t) else if y = PySem.Str.ofString "ch" then m (PySem.Str.ofString "ch") else m y) = m := by
    funext y
    by_cases a : y = PySem.Str.ofString "token"
    · rw [if_pos a, a, h1]
    · rw [if_neg a]
      by_cases b : y = PySem.Str.ofString "ch"
      · rw [if_pos b, b]
      · rw [if_neg b]
  rw [e]; exact F
theorem LpSt.init {h₀ h : Heap} {L : Addr} {m : PySem.Str → Option Value} {s : Shared} {x l : List Nat} {y : PySem.Str} {t : Tok} {led : Int → Tok → List Value → Nat → Led} {ln : Int} {tk : Nat} {tn : Tok} {vs : List Value} {n : Nat} (F : Fr h₀ L h m)
    (h1 : m (PySem.Str.ofString "token") = some (.str y t)) (hy : y = S x) (N : News h₀ L h (led ln tn vs n)) (hC : CharsAre vs l) : LpSt h₀ L m s x led l ln { s with heap := h, toks := tk } := by
  subst hy
  exact ⟨h, tk, _, t, tn, vs, n, rfl, initM F h1, N, hC⟩
theorem frA {h₀ h : Heap} {L : Addr} {m : PySem.Str → Option Value} {p q : PySem.Str} {a b c : Option Value} (F : Fr h₀ L h (fun y => if y = q then a else if y = p then b else if y = q then c else m y)) (hpq : p ≠ q) :
    Fr h₀ L h (fun y => if y = p then b else if y = q then a else m y) := by
  have e : (fun y => if y = q then a else if y = p then b else if y = q then c else m y) = (fun y => if y = p then b else if y = q then a else m y) := by
    funext y
    by_cases h1 : y = q
    · subst h1; simp [Ne.symm hpq]
    · simp only [h1, if_false]
  exact e ▸ F
theorem frB {h₀ h : Heap} {L : Addr} {m : PySem.Str → Option Value} {p q : PySem.Str} {a b c d : Option Value} (F : Fr h₀ L h (fun y => if y = p then a else if y = q then b else if y = p then c else if y = q then d else m y)) :
    Fr h₀ L h (fun y => if y = p then a else if y = q then b else m y) := by
  have e : (fun y => if y = p then a else if y = q then b else if y = p then c else if y = q then d else m y) = (fun y => if y = p then a else if y = q then b else m y) := by
    funext y
    by_cases h1 : y = p
    · rw [if_pos h1, if_pos h1]
    · by_cases h2 : y = q
      · subst h2; simp [h1]
      · simp only [h1, h2, if_false]
  exact e ▸ F
theorem tok_ne_ch : PySem.Str.ofString "token" ≠ PySem.Str.ofString "ch" := by decide +kernel
theorem CiAt.goM {prog : Program} {w : World} {A : Around} {E : Value → Shared → Prop} {s : Shared} {env : Env} {v : PySem.Str} {body : List Stmt} {Q : Flow → Shared → Prop} {I : Addr} {h₀ h : Heap} {L : Addr} {m : PySem.Str → Option Value} (F : Fr h₀ L h m) (P : (PySem.Str → Option Value) → Nat → Shared → Prop) (k : Nat) (hk : k < 64) (hp : P m k s)
    (step : ∀ (R : Shared → Prop) k s, (∀ j s', j < k → P m j s' → R s') → P m k s → wpAny (model prog w) A (pyNext (.ref I)) (OwitTurn prog w A E env v body Q R) E s) :
    CiAt prog w A E env v body Q (.ref I) s := CiAt.go (P m) k hk hp step
theorem lit_e : PySem.Str.ofString "" = S [] := by decide +kernel

theorem rg_Ct11_0 : True := by
  k_with_none
  k_with "mine lt" => (first | with_reducible assumption | with_reducible exact cj0 (by with_reducible assumption) | with_reducible exact cj1 (by with_reducible assumption) | with_reducible exact cl1 (by with_reducible assumption) | with_reducible exact cj2 (by with_reducible assumption) | with_reducible exact cl2 (by with_reducible assumption) | with_reducible exact cj3 (by with_reducible assumption) | with_reducible exact cl3 (by with_reducible assumption) | with_reducible exact cj4 (by with_reducible assumption) | with_reducible exact cl4 (by with_reducible assumption) | with_reducible exact cj5 (by with_reducible assumption) | with_reducible exact cl5 (by with_reducible assumption) | with_reducible exact cj6 (by with_reducible assumption) | with_reducible exact cl6 (by with_reducible assumption) | with_reducible exact cj7 (by with_reducible assumption) | with_reducible exact cl7 (by with_reducible assumption) | with_reducible exact cj8 (by with_reducible assumption) | with_reducible exact cl8 (by with_reducible assumption) | with_reducible exact cj9 (by with_reducible assumption) | with_reducible exact cl9 (by with_reducible assumption) | with_reducible exact cj10 (by with_reducible assumption) | with_reducible exact cl10 (by with_reducible assumption) | with_reducible exact cj11 (by with_reducible assumption) | with_reducible exact cl11 (by with_reducible assumption) | with_reducible exact cj12 (by with_reducible assumption) | with_reducible exact cl12 (by with_reducible assumption))
  k_with "mine om" => (first | with_reducible assumption | decide | with_reducible exact rm1 (by with_reducible assumption) | with_reducible exact rm2 (by with_reducible assumption) (by decide) | with_reducible exact rm3 (by with_reducible assumption) (by decide) | with_reducible exact rm9 (by with_reducible assumption) (by decide) | with_reducible exact rm8 (by with_reducible assumption) (by decide) | with_reducible exact rm7 (by with_reducible assumption) (by decide) | with_reducible exact rm4 (by with_reducible assumption) (by decide) | with_reducible exact rm5 (by with_reducible assumption) (by decide) | with_reducible exact rm6 (by with_reducible assumption) (by decide) | with_reducible exact ih2 _ | with_reducible exact ih1 (by with_reducible assumption) | with_reducible exact three_of (by with_reducible assumption) | with_reducible exact two_lt (by with_reducible assumption) | with_reducible exact three_lt (by with_reducible assumption) | with_reducible exact lt_of8 (by with_reducible assumption) (by decide) | with_reducible exact le_of (by with_reducible assumption) (by decide) | with_reducible exact le_of3 (by with_reducible assumption) (by decide) | with_reducible exact le_of4 (by with_reducible assumption) (by decide) | (with_reducible refine Nat.ne_of_lt ?_; walk_at "mine lt") | (with_reducible refine Nat.ne_of_gt ?_; walk_at "mine lt") | with_reducible exact And.left (by with_reducible assumption) | with_reducible exact And.right (by with_reducible assumption))
  k_with "call ref" => ((k_here; k_dflt (refine' call_cls ?q9k1 ?q9k2 ?q9k3 ?q9k4 ?q9k5 ?q9k6 ?_; (case q9k1 => k_asm); (case q9k2 => k_asm); (case q9k3 => k_asm); (case q9k4 => k_is); (case q9k5 => k_is); (case q9k6 => k_is); k_whole; intro _ _ _ _ _ l1 l2; (try k_lt l1); (try k_lt2 l2); (try (revert l1 l2; intro _ _)); (try k_sweep); (refine' code_def ?q9k1 ?q9k2 ?q9k3 ?q9k4 ?q9k5 ?q9kA ?q9kF ?q9kK ?q9k6 ?q9k7 ?q9k8 ?q9k9 ?q9kB ?_ ?q9c2 ?q9c3 ?q9c4 ?q9c5; (case q9kA => exact rfl); (case q9kF => exact rfl); (case q9kK => first | exact rfl | assumption); (case q9k1 => k_asm); (case q9k2 => k_asm); (case q9k3 => k_asm); (case q9k4 => k_asm); (case q9k5 => k_asm); (case q9k6 => k_is); (case q9k7 => k_is); (case q9k8 => ktr_room); (case q9k9 => exact BindsTo.of_eq rfl); (case q9c5 => decide); (case q9kB => exact locs rfl); (case q9c2 => exact rfl); (case q9c3 => exact rfl); (case q9c4 => exact rfl); k_whole; intro _ _ _ _ _ _ B' _ _; (try dsimp only); (try k_lift B'); (try (revert B'; intro _)); (try k_fold)))))
  k_with "mine all" => (with_reducible assumption)
  k_with "call type:list str" => ((k_here; k_dflt (refine' list_S ?q9hh ?q9F ?q9N ?q9hl ?_; (case q9hh => exact rfl); (case q9F => k_asm); (case q9N => k_asm); (case q9hl => assumption); intro _ _ _ _ _ _ _ l1 _; (try k_lt l1); (try (revert l1; intro _)))))
  k_with "call type:list" => ((k_here; k_dflt (refine' list_S ?q9hh ?q9F ?q9N ?q9hl ?_; (case q9hh => exact rfl); (case q9F => k_asm); (case q9N => k_asm); (case q9hl => assumption); intro _ _ _ _ _ _ _ l1 _; (try k_lt l1); (try (revert l1; intro _)))))
  k_with "mine room" => (first | (simp only [units_deeper, units_in1, Around.mark_units, depth_deeper, depth_in1, ktrTop, cLine, recursionLimit] at *; omega) | ktr_room | ktr_units)
  k_with "mine room" => (first | omega | (simp only [units_deeper, units_in1, Around.mark_units, depth_deeper, depth_in1, ktrTop]; omega) | (dsimp only [Around.deeper, Around.in1, ktrTop, Around.mark]; omega))
  k_with "mine mem" => ((refine mem_of ?_; with_reducible assumption))
  k_with "compareOp Eq ref ref" => ((k_here; k_dflt (first | (refine' told_nil ?q9N ?q9m1 ?q9m3 ?q9hu ?_; (case q9N => k_asm); (case q9m1 => k_mem); (case q9m3 => k_mem); (case q9hu => walk_at "mine room")) | (refine' chars_ne_nil ?q9N ?q9m1 ?q9m3 ?q9hc ?q9ha ?q9hs ?q9hu ?_; (case q9N => k_asm); (case q9m1 => k_mem); (case q9m3 => k_mem); (case q9hc => assumption); (case q9ha => assumption); (case q9hs => assumption); (case q9hu => walk_at "mine room")))))
  k_with "call builtin:list.pop" => ((k_here; k_dflt (refine' pop0 ?q9F ?q9N ?q9U ?q9z ?_; (case q9F => k_asm); (case q9N => k_asm); (case q9U => k_upd); (case q9z => omega); intro _ _ _)))
  k_with "callWith" => ((k_here; (try dsimp only); k_dflt (first | (refine' callWith_F ?q9k1 ?_; (case q9k1 => exact FnAt.of (by k_asm) (by k_mem)); k_whole) | (refine' callWith_F0 ?q9k1 ?_; (case q9k1 => exact FnAt.of (by k_asm) (by k_mem)); k_whole; try dsimp only [List.nil_append, List.cons_append]))))
  k_with "callWith ref" => ((k_here; k_dflt (first | (refine' callWith_F ?q9k1 ?_; (case q9k1 => exact FnAt.of (by k_asm) (by k_mem)); k_whole) | (refine' callWith_F0 ?q9k1 ?_; (case q9k1 => exact FnAt.of (by k_asm) (by k_mem)); k_whole; try dsimp only [List.nil_append, List.cons_append]))))
  k_with "mine S" => (first | with_reducible exact rfl | with_reducible exact lit_e)
  k_with "compareOp In str str" => ((k_here; k_dflt (refine' in_ws ?q9e ?_; (case q9e => first | with_reducible assumption | exact rfl))))
  k_with "inplaceOp Add str str" => ((k_here; k_dflt (refine' iadd_eq ?q9a ?q9b ?q9c ?_; (case q9a => walk_at "mine S"); (case q9b => walk_at "mine S"); (case q9c => (simp only [List.length_append, List.length_cons, List.length_nil]; omega)); intro _ _)))
  k_with "call builtin:iter" => ((k_here; k_dflt (refine' ci_make ?q9F ?q9N ?q9m ?_; (case q9F => k_asm); (case q9N => k_asm); (case q9m => k_mem); intro _ _ _ _ l1; (try k_lt l1); (try (revert l1; intro _)))))
  k_with "exec For Name Name cons nil" => ((k_here; k_dflt (refine ci_for ?_)))
  k_with "mine iter" => (((with_reducible show wpAny _ _ (pyIter (Value.ref _)) (CiAt _ _ _ _ _ _ _ _) _ _); k_dflt (refine' ci_selfN ?q9N ?q9m ?_; (case q9N => k_asm); (case q9m => k_mem))))
  trivial

theorem get_con (w : World) (Z : LexA) (ln : Int) (tn : Tok) (vs : List Value) (n : Nat) (news : Led) (ok : LexOk w Z news) (sk kind : Nat) (wd rest : List Nat) (hC : CharsAre vs (List.replicate sk 10 ++ (bodyT kind wd ++ rest))) (hsk : sk < 60)
    (hall : ∀ b ∈ wd ++ rest, b < 128) (hlen : (wd ++ rest).length ≤ 900) (hwl : wd.length < 60) (hpl : ∀ b ∈ wd, Plain b) (hne : wd ≠ []) (hki : kind ≤ 2) :
    Con w 140 20 [.ref Z.x] (lexL w Z ln tn vs n news) (fun r ns => ∃ t tn' vs' n', CharsAre vs' rest ∧ r = .str (S wd) t ∧ ns = lexL w Z (ln + sk + (if kind = 1 then 0 else 1)) tn' vs' n' news) := by
  obtain ⟨x, d, lp, x0, d0, lp0, f, c, D, cell, fo, oc, co, z1, z2, z3, z4, tw, j1, j2, j3, j4, j5, jn, jw⟩ := Z
  have ok0 := ok
  obtain ⟨hr, a1, a2, a3, a4, a5, a6, a7, a8, off, fcl, fod, ffd, fsl, efo⟩ := ok
  dsimp only at hr a1 a2 a3 a4 a5 a6 a7 a8 off efo
  subst efo
  dsimp only [lexL]
  unfold Con
  k_fill
  intro dp un gd cn cs a ccd cl outer A₀ base h₀ L m s Q E mean mg mb B F X N T hk hdp hu hret
  refine wpAny_call ?_
  k_dflt (refine' code_def ?k1 ?k2 ?k3 ?k4 ?k5 ?kA ?kF ?kK ?k6 ?k7 ?k8 ?k9 ?kB ?_ ?c2 ?c3 ?c4 ?c5; (case kA => exact rfl); (case kF => exact rfl); (case kK => first | exact rfl | assumption); (case k1 => k_asm); (case k2 => k_asm); (case k3 => k_asm); (case k4 => k_asm); (case k5 => k_asm); (case k6 => k_is); (case k7 => k_is); (case k8 => ktr_room); (case k9 => exact BindsTo.of_eq rfl); (case c5 => decide); (case kB => exact locs rfl); (case c2 => exact rfl); (case c3 => exact rfl); (case c4 => exact rfl); k_whole; intro g' L' h' FG' F' N' B' X' T'; (try dsimp only); (try k_lift B'); (try k_fold))
  k_steps
  rename_i tkA hA q hB lq I hC9 lI h4 F4 N4
  generalize tkA + 1 + 1 + 1 = tq at N4
  have okI : LexOk w ⟨x, d, lp, x0, d0, lp0, f, c, D, cell, ⟨fcl, fod, .func ffd, fsl⟩, oc, co, z1, z2, z3, z4, tw, j1, j2, j3, j4, j5, jn, jw⟩ ((I, itO q tq) :: (q, methodObj (.ref 133) (.ref x)) :: news) := lexOk_more ok0 lI.2.2.1 lI.2.1 lq.2.1 lq.1
  have hbl : (bodyT kind wd ++ rest).length ≤ 910 ∧ ∀ b ∈ bodyT kind wd ++ rest, b < 128 := body_ok hall hlen
  refine CiAt.goM F4 (fun mm k s' => ∃ ln', LpSt g' L' mm s [] (fun ln tn vs n => getL w ⟨x, d, lp, x0, d0, lp0, f, c, D, cell, ⟨fcl, fod, .func ffd, fsl⟩, oc, co, z1, z2, z3, z4, tw, j1, j2, j3, j4, j5, jn, jw⟩ ln tn vs n I q tq news) (List.replicate k 10 ++ (bodyT kind wd ++ rest)) ln' s' ∧ ln' + k = ln + sk ∧ k ≤ sk) sk (by omega) ?init ?step
  case init =>
    refine ⟨ln, LpSt.init (tn := tn) (n := n) (vs := vs) F4 rfl lit_e (news_sub N4 ?_) hC, rfl, Nat.le_refl _⟩
    · (repeat (refine subC (by k_mem) ?_)); intro p hp; (repeat (first | exact hp | refine List.Mem.tail _ ?_))
  case step =>
    clear F4 N4
    rintro R k s2 hR ⟨ln', ⟨h, tk, cv, t, tn, vs, n, rfl, Fs, Ns, hCs⟩, eln, ekk⟩
    cases k with
    | succ k =>
      rw [List.replicate_succ, List.cons_append] at hCs
      cases hCs with
      | cons _ u hCs' =>
      have hlL : ∀ b ∈ List.replicate k 10 ++ (bodyT kind wd ++ rest), b < 128 := rep_ok hbl.2
      have hnL : (List.replicate k 10 ++ (bodyT kind wd ++ rest)).length ≤ 1000 := by have := hbl.1; rw [List.length_append, List.length_replicate]; omega
      refine' next_item (Z := ⟨x, d, lp, x0, d0, lp0, f, c, D, cell, ⟨fcl, fod, .func ffd, fsl⟩, oc, co, z1, z2, z3, z4, tw, j1, j2, j3, j4, j5, jn, jw⟩) (news := news) (I := I) (q := q) (t := tq) ?kB ?kF ?kX ?kT ?kK ?kN ?kok ?kC ?ka ?kl ?kn ?kd ?ku ?_
      case kB => k_asm
      case kF => k_asm
      case kX => k_asm
      case kT => k_asm
      case kK => exact rfl
      case kN => exact Ns
      case kok => exact okI
      case kC => exact hCs'
      case ka => decide
      case kl => exact hlL
      case kn => exact hnL
      case kd => walk_at "mine room"
      case ku => walk_at "mine room"
      intro h5 tk5 tn5 F5 N5
      rw [if_pos rfl] at N5
      dsimp only [OwitTurn, lexL] at N5 ⊢
      clear Fs Ns
      k_steps
      refine hR k _ (Nat.lt_succ_self k) ⟨ln' + 1, ?st, by omega, by omega⟩
      refine' ⟨_, _, _, _, _, _, _, rfl, frA ?F tok_ne_ch, ?N, hCs'⟩
      case F => assumption
      case N => assumption
    | zero =>
      have eln2 : ln' = ln + sk := by omega
      subst eln2
      obtain rfl | rfl | rfl : kind = 0 ∨ kind = 1 ∨ kind = 2 := by omega
      · obtain ⟨a1', wd', ewd⟩ : ∃ a1 wd', wd = a1 :: wd' := by
          cases wd with
          | nil => exact absurd rfl hne
          | cons a b => exact ⟨a, b, rfl⟩
        rw [ewd] at hCs
        simp only [List.replicate_zero, List.nil_append, bodyT, List.cons_append, List.append_assoc] at hCs
        cases hCs with
        | cons _ u hCs' =>
        have hpa : Plain a1' := hpl a1' (by rw [ewd]; simp)
        have q1 := pl_ws hpa
        have q2 := pl_q hpa
        have q3 := pl_b hpa
        have hlL : ∀ b ∈ wd' ++ 10 :: rest, b < 128 := ext_ok (tl_ok (ewd ▸ hall)) (by decide)
        have hnL : (wd' ++ 10 :: rest).length ≤ 1000 := Nat.le_trans (ext_len (tl_len (ewd ▸ hlen))) (by decide)
        refine' next_item (Z := ⟨x, d, lp, x0, d0, lp0, f, c, D, cell, ⟨fcl, fod, .func ffd, fsl⟩, oc, co, z1, z2, z3, z4, tw, j1, j2, j3, j4, j5, jn, jw⟩) (news := news) (I := I) (q := q) (t := tq) ?kB ?kF ?kX ?kT ?kK ?kN ?kok ?kC ?ka ?kl ?kn ?kd ?ku ?_
        case kB => k_asm
        case kF => k_asm
        case kX => k_asm
        case kT => k_asm
        case kK => exact rfl
        case kN => exact Ns
        case kok => exact okI
        case kC => exact hCs'
        case ka => exact hpa.1
        case kl => exact hlL
        case kn => exact hnL
        case kd => walk_at "mine room"
        case ku => walk_at "mine room"
        intro h5 tk5 tn5 F5 N5
        rw [if_neg hpa.2.1] at N5
        dsimp only [OwitTurn, lexL] at N5 ⊢
        clear Fs Ns
        k_steps
        rename Fr _ _ _ _ => FC
        rename News _ _ _ _ => NC
        refine CiAt.goM FC (fun mm k s' => ∃ w1 w2, wd = w1 ++ w2 ∧ w2.length = k ∧ LpSt g' L' mm s w1 (fun ln tn vs n => getL w ⟨x, d, lp, x0, d0, lp0, f, c, D, cell, ⟨fcl, fod, .func ffd, fsl⟩, oc, co, z1, z2, z3, z4, tw, j1, j2, j3, j4, j5, jn, jw⟩ ln tn vs n I q tq news) (w2 ++ 10 :: rest) (ln + sk) s') _ ?bounda ⟨[a1'], wd', ewd, rfl, LpSt.init FC rfl rfl (news_sub NC (by intro p hp; exact hp)) (by first | assumption | simpa using ‹CharsAre _ _›)⟩ ?step2a
        case bounda => (try rw [ewd] at hwl); (try simp only [List.length_cons] at hwl); omega
        case step2a =>
          clear FC NC
          rintro R2 k2 s3 hR2 ⟨w1, w2, ew, ek2, h, tk, cv, t, tn, vs, n, rfl, Fs, Ns, hCs⟩
          have hlen2 : w1.length + w2.length + rest.length ≤ 900 := by rw [ew] at hlen; simpa [Nat.add_assoc] using hlen
          cases w2 with
          | nil =>
            cases hCs with
            | cons _ u hCs' =>
            have hlL : ∀ b ∈ rest, b < 128 := fun b hb => hall b (List.mem_append_right _ hb)
            have hnL : rest.length ≤ 1000 := by omega
            refine' next_item (Z := ⟨x, d, lp, x0, d0, lp0, f, c, D, cell, ⟨fcl, fod, .func ffd, fsl⟩, oc, co, z1, z2, z3, z4, tw, j1, j2, j3, j4, j5, jn, jw⟩) (news := news) (I := I) (q := q) (t := tq) ?kB ?kF ?kX ?kT ?kK ?kN ?kok ?kC ?ka ?kl ?kn ?kd ?ku ?_
            case kB => k_asm
            case kF => k_asm
            case kX => k_asm
            case kT => k_asm
            case kK => exact rfl
            case kN => exact Ns
            case kok => exact okI
            case kC => exact hCs'
            case ka => decide
            case kl => exact hlL
            case kn => exact hnL
            case kd => walk_at "mine room"
            case ku => walk_at "mine room"
            intro h5 tk5 tn5 F5 N5
            rw [if_pos rfl] at N5
            dsimp only [OwitTurn, lexL] at N5 ⊢
            clear Fs Ns
            k_steps
            obtain rfl : wd = w1 := by simpa using ew
            refine hret _ _ _ _ (by k_asm) (news_sub (by k_asm) ?_) ⟨_, tn5, _, n + 1, hCs', rfl, rfl⟩
            (repeat (refine subC (by k_mem) ?_)); intro p hp; (repeat (first | exact hp | refine List.Mem.tail _ ?_))
          | cons a2 w2 =>
            cases hCs with
            | cons _ u hCs' =>
            have hp2 : Plain a2 := hpl a2 (by rw [ew]; simp)
            have hlL : ∀ b ∈ w2 ++ 10 :: rest, b < 128 := by
              intro b hb
              rcases List.mem_append.mp hb with hb | hb
              · exact hall b (by rw [ew]; simp [hb])
              · rcases List.mem_cons.mp hb with rfl | hb
                · decide
                · exact hall b (List.mem_append_right _ hb)
            have hnL : (w2 ++ 10 :: rest).length ≤ 1000 := by
              simp only [List.length_append, List.length_cons] at hlen2 ⊢; omega
            have q1 := pl_ws hp2
            have q3 := pl_b hp2
            simp only [List.length_cons] at ek2
            have w1l : w1.length ≤ 900 := by simp only [List.length_cons] at hlen2; omega
            refine' next_item (Z := ⟨x, d, lp, x0, d0, lp0, f, c, D, cell, ⟨fcl, fod, .func ffd, fsl⟩, oc, co, z1, z2, z3, z4, tw, j1, j2, j3, j4, j5, jn, jw⟩) (news := news) (I := I) (q := q) (t := tq) ?kB ?kF ?kX ?kT ?kK ?kN ?kok ?kC ?ka ?kl ?kn ?kd ?ku ?_
            case kB => k_asm
            case kF => k_asm
            case kX => k_asm
            case kT => k_asm
            case kK => exact rfl
            case kN => exact Ns
            case kok => exact okI
            case kC => exact hCs'
            case ka => exact hp2.1
            case kl => exact hlL
            case kn => exact hnL
            case kd => walk_at "mine room"
            case ku => walk_at "mine room"
            intro h5 tk5 tn5 F5 N5
            rw [if_neg hp2.2.1] at N5
            dsimp only [OwitTurn, lexL] at N5 ⊢
            clear Fs Ns
            k_steps
            refine hR2 w2.length _ (by omega) ⟨w1 ++ [a2], w2, by simp [ew], rfl, ?st2a⟩
            refine' ⟨_, _, _, _, _, _, _, rfl, frB ?F, ?N, hCs'⟩
            case F => assumption
            case N => assumption
      · simp only [List.replicate_zero, List.nil_append, bodyT, List.cons_append, List.append_assoc] at hCs
        cases hCs with
        | cons _ u hCs' =>
        have hlL : ∀ b ∈ wd ++ 34 :: rest, b < 128 := ext_ok hall (by decide)
        have hnL : (wd ++ 34 :: rest).length ≤ 1000 := Nat.le_trans (ext_len hlen) (by decide)
        refine' next_item (Z := ⟨x, d, lp, x0, d0, lp0, f, c, D, cell, ⟨fcl, fod, .func ffd, fsl⟩, oc, co, z1, z2, z3, z4, tw, j1, j2, j3, j4, j5, jn, jw⟩) (news := news) (I := I) (q := q) (t := tq) ?kB ?kF ?kX ?kT ?kK ?kN ?kok ?kC ?ka ?kl ?kn ?kd ?ku ?_
        case kB => k_asm
        case kF => k_asm
        case kX => k_asm
        case kT => k_asm
        case kK => exact rfl
        case kN => exact Ns
        case kok => exact okI
        case kC => exact hCs'
        case ka => decide
        case kl => exact hlL
        case kn => exact hnL
        case kd => walk_at "mine room"
        case ku => walk_at "mine room"
        intro h5 tk5 tn5 F5 N5
        rw [if_neg (by decide)] at N5
        dsimp only [OwitTurn, lexL] at N5 ⊢
        clear Fs Ns
        k_steps
        rename Fr _ _ _ _ => FC
        rename News _ _ _ _ => NC
        refine CiAt.goM FC (fun mm k s' => ∃ w1 w2, wd = w1 ++ w2 ∧ w2.length = k ∧ LpSt g' L' mm s w1 (fun ln tn vs n => getL w ⟨x, d, lp, x0, d0, lp0, f, c, D, cell, ⟨fcl, fod, .func ffd, fsl⟩, oc, co, z1, z2, z3, z4, tw, j1, j2, j3, j4, j5, jn, jw⟩ ln tn vs n I q tq news) (w2 ++ 34 :: rest) (ln + sk) s') _ ?boundb ⟨[], wd, rfl, rfl, LpSt.init FC rfl lit_e (news_sub NC (by intro p hp; exact hp)) (by first | assumption | simpa using ‹CharsAre _ _›)⟩ ?step2b
        case boundb => (try rw [ewd] at hwl); (try simp only [List.length_cons] at hwl); omega
        case step2b =>
          clear FC NC
          rintro R2 k2 s3 hR2 ⟨w1, w2, ew, ek2, h, tk, cv, t, tn, vs, n, rfl, Fs, Ns, hCs⟩
          have hlen2 : w1.length + w2.length + rest.length ≤ 900 := by rw [ew] at hlen; simpa [Nat.add_assoc] using hlen
          cases w2 with
          | nil =>
            cases hCs with
            | cons _ u hCs' =>
            have hlL : ∀ b ∈ rest, b < 128 := fun b hb => hall b (List.mem_append_right _ hb)
            have hnL : rest.length ≤ 1000 := by omega
            refine' next_item (Z := ⟨x, d, lp, x0, d0, lp0, f, c, D, cell, ⟨fcl, fod, .func ffd, fsl⟩, oc, co, z1, z2, z3, z4, tw, j1, j2, j3, j4, j5, jn, jw⟩) (news := news) (I := I) (q := q) (t := tq) ?kB ?kF ?kX ?kT ?kK ?kN ?kok ?kC ?ka ?kl ?kn ?kd ?ku ?_
            case kB => k_asm
            case kF => k_asm
            case kX => k_asm
            case kT => k_asm
            case kK => exact rfl
            case kN => exact Ns
            case kok => exact okI
            case kC => exact hCs'
            case ka => decide
            case kl => exact hlL
            case kn => exact hnL
            case kd => walk_at "mine room"
            case ku => walk_at "mine room"
            intro h5 tk5 tn5 F5 N5
            rw [if_neg (by decide)] at N5
            dsimp only [OwitTurn, lexL] at N5 ⊢
            clear Fs Ns
            k_steps
            obtain rfl : wd = w1 := by simpa using ew
            refine hret _ _ _ _ (by k_asm) (news_sub (by k_asm) ?_) ⟨_, tn5, _, n + 1, hCs', rfl, (by rw [if_pos rfl, Int.add_zero])⟩
            (repeat (refine subC (by k_mem) ?_)); intro p hp; (repeat (first | exact hp | refine List.Mem.tail _ ?_))
          | cons a2 w2 =>
            cases hCs with
            | cons _ u hCs' =>
            have hp2 : Plain a2 := hpl a2 (by rw [ew]; simp)
            have hlL : ∀ b ∈ w2 ++ 34 :: rest, b < 128 := by
              intro b hb
              rcases List.mem_append.mp hb with hb | hb
              · exact hall b (by rw [ew]; simp [hb])
              · rcases List.mem_cons.mp hb with rfl | hb
                · decide
                · exact hall b (List.mem_append_right _ hb)
            have hnL : (w2 ++ 34 :: rest).length ≤ 1000 := by
              simp only [List.length_append, List.length_cons] at hlen2 ⊢; omega
            have q1 := pl_ws hp2
            have q2 := pl_q hp2; have q3 := pl_b hp2
            simp only [List.length_cons] at ek2
            have w1l : w1.length ≤ 900 := by simp only [List.length_cons] at hlen2; omega
            refine' next_item (Z := ⟨x, d, lp, x0, d0, lp0, f, c, D, cell, ⟨fcl, fod, .func ffd, fsl⟩, oc, co, z1, z2, z3, z4, tw, j1, j2, j3, j4, j5, jn, jw⟩) (news := news) (I := I) (q := q) (t := tq) ?kB ?kF ?kX ?kT ?kK ?kN ?kok ?kC ?ka ?kl ?kn ?kd ?ku ?_
            case kB => k_asm
            case kF => k_asm
            case kX => k_asm
            case kT => k_asm
            case kK => exact rfl
            case kN => exact Ns
            case kok => exact okI
            case kC => exact hCs'
            case ka => exact hp2.1
            case kl => exact hlL
            case kn => exact hnL
            case kd => walk_at "mine room"
            case ku => walk_at "mine room"
            intro h5 tk5 tn5 F5 N5
            rw [if_neg hp2.2.1] at N5
            dsimp only [OwitTurn, lexL] at N5 ⊢
            clear Fs Ns
            k_steps
            refine hR2 w2.length _ (by omega) ⟨w1 ++ [a2], w2, by simp [ew], rfl, ?st2b⟩
            refine' ⟨_, _, _, _, _, _, _, rfl, frB ?F, ?N, hCs'⟩
            case F => assumption
            case N => assumption
      · obtain ⟨a1', wd', ewd⟩ : ∃ a1 wd', wd = a1 :: wd' := by
          cases wd with
          | nil => exact absurd rfl hne
          | cons a b => exact ⟨a, b, rfl⟩
        rw [ewd] at hCs
        simp only [List.replicate_zero, List.nil_append, bodyT, List.cons_append, List.append_assoc] at hCs
        cases hCs with
        | cons _ u hCs2 =>
        cases hCs2 with
        | cons _ u2 hCs' =>
        have hpa : Plain a1' := hpl a1' (by rw [ewd]; simp)
        have hC2 := CharsAre.cons a1' u2 hCs'
        have hlL0 : ∀ b ∈ wd' ++ 10 :: rest, b < 128 := ext_ok (tl_ok (ewd ▸ hall)) (by decide)
        have hnL0 : (wd' ++ 10 :: rest).length ≤ 1000 := Nat.le_trans (ext_len (tl_len (ewd ▸ hlen))) (by decide)
        have hlL : ∀ b ∈ a1' :: (wd' ++ 10 :: rest), b < 128 := List.forall_mem_cons.mpr ⟨hpa.1, hlL0⟩
        have hnL : (a1' :: (wd' ++ 10 :: rest)).length ≤ 1000 := by have := ext_len (c := 10) (tl_len (ewd ▸ hlen)); rw [List.length_cons]; omega
        refine' next_item (Z := ⟨x, d, lp, x0, d0, lp0, f, c, D, cell, ⟨fcl, fod, .func ffd, fsl⟩, oc, co, z1, z2, z3, z4, tw, j1, j2, j3, j4, j5, jn, jw⟩) (news := news) (I := I) (q := q) (t := tq) ?kB ?kF ?kX ?kT ?kK ?kN ?kok ?kC ?ka ?kl ?kn ?kd ?ku ?_
        case kB => k_asm
        case kF => k_asm
        case kX => k_asm
        case kT => k_asm
        case kK => exact rfl
        case kN => exact Ns
        case kok => exact okI
        case kC => exact hC2
        case ka => decide
        case kl => exact hlL
        case kn => exact hnL
        case kd => walk_at "mine room"
        case ku => walk_at "mine room"
        intro h5 tk5 tn5 F5 N5
        rw [if_neg (by decide)] at N5
        dsimp only [OwitTurn, lexL] at N5 ⊢
        clear Fs Ns
        k_steps
        dsimp only [List.cons_append, List.nil_append]
        (refine' con_use ?k1 ?k2 ?k3 ?k4 ?k5 ?kK ?kC ?kd ?ku ?_; (case k1 => k_asm); (case k2 => k_asm); (case k3 => k_asm); (case k4 => k_asm); (case k5 => k_asm); (case kK => first | exact rfl | assumption); (case kC => exact con_of (rc_cons w ⟨x, d, lp, x0, d0, lp0, f, c, D, cell, ⟨fcl, fod, .func ffd, fsl⟩, oc, co, z1, z2, z3, z4, tw, j1, j2, j3, j4, j5, jn, jw⟩ _ _ _ _ _ _ _ _ okI hCs' hpa.1 hlL0 hnL0)); (case kd => walk_at "mine room"); (case ku => walk_at "mine room"); intro r9 ns9 h9 tk9 F9 N9 p9; obtain ⟨e9, tn9, e9b⟩ := p9; subst e9 e9b; (try dsimp only))
        rw [if_neg hpa.2.1] at N9
        dsimp only [lexL] at N9
        k_steps
        rename Fr _ _ _ _ => FC
        rename News _ _ _ _ => NC
        refine CiAt.goM FC (fun mm k s' => ∃ w1 w2, wd = w1 ++ w2 ∧ w2.length = k ∧ LpSt g' L' mm s w1 (fun ln tn vs n => getL w ⟨x, d, lp, x0, d0, lp0, f, c, D, cell, ⟨fcl, fod, .func ffd, fsl⟩, oc, co, z1, z2, z3, z4, tw, j1, j2, j3, j4, j5, jn, jw⟩ ln tn vs n I q tq news) (w2 ++ 10 :: rest) (ln + sk) s') _ ?boundc ⟨[a1'], wd', ewd, rfl, LpSt.init FC rfl rfl (news_sub NC (by intro p hp; exact hp)) (by first | assumption | simpa using ‹CharsAre _ _›)⟩ ?step2c
        case boundc => (try rw [ewd] at hwl); (try simp only [List.length_cons] at hwl); omega
        case step2c =>
          clear FC NC
          rintro R2 k2 s3 hR2 ⟨w1, w2, ew, ek2, h, tk, cv, t, tn, vs, n, rfl, Fs, Ns, hCs⟩
          have hlen2 : w1.length + w2.length + rest.length ≤ 900 := by rw [ew] at hlen; simpa [Nat.add_assoc] using hlen
          cases w2 with
          | nil =>
            cases hCs with
            | cons _ u hCs' =>
            have hlL : ∀ b ∈ rest, b < 128 := fun b hb => hall b (List.mem_append_right _ hb)
            have hnL : rest.length ≤ 1000 := by omega
            refine' next_item (Z := ⟨x, d, lp, x0, d0, lp0, f, c, D, cell, ⟨fcl, fod, .func ffd, fsl⟩, oc, co, z1, z2, z3, z4, tw, j1, j2, j3, j4, j5, jn, jw⟩) (news := news) (I := I) (q := q) (t := tq) ?kB ?kF ?kX ?kT ?kK ?kN ?kok ?kC ?ka ?kl ?kn ?kd ?ku ?_
            case kB => k_asm
            case kF => k_asm
            case kX => k_asm
            case kT => k_asm
            case kK => exact rfl
            case kN => exact Ns
            case kok => exact okI
            case kC => exact hCs'
            case ka => decide
            case kl => exact hlL
            case kn => exact hnL
            case kd => walk_at "mine room"
            case ku => walk_at "mine room"
            intro h5 tk5 tn5 F5 N5
            rw [if_pos rfl] at N5
            dsimp only [OwitTurn, lexL] at N5 ⊢
            clear Fs Ns
            k_steps
            obtain rfl : wd = w1 := by simpa using ew
            refine hret _ _ _ _ (by k_asm) (news_sub (by k_asm) ?_) ⟨_, tn5, _, n + 1, hCs', rfl, rfl⟩
            (repeat (refine subC (by k_mem) ?_)); intro p hp; (repeat (first | exact hp | refine List.Mem.tail _ ?_))
          | cons a2 w2 =>
            cases hCs with
            | cons _ u hCs' =>
            have hp2 : Plain a2 := hpl a2 (by rw [ew]; simp)
            have hlL : ∀ b ∈ w2 ++ 10 :: rest, b < 128 := by
              intro b hb
              rcases List.mem_append.mp hb with hb | hb
              · exact hall b (by rw [ew]; simp [hb])
              · rcases List.mem_cons.mp hb with rfl | hb
                · decide
                · exact hall b (List.mem_append_right _ hb)
            have hnL : (w2 ++ 10 :: rest).length ≤ 1000 := by
              simp only [List.length_append, List.length_cons] at hlen2 ⊢; omega
            have q1 := pl_ws hp2
            have q3 := pl_b hp2
            simp only [List.length_cons] at ek2
            have w1l : w1.length ≤ 900 := by simp only [List.length_cons] at hlen2; omega
            refine' next_item (Z := ⟨x, d, lp, x0, d0, lp0, f, c, D, cell, ⟨fcl, fod, .func ffd, fsl⟩, oc, co, z1, z2, z3, z4, tw, j1, j2, j3, j4, j5, jn, jw⟩) (news := news) (I := I) (q := q) (t := tq) ?kB ?kF ?kX ?kT ?kK ?kN ?kok ?kC ?ka ?kl ?kn ?kd ?ku ?_
            case kB => k_asm
            case kF => k_asm
            case kX => k_asm
            case kT => k_asm
            case kK => exact rfl
            case kN => exact Ns
            case kok => exact okI
            case kC => exact hCs'
            case ka => exact hp2.1
            case kl => exact hlL
            case kn => exact hnL
            case kd => walk_at "mine room"
            case ku => walk_at "mine room"
            intro h5 tk5 tn5 F5 N5
            rw [if_neg hp2.2.1] at N5
            dsimp only [OwitTurn, lexL] at N5 ⊢
            clear Fs Ns
            k_steps
            refine hR2 w2.length _ (by omega) ⟨w1 ++ [a2], w2, by simp [ew], rfl, ?st2c⟩
            refine' ⟨_, _, _, _, _, _, _, rfl, frB ?F, ?N, hCs'⟩
            case F => assumption
            case N => assumption

theorem get_end (w : World) (Z : LexA) (ln : Int) (tn : Tok) (vs : List Value) (n : Nat) (news : Led) (ok : LexOk w Z news) (sk : Nat) (hC : CharsAre vs (List.replicate sk 10)) (hsk : sk < 60) (hno : ∀ p ∈ news, p.1 < Z.cell) :
    Con w 140 20 [.ref Z.x] (lexL w Z ln tn vs n news) (fun r ns => ∃ t, r = .str (S []) t ∧ ns = news) := by
  obtain ⟨x, d, lp, x0, d0, lp0, f, c, D, cell, fo, oc, co, z1, z2, z3, z4, tw, j1, j2, j3, j4, j5, jn, jw⟩ := Z
  have ok0 := ok
  obtain ⟨hr, a1, a2, a3, a4, a5, a6, a7, a8, off, fcl, fod, ffd, fsl, efo⟩ := ok
  dsimp only at hr a1 a2 a3 a4 a5 a6 a7 a8 off efo
  subst efo
  dsimp only [lexL]
  unfold Con
  k_fill
  intro dp un gd cn cs a ccd cl outer A₀ base h₀ L m s Q E mean mg mb B F X N T hk hdp hu hret
  refine wpAny_call ?_
  k_dflt (refine' code_def ?k1 ?k2 ?k3 ?k4 ?k5 ?kA ?kF ?kK ?k6 ?k7 ?k8 ?k9 ?kB ?_ ?c2 ?c3 ?c4 ?c5; (case kA => exact rfl); (case kF => exact rfl); (case kK => first | exact rfl | assumption); (case k1 => k_asm); (case k2 => k_asm); (case k3 => k_asm); (case k4 => k_asm); (case k5 => k_asm); (case k6 => k_is); (case k7 => k_is); (case k8 => ktr_room); (case k9 => exact BindsTo.of_eq rfl); (case c5 => decide); (case kB => exact locs rfl); (case c2 => exact rfl); (case c3 => exact rfl); (case c4 => exact rfl); k_whole; intro g' L' h' FG' F' N' B' X' T'; (try dsimp only); (try k_lift B'); (try k_fold))
  k_steps
  rename_i tkA hA q hB lq I hC9 lI h4 F4 N4
  generalize tkA + 1 + 1 + 1 = tq at N4
  have okI : LexOk w ⟨x, d, lp, x0, d0, lp0, f, c, D, cell, ⟨fcl, fod, .func ffd, fsl⟩, oc, co, z1, z2, z3, z4, tw, j1, j2, j3, j4, j5, jn, jw⟩ ((I, itO q tq) :: (q, methodObj (.ref 133) (.ref x)) :: news) := lexOk_more ok0 lI.2.2.1 lI.2.1 lq.2.1 lq.1
  refine CiAt.goM F4 (fun mm k s' => ∃ ln', LpSt g' L' mm s [] (fun ln tn vs n => getL w ⟨x, d, lp, x0, d0, lp0, f, c, D, cell, ⟨fcl, fod, .func ffd, fsl⟩, oc, co, z1, z2, z3, z4, tw, j1, j2, j3, j4, j5, jn, jw⟩ ln tn vs n I q tq news) (List.replicate k 10) ln' s' ∧ k ≤ sk) sk (by omega) ?init ?step
  case init =>
    refine ⟨ln, LpSt.init (tn := tn) (n := n) (vs := vs) F4 rfl lit_e (news_sub N4 ?_) hC, Nat.le_refl _⟩
    · (repeat (refine subC (by k_mem) ?_)); intro p hp; (repeat (first | exact hp | refine List.Mem.tail _ ?_))
  case step =>
    clear F4 N4
    rintro R k s2 hR ⟨ln', ⟨h, tk, cv, t, tn, vs, n, rfl, Fs, Ns, hCs⟩, ekk⟩
    cases k with
    | succ k =>
      rw [List.replicate_succ] at hCs
      cases hCs with
      | cons _ u hCs' =>
      have hlL : ∀ b ∈ List.replicate k 10, b < 128 := fun b hb => by rw [(List.mem_replicate.mp hb).2]; decide
      have hnL : (List.replicate k 10).length ≤ 1000 := by rw [List.length_replicate]; omega
      refine' next_item (Z := ⟨x, d, lp, x0, d0, lp0, f, c, D, cell, ⟨fcl, fod, .func ffd, fsl⟩, oc, co, z1, z2, z3, z4, tw, j1, j2, j3, j4, j5, jn, jw⟩) (news := news) (I := I) (q := q) (t := tq) ?kB ?kF ?kX ?kT ?kK ?kN ?kok ?kC ?ka ?kl ?kn ?kd ?ku ?_
      case kB => k_asm
      case kF => k_asm
      case kX => k_asm
      case kT => k_asm
      case kK => exact rfl
      case kN => exact Ns
      case kok => exact okI
      case kC => exact hCs'
      case ka => decide
      case kl => exact hlL
      case kn => exact hnL
      case kd => walk_at "mine room"
      case ku => walk_at "mine room"
      intro h5 tk5 tn5 F5 N5
      rw [if_pos rfl] at N5
      dsimp only [OwitTurn, lexL] at N5 ⊢
      clear Fs Ns
      k_steps
      refine hR k _ (Nat.lt_succ_self k) ⟨ln' + 1, ?st, by omega⟩
      refine' ⟨_, _, _, _, _, _, _, rfl, frA ?F tok_ne_ch, ?N, hCs'⟩
      case F => assumption
      case N => assumption
    | zero =>
      cases hCs with
      | nil =>
      refine' next_end (Z := ⟨x, d, lp, x0, d0, lp0, f, c, D, cell, ⟨fcl, fod, .func ffd, fsl⟩, oc, co, z1, z2, z3, z4, tw, j1, j2, j3, j4, j5, jn, jw⟩) (news := news) (I := I) (q := q) (t := tq) (ln := ln') (tn := tn) (n := n) ?kB ?kF ?kX ?kT ?kK ?kN ?kok ?kI ?kd ?ku ?_
      case kB => k_asm
      case kF => k_asm
      case kX => k_asm
      case kT => k_asm
      case kK => exact rfl
      case kN => exact Ns
      case kok => exact okI
      case kI => exact ⟨not_in lI.1 lI.2.2.2.2.2.2.2.2.2.2, lI.2.2.2.2.1⟩
      case kd => walk_at "mine room"
      case ku => walk_at "mine room"
      intro h5 tk5 F5 N5
      dsimp only [OwitTurn, lexL] at N5 ⊢
      clear Fs Ns
      k_steps
      refine hret _ _ _ _ (by k_asm) (news_sub (by k_asm) ?_) ⟨_, rfl, rfl⟩
      intro p hp
      (repeat (first | exact hp | refine List.Mem.tail _ ?_))
end
section
open PySem PySem.W PySem.Calls PyProof.Rows
set_option linter.unusedVariables false
set_option linter.unusedSimpArgs false
set_option maxRecDepth 100000
set_option maxHeartbeats 4000000
section
variable {prog : Program} {w : World} {A : Around} {E : Value → Shared → Prop} {s : Shared} {env : Env} {h₀ : Heap} {L : Addr} {m : PySem.Str → Option Value} {news : Led}
noncomputable def WhS (prog : Program) (w : World) (A : Around) (E : Value → Shared → Prop) (env : Env) (test : Expr) (body : List Stmt) (pos : Pos) (Q : Flow → Shared → Prop) (s : Shared) : Prop := wpAny (model prog w) A (exec (.While test body [] pos) env) Q E s
theorem WhS.go {test : Expr} {body : List Stmt} {pos : Pos} {Q : Flow → Shared → Prop} (h : WhS prog w A E env test body pos Q s) (_hE : PassesOwn (model prog w) A env E := by passes_own) : wpAny (model prog w) A (exec (.While test body [] pos) env) Q E s := h
theorem WhS.ind {test : Expr} {body : List Stmt} {pos : Pos} {Q : Flow → Shared → Prop} (F : Fr h₀ L s.heap m) (P : (PySem.Str → Option Value) → Nat → Shared → Prop) (k₀ : Nat) (hp : P m k₀ s)
    (step : ∀ (R : Shared → Prop) k s', (∀ j s'', j < k → P m j s'' → R s'') → P m k s' →
      wpAny (model prog w) A (isTrue test env (eval test env)) (fun b s₂ => if b = true then wpAny (model prog w) A (execs body env) (OwitFlow Q R) E s₂ else Q .next s₂) E s')
    (hE : PassesOwn (model prog w) A env E := by passes_own) : WhS prog w A E env test body pos Q s := by
  unfold WhS
  refine wpAny_While (codeAny_whileLoop (fun k s' => P m k s') ?_ k₀ hp)
  intro k s' hk
  refine wpAny_mono (step (fun s'' => ∃ j, j < k ∧ P m j s'') k s' (fun j s'' hj hp => ⟨j, hj, hp⟩) hk) (fun b s₂ h₂ => ?_) hE
  cases b with
  | false =>
    simp only [Bool.false_eq_true, if_false] at h₂ ⊢
    exact wpAny_execs_nil h₂
  | true =>
    simp only [if_true] at h₂ ⊢
    refine wpAny_mono h₂ (fun f s₃ h₃ => ?_) hE
    cases f with
    | next => exact h₃
    | cont => exact h₃
    | brk => exact h₃
    | ret v => exact h₃
/-- the calls, worked off on a stack -/
noncomputable def runF (ns : List Int) : Nat → List Nat → Nat → List (List Nat) → Option (List (List Nat) × Nat)
  | _, [], q, notes => some (notes, q)
  | 0, _ :: _, _, _ => none
  | k + 1, c :: st, q, notes => runF ns k (lets (ns.getD (2 * q + (c - 97)) 0) ++ st) (nxt (ns.getD (2 * q + (c - 97)) 0)) (notes ++ [List.replicate st.length 32 ++ lineL q (c - 97)])
theorem len_strsN {D : Addr} {lst : List (PySem.Str × Tok)} {n k : Nat} {Q : Value → Shared → Prop} (N : News h₀ L s.heap news) (hm : (D, W.listOf (strValues lst).toArray n) ∈ news) (hk : lst.length = k) (hz : k ≤ 1000)
    (h : Q (.int (k : Int) (s.toks + 1)) { s with toks := s.toks + 1 + 1 }) : wpAny (model prog w) A (call (.builtin "len") [.ref D]) Q E s := by
  have e : (strValues lst).toArray.size = k := by simp [strValues, hk]
  refine Calls.call_len_list (News.isList N hm) (by rw [e]; omega) ?_
  rw [e]; exact h
theorem slice_top (c : Nat) (r : List Nat) (hr : r ≠ []) : Txt.slice (S (c :: r)) none (some (-(r.length : Int))) = S [c] := by
  have hp : 0 < r.length := List.length_pos_iff.mpr hr
  have e1 : (S (c :: r)).length = r.length + 1 := by rw [S_len]; rfl
  have := StrLaws.sliceText_to_neg (x := S (c :: r)) (j := -(r.length : Int)) (by omega) (by rw [e1]; omega)
  refine Eq.trans this ?_
  have e2 : (-(r.length : Int) + ((S (c :: r)).length : Int) - 0).toNat = 1 := by rw [e1]; omega
  rw [e2]
  simp [S]
theorem slice_eq_ns {value slice : PySem.Expr} {x y : PySem.Str} {t : Tok} {j : Int} {uj : Tok} {Q : Value → Shared → Prop} (e : Txt.slice x none (some j) = y) (hF : Fr h₀ L s.heap m) (hN : News h₀ L s.heap news) (h : ∀ h' t' k, Fr h₀ L h' m → News h₀ L h' news → Q (.str y t') { s with heap := h', toks := k })
    (hsz : x.length ≤ 1000000)
    (hs : subscripted slice false (.str x t) (.ref s.heap.objs.size) = operate [.ref s.heap.objs.size, .str x t] (getItem (.str x t) (.ref s.heap.objs.size)) := by with_unfolding_all rfl)
    (ht : ∀ r, letTemporaryGo value (.str x t) r = pure () := by intro _; with_unfolding_all rfl) :
    wpAny (model prog w) A (subscriptTail value slice (.str x t) (.ref s.heap.objs.size)) Q E { s with heap := s.heap.push { cls := .type "slice", data := .fields #[.none, .int j uj, .none] } } := by
  subst e
  exact slice_strN_ns hF hN h hs ht (by
    have e : sizeLine = 16777216 := by decide
    rw [e]; omega)
theorem count_dot {x y : PySem.Str} {st : List Nat} {k : Int} {t u : Tok} {Q : Value → Shared → Prop} (hx : x = S (hostL st)) (hy : y = S [46]) (ok : okSt st) (hk : k = st.length + 1) (h : Q (.int k s.toks) { s with toks := s.toks + 1 }) :
    wpAny (model prog w) A (call (.builtin "str.count") [.str x t, .str y u]) Q E s := by
  subst hx hy hk
  refine SC.count ?_
  rw [count_list, count_host st ok]
  exact h
theorem lit_dot : PySem.Str.ofString "." = S [46] := by decide +kernel
theorem str_mulZ {z : Int} {k : Nat} {t u : Tok} {Q : Value → Shared → Prop} (hz : z = k) (h : k ≤ 1000) (hq : ∀ t' n, Q (.str (S (List.replicate k 32)) t') { s with toks := n }) :
    wpAny (model prog w) A (binaryOp .Mult (.str (PySem.Str.ofString " ") t) (.int z u)) Q E s := by subst hz; exact str_mul' h hq
theorem tosZ {z : Int} {q : Nat} (hz : z = q) (h : q < 2) : PySem.Str.ofString (toString z) = S [48 + q] := by subst hz; exact tos h
theorem int_digit {q : Nat} {t : Tok} {Q : Value → Shared → Prop} (h : q < 2) (hq : Q (.int (q : Int) s.toks) { s with toks := s.toks + 1 }) : wpAny (model prog w) A (call (.type "int") [.str (S [48 + q]) t]) Q E s := by
  have : q = 0 ∨ q = 1 := by omega
  rcases this with rfl | rfl
  · exact PySem.W.KIN.call_text (by decide +kernel) (by rw [S_len]; decide) hq
  · exact PySem.W.KIN.call_text (by decide +kernel) (by rw [S_len]; decide) hq
theorem chars_add {a b : Addr} {ys : List Value} {x : PySem.Str} {t : Tok} {n1 n2 : Nat} {Q : Value → Shared → Prop} (F : Fr h₀ L s.heap m) (N : News h₀ L s.heap news) (ha : (a, W.listOf ys.toArray n1) ∈ news) (hb : (b, W.listOf #[.str x t] n2) ∈ news) (hz : ys.length ≤ 1000)
    (h : ∀ D h', Fr h₀ L h' m → News h₀ L h' ((D, W.listOf (ys ++ [Value.str x t]).toArray 0) :: news) → (∀ p ∈ news, p.1 < D) → Q (.ref D) { s with heap := h' }) : wpAny (model prog w) A (binaryOp .Add (.ref a) (.ref b)) Q E s :=
  kmk_add_lit F N (News.isList N ha) (News.isList N hb) (zs := ys ++ [.str x t]) rfl h (by
    have e : sizeLine = 16777216 := by decide
    rw [e]; simp; omega)
theorem strs_of_chars {ys : List Value} {l : List Nat} (h : CharsAre ys l) (x : List Nat) (t : Tok) : StrsAre (ys ++ [.str (S x) t]) ((l.map fun c => S [c]) ++ [S x]) := by
  induction h with
  | nil => exact .cons _ _ .nil
  | cons c u _ ih => exact .cons _ _ ih
theorem hostL_app : ∀ (l st : List Nat), PySem.Str.join (S [46]) ((l.map fun c => S [c]) ++ [S (hostL st)]) = S (hostL (l ++ st))
  | [], st => rfl
  | [c], st => by
    have e : PySem.Str.join (S [46]) ([S [c]] ++ [S (hostL st)]) = S [c] ++ S [46] ++ S (hostL st) := rfl
    simp only [List.map_cons, List.map_nil]
    rw [e, S_append, S_append]; rfl
  | c :: d :: r, st => by
    have ih := hostL_app (d :: r) st
    have e : PySem.Str.join (S [46]) (((c :: d :: r).map fun c => S [c]) ++ [S (hostL st)]) = S [c] ++ S [46] ++ PySem.Str.join (S [46]) (((d :: r).map fun c => S [c]) ++ [S (hostL st)]) := rfl
    rw [e, ih, S_append, S_append]; rfl
theorem join_host {D : Addr} {ys : List Value} {l st : List Nat} {u t : Tok} {n : Nat} {Q : Value → Shared → Prop} (N : News h₀ L s.heap news) (hm : (D, W.listOf (ys ++ [Value.str (S (hostL st)) u]).toArray n) ∈ news) (hc : CharsAre ys l) (hl : l.length ≤ 100) (hs : st.length ≤ 100)
    (h : ∀ t k, Q (.str (S (hostL (l ++ st))) t) { s with toks := k }) : wpAny (model prog w) A (call (.builtin "str.join") [.str (PySem.Str.ofString ".") t, .ref D]) Q E s := by
  rw [lit_dot]
  refine join_listW (News.isList N hm) (strs_of_chars hc (hostL st) u) (by rw [S_len]; decide) ?_ (fun t k => ?_)
  · have : ∀ l : List Nat, (((l.map fun c => S [c]) ++ [S (hostL st)]).map (·.length)).sum = l.length + (hostL st).length := by
      intro l
      induction l with
      | nil => simp [S_len]
      | cons a r ih => simp only [List.map_cons, List.cons_append, List.sum_cons, ih, S_len, List.length_cons, List.length_nil]; omega
    rw [this, hostL_len]
    simp; omega
  · have : Txt.join (S [46]) ((l.map fun c => S [c]) ++ [S (hostL st)]) = S (hostL (l ++ st)) := by
      unfold Txt.join
      rw [StrLaws.glued_eq_join]
      exact hostL_app l st
    rw [this]; exact h t k
theorem fold5 {a b c d e : PySem.Str} {va vb vc vd ve wa wb wc wd we : Option Value} {m : PySem.Str → Option Value} (F : Fr h₀ L s.heap (fun y => if y = a then va else if y = b then vb else if y = c then vc else if y = d then vd else if y = e then ve else
    if y = a then wa else if y = b then wb else if y = c then wc else if y = d then wd else if y = e then we else m y)) :
    Fr h₀ L s.heap (fun y => if y = a then va else if y = b then vb else if y = c then vc else if y = d then vd else if y = e then ve else m y) := by
  have q : (fun y => if y = a then va else if y = b then vb else if y = c then vc else if y = d then vd else if y = e then ve else
    if y = a then wa else if y = b then wb else if y = c then wc else if y = d then wd else if y = e then we else m y) = (fun y => if y = a then va else if y = b then vb else if y = c then vc else if y = d then vd else if y = e then ve else m y) := by
    funext y
    by_cases h1 : y = a
    · simp only [if_pos h1]
    simp only [if_neg h1]
    by_cases h2 : y = b
    · simp only [if_pos h2]
    simp only [if_neg h2]
    by_cases h3 : y = c
    · simp only [if_pos h3]
    simp only [if_neg h3]
    by_cases h4 : y = d
    · simp only [if_pos h4]
    simp only [if_neg h4]
    by_cases h5 : y = e
    · simp only [if_pos h5]
    simp only [if_neg h5]
  exact q ▸ F
theorem init5 {a b c d e : PySem.Str} {va vb : Option Value} {m : PySem.Str → Option Value} (F : Fr h₀ L s.heap m) (ha : m a = va) (hb : m b = vb) :
    Fr h₀ L s.heap (fun y => if y = a then va else if y = b then vb else if y = c then m c else if y = d then m d else if y = e then m e else m y) := by
  have q : (fun y => if y = a then va else if y = b then vb else if y = c then m c else if y = d then m d else if y = e then m e else m y) = m := by
    funext y
    by_cases h1 : y = a
    · simp only [if_pos h1]; rw [h1, ha]
    simp only [if_neg h1]
    by_cases h2 : y = b
    · simp only [if_pos h2]; rw [h2, hb]
    simp only [if_neg h2]
    by_cases h3 : y = c
    · simp only [if_pos h3]; rw [h3]
    simp only [if_neg h3]
    by_cases h4 : y = d
    · simp only [if_pos h4]; rw [h4]
    simp only [if_neg h4]
    by_cases h5 : y = e
    · simp only [if_pos h5]; rw [h5]
    simp only [if_neg h5]
  exact q.symm ▸ F
theorem item0_eq (c : Nat) (r : List Nat) : Txt.item (S (c :: r)) 0 = S [c] := by
  simp [Txt.item, S, Txt.charAt, seqIndex?, PySem.Str.length]
theorem item0 {value slice : PySem.Expr} {x : List Nat} {c : Nat} {r : List Nat} {t u : Tok} {Q : Value → Shared → Prop} (hx : x = c :: r) (h : Q (.str (S [c]) s.toks) { s with toks := s.toks + 1 })
    (hs : subscripted slice false (.str (S x) t) (.int 0 u) = operate [.str (S x) t, .int 0 u] (getItem (.str (S x) t) (.int 0 u)) := by with_unfolding_all rfl)
    (ht : ∀ r, letTemporaryGo value (.str (S x) t) r = pure () := by intro _; with_unfolding_all rfl) : wpAny (model prog w) A (subscriptTail value slice (.str (S x) t) (.int 0 u)) Q E s := by
  subst hx
  exact item_str (by decide) (by omega) (by rw [S_len]; simp <;> omega) (fun _ => by rw [item0_eq]; exact h) hs ht
end
end
section
open PySem PySem.W PySem.Calls PyProof.Rows
set_option linter.unusedVariables false
set_option linter.unusedSimpArgs false
set_option maxRecDepth 100000
set_option maxHeartbeats 4000000

/-- the exception `e` with its dict `d`; `fl`: its trail -/
noncomputable def TrD (h base : Heap) (e : Addr) (cls : Value) (d : Addr) (fl : Option Value) : Prop :=
  ∃ oe vs, h.get? e = some oe ∧ oe.cls = cls ∧ oe.dict = some d ∧ oe.data = .fields vs ∧ 1 < vs.size ∧
    match fl with
    | none => vs[1]? = some .none
    | some x => ∃ T oT ts, vs[1]? = some (.ref T) ∧ base.get? T = none ∧ T ≠ e ∧ h.get? T = some oT ∧ oT.data = .fields ts ∧ ts[3]? = some x
structure FlD (base : Heap) (l : List Env) (e : Addr) (cls : Value) (d : Addr) (fl : Option Value) (h : Heap) : Prop where
  stays : base.StaysIn h
  new : base.get? e = none
  frames : h.FunFrames base l
  tr : TrD h base e cls d fl
section
variable {M : Model} {A : Around} {E : Value → Shared → Prop} {s : Shared} {base : Heap} {env : Env} {outer l : List Env} {L e d : Addr} {cls : Value} {fl : Option Value} {Q : Unit → Shared → Prop}
theorem upd_other {h : Heap} {a : Addr} {f : Obj → Obj} {b : Addr} (hb : b ≠ a) : (h.update a f).get? b = h.get? b := Heap.get?_update_other _ _ (Ne.symm hb)
theorem fields_apart {h : Heap} {a b : Addr} {o oa : Obj} {vs : Array Value} (ha : h.get? a = some oa) (hd : oa.data = .fields vs) (hb : h.get? b = some o) (hn : ∀ vs, o.data ≠ .fields vs) : b ≠ a := fun q => by
  subst q; rw [ha] at hb; cases hb; exact hn vs hd
theorem base_apart {h : Heap} {a b : Addr} {o : Obj} (hn : h.get? a = none) (hb : h.get? b = some o) : b ≠ a := fun q => by
  subst q; rw [hn] at hb; cases hb
/-- a new entry in the trail -/
theorem entryD {head : Value} {hadNext : Bool} (hfr : A.frames = some (env :: outer)) (hf : env.frame = some L) (x : FlD base (env :: outer) e cls d fl s.heap)
    (h : ∀ h', FlD base (env :: outer) e cls d (some (rawInt L)) h' → s.heap.UpToSlots h' → Q () { s with heap := h' }) :
    wpAny M A (do let a ← frameOf env; let pl ← entryPlaceOf L hadNext; let b ← EntryCells.newEntry head a .none (rawInt L) .none pl; setField (.ref e) 1 b) Q E s := by
  obtain ⟨hkb, hen, hl, oe, vs, he, hc, hdi, hd, hsz, -⟩ := x
  have hene : e ∉ (env :: outer).filterMap (·.frame) := fun hm => by
    obtain ⟨_, o, ho, hnf⟩ := hl.mem hm
    rw [he] at ho; cases ho; exact hnf vs hd
  refine wpAny_bind (wpAny_frameOf_fun hfr hl hf fun h₁ hs₁ => wpAny_bind (wpAny_entryPlaceOf fun pl hpl => ?_))
  have he₁ : h₁.get? e = some oe := (hs₁.2.1 e hene).trans he
  have kb₁ : base.StaysIn h₁ := fun b o hb => (hs₁.2.1 b fun hm => by rw [(hl.mem hm).1] at hb; cases hb).trans (hkb b o hb)
  unfold EntryCells.newEntry newFields
  refine wpAny_bind (wpAny_newObj_type ?_ (hpl.sizeOk5 _ _ _ _ _))
  generalize hob : ({ cls := .type "traceback", dict := none, data := .fields ([head, .ref L, .none, rawInt L, .none] ++ (if pl.isEmpty then List.replicate 6 Value.none else pl)).toArray } : Obj) = ob
  have obd : ob.data = .fields ([head, .ref L, .none, rawInt L, .none] ++ (if pl.isEmpty then List.replicate 6 Value.none else pl)).toArray := by rw [← hob]
  have obf : ob.isFreed = false := by rw [← hob]; rfl
  have he₂ := Heap.get?_push_of_some (h := h₁) ob he₁
  have hTe : h₁.objs.size ≠ e := Nat.ne_of_gt (Heap.lt_size he₁)
  refine wpAny_setField he₂ hd hsz (h _ ?_ ?_)
  · have hd₃ := Obj.data_mapFields hd (·.setIfInBounds 1 (Value.ref h₁.objs.size))
    have keep : ∀ b o, b ≠ e → h₁.get? b = some o → ((h₁.push ob).update e (Obj.mapFields (·.setIfInBounds 1 (Value.ref h₁.objs.size)))).get? b = some o :=
      fun b o hbe hb => (upd_other hbe).trans (Heap.get?_push_of_some _ hb)
    refine ⟨fun b o hb => keep b o (base_apart hen hb) (kb₁ b o hb), hen, hl.of_keeps fun b o hb hnf => ?_, ?_⟩
    · obtain ⟨sl, hs⟩ := hs₁.2.2 b o hb
      exact ⟨_, keep b _ (fields_apart he hd hb hnf) hs, rfl⟩
    · refine ⟨_, _, Heap.get?_update_self _ he₂ (Obj.isFreed_of_fields hd₃), (Obj.cls_mapFields _ _).trans hc, ?_, hd₃, by simpa using hsz, h₁.objs.size, ob, _, by simp [hsz], kb₁.fresh, hTe, (upd_other hTe).trans (Heap.get?_push_size h₁ obf), obd, by simp⟩
      obtain ⟨_, _, dat, _⟩ := oe
      cases dat <;> exact hdi
  · intro b o hb hnf
    obtain ⟨sl, hs⟩ := hs₁.2.2 b o hb
    exact ⟨sl, (upd_other (fields_apart he hd hb hnf)).trans (Heap.get?_push_of_some _ hs)⟩
theorem noteD (hfr : A.frames = some (env :: outer)) (hf : env.frame = some L) (hfl : fl = none ∨ fl = some .none) (x : FlD base (env :: outer) e cls d fl s.heap)
    (h : ∀ h', FlD base (env :: outer) e cls d (some (rawInt L)) h' → s.heap.UpToSlots h' → Q () { s with heap := h' }) : wpAny M A (noteFrame (.ref e) env) Q E s := by
  have x' := x
  obtain ⟨hkb, hen, hl, oe, vs, he, hc, hdi, hd, hsz, ht⟩ := x
  unfold noteFrame
  simp only [hf]
  rcases hfl with rfl | rfl
  · refine wpAny_bind (wpAny_field he hd ht ?_)
    rw [if_neg (by decide)]
    exact entryD hfr hf x' h
  · obtain ⟨T, oT, ts, h1, hnT, hTe, hT, hdT, h3⟩ := ht
    refine wpAny_bind (wpAny_field he hd h1 ?_)
    rw [if_pos (show (Value.ref T != Value.none) = true from by simp)]
    refine wpAny_bind (wpAny_field hT hdT h3 ?_)
    rw [if_neg (show ¬ ((Value.none == rawInt L) = true) from by simp [rawInt])]
    refine wpAny_bind (wpAny_setField hT hdT (Array.getElem?_eq_some_iff.mp h3).1 ?_)
    refine entryD hfr hf (fl := some .none) ⟨fun b o hb => (upd_other (base_apart hnT hb)).trans (hkb b o hb), hen, hl.of_keeps fun b o hb hnf => ⟨o, (upd_other (fields_apart hT hdT hb hnf)).trans hb, rfl⟩, oe, vs, (upd_other (Ne.symm hTe)).trans he, hc, hdi, hd, hsz, T, _, _, h1, hnT, hTe, Heap.get?_update_self _ hT (Obj.isFreed_of_fields (Obj.data_mapFields hdT _)), Obj.data_mapFields hdT _, by simp [(Array.getElem?_eq_some_iff.mp h3).1]⟩
      fun h' y u => h h' y (Heap.UpToSlots.trans (fun b o hb hnf => ⟨o.slots, (upd_other (fields_apart hT hdT hb hnf)).trans hb⟩) u)
theorem flightD {x : Value} (f : FlD base l e cls d (some x) s.heap) (h : ∀ h', FlD base l e cls d (some .none) h' → s.heap.UpToSlots h' → Q () { s with heap := h' }) : wpAny M A (setFlight (.ref e) none) Q E s := by
  obtain ⟨hkb, hen, hl, oe, vs, he, hc, hdi, hd, hsz, T, oT, ts, h1, hnT, hTe, hT, hdT, h3⟩ := f
  unfold setFlight
  refine wpAny_bind (wpAny_field he hd h1 ?_)
  rw [if_pos (show (Value.ref T != Value.none) = true from by simp)]
  refine wpAny_setField hT hdT (Array.getElem?_eq_some_iff.mp h3).1 (h _ ?_ ?_)
  · exact ⟨fun b o hb => (upd_other (base_apart hnT hb)).trans (hkb b o hb), hen, hl.of_keeps fun b o hb hnf => ⟨o, (upd_other (fields_apart hT hdT hb hnf)).trans hb, rfl⟩, oe, vs, (upd_other (Ne.symm hTe)).trans he, hc, hdi, hd, hsz, T, _, _, h1, hnT, hTe, Heap.get?_update_self _ hT (Obj.isFreed_of_fields (Obj.data_mapFields hdT _)), Obj.data_mapFields hdT _, by simp [(Array.getElem?_eq_some_iff.mp h3).1]⟩
  · exact fun b o hb hnf => ⟨o.slots, (upd_other (fields_apart hT hdT hb hnf)).trans hb⟩
theorem FlD.tail {h : Heap} (x : FlD base (env :: outer) e cls d fl h) : FlD base outer e cls d fl h := let ⟨a, b, ⟨_, _, c⟩, t⟩ := x; ⟨a, b, c, t⟩
theorem leavingD (hfr : A.frames = some (env :: outer)) (hf : env.frame = some L) (hfl : fl = none ∨ fl = some .none) (x : FlD base (env :: outer) e cls d fl s.heap)
    (h : ∀ h', FlD base outer e cls d (some .none) h' → s.heap.UpToSlots h' → Q () { s with heap := h' }) : wpAny M A (leaving env (.ref e)) Q E s := by
  unfold leaving
  exact wpAny_bind (noteD hfr hf hfl x fun h₁ y u => flightD y fun h₂ z v => h h₂ z.tail (u.trans v))
theorem FlD.there {h : Heap} (x : FlD base l e cls d fl h) : ∃ oe vs, h.get? e = some oe ∧ oe.cls = cls ∧ oe.dict = some d ∧ oe.data = .fields vs := let ⟨_, _, _, oe, vs, a, b, c, d, _⟩ := x; ⟨oe, vs, a, b, c, d⟩
theorem FlD.of_base {B h : Heap} (k : base.StaysIn B) (x : FlD B l e cls d fl h) : FlD base l e cls d fl h := by
  obtain ⟨a, b, c, oe, vs, he, hc, hdi, hd, hsz, t⟩ := x
  refine ⟨fun b o q => a b o (k b o q), fresh_of_stays k b, funFrames_base k c, oe, vs, he, hc, hdi, hd, hsz, ?_⟩
  cases fl with
  | none => exact t
  | some y =>
    obtain ⟨T, oT, ts, h1, hnT, r⟩ := t
    exact ⟨T, oT, ts, h1, fresh_of_stays k hnT, r⟩
end
/-- what the caller knows of a raised exception -/
noncomputable def RaisedD (base : Heap) (l : List Env) (e : Addr) (cls : Value) (d : Addr) (news : List (Addr × Obj)) (h : Heap) : Prop :=
  ∃ B, base.StaysIn B ∧ (∀ q ∈ news, B.get? q.1 = some q.2 ∧ base.get? q.1 = none) ∧ FlD B l e cls d (some .none) h
section
variable {M : Model} {A : Around} {E : Value → Shared → Prop} {s' : Shared} {base g : Heap} {outer : List Env} {L a e d : Addr} {m : PySem.Str → Option Value} {name : PySem.Str} {scope : Scope} {cd cls : Value} {Q : Unit → Shared → Prop} {news : List (Addr × Obj)}
theorem leaveD {oe : Obj} {vs : Array Value} (K : Below A base outer g) (F : Fr g L s'.heap m) (N : News g L s'.heap news) (he : s'.heap.get? e = some oe) (hc : oe.cls = cls) (hdi : oe.dict = some d) (hd : oe.data = .fields vs) (h1 : vs[1]? = some .none)
    (hge : g.get? e = none) (hne : ∀ q ∈ news, q.1 ≠ e)
    (hQ : ∀ h', RaisedD base outer e cls d news h' → g.UpToSlots h' → Q () { s' with heap := h' }) (hk : scope.kind = .function := by rfl) :
    wpAny M (A.deeper (envOf name scope L a cd)) (leaving (envOf name scope L a cd) (.ref e)) Q E s' := by
  have K' := K.push (name := name) (a := a) (cd := cd) F hk
  have hbe : base.get? e = none := fresh_of_stays K.stays hge
  have off : ∀ {b : Addr}, b ≠ e → b ∉ (envOf name scope L a cd :: outer).filterMap (·.frame) → b ∉ e :: (envOf name scope L a cd :: outer).filterMap (·.frame) := fun h1 h2 q => by
    rcases List.mem_cons.mp q with q | q
    · exact h1 q
    · exact h2 q
  have st : base.StaysIn (hideAll s'.heap (e :: (envOf name scope L a cd :: outer).filterMap (·.frame))) := fun b o q =>
    hideAll_get _ (K'.stays b o q) (off (base_apart hbe q) fun hm => by rw [(K'.frames.mem hm).1] at q; cases q)
  have hin : ∀ env ∈ (envOf name scope L a cd :: outer), ∀ b, env.frame = some b → b ∈ e :: (envOf name scope L a cd :: outer).filterMap (·.frame) := fun env he b hb => .tail _ (List.mem_filterMap.mpr ⟨env, he, hb⟩)
  have hl : ∀ q ∈ news, (hideAll s'.heap (e :: (envOf name scope L a cd :: outer).filterMap (·.frame))).get? q.1 = some q.2 ∧ base.get? q.1 = none := fun q hq => by
    refine ⟨hideAll_get _ (N q hq).1 (off (hne q hq) fun hm => ?_), fresh_of_stays K.stays (N q hq).2.2⟩
    obtain ⟨env, he, hf⟩ := List.mem_filterMap.mp hm
    rcases List.mem_cons.mp he with rfl | he
    · exact (N q hq).2.1 (Option.some.inj hf).symm
    · obtain ⟨o, ho, _⟩ := (K.frames.mem (List.mem_filterMap.mpr ⟨env, he, hf⟩)).2
      rw [(N q hq).2.2] at ho; cases ho
  refine leavingD (fl := none) (d := d) (cls := cls) K'.stack rfl (.inl rfl) ⟨fun b o q => of_hideAll _ q, hideAll_none _ (.head _), funFrames_hide K'.frames hin, oe, vs, he, hc, hdi, hd, (Array.getElem?_eq_some_iff.mp h1).1, h1⟩ fun h' x u => ?_
  exact hQ h' ⟨_, st, hl, x⟩ ((Heap.UpToSlots.of_keeps F.keep).trans u)
end
end
section
open PySem PySem.W PySem.Calls PyProof.Rows
set_option linter.unusedVariables false
set_option linter.unusedSimpArgs false
set_option maxRecDepth 100000
set_option maxHeartbeats 4000000

noncomputable abbrev bmE : List Value := [.type "Exception", .type "BaseException", .type "object"]
noncomputable def own109 (K : Frag) : Bool := match K.lookup 109 with
  | some ⟨.type "type", _, .cls cd, sl⟩ => (match cd.mro, sl.toList with
    | .ref C' :: bm, [_, _, _, _, some (.builtin n), _] => C' == 109 && n == "Exception.__new__" && !cd.hasDel && cd.hasDict && bm == bmE && cd.ns == 108 && nsOkIn K 108
    | _, _ => false)
  | _ => false
theorem ns_some_of {K : Frag} {h : Heap} {N : Addr} {mg : PySem.Str → Option Value} {n : PySem.Str} {v : Value} (X : K.In h) (G : h.Ns N mg) (e : nsIn K N n = some (some v)) : mg n = some v := by
  obtain ⟨o, es, ep, ho, hd, _, hf⟩ := G
  unfold nsIn at e
  split at e
  · rename_i c d es' n' sl q
    have := X _ _ q
    rw [ho] at this
    cases this
    cases hd
    split at e
    · rename_i en he
      rw [← hf]
      unfold nsFind findBy
      rw [← Array.find?_toList, he]
      injection e
    · split at e <;> cases e
  · cases e
structure C109 (h : Heap) (mN : PySem.Str → Option Value) (nm q : PySem.Str) (bs : List Value) (sn : List PySem.Str) (sub : List Value) (ab : Bool) (col : Option Bool) (dd : Option Addr) (k0 k1 k2 k3 k5 : Option Value) : Prop where
  cls : h.get? 109 = some (excClassObj nm q 109 108 bs bmE true sn sub ab col dd k0 k1 k2 k3 k5 "Exception.__new__")
  ns : h.Ns 108 mN
  init : mN "__init__" = some (.ref 99)
  str : mN "__str__" = some (.ref 106)
  sa : mN "__setattr__" = none
  ga : mN "__getattribute__" = none
  gh : mN "__getattr__" = none
  n1 : mN (PySem.Str.ofString "filename") = none
  n2 : mN (PySem.Str.ofString "lineno") = none
  n3 : mN (PySem.Str.ofString "msg") = none
theorem c109_of {w : World} {h : Heap} (X : (hd.heap_39 w.params).In h) : ∃ mN nm q bs sn sub ab col dd k0 k1 k2 k3 k5, C109 h mN nm q bs sn sub ab col dd k0 k1 k2 k3 k5 := by
  have e : own109 (hd.heap_39 w.params) = true := by kernel_rfl
  have e1 : nsIn (hd.heap_39 w.params) 108 "__init__" = some (some (.ref 99)) := by kernel_rfl
  have e2 : nsIn (hd.heap_39 w.params) 108 "__str__" = some (some (.ref 106)) := by kernel_rfl
  have e3 : nsIn (hd.heap_39 w.params) 108 "__setattr__" = some none := by kernel_rfl
  have e4 : nsIn (hd.heap_39 w.params) 108 "__getattribute__" = some none := by kernel_rfl
  have e5 : nsIn (hd.heap_39 w.params) 108 "__getattr__" = some none := by kernel_rfl
  have e6 : nsIn (hd.heap_39 w.params) 108 (PySem.Str.ofString "filename") = some none := by kernel_rfl
  have e7 : nsIn (hd.heap_39 w.params) 108 (PySem.Str.ofString "lineno") = some none := by kernel_rfl
  have e8 : nsIn (hd.heap_39 w.params) 108 (PySem.Str.ofString "msg") = some none := by kernel_rfl
  unfold own109 at e
  split at e
  · rename_i dd cd sl ho
    split at e
    · rename_i C' bm k0 k1 k2 k3 n k5 hm hs
      simp only [Bool.and_eq_true, beq_iff_eq, Bool.not_eq_true'] at e
      obtain ⟨⟨⟨⟨⟨⟨rfl, rfl⟩, hdel⟩, hdct⟩, hbm⟩, hns⟩, hok⟩ := e
      obtain ⟨nm, bs, mro, ns, qn, hd, sn, sub, ab, col, del⟩ := cd
      dsimp only at hm hdel hns hdct
      subst hm hdel hns hdct hbm
      have hsl : sl = #[k0, k1, k2, k3, some (.builtin "Exception.__new__"), k5] := by
        obtain ⟨l⟩ := sl
        simp only at hs
        rw [hs]
      subst hsl
      have G : h.Ns 108 (h.nsMap 108) := .of_isNs (isNs_of_in X hok)
      exact ⟨h.nsMap 108, nm, qn, bs, sn, sub, ab, col, dd, k0, k1, k2, k3, k5, X _ _ ho, G, ns_some_of X G e1, ns_some_of X G e2, ns_none_of X G e3, ns_none_of X G e4, ns_none_of X G e5, ns_none_of X G e6, ns_none_of X G e7, ns_none_of X G e8⟩
    · cases e
  · cases e
section
variable {prog : Program} {w : World} {A₀ : Around} {E : Value → Shared → Prop} {s' : Shared} {h₀ h : Heap} {outer : List Env} {L a e d : Addr} {m : PySem.Str → Option Value} {name : PySem.Str} {scope : Scope} {cd : Value}
  {n : PySem.Str} {b₀ : Stmt} {suite : List Stmt} {pos np : Pos} {rest : List ExceptHandler} {Q : Flow → Shared → Prop} {news : List (Addr × Obj)}
  {p : Program} {loose : List PySem.Str} {mg mb : PySem.Str → Option Value}
end
end
section
open PySem PySem.W PySem.Calls PyProof.Rows
open Builtin Builtin.ObjectAttr
set_option linter.unusedVariables false
set_option linter.unusedSimpArgs false
set_option maxRecDepth 100000
set_option maxHeartbeats 4000000

noncomputable abbrev excO0 (t : Addr) : Obj := { cls := .ref 109, data := .fields #[.ref t, .none, .none, .none, .bool false, .none] }
noncomputable abbrev excO (t dx : Addr) : Obj := { cls := .ref 109, dict := some dx, data := .fields #[.ref t, .none, .none, .none, .bool false, .none] }
noncomputable def NsO (od : Obj) (mA : PySem.Str → Option Value) : Prop := ∃ es ep, od.data = .dict es ep ∧ StrKeys es ∧ UniqKeys es ∧ ∀ name, nsFind es name = mA name
theorem NsO.at {h : Heap} {dx : Addr} {od : Obj} {mA : PySem.Str → Option Value} (x : NsO od mA) (e : h.get? dx = some od) : h.Ns1 dx mA := let ⟨es, ep, r⟩ := x; ⟨od, es, ep, e, r⟩
theorem NsO.of {h : Heap} {dx : Addr} {mA : PySem.Str → Option Value} (x : h.Ns1 dx mA) : ∃ od, h.get? dx = some od ∧ NsO od mA := let ⟨od, es, ep, e, r⟩ := x; ⟨od, e, es, ep, r⟩
section
variable {h₀ h h' : Heap} {L x dx : Addr} {m : PySem.Str → Option Value}
theorem Fr.but (F : Fr h₀ L h m) (hL : x ≠ L) (hn : h₀.get? x = none) (k : ∀ b o, b ≠ x → h.get? b = some o → h'.get? b = some o) : Fr h₀ L h' m :=
  ⟨F.ns.at fun o e => k L o (Ne.symm hL) e, fun b o e => k b o (base_apart hn e) (F.keep b o e), F.above⟩
theorem Fr.but2 (F : Fr h₀ L h m) (hL : x ≠ L) (hn : h₀.get? x = none) (hL2 : dx ≠ L) (hn2 : h₀.get? dx = none) (k : ∀ b o, b ≠ x → b ≠ dx → h.get? b = some o → h'.get? b = some o) : Fr h₀ L h' m :=
  ⟨F.ns.at fun o e => k L o (Ne.symm hL) (Ne.symm hL2) e, fun b o e => k b o (base_apart hn e) (base_apart hn2 e) (F.keep b o e), F.above⟩
end
section
variable {prog : Program} {w : World} {A : Around} {E : Value → Shared → Prop} {h : Heap} {g : Array GenState} {d : Drawn} {tk : Nat} {os : OsState} {x : Addr} {v : Value} {name : PySem.Str} {mN : PySem.Str → Option Value}
  {nm q : PySem.Str} {bs : List Value} {sn : List PySem.Str} {sub : List Value} {ab : Bool} {col : Option Bool} {dd : Option Addr} {k0 k1 k2 k3 k5 : Option Value}
theorem store0_entry {o : Obj} {u : Tok} {Q : Fin → Shared → Prop} (C : C109 h mN nm q bs sn sub ab col dd k0 k1 k2 k3 k5) (hna : mN name = none) (hB : typeLookup (.type "Exception") name = pure none) (hx : h.get? x = some o) (hc : o.cls = .ref 109) (hdn : o.dict = none) (hnc : ∀ c, o.data ≠ .cls c)
    (hq : ∀ h' tk', h'.Ns1 h.objs.size (fun y => if y = name then some v else none) → h'.get? x = some { cls := o.cls, dict := some h.objs.size, data := o.data, slots := o.slots } → (∀ b ob, b ≠ x → h.get? b = some ob → h'.get? b = some ob) → Q (.done (.ret .none)) ⟨h', g, d, tk', os⟩) :
    wpAny (model prog w) A (Builtin.«object.__setattr__» ⟨[.ref x, .str name u, v], []⟩) Q E ⟨h, g, d, tk, os⟩ := by
  have SF := PySem.F.store_Exception
  have hpass := SF.passes (.ref x)
  have hC := C.cls
  have hn := C.ns
  unfold Builtin.«object.__setattr__»
  repeat (first | rw [refuse_eq] | (rw [refuseLoop_ref, hpass]) | (with_reducible refine wpAny_loadPart_at hx ?_; rw [hc]) | with_reducible refine wpAny_mroOf_exc hC ?_ | (with_reducible refine wpAny_typeLookup_exc hC hn SF.mro hB ?_; rw [hna]) | wp_step)
  rw [hdn, if_neg (by simp [typeHasDict])]
  split
  · rename_i hcd
    cases hcd
  split
  · rename_i c hcd
    exact absurd hcd (hnc c)
  have hx₁ : (h.push { cls := .type "dict", data := .dict #[] }).get? x = some o := Heap.get?_push_of_some _ hx
  have hxs : x ≠ h.objs.size := Nat.ne_of_lt (Heap.lt_size hx)
  refine wpAny_bind (wpAny_alloc' ?_)
  refine wpAny_bind (wpAny_update' hx₁ ?_)
  refine wpAny_pure ?_
  have hgd : ((h.push { cls := .type "dict", data := .dict #[] }).update x fun o => { cls := o.cls, dict := some h.objs.size, data := o.data, slots := o.slots }).get? h.objs.size
      = some { cls := .type "dict", data := .dict #[] } := (Heap.get?_update_ne _ _ _ _ hxs.symm).trans (Heap.get?_push_at rfl rfl)
  have hnd : ((h.push { cls := .type "dict", data := .dict #[] }).update x fun o => { cls := o.cls, dict := some h.objs.size, data := o.data, slots := o.slots }).Ns h.objs.size (fun _ => none) :=
    ⟨_, #[], _, hgd, rfl, fun e he => absurd he (by simp), fun _ => rfl⟩
  show wpAny _ _ (storeInDict h.objs.size (.str name u) name v) _ _ _
  unfold storeInDict newKeyGuard
  refine wpAny_bind (wpAny_pure (wpAny_bind (wpAny_nsSet1 (Heap.Ns1.of_empty hnd) fun h' hn' hs => ?_)))
  obtain ⟨oD, esD, epD, hoD, hdD, hcD⟩ := hn'.count (Within.cons name v Within.nil)
  refine wpAny_bind (wpAny_lookBehind hoD (by rw [hdD]; exact pastItsLine_dict (Nat.le_trans hcD (by rw [List.length_cons, List.length_nil, sizeLine_eq]; omega))) ?_)
  wp_walk
  refine hq h' _ hn' ?_ fun b ob hbx hb => ?_
  · refine (hs.2 x hxs).trans (Heap.get?_update_self _ hx₁ ?_)
    have hfr := (Heap.get?_some_iff.mp hx).2
    obtain ⟨oc, od, odt, osl⟩ := o
    cases odt <;> first | rfl | exact hfr
  · exact (hs.2 b (Nat.ne_of_lt (Heap.lt_size hb))).trans ((Heap.get?_update_ne _ _ _ _ hbx).trans (Heap.get?_push_of_some _ hb))
theorem store0_call {sa owner : String} (SF : StoreFacts "Exception" bmE sa owner) {o : Obj} {u : Tok} {R : Result → Shared → Prop} (C : C109 h mN nm q bs sn sub ab col dd k0 k1 k2 k3 k5) (hna : mN name = none) (hB : typeLookup (.type "Exception") name = pure none) (hx : h.get? x = some o) (hc : o.cls = .ref 109) (hdn : o.dict = none) (hnc : ∀ c, o.data ≠ .cls c)
    (hq : ∀ h' tk', h'.Ns1 h.objs.size (fun y => if y = name then some v else none) → h'.get? x = some { cls := o.cls, dict := some h.objs.size, data := o.data, slots := o.slots } → (∀ b ob, b ≠ x → h.get? b = some ob → h'.get? b = some ob) → R (.ok (.ret .none)) ⟨h', g, d, tk', os⟩) :
    codeAny (model prog w) A (.call (.builtin sa) ⟨[.ref x, .str name u, v], []⟩) R ⟨h, g, d, tk, os⟩ :=
  codeAny_call_builtin SF.slot.plain SF.entry (wpAny_check_sa SF C.cls hx hc (store0_entry C hna hB hx hc hdn hnc hq))
theorem store0_attr {sa owner : String} (SF : StoreFacts "Exception" bmE sa owner) {o : Obj} {Q : Unit → Shared → Prop} (C : C109 h mN nm q bs sn sub ab col dd k0 k1 k2 k3 k5) (hna : mN name = none) (hB : typeLookup (.type "Exception") name = pure none) (hx : h.get? x = some o) (hc : o.cls = .ref 109) (hdn : o.dict = none) (hnc : ∀ c, o.data ≠ .cls c)
    (hq : ∀ h' tk', h'.Ns1 h.objs.size (fun y => if y = name then some v else none) → h'.get? x = some { cls := o.cls, dict := some h.objs.size, data := o.data, slots := o.slots } → (∀ b ob, b ≠ x → h.get? b = some ob → h'.get? b = some ob) → Q () ⟨h', g, d, tk', os⟩) :
    wpAny (model prog w) A (setAttr (.ref x) name v) Q E ⟨h, g, d, tk, os⟩ := by
  have f3 := SF.slot.bind (.ref x)
  have hC := C.cls
  have hn := C.ns
  have hns := C.sa
  unfold setAttr callSpecial? specialOf
  repeat (any_goals (first | assumption | (with_reducible refine wpAny_loadPart_at hx ?_; rw [hc]) | (with_reducible refine wpAny_typeLookup_exc hC hn SF.mro SF.slot.lookup ?_; rw [hns]) | wp_step))
  refine store0_call SF C hna hB hx hc hdn hnc (fun h' tk' a b c => ?_)
  repeat (any_goals (first | assumption | wp_step))
  exact hq h' tk' a b c
end
section
variable {prog : Program} {w : World} {A : Around} {E : Value → Shared → Prop} {s : Shared} {h₀ : Heap} {L x t dx : Addr} {m : PySem.Str → Option Value} {news : Led} {v : Value} {name : PySem.Str} {Q : Unit → Shared → Prop}
noncomputable def Own3 (name : PySem.Str) : Prop := (name = PySem.Str.ofString "filename" ∨ name = PySem.Str.ofString "lineno" ∨ name = PySem.Str.ofString "msg")
theorem own3_none {h : Heap} {mN nm q bs sn sub ab col dd k0 k1 k2 k3 k5} (C : C109 h mN nm q bs sn sub ab col dd k0 k1 k2 k3 k5) (ho : Own3 name) : mN name = none := by
  rcases ho with rfl | rfl | rfl
  · exact C.n1
  · exact C.n2
  · exact C.n3
theorem own3_exc (ho : Own3 name) : typeLookup (.type "Exception") name = pure none := by
  rcases ho with rfl | rfl | rfl <;> (rw [typeLookup_type, builtinLookup_eq_fast]; kernel_rfl)
theorem setE0 (F : Fr h₀ L s.heap m) (X : (hd.heap_39 w.params).In h₀) (N : News h₀ L s.heap ((x, excO0 t) :: news)) (ho : Own3 name) (hoff : ∀ p ∈ news, p.1 ≠ x)
    (hq : ∀ h' tk' dx od, Fr h₀ L h' m → News h₀ L h' ((x, excO t dx) :: (dx, od) :: news) → NsO od (fun y => if y = name then some v else none) → (∀ p ∈ news, p.1 ≠ dx) → x ≠ dx → Q () { s with heap := h', toks := tk' }) :
    wpAny (model prog w) A (setAttr (.ref x) name v) Q E s := by
  obtain ⟨h, g, d, tk, os⟩ := s
  obtain ⟨mN, nm, q, bs, sn, sub, ab, col, dd, k0, k1, k2, k3, k5, C⟩ := c109_of (w := w) (h := h) (X.keeps F.keep)
  have Nx := N _ (.head _)
  refine store0_attr PySem.F.store_Exception C (own3_none C ho) (own3_exc ho) Nx.1 rfl rfl (fun c q => by cases q) fun h' tk' a b c => ?_
  obtain ⟨od, e, I⟩ := NsO.of a
  have hxs : x ≠ h.objs.size := Nat.ne_of_lt (Heap.lt_size Nx.1)
  refine hq h' tk' _ od (Fr.but F Nx.2.1 Nx.2.2 c) (fun p hp => ?_) I (fun p hp => Nat.ne_of_lt (Heap.lt_size (N p (.tail _ hp)).1)) hxs
  rcases List.mem_cons.mp hp with rfl | hp
  · exact ⟨b, Nx.2⟩
  · rcases List.mem_cons.mp hp with rfl | hp
    · exact ⟨e, Nat.ne_of_gt F.ns.lt, none_at_size F⟩
    · exact ⟨c _ _ (hoff p hp) (N p (.tail _ hp)).1, (N p (.tail _ hp)).2⟩
theorem setE1 {od : Obj} {mA : PySem.Str → Option Value} {ns : List PySem.Str} (F : Fr h₀ L s.heap m) (X : (hd.heap_39 w.params).In h₀) (N : News h₀ L s.heap ((x, excO t dx) :: (dx, od) :: news)) (I : NsO od mA) (ho : Own3 name) (hoff : ∀ p ∈ news, p.1 ≠ x) (hoffd : ∀ p ∈ news, p.1 ≠ dx) (hne : x ≠ dx) (hw : Within mA ns) (hsz : ns.length ≤ 10)
    (hq : ∀ h' tk' od, Fr h₀ L h' m → News h₀ L h' ((x, excO t dx) :: (dx, od) :: news) → NsO od (fun y => if y = name then some v else mA y) → Q () { s with heap := h', toks := tk' }) :
    wpAny (model prog w) A (setAttr (.ref x) name v) Q E s := by
  obtain ⟨h, g, d, tk, os⟩ := s
  obtain ⟨mN, nm, q, bs, sn, sub, ab, col, dd, k0, k1, k2, k3, k5, C⟩ := c109_of (w := w) (h := h) (X.keeps F.keep)
  have Nx := N _ (.head _)
  have Nd := N _ (.tail _ (.head _))
  have hx109 : x ≠ 109 := fun q => by subst q; have := (X.keeps F.keep) ; have h1 := Nx.1; rw [C.cls] at h1; cases h1
  refine store_attr PySem.F.store_Exception C.cls C.ns C.sa (own3_none C ho) (own3_exc ho) hx109 ⟨_, Nx.1, rfl, fun c q => (by cases q), .inr ⟨dx, rfl, Ne.symm hne, I.at Nd.1⟩⟩ (fun h' tk' I' k same => ?_) hw (Nat.le_trans hsz (by rw [sizeLine_eq]; decide))
  obtain ⟨o₁, e1, ec, ed, esl, edi⟩ := same _ Nx.1
  have eo : o₁ = excO t dx := by
    obtain ⟨_, _, _, _⟩ := o₁
    dsimp only at ec ed esl edi
    have := edi dx rfl
    subst ec ed esl this
    rfl
  subst eo
  obtain ⟨o₂, e2, _, _, hd2⟩ := I'
  rw [e1] at e2; cases e2
  rcases hd2 with ⟨q, _⟩ | ⟨dx', q, _, n1⟩
  · cases q
  cases q
  obtain ⟨od', e', I2⟩ := NsO.of n1
  have kk : ∀ b o, b ≠ x → b ≠ dx → h.get? b = some o → h'.get? b = some o := fun b o h1 h2 e => k b o h1 (fun o₀ dx₀ q1 q2 => by rw [Nx.1] at q1; cases q1; cases q2; exact h2) e
  refine hq h' tk' od' (Fr.but2 F Nx.2.1 Nx.2.2 Nd.2.1 Nd.2.2 kk) (fun p hp => ?_) I2
  rcases List.mem_cons.mp hp with rfl | hp
  · exact ⟨e1, Nx.2⟩
  · rcases List.mem_cons.mp hp with rfl | hp
    · exact ⟨e', Nd.2⟩
    · have := N p (.tail _ (.tail _ hp))
      exact ⟨kk _ _ (hoff p hp) (hoffd p hp) this.1, this.2⟩
end
end
section
open PySem PySem.W PySem.Calls PyProof.Rows
open Builtin Builtin.ObjectAttr
set_option linter.unusedVariables false
set_option linter.unusedSimpArgs false
set_option maxRecDepth 100000
set_option maxHeartbeats 4000000
noncomputable abbrev tupO (rest : List Value) : Obj := { cls := .type "tuple", data := .seq rest.toArray }
section
variable {prog : Program} {w : World} {A : Around} {E : Value → Shared → Prop} {s : Shared} {h₀ : Heap} {L : Addr} {m : PySem.Str → Option Value} {news : Led}
theorem make109t {rest : List Value} {Q : Value → Shared → Prop} (F : Fr h₀ L s.heap m) (X : (hd.heap_39 w.params).In h₀) (N : News h₀ L s.heap news) (hz : rest.length ≤ 100)
    (hq : ∀ h' e t, Fr h₀ L h' m → News h₀ L h' ((e, excO0 t) :: (t, tupO rest) :: news) → (∀ p ∈ news, p.1 ≠ e) → (∀ p ∈ news, p.1 ≠ t) → t ≠ e →
      wpAny (model prog w) (A.under (.builtin "type.__call__" ⟨.ref 109 :: rest, []⟩)) (call (.ref 99) (.ref e :: rest)) (fun r s' => r = .none ∧ Q (.ref e) s') E { s with heap := h' }) :
    wpAny (model prog w) A (call (.ref 109) rest) Q E s := by
  obtain ⟨h, g, d, tk, os⟩ := s
  have Xh := X.keeps F.keep
  obtain ⟨mN, nm, q, bs, sn, sub, ab, col, dd, k0, k1, k2, k3, k5, C⟩ := c109_of (w := w) (h := h) Xh
  have e99 : ((hd.heap_39 w.params).lookup 99).any (fun o => o.cls == .type "function") = true := by kernel_rfl
  obtain ⟨oI, hI, hc⟩ := any_some e99
  refine wpAny_call_exc_init PySem.F.excBase_Exception C.cls C.ns C.init (Xh _ _ hI) (beq_iff_eq.mp hc) (fun h' e M => ?_) (Nat.le_trans hz (by rw [sizeLine_eq]; decide))
  obtain ⟨t, he, htn, ht⟩ := M.there
  have hte : t ≠ e := fun q => by subst q; rw [he] at ht; cases ht
  have F' := F.keeps M.keeps
  refine hq h' e t F' (fun p hp => ?_) (fun p hp q => by have := (N p hp).1; rw [q, M.new] at this; cases this) (fun p hp q => by have := (N p hp).1; rw [q, htn] at this; cases this) hte
  have fre : ∀ {a : Addr}, h.get? a = none → a ≠ L ∧ h₀.get? a = none := fun {a} ha => by
    constructor
    · intro q
      obtain ⟨o, _, _, ho, _⟩ := F.ns
      rw [q, ho] at ha; cases ha
    · cases q : h₀.get? a with
      | none => rfl
      | some o => have := F.keep a o q; rw [ha] at this; cases this
  rcases List.mem_cons.mp hp with rfl | hp
  · exact ⟨he, fre M.new⟩
  · rcases List.mem_cons.mp hp with rfl | hp
    · exact ⟨ht, fre htn⟩
    · exact ⟨M.keeps _ _ (N p hp).1, (N p hp).2⟩
/-- the argument's tuple left out of the ledger -/
theorem make109 {rest : List Value} {Q : Value → Shared → Prop} (F : Fr h₀ L s.heap m) (X : (hd.heap_39 w.params).In h₀) (N : News h₀ L s.heap news) (hz : rest.length ≤ 100)
    (hq : ∀ h' e t, Fr h₀ L h' m → News h₀ L h' ((e, excO0 t) :: news) → (∀ p ∈ news, p.1 ≠ e) →
      wpAny (model prog w) (A.under (.builtin "type.__call__" ⟨.ref 109 :: rest, []⟩)) (call (.ref 99) (.ref e :: rest)) (fun r s' => r = .none ∧ Q (.ref e) s') E { s with heap := h' }) :
    wpAny (model prog w) A (call (.ref 109) rest) Q E s :=
  make109t F X N hz fun h' e t F' N' h1 _ _ => hq h' e t F' (news_sub N' fun p hp => by
    rcases List.mem_cons.mp hp with hp | hp
    · rw [hp]; exact .head _
    · exact .tail _ (.tail _ hp)) h1
/-- what `raise` does with the made exception -/
noncomputable def RaiseP (E : Value → Shared → Prop) (w : World) (v : Value) (s : Shared) : Prop := ∃ e t dx, v = .ref e ∧ (hd.heap_39 w.params).In s.heap ∧ s.heap.get? e = some (excO t dx) ∧ E (.ref e) s
theorem raiseP_stmt {env : Env} {x : Sem Value} {Q : Flow → Shared → Prop} {A : Around} (hh : A.handled = none) (h : wpAny (model prog w) A x (RaiseP E w) E s) : wpAny (model prog w) A (raiseStmt env (some x) none) Q E s := by
  unfold raiseStmt
  refine wpAny_bind (wpAny_mono h (fun v s₁ h₁ => ?_) fun _ _ x => x)
  obtain ⟨e, t, dx, rfl, X, he, hE⟩ := h₁
  obtain ⟨h, g, d, tk, os⟩ := s₁
  obtain ⟨mN, nm, q, bs, sn, sub, ab, col, dd, k0, k1, k2, k3, k5, C⟩ := c109_of (w := w) (h := h) X
  have hC := C.cls
  have hcB : (Value.ref 109 :: bmE).contains (.type "BaseException") = true := by decide
  generalize bmE = bm at hC hcB
  generalize (108 : Addr) = N at hC
  repeat (first | with_reducible refine wpAny_loadPart_at he ?_ | with_reducible refine wpAny_loadPart_at hC ?_ | (with_reducible refine wpAny_isSubtype_exc hC ?_; rw [hcB]) | wp_step)
  exact wpAny_raiseNew_none hh hE
theorem raiseP {env : Env} {ex : PySem.Expr} {pos : Pos} {Q : Flow → Shared → Prop} {A : Around} (hh : A.handled = none) (h : wpAny (model prog w) A (eval ex env) (RaiseP E w) E s) : wpAny (model prog w) A (exec (.Raise (some ex) none pos) env) Q E s := by
  rw [arm_exec_Raise]
  refine wpAny_bind (wpAny_standAt ?_)
  exact raiseP_stmt hh (wpAny_bind (wpAny_mono h (fun v s₁ h₁ => wpAny_bind (wpAny_standAt (wpAny_pure h₁))) fun _ _ x => x))
end
end
section
open PySem PySem.W PySem.Calls PyProof.Rows
open Builtin Builtin.ObjectAttr
set_option linter.unusedVariables false
set_option linter.unusedSimpArgs false
set_option maxRecDepth 100000
set_option maxHeartbeats 4000000
section
variable {prog : Program} {w : World} {A : Around} {E : Value → Shared → Prop} {h : Heap} {g : Array GenState} {d : Drawn} {tk : Nat} {os : OsState} {x : Addr} {v : Value} {name : PySem.Str} {mN mA : PySem.Str → Option Value}
  {nm q : PySem.Str} {bs : List Value} {sn : List PySem.Str} {sub : List Value} {ab : Bool} {col : Option Bool} {dd : Option Addr} {k0 k1 k2 k3 k5 : Option Value}
theorem init_raw {newId initId : String} (B : ExcBaseFacts "Exception" newId initId bmE) {t dx : Addr} {rest : List Value} {Q : Value → Shared → Prop} (hC : h.get? 109 = some (excClassObj nm q 109 108 bs bmE true sn sub ab col dd k0 k1 k2 k3 k5 newId)) (hx : h.get? x = some (excO t dx)) (hz : rest.length ≤ 100)
    (hq : ∀ h', h'.get? x = some (excO h.objs.size dx) → (∀ b o, b ≠ x → h.get? b = some o → h'.get? b = some o) → Q .none ⟨h', g, d, tk, os⟩) :
    wpAny (model prog w) A (call (.builtin initId) (.ref x :: rest)) Q E ⟨h, g, d, tk, os⟩ := by
  refine wpAny_call (codeAny_call_builtin B.init.plain B.initEntry (wpAny_check_init_sub B hC hx rfl ?_))
  have hs : ¬ rest.toArray.size > sizeLine := by
    rw [List.size_toArray, sizeLine_eq]; omega
  wp_walk
  rw [if_neg hs]
  wp_walk
  refine hq _ ?_ ?_
  · rw [Heap.get?_update_self _ (Heap.get?_push_of_some _ hx) rfl]
    rfl
  · intro b o hb e
    rw [upd_other hb]
    exact Heap.get?_push_of_some _ e
theorem read_entry {dx : Addr} {u : Tok} {o : Obj} {Q : Fin → Shared → Prop} {B : String} {bmB : List Value} {newId : String} (FB : ExcAttrBase B bmB) (hC : h.get? 109 = some (excClassObj nm q 109 108 bs bmB true sn sub ab col dd k0 k1 k2 k3 k5 newId)) (hn : h.Ns 108 mN) (hna : mN name = none) (hB : typeLookup (.type B) name = pure none)
    (hx : h.get? x = some o) (hc : o.cls = .ref 109) (hdx : o.dict = some dx) (hnc : ∀ c, o.data ≠ .cls c) (hns : h.Ns1 dx mA) (hv : mA name = some v) (hq : Q (.done (.ret v)) ⟨h, g, d, tk, os⟩) :
    wpAny (model prog w) A (Builtin.«object.__getattribute__» ⟨[.ref x, .str name u], []⟩) Q E ⟨h, g, d, tk, os⟩ := by
  unfold Builtin.«object.__getattribute__»
  repeat (first | (with_reducible refine wpAny_loadPart_at hx ?_; rw [hc]) | (with_reducible refine wpAny_typeLookup_exc hC hn FB.mro hB ?_; rw [hna]) | wp_step)
  split
  · rename_i c hcd
    exact absurd hcd (hnc c)
  unfold instanceDict
  repeat (first | (with_reducible refine wpAny_loadPart_at hx ?_; rw [hc]) | with_reducible refine wpAny_loadPart_at hC ?_ | wp_step)
  rw [hdx]
  repeat (first | (with_reducible refine wpAny_nsGet hns.ns ?_; rw [hv]) | wp_step)
  exact hq
theorem read_call {dx : Addr} {u : Tok} {o : Obj} {R : Result → Shared → Prop} {B : String} {bmB : List Value} {newId : String} (FB : ExcAttrBase B bmB) (hC : h.get? 109 = some (excClassObj nm q 109 108 bs bmB true sn sub ab col dd k0 k1 k2 k3 k5 newId)) (hn : h.Ns 108 mN) (hna : mN name = none) (hB : typeLookup (.type B) name = pure none)
    (hx : h.get? x = some o) (hc : o.cls = .ref 109) (hdx : o.dict = some dx) (hnc : ∀ c, o.data ≠ .cls c) (hns : h.Ns1 dx mA) (hv : mA name = some v) (hq : R (.ok (.ret v)) ⟨h, g, d, tk, os⟩) :
    codeAny (model prog w) A (.call (.builtin "BaseException.__getattribute__") ⟨[.ref x, .str name u], []⟩) R ⟨h, g, d, tk, os⟩ :=
  codeAny_call_builtin FB.ga.plain F.entry_bexc_ga (wpAny_check_ga_own FB hC .base hx hc (read_entry FB hC hn hna hB hx hc hdx hnc hns hv hq))
theorem read_by {dx : Addr} {u : Tok} {o : Obj} {fill expr : Bool} {Q : Value → Shared → Prop} {B : String} {bmB : List Value} {newId : String} (FB : ExcAttrBase B bmB) (hC : h.get? 109 = some (excClassObj nm q 109 108 bs bmB true sn sub ab col dd k0 k1 k2 k3 k5 newId)) (hn : h.Ns 108 mN) (hg1 : mN "__getattribute__" = none) (hg2 : mN "__getattr__" = none) (hna : mN name = none) (hB : typeLookup (.type B) name = pure none)
    (hx : h.get? x = some o) (hc : o.cls = .ref 109) (hdx : o.dict = some dx) (hnc : ∀ c, o.data ≠ .cls c) (hns : h.Ns1 dx mA) (hv : mA name = some v) (hh : handedOut v = pure v) (hq : Q v ⟨h, g, d, tk, os⟩) :
    wpAny (model prog w) A (getAttrBy (.ref x) (.str name u) fill expr) Q E ⟨h, g, d, tk, os⟩ := by
  have f3 := FB.ga.bind (.ref x)
  have hx0 : (expr && onTheHeap (Value.builtin "BaseException.__getattribute__")) = false := by cases expr <;> rfl
  have hx2 : (Value.builtin "BaseException.__getattribute__" == Value.builtin "object.__getattribute__") = false := by decide +kernel
  have hx1 : (onTheHeap (Value.ref 109) && Value.builtin "BaseException.__getattribute__" == Value.builtin "object.__getattribute__") = false := by rw [hx2]; rfl
  repeat (any_goals (first | assumption | (with_reducible refine wpAny_loadPart_at hx ?_; rw [hc]) | (with_reducible refine wpAny_typeLookup_exc hC hn FB.mro FB.ga.lookup ?_; rw [hg1]) | (with_reducible refine wpAny_typeLookup_exc hC hn FB.mro FB.noGetattr ?_; rw [hg2]) | wp_step))
  refine read_call FB hC hn hna hB hx hc hdx hnc hns hv ?_
  repeat (any_goals (first | assumption | wp_step))
theorem read_attr {dx : Addr} {o : Obj} {expr : Bool} {Q : Value → Shared → Prop} {B : String} {bmB : List Value} {newId : String} (FB : ExcAttrBase B bmB) (hC : h.get? 109 = some (excClassObj nm q 109 108 bs bmB true sn sub ab col dd k0 k1 k2 k3 k5 newId)) (hn : h.Ns 108 mN) (hg1 : mN "__getattribute__" = none) (hg2 : mN "__getattr__" = none) (hna : mN name = none) (hB : typeLookup (.type B) name = pure none)
    (hx : h.get? x = some o) (hc : o.cls = .ref 109) (hdx : o.dict = some dx) (hnc : ∀ c, o.data ≠ .cls c) (hns : h.Ns1 dx mA) (hv : mA name = some v) (hh : handedOut v = pure v) (hq : Q v ⟨h, g, d, tk + 1, os⟩) :
    wpAny (model prog w) A (getAttr (.ref x) name expr) Q E ⟨h, g, d, tk, os⟩ := by
  unfold getAttr
  repeat (any_goals (first | assumption | with_reducible apply read_by FB hC hn hg1 hg2 hna hB hx hc hdx hnc hns hv hh | wp_step))
end
section
variable {prog : Program} {w : World} {A : Around} {E : Value → Shared → Prop} {s : Shared} {h₀ : Heap} {L x t dx : Addr} {m : PySem.Str → Option Value} {news : Led} {v : Value} {name : PySem.Str}
theorem initE {rest : List Value} {Q : Value → Shared → Prop} (F : Fr h₀ L s.heap m) (X : (hd.heap_39 w.params).In h₀) (N : News h₀ L s.heap ((x, excO t dx) :: news)) (hoff : ∀ p ∈ news, p.1 ≠ x) (hz : rest.length ≤ 100)
    (hq : ∀ h' t', Fr h₀ L h' m → News h₀ L h' ((x, excO t' dx) :: news) → Q .none { s with heap := h' }) : wpAny (model prog w) A (call (.builtin "Exception.__init__") (.ref x :: rest)) Q E s := by
  obtain ⟨h, g, d, tk, os⟩ := s
  obtain ⟨mN, nm, q, bs, sn, sub, ab, col, dd, k0, k1, k2, k3, k5, C⟩ := c109_of (w := w) (h := h) (X.keeps F.keep)
  have Nx := N _ (.head _)
  refine init_raw PySem.F.excBase_Exception C.cls Nx.1 hz fun h' e k => ?_
  refine hq h' h.objs.size (Fr.but F Nx.2.1 Nx.2.2 k) fun p hp => ?_
  rcases List.mem_cons.mp hp with rfl | hp
  · exact ⟨e, Nx.2⟩
  · exact ⟨k _ _ (hoff p hp) (N p (.tail _ hp)).1, (N p (.tail _ hp)).2⟩
theorem readE {oe od : Obj} {mA : PySem.Str → Option Value} {expr : Bool} {Q : Value → Shared → Prop} (F : Fr h₀ L s.heap m) (X : (hd.heap_39 w.params).In h₀) (N : News h₀ L s.heap news) (hm1 : (x, oe) ∈ news) (hm2 : (dx, od) ∈ news) (hc : oe.cls = .ref 109) (hdx : oe.dict = some dx) (hf : ∃ vs, oe.data = .fields vs) (I : NsO od mA)
    (ho : Own3 name) (hv : mA name = some v) (hh : handedOut v = pure v) (hq : Q v { s with toks := s.toks + 1 }) : wpAny (model prog w) A (getAttr (.ref x) name expr) Q E s := by
  obtain ⟨h, g, d, tk, os⟩ := s
  obtain ⟨mN, nm, q, bs, sn, sub, ab, col, dd, k0, k1, k2, k3, k5, C⟩ := c109_of (w := w) (h := h) (X.keeps F.keep)
  obtain ⟨vs, hf⟩ := hf
  exact read_attr PySem.F.attrBase_Exception C.cls C.ns C.ga C.gh (own3_none C ho) (own3_exc ho) (N _ hm1).1 hc hdx (fun c q => by rw [hf] at q; cases q) (I.at (N _ hm2).1) hv hh hq
end
end
section
open PySem PySem.W PySem.Calls PyProof.Rows
set_option linter.unusedVariables false
set_option linter.unusedSimpArgs false
set_option maxRecDepth 100000
set_option maxHeartbeats 4000000

noncomputable def RzS (prog : Program) (w : World) (A : Around) (E : Value → Shared → Prop) (env : Env) (st : Stmt) (Q : Flow → Shared → Prop) (s : Shared) : Prop := wpAny (model prog w) A (exec st env) Q E s
theorem RzS.raise {prog : Program} {w : World} {A : Around} {E : Value → Shared → Prop} {s : Shared} {env : Env} {ex : PySem.Expr} {pos : Pos} {Q : Flow → Shared → Prop} (hh : A.handled = none) (h : wpAny (model prog w) A (eval ex env) (RaiseP E w) E s) : RzS prog w A E env (.Raise (some ex) none pos) Q s := raiseP hh h
theorem RzS.go {prog : Program} {w : World} {A : Around} {E : Value → Shared → Prop} {s : Shared} {env : Env} {st : Stmt} {Q : Flow → Shared → Prop} (h : RzS prog w A E env st Q s) : wpAny (model prog w) A (exec st env) Q E s := h
noncomputable def ConX (w : World) (f : Addr) (need : Nat) (vs : List Value) (news : Led) (Ret : Value → Led → Prop) (Exc : Addr → Led → Prop) : Prop :=
  ∀ (dp un : Nat) (gd : Option (List Code)) (cn : PySem.Str) (cs : Scope) (a : Addr) (ccd : Value) (cl : List (PySem.Str × Addr)) (outer : List Env)
    (A₀ : Around) (base h₀ : Heap) (L : Addr) (m : PySem.Str → Option Value) (s : Shared) (Q E : Value → Shared → Prop) (mean : ExcName → Option Value) (mg mb : PySem.Str → Option Value),
    Below A₀ base outer h₀ → Fr h₀ L s.heap m → (hd.heap_39 w.params).In h₀ → News h₀ L s.heap news → Top topProg looseX mean mg mb h₀ → cs.kind = .function →
    dp + need < recursionLimit → un + 8 * need < cLine →
    (∀ r news' h' tk', Fr h₀ L h' m → News h₀ L h' news' → Ret r news' → Q r { s with heap := h', toks := tk' }) →
    (∀ e d news' g h' tk', Fr h₀ L g m → g.UpToSlots h' → RaisedD base (envX cn cs L a ccd cl :: outer) e (.ref 109) d news' h' → Exc d news' → E (.ref e) { s with heap := h', toks := tk' }) →
    wpAny (model PySem.Challenge.rw_xe0019_01.row.prog w) (ktrTop dp un gd cn cs L a ccd cl outer) (call (.ref f) vs) Q E s
noncomputable def RunSt (h₀ : Heap) (L : Addr) (m : PySem.Str → Option Value) (s₀ : Shared) (NL : Addr) (led : Led) (st : List Nat) (q : Nat) (notes : List (List Nat)) (s' : Shared) : Prop :=
  ∃ h tk t1 t2 n v1 v2 v3 lst, s' = { s₀ with heap := h, toks := tk } ∧
    Fr h₀ L h (fun y => if y = PySem.Str.ofString "host" then some (.str (S (hostL st)) t1) else if y = PySem.Str.ofString "state" then some (.int (q : Int) t2) else if y = PySem.Str.ofString "word" then v1 else if y = PySem.Str.ofString "top" then v2 else if y = PySem.Str.ofString "rest" then v3 else m y) ∧
    News h₀ L h ((NL, W.listOf (strValues lst).toArray n) :: led) ∧ lst.map (·.1) = notes.map S
theorem fold5h (s : Shared) {h₀ h : Heap} {L : Addr} {a b c d e : PySem.Str} {va vb vc vd ve wa wb wc wd we : Option Value} {m : PySem.Str → Option Value} (F : Fr h₀ L h (fun y => if y = a then va else if y = b then vb else if y = c then vc else if y = d then vd else if y = e then ve else
    if y = a then wa else if y = b then wb else if y = c then wc else if y = d then wd else if y = e then we else m y)) :
    Fr h₀ L h (fun y => if y = a then va else if y = b then vb else if y = c then vc else if y = d then vd else if y = e then ve else m y) := fold5 (s := { s with heap := h }) F
theorem meta_Exc : typeOf (.type "Exception") = pure (.type "type") := by kernel_rfl
theorem host0 (c : Nat) : S [97 + c] ++ PySem.Str.ofString ".b.local" = S (hostL [97 + c]) := by
  have e : PySem.Str.ofString ".b.local" = S (46 :: tailL) := by decide +kernel
  rw [e, S_append]; rfl
theorem RunSt.init {h₀ h : Heap} {L : Addr} {m : PySem.Str → Option Value} {s : Shared} {NL : Addr} {led : Led} {q c : Nat} {x : PySem.Str} {n tk : Nat} {t1 t2 : Tok} (F : Fr h₀ L h m) (N : News h₀ L h ((NL, W.listOf #[] n) :: led))
    (ha : m (PySem.Str.ofString "host") = some (.str x t1)) (hx : x = S (hostL [97 + c])) (hb : m (PySem.Str.ofString "state") = some (.int (q : Int) t2)) : RunSt h₀ L m s NL led [97 + c] q [] { s with heap := h, toks := tk } := by
  subst hx
  exact ⟨h, tk, t1, t2, n, _, _, _, [], rfl, init5 (s := { s with heap := h }) F ha hb, N, rfl⟩

theorem slice_rest (st : List Nat) : Txt.slice (S (46 :: hostL st)) (some 1) none = S (hostL st) := slice_from (46 :: hostL st) 1 (by simp)
theorem slice_topH (c : Nat) (st : List Nat) : Txt.slice (S (hostL (c :: st))) none (some (-((46 :: hostL st).length : Int))) = S [c] := slice_top c (46 :: hostL st) (by simp)
theorem host_size {st : List Nat} (h : st.length ≤ 100) : (S (hostL st)).length ≤ 1000000 := by rw [S_len, hostL_len]; omega
theorem rest_size {st : List Nat} (h : st.length ≤ 100) : (S (46 :: hostL st)).length ≤ 1000000 := by rw [S_len, List.length_cons, hostL_len]; omega
theorem cons_len {c : Nat} {st : List Nat} (h : st.length + 1 ≤ 100) : (c :: st).length ≤ 100 := h
theorem strs_get : ∀ {vs : List Value} {ys : List PySem.Str} {k : Nat} {y : PySem.Str}, StrsAre vs ys → ys[k]? = some y → ∃ t, vs[k]? = some (.str y t)
  | _, _, k, _, .nil, h => by simp at h
  | _, _, 0, _, .cons a t _, h => ⟨t, by simpa using h⟩
  | _, _, k + 1, _, .cons _ _ r, h => by
    obtain ⟨u, e⟩ := strs_get (k := k) r (by simpa using h)
    exact ⟨u, by simpa using e⟩
theorem item_rules {prog : Program} {w : World} {A : Around} {E : Value → Shared → Prop} {s : Shared} {Q : Value → Shared → Prop} {value slice : PySem.Expr} {l : Addr} {vs : List Value} {ys : List PySem.Str} {k : Int} {u : Tok} {y : PySem.Str} (hl : s.heap.IsList l vs.toArray) (hi : StrsAre vs ys) (h0 : 0 ≤ k) (h1 : k < 4)
    (e : ys[k.toNat]? = some y) (h : ∀ t, Q (.str y t) s) (hs : subscripted slice false (.ref l) (.int k u) = operate [.ref l, .int k u] (getItem (.ref l) (.int k u)) := by with_unfolding_all rfl) :
    wpAny (model prog w) A (subscriptTail value slice (.ref l) (.int k u)) Q E s := by
  obtain ⟨t, e2⟩ := strs_get hi e
  exact tail_any hl.typeIs slot_list_getitem.lookup (wpAny_getItem_list hl h0 (by omega) (by simpa using e2) (h t)) hs
theorem runF_step (ns : List Int) (k c : Nat) (st : List Nat) (q : Nat) (notes : List (List Nat)) (np : Int) (h : ns.getD (2 * q + c) 0 = np) :
    runF ns (k + 1) ((97 + c) :: st) q notes = runF ns k (lets np ++ st) (nxt np) (notes ++ [List.replicate st.length 32 ++ lineL q c]) := by
  rw [runF, Nat.add_sub_cancel_left, h]
theorem rules_idx (ns : List Int) (q c : Nat) (hq : q < 2) (hc : c < 2) : ((List.range 4).map fun i => S (wordL (ns.getD i 0)))[(2 * (q : Int) + (c : Int)).toNat]? = some (S (wordL (ns.getD (2 * q + c) 0))) := by
  have e : (2 * (q : Int) + (c : Int)).toNat = 2 * q + c := by omega
  rw [e]
  have h : 2 * q + c < 4 := by omega
  simp [h]
theorem chars_addC {prog : Program} {w : World} {A : Around} {E : Value → Shared → Prop} {s : Shared} {h₀ : Heap} {L : Addr} {m : PySem.Str → Option Value} {news : Led} {a b : Addr} {ys : List Value} {l : List Nat} {x : PySem.Str} {t : Tok} {n1 n2 : Nat} {Q : Value → Shared → Prop} (F : Fr h₀ L s.heap m) (N : News h₀ L s.heap news) (ha : (a, W.listOf ys.toArray n1) ∈ news) (hb : (b, W.listOf #[.str x t] n2) ∈ news) (hc : CharsAre ys l) (hz : l.length ≤ 1000)
    (h : ∀ D h', Fr h₀ L h' m → News h₀ L h' ((D, W.listOf (ys ++ [Value.str x t]).toArray 0) :: news) → (∀ p ∈ news, p.1 < D) → Q (.ref D) { s with heap := h' }) : wpAny (model prog w) A (binaryOp .Add (.ref a) (.ref b)) Q E s :=
  chars_add F N ha hb (by rw [chars_len hc]; exact hz) h
theorem lets_100 (n : Int) : (lets n).length ≤ 100 := Nat.le_trans (lets_len n) (by decide)
theorem lets_1000 (n : Int) : (lets n).length ≤ 1000 := Nat.le_trans (lets_len n) (by decide)

theorem rg_Ct13_0 : True := by
  k_with_none
  k_with "mine lt" => (first | with_reducible assumption | with_reducible exact cj0 (by with_reducible assumption) | with_reducible exact cj1 (by with_reducible assumption) | with_reducible exact cl1 (by with_reducible assumption) | with_reducible exact cj2 (by with_reducible assumption) | with_reducible exact cl2 (by with_reducible assumption) | with_reducible exact cj3 (by with_reducible assumption) | with_reducible exact cl3 (by with_reducible assumption) | with_reducible exact cj4 (by with_reducible assumption) | with_reducible exact cl4 (by with_reducible assumption) | with_reducible exact cj5 (by with_reducible assumption) | with_reducible exact cl5 (by with_reducible assumption) | with_reducible exact cj6 (by with_reducible assumption) | with_reducible exact cl6 (by with_reducible assumption) | with_reducible exact cj7 (by with_reducible assumption) | with_reducible exact cl7 (by with_reducible assumption) | with_reducible exact cj8 (by with_reducible assumption) | with_reducible exact cl8 (by with_reducible assumption) | with_reducible exact cj9 (by with_reducible assumption) | with_reducible exact cl9 (by with_reducible assumption) | with_reducible exact cj10 (by with_reducible assumption) | with_reducible exact cl10 (by with_reducible assumption) | with_reducible exact cj11 (by with_reducible assumption) | with_reducible exact cl11 (by with_reducible assumption) | with_reducible exact cj12 (by with_reducible assumption) | with_reducible exact cl12 (by with_reducible assumption))
  k_with "mine om" => (first | with_reducible assumption | decide | with_reducible exact rm1 (by with_reducible assumption) | with_reducible exact rm2 (by with_reducible assumption) (by decide) | with_reducible exact rm3 (by with_reducible assumption) (by decide) | with_reducible exact rm9 (by with_reducible assumption) (by decide) | with_reducible exact rm8 (by with_reducible assumption) (by decide) | with_reducible exact rm7 (by with_reducible assumption) (by decide) | with_reducible exact rm4 (by with_reducible assumption) (by decide) | with_reducible exact rm5 (by with_reducible assumption) (by decide) | with_reducible exact rm6 (by with_reducible assumption) (by decide) | with_reducible exact ih2 _ | with_reducible exact ih1 (by with_reducible assumption) | with_reducible exact three_of (by with_reducible assumption) | with_reducible exact two_lt (by with_reducible assumption) | with_reducible exact three_lt (by with_reducible assumption) | with_reducible exact lt_of8 (by with_reducible assumption) (by decide) | with_reducible exact le_of (by with_reducible assumption) (by decide) | with_reducible exact le_of3 (by with_reducible assumption) (by decide) | with_reducible exact le_of4 (by with_reducible assumption) (by decide) | (with_reducible refine Nat.ne_of_lt ?_; walk_at "mine lt") | (with_reducible refine Nat.ne_of_gt ?_; walk_at "mine lt") | with_reducible exact And.left (by with_reducible assumption) | with_reducible exact And.right (by with_reducible assumption))
  k_with "execs cons" => (refine wpAny_execs_cons ?_; k_fold)
  k_with "mine room" => (first | (simp only [units_deeper, units_in1, Around.mark_units, depth_deeper, depth_in1, ktrTop, cLine, recursionLimit] at *; omega) | ktr_room | ktr_units)
  k_with "mine room" => (first | omega | (simp only [units_deeper, units_in1, Around.mark_units, depth_deeper, depth_in1, ktrTop]; omega) | (dsimp only [Around.deeper, Around.in1, ktrTop, Around.mark]; omega))
  k_with "mine mem" => ((refine mem_of ?_; with_reducible assumption))
  k_with "mine S" => (first | with_reducible exact rfl | with_reducible exact lit_nl | with_reducible exact tos (by with_reducible assumption) | with_reducible exact lit_sp)
  k_with "call builtin:str.index" => ((k_here; k_dflt ((try dsimp only); refine index_ab (by assumption) ?_)))
  k_with "compareOp In int ref" => ((k_here; k_dflt (refine in_list_ints (News.isList (by k_asm) (by k_mem)) (by assumption) ?_)))
  k_with "binaryOp Mult str int" => ((k_here; k_dflt (refine str_mul' (by omega) ?_; intro _ _)))
  k_with "binaryOp Add str str" => ((k_here; k_dflt (refine add_eq (by walk_at "mine S") (by walk_at "mine S") (by (simp only [List.length_append, List.length_cons, List.length_nil, List.length_replicate]; omega)) ?_; intro _ _)))
  k_with "setAttr ref" => ((k_here; k_dflt (first | (refine' setE0 ?q9F ?q9X ?q9N ?q9o ?q9off ?_; (case q9F => k_asm); (case q9X => k_asm); (case q9N => k_asm); (case q9o => first | exact .inl rfl | exact .inr (.inl rfl) | exact .inr (.inr rfl)); (case q9off => assumption); intro _ _ _ _ _ _ _ _ _) | (refine' setE1 ?q9F ?q9X ?q9N ?q9I ?q9o ?q9off ?q9offd ?q9ne ?q9w ?q9z ?_; (case q9F => k_asm); (case q9X => k_asm); (case q9N => k_asm); (case q9I => assumption); (case q9o => first | exact .inl rfl | exact .inr (.inl rfl) | exact .inr (.inr rfl)); (case q9off => assumption); (case q9offd => assumption); (case q9ne => assumption); (case q9w => first | exact .cons _ _ .nil | exact .cons _ _ (.cons _ _ .nil)); (case q9z => first | exact Nat.le_of_ble_eq_true rfl | decide); intro _ _ _ _ _ _))))
  k_with "getMethod type:Exception" => ((k_here; k_dflt (refine' method_type ?q9F ?q9X ?q9m (by decide +kernel) ?q9e ?q9h ?_; (case q9F => k_asm); (case q9X => k_asm); (case q9m => exact meta_Exc); (case q9e => first | k_dflt k_is | kernel_rfl); (case q9h => first | k_handed | rfl))))
  k_with "call builtin:Exception.__init__" => ((k_here; k_dflt (refine' initE ?q9F ?q9X ?q9N ?q9off ?q9z ?_; (case q9F => k_asm); (case q9X => k_asm); (case q9N => k_asm); (case q9off => exact List.forall_mem_cons.mpr ⟨Ne.symm (by assumption), by assumption⟩); (case q9z => exact Nat.le_of_ble_eq_true rfl); intro _ _ _ _)))
  k_with "call builtin:len" => ((k_here; k_dflt ((with_reducible show wpAny _ _ (call (Value.builtin "len") [Value.ref _]) _ _ _); (refine' len_strsN ?q9N ?q9m ?q9k ?q9z ?_; (case q9N => k_asm); (case q9m => k_mem); (case q9k => assumption); (case q9z => assumption)))))
  k_with "call builtin:len" => ((k_here; k_dflt ((with_reducible show wpAny _ _ (call (Value.builtin "len") [Value.str (S _) _]) _ _ _); refine len_S rfl (by simp only [List.length_cons]; omega) ?_)))
  k_with "last exec While" => ((k_here; k_dflt (refine WhS.go ?_)))
  k_with "exec While" => ((k_here; k_dflt (refine WhS.go ?_)))
  k_with "exec Raise some none" => ((k_here; k_dflt (refine RzS.go ?_)))
  k_with "call ref" => ((k_here; k_dflt ((with_reducible show wpAny _ _ (call (Value.ref 84) _) _ _ _); (k_dflt (refine' con_same _ ?q9k1 ?q9k2 ?q9k3 ?q9k4 ?q9k5 ?q9kK (reach_con _ _ _ _ _ (by assumption) (by assumption)) ?q9kd ?q9ku ?_); (case q9k1 => k_asm); (case q9k2 => k_asm); (case q9k3 => k_asm); (case q9k4 => k_asm); (case q9k5 => k_asm); (case q9kK => first | exact rfl | assumption); (case q9kd => walk_at "mine room"); (case q9ku => walk_at "mine room"); intro _ _ _ p9 _ _; obtain ⟨_, e9⟩ := p9; subst e9; (try dsimp only); (try k_fold)))))
  k_with "call ref" => ((k_here; k_dflt ((with_reducible show wpAny _ _ (call (Value.ref 77) _) _ _ _); (k_dflt (refine' con_same _ ?q9k1 ?q9k2 ?q9k3 ?q9k4 ?q9k5 ?q9kK (udm_con _ _ _ _ _ (by assumption) (by assumption)) ?q9kd ?q9ku ?_); (case q9k1 => k_asm); (case q9k2 => k_asm); (case q9k3 => k_asm); (case q9k4 => k_asm); (case q9k5 => k_asm); (case q9kK => first | exact rfl | assumption); (case q9kd => walk_at "mine room"); (case q9ku => walk_at "mine room"); intro _ _ _ p9 _ _; subst p9; (try dsimp only); (try k_fold)))))
  k_with "mine all" => (with_reducible assumption)
  k_with "subscriptTail Name Slice str ref" => ((k_here; k_dflt ((with_reducible show wpAny _ _ (subscriptTail _ (Expr.Slice none (some _) none _) (Value.str (S (hostL _)) _) (Value.ref _)) _ _ _); (refine' slice_eq_ns (s := ⟨_, _, _, _, _⟩) ?q9k1 ?q9k2 ?q9k3 ?_ ?q9k4; (case q9k1 => exact slice_topH _ _); (case q9k2 => assumption); (case q9k3 => assumption); (case q9k4 => exact host_size (cons_len (by with_reducible assumption)))); intro _ _ _ _ _)))
  k_with "subscriptTail Name Slice str ref" => ((k_here; k_dflt ((with_reducible show wpAny _ _ (subscriptTail _ (Expr.Slice (some _) none none _) (Value.str (S (wordL _)) _) (Value.ref _)) _ _ _); (refine' slice_eq_sn (s := ⟨_, _, _, _, _⟩) ?q9k1 ?q9k2 ?q9k3 ?_ ?q9k4; (case q9k1 => exact slice_word _); (case q9k2 => assumption); (case q9k3 => assumption); (case q9k4 => exact word_size _)); intro _ _ _ _ _)))
  k_with "subscriptTail Name Slice str ref" => ((k_here; k_dflt ((with_reducible show wpAny _ _ (subscriptTail _ (Expr.Slice (some _) none none _) (Value.str (S (46 :: hostL _)) _) (Value.ref _)) _ _ _); (refine' slice_eq_sn (s := ⟨_, _, _, _, _⟩) ?q9k1 ?q9k2 ?q9k3 ?_ ?q9k4; (case q9k1 => exact slice_rest _); (case q9k2 => assumption); (case q9k3 => assumption); (case q9k4 => exact rest_size (by with_reducible assumption))); intro _ _ _ _ _)))
  k_with "subscriptTail Name Constant str int" => ((k_here; k_dflt ((with_reducible show wpAny _ _ (subscriptTail _ _ (Value.str (S (wordL _)) _) _) _ _ _); refine item0 rfl ?_)))
  k_with "subscriptTail Name BinOp ref int" => ((k_here; k_dflt (refine' item_rules ?q9k1 ?q9k2 ?q9k3 ?q9k4 ?q9k5 ?_; (case q9k1 => exact News.isList (by k_asm) (by k_mem)); (case q9k2 => assumption); (case q9k5 => with_reducible assumption); (case q9k3 => omega); (case q9k4 => omega); intro _)))
  k_with "call type:int" => ((k_here; k_dflt ((with_reducible show wpAny _ _ (call (Value.type "int") [Value.str (S [_]) _]) _ _ _); refine int_digit (nxt_lt _) ?_)))
  k_with "call type:list" => ((k_here; k_dflt ((with_reducible show wpAny _ _ (call (Value.type "list") [Value.str (S _) _]) _ _ _); refine' list_S ?q9hh ?q9F ?q9N ?q9hl ?_; (case q9hh => exact rfl); (case q9F => k_asm); (case q9N => k_asm); (case q9hl => exact lets_1000 _); intro _ _ _ _ _ _ _ l1 _; (try k_lt l1); (try (revert l1; intro _)))))
  k_with "call builtin:str.count" => ((k_here; k_dflt (refine' count_dot (k := ?q9k) rfl lit_dot ?q9ok ?q9ec ?_; (case q9ok => with_reducible assumption); (case q9ec => exact rfl))))
  k_with "binaryOp Mult str int" => ((k_here; k_dflt (refine' str_mulZ ?q9z ?q9h ?_; (case q9z => with_reducible assumption); (case q9h => with_reducible assumption); intro _ _)))
  k_with "mine S" => (first | with_reducible exact rfl | with_reducible exact tosZ rfl (by with_reducible assumption))
  k_with "call builtin:list.append" => ((k_here; k_dflt (refine' append_strs ?q9F ?q9N ?q9U ?q9z ?_; (case q9F => k_asm); (case q9N => k_asm); (case q9U => k_upd); (case q9z => omega); intro _ _ _)))
  k_with "binaryOp Add ref ref" => ((k_here; k_dflt (refine' chars_addC ?q9F ?q9N ?q9a ?q9b ?q9c ?q9z ?_; (case q9F => k_asm); (case q9N => k_asm); (case q9a => k_mem); (case q9b => k_mem); (case q9c => with_reducible assumption); (case q9z => exact lets_1000 _); intro _ _ _ _ l1'; (try k_lt l1'); (try (revert l1'; intro _)))))
  k_with "call builtin:str.join" => ((k_here; k_dflt (refine' join_host ?q9N ?q9m ?q9c ?q9a ?q9b ?_; (case q9N => k_asm); (case q9m => k_mem); (case q9c => with_reducible assumption); (case q9a => exact lets_100 _); (case q9b => with_reducible assumption); intro _ _)))
  k_with "call ref" => ((k_here; k_dflt ((with_reducible show wpAny _ _ (call (Value.ref 109) _) _ _ _); (refine' make109 ?q9F ?q9X ?q9N ?q9z ?_; (case q9F => k_asm); (case q9X => k_asm); (case q9N => k_asm); (case q9z => exact Nat.le_of_ble_eq_true rfl); intro _ _ _ _ _ _; refine wpAny_call ?_; (refine' code_def ?q9k1 ?q9k2 ?q9k3 ?q9k4 ?q9k5 ?q9kA ?q9kF ?q9kK ?q9k6 ?q9k7 ?q9k8 ?q9k9 ?q9kB ?_ ?q9c2 ?q9c3 ?q9c4 ?q9c5; (case q9kA => exact rfl); (case q9kF => exact rfl); (case q9kK => first | exact rfl | assumption); (case q9k1 => k_asm); (case q9k2 => k_asm); (case q9k3 => k_asm); (case q9k4 => k_asm); (case q9k5 => k_asm); (case q9k6 => k_is); (case q9k7 => k_is); (case q9k8 => ktr_room); (case q9k9 => first | exact BindsTo.of_eq rfl | exact binds_K (by k_in) rfl (by k_is) rfl rfl rfl); (case q9c5 => decide); (case q9kB => exact locs rfl); (case q9c2 => exact rfl); (case q9c3 => exact rfl); (case q9c4 => exact rfl); k_whole; intro _ _ _ _ _ _ B' _ _; (try dsimp only); (try k_lift B'); (try (revert B'; intro _)); (try k_fold))))))
  trivial

theorem run_con (w : World) (rA : Addr) (rv : List Value) (rk : Nat) (ns : List Int) (q c : Nat) (line : Int) (t1 t2 t3 : Tok) (news : Led) (hr : (rA, W.listOf rv.toArray rk) ∈ news) (hv : StrsAre rv ((List.range 4).map fun i => S (wordL (ns.getD i 0))))
    (hq : q < 2) (hc : c < 2) :
    ConX w 189 20 [.ref rA, .str (S [97 + c]) t1, .int (q : Int) t2, .int line t3] news
      (fun r nw => ∃ l nl lst t notes q' n, runF ns 15 [97 + c] q [] = some (notes, q') ∧ r = .ref l ∧ nw = (l, W.listOf #[.ref nl, .int (q' : Int) t] 0) :: (nl, W.listOf (strValues lst).toArray n) :: news ∧ lst.map (·.1) = notes.map S ∧ notes.length ≤ 15 ∧ (∀ p ∈ news, p.1 < nl) ∧ nl < l)
      (fun d nw => runF ns 15 [97 + c] q [] = none ∧ (∀ p ∈ news, p ∈ nw) ∧ ∃ od t, (d, od) ∈ nw ∧ NsO od (fun y => if y = PySem.Str.ofString "msg" then some (.str (PySem.Str.ofString "never back") t) else if y = PySem.Str.ofString "lineno" then some (.int line t3) else if y = PySem.Str.ofString "filename" then some (.str (S [97 + c]) t1) else none)) := by
  have ok0 : okSt [97 + c] := by intro x hx; rw [List.mem_singleton.mp hx]; omega
  have len0 : [97 + c].length ≤ 100 := by simp
  unfold ConX
  k_fill
  intro dp un gd cn cs a ccd cl outer A₀ base h₀ L m s Q E mean mg mb B F X N T hk hdp hu hret hexc
  refine wpAny_call ?_
  k_dflt (refine' code_def ?k1 ?k2 ?k3 ?k4 ?k5 ?kA ?kF ?kK ?k6 ?k7 ?k8 ?k9 ?kB ?_ ?c2 ?c3 ?c4 ?c5; (case kA => exact rfl); (case kF => exact rfl); (case kK => first | exact rfl | assumption); (case k1 => k_asm); (case k2 => k_asm); (case k3 => k_asm); (case k4 => k_asm); (case k5 => k_asm); (case k6 => k_is); (case k7 => k_is); (case k8 => ktr_room); (case k9 => exact BindsTo.of_eq rfl); (case c5 => decide); (case kB => exact locs rfl); (case c2 => exact rfl); (case c3 => exact rfl); (case c4 => exact rfl); k_whole; intro g' L' h' FG' F' N' B' X' T'; (try dsimp only); (try k_lift B'); (try k_fold))
  k_steps
  rename Fr _ _ _ _ => F4
  rename News _ _ _ _ => N4
  rename_i lN hA ltN hB
  generalize hres : runF ns 15 [97 + c] q [] = res at *
  refine WhS.ind F4 (fun mm k s' => ∃ st q' notes, RunSt g' L' mm s lN news st q' notes s' ∧ notes.length + k = 15 ∧ okSt st ∧ st.length ≤ notes.length + 1 ∧ q' < 2 ∧ runF ns k st q' notes = res) 15 ?init ?step
  case init => exact ⟨[97 + c], q, [], RunSt.init F4 N4 rfl (host0 c) rfl, rfl, ok0, by simp, hq, hres⟩
  case step =>
    clear F4 N4
    rintro R k s2 hR ⟨st, q', notes, ⟨h, tk, u1, u2, n, v1, v2, v3, lst, rfl, Fs, Ns, elst⟩, ek, okst, elen, hq', eres⟩
    have elst2 : lst.length = notes.length := by have := congrArg List.length elst; simpa using this
    have len1 : st.length ≤ 100 := by omega
    have offN : ∀ p ∈ news, p.1 ≠ lN := fun p hp => Nat.ne_of_lt (ltN p hp)
    have ln16 : notes.length ≤ 1000 := by omega
    cases st with
    | nil =>
      have hE : (!([] : List Nat).isEmpty) = false := rfl
      have er : res = some (notes, q') := by rw [← eres]; cases k <;> rfl
      k_steps
      rename _ ∧ AllLt _ news => hlt
      exact hret _ _ _ _ (by k_asm) (by k_asm) ⟨_, lN, lst, _, notes, q', n, er, rfl, rfl, elst, by omega, ltN, hlt.1⟩
    | cons c1 st =>
      have hE : (!(c1 :: st).isEmpty) = true := rfl
      obtain ⟨c2, rfl, hc2⟩ : ∃ c2, c1 = 97 + c2 ∧ c2 < 2 := by
        rcases okst c1 (.head _) with rfl | rfl
        · exact ⟨0, rfl, by decide⟩
        · exact ⟨1, rfl, by decide⟩
      have okst2 : okSt st := fun x hx => okst x (.tail _ hx)
      have hl2 := hostL_len st
      simp only [List.length_cons] at elen len1
      have len2 : st.length ≤ 100 := by omega
      have len3 : st.length ≤ 1000 := by omega
      obtain ⟨np, enp⟩ : ∃ np, ns.getD (2 * q' + c2) 0 = np := ⟨_, rfl⟩
      have eidx := rules_idx ns q' c2 hq' hc2
      rw [enp] at eidx
      have ecnt : (((97 + c2) :: st).length : Int) + 1 - 2 = (st.length : Int) := by rw [List.length_cons]; omega
      cases k with
      | zero =>
        have e15 : ((notes.length : Int) == 15) = true := by have : notes.length = 15 := by omega
                                                             rw [this]; rfl
        have er : res = none := by rw [← eres]; rfl
        k_steps
        clear hR
        refine RzS.raise rfl ?_
        k_steps
        rename News _ _ _ ((_, excO _ _) :: _) => NR
        rename Fr g' L' _ _ => FR
        rename NsO _ _ => IR
        refine ⟨_, _, _, rfl, X'.keeps FR.keep, (NR _ (.head _)).1, ?_⟩
        k_unfold
        (try dsimp only)
        refine leaveD (by assumption) FR (fun p hp => NR p (.tail _ hp)) (NR _ (.head _)).1 rfl rfl rfl rfl (NR _ (.head _)).2.2 (List.forall_mem_cons.mpr ⟨Ne.symm (by assumption), by assumption⟩) (fun h' R U => ?_)
        (try dsimp only)
        exact hexc _ _ _ _ _ _ FG' U R ⟨er, fun p hp => .tail _ (.tail _ hp), _, _, .head _, IR⟩
      | succ k =>
        have e15 : ((notes.length : Int) == 15) = false := by
          rw [beq_eq_false_iff_ne]; omega
        k_steps
        rw [runF_step ns k c2 st q' notes np enp] at eres
        have lnp := lets_len np
        refine hR k _ (Nat.lt_succ_self k) ⟨lets np ++ st, nxt np, notes ++ [List.replicate st.length 32 ++ lineL q' c2], ?st, by simp; omega, fun x hx => (List.mem_append.mp hx).elim (lets_ok np x) (okst2 x), by simp; omega, nxt_lt _, eres⟩
        refine' ⟨_, _, _, _, _, _, _, _, _, rfl, fold5h s ?F2, news_sub ?N2 ?sub2, ?el2⟩
        case F2 => assumption
        case N2 => assumption
        case sub2 =>
          intro p hp
          rcases List.mem_cons.mp hp with hp | hp
          · rw [hp]; k_mem
          · repeat (first | exact hp | refine List.Mem.tail _ ?_)
        case el2 => simp [elst, lineL]
end
section
open PySem PySem.W PySem.Calls PyProof.Rows
set_option linter.unusedVariables false
set_option linter.unusedSimpArgs false
set_option maxRecDepth 100000
set_option maxHeartbeats 4000000
section
variable {prog : Program} {w : World} {A₀ : Around} {E : Value → Shared → Prop} {s' : Shared} {h₀ h : Heap} {outer : List Env} {L a e d : Addr} {m : PySem.Str → Option Value} {name : PySem.Str} {scope : Scope} {cd : Value} {cl : List (PySem.Str × Addr)}
  {n : PySem.Str} {b₀ : Stmt} {suite : List Stmt} {pos np : Pos} {rest : List ExceptHandler} {Q : Flow → Shared → Prop} {news : List (Addr × Obj)}
  {p : Program} {loose : List PySem.Str} {mg mb : PySem.Str → Option Value}
theorem caughtX (K : Below A₀ h₀ outer h₀) (F : Fr h₀ L h m) (hsm : h.UpToSlots s'.heap) (R : RaisedD h₀ (envX name scope L a cd cl :: outer) e (.ref 109) d news s'.heap)
    (X : (hd.heap_39 w.params).In h₀) (T : TopRead p loose mg mb h₀)
    (k : ∀ h' oe tk, Fr h₀ L h' (fun y => if y = n then some (.ref e) else m y) → News h₀ L h' ((e, oe) :: news) → oe.cls = .ref 109 → oe.dict = some d → (∃ vs, oe.data = .fields vs) →
      wpAny (model prog w) ((A₀.deeper (envX name scope L a cd cl)).mark (some (.ref e))) (execs (b₀ :: suite) (envX name scope L a cd cl))
        (fun f s₄ => wpAny (model prog w) (A₀.deeper (envX name scope L a cd cl)) (do bindName (envX name scope L a cd cl) n .none; unbindBehindTheSuite (envX name scope L a cd cl) n pos) (fun _ s₅ => Q f s₅) E s₄)
        (AsSuiteRaised (model prog w) ((A₀.deeper (envX name scope L a cd cl)).mark (some (.ref e))) (envX name scope L a cd cl) n pos (notedBy (model prog w) ((A₀.deeper (envX name scope L a cd cl)).mark (some (.ref e))) (envX name scope L a cd cl) (cameBackBy (model prog w) (A₀.deeper (envX name scope L a cd cl)) (envX name scope L a cd cl) E)))
        { s' with heap := h', toks := tk })
    (hk : scope.kind = .function := by rfl) (hlo : (envX name scope L a cd cl).kindOf n = some .local := by rfl) (hx : (envX name scope L a cd cl).kindOf (PySem.Str.ofString "NetrcParseError") = some .globalImplicit := by rfl) :
    wpAny (model prog w) (A₀.deeper (envX name scope L a cd cl)) (noteFrame (.ref e) (envX name scope L a cd cl))
      (fun _ s₂ => wpAny (model prog w) (A₀.deeper (envX name scope L a cd cl)) (setFlight (.ref e) none) (fun _ s₃ =>
        wpAny (model prog w) (A₀.deeper (envX name scope L a cd cl)) (handleBy (.ref e) (envX name scope L a cd cl) (.ExceptHandler (some (.Name (PySem.Str.ofString "NetrcParseError") np)) (some n) (b₀ :: suite) pos :: rest)) Q E s₃) E s₂) E s' := by
  obtain ⟨B, hB, hl, hfl⟩ := R
  have hL : B.get? L = none := by
    obtain ⟨_, ⟨L', _, hf, hn', _⟩, _⟩ := hfl.frames
    obtain rfl : L = L' := Option.some.inj hf
    exact hn'
  refine noteD (Around.frames_deeper K.stack) rfl (.inr rfl) hfl fun h₄ x₄ u₄ => flightD x₄ fun h₅ x₅ u₅ => ?_
  have y₅ := x₅.of_base hB
  have F₅ := F.of_stays y₅.stays (hsm.trans (u₄.trans u₅))
  obtain ⟨ob, _, hob, hobc, _⟩ := y₅.there
  obtain ⟨mN, nm, q, bs, sn, sub, ab, col, dd, k0, k1, k2, k3, k5, C⟩ := c109_of (w := w) (h := h₅) (X.keeps F₅.keep)
  refine wpAny_handleBy_cons (codeAny_handlers_test (nameX_K F₅ X T (v := .ref 109) (by kernel_rfl) ?_ hk hx (by decide))) (by intro q; cases q)
  refine wpAny_excMatches_sub_self C.cls hob hobc (by decide) (codeAny_handlers_suite_as ?_)
  refine flightD x₅ fun h₆ x₆ u₆ => ?_
  have y₆ := x₆.of_base hB
  have F₆ := F.of_stays y₆.stays ((hsm.trans (u₄.trans u₅)).trans u₆)
  obtain ⟨oe, vs, hoe, hoec, hoed, hoef⟩ := y₆.there
  have Nl : News h₀ L h₆ news := fun q hq => ⟨x₆.stays _ _ (hl q hq).1, (fun z => by have := (hl q hq).1; rw [z, hL] at this; cases this), (hl q hq).2⟩
  have Ne := News.more F₆ Nl hoe (fun es n q => by rw [hoef] at q; cases q) y₆.new
  refine storeX_L F₆ Ne (fun h₇ F₇ N₇ => ?_) hk hlo
  exact k h₇ oe _ F₇ N₇ hoec hoed ⟨vs, hoef⟩
end

theorem con_useX {w : World} {f : Addr} {need : Nat} {vs : List Value} {news : Led} {Ret : Value → Led → Prop} {Exc : Addr → Led → Prop} {dp un : Nat} {gd : Option (List Code)} {cn : PySem.Str} {cs : Scope} {a : Addr} {ccd : Value} {cl : List (PySem.Str × Addr)} {outer : List Env}
    {A₀ : Around} {base h₀ : Heap} {L : Addr} {m : PySem.Str → Option Value} {s : Shared} {Q E : Value → Shared → Prop} {mean : ExcName → Option Value} {mg mb : PySem.Str → Option Value}
    (B : Below A₀ base outer h₀) (F : Fr h₀ L s.heap m) (X : (hd.heap_39 w.params).In h₀) (N : News h₀ L s.heap news) (T : Top topProg looseX mean mg mb h₀) (hk : cs.kind = .function)
    (C : ConX w f need vs news Ret Exc) (hd : dp + need < recursionLimit) (hu : un + 8 * need < cLine)
    (ret : ∀ r news' h' tk', Fr h₀ L h' m → News h₀ L h' news' → Ret r news' → Q r { s with heap := h', toks := tk' })
    (exc : ∀ e d news' g h' tk', Fr h₀ L g m → g.UpToSlots h' → RaisedD base (envX cn cs L a ccd cl :: outer) e (.ref 109) d news' h' → Exc d news' → E (.ref e) { s with heap := h', toks := tk' }) :
    wpAny (model PySem.Challenge.rw_xe0019_01.row.prog w) (ktrTop dp un gd cn cs L a ccd cl outer) (call (.ref f) vs) Q E s :=
  C dp un gd cn cs a ccd cl outer A₀ base h₀ L m s Q E mean mg mb B F X N T hk hd hu ret exc
noncomputable abbrev ktrTopH (hdl : Option Value) (dp un : Nat) (gd : Option (List Code)) (cn : PySem.Str) (cs : Scope) (L a : Addr) (ccd : Value) (cl : List (PySem.Str × Addr)) (outer : List Env) : Around := { handled := hdl, depth := dp, frames := some (envX cn cs L a ccd cl :: outer), guards := gd, units := un }
/-- a contract that may be used within an except suite -/
noncomputable def ConH (w : World) (f : Addr) (need : Nat) (vs : List Value) (news : Led) (Ret : Value → Led → Prop) : Prop :=
  ∀ (hdl : Option Value) (dp un : Nat) (gd : Option (List Code)) (cn : PySem.Str) (cs : Scope) (a : Addr) (ccd : Value) (cl : List (PySem.Str × Addr)) (outer : List Env)
    (A₀ : Around) (base h₀ : Heap) (L : Addr) (m : PySem.Str → Option Value) (s : Shared) (Q E : Value → Shared → Prop) (mean : ExcName → Option Value) (mg mb : PySem.Str → Option Value),
    Below A₀ base outer h₀ → Fr h₀ L s.heap m → (hd.heap_39 w.params).In h₀ → News h₀ L s.heap news → Top topProg looseX mean mg mb h₀ → cs.kind = .function →
    dp + need < recursionLimit → un + 8 * need < cLine →
    (∀ r news' h' tk', Fr h₀ L h' m → News h₀ L h' news' → Ret r news' → Q r { s with heap := h', toks := tk' }) →
    wpAny (model PySem.Challenge.rw_xe0019_01.row.prog w) (ktrTopH hdl dp un gd cn cs L a ccd cl outer) (call (.ref f) vs) Q E s
theorem con_useH {w : World} {f : Addr} {need : Nat} {vs : List Value} {news : Led} {Ret : Value → Led → Prop} {hdl : Option Value} {dp un : Nat} {gd : Option (List Code)} {cn : PySem.Str} {cs : Scope} {a : Addr} {ccd : Value} {cl : List (PySem.Str × Addr)} {outer : List Env}
    {A₀ : Around} {base h₀ : Heap} {L : Addr} {m : PySem.Str → Option Value} {s : Shared} {Q E : Value → Shared → Prop} {mean : ExcName → Option Value} {mg mb : PySem.Str → Option Value}
    (B : Below A₀ base outer h₀) (F : Fr h₀ L s.heap m) (X : (hd.heap_39 w.params).In h₀) (N : News h₀ L s.heap news) (T : Top topProg looseX mean mg mb h₀) (hk : cs.kind = .function)
    (C : ConH w f need vs news Ret) (hd : dp + need < recursionLimit) (hu : un + 8 * need < cLine)
    (ret : ∀ r news' h' tk', Fr h₀ L h' m → News h₀ L h' news' → Ret r news' → Q r { s with heap := h', toks := tk' }) :
    wpAny (model PySem.Challenge.rw_xe0019_01.row.prog w) (ktrTopH hdl dp un gd cn cs L a ccd cl outer) (call (.ref f) vs) Q E s :=
  C hdl dp un gd cn cs a ccd cl outer A₀ base h₀ L m s Q E mean mg mb B F X N T hk hd hu ret

theorem rg_Ct14_0 : True := by
  k_with_none
  k_with "mine lt" => (first | with_reducible assumption | with_reducible exact cj0 (by with_reducible assumption) | with_reducible exact cj1 (by with_reducible assumption) | with_reducible exact cl1 (by with_reducible assumption) | with_reducible exact cj2 (by with_reducible assumption) | with_reducible exact cl2 (by with_reducible assumption) | with_reducible exact cj3 (by with_reducible assumption) | with_reducible exact cl3 (by with_reducible assumption) | with_reducible exact cj4 (by with_reducible assumption) | with_reducible exact cl4 (by with_reducible assumption) | with_reducible exact cj5 (by with_reducible assumption) | with_reducible exact cl5 (by with_reducible assumption) | with_reducible exact cj6 (by with_reducible assumption) | with_reducible exact cl6 (by with_reducible assumption) | with_reducible exact cj7 (by with_reducible assumption) | with_reducible exact cl7 (by with_reducible assumption) | with_reducible exact cj8 (by with_reducible assumption) | with_reducible exact cl8 (by with_reducible assumption) | with_reducible exact cj9 (by with_reducible assumption) | with_reducible exact cl9 (by with_reducible assumption) | with_reducible exact cj10 (by with_reducible assumption) | with_reducible exact cl10 (by with_reducible assumption) | with_reducible exact cj11 (by with_reducible assumption) | with_reducible exact cl11 (by with_reducible assumption) | with_reducible exact cj12 (by with_reducible assumption) | with_reducible exact cl12 (by with_reducible assumption))
  k_with "mine om" => (first | with_reducible assumption | decide | with_reducible exact rm1 (by with_reducible assumption) | with_reducible exact rm2 (by with_reducible assumption) (by decide) | with_reducible exact rm3 (by with_reducible assumption) (by decide) | with_reducible exact rm9 (by with_reducible assumption) (by decide) | with_reducible exact rm8 (by with_reducible assumption) (by decide) | with_reducible exact rm7 (by with_reducible assumption) (by decide) | with_reducible exact rm4 (by with_reducible assumption) (by decide) | with_reducible exact rm5 (by with_reducible assumption) (by decide) | with_reducible exact rm6 (by with_reducible assumption) (by decide) | with_reducible exact ih2 _ | with_reducible exact ih1 (by with_reducible assumption) | with_reducible exact three_of (by with_reducible assumption) | with_reducible exact two_lt (by with_reducible assumption) | with_reducible exact three_lt (by with_reducible assumption) | with_reducible exact lt_of8 (by with_reducible assumption) (by decide) | with_reducible exact le_of (by with_reducible assumption) (by decide) | with_reducible exact le_of3 (by with_reducible assumption) (by decide) | with_reducible exact le_of4 (by with_reducible assumption) (by decide) | (with_reducible refine Nat.ne_of_lt ?_; walk_at "mine lt") | (with_reducible refine Nat.ne_of_gt ?_; walk_at "mine lt") | with_reducible exact And.left (by with_reducible assumption) | with_reducible exact And.right (by with_reducible assumption))
  k_with "getAttr ref" => ((k_here; k_dflt (refine' readE ?q9F ?q9X ?q9N ?q9m1 ?q9m2 ?q9c ?q9d ?q9f ?q9I ?q9o ?q9v ?q9h ?_; (case q9F => k_asm); (case q9X => k_asm); (case q9N => k_asm); (case q9m1 => assumption); (case q9d => assumption); (case q9m2 => assumption); (case q9c => assumption); (case q9f => assumption); (case q9I => assumption); (case q9o => first | exact .inl rfl | exact .inr (.inl rfl) | exact .inr (.inr rfl)); (case q9v => rfl); (case q9h => rfl))))
  trivial

noncomputable def errText (x : PySem.Str) (line : Int) : PySem.Str := PySem.Str.empty ++ PySem.Str.ofString "never back" ++ PySem.Str.ofString " (" ++ x ++ PySem.Str.ofString ", line " ++ PySem.Str.ofString (toString line) ++ PySem.Str.ofString ")"
theorem str_con (w : World) (e d : Addr) (oe od : Obj) (x : PySem.Str) (hx : x.length ≤ 10) (line : Int) (hl : 0 ≤ line ∧ line < 1000) (t t1 t3 : Tok) (news : Led) (he : (e, oe) ∈ news) (hdm : (d, od) ∈ news) (hc : oe.cls = .ref 109) (hd : oe.dict = some d) (hf : ∃ vs, oe.data = .fields vs)
    (I : NsO od (fun y => if y = PySem.Str.ofString "msg" then some (.str (PySem.Str.ofString "never back") t) else if y = PySem.Str.ofString "lineno" then some (.int line t3) else if y = PySem.Str.ofString "filename" then some (.str (x) t1) else none)) :
    ConH w 106 6 [.ref e] news (fun r ns => ns = news ∧ ∃ t, r = .str (errText x line) t) := by
  unfold ConH
  k_fill
  intro hdl dp un gd cn cs a ccd cl outer A₀ base h₀ L m s Q E mean mg mb B F X N T hk hdp hu hret
  refine wpAny_call ?_
  k_dflt (refine' code_def ?k1 ?k2 ?k3 ?k4 ?k5 ?kA ?kF ?kK ?k6 ?k7 ?k8 ?k9 ?kB ?_ ?c2 ?c3 ?c4 ?c5; (case kA => exact rfl); (case kF => exact rfl); (case kK => first | exact rfl | assumption); (case k1 => k_asm); (case k2 => k_asm); (case k3 => k_asm); (case k4 => k_asm); (case k5 => k_asm); (case k6 => k_is); (case k7 => k_is); (case k8 => ktr_room); (case k9 => exact BindsTo.of_eq rfl); (case c5 => decide); (case kB => exact locs rfl); (case c2 => exact rfl); (case c3 => exact rfl); (case c4 => exact rfl); k_whole; intro g' L' h' FG' F' N' B' X' T'; (try dsimp only); (try k_lift B'); (try k_fold))
  k_steps
  exact hret _ _ _ _ (by k_asm) (by k_asm) ⟨rfl, _, rfl⟩
end
section
open PySem PySem.W PySem.Calls PyProof.Rows
set_option linter.unusedVariables false
set_option linter.unusedSimpArgs false
set_option maxRecDepth 100000
/-! the plain law: the stack machine `runF` and the recursion `callF` agree -/
theorem runF_nil (ns : List Int) (k q : Nat) (notes : List (List Nat)) : runF ns k [] q notes = some (notes, q) := by cases k <;> rfl
theorem runF_cons (ns : List Int) (k c : Nat) (st : List Nat) (q : Nat) (notes : List (List Nat)) :
    runF ns (k + 1) ((97 + c) :: st) q notes = runF ns k (lets (ns.getD (2 * q + c) 0) ++ st) (nxt (ns.getD (2 * q + c) 0)) (notes ++ [List.replicate st.length 32 ++ lineL q c]) := by
  rw [runF, Nat.add_sub_cancel_left]
theorem runF_mono (ns : List Int) : ∀ (k : Nat) (st : List Nat) (q : Nat) (notes : List (List Nat)) (r : List (List Nat) × Nat), runF ns k st q notes = some r → runF ns (k + 1) st q notes = some r
  | k, [], q, notes, r, h => by rw [runF_nil] at h ⊢; exact h
  | 0, _ :: _, _, _, _, h => by cases h
  | k + 1, c :: st, q, notes, r, h => by
    rw [runF] at h ⊢
    exact runF_mono ns k _ _ _ _ h
theorem runF_monoN (ns : List Int) {k j : Nat} {st : List Nat} {q : Nat} {notes : List (List Nat)} {r : List (List Nat) × Nat} (h : runF ns k st q notes = some r) (hj : k ≤ j) : runF ns j st q notes = some r := by
  induction hj with
  | refl => exact h
  | step _ ih => exact runF_mono ns _ _ _ _ _ ih
theorem runF_prefix (ns : List Int) : ∀ (k : Nat) (a b : List Nat) (q : Nat) (notes notes' : List (List Nat)), (runF ns k (a ++ b) q notes).isSome = true → (runF ns k a q notes').isSome = true
  | k, [], b, q, notes, notes', _ => by rw [runF_nil]; rfl
  | 0, c :: a, b, q, notes, notes', h => by cases h
  | k + 1, c :: a, b, q, notes, notes', h => by
    rw [List.cons_append, runF, ← List.append_assoc] at h
    rw [runF]
    exact runF_prefix ns k _ _ _ _ _ h
theorem goF_run {ns : List Int} {rec : Nat → Nat → Nat → Told3}
    (hr : ∀ st c d n2 p2 s2, rec st c d = some (n2, p2, s2) → ∀ rest notes k, rest.length = d → runF ns (k + n2.length) ((97 + c) :: rest) st notes = runF ns k rest s2 (notes ++ n2)) (deep : Nat) :
    ∀ (ls : List Nat) (q : Nat) (n p n' p' : List (List Nat)) (s' : Nat), okSt ls → goF rec ls deep q n p = some (n', p', s') →
      ∃ m, n' = n ++ m ∧ ∀ rest notes k, rest.length = deep → runF ns (k + m.length) (ls ++ rest) q notes = runF ns k rest s' (notes ++ m)
  | [], q, n, p, n', p', s', _, h => by
    simp only [goF, Option.some.injEq, Prod.mk.injEq] at h
    obtain ⟨rfl, rfl, rfl⟩ := h
    exact ⟨[], by simp, fun rest notes k _ => by simp⟩
  | x :: ls, q, n, p, n', p', s', ok, h => by
    unfold goF at h
    obtain ⟨c, rfl⟩ : ∃ c, x = 97 + c := by
      rcases ok x (.head _) with rfl | rfl
      · exact ⟨0, rfl⟩
      · exact ⟨1, rfl⟩
    rw [Nat.add_sub_cancel_left] at h
    cases e : rec q c (deep + ls.length) with
    | none => rw [e] at h; cases h
    | some v =>
      obtain ⟨n2, p2, s2⟩ := v
      rw [e] at h
      obtain ⟨m, hm, hrun⟩ := goF_run hr deep ls s2 _ _ n' p' s' (fun y hy => ok y (.tail _ hy)) h
      refine ⟨n2 ++ m, by rw [hm, List.append_assoc], fun rest notes k hk => ?_⟩
      have := hr q c (deep + ls.length) n2 p2 s2 e (ls ++ rest) notes (k + m.length) (by rw [List.length_append, hk, Nat.add_comm])
      rw [List.length_append, List.cons_append, show k + (n2.length + m.length) = k + m.length + n2.length by omega, this, hrun rest _ k hk, List.append_assoc]
theorem callF_run (ns : List Int) : ∀ (f st c deep : Nat) (above : List Int) (n p : List (List Nat)) (s : Nat), callF ns f st c deep above = some (n, p, s) →
    ∀ rest notes k, rest.length = deep → runF ns (k + n.length) ((97 + c) :: rest) st notes = runF ns k rest s (notes ++ n)
  | 0, st, c, deep, above, n, p, s, h => by cases h
  | f + 1, st, c, deep, above, n, p, s, h => by
    rw [callF_succ] at h
    split at h
    · cases h
    · intro rest notes k hk
      obtain ⟨m, hm, hrun⟩ := goF_run (ns := ns) (fun st c d n2 p2 s2 e => callF_run ns f st c d _ n2 p2 s2 e) deep _ _ _ _ n p s (lets_ok _) h
      subst hm
      rw [List.length_append, List.length_singleton, show k + (1 + m.length) = (k + m.length) + 1 by omega, runF_cons, hrun rest _ k hk, hk, List.append_assoc]
theorem goF_page {rec : Nat → Nat → Nat → Told3} (hr : ∀ st c d n2 p2 s2, rec st c d = some (n2, p2, s2) → n2 = p2.map (List.replicate d 32 ++ ·)) (deep : Nat) :
    ∀ (ls : List Nat) (q : Nat) (n p n' p' : List (List Nat)) (s' : Nat), n = p.map (List.replicate deep 32 ++ ·) → goF rec ls deep q n p = some (n', p', s') → n' = p'.map (List.replicate deep 32 ++ ·)
  | [], q, n, p, n', p', s', e, h => by
    simp only [goF, Option.some.injEq, Prod.mk.injEq] at h
    obtain ⟨rfl, rfl, rfl⟩ := h
    exact e
  | x :: ls, q, n, p, n', p', s', e, h => by
    unfold goF at h
    cases e2 : rec q (x - 97) (deep + ls.length) with
    | none => rw [e2] at h; cases h
    | some v =>
      obtain ⟨n2, p2, s2⟩ := v
      rw [e2] at h
      refine goF_page hr deep ls s2 _ _ n' p' s' ?_ h
      rw [e, hr _ _ _ _ _ _ e2, List.map_append, List.map_map]
      congr 1
      refine List.map_congr_left fun a _ => ?_
      simp only [Function.comp_apply]
      rw [← List.append_assoc, List.replicate_append_replicate]
theorem callF_page (ns : List Int) : ∀ (f st c deep : Nat) (above : List Int) (n p : List (List Nat)) (s : Nat), callF ns f st c deep above = some (n, p, s) → n = p.map (List.replicate deep 32 ++ ·)
  | 0, st, c, deep, above, n, p, s, h => by cases h
  | f + 1, st, c, deep, above, n, p, s, h => by
    rw [callF_succ] at h
    split at h
    · cases h
    · exact goF_page (fun st c d n2 p2 s2 e => callF_page ns f st c d _ n2 p2 s2 e) deep _ _ [List.replicate deep 32 ++ lineL st c] [lineL st c] n p s rfl h
theorem goF_short {rec : Nat → Nat → Nat → Told3} {B : Nat} (hr : ∀ st c d n2 p2 s2, st < 2 → c < 2 → rec st c d = some (n2, p2, s2) → n2.length + 1 ≤ B ∧ s2 < 2) (deep : Nat) :
    ∀ (ls : List Nat) (q : Nat) (n p n' p' : List (List Nat)) (s' : Nat), okSt ls → q < 2 → goF rec ls deep q n p = some (n', p', s') → n'.length + ls.length ≤ n.length + ls.length * B ∧ s' < 2
  | [], q, n, p, n', p', s', _, hq, h => by
    simp only [goF, Option.some.injEq, Prod.mk.injEq] at h
    obtain ⟨rfl, rfl, rfl⟩ := h
    exact ⟨by simp, hq⟩
  | x :: ls, q, n, p, n', p', s', ok, hq, h => by
    unfold goF at h
    cases e2 : rec q (x - 97) (deep + ls.length) with
    | none => rw [e2] at h; cases h
    | some v =>
      obtain ⟨n2, p2, s2⟩ := v
      rw [e2] at h
      have hx : x - 97 < 2 := by rcases ok x (.head _) with rfl | rfl <;> decide
      obtain ⟨a, b⟩ := hr _ _ _ _ _ _ hq hx e2
      obtain ⟨i1, i2⟩ := goF_short hr deep ls s2 _ _ n' p' s' (fun y hy => ok y (.tail _ hy)) b h
      refine ⟨?_, i2⟩
      simp only [List.length_append, List.length_cons, Nat.succ_mul] at i1 ⊢
      omega
theorem short_z {z a b P : Nat} (i1 : a + z ≤ b + z * P) (h4 : z ≤ 2) (h6 : 1 ≤ P) (hb : b = 1) : a + 1 ≤ P * 2 := by
  have : z = 0 ∨ z = 1 ∨ z = 2 := by omega
  rcases this with rfl | rfl | rfl <;> omega
theorem callF_short (ns : List Int) : ∀ (f st c deep : Nat) (above : List Int) (n p : List (List Nat)) (s : Nat), above.length + f = 5 → OkA above → st < 2 → c < 2 → callF ns f st c deep above = some (n, p, s) → n.length + 1 ≤ 2 ^ (f - 1) ∧ s < 2 := by
  intro f
  induction f with
  | zero => intro st c deep above n p s _ _ _ _ h; cases h
  | succ f ih =>
    intro st c deep above n p s hl hok hs hc h
    rw [callF_succ] at h
    split at h
    · cases h
    · rename_i hno
      have hok2 := okA_add hok hs hc (Bool.eq_false_iff.mpr hno)
      have hle := okA_len hok2
      rw [List.length_append, List.length_singleton] at hle
      cases f with
      | zero => exfalso; omega
      | succ g =>
        obtain ⟨i1, i2⟩ := goF_short (fun st c d n2 p2 s2 h1 h2 e => ih st c d _ n2 p2 s2 (by rw [List.length_append, List.length_singleton]; omega) hok2 h1 h2 e) deep _ _ _ _ n p s (lets_ok _) (nxt_lt _) h
        refine ⟨?_, i2⟩
        rw [Nat.add_sub_cancel, Nat.pow_succ]
        rw [Nat.add_sub_cancel] at i1
        exact short_z i1 (lets_len _) Nat.one_le_two_pow rfl
noncomputable def Hk (ns : List Int) (k st c : Nat) : Prop := (runF ns k [97 + c] st []).isSome = true
theorem Hk.mono {ns : List Int} {k j st c : Nat} (h : Hk ns k st c) (hj : k ≤ j) : Hk ns j st c := by
  unfold Hk at h ⊢
  obtain ⟨r, hr⟩ := Option.isSome_iff_exists.mp h
  rw [runF_monoN ns hr hj]; rfl
theorem Hk.least {ns : List Int} {st c : Nat} : ∀ {k : Nat}, Hk ns k st c → ∃ j, j ≤ k ∧ Hk ns j st c ∧ ∀ i, i < j → ¬ Hk ns i st c
  | 0, h => ⟨0, Nat.le_refl _, h, fun i hi => absurd hi (Nat.not_lt_zero i)⟩
  | k + 1, h => by
    by_cases h2 : Hk ns k st c
    · obtain ⟨j, a, b, d⟩ := Hk.least h2
      exact ⟨j, Nat.le_succ_of_le a, b, d⟩
    · exact ⟨k + 1, Nat.le_refl _, h, fun i hi hi2 => h2 (hi2.mono (Nat.le_of_lt_succ hi))⟩
theorem runF_notes (ns : List Int) : ∀ (k : Nat) (st : List Nat) (q : Nat) (notes notes' : List (List Nat)), (runF ns k st q notes).isSome = (runF ns k st q notes').isSome
  | k, [], q, notes, notes' => by rw [runF_nil, runF_nil]; rfl
  | 0, _ :: _, _, _, _ => rfl
  | k + 1, c :: st, q, notes, notes' => by
    rw [runF, runF]
    exact runF_notes ns k _ _ _ _
noncomputable def StepS (ns : List Int) (rec : Nat → Nat → Nat → Told3) : Prop :=
  ∀ st c d n2 p2 s2, rec st c d = some (n2, p2, s2) → ∀ rest notes notes' k, (runF ns (k + n2.length) ((97 + c) :: rest) st notes).isSome = (runF ns k rest s2 notes').isSome
theorem goF_runS {ns : List Int} {rec : Nat → Nat → Nat → Told3} (hr : StepS ns rec) (deep : Nat) :
    ∀ (ls : List Nat) (q : Nat) (n p n' p' : List (List Nat)) (s' : Nat), okSt ls → goF rec ls deep q n p = some (n', p', s') →
      ∃ m, n' = n ++ m ∧ ∀ rest notes notes' k, (runF ns (k + m.length) (ls ++ rest) q notes).isSome = (runF ns k rest s' notes').isSome
  | [], q, n, p, n', p', s', _, h => by
    simp only [goF, Option.some.injEq, Prod.mk.injEq] at h
    obtain ⟨rfl, rfl, rfl⟩ := h
    exact ⟨[], by simp, fun rest notes notes' k => runF_notes ns k _ _ _ _⟩
  | x :: ls, q, n, p, n', p', s', ok, h => by
    unfold goF at h
    obtain ⟨c, rfl⟩ : ∃ c, x = 97 + c := by
      rcases ok x (.head _) with rfl | rfl
      · exact ⟨0, rfl⟩
      · exact ⟨1, rfl⟩
    rw [Nat.add_sub_cancel_left] at h
    cases e : rec q c (deep + ls.length) with
    | none => rw [e] at h; cases h
    | some v =>
      obtain ⟨n2, p2, s2⟩ := v
      rw [e] at h
      obtain ⟨m, hm, hrun⟩ := goF_runS hr deep ls s2 _ _ n' p' s' (fun y hy => ok y (.tail _ hy)) h
      refine ⟨n2 ++ m, by rw [hm, List.append_assoc], fun rest notes notes' k => ?_⟩
      rw [List.length_append, List.cons_append, show k + (n2.length + m.length) = k + m.length + n2.length by omega, hr q c (deep + ls.length) n2 p2 s2 e (ls ++ rest) notes [] (k + m.length), hrun rest [] notes' k]
theorem callF_runS (ns : List Int) : ∀ (f : Nat) (above : List Int), StepS ns (fun st c d => callF ns f st c d above)
  | 0, above => fun st c d n2 p2 s2 h => by cases h
  | f + 1, above => fun st c d n2 p2 s2 h rest notes notes' k => by
    dsimp only at h
    rw [callF_succ] at h
    split at h
    · cases h
    · obtain ⟨m, hm, hrun⟩ := goF_runS (ns := ns) (callF_runS ns f _) d _ _ _ _ n2 p2 s2 (lets_ok _) h
      subst hm
      rw [List.length_append, List.length_singleton, show k + (1 + m.length) = (k + m.length) + 1 by omega, runF_cons, hrun rest _ notes' k]
theorem goF_some {ns : List Int} {rec : Nat → Nat → Nat → Told3} (k : Nat) (hr : StepS ns rec)
    (hf : ∀ st c d n2 p2 s2, st < 2 → c < 2 → rec st c d = some (n2, p2, s2) → s2 < 2)
    (hs : ∀ st c d, st < 2 → c < 2 → Hk ns k st c → (rec st c d).isSome = true) (deep : Nat) :
    ∀ (ls : List Nat) (q : Nat) (n p notes : List (List Nat)), okSt ls → q < 2 → (runF ns k ls q notes).isSome = true → (goF rec ls deep q n p).isSome = true
  | [], q, n, p, notes, _, hq, h => rfl
  | x :: ls, q, n, p, notes, ok, hq, h => by
    obtain ⟨c, rfl, hc⟩ : ∃ c, x = 97 + c ∧ c < 2 := by
      rcases ok x (.head _) with rfl | rfl
      · exact ⟨0, rfl, by decide⟩
      · exact ⟨1, rfl, by decide⟩
    have h1 : Hk ns k q c := runF_prefix ns k [97 + c] ls q notes [] h
    obtain ⟨⟨n2, p2, s2⟩, e⟩ := Option.isSome_iff_exists.mp (hs q c (deep + ls.length) hq hc h1)
    unfold goF
    rw [Nat.add_sub_cancel_left, e]
    obtain ⟨r, hr2⟩ := Option.isSome_iff_exists.mp h
    have h2 : (runF ns k ls s2 []).isSome = true := by
      rw [← hr q c (deep + ls.length) n2 p2 s2 e ls notes [] k, runF_monoN ns hr2 (Nat.le_add_right _ _)]; rfl
    exact goF_some k hr hf hs deep ls s2 _ _ _ (fun y hy => ok y (.tail _ hy)) (hf _ _ _ _ _ _ hq hc e) h2
theorem callF_some (ns : List Int) : ∀ (f st c deep : Nat) (above : List Int) (k : Nat), above.length + f = 5 → OkA above → st < 2 → c < 2 → Hk ns k st c → (∀ s' c' : Nat, s' < 2 → c' < 2 → 2 * (s' : Int) + (c' : Int) ∈ above → ¬ Hk ns k s' c') → (callF ns f st c deep above).isSome = true
  | 0, st, c, deep, above, k, hl, hok, _, _, _, _ => absurd (okA_len hok) (by omega)
  | f + 1, st, c, deep, above, k, hl, hok, hs, hc, hk, hab => by
    obtain ⟨j, hj, hkj, hmin⟩ := Hk.least hk
    rw [callF_succ]
    have hno : (above.any fun x => x == 2 * (st : Int) + (c : Int)) = false := by
      rw [Bool.eq_false_iff]
      intro q
      obtain ⟨a, ha, e⟩ := List.any_eq_true.mp q
      rw [beq_iff_eq.mp e] at ha
      exact hab st c hs hc ha hk
    rw [if_neg (by rw [hno]; decide)]
    obtain ⟨i, rfl⟩ : ∃ i, j = i + 1 := by
      cases j with
      | zero => exact absurd hkj (by unfold Hk; rw [runF]; decide)
      | succ i => exact ⟨i, rfl⟩
    have hok2 := okA_add hok hs hc hno
    have hrun : (runF ns i (lets (ns.getD (2 * st + c) 0)) (nxt (ns.getD (2 * st + c) 0)) [List.replicate 0 32 ++ lineL st c]).isSome = true := by
      unfold Hk at hkj
      rw [runF_cons, List.append_nil] at hkj
      exact hkj
    refine goF_some i (callF_runS ns f _) (fun st' c' d n2 p2 s2 h1 h2 e => (callF_short ns f st' c' d _ n2 p2 s2 (by simp; omega) hok2 h1 h2 e).2) (fun st' c' d h1 h2 h3 => ?_) deep _ _ _ _ _ (lets_ok _) (nxt_lt _) hrun
    refine callF_some ns f st' c' d _ i (by simp; omega) hok2 h1 h2 h3 (fun s'' c'' a1 a2 hm hh => ?_)
    rcases List.mem_append.mp hm with hm | hm
    · exact hab s'' c'' a1 a2 hm (hh.mono (by omega))
    · have e := List.mem_singleton.mp hm
      obtain ⟨rfl, rfl⟩ : s'' = st ∧ c'' = c := by omega
      exact hmin i (by omega) hh
theorem okA_nil : OkA [] := ⟨List.nodup_nil, fun a h => by cases h⟩
/-- what the run tells and what the recursion says -/
theorem run_call (ns : List Int) {q c : Nat} (hq : q < 2) (hc : c < 2) : runF ns 15 [97 + c] q [] = (callF ns 5 q c 0 []).map fun r => (r.1, r.2.2) := by
  cases e : callF ns 5 q c 0 [] with
  | some v =>
    obtain ⟨n, p, s⟩ := v
    have hs := (callF_short ns 5 q c 0 [] n p s rfl okA_nil hq hc e).1
    have := callF_run ns 5 q c 0 [] n p s e [] [] (15 - n.length) rfl
    rw [show 15 - n.length + n.length = 15 by simp at hs; omega, runF_nil] at this
    rw [this]; rfl
  | none =>
    cases e2 : runF ns 15 [97 + c] q [] with
    | none => rfl
    | some r =>
      have := callF_some ns 5 q c 0 [] 15 rfl okA_nil hq hc (by unfold Hk; rw [e2]; rfl) (fun _ _ _ _ h => by cases h)
      rw [e] at this
      cases this
theorem call_page0 (ns : List Int) {q c : Nat} {n p : List (List Nat)} {s : Nat} (h : callF ns 5 q c 0 [] = some (n, p, s)) : n = p := by
  rw [callF_page ns 5 q c 0 [] n p s h]
  simp
end
section
open PySem PySem.W PySem.Calls PyProof.Rows
set_option linter.unusedVariables false
set_option linter.unusedSimpArgs false
set_option maxRecDepth 100000
/-! the plain law: the tokens of the file -/
noncomputable def kindR (n : Int) : Nat := ((n.fdiv 18).fmod 3).toNat
theorem kindR_le (n : Int) : kindR n ≤ 2 := by
  have h1 : (n.fdiv 18).fmod 3 < 3 := Int.fmod_lt_of_pos _ (by decide)
  unfold kindR; omega
noncomputable def pend (k : Nat) : Nat := if k = 1 then 1 else 0
theorem pend_le (k : Nat) : pend k ≤ 1 := by unfold pend; split <;> decide
theorem pend_pos (k : Nat) (ln : Int) (sk : Nat) : ln + sk + (if k = 1 then 0 else 1) + pend k = ln + sk + 1 := by
  unfold pend; split <;> simp
theorem row_split (n : Int) : rowL n ++ [10] = bodyT (kindR n) (wordL n) ++ List.replicate (pend (kindR n)) 10 := by
  have hk := kindR_le n
  unfold rowL
  show [wordL n, 34 :: (wordL n ++ [34]), 92 :: wordL n].getD (kindR n) [] ++ [10] = _
  generalize kindR n = k at hk ⊢
  match k, hk with
  | 0, _ => simp [bodyT, pend]
  | 1, _ => simp [bodyT, pend]
  | 2, _ => simp [bodyT, pend]
theorem word_plain (n : Int) : ∀ b ∈ wordL n, Plain b := by
  intro b hb
  rcases List.mem_cons.mp hb with rfl | hb
  · have := nxt_lt n
    refine ⟨?_, ?_, ?_, ?_, ?_, ?_, ?_⟩ <;> omega
  · rcases lets_ok n b hb with rfl | rfl <;> (refine ⟨?_, ?_, ?_, ?_, ?_, ?_, ?_⟩ <;> decide)
theorem word_len3 (n : Int) : (wordL n).length ≤ 3 := by
  have := lets_len n
  simp only [wordL, List.length_cons]; omega
theorem word_ne (n : Int) : wordL n ≠ [] := by simp [wordL]
noncomputable def OkT (l : List Nat) (m : Nat) : Prop := (∀ b ∈ l, b < 128) ∧ l.length ≤ m
theorem OkT.app {a b : List Nat} {i j : Nat} (x : OkT a i) (y : OkT b j) : OkT (a ++ b) (i + j) := by
  refine ⟨fun c hc => (List.mem_append.mp hc).elim (x.1 c) (y.1 c), ?_⟩
  have := x.2; have := y.2
  rw [List.length_append]; omega
theorem OkT.rep {k m : Nat} (h : k ≤ m) : OkT (List.replicate k 10) m := ⟨fun b hb => by rw [(List.mem_replicate.mp hb).2]; decide, by simpa using h⟩
theorem OkT.plain {l : List Nat} {m : Nat} (h : ∀ b ∈ l, Plain b) (hl : l.length ≤ m) : OkT l m := ⟨fun b hb => (h b hb).1, hl⟩
theorem OkT.body {l : List Nat} {m k : Nat} (h : OkT l m) : OkT (bodyT k l) (m + 2) := by
  match k with
  | 0 =>
    refine ⟨fun b hb => ?_, by have := h.2; simp [bodyT]; omega⟩
    rcases List.mem_append.mp hb with hb | hb
    · exact h.1 b hb
    · rw [List.mem_singleton.mp hb]; decide
  | 1 =>
    refine ⟨fun b hb => ?_, by have := h.2; simp [bodyT]; omega⟩
    rcases List.mem_cons.mp hb with rfl | hb
    · decide
    · rcases List.mem_append.mp hb with hb | hb
      · exact h.1 b hb
      · rw [List.mem_singleton.mp hb]; decide
  | k + 2 =>
    refine ⟨fun b hb => ?_, by have := h.2; simp [bodyT]; omega⟩
    rcases List.mem_cons.mp hb with rfl | hb
    · decide
    · rcases List.mem_append.mp hb with hb | hb
      · exact h.1 b hb
      · rw [List.mem_singleton.mp hb]; decide
/-- the rows behind the rules -/
noncomputable def tailT (ns : List Int) : List Nat := pg (ns.map callL)
theorem tailT_cons (n : Int) (ns : List Int) : tailT (n :: ns) = callL n ++ 10 :: tailT ns := by simp [tailT, pg]
theorem tailT_nil : tailT [] = [] := rfl
noncomputable def quoted (n : Int) : Nat := if (n.fdiv 3).fmod 2 = 1 then 1 else 0
theorem fmod3 (n : Int) : n.fmod 3 = 0 ∨ n.fmod 3 = 1 ∨ n.fmod 3 = 2 := by
  have h1 : 0 ≤ n.fmod 3 := Int.fmod_nonneg_of_pos _ (by decide)
  have h2 : n.fmod 3 < 3 := Int.fmod_lt_of_pos _ (by decide)
  omega
theorem call_skip {n : Int} (h : n.fmod 3 = 2) : callL n = [] := by
  have e : letL n = [] := by unfold letL; rw [h]; rfl
  unfold callL; rw [if_pos (.inl e), e]
theorem call_body {n : Int} {c : Nat} (h : n.fmod 3 = c) (hc : c < 2) : callL n ++ [10] = bodyT (quoted n) [97 + c] ++ List.replicate (pend (quoted n)) 10 := by
  have e : letL n = [97 + c] := by
    unfold letL; rw [h]
    have : c = 0 ∨ c = 1 := by omega
    rcases this with rfl | rfl <;> rfl
  unfold callL quoted
  rw [e]
  by_cases hq : (n.fdiv 3).fmod 2 = 1
  · rw [if_neg (by simp [hq]), if_pos hq]; simp [bodyT, pend]
  · rw [if_pos (.inr hq), if_neg hq]; simp [bodyT, pend]
theorem call_len (n : Int) : OkT (callL n) 3 := by
  rcases fmod3 n with h | h | h
  · have e : letL n = [97] := by unfold letL; rw [h]; rfl
    unfold callL; rw [e]; split
    · exact ⟨by decide, by decide⟩
    · exact ⟨by decide, by decide⟩
  · have e : letL n = [98] := by unfold letL; rw [h]; rfl
    unfold callL; rw [e]; split
    · exact ⟨by decide, by decide⟩
    · exact ⟨by decide, by decide⟩
  · rw [call_skip h]; exact ⟨by simp, by simp⟩
theorem tail_ok : ∀ (ns : List Int), OkT (tailT ns) (4 * ns.length)
  | [] => ⟨by simp [tailT_nil], by simp [tailT_nil]⟩
  | n :: ns => by
    rw [tailT_cons]
    have h1 := call_len n
    have h2 := tail_ok ns
    have := (h1.app (OkT.app (a := [10]) (i := 1) ⟨by decide, by decide⟩ h2))
    refine ⟨this.1, ?_⟩
    have := this.2
    simp only [List.length_append, List.length_cons, List.length_nil] at this ⊢
    omega
theorem tail_split {n : Int} {c : Nat} (ns : List Int) (h : n.fmod 3 = c) (hc : c < 2) : tailT (n :: ns) = bodyT (quoted n) [97 + c] ++ (List.replicate (pend (quoted n)) 10 ++ tailT ns) := by
  rw [tailT_cons, ← List.append_assoc, ← call_body h hc]; simp
theorem tail_skip {n : Int} (ns : List Int) (h : n.fmod 3 = 2) (sk : Nat) : List.replicate sk 10 ++ tailT (n :: ns) = List.replicate (sk + 1) 10 ++ tailT ns := by
  rw [tailT_cons, call_skip h, List.nil_append, List.replicate_succ']
  simp
/-- the text from rule `i` on -/
noncomputable def ruleT : List Int → List Int → List Nat
  | [], cs => tailT cs
  | n :: ns, cs => bodyT (kindR n) (wordL n) ++ (List.replicate (pend (kindR n)) 10 ++ ruleT ns cs)
theorem ruleT_ok : ∀ (ns cs : List Int), OkT (ruleT ns cs) (6 * ns.length + 4 * cs.length)
  | [], cs => by simpa [ruleT] using tail_ok cs
  | n :: ns, cs => by
    have h := ((OkT.plain (word_plain n) (word_len3 n)).body (k := kindR n)).app ((OkT.rep (pend_le (kindR n))).app (ruleT_ok ns cs))
    refine ⟨h.1, Nat.le_trans h.2 ?_⟩
    simp only [List.length_cons]; omega
theorem rule_file : ∀ (ns cs : List Int), ruleT ns cs = pg (ns.map rowL ++ cs.map callL)
  | [], cs => rfl
  | n :: ns, cs => by
    have e : pg ((n :: ns).map rowL ++ cs.map callL) = (rowL n ++ [10]) ++ pg (ns.map rowL ++ cs.map callL) := by simp [pg]
    rw [e, row_split, ← rule_file ns cs, ruleT, List.append_assoc]
theorem file_rules (n0 n1 n2 n3 n4 n5 n6 : Int) : fileL n0 n1 n2 n3 n4 n5 n6 = ruleT [n0, n1, n2, n3] [n4, n5, n6] := by
  rw [rule_file]; rfl
end
section
open PySem PySem.W PySem.Calls PyProof.Rows
set_option linter.unusedVariables false
set_option linter.unusedSimpArgs false
set_option maxRecDepth 100000
/-! helpers for the law's loop -/
theorem eqvAll_strs : ∀ (l : List PySem.Str), PyData.eqvAll (l.map PyData.str) (l.map PyData.str) = true
  | [] => by simp [PyData.eqvAll]
  | a :: r => by
    have := eqvAll_strs r
    simp only [List.map_cons, PyData.eqvAll, this, Bool.and_true]
    simp [PyData.eqv]
section
variable {prog : Program} {w : World} {A : Around} {E : Value → Shared → Prop} {s : Shared} {Q : Value → Shared → Prop} {h₀ : Heap} {L : Addr} {m : PySem.Str → Option Value} {news : Led}
/-- two told lists: notes and state alike -/
theorem told_ne {a b nl nl2 : Addr} {k k2 n n2 : Nat} {i j : Int} {ti tj : Tok} {lst lst2 : List (PySem.Str × Tok)} (N : News h₀ L s.heap news)
    (m1 : (a, W.listOf #[.ref nl, .int i ti] k) ∈ news) (m2 : (nl, W.listOf (strValues lst).toArray n) ∈ news) (m3 : (b, W.listOf #[.ref nl2, .int j tj] k2) ∈ news) (m4 : (nl2, W.listOf (strValues lst2).toArray n2) ∈ news)
    (e : lst.map (·.1) = lst2.map (·.1)) (ei : i = j) (h1 : ∀ q ∈ lst.map (fun q : PySem.Str × Tok => q.1), PyData.strOk q = true) (hu : A.units + 64 < cLine) (h : Q (.bool false) s) : wpAny (model prog w) A (compareOp .NotEq (.ref a) (.ref b)) Q E s := by
  subst ei
  have c1 := canLay_strs _ h1
  have c2 := depth_strs (lst.map (fun q : PySem.Str × Tok => q.1))
  have c3 := eqvAll_strs (lst.map (fun q : PySem.Str × Tok => q.1))
  have ra : Reads s.heap (.ref a) (.list [.list ((lst.map (fun q : PySem.Str × Tok => q.1)).map PyData.str), .int i]) _ :=
    reads_list_at (N.get m1) rfl rfl (.cons (by rw [List.map_map]; exact reads_strs (N.get m2)) (.cons (.int _ _) .nil))
  have rb : Reads s.heap (.ref b) (.list [.list ((lst.map (fun q : PySem.Str × Tok => q.1)).map PyData.str), .int i]) _ :=
    reads_list_at (N.get m3) rfl rfl (.cons (by rw [show lst.map (fun q : PySem.Str × Tok => q.1) = lst2.map (fun q : PySem.Str × Tok => q.1) from e, List.map_map]; exact reads_strs (N.get m4)) (.cons (.int _ _) .nil))
  have sh : SeqAt.shaped (.list [.list ((lst.map (fun q : PySem.Str × Tok => q.1)).map PyData.str), .int i]) = true := by
    simp only [SeqAt.shaped, PyData.canLay0, PyData.canLayAll0, PyData.depth, PyData.depthAll, c1, c2]
    decide
  refine ne_dataH ra rb sh sh hu ?_
  have : PyData.eqv (.list [.list ((lst.map (fun q : PySem.Str × Tok => q.1)).map PyData.str), .int i]) (.list [.list ((lst.map (fun q : PySem.Str × Tok => q.1)).map PyData.str), .int i]) = true := by
    simp only [PyData.eqv, PyData.eqvAll, c3]
    simp
  rw [this]; exact h
theorem reads_strsAre {D : Addr} {vs : List Value} {ys : List PySem.Str} {n : Nat} {h : Heap} (hl : h.get? D = some (W.listOf vs.toArray n)) (hi : StrsAre vs ys) : Reads h (.ref D) (.list (ys.map PyData.str)) [D] := by
  refine reads_newData ⟨_, hl, rfl, _, rfl⟩ ?_
  clear hl
  induction hi with
  | nil => exact .nil
  | cons a t _ ih => exact .cons (.str _ _) ih
/-- two lists of the same texts -/
theorem strs_ne {a b : Addr} {vs us : List Value} {ys : List PySem.Str} {k k2 : Nat} (N : News h₀ L s.heap news) (m1 : (a, W.listOf vs.toArray k) ∈ news) (m2 : (b, W.listOf us.toArray k2) ∈ news) (hv : StrsAre vs ys) (hu : StrsAre us ys)
    (h1 : ∀ q ∈ ys, PyData.strOk q = true) (hr : A.units + 64 < cLine) (h : Q (.bool false) s) : wpAny (model prog w) A (compareOp .NotEq (.ref a) (.ref b)) Q E s := by
  have c1 := canLay_strs _ h1
  have c2 := depth_strs ys
  have c3 := eqvAll_strs ys
  have ra := reads_strsAre (N.get m1) hv
  have rb := reads_strsAre (N.get m2) hu
  have sh : SeqAt.shaped (.list (ys.map PyData.str)) = true := by
    simp only [SeqAt.shaped, PyData.canLay0, PyData.depth, c1, c2]
    decide
  refine ne_dataH ra rb sh sh hr ?_
  have : PyData.eqv (.list (ys.map PyData.str)) (.list (ys.map PyData.str)) = true := by
    simp only [PyData.eqv, c3]
  rw [this]; exact h
theorem mod3 {n k : Int} {t u : Tok} (e : n.fmod 3 = k) (h : Q (.int k s.toks) { s with toks := s.toks + 1 }) : wpAny (model prog w) A (binaryOp .Mod (.int n t) (.int 3 u)) Q E s := by
  subst e; exact mod_int' (by decide) h
theorem ab_item {c : Nat} (hc : c < 2) : Txt.item (PySem.Str.ofString "ab") (c : Int) = S [97 + c] := by
  have : c = 0 ∨ c = 1 := by omega
  rcases this with rfl | rfl <;> decide +kernel
theorem item_ab {value slice : PySem.Expr} {c : Nat} {t u : Tok} (hc : c < 2) (h : Q (.str (S [97 + c]) s.toks) { s with toks := s.toks + 1 })
    (hs : subscripted slice false (.str (PySem.Str.ofString "ab") t) (.int c u) = operate [.str (PySem.Str.ofString "ab") t, .int c u] (getItem (.str (PySem.Str.ofString "ab") t) (.int c u)) := by with_unfolding_all rfl)
    (ht : ∀ r, letTemporaryGo value (.str (PySem.Str.ofString "ab") t) r = pure () := by intro _; with_unfolding_all rfl) : wpAny (model prog w) A (subscriptTail value slice (.str (PySem.Str.ofString "ab") t) (.int c u)) Q E s := by
  have hl : (PySem.Str.ofString "ab").length = 2 := by decide +kernel
  have hf : fitsSsize (c : Int) = true := by
    have : c = 0 ∨ c = 1 := by omega
    rcases this with rfl | rfl <;> decide
  exact item_str hf (by omega) (by rw [hl]; omega) (fun _ => by rw [ab_item hc]; exact h) hs ht
theorem strE {e d : Addr} {oe od : Obj} (X : (hd.heap_39 w.params).In h₀) (F : Fr h₀ L s.heap m) (N : News h₀ L s.heap news) (hm1 : (e, oe) ∈ news) (hm2 : (d, od) ∈ news) (hc : oe.cls = .ref 109) (hdx : oe.dict = some d) (hf : ∃ vs, oe.data = .fields vs)
    (hu : A.in1.in1.units < cLine) (h : wpAny (model prog w) A.in1.in1 (call (.ref 106) [.ref e]) (StrBack Q) E s) : wpAny (model prog w) A (call (.type "str") [.ref e]) Q E s := by
  have X' := X.keeps F.keep
  refine kso_call (C := 109) (od := some od) hu X' ⟨(N _ hm1).1, hc, ?_, ?_⟩ (by kernel_rfl) (by kernel_rfl) h
  · obtain ⟨vs, hf⟩ := hf
    unfold notCls; rw [hf]
  · rw [hdx]; exact (N _ hm2).1
end
end
section
open PySem PySem.W PySem.Calls PyProof.Rows
set_option linter.unusedVariables false
set_option linter.unusedSimpArgs false
set_option maxRecDepth 100000
/-! a loop over a written tuple, by an invariant -/
theorem allObj_mono : ∀ {ws : List (Addr × String)} {P P' : Led → Prop}, (∀ its, P its → P' its) → AllObj ws P → AllObj ws P'
  | [], _, _, h, x => h _ x
  | _ :: _, _, _, h, x => fun o ho => allObj_mono (fun its => h _) (x o ho)
section
variable {prog : Program} {w : World} {A : Around} {E : Value → Shared → Prop} {s : Shared} {env : Env} {h₀ : Heap} {target : Expr} {body : List Stmt} {Q : Flow → Shared → Prop} {ws : List (Addr × String)} {keep : Led}
theorem unrPostW_mono {L : Addr} {s₁ : Shared} {its : Led} {r r' : (PySem.Str → Option Value) → Led → Prop} (h : ∀ m n, r m n → r' m n) : ∀ (f : Flow) (s₂ : Shared), UnrPostW h₀ L s₁ its r Q f s₂ → UnrPostW h₀ L s₁ its r' Q f s₂ := by
  intro f s₂ x
  cases f with
  | ret v => exact x
  | brk => exact x
  | next => obtain ⟨h', tk, m', n', e, F, N, o, y⟩ := x; exact ⟨h', tk, m', n', e, F, N, o, h _ _ y⟩
  | cont => obtain ⟨h', tk, m', n', e, F, N, o, y⟩ := x; exact ⟨h', tk, m', n', e, F, N, o, h _ _ y⟩
theorem items_inv (as : List Itm) (Inv : Nat → (PySem.Str → Option Value) → Led → Prop)
    (turn : ∀ i a, as[i]? = some a → ∀ m news, Inv i m news → ∀ v h tk, a.Is v h → Fr h₀ env.locals h m → AllObj ws (fun its => News h₀ env.locals h (its ++ news) →
      wpAny (model prog w) A (assign target env v) (fun _ s₂ => wpAny (model prog w) A (execs body env) (UnrPostW h₀ env.locals { s with heap := h, toks := tk } its (fun m' n' => SubL keep n' ∧ Inv (i + 1) m' n') Q) E s₂) E { s with heap := h, toks := tk }))
    (done : ∀ m news, Inv as.length m news → ∀ h tk, Fr h₀ env.locals h m → News h₀ env.locals h news → Q .next { s with heap := h, toks := tk }) :
    ∀ (k i : Nat) (m : PySem.Str → Option Value) (news : Led), i + k = as.length → Inv i m news → ItemsRest prog w A E h₀ env target body Q s ws keep (as.drop i) m news
  | 0, i, m, news, e, hi => by
    have e2 : i = as.length := by omega
    subst e2
    rw [List.drop_length]
    exact done m news hi
  | k + 1, i, m, news, e, hi => by
    have hlt : i < as.length := by omega
    rw [List.drop_eq_getElem_cons hlt]
    intro v h tk hv F
    refine allObj_mono (fun its z N => ?_) (turn i as[i] (by simp [hlt]) m news hi v h tk hv F)
    refine wpAny_mono (z N) (fun _ s₂ y => wpAny_mono y (unrPostW_mono fun m' n' x => ⟨x.1, items_inv as Inv turn done k (i + 1) m' n' (by omega) x.2⟩) fun _ _ x => x) fun _ _ x => x
noncomputable def ItS (p : Prop) : Prop := p
theorem ItS.go {p : Prop} (h : ItS p) : p := h
theorem ItS.inv {as : List Itm} {m : PySem.Str → Option Value} {news : Led} (Inv : Nat → (PySem.Str → Option Value) → Led → Prop) (init : Inv 0 m news)
    (turn : ∀ i a, as[i]? = some a → ∀ m news, Inv i m news → ∀ v h tk, a.Is v h → Fr h₀ env.locals h m → AllObj ws (fun its => News h₀ env.locals h (its ++ news) →
      wpAny (model prog w) A (assign target env v) (fun _ s₂ => wpAny (model prog w) A (execs body env) (UnrPostW h₀ env.locals { s with heap := h, toks := tk } its (fun m' n' => SubL keep n' ∧ Inv (i + 1) m' n') Q) E s₂) E { s with heap := h, toks := tk }))
    (done : ∀ m news, Inv as.length m news → ∀ h tk, Fr h₀ env.locals h m → News h₀ env.locals h news → Q .next { s with heap := h, toks := tk }) :
    ItS (ItemsRest prog w A E h₀ env target body Q s ws keep as m news) := items_inv as Inv turn done as.length 0 m news (by omega) init
end
/-- a turn that only stored `k6` -/
theorem fold6a {m : PySem.Str → Option Value} {k1 k2 k3 k4 k5 k6 : PySem.Str} {v1 v2 v3 v4 v5 v6 w6 : Option Value} (h1 : k1 ≠ k6) (h2 : k2 ≠ k6) (h3 : k3 ≠ k6) (h4 : k4 ≠ k6) (h5 : k5 ≠ k6) :
    (fun y => if y = k6 then w6 else if y = k1 then v1 else if y = k2 then v2 else if y = k3 then v3 else if y = k4 then v4 else if y = k5 then v5 else if y = k6 then v6 else m y) =
      fun y => if y = k1 then v1 else if y = k2 then v2 else if y = k3 then v3 else if y = k4 then v4 else if y = k5 then v5 else if y = k6 then w6 else m y := by
  funext y
  by_cases h : y = k6
  · subst h; simp [Ne.symm h1, Ne.symm h2, Ne.symm h3, Ne.symm h4, Ne.symm h5]
  · simp [h]
/-- the law's state between two turns -/
noncomputable def LawSt (w : World) (m0 : PySem.Str → Option Value) (pre base : Led) (Z : LexA) (cs : List Int) (i : Nat) (m : PySem.Str → Option Value) (news : Led) : Prop :=
  ∃ (q sk : Nat) (ln : Int) (tn : Tok) (vs : List Value) (n : Nat) (ts : Tok) (v1 v2 v3 v4 v5 : Option Value),
    m = (fun y => if y = PySem.Str.ofString "state" then some (.int (q : Int) ts) else if y = PySem.Str.ofString "told" then v1 else if y = PySem.Str.ofString "line" then v2 else if y = PySem.Str.ofString "due" then v3 else
      if y = PySem.Str.ofString "letter" then v4 else if y = PySem.Str.ofString "place" then v5 else m0 y) ∧
    news = pre ++ lexL w Z ln tn vs n base ∧ q < 2 ∧ ln + sk = i + 5 ∧ sk ≤ i + 1 ∧ 0 ≤ ln ∧ CharsAre vs (List.replicate sk 10 ++ tailT (cs.drop i))
theorem three {t4 t5 t6 : Tok} {n0 n1 n2 n3 n4 n5 n6 n7 : Int} {i : Nat} {a : Itm} (h : ([Value.int 4 t4, .int 5 t5, .int 6 t6].map Itm.val)[i]? = some a) (b4 : 0 ≤ n4 ∧ n4 < 1000000) (b5 : 0 ≤ n5 ∧ n5 < 1000000) (b6 : 0 ≤ n6 ∧ n6 < 1000000) :
    ∃ (nn p : Int) (r : List Int) (t : Tok), a = Itm.val (.int p t) ∧ p = 4 + (i : Int) ∧ i < 3 ∧ [n4, n5, n6].drop i = nn :: r ∧ [n4, n5, n6].drop (i + 1) = r ∧ r.length ≤ 4 ∧ [n0, n1, n2, n3, n4, n5, n6, n7].getD p.toNat 0 = nn ∧ 0 ≤ nn ∧ nn < 1000000 := by
  match i, h with
  | 0, h => exact ⟨n4, 4, _, t4, by simpa using h.symm, by decide, by decide, rfl, rfl, by simp, rfl, b4⟩
  | 1, h => exact ⟨n5, 5, _, t5, by simpa using h.symm, by decide, by decide, rfl, rfl, by simp, rfl, b5⟩
  | 2, h => exact ⟨n6, 6, _, t6, by simpa using h.symm, by decide, by decide, rfl, rfl, by simp, rfl, b6⟩
  | i + 3, h => simp at h
end
section
open PySem PySem.W PySem.Calls PyProof.Rows
set_option linter.unusedVariables false
set_option linter.unusedSimpArgs false
set_option maxRecDepth 100000
set_option maxHeartbeats 40000000

noncomputable def StopS (p : Prop) : Prop := p
theorem StopS.go {p : Prop} (h : StopS p) : p := h
theorem StopS.un {p : Prop} (h : p) : StopS p := h
theorem bare {α β : Type} {F : α → β → Prop} {a : α} {b : β} (h : F a b) : F a b := h
noncomputable def CallS (prog : Program) (w : World) (A : Around) (E : Value → Shared → Prop) (f : Addr) (vs : List Value) (Q : Value → Shared → Prop) (s : Shared) : Prop := wpAny (model prog w) A (call (.ref f) vs) Q E s
theorem CallS.go {prog : Program} {w : World} {A : Around} {E : Value → Shared → Prop} {f : Addr} {vs : List Value} {Q : Value → Shared → Prop} {s : Shared} (h : CallS prog w A E f vs Q s) : wpAny (model prog w) A (call (.ref f) vs) Q E s := h
theorem CallS.un {prog : Program} {w : World} {A : Around} {E : Value → Shared → Prop} {f : Addr} {vs : List Value} {Q : Value → Shared → Prop} {s : Shared} (h : wpAny (model prog w) A (call (.ref f) vs) Q E s) : CallS prog w A E f vs Q s := h

theorem own_all : ∀ k : Nat, 0 ≤ ([0, 28, 52, 13, 1, 4, 0, 1] : List Int).getD k 0 ∧ ([0, 28, 52, 13, 1, 4, 0, 1] : List Int).getD k 0 < 1000000
  | 0 | 1 | 2 | 3 | 4 | 5 | 6 | 7 => by decide
  | k + 8 => by simp
theorem num_all (b : Bool) (a : Int) (k : Nat) : 0 ≤ (if b = true then a.fmod 1000000 else ([0, 28, 52, 13, 1, 4, 0, 1] : List Int).getD k 0) ∧ (if b = true then a.fmod 1000000 else ([0, 28, 52, 13, 1, 4, 0, 1] : List Int).getD k 0) < 1000000 := by
  cases b
  · simpa using own_all k
  · simp only [if_true]; exact ⟨Int.fmod_nonneg_of_pos _ (by decide), Int.fmod_lt_of_pos _ (by decide)⟩
theorem ints_cons {vs : List Value} {n : Int} {ns : List Int} (h : IntsAre vs (n :: ns)) : ∃ t r, vs = .int n t :: r ∧ IntsAre r ns := by
  cases h with | cons _ t h => exact ⟨t, _, rfl, h⟩
theorem ints_nil {vs : List Value} (h : IntsAre vs []) : vs = [] := by cases h; rfl
theorem ints_map8 {f : Int → Int} {ys : List Value} (h : IntsAre ys ((rangeKs 0 (8 - 0 : Int).toNat).map f)) :
    ∃ t0 t1 t2 t3 t4 t5 t6 t7, ys = [.int (f 0) t0, .int (f 1) t1, .int (f 2) t2, .int (f 3) t3, .int (f 4) t4, .int (f 5) t5, .int (f 6) t6, .int (f 7) t7] := by
  have e : (rangeKs 0 (8 - 0 : Int).toNat).map f = [f 0, f 1, f 2, f 3, f 4, f 5, f 6, f 7] := rfl
  rw [e] at h
  obtain ⟨t0, r0, rfl, g0⟩ := ints_cons h
  obtain ⟨t1, r1, rfl, g1⟩ := ints_cons g0
  obtain ⟨t2, r2, rfl, g2⟩ := ints_cons g1
  obtain ⟨t3, r3, rfl, g3⟩ := ints_cons g2
  obtain ⟨t4, r4, rfl, g4⟩ := ints_cons g3
  obtain ⟨t5, r5, rfl, g5⟩ := ints_cons g4
  obtain ⟨t6, r6, rfl, g6⟩ := ints_cons g5
  obtain ⟨t7, r7, rfl, g7⟩ := ints_cons g6
  obtain rfl := ints_nil g7
  exact ⟨t0, t1, t2, t3, t4, t5, t6, t7, rfl⟩
theorem nums8 {f : Int → Int} {ys : List Value} (h : IntsAre ys ((rangeKs 0 (8 - 0 : Int).toNat).map f)) (hf : ∀ k, 0 ≤ f k ∧ f k < 1000000) :
    ∃ n0 n1 n2 n3 n4 n5 n6 n7 t0 t1 t2 t3 t4 t5 t6 t7, ys = [.int n0 t0, .int n1 t1, .int n2 t2, .int n3 t3, .int n4 t4, .int n5 t5, .int n6 t6, .int n7 t7] ∧
      (0 ≤ n0 ∧ n0 < 1000000) ∧ (0 ≤ n1 ∧ n1 < 1000000) ∧ (0 ≤ n2 ∧ n2 < 1000000) ∧ (0 ≤ n3 ∧ n3 < 1000000) ∧ (0 ≤ n4 ∧ n4 < 1000000) ∧ (0 ≤ n5 ∧ n5 < 1000000) ∧ (0 ≤ n6 ∧ n6 < 1000000) ∧ (0 ≤ n7 ∧ n7 < 1000000) := by
  obtain ⟨t0, t1, t2, t3, t4, t5, t6, t7, e⟩ := ints_map8 h
  exact ⟨_, _, _, _, _, _, _, _, t0, t1, t2, t3, t4, t5, t6, t7, e, hf 0, hf 1, hf 2, hf 3, hf 4, hf 5, hf 6, hf 7⟩
theorem asList {h₀ : Heap} {L : Addr} {h : Heap} {D : Addr} {ys : List Value} {r : Led} (N : News h₀ L h ((D, PyProof.Rows.LCg.lst ys) :: r)) : News h₀ L h ((D, W.listOf ys.toArray ys.length) :: r) := N
theorem lawL {h₀ : Heap} {L : Addr} {h : Heap} {a b c d : Addr × Obj} (N : News h₀ L h [a, b, c, d]) : News h₀ L h (d :: [a, b, c]) := news_sub N (by intro p hp; simp only [List.mem_cons, List.not_mem_nil, or_false] at hp ⊢; rcases hp with h | h | h | h <;> simp [h])
theorem fileL_len (n0 n1 n2 n3 n4 n5 n6 : Int) : (fileL n0 n1 n2 n3 n4 n5 n6).length ≤ 1000 := by
  rw [file_rules]; exact Nat.le_trans (ruleT_ok _ _).2 (by simp)
theorem low4 {t a b c : Addr × Obj} {X : Addr} (h : ∀ p ∈ [t, a, b, c], p.1 < X) : (@LT.lt Nat _ t.1 X) ∧ (@LT.lt Nat _ a.1 X) ∧ (@LT.lt Nat _ b.1 X) ∧ (@LT.lt Nat _ c.1 X) := ⟨h t (.head _), h a (.tail _ (.head _)), h b (.tail _ (.tail _ (.head _))), h c (.tail _ (.tail _ (.tail _ (.head _))))⟩
theorem con_perm {w : World} {f : Addr} {need : Nat} {vs : List Value} {L1 L2 : Led} {R1 R2 : Value → Led → Prop} (C : Con w f need vs L1 R1) (sub : ∀ p ∈ L1, p ∈ L2) (conv : ∀ r n1, R1 r n1 → ∃ n2, (∀ p ∈ n2, p ∈ n1) ∧ R2 r n2) : Con w f need vs L2 R2 :=
  fun dp un gd cn cs a ccd cl outer A₀ base h₀ L m s Q E mean mg mb B F X N T hk hd hu ret => C dp un gd cn cs a ccd cl outer A₀ base h₀ L m s Q E mean mg mb B F X (news_sub N sub) T hk hd hu fun r n1 h' tk' F' N' r1 => by
    obtain ⟨n2, s2, r2⟩ := conv r n1 r1
    exact ret r n2 h' tk' F' (news_sub N' s2) r2

theorem con_weak {w : World} {f : Addr} {need : Nat} {vs : List Value} {L1 : Led} {R1 R2 : Value → Led → Prop} (C : Con w f need vs L1 R1) (conv : ∀ r n1, R1 r n1 → R2 r n1) : Con w f need vs L1 R2 :=
  con_perm C (fun p hp => hp) fun r n1 h => ⟨n1, fun p hp => hp, conv r n1 h⟩
theorem lexOk_pre {w : World} {Z : LexA} {news pre : Led} (ok : LexOk w Z news) (h : ∀ p ∈ pre, p.1 ≠ Z.d ∧ p.1 ≠ Z.D) : LexOk w Z (pre ++ news) :=
  ⟨ok.read, ok.a1, ok.a2, ok.a3, ok.a4, ok.a5, ok.a6, ok.a7, ok.a8, fun p hp => (List.mem_append.mp hp).elim (h p) (ok.off p), ok.fn⟩
theorem ok_repl {w : World} {Z : LexA} {t a b c : Addr × Obj} {o' : Obj} (ok : LexOk w Z [t, a, b, c]) : LexOk w Z [t, a, (b.1, o'), c] :=
  ⟨ok.read, ok.a1, ok.a2, ok.a3, ok.a4, ok.a5, ok.a6, ok.a7, ok.a8, fun p hp => by
    rcases List.mem_cons.mp hp with rfl | hp
    · exact ok.off _ (.head _)
    · rcases List.mem_cons.mp hp with rfl | hp
      · exact ok.off _ (.tail _ (.head _))
      · rcases List.mem_cons.mp hp with rfl | hp
        · exact ok.off b (.tail _ (.tail _ (.head _)))
        · exact ok.off p (.tail _ (.tail _ (.tail _ hp))), ok.fn⟩
theorem lexL_perm {w : World} {Z : LexA} {ln : Int} {tn : Tok} {vs : List Value} {n : Nat} {pre news : Led} : ∀ p, p ∈ lexL w Z ln tn vs n (pre ++ news) ↔ p ∈ pre ++ lexL w Z ln tn vs n news := by
  intro p
  have e1 : lexL w Z ln tn vs n (pre ++ news) = lexL w Z ln tn vs n [] ++ (pre ++ news) := rfl
  have e2 : lexL w Z ln tn vs n news = lexL w Z ln tn vs n [] ++ news := rfl
  rw [e1, e2]
  simp only [List.mem_append]
  exact or_left_comm
theorem tokP (w : World) (Z : LexA) (ln : Int) (tn : Tok) (vs : List Value) (n : Nat) (pre news : Led) (ok : LexOk w Z news) (hpre : ∀ p ∈ pre, p.1 ≠ Z.d ∧ p.1 ≠ Z.D) (sk kind : Nat) (wd rest : List Nat) (hC : CharsAre vs (List.replicate sk 10 ++ (bodyT kind wd ++ rest))) (hsk : sk < 60)
    (hr : OkT rest 800) (hpl : ∀ b ∈ wd, Plain b) (hwl : wd.length < 60) (hne : wd ≠ []) (hki : kind ≤ 2) :
    Con w 140 20 [.ref Z.x] (pre ++ lexL w Z ln tn vs n news) (fun r ns => ∃ t tn' vs' n', CharsAre vs' rest ∧ r = .str (S wd) t ∧ ns = pre ++ lexL w Z (ln + sk + (if kind = 1 then 0 else 1)) tn' vs' n' news) :=
  con_perm (get_con w Z ln tn vs n (pre ++ news) (lexOk_pre ok hpre) sk kind wd rest hC hsk ((OkT.plain hpl (Nat.le_refl _)).app hr).1 (by have := hr.2; rw [List.length_append]; omega) hwl hpl hne hki)
    (fun p hp => (lexL_perm p).mp hp) (fun r n1 h => by
      obtain ⟨t, tn', vs', n', hc, e, rfl⟩ := h
      exact ⟨_, fun p hp => (lexL_perm p).mpr hp, t, tn', vs', n', hc, e, rfl⟩)
theorem tokR (w : World) (Z : LexA) (ln : Int) (tn : Tok) (vs : List Value) (n : Nat) (pre news : Led) (ok : LexOk w Z news) (hpre : ∀ p ∈ pre, p.1 ≠ Z.d ∧ p.1 ≠ Z.D) (sk : Nat) (nn : Int) (ns cs : List Int) (hC : CharsAre vs (List.replicate sk 10 ++ ruleT (nn :: ns) cs)) (hsk : sk ≤ 1) (hl1 : ns.length ≤ 4) (hl2 : cs.length ≤ 4) :
    Con w 140 20 [.ref Z.x] (pre ++ lexL w Z ln tn vs n news) (fun r nw => ∃ t ln' tn' vs' n', CharsAre vs' (List.replicate (pend (kindR nn)) 10 ++ ruleT ns cs) ∧ ln' + pend (kindR nn) = ln + sk + 1 ∧ r = .str (S (wordL nn)) t ∧ nw = pre ++ lexL w Z ln' tn' vs' n' news) :=
  con_weak (tokP w Z ln tn vs n pre news ok hpre sk (kindR nn) (wordL nn) _ hC (by omega) (by
    have h := (OkT.rep (pend_le (kindR nn))).app (ruleT_ok ns cs)
    exact ⟨h.1, Nat.le_trans h.2 (by omega)⟩) (word_plain nn) (by have := word_len3 nn; omega) (word_ne nn) (kindR_le nn))
    fun r nw h => by
      obtain ⟨t, tn', vs', n', a, b, c⟩ := h
      exact ⟨t, _, tn', vs', n', a, pend_pos _ _ _, b, c⟩
theorem tokC (w : World) (Z : LexA) (ln : Int) (tn : Tok) (vs : List Value) (n : Nat) (pre news : Led) (ok : LexOk w Z news) (hpre : ∀ p ∈ pre, p.1 ≠ Z.d ∧ p.1 ≠ Z.D) (sk : Nat) (nn : Int) (ns : List Int) (c : Nat) (hC : CharsAre vs (List.replicate sk 10 ++ tailT (nn :: ns))) (hsk : sk ≤ 10) (hl : ns.length ≤ 4) (h : nn.fmod 3 = c) (hc : c < 2) :
    Con w 140 20 [.ref Z.x] (pre ++ lexL w Z ln tn vs n news) (fun r nw => ∃ t ln' tn' vs' n', CharsAre vs' (List.replicate (pend (quoted nn)) 10 ++ tailT ns) ∧ ln' + pend (quoted nn) = ln + sk + 1 ∧ r = .str (S [97 + c]) t ∧ nw = pre ++ lexL w Z ln' tn' vs' n' news) := by
  rw [tail_split ns h hc] at hC
  refine con_weak (tokP w Z ln tn vs n pre news ok hpre sk (quoted nn) [97 + c] _ hC (by omega) ?_ ?_ (by simp) (by simp) (by unfold quoted; split <;> omega)) fun r nw h => ?_
  · have h := (OkT.rep (pend_le (quoted nn))).app (tail_ok ns)
    exact ⟨h.1, Nat.le_trans h.2 (by omega)⟩
  · intro b hb
    rw [List.mem_singleton.mp hb]
    unfold Plain; omega
  · obtain ⟨t, tn', vs', n', a, b, c⟩ := h
    exact ⟨t, _, tn', vs', n', a, pend_pos _ _ _, b, c⟩
theorem file_start {vs : List Value} {n0 n1 n2 n3 n4 n5 n6 : Int} (h : CharsAre vs (fileL n0 n1 n2 n3 n4 n5 n6)) : CharsAre vs (List.replicate 0 10 ++ ruleT [n0, n1, n2, n3] [n4, n5, n6]) := by
  rw [file_rules] at h; exact h

noncomputable def ForS (prog : Program) (w : World) (A : Around) (E : Value → Shared → Prop) (env : Env) (st : Stmt) (Q : Flow → Shared → Prop) (s : Shared) : Prop := wpAny (model prog w) A (exec st env) Q E s
theorem ForS.go {prog : Program} {w : World} {A : Around} {E : Value → Shared → Prop} {s : Shared} {env : Env} {st : Stmt} {Q : Flow → Shared → Prop} (h : ForS prog w A E env st Q s) : wpAny (model prog w) A (exec st env) Q E s := h
theorem ForS.un {prog : Program} {w : World} {A : Around} {E : Value → Shared → Prop} {s : Shared} {env : Env} {st : Stmt} {Q : Flow → Shared → Prop} (h : wpAny (model prog w) A (exec st env) Q E s) : ForS prog w A E env st Q s := h
theorem lst_of {D : Addr} {ys : List Value} {news : Led} (h : (D, LCg.lst ys) ∈ news) : (D, W.listOf ys.toArray ys.length) ∈ news := h
theorem word_small (n : Int) : small (wordL n) := fun b hb => (word_plain n b hb).1
theorem words_ok (n0 n1 n2 n3 : Int) : ∀ q ∈ [S (wordL n0), S (wordL n1), S (wordL n2), S (wordL n3)], PyData.strOk q = true := by
  simp only [List.forall_mem_cons]
  exact ⟨strOk_S (word_small _), strOk_S (word_small _), strOk_S (word_small _), strOk_S (word_small _), by simp⟩

theorem fmod3c (n : Int) : n.fmod 3 = 2 ∨ ∃ c : Nat, c < 2 ∧ n.fmod 3 = c ∧ ((c : Int) == 2) = false := by
  rcases fmod3 n with h | h | h
  · exact .inr ⟨0, by decide, h, by decide⟩
  · exact .inr ⟨1, by decide, h, by decide⟩
  · exact .inl h
theorem LawSt.init {w : World} {m : PySem.Str → Option Value} {p1 p2 b0 b1 b2 b3 : Addr × Obj} {Z : LexA} {cs : List Int} {ln : Int} {tn : Tok} {vs : List Value} {n q : Nat} {ts : Tok} {sk : Nat} (hm : m (PySem.Str.ofString "state") = some (.int (q : Int) ts)) (hq : q < 2) (hl : ln + sk = 5) (hs : sk ≤ 1)
    (hC : CharsAre vs (List.replicate sk 10 ++ tailT cs)) : LawSt w m [p1, p2] [b0, b1, b2, b3] Z cs 0 m (p1 :: p2 :: lexL w Z ln tn vs n [b0, b1, b2, b3]) :=
  ⟨q, sk, ln, tn, vs, n, ts, _, _, _, _, _, set6 hm rfl rfl, rfl, hq, by simpa using hl, by omega, by omega, hC⟩
theorem LawSt.more {w : World} {m0 m' : PySem.Str → Option Value} {p1 p2 b0 b1 b2 b3 : Addr × Obj} {Z : LexA} {cs : List Int} {i : Nat} {ln : Int} {tn : Tok} {vs : List Value} {n q : Nat} {ts : Tok} {sk : Nat} {v1 v2 v3 v4 v5 : Option Value}
    (hm : m' = (fun y => if y = PySem.Str.ofString "state" then some (.int (q : Int) ts) else if y = PySem.Str.ofString "told" then v1 else if y = PySem.Str.ofString "line" then v2 else if y = PySem.Str.ofString "due" then v3 else
      if y = PySem.Str.ofString "letter" then v4 else if y = PySem.Str.ofString "place" then v5 else m0 y)) (hq : q < 2) (hl : ln + sk = (i : Int) + 5) (hs : sk ≤ i + 1) (h0 : 0 ≤ ln)
    (hC : CharsAre vs (List.replicate sk 10 ++ tailT (cs.drop i))) : LawSt w m0 [p1, p2] [b0, b1, b2, b3] Z cs i m' (p1 :: p2 :: lexL w Z ln tn vs n [b0, b1, b2, b3]) :=
  ⟨q, sk, ln, tn, vs, n, ts, v1, v2, v3, v4, v5, hm, rfl, hq, hl, hs, h0, hC⟩
theorem names6 : PySem.Str.ofString "state" ≠ PySem.Str.ofString "place" ∧ PySem.Str.ofString "told" ≠ PySem.Str.ofString "place" ∧ PySem.Str.ofString "line" ≠ PySem.Str.ofString "place" ∧ PySem.Str.ofString "due" ≠ PySem.Str.ofString "place" ∧ PySem.Str.ofString "letter" ≠ PySem.Str.ofString "place" := by decide +kernel
theorem rules_are (n0 n1 n2 n3 n4 n5 n6 n7 : Int) (t0 t1 t2 t3 : Tok) : StrsAre [.str (S (wordL n0)) t0, .str (S (wordL n1)) t1, .str (S (wordL n2)) t2, .str (S (wordL n3)) t3] ((List.range 4).map fun i => S (wordL ([n0, n1, n2, n3, n4, n5, n6, n7].getD i 0))) :=
  .cons _ _ (.cons _ _ (.cons _ _ (.cons _ _ .nil)))
theorem sub_cons {p q : Addr × Obj} {news nw : Led} (h : q ∈ nw) (sub : ∀ p ∈ news, p ∈ nw) : ∀ r ∈ p :: q :: news, r ∈ p :: nw := fun r hr => by
  rcases List.mem_cons.mp hr with hr | hr
  · rw [hr]; exact .head _
  · rcases List.mem_cons.mp hr with hr | hr
    · rw [hr]; exact .tail _ h
    · exact .tail _ (sub r hr)
theorem nameGoesX {M : Model} {A : Around} {E : Value → Shared → Prop} {s : Shared} {name : PySem.Str} {scope : Scope} {L a : Addr} {cd : Value} {cl : List (PySem.Str × Addr)} {h₀ : Heap} {m : PySem.Str → Option Value} {news : Led} {n : PySem.Str} {pos : Pos} {Q : Unit → Shared → Prop} (F : Fr h₀ L s.heap m) (N : News h₀ L s.heap news)
    (h : ∀ h' v, Fr h₀ L h' (fun x => if x = n then v else m x) → News h₀ L h' news → Q () { s with heap := h', toks := s.toks + 1 })
    (hk : scope.kind = .function) (hl : (envX name scope L a cd cl).kindOf n = some .local) :
    wpAny M A (do bindName (envX name scope L a cd cl) n .none; unbindBehindTheSuite (envX name scope L a cd cl) n pos) Q E s :=
  wpAny_nameGoes_keeps hl F.ns (by show (scope.kind == .class || (scope.kind == .module && L != mainGlobals)) = false; rw [hk]; rfl) fun h' v hn hs => h h' v (F.set hn hs) (N.set hs)
theorem unrRet {Q : Flow → Shared → Prop} {h₀ : Heap} {L : Addr} {s₁ s₂ : Shared} {its : Led} {r : (PySem.Str → Option Value) → Led → Prop} {b : Bool} (e : b = true) (h : Q (.ret (.bool true)) s₂) : UnrPostW h₀ L s₁ its r Q (.ret (.bool b)) s₂ := by subst e; exact h
theorem errText_eq (x : PySem.Str) (a b : Int) (h : a = b) : (errText x a == PySem.Str.ofString "never back (" ++ x ++ PySem.Str.ofString ", line " ++ PySem.Str.ofString (toString b) ++ PySem.Str.ofString ")") = true := by
  subst h
  have e : PySem.Str.empty ++ PySem.Str.ofString "never back" ++ PySem.Str.ofString " (" = PySem.Str.ofString "never back (" := by decide +kernel
  unfold errText
  rw [e, beq_self_eq_true]
theorem told_facts {ns : List Int} {q c : Nat} {n p : List (List Nat)} {s : Nat} (hq : q < 2) (hc : c < 2) (h : callF ns 5 q c 0 [] = some (n, p, s)) :
    n = p ∧ n ≠ [] ∧ n.length ≤ 20 ∧ (∀ M ∈ n, M.length ≤ 20) ∧ (∀ M ∈ n, small M) ∧ s < 2 ∧ (pg n).length ≤ 1000 := by
  obtain ⟨a1, a2, a3, a4, a5, a6⟩ := callF_fine ns _ _ _ _ _ _ hq hc h
  obtain ⟨b1, b2, b3⟩ := callF_small ns _ _ _ _ _ _ hq hc h
  have hs := (callF_short ns 5 q c 0 [] n p s rfl okA_nil hq hc h).1
  have e := call_page0 ns h
  subst e
  simp only at a1 a2 a3 a4 a5 a6 b1 b2 b3
  have hl := pg_len (B := 7) n (fun M hM => by have := (a2 M hM).2; omega)
  refine ⟨rfl, a1, by simp at hs; omega, fun M hM => by have := (a2 M hM).2; omega, b1, a5, ?_⟩
  have : n.length ≤ 16 := by simp at hs; omega
  omega
theorem page_ne {ys : List (List Nat)} (h : ys ≠ []) : (S (joinL ys ++ [10]) != S (pg ys)) = false := by rw [joinL_pg ys h]; simp
theorem join_len {ys : List (List Nat)} (h : ys ≠ []) (hl : (pg ys).length ≤ 1000) : (joinL ys).length ≤ 1000 := by
  rw [← joinL_pg ys h, List.length_append] at hl; omega
theorem endW {h₀ : Heap} {L : Addr} {s₁ : Shared} {I : Addr} {it : Obj} {keep : Led} {P : (PySem.Str → Option Value) → Led → Prop} {h' : Heap} {tk : Nat} {m' : PySem.Str → Option Value} {all l : Led} (F : Fr h₀ L h' m') (N : News h₀ L h' all) (hP : P m' l)
    (hI : (I, it) ∈ all) (sub : ∀ p ∈ l, p ∈ all) (low : ∀ p ∈ l, p.1 < I) (hk : SubL keep l) : UnrEndW h₀ L s₁ [(I, it)] (fun m' n' => SubL keep n' ∧ P m' n') { s₁ with heap := h', toks := tk } :=
  ⟨h', tk, m', l, rfl, F, fun p hp => by
    rcases List.mem_cons.mp hp with hp | hp
    · rw [hp]; exact N _ hI
    · exact N _ (sub p hp), fun p hp q hq => by rw [List.mem_singleton.mp hq]; exact Nat.ne_of_lt (low p hp), hk, hP⟩
theorem ne_self (l : List Nat) : (S l != S l) = false := by simp
theorem quoted_nxt (n : Int) : (pend (quoted n) : Int) = (nxt (n.fdiv 3) : Nat) := by
  rw [← nxt_int]
  have h0 : 0 ≤ (n.fdiv 3).fmod 2 := Int.fmod_nonneg_of_pos _ (by decide)
  have h1 : (n.fdiv 3).fmod 2 < 2 := Int.fmod_lt_of_pos _ (by decide)
  unfold quoted pend
  split
  · rename_i h; simp [h]
  · rename_i h
    simp only [Nat.zero_ne_one, if_false, Int.natCast_zero] 
    omega

noncomputable def CrS (p : Prop) : Prop := p
theorem CrS.go {p : Prop} (h : CrS p) : p := h
section
variable {prog : Program} {w : World} {A : Around} {s : Shared} {h₀ : Heap} {L : Addr} {m : PySem.Str → Option Value} {env : Env} {elt : PySem.Expr} {x : PySem.Str} {scope : Scope} {cl : List (PySem.Str × Addr)} {Sp : Led → Prop} {P : Nat → Value → Prop} {Fin : List Value → Led → Prop}
theorem comp_inv {n : Nat} (Inv : Nat → List Value → Led → Prop)
    (turn : ∀ i, i < n → ∀ ys news, Inv i ys news → ∀ v I oI C oC D m₂ h tk (E' : Value → Shared → Prop), P i v → LCg.NsObj oC m₂ → m₂ x = some v → Fr h₀ L h m → News h₀ L h ((I, oI) :: (C, oC) :: (D, LCg.lst ys) :: news) → LCg.Off3 I C D news → ((@Ne Nat I C) ∧ (@Ne Nat I D) ∧ (@Ne Nat C D)) →
      wpAny (model prog w) A (eval elt (compEnvC scope cl C env)) (LCg.CompEnd h₀ L m { s with heap := h, toks := tk } I oI C oC D (LCg.lst ys) Sp (fun y news' => Inv (i + 1) (ys ++ [y]) news')) E' { s with heap := h, toks := tk })
    (done : ∀ ys news, Inv n ys news → Fin ys news) : ∀ (k i : Nat) (ys : List Value) (news : Led), i + k = n → Inv i ys news → LCg.CompRest prog w A h₀ L m env elt x scope cl s Sp P Fin k i ys news
  | 0, i, ys, news, e, hi => by
    obtain rfl : i = n := e
    exact done ys news hi
  | k + 1, i, ys, news, e, hi => fun v I oI C oC D m₂ h tk E' a1 a2 a3 a4 a5 a6 a7 =>
    wpAny_mono (turn i (by omega) ys news hi v I oI C oC D m₂ h tk E' a1 a2 a3 a4 a5 a6 a7) (fun y s₂ z => by
      obtain ⟨h', tk', n', e1, F', N', o, sp, r⟩ := z
      exact ⟨h', tk', n', e1, F', N', o, sp, comp_inv Inv turn done k (i + 1) _ n' (by omega) r⟩) fun _ _ z => z
theorem CrS.inv {n : Nat} {news : Led} (Inv : Nat → List Value → Led → Prop) (init : Inv 0 [] news)
    (turn : ∀ i, i < n → ∀ ys news, Inv i ys news → ∀ v I oI C oC D m₂ h tk (E' : Value → Shared → Prop), P i v → LCg.NsObj oC m₂ → m₂ x = some v → Fr h₀ L h m → News h₀ L h ((I, oI) :: (C, oC) :: (D, LCg.lst ys) :: news) → LCg.Off3 I C D news → ((@Ne Nat I C) ∧ (@Ne Nat I D) ∧ (@Ne Nat C D)) →
      wpAny (model prog w) A (eval elt (compEnvC scope cl C env)) (LCg.CompEnd h₀ L m { s with heap := h, toks := tk } I oI C oC D (LCg.lst ys) Sp (fun y news' => Inv (i + 1) (ys ++ [y]) news')) E' { s with heap := h, toks := tk })
    (done : ∀ ys news, Inv n ys news → Fin ys news) : CrS (LCg.CompRest prog w A h₀ L m env elt x scope cl s Sp P Fin n 0 [] news) := comp_inv Inv turn done n 0 [] news (by omega) init
end
/-- the tokens read so far -/
noncomputable def TokSt (w : World) (Z : LexA) (ns cs : List Int) (base : Led) (i : Nat) (ys : List Value) (news : Led) : Prop :=
  ∃ (sk : Nat) (ln : Int) (tn : Tok) (vs : List Value) (n : Nat), sk ≤ 1 ∧ ln + sk = 1 + (i : Int) ∧ CharsAre vs (List.replicate sk 10 ++ ruleT (ns.drop i) cs) ∧ news = lexL w Z ln tn vs n base ∧ StrsAre ys ((ns.take i).map fun n => S (wordL n))
/-- the words worked out so far -/
noncomputable def WordSt (ns : List Int) (base : Led) (i : Nat) (ys : List Value) (news : Led) : Prop := news = base ∧ StrsAre ys ((ns.take i).map fun n => S (wordL n))
theorem strs_snoc {ys : List Value} {xs : List PySem.Str} {y : PySem.Str} {t : Tok} (h : StrsAre ys xs) : StrsAre (ys ++ [.str y t]) (xs ++ [y]) := by
  induction h with
  | nil => exact .cons _ _ .nil
  | cons a b _ ih => exact .cons _ _ ih
theorem step_at {ns : List Int} {i : Nat} (h : i < ns.length) : ∃ nn rest, ns.drop i = nn :: rest ∧ ns.drop (i + 1) = rest ∧ ns.take (i + 1) = ns.take i ++ [nn] ∧ rest.length ≤ ns.length ∧ nn ∈ ns ∧ ns[i]? = some nn :=
  ⟨ns[i], ns.drop (i + 1), List.drop_eq_getElem_cons h, rfl, (by rw [List.take_add_one, List.getElem?_eq_getElem h]; rfl), by rw [List.length_drop]; omega, List.getElem_mem h, List.getElem?_eq_getElem h⟩
theorem strs_more {ns : List Int} {i : Nat} {nn : Int} {ys : List Value} {t : Tok} (h : StrsAre ys ((ns.take i).map fun n => S (wordL n))) (e : ns.take (i + 1) = ns.take i ++ [nn]) : StrsAre (ys ++ [.str (S (wordL nn)) t]) ((ns.take (i + 1)).map fun n => S (wordL n)) := by
  rw [e, List.map_append]; exact strs_snoc h

theorem rg_law_0 : True := by
  k_with_none
  k_with "mine om" => (first | with_reducible assumption | decide | with_reducible exact lt_of8 (by with_reducible assumption) (by decide))
  k_with "call type:str" => ((k_here; k_dflt ((with_reducible show wpAny _ _ (call (Value.type "str") [Value.ref _]) _ _ _); refine StopS.go ?_)))
  k_with "compareOp NotEq ref ref" => ((k_here; (have z9 : StopS True := by with_reducible assumption); clear z9; k_dflt (refine StopS.go ?_)))
  k_with "mine steps" => (repeat' (first | (k_unfold; (try dsimp only)) | (refine bare ?_; k_unfold; (try dsimp only)) | (k_end; wrow_close) | walk1 | (dsimp only; walk1) | (leave1; walk_say "STEP leave1"; try dsimp only) | fail "no step"))
  k_with "exec For Name Tuple cons nil" => ((k_here; k_dflt (refine ForS.go ?_)))
  k_with "binaryOp Mod int int" => ((k_here; k_dflt ((with_reducible show wpAny _ _ (binaryOp .Mod (Value.int _ _) (Value.int 2 _)) _ _ _); refine mod2 ?_)))
  k_with "eval ListComp" => ((k_here; lcg_look; lcg_calm; k_dflt (refine LCg.ListComp_U (F₀ := by k_asm) (by rfl) (by decide) (by rfl) (by decide) (by rfl) ?_); k_dflt lcg_toSrc))
  k_with "CompSrc" => ((k_here; k_dflt (refine PyProof.Rows.LCg.CompSrc.ledger (by rfl) (by k_asm) (by k_asm) (by k_mem) (by first | size_fits | exact Nat.le_of_ble_eq_true rfl) ?_; intro _; lcg_lit)))
  k_with "mine off" => (((simp only [PyProof.Rows.LCg.Off3, and_true]); with_reducible assumption))
  k_with "CompSrc" => ((k_here; k_dflt (refine PyProof.Rows.LCg.CompSrc.range (n := 4) (by rfl) (by k_asm) (by k_asm) (by assumption) (by first | decide | rfl) (by first | rfl | decide) (by first | size_fits | exact Nat.le_of_ble_eq_true rfl) ?_; intro _; lcg_lit)))
  k_with "mine room" => (first | (simp only [units_deeper, units_in1, Around.mark_units, depth_deeper, depth_in1, ktrTop, cLine, recursionLimit] at *; omega) | ktr_room | ktr_units)
  k_with "mine room" => (first | omega | (simp only [units_deeper, units_in1, Around.mark_units, depth_deeper, depth_in1, ktrTop]; omega) | (dsimp only [Around.deeper, Around.in1, ktrTop, Around.mark]; omega))
  k_with "mine mem" => ((refine mem_of ?_; with_reducible assumption))
  k_with "call ref" => ((k_here; k_dflt ((with_reducible show wpAny _ _ (call (Value.ref 175) _) _ _ _); refine CallS.go ?_)))
  k_with "call ref" => ((k_here; k_dflt ((with_reducible show wpAny _ _ (call (Value.ref 182) _) _ _ _); refine CallS.go ?_)))
  k_with "call ref" => ((k_here; k_dflt ((with_reducible show wpAny _ _ (call (Value.ref 140) _) _ _ _); refine CallS.go ?_)))
  k_with "call ref" => ((k_here; k_dflt ((with_reducible show wpAny _ _ (call (Value.ref 196) _) _ _ _); refine CallS.go ?_)))
  k_with "call ref" => ((k_here; k_dflt ((with_reducible show wpAny _ _ (call (Value.ref 189) _) _ _ _); refine CallS.go ?_)))
  k_with "call ref" => ((k_here; k_dflt ((with_reducible show wpAny _ _ (call (Value.ref 168) [Value.int _ _]) _ _ _); (k_dflt (refine' con_same _ ?q9k1 ?q9k2 ?q9k3 ?q9k4 ?q9k5 ?q9kK (word_con _ _ _ _ (And.left (by with_reducible assumption)) (And.right (by with_reducible assumption))) ?q9kd ?q9ku ?_); (case q9k1 => k_asm); (case q9k2 => k_asm); (case q9k3 => k_asm); (case q9k4 => k_asm); (case q9k5 => k_asm); (case q9kK => first | exact rfl | assumption); (case q9kd => exact Nat.le_of_ble_eq_true rfl); (case q9ku => exact Nat.le_of_ble_eq_true rfl); intro _ _ _ p9 _ _; obtain ⟨_, e9⟩ := p9; subst e9; (try dsimp only); (try k_fold)))))
  k_with "execs cons" => ((refine wpAny_execs_cons ?_; refine abs_tk ?_; intro _; k_fold))
  k_with "CompRest" => (k_dflt (refine CrS.go ?_))
  k_with "mine S" => (first | with_reducible exact rfl | with_reducible exact lit_nl)
  k_with "binaryOp Add str str" => ((k_here; k_dflt ((with_reducible show wpAny _ _ (binaryOp .Add (Value.str (S (joinL _)) _) (Value.str _ _)) _ _ _); refine add_eq (by walk_at "mine S") (by walk_at "mine S") (by (simp only [List.length_cons, List.length_nil]; omega)) ?_; intro _ _)))
  k_with "call builtin:str.join" => ((k_here; k_dflt (refine' join_notes ?q9N ?q9m ?q9e ?q9b ?q9l ?_; (case q9N => k_asm); (case q9m => k_mem); (case q9e => with_reducible assumption); (case q9b => with_reducible assumption); (case q9l => with_reducible assumption); intro _ _)))
  k_with "compareOp Eq ref ref" => ((k_here; k_dflt (refine' told_ne_nil ?q9N ?q9m1 ?q9m2 ?q9m3 ?q9h1 ?q9h2 ?q9hu ?_; (case q9N => k_asm); (case q9m1 => k_mem); (case q9m2 => k_mem); (case q9m3 => k_mem); (case q9h1 => with_reducible assumption); (case q9h2 => with_reducible assumption); (case q9hu => exact Nat.le_of_ble_eq_true rfl))))
  k_with "compareOp NotEq ref ref" => ((k_here; k_dflt (refine' told_ne ?q9N ?q9m1 ?q9m2 ?q9m3 ?q9m4 ?q9e rfl ?q9h1 ?q9hu ?_; (case q9N => k_asm); (case q9m1 => k_mem); (case q9m2 => k_mem); (case q9m3 => k_mem); (case q9m4 => k_mem); (case q9e => with_reducible assumption); (case q9h1 => with_reducible assumption); (case q9hu => exact Nat.le_of_ble_eq_true rfl))))
  k_with "ItemsRest" => (k_dflt (refine ItS.go ?_))
  k_with "binaryOp Mod int int" => ((k_here; k_dflt ((with_reducible show wpAny _ _ (binaryOp .Mod (Value.int _ _) (Value.int 3 _)) _ _ _); refine mod3 (by with_reducible assumption) ?_)))
  k_with "subscriptTail Name Name ref int" => ((k_here; k_dflt (refine' item_nums ?q9k1 ?q9k2 ?q9k3 ?q9k4 ?q9k5 ?q9k6 ?_ ?q9k7; (case q9k7 => with_unfolding_all rfl); (case q9k1 => exact News.isList (by k_asm) (by k_mem)); (case q9k2 => exact IntsAre.cons _ _ (.cons _ _ (.cons _ _ (.cons _ _ (.cons _ _ (.cons _ _ (.cons _ _ (.cons _ _ .nil)))))))); (case q9k3 => omega); (case q9k4 => (simp only [List.length_cons, List.length_nil]; omega)); (case q9k5 => (simp only [List.length_cons, List.length_nil]; omega)); (case q9k6 => with_reducible assumption); intro _)))
  k_with "subscriptTail" => ((k_here; k_dflt ((with_reducible show wpAny _ _ (subscriptTail _ _ (Value.str (PySem.Str.ofString "ab") _) (Value.int _ _)) _ _ _); refine item_ab (by with_reducible assumption) ?_)))
  trivial

theorem law_holds : PySem.Challenge.rw_xe0019_01.Holds := hd (by
  k_go0
  rename_i cL cS cA XX TT KK FF NN lz
  have cL2 := cL.trans (rfl : _ = Data.cell none)
  have cS2 := cS.trans (rfl : _ = Data.cell (some (Value.ref _)))
  obtain ⟨m00, F0⟩ : ∃ m, Fr _ _ _ m := ⟨_, FF⟩
  clear cL cS cA FF
  refine bare ?_
  (try k_fold)
  k_steps
  rename IntsAre _ _ => hI
  obtain ⟨n0, n1, n2, n3, n4, n5, n6, n7, i0, i1, i2, i3, i4, i5, i6, i7, rfl, b0, b1, b2, b3, b4, b5, b6, b7⟩ := nums8 hI (fun k => by split <;> first | exact ⟨Int.fmod_nonneg_of_pos _ (by decide), Int.fmod_lt_of_pos _ (by decide)⟩ | exact own_all _)
  clear hI
  rename News _ _ _ _ => N0
  have N1 := asList N0
  clear N0
  refine CallS.un ?_
  (k_dflt (refine' con_same _ ?k1 ?k2 ?k3 ?k4 ?k5 ?kK (file_con _ _ n0 n1 n2 n3 n4 n5 n6 n7 i0 i1 i2 i3 i4 i5 i6 i7 _ (.head _) b0 b1 b2 b3 b4 b5 b6) ?kd ?ku ?_); (case k1 => k_asm); (case k2 => k_asm); (case k3 => k_asm); (case k4 => k_asm); (case k5 => k_asm); (case kK => first | exact rfl | assumption); (case kd => walk_at "mine room"); (case ku => walk_at "mine room"); intro r9 h9 tk9 p9 F9 N9; obtain ⟨t9, e9⟩ := p9; subst e9; (try dsimp only); (try k_fold))
  k_steps
  refine CallS.un ?_
  rename News _ _ _ _ => NB
  have NC := lawL NB
  clear NB
  (refine' con_useP ?k1 ?k2 ?k3 ?k4 ?k5 ?kK (lexer_con _ _ (fileL_len n0 n1 n2 n3 n4 n5 n6) _ _ ?hne) ?kd ?ku ?kP ?_; (case k1 => k_asm); (case k2 => k_asm); (case k3 => k_asm); (case k4 => exact NC); (case k5 => k_asm); (case kK => first | exact rfl | assumption); (case hne => (intro p hp; simp only [List.mem_cons, List.not_mem_nil, or_false] at hp; rcases hp with rfl | rfl | rfl <;> first | k_ne | (dsimp only; omega))); (case kd => walk_at "mine room"); (case ku => walk_at "mine room"); (case kP => exact codeHd); intro r9 ns9 h9 tk9 F9 N9 p9; obtain ⟨Z, tn, vs, n, ps, e9, e9b, ok, hC, hlow⟩ := p9; subst e9 e9b; (try dsimp only))
  have hl3 := low4 hlow
  obtain ⟨x, d, lp, x0, d0, lp0, f, c, D, cell, fo, oc, co, z1, z2, z3, z4, tw, j1, j2, j3, j4, j5, jn, jw⟩ := Z
  have ok0 := ok
  obtain ⟨hr, a1, a2, a3, a4, a5, a6, a7, a8, off, ffn⟩ := ok
  dsimp only at hr a1 a2 a3 a4 a5 a6 a7 a8 off hl3 hlow
  dsimp only [lexL] at N9 ⊢
  have hC := file_start hC
  k_steps
  refine' CrS.inv (TokSt _ ⟨x, d, lp, x0, d0, lp0, f, c, D, cell, fo, oc, co, z1, z2, z3, z4, tw, j1, j2, j3, j4, j5, jn, jw⟩ [n0, n1, n2, n3] [n4, n5, n6] _) ⟨0, 1, _, _, _, by decide, rfl, hC, rfl, .nil⟩ ?turn ?done
  case turn =>
    intro i hi ys news2 hinv v I oI C oC D' m2 h tk E' hP hoC hm2 Fr0 Nw off9 ne9
    obtain ⟨sk, ln, tn, vs, n, hsk, hln, hCs, rfl, hys⟩ := hinv
    obtain ⟨nn, rest, ed, ed2, et, hrl, -, -⟩ := step_at (ns := [n0, n1, n2, n3]) hi
    rw [ed] at hCs
    dsimp only [lexL] at Nw off9
    simp only [LCg.Off3, and_true] at off9
    k_steps
    refine CallS.un ?_
    rename News _ _ _ _ => NT
    rename (@Ne Nat _ _ ∧ _ ∧ _) ∧ _ => offT
    (refine' con_use ?k1 ?k2 ?k3 ?k4 ?k5 ?kK (tokR _ ⟨x, d, lp, x0, d0, lp0, f, c, D, cell, fo, oc, co, z1, z2, z3, z4, tw, j1, j2, j3, j4, j5, jn, jw⟩ ln _ _ _ [(_, _), (_, _), (_, _)] _ (ok_repl ok0) ?hpre sk nn rest [n4, n5, n6] hCs hsk hrl (by simp)) ?kd ?ku ?_; (case k1 => k_asm); (case k2 => k_asm); (case k3 => k_asm); (case k4 => exact NT); (case k5 => k_asm); (case kK => first | exact rfl | assumption); (case hpre => (intro p hp; simp only [List.mem_cons, List.not_mem_nil, or_false] at hp; rcases hp with rfl | rfl | rfl; exact ⟨Ne.symm offT.2.1.1, Ne.symm offT.1.1⟩; exact ⟨Ne.symm offT.2.1.2.1, Ne.symm offT.1.2.1⟩; exact ⟨Ne.symm offT.2.1.2.2, Ne.symm offT.1.2.2⟩)); (case kd => exact Nat.le_of_ble_eq_true rfl); (case ku => exact Nat.le_of_ble_eq_true rfl); intro r9 ns9 h9 tk9 F9 N9 p9; obtain ⟨t1, ln1, tn1, vs1, m1, hC1, hln1, e9, e9b⟩ := p9; subst e9 e9b; dsimp only [lexL, List.cons_append, List.nil_append] at N9)
    clear NT
    k_steps
    exact ⟨pend (kindR nn), ln1, tn1, vs1, m1, pend_le _, by rw [Int.natCast_add]; omega, ed2 ▸ hC1, rfl, strs_more hys et⟩
  case done =>
    intro ys0 news2 hinv
    obtain ⟨sk, ln, tn, vs, n, hsk, hln, hCs, rfl, hys0⟩ := hinv
    dsimp only [lexL]
    k_steps
    refine' CrS.inv (WordSt [n0, n1, n2, n3] _) ⟨rfl, .nil⟩ ?turn ?done
    case turn =>
      intro i hi ys news2 hinv v I oI C oC D' m2 h tk E' hP hoC hm2 Fr0 Nw off9 ne9
      obtain ⟨rfl, hys⟩ := hinv
      obtain ⟨nn, tt, rfl, et, hmem, -⟩ := at_int (ns := [n0, n1, n2, n3]) (ts := [i0, i1, i2, i3]) ((List.getElem?_toArray).symm.trans hP)
      have hbb : 0 ≤ nn ∧ nn < 1000000 := by
        have hb4 : ∀ n ∈ [n0, n1, n2, n3], 0 ≤ n ∧ n < 1000000 := by
          simp only [List.forall_mem_cons]
          exact ⟨b0, b1, b2, b3, by simp⟩
        exact hb4 nn hmem
      simp only [LCg.Off3, and_true] at off9
      k_steps
      exact ⟨rfl, strs_more hys et⟩
    case done =>
      intro ys1 news2 hinv
      obtain ⟨rfl, hys1⟩ := hinv
      have stopHere : StopS True := trivial
      k_steps
      refine StopS.un ?_
      (refine' strs_ne ?N ?m1 ?m2 hys0 hys1 (words_ok n0 n1 n2 n3) ?hr ?_; (case N => k_asm); (case m1 => exact lst_of (by k_mem)); (case m2 => exact lst_of (by k_mem)); (case hr => exact Nat.le_of_ble_eq_true rfl))
      clear stopHere
      k_steps
      rename Fr _ _ _ _ => FL
      rename News _ _ _ _ => NL
      rename (@Ne Nat D _ ∧ @Ne Nat d _ ∧ _) => offR
      have NC := news_sub NL (fun p hp => List.Mem.tail _ (List.Mem.tail _ hp))
      clear NL
      have hln4 : ln + (sk : Int) = 1 + ((4 : Nat) : Int) := hln
      have hl4 : ln + (sk : Int) = ((0 : Nat) : Int) + 5 := by omega
      clear hln4
      have hC4 : CharsAre vs (List.replicate sk 10 ++ tailT [n4, n5, n6]) := hCs
      have hrules : StrsAre ys0 ((List.range 4).map fun i => S (wordL ([n0, n1, n2, n3, n4, n5, n6, n7].getD i 0))) := hys0
      clear hC hCs hln hys0 hys1
      repeat (rename InElt _ _ => zz; clear zz)
      repeat (rename LCg.NsObj _ _ => zz; clear zz)
      repeat (rename (@Ne Nat _ _ ∧ @Ne Nat _ _ ∧ @Ne Nat _ _) ∧ _ => zz; clear zz)
      repeat (rename IsRange _ _ _ _ _ _ _ _ => zz; clear zz)
      w_top off
      refine ForS.un ?_
      refine bare ?_
      (try k_fold)
      refine For_turns FL ?_
      k_steps
      rename_i ax hA NA ltA I ltI
      have hball : ∀ n ∈ [n0, n1, n2, n3, n4, n5, n6, n7], 0 ≤ n ∧ n < 1000000 := by
        simp only [List.forall_mem_cons]
        exact ⟨b0, b1, b2, b3, b4, b5, b6, b7, by simp⟩
      refine' ItS.inv _ (LawSt.init (Z := ⟨x, d, lp, x0, d0, lp0, f, c, D, cell, fo, oc, co, z1, z2, z3, z4, tw, j1, j2, j3, j4, j5, jn, jw⟩) (cs := [n4, n5, n6]) rfl (nxt_lt _) hl4 hsk hC4) ?turn ?done
      case turn =>
        intro i a hia m news hinv v h tk hv Fm
        obtain ⟨nn, p, r, tp, rfl, ep, hi3, edr, edr2, hrl, eget, hn0, hn1⟩ := three (n0 := n0) (n1 := n1) (n2 := n2) (n3 := n3) (n7 := n7) hia b4 b5 b6
        obtain rfl : v = .int p tp := hv
        obtain ⟨q, sk, ln, tnn, vs, n, ts, v1, v2, v3, v4, v5, rfl, rfl, hq, hls, hsk, hln, hCh⟩ := hinv
        rw [edr] at hCh
        refine AllObj.cons (fun it hit => AllObj.nil fun Nt => ?_)
        dsimp only [lexL, List.cons_append, List.nil_append, List.append_eq] at Nt
        clear NA
        refine bare ?_
        (try k_fold)
        rcases fmod3c nn with hm | ⟨c2, hc2, hm, hm2⟩
        · k_steps
          exact LawSt.more (fold6a names6.1 names6.2.1 names6.2.2.1 names6.2.2.2.1 names6.2.2.2.2) hq (sk := sk + 1) (by rw [Int.natCast_add, Int.natCast_add]; omega) (by omega) hln (by rw [edr2, ← tail_skip r hm]; exact hCh)
        · have hne := ne_self [97 + c2]
          k_steps
          refine CallS.un ?_
          rename News _ _ _ _ => NT
          (refine' con_use ?k1 ?k2 ?k3 ?k4 ?k5 ?kK (tokC _ ⟨x, d, lp, x0, d0, lp0, f, c, D, cell, fo, oc, co, z1, z2, z3, z4, tw, j1, j2, j3, j4, j5, jn, jw⟩ ln _ _ _ [(_, _), (_, _), (_, _)] _ (ok_repl ok0) ?hpre sk nn r c2 hCh (by omega) hrl hm hc2) ?kd ?ku ?_; (case k1 => k_asm); (case k2 => k_asm); (case k3 => k_asm); (case k4 => exact NT); (case k5 => k_asm); (case kK => first | exact rfl | assumption); (case hpre => (intro p hp; simp only [List.mem_cons, List.not_mem_nil, or_false] at hp; rcases hp with rfl | rfl | rfl; exact ⟨Nat.ne_of_gt ltI.2.2.2.1, Nat.ne_of_gt ltI.2.2.1⟩; exact ⟨Nat.ne_of_gt ltA.2.2.1, Nat.ne_of_gt ltA.2.1⟩; exact ⟨Ne.symm offR.2.1, Ne.symm offR.1⟩)); (case kd => exact Nat.le_of_ble_eq_true rfl); (case ku => exact Nat.le_of_ble_eq_true rfl); intro r9 ns9 h9 tk9 F9 N9 p9; obtain ⟨tt, lnL, tnL, vsL, nL, hCL, hlnL, e9, e9b⟩ := p9; subst e9 e9b; dsimp only [lexL, List.cons_append, List.nil_append] at N9)
          clear NT
          k_steps
          refine CallS.un ?_
          rename News _ _ _ _ => NT
          (refine' con_use ?k1 ?k2 ?k3 ?k4 ?k5 ?kK (call_all _ _ _ [n0, n1, n2, n3, n4, n5, n6, n7] (.cons _ _ (.cons _ _ (.cons _ _ (.cons _ _ (.cons _ _ (.cons _ _ (.cons _ _ (.cons _ _ .nil)))))))) rfl hball 5 _ [] [] q c2 0 _ _ _ _ _ _ _ ?hnA ?haA .nil rfl okA_nil hq hc2 (Nat.le_refl 0) rfl rfl rfl) ?kd ?ku ?_; (case k1 => k_asm); (case k2 => k_asm); (case k3 => k_asm); (case k4 => exact NT); (case k5 => k_asm); (case kK => first | exact rfl | assumption); (case hnA => first | k_mem | exact lst_of (by k_mem)); (case haA => k_mem); (case kd => exact Nat.le_of_ble_eq_true rfl); (case ku => exact Nat.le_of_ble_eq_true rfl); intro r9 ns9 h9 tk9 F9 N9 p9)
          clear NT
          have hpn := quoted_nxt nn
          have hpl := pend_le (quoted nn)
          have hlnL0 : 0 ≤ lnL := by omega
          have hlnL1 : lnL < 1000 := by omega
          have eln : lnL = p + 2 - ((nxt (nn.fdiv 3) : Nat) : Int) := by omega
          cases hcf : callF [n0, n1, n2, n3, n4, n5, n6, n7] 5 q c2 0 [] with
          | none =>
            rw [hcf] at p9
            obtain ⟨lD, e9, e9b, ltD⟩ := p9
            subst e9 e9b
            (try k_lt ltD)
            k_steps
            refine wpAny_Try_except ?_
            refine bare ?_
            (try k_fold)
            k_steps
            refine CallS.un ?_
            rename News _ _ _ _ => NT
            (refine' con_useX ?k1 ?k2 ?k3 ?k4 ?k5 ?kK (run_con _ _ _ _ [n0, n1, n2, n3, n4, n5, n6, n7] q c2 _ _ _ _ _ ?hr ?hv hq hc2) ?kd ?ku ?ret ?exc; (case k1 => k_asm); (case k2 => k_asm); (case k3 => k_asm); (case k4 => exact NT); (case k5 => k_asm); (case kK => first | exact rfl | assumption); (case hr => (refine lst_of ?_; k_mem)); (case hv => exact hrules); (case kd => exact Nat.le_of_ble_eq_true rfl); (case ku => exact Nat.le_of_ble_eq_true rfl))
            case ret =>
              intro r news' h' tk' F' N' pr
              obtain ⟨_, _, _, _, notes, q', _, hrun, _⟩ := pr
              rw [run_call _ hq hc2, hcf] at hrun
              cases hrun
            case exc =>
              intro e de nw g h' tk' Fg hsm hR pr
              obtain ⟨hrun, hsub, od, td, hod, hI⟩ := pr
              refine caughtX (by k_asm) Fg hsm hR (by k_asm) (by k_asm) ?_
              intro h2 oe tk2 F2 N2 hoe hoed hoef
              have N3 := news_sub N2 (sub_cons hod hsub)
              clear NT N2
              k_steps
              refine StopS.un ?_
              (refine' strE ?X ?F ?N ?m1 ?m2 hoe hoed hoef ?hu ?_; (case X => k_asm); (case F => k_asm); (case N => k_asm); (case m1 => k_mem); (case m2 => k_mem); (case hu => exact Nat.le_of_ble_eq_true rfl))
              rename News _ _ _ _ => NT
              (refine' con_useH ?k1 ?k2 ?k3 ?k4 ?k5 ?kK (str_con _ e de oe od (S [97 + c2]) (by rw [S_len]; simp) lnL ⟨hlnL0, hlnL1⟩ td _ _ _ ?he ?hd hoe hoed hoef hI) ?kd ?ku ?_; (case k1 => k_asm); (case k2 => k_asm); (case k3 => k_asm); (case k4 => exact NT); (case k5 => k_asm); (case kK => first | exact rfl | assumption); (case he => k_mem); (case hd => k_mem); (case kd => exact Nat.le_of_ble_eq_true rfl); (case ku => exact Nat.le_of_ble_eq_true rfl); intro r9 ns9 h9 tk9 F9 N9 p9; obtain ⟨e9, tS, e9b⟩ := p9; subst e9 e9b; dsimp only [StrBack])
              clear NT
              k_steps
              refine nameGoesX (by k_asm) (by k_asm) ?_ rfl rfl
              intro h3 v3 F3 N3
              refine unrRet ?he ?_
              case he => exact errText_eq _ _ _ eln
              k_steps
          | some rs =>
            obtain ⟨pn, pp, ps⟩ := rs
            rw [hcf] at p9
            obtain ⟨lD, nlD, lstD, tpD, tsD, e9, e9b, elD, ltD, ltD2⟩ := p9
            subst e9 e9b
            (try k_lt ltD)
            obtain ⟨epg, hpne, hpn20, hpl20, hpsm, hps, hpg⟩ := told_facts hq hc2 hcf
            subst epg
            have hSt : ∀ q ∈ lstD.map (fun q : PySem.Str × Tok => q.1), PyData.strOk q = true := by
              rw [show lstD.map (fun q : PySem.Str × Tok => q.1) = pn.map S from elD]
              intro q hq
              obtain ⟨M, hM, rfl⟩ := List.mem_map.mp hq
              exact strOk_S (hpsm M hM)
            have hSp : PyData.strOk (S (pg pn)) = true := strOk_S (small_pg hpsm)
            have hPne := page_ne hpne
            have hjl := join_len hpne hpg
            k_steps
            refine wpAny_Try_except ?_
            refine bare ?_
            (try k_fold)
            k_steps
            refine CallS.un ?_
            rename News _ _ _ _ => NT
            (refine' con_useX ?k1 ?k2 ?k3 ?k4 ?k5 ?kK (run_con _ _ _ _ [n0, n1, n2, n3, n4, n5, n6, n7] q c2 _ _ _ _ _ ?hr ?hv hq hc2) ?kd ?ku ?ret ?exc; (case k1 => k_asm); (case k2 => k_asm); (case k3 => k_asm); (case k4 => exact NT); (case k5 => k_asm); (case kK => first | exact rfl | assumption); (case hr => (refine lst_of ?_; k_mem)); (case hv => exact hrules); (case kd => exact Nat.le_of_ble_eq_true rfl); (case ku => exact Nat.le_of_ble_eq_true rfl))
            case exc =>
              intro e de nw g h' tk' Fg hsm hR pr
              obtain ⟨hrun, _⟩ := pr
              rw [run_call _ hq hc2, hcf] at hrun
              cases hrun
            case ret =>
              intro r9 ns9 h9 tk9 F9 N9 pr
              obtain ⟨lT, nlT, lstT, tT, notesT, qT, nT, hrun, e9, e9b, elT, hlen, ltT, ltT2⟩ := pr
              subst e9 e9b
              rw [run_call _ hq hc2, hcf] at hrun
              simp only [Option.map_some, Option.some.injEq, Prod.mk.injEq] at hrun
              obtain ⟨rfl, rfl⟩ := hrun
              have hET : lstT.map (·.1) = lstD.map (·.1) := elT.trans elD.symm
              have hSt2 : ∀ q ∈ lstT.map (fun q : PySem.Str × Tok => q.1), PyData.strOk q = true := by
                rw [show lstT.map (fun q : PySem.Str × Tok => q.1) = lstD.map (fun q : PySem.Str × Tok => q.1) from hET]
                exact hSt
              (try k_lt ltT)
              clear NT
              k_steps
              (refine' endW ?F ?N (LawSt.more (sk := pend (quoted nn)) (ln := lnL) (vs := vsL) ?hm hps (by rw [Int.natCast_add]; omega) (by omega) hlnL0 (by rw [edr2]; exact hCL)) ?hI ?sub ?low ?hk; (case F => k_asm); (case N => k_asm); (case hm => exact fold6b); (case hI => k_mem); (case sub => (intro p hp; repeat (first | exact hp | refine List.Mem.tail _ ?_))); (case low => exact (List.forall_mem_cons.mpr ⟨ltI.1, (List.forall_mem_cons.mpr ⟨ltI.2.1, (List.forall_mem_cons.mpr ⟨ltI.2.2.1, (List.forall_mem_cons.mpr ⟨ltI.2.2.2.1, (List.forall_mem_cons.mpr ⟨ltI.2.2.2.2.1, (List.forall_mem_cons.mpr ⟨ltI.2.2.2.2.2.1, (List.forall_mem_cons.mpr ⟨ltI.2.2.2.2.2.2.1, (List.forall_mem_cons.mpr ⟨ltI.2.2.2.2.2.2.2.1, (List.forall_mem_cons.mpr ⟨ltI.2.2.2.2.2.2.2.2.1, (List.forall_mem_cons.mpr ⟨ltI.2.2.2.2.2.2.2.2.2.1, (List.forall_mem_cons.mpr ⟨ltI.2.2.2.2.2.2.2.2.2.2.1, (List.forall_mem_cons.mpr ⟨ltI.2.2.2.2.2.2.2.2.2.2.2.1, (List.forall_mem_cons.mpr ⟨ltI.2.2.2.2.2.2.2.2.2.2.2.2.1, (List.forall_mem_cons.mpr ⟨ltI.2.2.2.2.2.2.2.2.2.2.2.2.2.1, (List.forall_mem_cons.mpr ⟨ltI.2.2.2.2.2.2.2.2.2.2.2.2.2.2, (List.forall_mem_nil _)⟩)⟩)⟩)⟩)⟩)⟩)⟩)⟩)⟩)⟩)⟩)⟩)⟩)⟩)⟩)); (case hk => exact ⟨.head _, trivial⟩))
      case done =>
        intro m news hinv h tk Fm Nm
        obtain ⟨q, sk, ln, tnn, vs, n, ts, v1, v2, v3, v4, v5, rfl, rfl, hq, hls, hsk, hln, hCh⟩ := hinv
        have hsk4 : sk ≤ 4 := hsk
        have hCe : CharsAre vs (List.replicate sk 10 ++ tailT []) := hCh
        rw [tailT_nil, List.append_nil] at hCe
        have hE : (S [] == PySem.Str.ofString "") = true := by decide +kernel
        have NE := news_sub Nm (fun p hp => List.Mem.tail _ (List.Mem.tail _ hp))
        dsimp only [lexL, List.cons_append, List.nil_append, List.append_eq] at NE
        clear Nm NA
        (try dsimp only)
        k_steps
        refine CallS.un ?_
        rename News _ _ _ _ => NT
        (refine' con_use ?k1 ?k2 ?k3 ?k4 ?k5 ?kK (get_end _ ⟨x, d, lp, x0, d0, lp0, f, c, D, cell, fo, oc, co, z1, z2, z3, z4, tw, j1, j2, j3, j4, j5, jn, jw⟩ ln _ _ _ _ (ok_repl ok0) sk hCe (by omega) ?hno) ?kd ?ku ?_; (case k1 => k_asm); (case k2 => k_asm); (case k3 => k_asm); (case k4 => exact NT); (case k5 => k_asm); (case kK => first | exact rfl | assumption); (case hno => exact List.forall_mem_cons.mpr ⟨hl3.1, List.forall_mem_cons.mpr ⟨hl3.2.1, List.forall_mem_cons.mpr ⟨hl3.2.2.1, List.forall_mem_cons.mpr ⟨hl3.2.2.2, List.forall_mem_nil _⟩⟩⟩⟩); (case kd => exact Nat.le_of_ble_eq_true rfl); (case ku => exact Nat.le_of_ble_eq_true rfl); intro r9 ns9 h9 tk9 F9 N9 p9; obtain ⟨tE, e9, e9b⟩ := p9; subst e9 e9b)
        clear NT
        k_steps)
end
end Mine
set_option maxRecDepth 100000 in
theorem PySem.Challenge.cw_xe0019_01_holds : PySem.Challenge.rw_xe0019_01.Holds := by
  exact Mine.law_holds
